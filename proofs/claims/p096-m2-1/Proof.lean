import JvmDerived
import JvmDerived.Pilot.@@N@@Statement
import JvmDerived.Pilot.@@N@@Code
set_option linter.unusedVariables false
set_option linter.unusedSimpArgs false
namespace Jvm.RoadKit
open Sem ClassFile Op Lib Jvm.Stand Jvm.Free Jvm.LawKit
/-! the goal of a walk, seen from where it stands -/
def own_Go (p : Program) (e : Env) (below : List Frame) (PO : Outcome → State → Prop) (U : State) : Prop :=
  ∃ s₂ o, Steps p.tables e below U s₂ ∧ s₂.status = .running ∧ Ended s₂ below o ∧ PO o s₂
def own_PO (s : State) (Q : Option Value → Heap → List Loc → Prop) (C N : Nat) : Outcome → State → Prop :=
  fun o U' => ∃ v L, o = .returned v ∧ Q v U'.heap L ∧ FrameEnd s o U' L C N
theorem own_back {p : Program} {e : Env} {below : List Frame} {PO : Outcome → State → Prop} {U V : State} (h : own_Go p e below PO V)
    (st : ∀ t, Steps p.tables e below V t → Steps p.tables e below U t) : own_Go p e below PO U := by
  obtain ⟨t, o, h1, h2⟩ := h
  exact ⟨t, o, st t h1, h2⟩
theorem own_gen {A : Type} (x : A) (P : A → Prop) (h : ∀ c, c = x → P c) : P x := h x rfl
section New
variable {p : Program} {l : Launch} {e : Env} {R : Room} {s : State} {m : MethodId} {args : Array Value} {below : List Frame} {meth : Method} {c : Code} {T : State} {locs : List Loc} {cells slots : Nat} {h : Heap}
  {Q : Option Value → Heap → List Loc → Prop} {C N : Nat}
theorem own_end (X : Stand p l e R s m args below meth c T locs cells slots) {v : Option Value} {U : State} (hv : meth.sig.returnType = none → v = none) (eT : T.heap = h) (hk : meth.locks = false)
    (st : ∀ fs, (∀ (f : JFrame) (acts : List Action), f.method = m → f.locked = none → f.entered = [] → (doReturn e (T.setTop f) acts v).1 = T.setFrames fs) → Steps p.tables e below U (T.setFrames fs))
    (hQ : Q v h locs) (hc : cells ≤ C) (hn : slots ≤ N) : own_Go p e below (own_PO s Q C N) U := by
  obtain ⟨fs, hr, hrun, hended, hW, hsame⟩ := X.leave (v := v) hv hk
  subst eT
  exact ⟨_, _, st fs hr, hrun, hended, _, _, rfl, hQ, ⟨_, rfl⟩, hW, hsame.mono hc hn⟩
theorem own_retV (X : Stand p l e R s m args below meth c T locs cells slots) (hx : p.tables.exec = Jvm.exec) {pc : Nat} {Ls : Array Slot} (hret : meth.sig.returnType = none) (hd : decode c.code pc = .ok (.return_, 1))
    (eT : T.heap = h) (hk : meth.locks = false) (hQ : Q none h locs) (hc : cells ≤ C) (hn : slots ≤ N) : own_Go p e below (own_PO s Q C N) (T.setTop (mkF m pc Ls [])) :=
  own_end X (fun _ => rfl) eT hk (fun fs hr => X.returnOut hx hret hd hr) hQ hc hn
theorem own_retI (X : Stand p l e R s m args below meth c T locs cells slots) (hx : p.tables.exec = Jvm.exec) {pc : Nat} {Ls : Array Slot} {z : Int32} {rest : List Value} (hret : meth.sig.returnType = some .int) (hd : decode c.code pc = .ok (.ireturn, 1))
    (eT : T.heap = h) (hk : meth.locks = false) (hQ : Q (some (.int z)) h locs) (hc : cells ≤ C) (hn : slots ≤ N) : own_Go p e below (own_PO s Q C N) (T.setTop (mkF m pc Ls (.int z :: rest))) :=
  own_end X (fun q => by rw [hret] at q; cases q) eT hk (fun fs hr => retOut X hx hret rfl (Or.inl ⟨rfl, Or.inl rfl, z, rfl⟩) hd hr) hQ hc hn
theorem own_retN (X : Stand p l e R s m args below meth c T locs cells slots) (hx : p.tables.exec = Jvm.exec) {pc : Nat} {Ls : Array Slot} {z : Int32} {t : FieldType} {rest : List Value} (hret : meth.sig.returnType = some t) (hz : nar t z = z) (ht : t = .boolean ∨ t = .byte ∨ t = .char ∨ t = .short) (hd : decode c.code pc = .ok (.ireturn, 1))
    (eT : T.heap = h) (hk : meth.locks = false) (hQ : Q (some (.int z)) h locs) (hc : cells ≤ C) (hn : slots ≤ N) : own_Go p e below (own_PO s Q C N) (T.setTop (mkF m pc Ls (.int z :: rest))) :=
  own_end X (fun q => by rw [hret] at q; cases q) eT hk (fun fs hr => retN X hx (t := t) hret ht hd (by rw [hz]; exact hr)) hQ hc hn
theorem own_retJ (X : Stand p l e R s m args below meth c T locs cells slots) (hx : p.tables.exec = Jvm.exec) {pc : Nat} {Ls : Array Slot} {z : Int64} {rest : List Value} (hret : meth.sig.returnType = some .long) (hd : decode c.code pc = .ok (.lreturn, 1))
    (eT : T.heap = h) (hk : meth.locks = false) (hQ : Q (some (.long z)) h locs) (hc : cells ≤ C) (hn : slots ≤ N) : own_Go p e below (own_PO s Q C N) (T.setTop (mkF m pc Ls (.long z :: rest))) :=
  own_end X (fun q => by rw [hret] at q; cases q) eT hk (fun fs hr => retOut X hx hret rfl (Or.inr (Or.inl ⟨rfl, rfl, z, rfl⟩)) hd hr) hQ hc hn
theorem own_retD (X : Stand p l e R s m args below meth c T locs cells slots) (hx : p.tables.exec = Jvm.exec) {pc : Nat} {Ls : Array Slot} {z : UInt64} {rest : List Value} (hret : meth.sig.returnType = some .double) (hd : decode c.code pc = .ok (.dreturn, 1))
    (eT : T.heap = h) (hk : meth.locks = false) (hQ : Q (some (.double z)) h locs) (hc : cells ≤ C) (hn : slots ≤ N) : own_Go p e below (own_PO s Q C N) (T.setTop (mkF m pc Ls (.double z :: rest))) :=
  own_end X (fun q => by rw [hret] at q; cases q) eT hk (fun fs hr => retOut X hx hret rfl (Or.inr (Or.inr (Or.inl ⟨rfl, rfl, z, rfl⟩))) hd hr) hQ hc hn
theorem own_retA (X : Stand p l e R s m args below meth c T locs cells slots) (hx : p.tables.exec = Jvm.exec) {pc : Nat} {Ls : Array Slot} {w : Value} {t : FieldType} {rest : List Value} (hret : meth.sig.returnType = some t) (ht : t.isReference = true) (hw : w.isRef = true) (hd : decode c.code pc = .ok (.areturn, 1))
    (eT : T.heap = h) (hk : meth.locks = false) (hQ : Q (some w) h locs) (hc : cells ≤ C) (hn : slots ≤ N) : own_Go p e below (own_PO s Q C N) (T.setTop (mkF m pc Ls (w :: rest))) :=
  own_end X (fun q => by rw [hret] at q; cases q) eT hk (fun fs hr => retOut X hx hret (by cases t <;> first | (cases ht; done) | (cases w <;> first | (cases hw; done) | rfl)) (Or.inr (Or.inr (Or.inr (Or.inr ⟨rfl, ht, hw⟩)))) hd hr) hQ hc hn
end New
end Jvm.RoadKit
namespace Jvm.RoadKit
open Sem ClassFile Op Lib Jvm.Stand Jvm.Free Jvm.LawKit
section Heap
variable {p : Program} {l : Launch} {e : Env} {R : Room} {s : State} {m : MethodId} {args : Array Value} {below : List Frame} {meth : Method} {c : Code} {T : State} {locs : List Loc} {cells slots : Nat} {h h' : Heap} {Z : State}
  {a : Addr} {k : ClassId} {n : Int32} {vs : List Value} {dv : Value} {ws ws' : List Addr} {C : String}
theorem own_keep_more (K : Keep h h' ws) (q : ∀ x ∈ ws, x ∈ ws') : Keep h h' ws' := ⟨K.1, fun x c hx r => K.2.1 x c hx fun z => r (q x z), K.2.2⟩
theorem own_sta_keep {C n d : String} {v : Value} (F : Sta Z h C n d v) (K : Keep h h' ws) (q : ∀ x ∈ ws, ∀ cell : Cell, h[x]? = some cell → cell.vm.isStatics = false) : Sta Z h' C n d v := by
  obtain ⟨cf, i, kk, f, st, cell, h1, h2, h3, h4, h5, h6, h7⟩ := F
  exact ⟨cf, i, kk, f, st, cell, h1, h2, h3, h4, K.2.1 st cell h5 (fun z => by rw [q st z cell h5] at h6; cases h6), h6, h7⟩
/-- a private method is selected of itself: the class is no interface, as another 'selects' word says -/
theorem own_selpriv {s : State} {args args' : Array Value} {y z w : MethodName} (hs : (Cond.selects y.cls z w).before args' s = true) (hpriv : s.PrivateAt y) (hinst : (Cond.instanceMethod y).before args s = true) (hy : y.cls ≠ "java/lang/invoke/MethodHandle" ∧ y.cls ≠ "java/lang/invoke/VarHandle") (hw : w.cls = y.cls := by rfl) :
    (Cond.selects y.cls y y).before args s = true := by
  obtain ⟨c2, r2, m2, q1, q2, q3, q4, kP, hkP, hkPi⟩ := Cond.selects_spec hs
  have hc := findClass_of_methodNamed q3
  rw [hw] at hc
  exact selects_self_of_private hc hkP hkPi hpriv hinst hy
theorem own_stI (X : Stand p l e R s m args below meth c T locs cells slots) (hx : p.tables.exec = Jvm.exec) (hZ : Z.Warmed39 s.vm) (eT : T.heap = h) (A : Arv Z h a k .int n vs dv) {j x : Int32} (hj : ¬ j < 0 ∧ j < n) {i : Nat} (hi : j.toNatClampNeg = i) (hl : i < vs.length) {g : JFrame} (hg : g.method = m) {rest : List Value} (hs : g.stack = .int x :: .int j :: .ref a :: rest) (hd : decode c.code g.pc = .ok (.iastore, 1)) :
    ∃ T' h', Stand p l e R s m args below meth c T' (locs ++ [⟨a, j.toNatClampNeg⟩]) cells slots ∧ T'.heap = h' ∧ Wr h h' a j.toNatClampNeg (.int x) ∧ Arv Z h' a k .int n (vs.set i (.int x)) dv ∧ ∀ target, Steps p.tables e below (T'.setTop { g with pc := g.pc + 1, stack := rest }) target → Steps p.tables e below (T.setTop g) target := by
  obtain ⟨cl, Ar, q, S, N, H, G⟩ := A
  obtain ⟨T', h', X', e', W, st⟩ := stI X hx hZ eT Ar (inb_of S hj) hg hs hd
  exact ⟨T', h', X', e', W, Arv.set Ar q S N H G rfl W i hi hl, st⟩
theorem own_stJ (X : Stand p l e R s m args below meth c T locs cells slots) (hx : p.tables.exec = Jvm.exec) (hZ : Z.Warmed39 s.vm) (eT : T.heap = h) (A : Arv Z h a k .long n vs dv) {j : Int32} {x : Int64} (hj : ¬ j < 0 ∧ j < n) {i : Nat} (hi : j.toNatClampNeg = i) (hl : i < vs.length) {g : JFrame} (hg : g.method = m) {rest : List Value} (hs : g.stack = .long x :: .int j :: .ref a :: rest) (hd : decode c.code g.pc = .ok (.lastore, 1)) :
    ∃ T' h', Stand p l e R s m args below meth c T' (locs ++ [⟨a, j.toNatClampNeg⟩]) cells slots ∧ T'.heap = h' ∧ Wr h h' a j.toNatClampNeg (.long x) ∧ Arv Z h' a k .long n (vs.set i (.long x)) dv ∧ ∀ target, Steps p.tables e below (T'.setTop { g with pc := g.pc + 1, stack := rest }) target → Steps p.tables e below (T.setTop g) target := by
  obtain ⟨cl, Ar, q, S, N, H, G⟩ := A
  obtain ⟨T', h', X', e', W, st⟩ := stJ X hx hZ eT Ar (inb_of S hj) hg hs hd
  exact ⟨T', h', X', e', W, Arv.set Ar q S N H G rfl W i hi hl, st⟩
theorem own_stD (X : Stand p l e R s m args below meth c T locs cells slots) (hx : p.tables.exec = Jvm.exec) (hZ : Z.Warmed39 s.vm) (eT : T.heap = h) (A : Arv Z h a k .double n vs dv) {j : Int32} {x : UInt64} (hj : ¬ j < 0 ∧ j < n) {i : Nat} (hi : j.toNatClampNeg = i) (hl : i < vs.length) {g : JFrame} (hg : g.method = m) {rest : List Value} (hs : g.stack = .double x :: .int j :: .ref a :: rest) (hd : decode c.code g.pc = .ok (.dastore, 1)) :
    ∃ T' h', Stand p l e R s m args below meth c T' (locs ++ [⟨a, j.toNatClampNeg⟩]) cells slots ∧ T'.heap = h' ∧ Wr h h' a j.toNatClampNeg (.double x) ∧ Arv Z h' a k .double n (vs.set i (.double x)) dv ∧ ∀ target, Steps p.tables e below (T'.setTop { g with pc := g.pc + 1, stack := rest }) target → Steps p.tables e below (T.setTop g) target := by
  obtain ⟨cl, Ar, q, S, N, H, G⟩ := A
  obtain ⟨T', h', X', e', W, st⟩ := stD X hx hZ eT Ar (inb_of S hj) hg hs hd
  exact ⟨T', h', X', e', W, Arv.set Ar q S N H G rfl W i hi hl, st⟩
theorem own_stB (X : Stand p l e R s m args below meth c T locs cells slots) (hx : p.tables.exec = Jvm.exec) (hZ : Z.Warmed39 s.vm) (eT : T.heap = h) (A : Arv Z h a k .byte n vs dv) {j x : Int32} (hj : ¬ j < 0 ∧ j < n) {i : Nat} (hi : j.toNatClampNeg = i) (hl : i < vs.length) {g : JFrame} (hg : g.method = m) {rest : List Value} (hs : g.stack = .int x :: .int j :: .ref a :: rest) (hd : decode c.code g.pc = .ok (.bastore, 1)) :
    ∃ T' h', Stand p l e R s m args below meth c T' (locs ++ [⟨a, j.toNatClampNeg⟩]) cells slots ∧ T'.heap = h' ∧ Wr h h' a j.toNatClampNeg (.int (nar .byte x)) ∧ Arv Z h' a k .byte n (vs.set i (.int (nar .byte x))) dv ∧ ∀ target, Steps p.tables e below (T'.setTop { g with pc := g.pc + 1, stack := rest }) target → Steps p.tables e below (T.setTop g) target := by
  obtain ⟨cl, Ar, q, S, N, H, G⟩ := A
  obtain ⟨T', h', X', e', W, st⟩ := stB X hx hZ eT Ar (inb_of S hj) hg hs hd
  exact ⟨T', h', X', e', W, Arv.set Ar q S N H G (fits_nar_byte x) W i hi hl, st⟩
theorem own_stZ (X : Stand p l e R s m args below meth c T locs cells slots) (hx : p.tables.exec = Jvm.exec) (hZ : Z.Warmed39 s.vm) (eT : T.heap = h) (A : Arv Z h a k .boolean n vs dv) {j x : Int32} (hj : ¬ j < 0 ∧ j < n) {i : Nat} (hi : j.toNatClampNeg = i) (hl : i < vs.length) {g : JFrame} (hg : g.method = m) {rest : List Value} (hs : g.stack = .int x :: .int j :: .ref a :: rest) (hd : decode c.code g.pc = .ok (.bastore, 1)) :
    ∃ T' h', Stand p l e R s m args below meth c T' (locs ++ [⟨a, j.toNatClampNeg⟩]) cells slots ∧ T'.heap = h' ∧ Wr h h' a j.toNatClampNeg (.int (nar .boolean x)) ∧ Arv Z h' a k .boolean n (vs.set i (.int (nar .boolean x))) dv ∧ ∀ target, Steps p.tables e below (T'.setTop { g with pc := g.pc + 1, stack := rest }) target → Steps p.tables e below (T.setTop g) target := by
  obtain ⟨cl, Ar, q, S, N, H, G⟩ := A
  obtain ⟨T', h', X', e', W, st⟩ := stZ X hx hZ eT Ar (inb_of S hj) hg hs hd
  exact ⟨T', h', X', e', W, Arv.set Ar q S N H G (fits_nar_bool x) W i hi hl, st⟩
theorem own_stC (X : Stand p l e R s m args below meth c T locs cells slots) (hx : p.tables.exec = Jvm.exec) (hZ : Z.Warmed39 s.vm) (eT : T.heap = h) (A : Arv Z h a k .char n vs dv) {j x : Int32} (hj : ¬ j < 0 ∧ j < n) {i : Nat} (hi : j.toNatClampNeg = i) (hl : i < vs.length) {g : JFrame} (hg : g.method = m) {rest : List Value} (hs : g.stack = .int x :: .int j :: .ref a :: rest) (hd : decode c.code g.pc = .ok (.castore, 1)) :
    ∃ T' h', Stand p l e R s m args below meth c T' (locs ++ [⟨a, j.toNatClampNeg⟩]) cells slots ∧ T'.heap = h' ∧ Wr h h' a j.toNatClampNeg (.int (nar .char x)) ∧ Arv Z h' a k .char n (vs.set i (.int (nar .char x))) dv ∧ ∀ target, Steps p.tables e below (T'.setTop { g with pc := g.pc + 1, stack := rest }) target → Steps p.tables e below (T.setTop g) target := by
  obtain ⟨cl, Ar, q, S, N, H, G⟩ := A
  obtain ⟨T', h', X', e', W, st⟩ := stC X hx hZ eT Ar (inb_of S hj) hg hs hd
  exact ⟨T', h', X', e', W, Arv.set Ar q S N H G (fits_nar_char x) W i hi hl, st⟩
theorem own_stR (X : Stand p l e R s m args below meth c T locs cells slots) (hx : p.tables.exec = Jvm.exec) (hZ : Z.Warmed39 s.vm) (eT : T.heap = h) (A : Arv Z h a k (.object C) n vs dv) (O : Ovr Z k C) {y : Addr} (I : Ins Z h y C true) {j : Int32} (hj : ¬ j < 0 ∧ j < n) {i : Nat} (hi : j.toNatClampNeg = i) (hl : i < vs.length) {g : JFrame} (hg : g.method = m) {rest : List Value} (hs : g.stack = .ref y :: .int j :: .ref a :: rest) (hd : decode c.code g.pc = .ok (.aastore, 1)) :
    ∃ T' h', Stand p l e R s m args below meth c T' (locs ++ [⟨a, j.toNatClampNeg⟩]) cells slots ∧ T'.heap = h' ∧ Wr h h' a j.toNatClampNeg (.ref y) ∧ Arv Z h' a k (.object C) n (vs.set i (.ref y)) dv ∧ ∀ target, Steps p.tables e below (T'.setTop { g with pc := g.pc + 1, stack := rest }) target → Steps p.tables e below (T.setTop g) target := by
  obtain ⟨cl, Ar, q, S, N, H, G⟩ := A
  obtain ⟨T', h', X', e', W, st⟩ := stR X hx hZ eT Ar (inb_of S hj) rfl (Sto.ofV Ar q O I) hg hs hd
  exact ⟨T', h', X', e', W, Arv.set Ar q S N H G rfl W i hi hl, st⟩
theorem own_ldI (X : Stand p l e R s m args below meth c T locs cells slots) (hx : p.tables.exec = Jvm.exec) (hZ : Z.Warmed39 s.vm) (eT : T.heap = h) (A : Arv Z h a k .int n vs dv) {j : Int32} {v : Value} (hj : ¬ j < 0 ∧ j < n) (hv : vs.getD j.toNatClampNeg dv = v) {g : JFrame} (hg : g.method = m) {rest : List Value} (hs : g.stack = .int j :: .ref a :: rest) (hd : decode c.code g.pc = .ok (.iaload, 1)) :
    ∀ target, Steps p.tables e below (T.setTop { g with pc := g.pc + 1, stack := v :: rest }) target → Steps p.tables e below (T.setTop g) target := by
  obtain ⟨cl, Ar, q, S, N, H, G⟩ := A
  exact fun t k => X.iaload hx (by rw [eT]; exact Ar.1) (State.isArrayOf_alike hZ.alike Ar.2.1) Ar.2.2 (inb_of S hj) (H.at (inb_of S hj) hv) hg hs hd t k
theorem own_ldJ (X : Stand p l e R s m args below meth c T locs cells slots) (hx : p.tables.exec = Jvm.exec) (hZ : Z.Warmed39 s.vm) (eT : T.heap = h) (A : Arv Z h a k .long n vs dv) {j : Int32} {v : Value} (hj : ¬ j < 0 ∧ j < n) (hv : vs.getD j.toNatClampNeg dv = v) {g : JFrame} (hg : g.method = m) {rest : List Value} (hs : g.stack = .int j :: .ref a :: rest) (hd : decode c.code g.pc = .ok (.laload, 1)) :
    ∀ target, Steps p.tables e below (T.setTop { g with pc := g.pc + 1, stack := v :: rest }) target → Steps p.tables e below (T.setTop g) target := by
  obtain ⟨cl, Ar, q, S, N, H, G⟩ := A
  exact fun t k => X.laload hx (by rw [eT]; exact Ar.1) (State.isArrayOf_alike hZ.alike Ar.2.1) Ar.2.2 (inb_of S hj) (H.at (inb_of S hj) hv) hg hs hd t k
theorem own_ldC (X : Stand p l e R s m args below meth c T locs cells slots) (hx : p.tables.exec = Jvm.exec) (hZ : Z.Warmed39 s.vm) (eT : T.heap = h) (A : Arv Z h a k .char n vs dv) {j : Int32} {v : Value} (hj : ¬ j < 0 ∧ j < n) (hv : vs.getD j.toNatClampNeg dv = v) {g : JFrame} (hg : g.method = m) {rest : List Value} (hs : g.stack = .int j :: .ref a :: rest) (hd : decode c.code g.pc = .ok (.caload, 1)) :
    ∀ target, Steps p.tables e below (T.setTop { g with pc := g.pc + 1, stack := v :: rest }) target → Steps p.tables e below (T.setTop g) target := by
  obtain ⟨cl, Ar, q, S, N, H, G⟩ := A
  exact fun t k => X.caload hx (by rw [eT]; exact Ar.1) (State.isArrayOf_alike hZ.alike Ar.2.1) Ar.2.2 (inb_of S hj) (H.at (inb_of S hj) hv) hg hs hd t k
theorem own_ldD (X : Stand p l e R s m args below meth c T locs cells slots) (hx : p.tables.exec = Jvm.exec) (hZ : Z.Warmed39 s.vm) (eT : T.heap = h) (A : Arv Z h a k .double n vs dv) {j : Int32} {v : Value} (hj : ¬ j < 0 ∧ j < n) (hv : vs.getD j.toNatClampNeg dv = v) {g : JFrame} (hg : g.method = m) {rest : List Value} (hs : g.stack = .int j :: .ref a :: rest) (hd : decode c.code g.pc = .ok (.daload, 1)) :
    ∀ target, Steps p.tables e below (T.setTop { g with pc := g.pc + 1, stack := v :: rest }) target → Steps p.tables e below (T.setTop g) target := by
  obtain ⟨cl, Ar, q, S, N, H, G⟩ := A
  exact fun t k => X.daload hx (by rw [eT]; exact Ar.1) (State.isArrayOf_alike hZ.alike Ar.2.1) Ar.2.2 (inb_of S hj) (H.at (inb_of S hj) hv) hg hs hd t k
theorem own_ldB (X : Stand p l e R s m args below meth c T locs cells slots) (hx : p.tables.exec = Jvm.exec) (hZ : Z.Warmed39 s.vm) (eT : T.heap = h) (A : Arv Z h a k .byte n vs dv) {j : Int32} {v : Value} (hj : ¬ j < 0 ∧ j < n) (hv : vs.getD j.toNatClampNeg dv = v) {g : JFrame} (hg : g.method = m) {rest : List Value} (hs : g.stack = .int j :: .ref a :: rest) (hd : decode c.code g.pc = .ok (.baload, 1)) :
    ∀ target, Steps p.tables e below (T.setTop { g with pc := g.pc + 1, stack := v :: rest }) target → Steps p.tables e below (T.setTop g) target := by
  obtain ⟨cl, Ar, q, S, N, H, G⟩ := A
  exact fun t k => X.baloadBytes hx (by rw [eT]; exact Ar.1) (State.isArrayOf_alike hZ.alike Ar.2.1) Ar.2.2 (inb_of S hj) (H.at (inb_of S hj) hv) hg hs hd t k
theorem own_ldR (X : Stand p l e R s m args below meth c T locs cells slots) (hx : p.tables.exec = Jvm.exec) (hZ : Z.Warmed39 s.vm) (eT : T.heap = h) {ty : FieldType} (A : Arv Z h a k ty n vs dv) (hty : ty.isReference = true) {j : Int32} {v : Value} (hj : ¬ j < 0 ∧ j < n) (hv : vs.getD j.toNatClampNeg dv = v) {g : JFrame} (hg : g.method = m) {rest : List Value} (hs : g.stack = .int j :: .ref a :: rest) (hd : decode c.code g.pc = .ok (.aaload, 1)) :
    ∀ target, Steps p.tables e below (T.setTop { g with pc := g.pc + 1, stack := v :: rest }) target → Steps p.tables e below (T.setTop g) target := by
  obtain ⟨cl, Ar, q, S, N, H, G⟩ := A
  exact fun t k => X.aaload hx (by rw [eT]; exact Ar.1) (State.isArrayOf_alike hZ.alike Ar.2.1) hty Ar.2.2 (inb_of S hj) (H.at (inb_of S hj) hv) hg hs hd t k
theorem own_len (X : Stand p l e R s m args below meth c T locs cells slots) (hx : p.tables.exec = Jvm.exec) (hZ : Z.Warmed39 s.vm) (eT : T.heap = h) {ty : FieldType} (A : Arv Z h a k ty n vs dv) {g : JFrame} (hg : g.method = m) {rest : List Value} (hs : g.stack = .ref a :: rest) (hd : decode c.code g.pc = .ok (.arraylength, 1)) :
    ∀ target, Steps p.tables e below (T.setTop { g with pc := g.pc + 1, stack := .int n :: rest }) target → Steps p.tables e below (T.setTop g) target := by
  obtain ⟨cl, Ar, q, S, N, H, G⟩ := A
  intro t kk
  refine X.arraylength hx (by rw [eT]; exact Ar.1) (State.isArrayOf_alike hZ.alike Ar.2.1) hg hs hd t ?_
  rw [len_of S N]; exact kk
end Heap
end Jvm.RoadKit
namespace Jvm.RoadKit
open Sem ClassFile Op Lib Jvm.Stand Jvm.Free Jvm.LawKit
def own_POW (s : State) (Q : Option Value → Heap → List Loc → Prop) (C N : Nat) : Outcome → State → Prop :=
  fun o U' => ∃ v L, o = .returned v ∧ Q v U'.heap L ∧ ReturnedEndW s o U' L C N
section NewW
variable {p : Program} {l : Launch} {e : Env} {R : Room} {s : State} {m : MethodId} {args : Array Value} {below : List Frame} {meth : Method} {c : Code} {T : State} {locs : List Loc} {cells slots : Nat} {h : Heap}
  {Q : Option Value → Heap → List Loc → Prop} {C N : Nat} {vm0 : Vm} {k0 : Nat}
theorem own_endW (X : Stand p l e R (s.setVm vm0) m args below meth c T locs cells slots) {v : Option Value} {U : State} (hv : meth.sig.returnType = none → v = none) (eT : T.heap = h) (hk : meth.locks = false)
    (st : ∀ fs, (∀ (f : JFrame) (acts : List Action), f.method = m → f.locked = none → f.entered = [] → (doReturn e (T.setTop f) acts v).1 = T.setFrames fs) → Steps p.tables e below U (T.setFrames fs))
    (hQ : Q v h locs) (hc : cells ≤ C) (hn : slots ≤ N) (hS : s.Since vm0 k0) (hk0 : k0 ≤ h.size) : own_Go p e below (own_POW s Q C N) U := by
  subst eT
  obtain ⟨fs, hr, hrun, hended, hW⟩ := X.leaveW hS hk0 (v := v) hv hk
  exact ⟨_, _, st fs hr, hrun, hended, _, _, rfl, hQ, hW.1, hW.2.1, hW.2.2.1, hW.2.2.2.mono hc hn⟩
theorem own_retVW (X : Stand p l e R (s.setVm vm0) m args below meth c T locs cells slots) (hx : p.tables.exec = Jvm.exec) {pc : Nat} {Ls : Array Slot} (hret : meth.sig.returnType = none) (hd : decode c.code pc = .ok (.return_, 1))
    (eT : T.heap = h) (hk : meth.locks = false) (hQ : Q none h locs) (hc : cells ≤ C) (hn : slots ≤ N) (hS : s.Since vm0 k0) (hk0 : k0 ≤ h.size) : own_Go p e below (own_POW s Q C N) (T.setTop (mkF m pc Ls [])) :=
  own_endW X (fun _ => rfl) eT hk (fun fs hr => X.returnOut hx hret hd hr) hQ hc hn hS hk0
theorem own_retIW (X : Stand p l e R (s.setVm vm0) m args below meth c T locs cells slots) (hx : p.tables.exec = Jvm.exec) {pc : Nat} {Ls : Array Slot} {z : Int32} {rest : List Value} (hret : meth.sig.returnType = some .int) (hd : decode c.code pc = .ok (.ireturn, 1))
    (eT : T.heap = h) (hk : meth.locks = false) (hQ : Q (some (.int z)) h locs) (hc : cells ≤ C) (hn : slots ≤ N) (hS : s.Since vm0 k0) (hk0 : k0 ≤ h.size) : own_Go p e below (own_POW s Q C N) (T.setTop (mkF m pc Ls (.int z :: rest))) :=
  own_endW X (fun q => by rw [hret] at q; cases q) eT hk (fun fs hr => retOut X hx hret rfl (Or.inl ⟨rfl, Or.inl rfl, z, rfl⟩) hd hr) hQ hc hn hS hk0
theorem own_retNW (X : Stand p l e R (s.setVm vm0) m args below meth c T locs cells slots) (hx : p.tables.exec = Jvm.exec) {pc : Nat} {Ls : Array Slot} {z : Int32} {t : FieldType} {rest : List Value} (hret : meth.sig.returnType = some t) (hz : nar t z = z) (ht : t = .boolean ∨ t = .byte ∨ t = .char ∨ t = .short) (hd : decode c.code pc = .ok (.ireturn, 1))
    (eT : T.heap = h) (hk : meth.locks = false) (hQ : Q (some (.int z)) h locs) (hc : cells ≤ C) (hn : slots ≤ N) (hS : s.Since vm0 k0) (hk0 : k0 ≤ h.size) : own_Go p e below (own_POW s Q C N) (T.setTop (mkF m pc Ls (.int z :: rest))) :=
  own_endW X (fun q => by rw [hret] at q; cases q) eT hk (fun fs hr => retN X hx (t := t) hret ht hd (by rw [hz]; exact hr)) hQ hc hn hS hk0
theorem own_retAW (X : Stand p l e R (s.setVm vm0) m args below meth c T locs cells slots) (hx : p.tables.exec = Jvm.exec) {pc : Nat} {Ls : Array Slot} {w : Value} {t : FieldType} {rest : List Value} (hret : meth.sig.returnType = some t) (ht : t.isReference = true) (hw : w.isRef = true) (hd : decode c.code pc = .ok (.areturn, 1))
    (eT : T.heap = h) (hk : meth.locks = false) (hQ : Q (some w) h locs) (hc : cells ≤ C) (hn : slots ≤ N) (hS : s.Since vm0 k0) (hk0 : k0 ≤ h.size) : own_Go p e below (own_POW s Q C N) (T.setTop (mkF m pc Ls (w :: rest))) :=
  own_endW X (fun q => by rw [hret] at q; cases q) eT hk (fun fs hr => retOut X hx hret (by cases t <;> first | (cases ht; done) | (cases w <;> first | (cases hw; done) | rfl)) (Or.inr (Or.inr (Or.inr (Or.inr ⟨rfl, ht, hw⟩)))) hd hr) hQ hc hn hS hk0
end NewW
end Jvm.RoadKit
namespace Jvm.Pilot.@@N@@
open Jvm Jvm.ClassFile Sem Op Lib Jvm.Free Jvm.Stand Jvm.LawKit Jvm.RoadKit Bundle Jvm.Pilot.@@N@@.Jvm.D
theorem own_wS {Z : State} {a0 : Array Value} (hw : ∀ d ∈ tables_1, d.before a0 Z = true) : ∀ a ∈ Bundle.stringAtoms, a.before a0 Z = true := by
  intro a ha
  simp only [Bundle.stringAtoms, List.mem_cons, List.not_mem_nil, or_false] at ha
  rcases ha with rfl | rfl | rfl | rfl | rfl | rfl | rfl
  · exact (hw _ (List.mem_of_getElem? (i := 36) rfl))
  · exact (hw _ (List.mem_of_getElem? (i := 37) rfl))
  · exact (hw _ (List.mem_of_getElem? (i := 38) rfl))
  · exact (hw _ (List.mem_of_getElem? (i := 39) rfl))
  · exact (hw _ (List.mem_of_getElem? (i := 40) rfl))
  · exact (hw _ (List.mem_of_getElem? (i := 41) rfl))
  · exact (hw _ (List.mem_of_getElem? (i := 42) rfl))

def own_entry (r : Int32) : UInt64 := if (r &&& 3) = 0 then (18442240474082181120 : UInt64) else FP.i2d (r >>> ((2 : Int32) &&& 31))
def own_cmp (u : UInt64) : Int32 := cmpValue (FP.dcmp u (18442240474082181120 : UInt64)) .l
def own_hard (a b c d : UInt64) : Int32 := if own_cmp a = 0 then 1 else if own_cmp b = 0 then 1 else if own_cmp c = 0 then 1 else if own_cmp d = 0 then 1 else 0
theorem own_ent0 {r : Int32} (h : (r &&& 3) = 0) : own_cmp (own_entry r) = 0 := by
  unfold own_entry own_cmp; rw [if_pos h]
  decide +kernel
theorem own_ent1 {r : Int32} (h : ¬ (r &&& 3) = 0) : ¬ own_cmp (own_entry r) = 0 := by
  unfold own_entry own_cmp; rw [if_neg h, dcmp_ninf (Jvm.Free.Fl.i2d_fin _)]
  decide
theorem d4_0 : decode jdk_29_method_28_code 0 = .ok (.iload_n 0, 1) := by decide +kernel
theorem d4_1 : decode jdk_29_method_28_code 1 = .ok (.i2l, 1) := by decide +kernel
theorem d4_2 : decode jdk_29_method_28_code 2 = .ok (.iload_n 1, 1) := by decide +kernel
theorem d4_3 : decode jdk_29_method_28_code 3 = .ok (.i2l, 1) := by decide +kernel
theorem d4_4 : decode jdk_29_method_28_code 4 = .ok (.lmul, 1) := by decide +kernel
theorem d4_5 : decode jdk_29_method_28_code 5 = .ok (.lstore_n 2, 1) := by decide +kernel
theorem d4_6 : decode jdk_29_method_28_code 6 = .ok (.lload_n 2, 1) := by decide +kernel
theorem d4_7 : decode jdk_29_method_28_code 7 = .ok (.l2i, 1) := by decide +kernel
theorem d4_8 : decode jdk_29_method_28_code 8 = .ok (.i2l, 1) := by decide +kernel
theorem d4_9 : decode jdk_29_method_28_code 9 = .ok (.lload_n 2, 1) := by decide +kernel
theorem d4_10 : decode jdk_29_method_28_code 10 = .ok (.lcmp, 1) := by decide +kernel
theorem d4_11 : decode jdk_29_method_28_code 11 = .ok (.ifCond .eq 13, 3) := by decide +kernel
theorem d4_24 : decode jdk_29_method_28_code 24 = .ok (.lload_n 2, 1) := by decide +kernel
theorem d4_25 : decode jdk_29_method_28_code 25 = .ok (.l2i, 1) := by decide +kernel
theorem d4_26 : decode jdk_29_method_28_code 26 = .ok (.ireturn, 1) := by decide +kernel
theorem ef_rmMul_1_4 (m : MethodId) (x0 : Int32) (x1 : Int32) : entryFrame m #[(.int x0), (.int x1)] 4 = mkF m 0 #[.val (.int x0), .val (.int x1), .unset, .unset] [] := by first | (simp [entryFrame, mkF, argsToLocals, Value.category]; done) | rfl
def Q_rmMul_1_4 (h0 : Heap) (n0 : Nat) (v : Option Value) (h : Heap) (L : List Loc) : Prop := v = some (.int 4) ∧ Fr n0 L ∧ h = h0
set_option maxRecDepth 65536 in
set_option maxHeartbeats 40000000 in
theorem rmMul_1_4 (l : Launch) (Z : State) (a0 : Array Value) (hw : ∀ d ∈ tables_1, d.before a0 Z = true) (ws : List Jvm.Cond)   (h0 : Heap) (n0 : Nat) (Z0 : n0 ≤ h0.size)  :
    MetFree l (⟨"java/lang/Math", "multiplyExact", "(II)I"⟩ : MethodName) (head1 (Jvm.Cond.code (⟨"java/lang/Math", "multiplyExact", "(II)I"⟩ : MethodName) jdk_29_method_28_code 4 (some .int) :: ws) ({ frames := 0, cells := 0, slots := 0, locals := 0 } : Room)) (fun a U => a = #[(.int (1 : Int32)), (.int (4 : Int32))] ∧ Z.Warmed39 U.vm ∧ U.heap = h0) (fun _ _ _ _ _ => True) (fun _ U o U' => ∃ v L, o = .returned v ∧ Q_rmMul_1_4 h0 n0 v U'.heap L ∧ FrameEnd U o U' L ({ frames := 0, cells := 0, slots := 0, locals := 0 } : Room).cells ({ frames := 0, cells := 0, slots := 0, locals := 0 } : Room).slots) := by
  refine MetFree.of_bodySF (Jvm.Free.JP.mathPlain rfl (by decide +kernel)) hisR ?_
  intro p e s m args below meth c s₁ Bd hml0 hP hK
  obtain ⟨rfl, hZ, hh⟩ := hP
  have hx := Bd.exec
  have hby := Bd.bytes
  have hml : c.maxLocals = 4 := hml0
  have hown : s.vm.findClass "java/lang/Math" = some m.cls := findClass_of_methodNamed Bd.named
  have hnm := (name_of_methodNamed Bd.named Bd.method).1
  have X0 : Stand p l e ({ frames := 0, cells := 0, slots := 0, locals := 0 } : Room) s m #[(.int (1 : Int32)), (.int (4 : Int32))] below meth c s₁ [] 0 0 := Stand.of_body Bd
  have e0 : s₁.heap = h0 := by rw [← hh, Bd.state]; rfl
  have N0 := Fr.nil n0
  let PO : Outcome → State → Prop := own_PO s (Q_rmMul_1_4 h0 n0) 0 0
  show own_Go p e below PO (s₁.setTop (entryFrame m #[(.int (1 : Int32)), (.int (4 : Int32))] 4))
  rw [ef_rmMul_1_4]
  show own_Go p e below PO (s₁.setTop (mkF m 0 #[.val (.int (1 : Int32)), .val (.int (4 : Int32)), .unset, .unset] []))
  refine own_back ?_ (fun t k => XS.iloadN X0.here hx rfl (hb hby d4_0) rfl k)
  show own_Go p e below PO (s₁.setTop (mkF m 1 #[.val (.int (1 : Int32)), .val (.int (4 : Int32)), .unset, .unset] [(.int (1 : Int32))]))
  refine own_back ?_ (fun t k => XS.i2l X0.here hx rfl (hb hby d4_1) rfl k)
  show own_Go p e below PO (s₁.setTop (mkF m 2 #[.val (.int (1 : Int32)), .val (.int (4 : Int32)), .unset, .unset] [(.long ((1 : Int32).toInt64))]))
  refine own_back ?_ (fun t k => XS.iloadN X0.here hx rfl (hb hby d4_2) rfl k)
  show own_Go p e below PO (s₁.setTop (mkF m 3 #[.val (.int (1 : Int32)), .val (.int (4 : Int32)), .unset, .unset] [(.int (4 : Int32)), (.long ((1 : Int32).toInt64))]))
  refine own_back ?_ (fun t k => XS.i2l X0.here hx rfl (hb hby d4_3) rfl k)
  show own_Go p e below PO (s₁.setTop (mkF m 4 #[.val (.int (1 : Int32)), .val (.int (4 : Int32)), .unset, .unset] [(.long ((4 : Int32).toInt64)), (.long ((1 : Int32).toInt64))]))
  refine own_back ?_ (fun t k => XS.lmul X0.here hx rfl (hb hby d4_4) rfl k)
  show own_Go p e below PO (s₁.setTop (mkF m 5 #[.val (.int (1 : Int32)), .val (.int (4 : Int32)), .unset, .unset] [(.long (((1 : Int32).toInt64) * ((4 : Int32).toInt64)))]))
  refine own_back ?_ (fun t k => XS.lstoreN X0.here hx rfl (hb hby d4_5) rfl (l' := #[.val (.int (1 : Int32)), .val (.int (4 : Int32)), .val (.long (((1 : Int32).toInt64) * ((4 : Int32).toInt64))), .second]) rfl k)
  show own_Go p e below PO (s₁.setTop (mkF m 6 #[.val (.int (1 : Int32)), .val (.int (4 : Int32)), .val (.long (((1 : Int32).toInt64) * ((4 : Int32).toInt64))), .second] []))
  refine own_back ?_ (fun t k => XS.lloadN X0.here hx rfl (hb hby d4_6) rfl k)
  show own_Go p e below PO (s₁.setTop (mkF m 7 #[.val (.int (1 : Int32)), .val (.int (4 : Int32)), .val (.long (((1 : Int32).toInt64) * ((4 : Int32).toInt64))), .second] [(.long (((1 : Int32).toInt64) * ((4 : Int32).toInt64)))]))
  refine own_back ?_ (fun t k => XS.l2i X0.here hx rfl (hb hby d4_7) rfl k)
  show own_Go p e below PO (s₁.setTop (mkF m 8 #[.val (.int (1 : Int32)), .val (.int (4 : Int32)), .val (.long (((1 : Int32).toInt64) * ((4 : Int32).toInt64))), .second] [(.int ((((1 : Int32).toInt64) * ((4 : Int32).toInt64)).toInt32))]))
  refine own_back ?_ (fun t k => XS.i2l X0.here hx rfl (hb hby d4_8) rfl k)
  show own_Go p e below PO (s₁.setTop (mkF m 9 #[.val (.int (1 : Int32)), .val (.int (4 : Int32)), .val (.long (((1 : Int32).toInt64) * ((4 : Int32).toInt64))), .second] [(.long (((((1 : Int32).toInt64) * ((4 : Int32).toInt64)).toInt32).toInt64))]))
  refine own_back ?_ (fun t k => XS.lloadN X0.here hx rfl (hb hby d4_9) rfl k)
  show own_Go p e below PO (s₁.setTop (mkF m 10 #[.val (.int (1 : Int32)), .val (.int (4 : Int32)), .val (.long (((1 : Int32).toInt64) * ((4 : Int32).toInt64))), .second] [(.long (((1 : Int32).toInt64) * ((4 : Int32).toInt64))), (.long (((((1 : Int32).toInt64) * ((4 : Int32).toInt64)).toInt32).toInt64))]))
  refine own_back ?_ (fun t k => XS.lcmp X0.here hx rfl (hb hby d4_10) rfl k)
  show own_Go p e below PO (s₁.setTop (mkF m 11 #[.val (.int (1 : Int32)), .val (.int (4 : Int32)), .val (.long (((1 : Int32).toInt64) * ((4 : Int32).toInt64))), .second] [(.int (lcmpW (((((1 : Int32).toInt64) * ((4 : Int32).toInt64)).toInt32).toInt64) (((1 : Int32).toInt64) * ((4 : Int32).toInt64))))]))
  have hd11_1 : (((((1 : Int32).toInt64) * ((4 : Int32).toInt64)).toInt32).toInt64) = (((1 : Int32).toInt64) * ((4 : Int32).toInt64)) := (by decide)
  refine own_back ?_ (fun t k => XS.ifYes X0.here hx rfl (pc0 := 11) (pc' := 24) rfl (hb hby d4_11) rfl ((if0 _ _).trans (teq ((lw_eq _ _).mpr hd11_1)).1) (by decide) (by decide) k)
  show own_Go p e below PO (s₁.setTop (mkF m 24 #[.val (.int (1 : Int32)), .val (.int (4 : Int32)), .val (.long (((1 : Int32).toInt64) * ((4 : Int32).toInt64))), .second] []))
  refine own_back ?_ (fun t k => XS.lloadN X0.here hx rfl (hb hby d4_24) rfl k)
  show own_Go p e below PO (s₁.setTop (mkF m 25 #[.val (.int (1 : Int32)), .val (.int (4 : Int32)), .val (.long (((1 : Int32).toInt64) * ((4 : Int32).toInt64))), .second] [(.long (((1 : Int32).toInt64) * ((4 : Int32).toInt64)))]))
  refine own_back ?_ (fun t k => XS.l2i X0.here hx rfl (hb hby d4_25) rfl k)
  show own_Go p e below PO (s₁.setTop (mkF m 26 #[.val (.int (1 : Int32)), .val (.int (4 : Int32)), .val (.long (((1 : Int32).toInt64) * ((4 : Int32).toInt64))), .second] [(.int ((((1 : Int32).toInt64) * ((4 : Int32).toInt64)).toInt32))]))
  refine own_retI X0 hx (rest := []) Bd.returns (hb hby d4_26) e0 (Bd.notSynchronized) ?_ (by decide) (by decide)
  exact ⟨by decide, N0, rfl⟩
theorem ef_rmMul_1_2 (m : MethodId) (x0 : Int32) (x1 : Int32) : entryFrame m #[(.int x0), (.int x1)] 4 = mkF m 0 #[.val (.int x0), .val (.int x1), .unset, .unset] [] := by first | (simp [entryFrame, mkF, argsToLocals, Value.category]; done) | rfl
def Q_rmMul_1_2 (h0 : Heap) (n0 : Nat) (v : Option Value) (h : Heap) (L : List Loc) : Prop := v = some (.int 2) ∧ Fr n0 L ∧ h = h0
set_option maxRecDepth 65536 in
set_option maxHeartbeats 40000000 in
theorem rmMul_1_2 (l : Launch) (Z : State) (a0 : Array Value) (hw : ∀ d ∈ tables_1, d.before a0 Z = true) (ws : List Jvm.Cond)   (h0 : Heap) (n0 : Nat) (Z0 : n0 ≤ h0.size)  :
    MetFree l (⟨"java/lang/Math", "multiplyExact", "(II)I"⟩ : MethodName) (head1 (Jvm.Cond.code (⟨"java/lang/Math", "multiplyExact", "(II)I"⟩ : MethodName) jdk_29_method_28_code 4 (some .int) :: ws) ({ frames := 0, cells := 0, slots := 0, locals := 0 } : Room)) (fun a U => a = #[(.int (1 : Int32)), (.int (2 : Int32))] ∧ Z.Warmed39 U.vm ∧ U.heap = h0) (fun _ _ _ _ _ => True) (fun _ U o U' => ∃ v L, o = .returned v ∧ Q_rmMul_1_2 h0 n0 v U'.heap L ∧ FrameEnd U o U' L ({ frames := 0, cells := 0, slots := 0, locals := 0 } : Room).cells ({ frames := 0, cells := 0, slots := 0, locals := 0 } : Room).slots) := by
  refine MetFree.of_bodySF (Jvm.Free.JP.mathPlain rfl (by decide +kernel)) hisR ?_
  intro p e s m args below meth c s₁ Bd hml0 hP hK
  obtain ⟨rfl, hZ, hh⟩ := hP
  have hx := Bd.exec
  have hby := Bd.bytes
  have hml : c.maxLocals = 4 := hml0
  have hown : s.vm.findClass "java/lang/Math" = some m.cls := findClass_of_methodNamed Bd.named
  have hnm := (name_of_methodNamed Bd.named Bd.method).1
  have X0 : Stand p l e ({ frames := 0, cells := 0, slots := 0, locals := 0 } : Room) s m #[(.int (1 : Int32)), (.int (2 : Int32))] below meth c s₁ [] 0 0 := Stand.of_body Bd
  have e0 : s₁.heap = h0 := by rw [← hh, Bd.state]; rfl
  have N0 := Fr.nil n0
  let PO : Outcome → State → Prop := own_PO s (Q_rmMul_1_2 h0 n0) 0 0
  show own_Go p e below PO (s₁.setTop (entryFrame m #[(.int (1 : Int32)), (.int (2 : Int32))] 4))
  rw [ef_rmMul_1_2]
  show own_Go p e below PO (s₁.setTop (mkF m 0 #[.val (.int (1 : Int32)), .val (.int (2 : Int32)), .unset, .unset] []))
  refine own_back ?_ (fun t k => XS.iloadN X0.here hx rfl (hb hby d4_0) rfl k)
  show own_Go p e below PO (s₁.setTop (mkF m 1 #[.val (.int (1 : Int32)), .val (.int (2 : Int32)), .unset, .unset] [(.int (1 : Int32))]))
  refine own_back ?_ (fun t k => XS.i2l X0.here hx rfl (hb hby d4_1) rfl k)
  show own_Go p e below PO (s₁.setTop (mkF m 2 #[.val (.int (1 : Int32)), .val (.int (2 : Int32)), .unset, .unset] [(.long ((1 : Int32).toInt64))]))
  refine own_back ?_ (fun t k => XS.iloadN X0.here hx rfl (hb hby d4_2) rfl k)
  show own_Go p e below PO (s₁.setTop (mkF m 3 #[.val (.int (1 : Int32)), .val (.int (2 : Int32)), .unset, .unset] [(.int (2 : Int32)), (.long ((1 : Int32).toInt64))]))
  refine own_back ?_ (fun t k => XS.i2l X0.here hx rfl (hb hby d4_3) rfl k)
  show own_Go p e below PO (s₁.setTop (mkF m 4 #[.val (.int (1 : Int32)), .val (.int (2 : Int32)), .unset, .unset] [(.long ((2 : Int32).toInt64)), (.long ((1 : Int32).toInt64))]))
  refine own_back ?_ (fun t k => XS.lmul X0.here hx rfl (hb hby d4_4) rfl k)
  show own_Go p e below PO (s₁.setTop (mkF m 5 #[.val (.int (1 : Int32)), .val (.int (2 : Int32)), .unset, .unset] [(.long (((1 : Int32).toInt64) * ((2 : Int32).toInt64)))]))
  refine own_back ?_ (fun t k => XS.lstoreN X0.here hx rfl (hb hby d4_5) rfl (l' := #[.val (.int (1 : Int32)), .val (.int (2 : Int32)), .val (.long (((1 : Int32).toInt64) * ((2 : Int32).toInt64))), .second]) rfl k)
  show own_Go p e below PO (s₁.setTop (mkF m 6 #[.val (.int (1 : Int32)), .val (.int (2 : Int32)), .val (.long (((1 : Int32).toInt64) * ((2 : Int32).toInt64))), .second] []))
  refine own_back ?_ (fun t k => XS.lloadN X0.here hx rfl (hb hby d4_6) rfl k)
  show own_Go p e below PO (s₁.setTop (mkF m 7 #[.val (.int (1 : Int32)), .val (.int (2 : Int32)), .val (.long (((1 : Int32).toInt64) * ((2 : Int32).toInt64))), .second] [(.long (((1 : Int32).toInt64) * ((2 : Int32).toInt64)))]))
  refine own_back ?_ (fun t k => XS.l2i X0.here hx rfl (hb hby d4_7) rfl k)
  show own_Go p e below PO (s₁.setTop (mkF m 8 #[.val (.int (1 : Int32)), .val (.int (2 : Int32)), .val (.long (((1 : Int32).toInt64) * ((2 : Int32).toInt64))), .second] [(.int ((((1 : Int32).toInt64) * ((2 : Int32).toInt64)).toInt32))]))
  refine own_back ?_ (fun t k => XS.i2l X0.here hx rfl (hb hby d4_8) rfl k)
  show own_Go p e below PO (s₁.setTop (mkF m 9 #[.val (.int (1 : Int32)), .val (.int (2 : Int32)), .val (.long (((1 : Int32).toInt64) * ((2 : Int32).toInt64))), .second] [(.long (((((1 : Int32).toInt64) * ((2 : Int32).toInt64)).toInt32).toInt64))]))
  refine own_back ?_ (fun t k => XS.lloadN X0.here hx rfl (hb hby d4_9) rfl k)
  show own_Go p e below PO (s₁.setTop (mkF m 10 #[.val (.int (1 : Int32)), .val (.int (2 : Int32)), .val (.long (((1 : Int32).toInt64) * ((2 : Int32).toInt64))), .second] [(.long (((1 : Int32).toInt64) * ((2 : Int32).toInt64))), (.long (((((1 : Int32).toInt64) * ((2 : Int32).toInt64)).toInt32).toInt64))]))
  refine own_back ?_ (fun t k => XS.lcmp X0.here hx rfl (hb hby d4_10) rfl k)
  show own_Go p e below PO (s₁.setTop (mkF m 11 #[.val (.int (1 : Int32)), .val (.int (2 : Int32)), .val (.long (((1 : Int32).toInt64) * ((2 : Int32).toInt64))), .second] [(.int (lcmpW (((((1 : Int32).toInt64) * ((2 : Int32).toInt64)).toInt32).toInt64) (((1 : Int32).toInt64) * ((2 : Int32).toInt64))))]))
  have hd11_1 : (((((1 : Int32).toInt64) * ((2 : Int32).toInt64)).toInt32).toInt64) = (((1 : Int32).toInt64) * ((2 : Int32).toInt64)) := (by decide)
  refine own_back ?_ (fun t k => XS.ifYes X0.here hx rfl (pc0 := 11) (pc' := 24) rfl (hb hby d4_11) rfl ((if0 _ _).trans (teq ((lw_eq _ _).mpr hd11_1)).1) (by decide) (by decide) k)
  show own_Go p e below PO (s₁.setTop (mkF m 24 #[.val (.int (1 : Int32)), .val (.int (2 : Int32)), .val (.long (((1 : Int32).toInt64) * ((2 : Int32).toInt64))), .second] []))
  refine own_back ?_ (fun t k => XS.lloadN X0.here hx rfl (hb hby d4_24) rfl k)
  show own_Go p e below PO (s₁.setTop (mkF m 25 #[.val (.int (1 : Int32)), .val (.int (2 : Int32)), .val (.long (((1 : Int32).toInt64) * ((2 : Int32).toInt64))), .second] [(.long (((1 : Int32).toInt64) * ((2 : Int32).toInt64)))]))
  refine own_back ?_ (fun t k => XS.l2i X0.here hx rfl (hb hby d4_25) rfl k)
  show own_Go p e below PO (s₁.setTop (mkF m 26 #[.val (.int (1 : Int32)), .val (.int (2 : Int32)), .val (.long (((1 : Int32).toInt64) * ((2 : Int32).toInt64))), .second] [(.int ((((1 : Int32).toInt64) * ((2 : Int32).toInt64)).toInt32))]))
  refine own_retI X0 hx (rest := []) Bd.returns (hb hby d4_26) e0 (Bd.notSynchronized) ?_ (by decide) (by decide)
  exact ⟨by decide, N0, rfl⟩
theorem ef_rmMul_2_2 (m : MethodId) (x0 : Int32) (x1 : Int32) : entryFrame m #[(.int x0), (.int x1)] 4 = mkF m 0 #[.val (.int x0), .val (.int x1), .unset, .unset] [] := by first | (simp [entryFrame, mkF, argsToLocals, Value.category]; done) | rfl
def Q_rmMul_2_2 (h0 : Heap) (n0 : Nat) (v : Option Value) (h : Heap) (L : List Loc) : Prop := v = some (.int 4) ∧ Fr n0 L ∧ h = h0
set_option maxRecDepth 65536 in
set_option maxHeartbeats 40000000 in
theorem rmMul_2_2 (l : Launch) (Z : State) (a0 : Array Value) (hw : ∀ d ∈ tables_1, d.before a0 Z = true) (ws : List Jvm.Cond)   (h0 : Heap) (n0 : Nat) (Z0 : n0 ≤ h0.size)  :
    MetFree l (⟨"java/lang/Math", "multiplyExact", "(II)I"⟩ : MethodName) (head1 (Jvm.Cond.code (⟨"java/lang/Math", "multiplyExact", "(II)I"⟩ : MethodName) jdk_29_method_28_code 4 (some .int) :: ws) ({ frames := 0, cells := 0, slots := 0, locals := 0 } : Room)) (fun a U => a = #[(.int (2 : Int32)), (.int (2 : Int32))] ∧ Z.Warmed39 U.vm ∧ U.heap = h0) (fun _ _ _ _ _ => True) (fun _ U o U' => ∃ v L, o = .returned v ∧ Q_rmMul_2_2 h0 n0 v U'.heap L ∧ FrameEnd U o U' L ({ frames := 0, cells := 0, slots := 0, locals := 0 } : Room).cells ({ frames := 0, cells := 0, slots := 0, locals := 0 } : Room).slots) := by
  refine MetFree.of_bodySF (Jvm.Free.JP.mathPlain rfl (by decide +kernel)) hisR ?_
  intro p e s m args below meth c s₁ Bd hml0 hP hK
  obtain ⟨rfl, hZ, hh⟩ := hP
  have hx := Bd.exec
  have hby := Bd.bytes
  have hml : c.maxLocals = 4 := hml0
  have hown : s.vm.findClass "java/lang/Math" = some m.cls := findClass_of_methodNamed Bd.named
  have hnm := (name_of_methodNamed Bd.named Bd.method).1
  have X0 : Stand p l e ({ frames := 0, cells := 0, slots := 0, locals := 0 } : Room) s m #[(.int (2 : Int32)), (.int (2 : Int32))] below meth c s₁ [] 0 0 := Stand.of_body Bd
  have e0 : s₁.heap = h0 := by rw [← hh, Bd.state]; rfl
  have N0 := Fr.nil n0
  let PO : Outcome → State → Prop := own_PO s (Q_rmMul_2_2 h0 n0) 0 0
  show own_Go p e below PO (s₁.setTop (entryFrame m #[(.int (2 : Int32)), (.int (2 : Int32))] 4))
  rw [ef_rmMul_2_2]
  show own_Go p e below PO (s₁.setTop (mkF m 0 #[.val (.int (2 : Int32)), .val (.int (2 : Int32)), .unset, .unset] []))
  refine own_back ?_ (fun t k => XS.iloadN X0.here hx rfl (hb hby d4_0) rfl k)
  show own_Go p e below PO (s₁.setTop (mkF m 1 #[.val (.int (2 : Int32)), .val (.int (2 : Int32)), .unset, .unset] [(.int (2 : Int32))]))
  refine own_back ?_ (fun t k => XS.i2l X0.here hx rfl (hb hby d4_1) rfl k)
  show own_Go p e below PO (s₁.setTop (mkF m 2 #[.val (.int (2 : Int32)), .val (.int (2 : Int32)), .unset, .unset] [(.long ((2 : Int32).toInt64))]))
  refine own_back ?_ (fun t k => XS.iloadN X0.here hx rfl (hb hby d4_2) rfl k)
  show own_Go p e below PO (s₁.setTop (mkF m 3 #[.val (.int (2 : Int32)), .val (.int (2 : Int32)), .unset, .unset] [(.int (2 : Int32)), (.long ((2 : Int32).toInt64))]))
  refine own_back ?_ (fun t k => XS.i2l X0.here hx rfl (hb hby d4_3) rfl k)
  show own_Go p e below PO (s₁.setTop (mkF m 4 #[.val (.int (2 : Int32)), .val (.int (2 : Int32)), .unset, .unset] [(.long ((2 : Int32).toInt64)), (.long ((2 : Int32).toInt64))]))
  refine own_back ?_ (fun t k => XS.lmul X0.here hx rfl (hb hby d4_4) rfl k)
  show own_Go p e below PO (s₁.setTop (mkF m 5 #[.val (.int (2 : Int32)), .val (.int (2 : Int32)), .unset, .unset] [(.long (((2 : Int32).toInt64) * ((2 : Int32).toInt64)))]))
  refine own_back ?_ (fun t k => XS.lstoreN X0.here hx rfl (hb hby d4_5) rfl (l' := #[.val (.int (2 : Int32)), .val (.int (2 : Int32)), .val (.long (((2 : Int32).toInt64) * ((2 : Int32).toInt64))), .second]) rfl k)
  show own_Go p e below PO (s₁.setTop (mkF m 6 #[.val (.int (2 : Int32)), .val (.int (2 : Int32)), .val (.long (((2 : Int32).toInt64) * ((2 : Int32).toInt64))), .second] []))
  refine own_back ?_ (fun t k => XS.lloadN X0.here hx rfl (hb hby d4_6) rfl k)
  show own_Go p e below PO (s₁.setTop (mkF m 7 #[.val (.int (2 : Int32)), .val (.int (2 : Int32)), .val (.long (((2 : Int32).toInt64) * ((2 : Int32).toInt64))), .second] [(.long (((2 : Int32).toInt64) * ((2 : Int32).toInt64)))]))
  refine own_back ?_ (fun t k => XS.l2i X0.here hx rfl (hb hby d4_7) rfl k)
  show own_Go p e below PO (s₁.setTop (mkF m 8 #[.val (.int (2 : Int32)), .val (.int (2 : Int32)), .val (.long (((2 : Int32).toInt64) * ((2 : Int32).toInt64))), .second] [(.int ((((2 : Int32).toInt64) * ((2 : Int32).toInt64)).toInt32))]))
  refine own_back ?_ (fun t k => XS.i2l X0.here hx rfl (hb hby d4_8) rfl k)
  show own_Go p e below PO (s₁.setTop (mkF m 9 #[.val (.int (2 : Int32)), .val (.int (2 : Int32)), .val (.long (((2 : Int32).toInt64) * ((2 : Int32).toInt64))), .second] [(.long (((((2 : Int32).toInt64) * ((2 : Int32).toInt64)).toInt32).toInt64))]))
  refine own_back ?_ (fun t k => XS.lloadN X0.here hx rfl (hb hby d4_9) rfl k)
  show own_Go p e below PO (s₁.setTop (mkF m 10 #[.val (.int (2 : Int32)), .val (.int (2 : Int32)), .val (.long (((2 : Int32).toInt64) * ((2 : Int32).toInt64))), .second] [(.long (((2 : Int32).toInt64) * ((2 : Int32).toInt64))), (.long (((((2 : Int32).toInt64) * ((2 : Int32).toInt64)).toInt32).toInt64))]))
  refine own_back ?_ (fun t k => XS.lcmp X0.here hx rfl (hb hby d4_10) rfl k)
  show own_Go p e below PO (s₁.setTop (mkF m 11 #[.val (.int (2 : Int32)), .val (.int (2 : Int32)), .val (.long (((2 : Int32).toInt64) * ((2 : Int32).toInt64))), .second] [(.int (lcmpW (((((2 : Int32).toInt64) * ((2 : Int32).toInt64)).toInt32).toInt64) (((2 : Int32).toInt64) * ((2 : Int32).toInt64))))]))
  have hd11_1 : (((((2 : Int32).toInt64) * ((2 : Int32).toInt64)).toInt32).toInt64) = (((2 : Int32).toInt64) * ((2 : Int32).toInt64)) := (by decide)
  refine own_back ?_ (fun t k => XS.ifYes X0.here hx rfl (pc0 := 11) (pc' := 24) rfl (hb hby d4_11) rfl ((if0 _ _).trans (teq ((lw_eq _ _).mpr hd11_1)).1) (by decide) (by decide) k)
  show own_Go p e below PO (s₁.setTop (mkF m 24 #[.val (.int (2 : Int32)), .val (.int (2 : Int32)), .val (.long (((2 : Int32).toInt64) * ((2 : Int32).toInt64))), .second] []))
  refine own_back ?_ (fun t k => XS.lloadN X0.here hx rfl (hb hby d4_24) rfl k)
  show own_Go p e below PO (s₁.setTop (mkF m 25 #[.val (.int (2 : Int32)), .val (.int (2 : Int32)), .val (.long (((2 : Int32).toInt64) * ((2 : Int32).toInt64))), .second] [(.long (((2 : Int32).toInt64) * ((2 : Int32).toInt64)))]))
  refine own_back ?_ (fun t k => XS.l2i X0.here hx rfl (hb hby d4_25) rfl k)
  show own_Go p e below PO (s₁.setTop (mkF m 26 #[.val (.int (2 : Int32)), .val (.int (2 : Int32)), .val (.long (((2 : Int32).toInt64) * ((2 : Int32).toInt64))), .second] [(.int ((((2 : Int32).toInt64) * ((2 : Int32).toInt64)).toInt32))]))
  refine own_retI X0 hx (rest := []) Bd.returns (hb hby d4_26) e0 (Bd.notSynchronized) ?_ (by decide) (by decide)
  exact ⟨by decide, N0, rfl⟩
theorem d5_0 : decode prog_2_method_2_code 0 = .ok (.aload_n 0, 1) := by decide +kernel
theorem d5_1 : decode prog_2_method_2_code 1 = .ok (.arraylength, 1) := by decide +kernel
theorem d5_2 : decode prog_2_method_2_code 2 = .ok (.iload_n 1, 1) := by decide +kernel
theorem d5_3 : decode prog_2_method_2_code 3 = .ok (.if_icmp .eq 20, 3) := by decide +kernel
theorem d5_23 : decode prog_2_method_2_code 23 = .ok (.aload_n 0, 1) := by decide +kernel
theorem d5_24 : decode prog_2_method_2_code 24 = .ok (.invokevirtual 59, 3) := by decide +kernel
theorem d5_27 : decode prog_2_method_2_code 27 = .ok (.checkcast 60, 3) := by decide +kernel
theorem d5_30 : decode prog_2_method_2_code 30 = .ok (.areturn, 1) := by decide +kernel
theorem pn_0 : plainName "com/example/nearbound/nearbound/dcop/Constraint" = true := by first | (simp [plainName, overriddenIn]; done) | decide +kernel
theorem ef_rmTab (m : MethodId) (x0 : Addr) (x1 : Int32) (x2 : Addr) : entryFrame m #[(.ref x0), (.int x1), (.ref x2)] 3 = mkF m 0 #[.val (.ref x0), .val (.int x1), .val (.ref x2)] [] := by first | (simp [entryFrame, mkF, argsToLocals, Value.category]; done) | rfl
def Q_rmTab (Z : State) (kR : ClassId) (u0 u1 u2 u3 : UInt64) (h0 : Heap) (n0 : Nat) (v : Option Value) (h : Heap) (L : List Loc) : Prop := ∃ aN : Addr, v = some (.ref aN) ∧ Fr n0 L ∧ Keep h0 h [] ∧ h0.size ≤ aN ∧ Exa Z h aN "[D" ∧ Arv Z h aN kR .double (4 : Int32) [(.double u0), (.double u1), (.double u2), (.double u3)] (.double (0 : UInt64))
set_option maxRecDepth 65536 in
set_option maxHeartbeats 40000000 in
theorem rmTab (l : Launch) (Z : State) (a0 : Array Value) (hw : ∀ d ∈ tables_1, d.before a0 Z = true) (ws : List Jvm.Cond) (aR : Addr) (aM : Addr) (kR : ClassId) (u0 u1 u2 u3 : UInt64) (h0 : Heap) (n0 : Nat) (Z0 : n0 ≤ h0.size) (E_R : Exa Z h0 aR "[D") (V_R : Arv Z h0 aR kR .double (4 : Int32) [(.double u0), (.double u1), (.double u2), (.double u3)] (.double (0 : UInt64))) :
    MetFree l (⟨"com/example/nearbound/nearbound/dcop/Constraint", "checkTable", "([DILjava/lang/String;)[D"⟩ : MethodName) (head1 (Jvm.Cond.code (⟨"com/example/nearbound/nearbound/dcop/Constraint", "checkTable", "([DILjava/lang/String;)[D"⟩ : MethodName) prog_2_method_2_code 3 (some (.array .double)) :: ws) ({ frames := 1, cells := 1, slots := 4, locals := 14 } : Room)) (fun a U => a = #[(.ref aR), (.int (4 : Int32)), (.ref aM)] ∧ Z.Warmed39 U.vm ∧ U.heap = h0) (fun _ _ _ _ _ => True) (fun _ U o U' => ∃ v L, o = .returned v ∧ Q_rmTab Z kR u0 u1 u2 u3 h0 n0 v U'.heap L ∧ FrameEnd U o U' L ({ frames := 1, cells := 1, slots := 4, locals := 14 } : Room).cells ({ frames := 1, cells := 1, slots := 4, locals := 14 } : Room).slots) := by
  refine MetFree.of_bodySF (plainFor_of_name pn_0) hisR ?_
  intro p e s m args below meth c s₁ Bd hml0 hP hK
  obtain ⟨rfl, hZ, hh⟩ := hP
  have hx := Bd.exec
  have hby := Bd.bytes
  have hml : c.maxLocals = 3 := hml0
  have hown : s.vm.findClass "com/example/nearbound/nearbound/dcop/Constraint" = some m.cls := findClass_of_methodNamed Bd.named
  have hnm := (name_of_methodNamed Bd.named Bd.method).1
  have X0 : Stand p l e ({ frames := 1, cells := 1, slots := 4, locals := 14 } : Room) s m #[(.ref aR), (.int (4 : Int32)), (.ref aM)] below meth c s₁ [] 0 0 := Stand.of_body Bd
  have e0 : s₁.heap = h0 := by rw [← hh, Bd.state]; rfl
  have N0 := Fr.nil n0
  let PO : Outcome → State → Prop := own_PO s (Q_rmTab Z kR u0 u1 u2 u3 h0 n0) 1 4
  show own_Go p e below PO (s₁.setTop (entryFrame m #[(.ref aR), (.int (4 : Int32)), (.ref aM)] 3))
  rw [ef_rmTab]
  show own_Go p e below PO (s₁.setTop (mkF m 0 #[.val (.ref aR), .val (.int (4 : Int32)), .val (.ref aM)] []))
  refine own_back ?_ (fun t k => XS.aloadN X0.here hx rfl (hb hby d5_0) rfl rfl k)
  show own_Go p e below PO (s₁.setTop (mkF m 1 #[.val (.ref aR), .val (.int (4 : Int32)), .val (.ref aM)] [(.ref aR)]))
  refine own_back ?_ (own_len X0 hx hZ e0 V_R (g := (mkF m 1 #[.val (.ref aR), .val (.int (4 : Int32)), .val (.ref aM)] [(.ref aR)])) rfl rfl (hb hby d5_1))
  show own_Go p e below PO (s₁.setTop (mkF m 2 #[.val (.ref aR), .val (.int (4 : Int32)), .val (.ref aM)] [(.int (4 : Int32))]))
  refine own_back ?_ (fun t k => XS.iloadN X0.here hx rfl (hb hby d5_2) rfl k)
  show own_Go p e below PO (s₁.setTop (mkF m 3 #[.val (.ref aR), .val (.int (4 : Int32)), .val (.ref aM)] [(.int (4 : Int32)), (.int (4 : Int32))]))
  refine own_back ?_ (fun t k => XS.icmpYes X0.here hx rfl (pc0 := 3) (pc' := 23) rfl (hb hby d5_3) rfl (teq rfl).1 (by decide) (by decide) k)
  show own_Go p e below PO (s₁.setTop (mkF m 23 #[.val (.ref aR), .val (.int (4 : Int32)), .val (.ref aM)] []))
  refine own_back ?_ (fun t k => XS.aloadN X0.here hx rfl (hb hby d5_23) rfl rfl k)
  show own_Go p e below PO (s₁.setTop (mkF m 24 #[.val (.ref aR), .val (.int (4 : Int32)), .val (.ref aM)] [(.ref aR)]))
  obtain ⟨T1, h1, X1, e1, E1, A1, Ex1, st1⟩ := cloneH X0 hx hZ hown (hw _ (List.mem_of_getElem? (i := 46) rfl)) (hw _ (List.mem_of_getElem? (i := 47) rfl)) (hw _ (List.mem_of_getElem? (i := 21) rfl)) (hw _ (List.mem_of_getElem? (i := 19) rfl)) (hw _ (List.mem_of_getElem? (i := 48) rfl)) (hw _ (List.mem_of_getElem? (i := 49) rfl)) e0 (V_R).arh E_R (g := (mkF m 24 #[.val (.ref aR), .val (.int (4 : Int32)), .val (.ref aM)] [(.ref aR)])) rfl (by rw [hml]; rfl) rfl (hb hby d5_24) (by decide) (W := 0) (by show 2 * 0 + _ ≤ _; exact Nat.le_of_eq rfl) (by decide) (cap := 4) (by decide) (by decide) (by decide)
  obtain ⟨b1, g1⟩ : ∃ z, z = h0.size := ⟨_, rfl⟩
  rw [← g1] at A1 Ex1 st1
  have ne_aR_b1 : aR ≠ b1 := Nat.ne_of_lt (Nat.lt_of_lt_of_le V_R.lt (Nat.le_of_eq g1.symm))
  have sz_b1 : h0.size ≤ b1 := Nat.le_of_eq g1.symm
  have gn_b1 : n0 ≤ b1 := Nat.le_trans Z0 sz_b1
  have K1 : Keep h0 h1 [] := (Keep.refl h0 []).ext E1
  have Zh1 : n0 ≤ h1.size := Nat.le_trans Z0 K1.1
  have V1 : Arv Z h1 b1 kR .double (4 : Int32) [(.double u0), (.double u1), (.double u2), (.double u3)] (.double (0 : UInt64)) := A1
  refine own_back ?_ st1
  show own_Go p e below PO (T1.setTop (mkF m 27 #[.val (.ref aR), .val (.int (4 : Int32)), .val (.ref aM)] [(.ref b1)]))
  obtain ⟨T2, X2, e2, st2⟩ := castY X1 hx hZ hown (hw _ (List.mem_of_getElem? (i := 50) rfl)) e1 (Ins.self Ex1) (g := (mkF m 27 #[.val (.ref aR), .val (.int (4 : Int32)), .val (.ref aM)] [(.ref b1)])) rfl rfl (hb hby d5_27)
  refine own_back ?_ st2
  show own_Go p e below PO (T2.setTop (mkF m 30 #[.val (.ref aR), .val (.int (4 : Int32)), .val (.ref aM)] [(.ref b1)]))
  refine own_retA X2 hx (w := (.ref b1)) (rest := []) Bd.returns rfl rfl (hb hby d5_30) e2 (Bd.notSynchronized) ?_ (by decide) (by decide)
  exact ⟨b1, rfl, N0, K1, sz_b1, Ex1, V1⟩
theorem d1_0 : decode method_2_code 0 = .ok (.iload_n 0, 1) := by decide +kernel
theorem d1_1 : decode method_2_code 1 = .ok (.iconst 3, 1) := by decide +kernel
theorem d1_2 : decode method_2_code 2 = .ok (.iand, 1) := by decide +kernel
theorem d1_3 : decode method_2_code 3 = .ok (.ifCond .ne 7, 3) := by decide +kernel
theorem d1_6 : decode method_2_code 6 = .ok (.ldc2_w 9, 3) := by decide +kernel
theorem d1_9 : decode method_2_code 9 = .ok (.dreturn, 1) := by decide +kernel
theorem d1_10 : decode method_2_code 10 = .ok (.iload_n 0, 1) := by decide +kernel
theorem d1_11 : decode method_2_code 11 = .ok (.iconst 2, 1) := by decide +kernel
theorem d1_12 : decode method_2_code 12 = .ok (.ishr, 1) := by decide +kernel
theorem d1_13 : decode method_2_code 13 = .ok (.i2d, 1) := by decide +kernel
theorem d1_14 : decode method_2_code 14 = .ok (.dreturn, 1) := by decide +kernel
theorem pn_1 : plainName "com/example/nearbound/nearbound/dcop/ConstraintIsHardPinLaw" = true := by first | (simp [plainName, overriddenIn]; done) | decide +kernel
theorem ef_rm1 (m : MethodId) (x0 : Int32) : entryFrame m #[(.int x0)] 1 = mkF m 0 #[.val (.int x0)] [] := by first | (simp [entryFrame, mkF, argsToLocals, Value.category]; done) | rfl
def Q_rm1 (pR : Int32) (h0 : Heap) (n0 : Nat) (v : Option Value) (h : Heap) (L : List Loc) : Prop := v = some (.double (own_entry pR)) ∧ Fr n0 L ∧ h = h0
set_option maxRecDepth 65536 in
set_option maxHeartbeats 40000000 in
theorem rm1 (l : Launch) (Z : State) (a0 : Array Value) (hw : ∀ d ∈ tables_1, d.before a0 Z = true) (ws : List Jvm.Cond) (pR : Int32)  (h0 : Heap) (n0 : Nat) (Z0 : n0 ≤ h0.size)  :
    MetFree l (⟨"com/example/nearbound/nearbound/dcop/ConstraintIsHardPinLaw", "entry", "(I)D"⟩ : MethodName) (head1 (Jvm.Cond.code (⟨"com/example/nearbound/nearbound/dcop/ConstraintIsHardPinLaw", "entry", "(I)D"⟩ : MethodName) method_2_code 1 (some .double) :: ws) ({ frames := 0, cells := 0, slots := 0, locals := 0 } : Room)) (fun a U => a = #[(.int pR)] ∧ Z.Warmed39 U.vm ∧ U.heap = h0) (fun _ _ _ _ _ => True) (fun _ U o U' => ∃ v L, o = .returned v ∧ Q_rm1 pR h0 n0 v U'.heap L ∧ FrameEnd U o U' L ({ frames := 0, cells := 0, slots := 0, locals := 0 } : Room).cells ({ frames := 0, cells := 0, slots := 0, locals := 0 } : Room).slots) := by
  refine MetFree.of_bodySF (plainFor_of_name pn_1) hisR ?_
  intro p e s m args below meth c s₁ Bd hml0 hP hK
  obtain ⟨rfl, hZ, hh⟩ := hP
  have hx := Bd.exec
  have hby := Bd.bytes
  have hml : c.maxLocals = 1 := hml0
  have hown : s.vm.findClass "com/example/nearbound/nearbound/dcop/ConstraintIsHardPinLaw" = some m.cls := findClass_of_methodNamed Bd.named
  have hnm := (name_of_methodNamed Bd.named Bd.method).1
  have X0 : Stand p l e ({ frames := 0, cells := 0, slots := 0, locals := 0 } : Room) s m #[(.int pR)] below meth c s₁ [] 0 0 := Stand.of_body Bd
  have e0 : s₁.heap = h0 := by rw [← hh, Bd.state]; rfl
  have N0 := Fr.nil n0
  let PO : Outcome → State → Prop := own_PO s (Q_rm1 pR h0 n0) 0 0
  show own_Go p e below PO (s₁.setTop (entryFrame m #[(.int pR)] 1))
  rw [ef_rm1]
  show own_Go p e below PO (s₁.setTop (mkF m 0 #[.val (.int pR)] []))
  refine own_back ?_ (fun t k => XS.iloadN X0.here hx rfl (hb hby d1_0) rfl k)
  show own_Go p e below PO (s₁.setTop (mkF m 1 #[.val (.int pR)] [(.int pR)]))
  refine own_back ?_ (fun t k => XS.iconst X0.here hx rfl (hb hby d1_1) k)
  show own_Go p e below PO (s₁.setTop (mkF m 2 #[.val (.int pR)] [(.int (3 : Int32)), (.int pR)]))
  refine own_back ?_ (fun t k => XS.iand X0.here hx rfl (hb hby d1_2) rfl k)
  show own_Go p e below PO (s₁.setTop (mkF m 3 #[.val (.int pR)] [(.int (pR &&& (3 : Int32)))]))
  by_cases hc3_1 : (pR &&& (3 : Int32)) = (0 : Int32)
  case pos =>
    refine own_back ?_ (fun t k => XS.ifNo X0.here hx rfl (hb hby d1_3) rfl ((if0 _ _).trans (teq hc3_1).2) k)
    show own_Go p e below PO (s₁.setTop (mkF m 6 #[.val (.int pR)] []))
    refine own_back ?_ (fun t k => X0.ldc2DoubleC hx hown (mvT hZ (hw _ (List.mem_of_getElem? (i := 5) rfl))) (g := (mkF m 6 #[.val (.int pR)] [])) rfl (hb hby d1_6) _ k)
    show own_Go p e below PO (s₁.setTop (mkF m 9 #[.val (.int pR)] [(.double (18442240474082181120 : UInt64))]))
    refine own_retD X0 hx (rest := []) Bd.returns (hb hby d1_9) e0 (Bd.notSynchronized) ?_ (by decide) (by decide)
    exact ⟨by simp only [own_entry, hc3_1, if_true, if_false], N0, rfl⟩
  refine own_back ?_ (fun t k => XS.ifYes X0.here hx rfl (pc0 := 3) (pc' := 10) rfl (hb hby d1_3) rfl ((if0 _ _).trans (feq hc3_1).2) (by decide) (by decide) k)
  show own_Go p e below PO (s₁.setTop (mkF m 10 #[.val (.int pR)] []))
  refine own_back ?_ (fun t k => XS.iloadN X0.here hx rfl (hb hby d1_10) rfl k)
  show own_Go p e below PO (s₁.setTop (mkF m 11 #[.val (.int pR)] [(.int pR)]))
  refine own_back ?_ (fun t k => XS.iconst X0.here hx rfl (hb hby d1_11) k)
  show own_Go p e below PO (s₁.setTop (mkF m 12 #[.val (.int pR)] [(.int (2 : Int32)), (.int pR)]))
  refine own_back ?_ (fun t k => XS.ishr X0.here hx rfl (hb hby d1_12) rfl k)
  show own_Go p e below PO (s₁.setTop (mkF m 13 #[.val (.int pR)] [(.int (pR >>> ((2 : Int32) &&& 31)))]))
  refine own_back ?_ (fun t k => XS.i2dS X0.here hx rfl (v := (FP.i2d (pR >>> ((2 : Int32) &&& 31)))) (hb hby d1_13) rfl rfl k)
  show own_Go p e below PO (s₁.setTop (mkF m 14 #[.val (.int pR)] [(.double (FP.i2d (pR >>> ((2 : Int32) &&& 31))))]))
  refine own_retD X0 hx (rest := []) Bd.returns (hb hby d1_14) e0 (Bd.notSynchronized) ?_ (by decide) (by decide)
  exact ⟨by simp only [own_entry, hc3_1, if_true, if_false], N0, rfl⟩
theorem pd_0 : parseMethodDescriptor "(II)I" = some ⟨[.int, .int], some .int⟩ := by decide +kernel
theorem pd_1 : parseMethodDescriptor "([DILjava/lang/String;)[D" = some ⟨[(.array .double), .int, (.object "java/lang/String")], some (.array .double)⟩ := by decide +kernel
theorem d2_0 : decode prog_2_method_1_code 0 = .ok (.aload_n 0, 1) := by decide +kernel
theorem d2_1 : decode prog_2_method_1_code 1 = .ok (.invokespecial 3, 3) := by decide +kernel
theorem d2_4 : decode prog_2_method_1_code 4 = .ok (.aload_n 1, 1) := by decide +kernel
theorem d2_5 : decode prog_2_method_1_code 5 = .ok (.arraylength, 1) := by decide +kernel
theorem d2_6 : decode prog_2_method_1_code 6 = .ok (.ifCond .eq 10, 3) := by decide +kernel
theorem d2_9 : decode prog_2_method_1_code 9 = .ok (.aload_n 1, 1) := by decide +kernel
theorem d2_10 : decode prog_2_method_1_code 10 = .ok (.arraylength, 1) := by decide +kernel
theorem d2_11 : decode prog_2_method_1_code 11 = .ok (.aload_n 2, 1) := by decide +kernel
theorem d2_12 : decode prog_2_method_1_code 12 = .ok (.arraylength, 1) := by decide +kernel
theorem d2_13 : decode prog_2_method_1_code 13 = .ok (.if_icmp .eq 13, 3) := by decide +kernel
theorem d2_26 : decode prog_2_method_1_code 26 = .ok (.aload_n 0, 1) := by decide +kernel
theorem d2_27 : decode prog_2_method_1_code 27 = .ok (.aload_n 1, 1) := by decide +kernel
theorem d2_28 : decode prog_2_method_1_code 28 = .ok (.invokevirtual 16, 3) := by decide +kernel
theorem d2_31 : decode prog_2_method_1_code 31 = .ok (.checkcast 17, 3) := by decide +kernel
theorem d2_34 : decode prog_2_method_1_code 34 = .ok (.putfield 22, 3) := by decide +kernel
theorem d2_37 : decode prog_2_method_1_code 37 = .ok (.aload_n 0, 1) := by decide +kernel
theorem d2_38 : decode prog_2_method_1_code 38 = .ok (.aload_n 2, 1) := by decide +kernel
theorem d2_39 : decode prog_2_method_1_code 39 = .ok (.invokevirtual 16, 3) := by decide +kernel
theorem d2_42 : decode prog_2_method_1_code 42 = .ok (.checkcast 17, 3) := by decide +kernel
theorem d2_45 : decode prog_2_method_1_code 45 = .ok (.putfield 27, 3) := by decide +kernel
theorem d2_48 : decode prog_2_method_1_code 48 = .ok (.aload_n 0, 1) := by decide +kernel
theorem d2_49 : decode prog_2_method_1_code 49 = .ok (.aload_n 1, 1) := by decide +kernel
theorem d2_50 : decode prog_2_method_1_code 50 = .ok (.arraylength, 1) := by decide +kernel
theorem d2_51 : decode prog_2_method_1_code 51 = .ok (.newarray .int, 2) := by decide +kernel
theorem d2_53 : decode prog_2_method_1_code 53 = .ok (.putfield 30, 3) := by decide +kernel
theorem d2_56 : decode prog_2_method_1_code 56 = .ok (.iconst 1, 1) := by decide +kernel
theorem d2_57 : decode prog_2_method_1_code 57 = .ok (.istore 5, 2) := by decide +kernel
theorem d2_59 : decode prog_2_method_1_code 59 = .ok (.aload_n 1, 1) := by decide +kernel
theorem d2_60 : decode prog_2_method_1_code 60 = .ok (.arraylength, 1) := by decide +kernel
theorem d2_61 : decode prog_2_method_1_code 61 = .ok (.iconst 1, 1) := by decide +kernel
theorem d2_62 : decode prog_2_method_1_code 62 = .ok (.isub, 1) := by decide +kernel
theorem d2_63 : decode prog_2_method_1_code 63 = .ok (.istore 6, 2) := by decide +kernel
theorem d2_65 : decode prog_2_method_1_code 65 = .ok (.iload 6, 2) := by decide +kernel
theorem d2_67 : decode prog_2_method_1_code 67 = .ok (.ifCond .lt 29, 3) := by decide +kernel
theorem d2_70 : decode prog_2_method_1_code 70 = .ok (.aload_n 0, 1) := by decide +kernel
theorem d2_71 : decode prog_2_method_1_code 71 = .ok (.getfield 30, 3) := by decide +kernel
theorem d2_74 : decode prog_2_method_1_code 74 = .ok (.iload 6, 2) := by decide +kernel
theorem d2_76 : decode prog_2_method_1_code 76 = .ok (.iload 5, 2) := by decide +kernel
theorem d2_78 : decode prog_2_method_1_code 78 = .ok (.iastore, 1) := by decide +kernel
theorem d2_79 : decode prog_2_method_1_code 79 = .ok (.iload 5, 2) := by decide +kernel
theorem d2_81 : decode prog_2_method_1_code 81 = .ok (.aload_n 2, 1) := by decide +kernel
theorem d2_82 : decode prog_2_method_1_code 82 = .ok (.iload 6, 2) := by decide +kernel
theorem d2_84 : decode prog_2_method_1_code 84 = .ok (.iaload, 1) := by decide +kernel
theorem d2_85 : decode prog_2_method_1_code 85 = .ok (.invokestatic 33, 3) := by decide +kernel
theorem d2_88 : decode prog_2_method_1_code 88 = .ok (.istore 5, 2) := by decide +kernel
theorem d2_90 : decode prog_2_method_1_code 90 = .ok (.iinc 6 (-1), 3) := by decide +kernel
theorem d2_93 : decode prog_2_method_1_code 93 = .ok (.goto (-28), 3) := by decide +kernel
theorem d2_96 : decode prog_2_method_1_code 96 = .ok (.aload_n 0, 1) := by decide +kernel
theorem d2_97 : decode prog_2_method_1_code 97 = .ok (.aload_n 3, 1) := by decide +kernel
theorem d2_98 : decode prog_2_method_1_code 98 = .ok (.iload 5, 2) := by decide +kernel
theorem d2_100 : decode prog_2_method_1_code 100 = .ok (.ldc 39, 2) := by decide +kernel
theorem d2_102 : decode prog_2_method_1_code 102 = .ok (.invokestatic 41, 3) := by decide +kernel
theorem d2_105 : decode prog_2_method_1_code 105 = .ok (.putfield 45, 3) := by decide +kernel
theorem d2_108 : decode prog_2_method_1_code 108 = .ok (.aload 4, 2) := by decide +kernel
theorem d2_110 : decode prog_2_method_1_code 110 = .ok (.ifnull 24, 3) := by decide +kernel
theorem d2_134 : decode prog_2_method_1_code 134 = .ok (.aload_n 0, 1) := by decide +kernel
theorem d2_135 : decode prog_2_method_1_code 135 = .ok (.aload 4, 2) := by decide +kernel
theorem d2_137 : decode prog_2_method_1_code 137 = .ok (.ifnonnull 7, 3) := by decide +kernel
theorem d2_140 : decode prog_2_method_1_code 140 = .ok (.aconst_null, 1) := by decide +kernel
theorem d2_141 : decode prog_2_method_1_code 141 = .ok (.goto 12, 3) := by decide +kernel
theorem d2_153 : decode prog_2_method_1_code 153 = .ok (.putfield 54, 3) := by decide +kernel
theorem d2_156 : decode prog_2_method_1_code 156 = .ok (.return_, 1) := by decide +kernel
theorem ef_rmI_a (m : MethodId) (x0 : Addr) (x1 : Addr) (x2 : Addr) (x3 : Addr) : entryFrame m #[(.ref x0), (.ref x1), (.ref x2), (.ref x3), .null] 7 = mkF m 0 #[.val (.ref x0), .val (.ref x1), .val (.ref x2), .val (.ref x3), .val .null, .unset, .unset] [] := by first | (simp [entryFrame, mkF, argsToLocals, Value.category]; done) | rfl
def Q_rmI_a (Z : State) (aT : Addr) (kR : ClassId) (u0 u1 u2 u3 : UInt64) (h0 : Heap) (n0 : Nat) (v : Option Value) (h : Heap) (L : List Loc) : Prop := v = none ∧ Fr n0 L ∧ Keep h0 h [aT] ∧ ∃ aN : Addr, h0.size ≤ aN ∧ Fld Z h aT "com/example/nearbound/nearbound/dcop/Constraint" "rewards" "[D" (.ref aN) ∧ Arv Z h aN kR .double (4 : Int32) [(.double u0), (.double u1), (.double u2), (.double u3)] (.double (0 : UInt64))
set_option maxRecDepth 65536 in
set_option maxHeartbeats 40000000 in
theorem rmI_a (l : Launch) (Z : State) (a0 : Array Value) (hw : ∀ d ∈ tables_1, d.before a0 Z = true) (ws : List Jvm.Cond) (aT : Addr) (aA : Addr) (aB : Addr) (aR : Addr) (kA kB kR kC : ClassId) (u0 u1 u2 u3 : UInt64) (h0 : Heap) (n0 : Nat) (Z0 : n0 ≤ h0.size) (E_T : Exa Z h0 aT "com/example/nearbound/nearbound/dcop/Constraint") (F_scope : Fld Z h0 aT "com/example/nearbound/nearbound/dcop/Constraint" "scope" "[I" .null) (F_sizes : Fld Z h0 aT "com/example/nearbound/nearbound/dcop/Constraint" "sizes" "[I" .null) (F_strides : Fld Z h0 aT "com/example/nearbound/nearbound/dcop/Constraint" "strides" "[I" .null) (F_rewards : Fld Z h0 aT "com/example/nearbound/nearbound/dcop/Constraint" "rewards" "[D" .null) (F_costs : Fld Z h0 aT "com/example/nearbound/nearbound/dcop/Constraint" "costs" "[D" .null) (E_A : Exa Z h0 aA "[I") (V_A : Arv Z h0 aA kA .int (1 : Int32) [(.int (0 : Int32))] (.int (0 : Int32))) (nA : aA ≠ aT) (E_B : Exa Z h0 aB "[I") (V_B : Arv Z h0 aB kB .int (1 : Int32) [(.int (4 : Int32))] (.int (0 : Int32))) (nB : aB ≠ aT) (E_R : Exa Z h0 aR "[D") (V_R : Arv Z h0 aR kR .double (4 : Int32) [(.double u0), (.double u1), (.double u2), (.double u3)] (.double (0 : UInt64))) (nR : aR ≠ aT) (gn_aT : n0 ≤ aT) :
    MetFree l (⟨"com/example/nearbound/nearbound/dcop/Constraint", "<init>", "([I[I[D[D)V"⟩ : MethodName) (head1 (Jvm.Cond.code (⟨"com/example/nearbound/nearbound/dcop/Constraint", "<init>", "([I[I[D[D)V"⟩ : MethodName) prog_2_method_1_code 7 none :: ws) ({ frames := 2, cells := 6, slots := 39, locals := 29 } : Room)) (fun a U => a = #[(.ref aT), (.ref aA), (.ref aB), (.ref aR), .null] ∧ Z.Warmed39 U.vm ∧ U.heap = h0) (fun _ _ _ _ _ => True) (fun _ U o U' => ∃ v L, o = .returned v ∧ Q_rmI_a Z aT kR u0 u1 u2 u3 h0 n0 v U'.heap L ∧ ReturnedEndW U o U' L ({ frames := 2, cells := 6, slots := 39, locals := 29 } : Room).cells ({ frames := 2, cells := 6, slots := 39, locals := 29 } : Room).slots) := by
  refine MetFree.of_bodySF (plainFor_of_name pn_0) hisR ?_
  intro p e s m args below meth c s₁ Bd hml0 hP hK
  obtain ⟨rfl, hZ, hh⟩ := hP
  have hx := Bd.exec
  have hby := Bd.bytes
  have hml : c.maxLocals = 7 := hml0
  have hown : s.vm.findClass "com/example/nearbound/nearbound/dcop/Constraint" = some m.cls := findClass_of_methodNamed Bd.named
  have hnm := (name_of_methodNamed Bd.named Bd.method).1
  have X0 : Stand p l e ({ frames := 2, cells := 6, slots := 39, locals := 29 } : Room) s m #[(.ref aT), (.ref aA), (.ref aB), (.ref aR), .null] below meth c s₁ [] 0 0 := Stand.of_body Bd
  have e0 : s₁.heap = h0 := by rw [← hh, Bd.state]; rfl
  have N0 := Fr.nil n0
  have hS0 : s.Since s.vm 0 := (State.WarmedH.refl s).since 0
  let PO : Outcome → State → Prop := own_POW s (Q_rmI_a Z aT kR u0 u1 u2 u3 h0 n0) 6 39
  show own_Go p e below PO (s₁.setTop (entryFrame m #[(.ref aT), (.ref aA), (.ref aB), (.ref aR), .null] 7))
  rw [ef_rmI_a]
  show own_Go p e below PO (s₁.setTop (mkF m 0 #[.val (.ref aT), .val (.ref aA), .val (.ref aB), .val (.ref aR), .val .null, .unset, .unset] []))
  refine own_back ?_ (fun t k => XS.aloadN X0.here hx rfl (hb hby d2_0) rfl rfl k)
  show own_Go p e below PO (s₁.setTop (mkF m 1 #[.val (.ref aT), .val (.ref aA), .val (.ref aB), .val (.ref aR), .val .null, .unset, .unset] [(.ref aT)]))
  obtain ⟨T1, X1, e1, st1⟩ := initO X0 hx hZ hown (hw _ (List.mem_of_getElem? (i := 13) rfl)) (hw _ (List.mem_of_getElem? (i := 14) rfl)) (hw _ (List.mem_of_getElem? (i := 15) rfl)) e0 (g := (mkF m 1 #[.val (.ref aT), .val (.ref aA), .val (.ref aB), .val (.ref aR), .val .null, .unset, .unset] [(.ref aT)])) rfl (by rw [hml]; rfl) rfl (hb hby d2_1) (by decide) (W := 0) (by show 2 * 0 + _ ≤ _; exact Nat.le_of_eq rfl) (by decide)
  refine own_back ?_ st1
  show own_Go p e below PO (T1.setTop (mkF m 4 #[.val (.ref aT), .val (.ref aA), .val (.ref aB), .val (.ref aR), .val .null, .unset, .unset] []))
  refine own_back ?_ (fun t k => XS.aloadN X1.here hx rfl (hb hby d2_4) rfl rfl k)
  show own_Go p e below PO (T1.setTop (mkF m 5 #[.val (.ref aT), .val (.ref aA), .val (.ref aB), .val (.ref aR), .val .null, .unset, .unset] [(.ref aA)]))
  refine own_back ?_ (own_len X1 hx hZ e1 V_A (g := (mkF m 5 #[.val (.ref aT), .val (.ref aA), .val (.ref aB), .val (.ref aR), .val .null, .unset, .unset] [(.ref aA)])) rfl rfl (hb hby d2_5))
  show own_Go p e below PO (T1.setTop (mkF m 6 #[.val (.ref aT), .val (.ref aA), .val (.ref aB), .val (.ref aR), .val .null, .unset, .unset] [(.int (1 : Int32))]))
  have hd6_2 : ¬ ((1 : Int32) = (0 : Int32)) := (by decide)
  refine own_back ?_ (fun t k => XS.ifNo X1.here hx rfl (hb hby d2_6) rfl ((if0 _ _).trans (feq hd6_2).1) k)
  show own_Go p e below PO (T1.setTop (mkF m 9 #[.val (.ref aT), .val (.ref aA), .val (.ref aB), .val (.ref aR), .val .null, .unset, .unset] []))
  refine own_back ?_ (fun t k => XS.aloadN X1.here hx rfl (hb hby d2_9) rfl rfl k)
  show own_Go p e below PO (T1.setTop (mkF m 10 #[.val (.ref aT), .val (.ref aA), .val (.ref aB), .val (.ref aR), .val .null, .unset, .unset] [(.ref aA)]))
  refine own_back ?_ (own_len X1 hx hZ e1 V_A (g := (mkF m 10 #[.val (.ref aT), .val (.ref aA), .val (.ref aB), .val (.ref aR), .val .null, .unset, .unset] [(.ref aA)])) rfl rfl (hb hby d2_10))
  show own_Go p e below PO (T1.setTop (mkF m 11 #[.val (.ref aT), .val (.ref aA), .val (.ref aB), .val (.ref aR), .val .null, .unset, .unset] [(.int (1 : Int32))]))
  refine own_back ?_ (fun t k => XS.aloadN X1.here hx rfl (hb hby d2_11) rfl rfl k)
  show own_Go p e below PO (T1.setTop (mkF m 12 #[.val (.ref aT), .val (.ref aA), .val (.ref aB), .val (.ref aR), .val .null, .unset, .unset] [(.ref aB), (.int (1 : Int32))]))
  refine own_back ?_ (own_len X1 hx hZ e1 V_B (g := (mkF m 12 #[.val (.ref aT), .val (.ref aA), .val (.ref aB), .val (.ref aR), .val .null, .unset, .unset] [(.ref aB), (.int (1 : Int32))])) rfl rfl (hb hby d2_12))
  show own_Go p e below PO (T1.setTop (mkF m 13 #[.val (.ref aT), .val (.ref aA), .val (.ref aB), .val (.ref aR), .val .null, .unset, .unset] [(.int (1 : Int32)), (.int (1 : Int32))]))
  refine own_back ?_ (fun t k => XS.icmpYes X1.here hx rfl (pc0 := 13) (pc' := 26) rfl (hb hby d2_13) rfl (teq rfl).1 (by decide) (by decide) k)
  show own_Go p e below PO (T1.setTop (mkF m 26 #[.val (.ref aT), .val (.ref aA), .val (.ref aB), .val (.ref aR), .val .null, .unset, .unset] []))
  refine own_back ?_ (fun t k => XS.aloadN X1.here hx rfl (hb hby d2_26) rfl rfl k)
  show own_Go p e below PO (T1.setTop (mkF m 27 #[.val (.ref aT), .val (.ref aA), .val (.ref aB), .val (.ref aR), .val .null, .unset, .unset] [(.ref aT)]))
  refine own_back ?_ (fun t k => XS.aloadN X1.here hx rfl (hb hby d2_27) rfl rfl k)
  show own_Go p e below PO (T1.setTop (mkF m 28 #[.val (.ref aT), .val (.ref aA), .val (.ref aB), .val (.ref aR), .val .null, .unset, .unset] [(.ref aA), (.ref aT)]))
  obtain ⟨T3, h3, X3, e3, E3, A3, Ex3, st3⟩ := cloneH X1 hx hZ hown (hw _ (List.mem_of_getElem? (i := 16) rfl)) (hw _ (List.mem_of_getElem? (i := 17) rfl)) (hw _ (List.mem_of_getElem? (i := 21) rfl)) (hw _ (List.mem_of_getElem? (i := 19) rfl)) (hw _ (List.mem_of_getElem? (i := 20) rfl)) (hw _ (List.mem_of_getElem? (i := 22) rfl)) e1 (V_A).arh E_A (g := (mkF m 28 #[.val (.ref aT), .val (.ref aA), .val (.ref aB), .val (.ref aR), .val .null, .unset, .unset] [(.ref aA), (.ref aT)])) rfl (by rw [hml]; rfl) rfl (hb hby d2_28) (by decide) (W := 1) (by show 2 * 0 + _ ≤ _; exact Nat.le_of_eq rfl) (by decide) (cap := 1) (by decide) (by decide) (by decide)
  obtain ⟨b3, g3⟩ : ∃ z, z = h0.size := ⟨_, rfl⟩
  rw [← g3] at A3 Ex3 st3
  have ne_aA_b3 : aA ≠ b3 := Nat.ne_of_lt (Nat.lt_of_lt_of_le V_A.lt (Nat.le_of_eq g3.symm))
  have ne_aB_b3 : aB ≠ b3 := Nat.ne_of_lt (Nat.lt_of_lt_of_le V_B.lt (Nat.le_of_eq g3.symm))
  have ne_aR_b3 : aR ≠ b3 := Nat.ne_of_lt (Nat.lt_of_lt_of_le V_R.lt (Nat.le_of_eq g3.symm))
  have ne_aT_b3 : aT ≠ b3 := Nat.ne_of_lt (Nat.lt_of_lt_of_le E_T.lt (Nat.le_of_eq g3.symm))
  have sz_b3 : h0.size ≤ b3 := Nat.le_of_eq g3.symm
  have gn_b3 : n0 ≤ b3 := Nat.le_trans Z0 sz_b3
  have K3 : Keep h0 h3 [] := (Keep.refl h0 []).ext E3
  have Zh3 : n0 ≤ h3.size := Nat.le_trans Z0 K3.1
  have V3 : Arv Z h3 b3 kA .int (1 : Int32) [(.int (0 : Int32))] (.int (0 : Int32)) := A3
  refine own_back ?_ st3
  show own_Go p e below PO (T3.setTop (mkF m 31 #[.val (.ref aT), .val (.ref aA), .val (.ref aB), .val (.ref aR), .val .null, .unset, .unset] [(.ref b3), (.ref aT)]))
  obtain ⟨T4, X4, e4, st4⟩ := castY X3 hx hZ hown (hw _ (List.mem_of_getElem? (i := 23) rfl)) e3 (Ins.self Ex3) (g := (mkF m 31 #[.val (.ref aT), .val (.ref aA), .val (.ref aB), .val (.ref aR), .val .null, .unset, .unset] [(.ref b3), (.ref aT)])) rfl rfl (hb hby d2_31)
  refine own_back ?_ st4
  show own_Go p e below PO (T4.setTop (mkF m 34 #[.val (.ref aT), .val (.ref aA), .val (.ref aB), .val (.ref aR), .val .null, .unset, .unset] [(.ref b3), (.ref aT)]))
  obtain ⟨T5, h5, X5, e5, W5, st5⟩ := putF X4 hx hZ hown (host := "") (Or.inl (hw _ (List.mem_of_getElem? (i := 25) rfl))) Via.refl e4 (F_scope.keep K3 nin0) (E_T.keep K3) (Or.inr ⟨(hw _ (List.mem_of_getElem? (i := 26) rfl)), rfl, hnm⟩) (hw _ (List.mem_of_getElem? (i := 8) rfl)) (ty := (.array .int)) (by decide) rfl rfl (g := (mkF m 34 #[.val (.ref aT), .val (.ref aA), .val (.ref aB), .val (.ref aR), .val .null, .unset, .unset] [(.ref b3), (.ref aT)])) rfl rfl (hb hby d2_34)
  have Fw5 := (F_scope.keep K3 nin0).same W5
  have f5_6 := Ex3.wr W5
  have f5_7 := V3.other W5 (Ne.symm ne_aT_b3)
  have f5_8 := (E_T.keep K3).wr W5
  have f5_9 := (F_sizes.keep K3 nin0).other W5 (Or.inr (slot_ne (Or.inr (hw _ (List.mem_of_getElem? (i := 28) rfl))) (Or.inr (hw _ (List.mem_of_getElem? (i := 26) rfl))) (by decide) (t := (.array .int)) (t' := (.array .int)) (by decide) (by decide)))
  have f5_10 := (F_strides.keep K3 nin0).other W5 (Or.inr (slot_ne (Or.inr (hw _ (List.mem_of_getElem? (i := 30) rfl))) (Or.inr (hw _ (List.mem_of_getElem? (i := 26) rfl))) (by decide) (t := (.array .int)) (t' := (.array .int)) (by decide) (by decide)))
  have f5_11 := (F_rewards.keep K3 nin0).other W5 (Or.inr (slot_ne (Or.inr (hw _ (List.mem_of_getElem? (i := 53) rfl))) (Or.inr (hw _ (List.mem_of_getElem? (i := 26) rfl))) (by decide) (t := (.array .double)) (t' := (.array .int)) (by decide) (by decide)))
  have f5_12 := (F_costs.keep K3 nin0).other W5 (Or.inr (slot_ne (Or.inr (hw _ (List.mem_of_getElem? (i := 55) rfl))) (Or.inr (hw _ (List.mem_of_getElem? (i := 26) rfl))) (by decide) (t := (.array .double)) (t' := (.array .int)) (by decide) (by decide)))
  have K5w : Keep h0 h3 [aT] := own_keep_more K3 (by simp)
  have K5 : Keep h0 h5 [aT] := (K5w).wr W5 (Or.inl (by simp))
  have N5 := Fr.snoc X5 N0 gn_aT
  have Zh5 : n0 ≤ h5.size := Nat.le_trans Z0 K5.1
  refine own_back ?_ st5
  show own_Go p e below PO (T5.setTop (mkF m 37 #[.val (.ref aT), .val (.ref aA), .val (.ref aB), .val (.ref aR), .val .null, .unset, .unset] []))
  refine own_back ?_ (fun t k => XS.aloadN X5.here hx rfl (hb hby d2_37) rfl rfl k)
  show own_Go p e below PO (T5.setTop (mkF m 38 #[.val (.ref aT), .val (.ref aA), .val (.ref aB), .val (.ref aR), .val .null, .unset, .unset] [(.ref aT)]))
  refine own_back ?_ (fun t k => XS.aloadN X5.here hx rfl (hb hby d2_38) rfl rfl k)
  show own_Go p e below PO (T5.setTop (mkF m 39 #[.val (.ref aT), .val (.ref aA), .val (.ref aB), .val (.ref aR), .val .null, .unset, .unset] [(.ref aB), (.ref aT)]))
  obtain ⟨T13, h13, X13, e13, E13, A13, Ex13, st13⟩ := cloneH X5 hx hZ hown (hw _ (List.mem_of_getElem? (i := 16) rfl)) (hw _ (List.mem_of_getElem? (i := 17) rfl)) (hw _ (List.mem_of_getElem? (i := 21) rfl)) (hw _ (List.mem_of_getElem? (i := 19) rfl)) (hw _ (List.mem_of_getElem? (i := 20) rfl)) (hw _ (List.mem_of_getElem? (i := 22) rfl)) e5 ((V_B.keep K5 (ninS nB nin0))).arh (E_B.keep K5) (g := (mkF m 39 #[.val (.ref aT), .val (.ref aA), .val (.ref aB), .val (.ref aR), .val .null, .unset, .unset] [(.ref aB), (.ref aT)])) rfl (by rw [hml]; rfl) rfl (hb hby d2_39) (by decide) (W := 1) (by show 2 * 0 + _ ≤ _; exact Nat.le_of_eq rfl) (by decide) (cap := 1) (by decide) (by decide) (by decide)
  obtain ⟨b13, g13⟩ : ∃ z, z = h5.size := ⟨_, rfl⟩
  rw [← g13] at A13 Ex13 st13
  have ne_aA_b13 : aA ≠ b13 := Nat.ne_of_lt (Nat.lt_of_lt_of_le (V_A.keep K5 (ninS nA nin0)).lt (Nat.le_of_eq g13.symm))
  have ne_aB_b13 : aB ≠ b13 := Nat.ne_of_lt (Nat.lt_of_lt_of_le (V_B.keep K5 (ninS nB nin0)).lt (Nat.le_of_eq g13.symm))
  have ne_aR_b13 : aR ≠ b13 := Nat.ne_of_lt (Nat.lt_of_lt_of_le (V_R.keep K5 (ninS nR nin0)).lt (Nat.le_of_eq g13.symm))
  have ne_aT_b13 : aT ≠ b13 := Nat.ne_of_lt (Nat.lt_of_lt_of_le f5_8.lt (Nat.le_of_eq g13.symm))
  have ne_b3_b13 : b3 ≠ b13 := Nat.ne_of_lt (Nat.lt_of_lt_of_le f5_6.lt (Nat.le_of_eq g13.symm))
  have sz_b13 : h0.size ≤ b13 := Nat.le_trans K5.1 (Nat.le_of_eq g13.symm)
  have gn_b13 : n0 ≤ b13 := Nat.le_trans Z0 sz_b13
  have f13_14 := f5_6.ext E13
  have f13_15 := f5_7.ext E13
  have f13_16 := f5_8.ext E13
  have f13_17 := Fw5.ext E13
  have f13_18 := f5_9.ext E13
  have f13_19 := f5_10.ext E13
  have f13_20 := f5_11.ext E13
  have f13_21 := f5_12.ext E13
  have K13 : Keep h0 h13 [aT] := (K5).ext E13
  have Zh13 : n0 ≤ h13.size := Nat.le_trans Z0 K13.1
  have V13 : Arv Z h13 b13 kB .int (1 : Int32) [(.int (4 : Int32))] (.int (0 : Int32)) := A13
  refine own_back ?_ st13
  show own_Go p e below PO (T13.setTop (mkF m 42 #[.val (.ref aT), .val (.ref aA), .val (.ref aB), .val (.ref aR), .val .null, .unset, .unset] [(.ref b13), (.ref aT)]))
  obtain ⟨T22, X22, e22, st22⟩ := castY X13 hx hZ hown (hw _ (List.mem_of_getElem? (i := 23) rfl)) e13 (Ins.self Ex13) (g := (mkF m 42 #[.val (.ref aT), .val (.ref aA), .val (.ref aB), .val (.ref aR), .val .null, .unset, .unset] [(.ref b13), (.ref aT)])) rfl rfl (hb hby d2_42)
  refine own_back ?_ st22
  show own_Go p e below PO (T22.setTop (mkF m 45 #[.val (.ref aT), .val (.ref aA), .val (.ref aB), .val (.ref aR), .val .null, .unset, .unset] [(.ref b13), (.ref aT)]))
  obtain ⟨T23, h23, X23, e23, W23, st23⟩ := putF X22 hx hZ hown (host := "") (Or.inl (hw _ (List.mem_of_getElem? (i := 27) rfl))) Via.refl e22 f13_18 f13_16 (Or.inr ⟨(hw _ (List.mem_of_getElem? (i := 28) rfl)), rfl, hnm⟩) (hw _ (List.mem_of_getElem? (i := 8) rfl)) (ty := (.array .int)) (by decide) rfl rfl (g := (mkF m 45 #[.val (.ref aT), .val (.ref aA), .val (.ref aB), .val (.ref aR), .val .null, .unset, .unset] [(.ref b13), (.ref aT)])) rfl rfl (hb hby d2_45)
  have Fw23 := f13_18.same W23
  have f23_24 := f13_14.wr W23
  have f23_25 := f13_15.other W23 (Ne.symm ne_aT_b3)
  have f23_26 := f13_16.wr W23
  have f23_27 := f13_17.other W23 (Or.inr (slot_ne (Or.inr (hw _ (List.mem_of_getElem? (i := 26) rfl))) (Or.inr (hw _ (List.mem_of_getElem? (i := 28) rfl))) (by decide) (t := (.array .int)) (t' := (.array .int)) (by decide) (by decide)))
  have f23_28 := f13_19.other W23 (Or.inr (slot_ne (Or.inr (hw _ (List.mem_of_getElem? (i := 30) rfl))) (Or.inr (hw _ (List.mem_of_getElem? (i := 28) rfl))) (by decide) (t := (.array .int)) (t' := (.array .int)) (by decide) (by decide)))
  have f23_29 := f13_20.other W23 (Or.inr (slot_ne (Or.inr (hw _ (List.mem_of_getElem? (i := 53) rfl))) (Or.inr (hw _ (List.mem_of_getElem? (i := 28) rfl))) (by decide) (t := (.array .double)) (t' := (.array .int)) (by decide) (by decide)))
  have f23_30 := f13_21.other W23 (Or.inr (slot_ne (Or.inr (hw _ (List.mem_of_getElem? (i := 55) rfl))) (Or.inr (hw _ (List.mem_of_getElem? (i := 28) rfl))) (by decide) (t := (.array .double)) (t' := (.array .int)) (by decide) (by decide)))
  have f23_31 := Ex13.wr W23
  have f23_32 := V13.other W23 (Ne.symm ne_aT_b13)
  have K23 : Keep h0 h23 [aT] := (K13).wr W23 (Or.inl (by simp))
  have N23 := Fr.snoc X23 N5 gn_aT
  have Zh23 : n0 ≤ h23.size := Nat.le_trans Z0 K23.1
  refine own_back ?_ st23
  show own_Go p e below PO (T23.setTop (mkF m 48 #[.val (.ref aT), .val (.ref aA), .val (.ref aB), .val (.ref aR), .val .null, .unset, .unset] []))
  refine own_back ?_ (fun t k => XS.aloadN X23.here hx rfl (hb hby d2_48) rfl rfl k)
  show own_Go p e below PO (T23.setTop (mkF m 49 #[.val (.ref aT), .val (.ref aA), .val (.ref aB), .val (.ref aR), .val .null, .unset, .unset] [(.ref aT)]))
  refine own_back ?_ (fun t k => XS.aloadN X23.here hx rfl (hb hby d2_49) rfl rfl k)
  show own_Go p e below PO (T23.setTop (mkF m 50 #[.val (.ref aT), .val (.ref aA), .val (.ref aB), .val (.ref aR), .val .null, .unset, .unset] [(.ref aA), (.ref aT)]))
  refine own_back ?_ (own_len X23 hx hZ e23 (V_A.keep K23 (ninS nA nin0)) (g := (mkF m 50 #[.val (.ref aT), .val (.ref aA), .val (.ref aB), .val (.ref aR), .val .null, .unset, .unset] [(.ref aA), (.ref aT)])) rfl rfl (hb hby d2_50))
  show own_Go p e below PO (T23.setTop (mkF m 51 #[.val (.ref aT), .val (.ref aA), .val (.ref aB), .val (.ref aR), .val .null, .unset, .unset] [(.int (1 : Int32)), (.ref aT)]))
  obtain ⟨T33, h33, k33, X33, e33, E33, A33, Ex33, st33⟩ := newPE X23 hx hZ (hw _ (List.mem_of_getElem? (i := 6) rfl)) e23 (g := (mkF m 51 #[.val (.ref aT), .val (.ref aA), .val (.ref aB), .val (.ref aR), .val .null, .unset, .unset] [(.int (1 : Int32)), (.ref aT)])) rfl (hb hby d2_51) rfl (by decide) (cap := 1) (by decide) (by decide) (by decide) (by decide) (ad := "[I") (by decide)
  obtain ⟨b33, g33⟩ : ∃ z, z = h23.size := ⟨_, rfl⟩
  rw [← g33] at A33 Ex33 st33
  have ne_aA_b33 : aA ≠ b33 := Nat.ne_of_lt (Nat.lt_of_lt_of_le (V_A.keep K23 (ninS nA nin0)).lt (Nat.le_of_eq g33.symm))
  have ne_aB_b33 : aB ≠ b33 := Nat.ne_of_lt (Nat.lt_of_lt_of_le (V_B.keep K23 (ninS nB nin0)).lt (Nat.le_of_eq g33.symm))
  have ne_aR_b33 : aR ≠ b33 := Nat.ne_of_lt (Nat.lt_of_lt_of_le (V_R.keep K23 (ninS nR nin0)).lt (Nat.le_of_eq g33.symm))
  have ne_aT_b33 : aT ≠ b33 := Nat.ne_of_lt (Nat.lt_of_lt_of_le f23_26.lt (Nat.le_of_eq g33.symm))
  have ne_b13_b33 : b13 ≠ b33 := Nat.ne_of_lt (Nat.lt_of_lt_of_le f23_31.lt (Nat.le_of_eq g33.symm))
  have ne_b3_b33 : b3 ≠ b33 := Nat.ne_of_lt (Nat.lt_of_lt_of_le f23_24.lt (Nat.le_of_eq g33.symm))
  have sz_b33 : h0.size ≤ b33 := Nat.le_trans K23.1 (Nat.le_of_eq g33.symm)
  have gn_b33 : n0 ≤ b33 := Nat.le_trans Z0 sz_b33
  have f33_34 := f23_24.ext E33
  have f33_35 := f23_25.ext E33
  have f33_36 := f23_26.ext E33
  have f33_37 := f23_27.ext E33
  have f33_38 := Fw23.ext E33
  have f33_39 := f23_28.ext E33
  have f33_40 := f23_29.ext E33
  have f33_41 := f23_30.ext E33
  have f33_42 := f23_31.ext E33
  have f33_43 := f23_32.ext E33
  have K33 : Keep h0 h33 [aT] := (K23).ext E33
  have Zh33 : n0 ≤ h33.size := Nat.le_trans Z0 K33.1
  have V33 : Arv Z h33 b33 k33 .int (1 : Int32) [(.int (0 : Int32))] (.int (0 : Int32)) := (Arv.new A33 (by decide)).pad (pad_rep [] (.int (0 : Int32)) 1)
  refine own_back ?_ st33
  show own_Go p e below PO (T33.setTop (mkF m 53 #[.val (.ref aT), .val (.ref aA), .val (.ref aB), .val (.ref aR), .val .null, .unset, .unset] [(.ref b33), (.ref aT)]))
  obtain ⟨T44, h44, X44, e44, W44, st44⟩ := putF X33 hx hZ hown (host := "") (Or.inl (hw _ (List.mem_of_getElem? (i := 29) rfl))) Via.refl e33 f33_39 f33_36 (Or.inr ⟨(hw _ (List.mem_of_getElem? (i := 30) rfl)), rfl, hnm⟩) (hw _ (List.mem_of_getElem? (i := 8) rfl)) (ty := (.array .int)) (by decide) rfl rfl (g := (mkF m 53 #[.val (.ref aT), .val (.ref aA), .val (.ref aB), .val (.ref aR), .val .null, .unset, .unset] [(.ref b33), (.ref aT)])) rfl rfl (hb hby d2_53)
  have Fw44 := f33_39.same W44
  have f44_45 := f33_34.wr W44
  have f44_46 := f33_35.other W44 (Ne.symm ne_aT_b3)
  have f44_47 := f33_36.wr W44
  have f44_48 := f33_37.other W44 (Or.inr (slot_ne (Or.inr (hw _ (List.mem_of_getElem? (i := 26) rfl))) (Or.inr (hw _ (List.mem_of_getElem? (i := 30) rfl))) (by decide) (t := (.array .int)) (t' := (.array .int)) (by decide) (by decide)))
  have f44_49 := f33_38.other W44 (Or.inr (slot_ne (Or.inr (hw _ (List.mem_of_getElem? (i := 28) rfl))) (Or.inr (hw _ (List.mem_of_getElem? (i := 30) rfl))) (by decide) (t := (.array .int)) (t' := (.array .int)) (by decide) (by decide)))
  have f44_50 := f33_40.other W44 (Or.inr (slot_ne (Or.inr (hw _ (List.mem_of_getElem? (i := 53) rfl))) (Or.inr (hw _ (List.mem_of_getElem? (i := 30) rfl))) (by decide) (t := (.array .double)) (t' := (.array .int)) (by decide) (by decide)))
  have f44_51 := f33_41.other W44 (Or.inr (slot_ne (Or.inr (hw _ (List.mem_of_getElem? (i := 55) rfl))) (Or.inr (hw _ (List.mem_of_getElem? (i := 30) rfl))) (by decide) (t := (.array .double)) (t' := (.array .int)) (by decide) (by decide)))
  have f44_52 := f33_42.wr W44
  have f44_53 := f33_43.other W44 (Ne.symm ne_aT_b13)
  have f44_54 := Ex33.wr W44
  have f44_55 := V33.other W44 (Ne.symm ne_aT_b33)
  have K44 : Keep h0 h44 [aT] := (K33).wr W44 (Or.inl (by simp))
  have N44 := Fr.snoc X44 N23 gn_aT
  have Zh44 : n0 ≤ h44.size := Nat.le_trans Z0 K44.1
  refine own_back ?_ st44
  show own_Go p e below PO (T44.setTop (mkF m 56 #[.val (.ref aT), .val (.ref aA), .val (.ref aB), .val (.ref aR), .val .null, .unset, .unset] []))
  refine own_back ?_ (fun t k => XS.iconst X44.here hx rfl (hb hby d2_56) k)
  show own_Go p e below PO (T44.setTop (mkF m 57 #[.val (.ref aT), .val (.ref aA), .val (.ref aB), .val (.ref aR), .val .null, .unset, .unset] [(.int (1 : Int32))]))
  refine own_back ?_ (fun t k => XS.istore X44.here hx rfl (hb hby d2_57) rfl (l' := #[.val (.ref aT), .val (.ref aA), .val (.ref aB), .val (.ref aR), .val .null, .val (.int (1 : Int32)), .unset]) rfl k)
  show own_Go p e below PO (T44.setTop (mkF m 59 #[.val (.ref aT), .val (.ref aA), .val (.ref aB), .val (.ref aR), .val .null, .val (.int (1 : Int32)), .unset] []))
  refine own_back ?_ (fun t k => XS.aloadN X44.here hx rfl (hb hby d2_59) rfl rfl k)
  show own_Go p e below PO (T44.setTop (mkF m 60 #[.val (.ref aT), .val (.ref aA), .val (.ref aB), .val (.ref aR), .val .null, .val (.int (1 : Int32)), .unset] [(.ref aA)]))
  refine own_back ?_ (own_len X44 hx hZ e44 (V_A.keep K44 (ninS nA nin0)) (g := (mkF m 60 #[.val (.ref aT), .val (.ref aA), .val (.ref aB), .val (.ref aR), .val .null, .val (.int (1 : Int32)), .unset] [(.ref aA)])) rfl rfl (hb hby d2_60))
  show own_Go p e below PO (T44.setTop (mkF m 61 #[.val (.ref aT), .val (.ref aA), .val (.ref aB), .val (.ref aR), .val .null, .val (.int (1 : Int32)), .unset] [(.int (1 : Int32))]))
  refine own_back ?_ (fun t k => XS.iconst X44.here hx rfl (hb hby d2_61) k)
  show own_Go p e below PO (T44.setTop (mkF m 62 #[.val (.ref aT), .val (.ref aA), .val (.ref aB), .val (.ref aR), .val .null, .val (.int (1 : Int32)), .unset] [(.int (1 : Int32)), (.int (1 : Int32))]))
  refine own_back ?_ (fun t k => XS.isub X44.here hx rfl (hb hby d2_62) rfl k)
  show own_Go p e below PO (T44.setTop (mkF m 63 #[.val (.ref aT), .val (.ref aA), .val (.ref aB), .val (.ref aR), .val .null, .val (.int (1 : Int32)), .unset] [(.int (0 : Int32))]))
  refine own_back ?_ (fun t k => XS.istore X44.here hx rfl (hb hby d2_63) rfl (l' := #[.val (.ref aT), .val (.ref aA), .val (.ref aB), .val (.ref aR), .val .null, .val (.int (1 : Int32)), .val (.int (0 : Int32))]) rfl k)
  show own_Go p e below PO (T44.setTop (mkF m 65 #[.val (.ref aT), .val (.ref aA), .val (.ref aB), .val (.ref aR), .val .null, .val (.int (1 : Int32)), .val (.int (0 : Int32))] []))
  refine own_back ?_ (fun t k => XS.iload X44.here hx rfl (hb hby d2_65) rfl k)
  show own_Go p e below PO (T44.setTop (mkF m 67 #[.val (.ref aT), .val (.ref aA), .val (.ref aB), .val (.ref aR), .val .null, .val (.int (1 : Int32)), .val (.int (0 : Int32))] [(.int (0 : Int32))]))
  refine own_back ?_ (fun t k => XS.ifNo X44.here hx rfl (hb hby d2_67) rfl ((if0 _ _).trans (flt Int32.lt_irrefl).1) k)
  show own_Go p e below PO (T44.setTop (mkF m 70 #[.val (.ref aT), .val (.ref aA), .val (.ref aB), .val (.ref aR), .val .null, .val (.int (1 : Int32)), .val (.int (0 : Int32))] []))
  refine own_back ?_ (fun t k => XS.aloadN X44.here hx rfl (hb hby d2_70) rfl rfl k)
  show own_Go p e below PO (T44.setTop (mkF m 71 #[.val (.ref aT), .val (.ref aA), .val (.ref aB), .val (.ref aR), .val .null, .val (.int (1 : Int32)), .val (.int (0 : Int32))] [(.ref aT)]))
  obtain ⟨T56, X56, e56, st56⟩ := getF X44 hx hZ hown (host := "") (Or.inl (hw _ (List.mem_of_getElem? (i := 29) rfl))) Via.refl e44 Fw44 (g := (mkF m 71 #[.val (.ref aT), .val (.ref aA), .val (.ref aB), .val (.ref aR), .val .null, .val (.int (1 : Int32)), .val (.int (0 : Int32))] [(.ref aT)])) rfl rfl (hb hby d2_71)
  refine own_back ?_ st56
  show own_Go p e below PO (T56.setTop (mkF m 74 #[.val (.ref aT), .val (.ref aA), .val (.ref aB), .val (.ref aR), .val .null, .val (.int (1 : Int32)), .val (.int (0 : Int32))] [(.ref b33)]))
  refine own_back ?_ (fun t k => XS.iload X56.here hx rfl (hb hby d2_74) rfl k)
  show own_Go p e below PO (T56.setTop (mkF m 76 #[.val (.ref aT), .val (.ref aA), .val (.ref aB), .val (.ref aR), .val .null, .val (.int (1 : Int32)), .val (.int (0 : Int32))] [(.int (0 : Int32)), (.ref b33)]))
  refine own_back ?_ (fun t k => XS.iload X56.here hx rfl (hb hby d2_76) rfl k)
  show own_Go p e below PO (T56.setTop (mkF m 78 #[.val (.ref aT), .val (.ref aA), .val (.ref aB), .val (.ref aR), .val .null, .val (.int (1 : Int32)), .val (.int (0 : Int32))] [(.int (1 : Int32)), (.int (0 : Int32)), (.ref b33)]))
  obtain ⟨T57, h57, X57, e57, W57, V57, st57⟩ := own_stI X56 hx hZ e56 f44_55 (j := (0 : Int32)) ⟨by decide, by decide⟩ (i := 0) rfl (by show 0 < 1; decide) (g := (mkF m 78 #[.val (.ref aT), .val (.ref aA), .val (.ref aB), .val (.ref aR), .val .null, .val (.int (1 : Int32)), .val (.int (0 : Int32))] [(.int (1 : Int32)), (.int (0 : Int32)), (.ref b33)])) rfl rfl (hb hby d2_78)
  replace V57 : Arv Z h57 b33 k33 .int (1 : Int32) [(.int (1 : Int32))] (.int (0 : Int32)) := V57
  have f57_58 := f44_45.wr W57
  have f57_59 := f44_46.other W57 ne_b3_b33
  have f57_60 := f44_47.wr W57
  have f57_61 := f44_48.other W57 (Or.inl ne_aT_b33)
  have f57_62 := f44_49.other W57 (Or.inl ne_aT_b33)
  have f57_63 := Fw44.other W57 (Or.inl ne_aT_b33)
  have f57_64 := f44_50.other W57 (Or.inl ne_aT_b33)
  have f57_65 := f44_51.other W57 (Or.inl ne_aT_b33)
  have f57_66 := f44_52.wr W57
  have f57_67 := f44_53.other W57 ne_b13_b33
  have f57_68 := f44_54.wr W57
  have K57 : Keep h0 h57 [aT] := (K44).wr W57 (Or.inr sz_b33)
  have N57 := Fr.snoc X57 N44 gn_b33
  have Zh57 : n0 ≤ h57.size := Nat.le_trans Z0 K57.1
  refine own_back ?_ st57
  show own_Go p e below PO (T57.setTop (mkF m 79 #[.val (.ref aT), .val (.ref aA), .val (.ref aB), .val (.ref aR), .val .null, .val (.int (1 : Int32)), .val (.int (0 : Int32))] []))
  refine own_back ?_ (fun t k => XS.iload X57.here hx rfl (hb hby d2_79) rfl k)
  show own_Go p e below PO (T57.setTop (mkF m 81 #[.val (.ref aT), .val (.ref aA), .val (.ref aB), .val (.ref aR), .val .null, .val (.int (1 : Int32)), .val (.int (0 : Int32))] [(.int (1 : Int32))]))
  refine own_back ?_ (fun t k => XS.aloadN X57.here hx rfl (hb hby d2_81) rfl rfl k)
  show own_Go p e below PO (T57.setTop (mkF m 82 #[.val (.ref aT), .val (.ref aA), .val (.ref aB), .val (.ref aR), .val .null, .val (.int (1 : Int32)), .val (.int (0 : Int32))] [(.ref aB), (.int (1 : Int32))]))
  refine own_back ?_ (fun t k => XS.iload X57.here hx rfl (hb hby d2_82) rfl k)
  show own_Go p e below PO (T57.setTop (mkF m 84 #[.val (.ref aT), .val (.ref aA), .val (.ref aB), .val (.ref aR), .val .null, .val (.int (1 : Int32)), .val (.int (0 : Int32))] [(.int (0 : Int32)), (.ref aB), (.int (1 : Int32))]))
  refine own_back ?_ (own_ldI X57 hx hZ e57 (V_B.keep K57 (ninS nB nin0)) (j := (0 : Int32)) (v := (.int (4 : Int32))) ⟨by decide, by decide⟩ rfl (g := (mkF m 84 #[.val (.ref aT), .val (.ref aA), .val (.ref aB), .val (.ref aR), .val .null, .val (.int (1 : Int32)), .val (.int (0 : Int32))] [(.int (0 : Int32)), (.ref aB), (.int (1 : Int32))])) rfl rfl (hb hby d2_84))
  show own_Go p e below PO (T57.setTop (mkF m 85 #[.val (.ref aT), .val (.ref aA), .val (.ref aB), .val (.ref aR), .val .null, .val (.int (1 : Int32)), .val (.int (0 : Int32))] [(.int (4 : Int32)), (.int (1 : Int32))]))
  obtain ⟨_, _, ⟨T69, L69, k69, n69⟩, -, X69, ⟨Lc69, hQ69, l69, y69, z69⟩, st69⟩ := Jvm.LawKit.callS X57 hx (y := (⟨"java/lang/Math", "multiplyExact", "(II)I"⟩ : MethodName)) hown (mvT hZ (hw _ (List.mem_of_getElem? (i := 31) rfl))) (mvT hZ (hw _ (List.mem_of_getElem? (i := 32) rfl))) (mvT hZ (hw _ (List.mem_of_getElem? (i := 33) rfl))) (mvT hZ (hw _ (List.mem_of_getElem? (i := 34) rfl))) (by decide) (backOf (W := 0) (rmMul_1_4 l Z a0 hw []   h57 n0 Zh57 ) hZ (hw _ (List.mem_of_getElem? (i := 34) rfl)) (hw _ (List.mem_of_getElem? (i := 33) rfl)) (by decide) (by decide)) (g := (mkF m 85 #[.val (.ref aT), .val (.ref aA), .val (.ref aB), .val (.ref aR), .val .null, .val (.int (1 : Int32)), .val (.int (0 : Int32))] [(.int (4 : Int32)), (.int (1 : Int32))])) rfl (by rw [hml]; rfl) (argsL := [(.int (1 : Int32)), (.int (4 : Int32))]) (rest := []) (lenOf pd_0 rfl) rfl (by show 2 * 0 + _ ≤ _; exact Nat.le_of_eq rfl) (hb hby d2_85) (fun _ _ => ⟨rfl, e57, (by decide : 3 + 0 ≤ _), (by decide : 3 + 0 ≤ _)⟩)
  dsimp only [Pt.U, Pt.locs, Pt.cells, Pt.slots] at X69 l69 y69 z69 st69 hQ69
  subst l69 y69 z69
  obtain ⟨rfl, N69q, e69⟩ := hQ69
  have N69 := Fr.app N57 N69q
  refine own_back ?_ st69
  show own_Go p e below PO (T69.setTop (mkF m 88 #[.val (.ref aT), .val (.ref aA), .val (.ref aB), .val (.ref aR), .val .null, .val (.int (1 : Int32)), .val (.int (0 : Int32))] [(.int (4 : Int32))]))
  refine own_back ?_ (fun t k => XS.istore X69.here hx rfl (hb hby d2_88) rfl (l' := #[.val (.ref aT), .val (.ref aA), .val (.ref aB), .val (.ref aR), .val .null, .val (.int (4 : Int32)), .val (.int (0 : Int32))]) rfl k)
  show own_Go p e below PO (T69.setTop (mkF m 90 #[.val (.ref aT), .val (.ref aA), .val (.ref aB), .val (.ref aR), .val .null, .val (.int (4 : Int32)), .val (.int (0 : Int32))] []))
  refine own_back ?_ (fun t k => XS.iinc X69.here hx rfl (hb hby d2_90) rfl (l' := #[.val (.ref aT), .val (.ref aA), .val (.ref aB), .val (.ref aR), .val .null, .val (.int (4 : Int32)), .val (.int (-1 : Int32))]) rfl k)
  show own_Go p e below PO (T69.setTop (mkF m 93 #[.val (.ref aT), .val (.ref aA), .val (.ref aB), .val (.ref aR), .val .null, .val (.int (4 : Int32)), .val (.int (-1 : Int32))] []))
  refine own_back ?_ (fun t k => XS.goto X69.here hx rfl (pc0 := 93) (pc' := 65) rfl (hb hby d2_93) (by decide) (by decide) k)
  show own_Go p e below PO (T69.setTop (mkF m 65 #[.val (.ref aT), .val (.ref aA), .val (.ref aB), .val (.ref aR), .val .null, .val (.int (4 : Int32)), .val (.int (-1 : Int32))] []))
  refine own_back ?_ (fun t k => XS.iload X69.here hx rfl (hb hby d2_65) rfl k)
  show own_Go p e below PO (T69.setTop (mkF m 67 #[.val (.ref aT), .val (.ref aA), .val (.ref aB), .val (.ref aR), .val .null, .val (.int (4 : Int32)), .val (.int (-1 : Int32))] [(.int (-1 : Int32))]))
  have hd67_70 : (-1 : Int32) < (0 : Int32) := (by decide)
  refine own_back ?_ (fun t k => XS.ifYes X69.here hx rfl (pc0 := 67) (pc' := 96) rfl (hb hby d2_67) rfl ((if0 _ _).trans (tlt hd67_70).1) (by decide) (by decide) k)
  show own_Go p e below PO (T69.setTop (mkF m 96 #[.val (.ref aT), .val (.ref aA), .val (.ref aB), .val (.ref aR), .val .null, .val (.int (4 : Int32)), .val (.int (-1 : Int32))] []))
  refine own_back ?_ (fun t k => XS.aloadN X69.here hx rfl (hb hby d2_96) rfl rfl k)
  show own_Go p e below PO (T69.setTop (mkF m 97 #[.val (.ref aT), .val (.ref aA), .val (.ref aB), .val (.ref aR), .val .null, .val (.int (4 : Int32)), .val (.int (-1 : Int32))] [(.ref aT)]))
  refine own_back ?_ (fun t k => XS.aloadN X69.here hx rfl (hb hby d2_97) rfl rfl k)
  show own_Go p e below PO (T69.setTop (mkF m 98 #[.val (.ref aT), .val (.ref aA), .val (.ref aB), .val (.ref aR), .val .null, .val (.int (4 : Int32)), .val (.int (-1 : Int32))] [(.ref aR), (.ref aT)]))
  refine own_back ?_ (fun t k => XS.iload X69.here hx rfl (hb hby d2_98) rfl k)
  show own_Go p e below PO (T69.setTop (mkF m 100 #[.val (.ref aT), .val (.ref aA), .val (.ref aB), .val (.ref aR), .val .null, .val (.int (4 : Int32)), .val (.int (-1 : Int32))] [(.int (4 : Int32)), (.ref aR), (.ref aT)]))
  obtain ⟨aS71, T71, h71, k71, X71, e71, E71, hS71, hk71, hZ, hown, st71⟩ := ldcS (s := s) (vm0 := s.vm) X69 hx hZ hown (hw _ (List.mem_of_getElem? (i := 35) rfl)) (own_wS hw) e69 hS0 (Nat.zero_le _) (g := (mkF m 100 #[.val (.ref aT), .val (.ref aA), .val (.ref aB), .val (.ref aR), .val .null, .val (.int (4 : Int32)), .val (.int (-1 : Int32))] [(.int (4 : Int32)), (.ref aR), (.ref aT)])) rfl (hb hby d2_100) (n := 28) (by decide) (by decide) (by decide) (by decide)
  have f71_72 := f57_58.ext E71
  have f71_73 := f57_59.ext E71
  have f71_74 := f57_60.ext E71
  have f71_75 := f57_61.ext E71
  have f71_76 := f57_62.ext E71
  have f71_77 := f57_63.ext E71
  have f71_78 := f57_64.ext E71
  have f71_79 := f57_65.ext E71
  have f71_80 := f57_66.ext E71
  have f71_81 := f57_67.ext E71
  have f71_82 := f57_68.ext E71
  have f71_83 := V57.ext E71
  have K71 : Keep h0 h71 [aT] := (K57).ext E71
  have Zh71 : n0 ≤ h71.size := Nat.le_trans Z0 K71.1
  refine own_back ?_ st71
  show own_Go p e below PO (T71.setTop (mkF m 102 #[.val (.ref aT), .val (.ref aA), .val (.ref aB), .val (.ref aR), .val .null, .val (.int (4 : Int32)), .val (.int (-1 : Int32))] [(.ref aS71), (.int (4 : Int32)), (.ref aR), (.ref aT)]))
  obtain ⟨_, _, ⟨T84, L84, k84, n84⟩, -, X84, ⟨Lc84, hQ84, l84, y84, z84⟩, st84⟩ := Jvm.LawKit.callS X71 hx (y := (⟨"com/example/nearbound/nearbound/dcop/Constraint", "checkTable", "([DILjava/lang/String;)[D"⟩ : MethodName)) hown (mvT hZ (hw _ (List.mem_of_getElem? (i := 43) rfl))) (mvT hZ (hw _ (List.mem_of_getElem? (i := 44) rfl))) (mvT hZ (hw _ (List.mem_of_getElem? (i := 9) rfl))) (mvT hZ (hw _ (List.mem_of_getElem? (i := 45) rfl))) (by decide) (backOf (W := 1) (rmTab l Z a0 hw [] aR aS71 kR u0 u1 u2 u3 h71 n0 Zh71 (E_R.keep K71) (V_R.keep K71 (ninS nR nin0))) hZ (hw _ (List.mem_of_getElem? (i := 45) rfl)) (hw _ (List.mem_of_getElem? (i := 9) rfl)) (by decide) (by decide)) (g := (mkF m 102 #[.val (.ref aT), .val (.ref aA), .val (.ref aB), .val (.ref aR), .val .null, .val (.int (4 : Int32)), .val (.int (-1 : Int32))] [(.ref aS71), (.int (4 : Int32)), (.ref aR), (.ref aT)])) rfl (by rw [hml]; rfl) (argsL := [(.ref aR), (.int (4 : Int32)), (.ref aS71)]) (rest := [(.ref aT)]) (lenOf pd_1 rfl) rfl (by show 2 * 0 + _ ≤ _; exact Nat.le_of_eq rfl) (hb hby d2_102) (fun _ _ => ⟨rfl, e71, (by decide : 5 + 1 ≤ _), (by decide : 35 + 4 ≤ _)⟩)
  dsimp only [Pt.U, Pt.locs, Pt.cells, Pt.slots] at X84 l84 y84 z84 st84 hQ84
  subst l84 y84 z84
  obtain ⟨aN84, rfl, N84q, Kc84, sz84, EN84, VN84⟩ := hQ84
  have N84 := Fr.app N69 N84q
  have ne_aA_aN84 : aA ≠ aN84 := Nat.ne_of_lt (Nat.lt_of_lt_of_le (V_A.keep K71 (ninS nA nin0)).lt sz84)
  have ne_aB_aN84 : aB ≠ aN84 := Nat.ne_of_lt (Nat.lt_of_lt_of_le (V_B.keep K71 (ninS nB nin0)).lt sz84)
  have ne_aR_aN84 : aR ≠ aN84 := Nat.ne_of_lt (Nat.lt_of_lt_of_le (V_R.keep K71 (ninS nR nin0)).lt sz84)
  have ne_aT_aN84 : aT ≠ aN84 := Nat.ne_of_lt (Nat.lt_of_lt_of_le f71_74.lt sz84)
  have ne_b13_aN84 : b13 ≠ aN84 := Nat.ne_of_lt (Nat.lt_of_lt_of_le f71_80.lt sz84)
  have ne_b3_aN84 : b3 ≠ aN84 := Nat.ne_of_lt (Nat.lt_of_lt_of_le f71_72.lt sz84)
  have ne_b33_aN84 : b33 ≠ aN84 := Nat.ne_of_lt (Nat.lt_of_lt_of_le f71_82.lt sz84)
  have sz_aN84 : h0.size ≤ aN84 := Nat.le_trans K71.1 sz84
  have gn_aN84 : n0 ≤ aN84 := Nat.le_trans Z0 sz_aN84
  have f84_85 := f71_72.keep Kc84
  have f84_86 := f71_73.keep Kc84 nin0
  have f84_87 := f71_74.keep Kc84
  have f84_88 := f71_75.keep Kc84 nin0
  have f84_89 := f71_76.keep Kc84 nin0
  have f84_90 := f71_77.keep Kc84 nin0
  have f84_91 := f71_78.keep Kc84 nin0
  have f84_92 := f71_79.keep Kc84 nin0
  have f84_93 := f71_80.keep Kc84
  have f84_94 := f71_81.keep Kc84 nin0
  have f84_95 := f71_82.keep Kc84
  have f84_96 := f71_83.keep Kc84 nin0
  have K84 : Keep h0 T84.heap [aT] := (K71).trans Kc84 all0
  have Zh84 : n0 ≤ T84.heap.size := Nat.le_trans Z0 K84.1
  have hk84 := Nat.le_trans hk71 Kc84.1
  refine own_back ?_ st84
  show own_Go p e below PO (T84.setTop (mkF m 105 #[.val (.ref aT), .val (.ref aA), .val (.ref aB), .val (.ref aR), .val .null, .val (.int (4 : Int32)), .val (.int (-1 : Int32))] [(.ref aN84), (.ref aT)]))
  obtain ⟨T97, h97, X97, e97, W97, st97⟩ := putF X84 hx hZ hown (host := "") (Or.inl (hw _ (List.mem_of_getElem? (i := 52) rfl))) Via.refl rfl f84_91 f84_87 (Or.inr ⟨(hw _ (List.mem_of_getElem? (i := 53) rfl)), rfl, hnm⟩) (hw _ (List.mem_of_getElem? (i := 8) rfl)) (ty := (.array .double)) (by decide) rfl rfl (g := (mkF m 105 #[.val (.ref aT), .val (.ref aA), .val (.ref aB), .val (.ref aR), .val .null, .val (.int (4 : Int32)), .val (.int (-1 : Int32))] [(.ref aN84), (.ref aT)])) rfl rfl (hb hby d2_105)
  have Fw97 := f84_91.same W97
  have f97_98 := f84_85.wr W97
  have f97_99 := f84_86.other W97 (Ne.symm ne_aT_b3)
  have f97_100 := f84_87.wr W97
  have f97_101 := f84_88.other W97 (Or.inr (slot_ne (Or.inr (hw _ (List.mem_of_getElem? (i := 26) rfl))) (Or.inr (hw _ (List.mem_of_getElem? (i := 53) rfl))) (by decide) (t := (.array .int)) (t' := (.array .double)) (by decide) (by decide)))
  have f97_102 := f84_89.other W97 (Or.inr (slot_ne (Or.inr (hw _ (List.mem_of_getElem? (i := 28) rfl))) (Or.inr (hw _ (List.mem_of_getElem? (i := 53) rfl))) (by decide) (t := (.array .int)) (t' := (.array .double)) (by decide) (by decide)))
  have f97_103 := f84_90.other W97 (Or.inr (slot_ne (Or.inr (hw _ (List.mem_of_getElem? (i := 30) rfl))) (Or.inr (hw _ (List.mem_of_getElem? (i := 53) rfl))) (by decide) (t := (.array .int)) (t' := (.array .double)) (by decide) (by decide)))
  have f97_104 := f84_92.other W97 (Or.inr (slot_ne (Or.inr (hw _ (List.mem_of_getElem? (i := 55) rfl))) (Or.inr (hw _ (List.mem_of_getElem? (i := 53) rfl))) (by decide) (t := (.array .double)) (t' := (.array .double)) (by decide) (by decide)))
  have f97_105 := f84_93.wr W97
  have f97_106 := f84_94.other W97 (Ne.symm ne_aT_b13)
  have f97_107 := f84_95.wr W97
  have f97_108 := f84_96.other W97 (Ne.symm ne_aT_b33)
  have f97_109 := EN84.wr W97
  have f97_110 := VN84.other W97 (Ne.symm ne_aT_aN84)
  have K97 : Keep h0 h97 [aT] := (K84).wr W97 (Or.inl (by simp))
  have N97 := Fr.snoc X97 N84 gn_aT
  have Zh97 : n0 ≤ h97.size := Nat.le_trans Z0 K97.1
  have hk97 := Nat.le_trans hk84 (Keep.of_wr W97).1
  refine own_back ?_ st97
  show own_Go p e below PO (T97.setTop (mkF m 108 #[.val (.ref aT), .val (.ref aA), .val (.ref aB), .val (.ref aR), .val .null, .val (.int (4 : Int32)), .val (.int (-1 : Int32))] []))
  refine own_back ?_ (fun t k => XS.aload X97.here hx rfl (hb hby d2_108) rfl rfl k)
  show own_Go p e below PO (T97.setTop (mkF m 110 #[.val (.ref aT), .val (.ref aA), .val (.ref aB), .val (.ref aR), .val .null, .val (.int (4 : Int32)), .val (.int (-1 : Int32))] [.null]))
  refine own_back ?_ (fun t k => XS.ifnullYes X97.here hx rfl (pc0 := 110) (pc' := 134) rfl (hb hby d2_110) rfl (by decide) (by decide) k)
  show own_Go p e below PO (T97.setTop (mkF m 134 #[.val (.ref aT), .val (.ref aA), .val (.ref aB), .val (.ref aR), .val .null, .val (.int (4 : Int32)), .val (.int (-1 : Int32))] []))
  refine own_back ?_ (fun t k => XS.aloadN X97.here hx rfl (hb hby d2_134) rfl rfl k)
  show own_Go p e below PO (T97.setTop (mkF m 135 #[.val (.ref aT), .val (.ref aA), .val (.ref aB), .val (.ref aR), .val .null, .val (.int (4 : Int32)), .val (.int (-1 : Int32))] [(.ref aT)]))
  refine own_back ?_ (fun t k => XS.aload X97.here hx rfl (hb hby d2_135) rfl rfl k)
  show own_Go p e below PO (T97.setTop (mkF m 137 #[.val (.ref aT), .val (.ref aA), .val (.ref aB), .val (.ref aR), .val .null, .val (.int (4 : Int32)), .val (.int (-1 : Int32))] [.null, (.ref aT)]))
  refine own_back ?_ (fun t k => XS.ifnonnullNo X97.here hx rfl (hb hby d2_137) rfl k)
  show own_Go p e below PO (T97.setTop (mkF m 140 #[.val (.ref aT), .val (.ref aA), .val (.ref aB), .val (.ref aR), .val .null, .val (.int (4 : Int32)), .val (.int (-1 : Int32))] [(.ref aT)]))
  refine own_back ?_ (fun t k => XS.aconstNull X97.here hx rfl (hb hby d2_140) k)
  show own_Go p e below PO (T97.setTop (mkF m 141 #[.val (.ref aT), .val (.ref aA), .val (.ref aB), .val (.ref aR), .val .null, .val (.int (4 : Int32)), .val (.int (-1 : Int32))] [.null, (.ref aT)]))
  refine own_back ?_ (fun t k => XS.goto X97.here hx rfl (pc0 := 141) (pc' := 153) rfl (hb hby d2_141) (by decide) (by decide) k)
  show own_Go p e below PO (T97.setTop (mkF m 153 #[.val (.ref aT), .val (.ref aA), .val (.ref aB), .val (.ref aR), .val .null, .val (.int (4 : Int32)), .val (.int (-1 : Int32))] [.null, (.ref aT)]))
  obtain ⟨T111, h111, X111, e111, W111, st111⟩ := putF X97 hx hZ hown (host := "") (Or.inl (hw _ (List.mem_of_getElem? (i := 54) rfl))) Via.refl e97 f97_104 f97_100 (Or.inr ⟨(hw _ (List.mem_of_getElem? (i := 55) rfl)), rfl, hnm⟩) (hw _ (List.mem_of_getElem? (i := 8) rfl)) (ty := (.array .double)) (by decide) rfl rfl (g := (mkF m 153 #[.val (.ref aT), .val (.ref aA), .val (.ref aB), .val (.ref aR), .val .null, .val (.int (4 : Int32)), .val (.int (-1 : Int32))] [.null, (.ref aT)])) rfl rfl (hb hby d2_153)
  have Fw111 := f97_104.same W111
  have f111_112 := f97_98.wr W111
  have f111_113 := f97_99.other W111 (Ne.symm ne_aT_b3)
  have f111_114 := f97_100.wr W111
  have f111_115 := f97_101.other W111 (Or.inr (slot_ne (Or.inr (hw _ (List.mem_of_getElem? (i := 26) rfl))) (Or.inr (hw _ (List.mem_of_getElem? (i := 55) rfl))) (by decide) (t := (.array .int)) (t' := (.array .double)) (by decide) (by decide)))
  have f111_116 := f97_102.other W111 (Or.inr (slot_ne (Or.inr (hw _ (List.mem_of_getElem? (i := 28) rfl))) (Or.inr (hw _ (List.mem_of_getElem? (i := 55) rfl))) (by decide) (t := (.array .int)) (t' := (.array .double)) (by decide) (by decide)))
  have f111_117 := f97_103.other W111 (Or.inr (slot_ne (Or.inr (hw _ (List.mem_of_getElem? (i := 30) rfl))) (Or.inr (hw _ (List.mem_of_getElem? (i := 55) rfl))) (by decide) (t := (.array .int)) (t' := (.array .double)) (by decide) (by decide)))
  have f111_118 := Fw97.other W111 (Or.inr (slot_ne (Or.inr (hw _ (List.mem_of_getElem? (i := 53) rfl))) (Or.inr (hw _ (List.mem_of_getElem? (i := 55) rfl))) (by decide) (t := (.array .double)) (t' := (.array .double)) (by decide) (by decide)))
  have f111_119 := f97_105.wr W111
  have f111_120 := f97_106.other W111 (Ne.symm ne_aT_b13)
  have f111_121 := f97_107.wr W111
  have f111_122 := f97_108.other W111 (Ne.symm ne_aT_b33)
  have f111_123 := f97_109.wr W111
  have f111_124 := f97_110.other W111 (Ne.symm ne_aT_aN84)
  have K111 : Keep h0 h111 [aT] := (K97).wr W111 (Or.inl (by simp))
  have N111 := Fr.snoc X111 N97 gn_aT
  have Zh111 : n0 ≤ h111.size := Nat.le_trans Z0 K111.1
  have hk111 := Nat.le_trans hk97 (Keep.of_wr W111).1
  refine own_back ?_ st111
  show own_Go p e below PO (T111.setTop (mkF m 156 #[.val (.ref aT), .val (.ref aA), .val (.ref aB), .val (.ref aR), .val .null, .val (.int (4 : Int32)), .val (.int (-1 : Int32))] []))
  refine own_retVW X111 hx Bd.returns (hb hby d2_156) e111 (Bd.notSynchronized) ?_ (by decide) (by decide) (s := s) (vm0 := T71.vm) hS71 hk111
  exact ⟨rfl, N111, K111, aN84, sz_aN84, f111_118, f111_124⟩
theorem ef_rmI_b (m : MethodId) (x0 : Addr) (x1 : Addr) (x2 : Addr) (x3 : Addr) : entryFrame m #[(.ref x0), (.ref x1), (.ref x2), (.ref x3), .null] 7 = mkF m 0 #[.val (.ref x0), .val (.ref x1), .val (.ref x2), .val (.ref x3), .val .null, .unset, .unset] [] := by first | (simp [entryFrame, mkF, argsToLocals, Value.category]; done) | rfl
def Q_rmI_b (Z : State) (aT : Addr) (kR : ClassId) (u0 u1 u2 u3 : UInt64) (h0 : Heap) (n0 : Nat) (v : Option Value) (h : Heap) (L : List Loc) : Prop := v = none ∧ Fr n0 L ∧ Keep h0 h [aT] ∧ ∃ aN : Addr, h0.size ≤ aN ∧ Fld Z h aT "com/example/nearbound/nearbound/dcop/Constraint" "rewards" "[D" (.ref aN) ∧ Arv Z h aN kR .double (4 : Int32) [(.double u0), (.double u1), (.double u2), (.double u3)] (.double (0 : UInt64))
set_option maxRecDepth 65536 in
set_option maxHeartbeats 40000000 in
theorem rmI_b (l : Launch) (Z : State) (a0 : Array Value) (hw : ∀ d ∈ tables_1, d.before a0 Z = true) (ws : List Jvm.Cond) (aT : Addr) (aA : Addr) (aB : Addr) (aR : Addr) (kA kB kR kC : ClassId) (u0 u1 u2 u3 : UInt64) (h0 : Heap) (n0 : Nat) (Z0 : n0 ≤ h0.size) (E_T : Exa Z h0 aT "com/example/nearbound/nearbound/dcop/Constraint") (F_scope : Fld Z h0 aT "com/example/nearbound/nearbound/dcop/Constraint" "scope" "[I" .null) (F_sizes : Fld Z h0 aT "com/example/nearbound/nearbound/dcop/Constraint" "sizes" "[I" .null) (F_strides : Fld Z h0 aT "com/example/nearbound/nearbound/dcop/Constraint" "strides" "[I" .null) (F_rewards : Fld Z h0 aT "com/example/nearbound/nearbound/dcop/Constraint" "rewards" "[D" .null) (F_costs : Fld Z h0 aT "com/example/nearbound/nearbound/dcop/Constraint" "costs" "[D" .null) (E_A : Exa Z h0 aA "[I") (V_A : Arv Z h0 aA kA .int (2 : Int32) [(.int (0 : Int32)), (.int (1 : Int32))] (.int (0 : Int32))) (nA : aA ≠ aT) (E_B : Exa Z h0 aB "[I") (V_B : Arv Z h0 aB kB .int (2 : Int32) [(.int (2 : Int32)), (.int (2 : Int32))] (.int (0 : Int32))) (nB : aB ≠ aT) (E_R : Exa Z h0 aR "[D") (V_R : Arv Z h0 aR kR .double (4 : Int32) [(.double u0), (.double u1), (.double u2), (.double u3)] (.double (0 : UInt64))) (nR : aR ≠ aT) (gn_aT : n0 ≤ aT) :
    MetFree l (⟨"com/example/nearbound/nearbound/dcop/Constraint", "<init>", "([I[I[D[D)V"⟩ : MethodName) (head1 (Jvm.Cond.code (⟨"com/example/nearbound/nearbound/dcop/Constraint", "<init>", "([I[I[D[D)V"⟩ : MethodName) prog_2_method_1_code 7 none :: ws) ({ frames := 2, cells := 6, slots := 42, locals := 29 } : Room)) (fun a U => a = #[(.ref aT), (.ref aA), (.ref aB), (.ref aR), .null] ∧ Z.Warmed39 U.vm ∧ U.heap = h0) (fun _ _ _ _ _ => True) (fun _ U o U' => ∃ v L, o = .returned v ∧ Q_rmI_b Z aT kR u0 u1 u2 u3 h0 n0 v U'.heap L ∧ ReturnedEndW U o U' L ({ frames := 2, cells := 6, slots := 42, locals := 29 } : Room).cells ({ frames := 2, cells := 6, slots := 42, locals := 29 } : Room).slots) := by
  refine MetFree.of_bodySF (plainFor_of_name pn_0) hisR ?_
  intro p e s m args below meth c s₁ Bd hml0 hP hK
  obtain ⟨rfl, hZ, hh⟩ := hP
  have hx := Bd.exec
  have hby := Bd.bytes
  have hml : c.maxLocals = 7 := hml0
  have hown : s.vm.findClass "com/example/nearbound/nearbound/dcop/Constraint" = some m.cls := findClass_of_methodNamed Bd.named
  have hnm := (name_of_methodNamed Bd.named Bd.method).1
  have X0 : Stand p l e ({ frames := 2, cells := 6, slots := 42, locals := 29 } : Room) s m #[(.ref aT), (.ref aA), (.ref aB), (.ref aR), .null] below meth c s₁ [] 0 0 := Stand.of_body Bd
  have e0 : s₁.heap = h0 := by rw [← hh, Bd.state]; rfl
  have N0 := Fr.nil n0
  have hS0 : s.Since s.vm 0 := (State.WarmedH.refl s).since 0
  let PO : Outcome → State → Prop := own_POW s (Q_rmI_b Z aT kR u0 u1 u2 u3 h0 n0) 6 42
  show own_Go p e below PO (s₁.setTop (entryFrame m #[(.ref aT), (.ref aA), (.ref aB), (.ref aR), .null] 7))
  rw [ef_rmI_b]
  show own_Go p e below PO (s₁.setTop (mkF m 0 #[.val (.ref aT), .val (.ref aA), .val (.ref aB), .val (.ref aR), .val .null, .unset, .unset] []))
  refine own_back ?_ (fun t k => XS.aloadN X0.here hx rfl (hb hby d2_0) rfl rfl k)
  show own_Go p e below PO (s₁.setTop (mkF m 1 #[.val (.ref aT), .val (.ref aA), .val (.ref aB), .val (.ref aR), .val .null, .unset, .unset] [(.ref aT)]))
  obtain ⟨T1, X1, e1, st1⟩ := initO X0 hx hZ hown (hw _ (List.mem_of_getElem? (i := 13) rfl)) (hw _ (List.mem_of_getElem? (i := 14) rfl)) (hw _ (List.mem_of_getElem? (i := 15) rfl)) e0 (g := (mkF m 1 #[.val (.ref aT), .val (.ref aA), .val (.ref aB), .val (.ref aR), .val .null, .unset, .unset] [(.ref aT)])) rfl (by rw [hml]; rfl) rfl (hb hby d2_1) (by decide) (W := 0) (by show 2 * 0 + _ ≤ _; exact Nat.le_of_eq rfl) (by decide)
  refine own_back ?_ st1
  show own_Go p e below PO (T1.setTop (mkF m 4 #[.val (.ref aT), .val (.ref aA), .val (.ref aB), .val (.ref aR), .val .null, .unset, .unset] []))
  refine own_back ?_ (fun t k => XS.aloadN X1.here hx rfl (hb hby d2_4) rfl rfl k)
  show own_Go p e below PO (T1.setTop (mkF m 5 #[.val (.ref aT), .val (.ref aA), .val (.ref aB), .val (.ref aR), .val .null, .unset, .unset] [(.ref aA)]))
  refine own_back ?_ (own_len X1 hx hZ e1 V_A (g := (mkF m 5 #[.val (.ref aT), .val (.ref aA), .val (.ref aB), .val (.ref aR), .val .null, .unset, .unset] [(.ref aA)])) rfl rfl (hb hby d2_5))
  show own_Go p e below PO (T1.setTop (mkF m 6 #[.val (.ref aT), .val (.ref aA), .val (.ref aB), .val (.ref aR), .val .null, .unset, .unset] [(.int (2 : Int32))]))
  have hd6_2 : ¬ ((2 : Int32) = (0 : Int32)) := (by decide)
  refine own_back ?_ (fun t k => XS.ifNo X1.here hx rfl (hb hby d2_6) rfl ((if0 _ _).trans (feq hd6_2).1) k)
  show own_Go p e below PO (T1.setTop (mkF m 9 #[.val (.ref aT), .val (.ref aA), .val (.ref aB), .val (.ref aR), .val .null, .unset, .unset] []))
  refine own_back ?_ (fun t k => XS.aloadN X1.here hx rfl (hb hby d2_9) rfl rfl k)
  show own_Go p e below PO (T1.setTop (mkF m 10 #[.val (.ref aT), .val (.ref aA), .val (.ref aB), .val (.ref aR), .val .null, .unset, .unset] [(.ref aA)]))
  refine own_back ?_ (own_len X1 hx hZ e1 V_A (g := (mkF m 10 #[.val (.ref aT), .val (.ref aA), .val (.ref aB), .val (.ref aR), .val .null, .unset, .unset] [(.ref aA)])) rfl rfl (hb hby d2_10))
  show own_Go p e below PO (T1.setTop (mkF m 11 #[.val (.ref aT), .val (.ref aA), .val (.ref aB), .val (.ref aR), .val .null, .unset, .unset] [(.int (2 : Int32))]))
  refine own_back ?_ (fun t k => XS.aloadN X1.here hx rfl (hb hby d2_11) rfl rfl k)
  show own_Go p e below PO (T1.setTop (mkF m 12 #[.val (.ref aT), .val (.ref aA), .val (.ref aB), .val (.ref aR), .val .null, .unset, .unset] [(.ref aB), (.int (2 : Int32))]))
  refine own_back ?_ (own_len X1 hx hZ e1 V_B (g := (mkF m 12 #[.val (.ref aT), .val (.ref aA), .val (.ref aB), .val (.ref aR), .val .null, .unset, .unset] [(.ref aB), (.int (2 : Int32))])) rfl rfl (hb hby d2_12))
  show own_Go p e below PO (T1.setTop (mkF m 13 #[.val (.ref aT), .val (.ref aA), .val (.ref aB), .val (.ref aR), .val .null, .unset, .unset] [(.int (2 : Int32)), (.int (2 : Int32))]))
  refine own_back ?_ (fun t k => XS.icmpYes X1.here hx rfl (pc0 := 13) (pc' := 26) rfl (hb hby d2_13) rfl (teq rfl).1 (by decide) (by decide) k)
  show own_Go p e below PO (T1.setTop (mkF m 26 #[.val (.ref aT), .val (.ref aA), .val (.ref aB), .val (.ref aR), .val .null, .unset, .unset] []))
  refine own_back ?_ (fun t k => XS.aloadN X1.here hx rfl (hb hby d2_26) rfl rfl k)
  show own_Go p e below PO (T1.setTop (mkF m 27 #[.val (.ref aT), .val (.ref aA), .val (.ref aB), .val (.ref aR), .val .null, .unset, .unset] [(.ref aT)]))
  refine own_back ?_ (fun t k => XS.aloadN X1.here hx rfl (hb hby d2_27) rfl rfl k)
  show own_Go p e below PO (T1.setTop (mkF m 28 #[.val (.ref aT), .val (.ref aA), .val (.ref aB), .val (.ref aR), .val .null, .unset, .unset] [(.ref aA), (.ref aT)]))
  obtain ⟨T3, h3, X3, e3, E3, A3, Ex3, st3⟩ := cloneH X1 hx hZ hown (hw _ (List.mem_of_getElem? (i := 16) rfl)) (hw _ (List.mem_of_getElem? (i := 17) rfl)) (hw _ (List.mem_of_getElem? (i := 21) rfl)) (hw _ (List.mem_of_getElem? (i := 19) rfl)) (hw _ (List.mem_of_getElem? (i := 20) rfl)) (hw _ (List.mem_of_getElem? (i := 22) rfl)) e1 (V_A).arh E_A (g := (mkF m 28 #[.val (.ref aT), .val (.ref aA), .val (.ref aB), .val (.ref aR), .val .null, .unset, .unset] [(.ref aA), (.ref aT)])) rfl (by rw [hml]; rfl) rfl (hb hby d2_28) (by decide) (W := 1) (by show 2 * 0 + _ ≤ _; exact Nat.le_of_eq rfl) (by decide) (cap := 2) (by decide) (by decide) (by decide)
  obtain ⟨b3, g3⟩ : ∃ z, z = h0.size := ⟨_, rfl⟩
  rw [← g3] at A3 Ex3 st3
  have ne_aA_b3 : aA ≠ b3 := Nat.ne_of_lt (Nat.lt_of_lt_of_le V_A.lt (Nat.le_of_eq g3.symm))
  have ne_aB_b3 : aB ≠ b3 := Nat.ne_of_lt (Nat.lt_of_lt_of_le V_B.lt (Nat.le_of_eq g3.symm))
  have ne_aR_b3 : aR ≠ b3 := Nat.ne_of_lt (Nat.lt_of_lt_of_le V_R.lt (Nat.le_of_eq g3.symm))
  have ne_aT_b3 : aT ≠ b3 := Nat.ne_of_lt (Nat.lt_of_lt_of_le E_T.lt (Nat.le_of_eq g3.symm))
  have sz_b3 : h0.size ≤ b3 := Nat.le_of_eq g3.symm
  have gn_b3 : n0 ≤ b3 := Nat.le_trans Z0 sz_b3
  have K3 : Keep h0 h3 [] := (Keep.refl h0 []).ext E3
  have Zh3 : n0 ≤ h3.size := Nat.le_trans Z0 K3.1
  have V3 : Arv Z h3 b3 kA .int (2 : Int32) [(.int (0 : Int32)), (.int (1 : Int32))] (.int (0 : Int32)) := A3
  refine own_back ?_ st3
  show own_Go p e below PO (T3.setTop (mkF m 31 #[.val (.ref aT), .val (.ref aA), .val (.ref aB), .val (.ref aR), .val .null, .unset, .unset] [(.ref b3), (.ref aT)]))
  obtain ⟨T4, X4, e4, st4⟩ := castY X3 hx hZ hown (hw _ (List.mem_of_getElem? (i := 23) rfl)) e3 (Ins.self Ex3) (g := (mkF m 31 #[.val (.ref aT), .val (.ref aA), .val (.ref aB), .val (.ref aR), .val .null, .unset, .unset] [(.ref b3), (.ref aT)])) rfl rfl (hb hby d2_31)
  refine own_back ?_ st4
  show own_Go p e below PO (T4.setTop (mkF m 34 #[.val (.ref aT), .val (.ref aA), .val (.ref aB), .val (.ref aR), .val .null, .unset, .unset] [(.ref b3), (.ref aT)]))
  obtain ⟨T5, h5, X5, e5, W5, st5⟩ := putF X4 hx hZ hown (host := "") (Or.inl (hw _ (List.mem_of_getElem? (i := 25) rfl))) Via.refl e4 (F_scope.keep K3 nin0) (E_T.keep K3) (Or.inr ⟨(hw _ (List.mem_of_getElem? (i := 26) rfl)), rfl, hnm⟩) (hw _ (List.mem_of_getElem? (i := 8) rfl)) (ty := (.array .int)) (by decide) rfl rfl (g := (mkF m 34 #[.val (.ref aT), .val (.ref aA), .val (.ref aB), .val (.ref aR), .val .null, .unset, .unset] [(.ref b3), (.ref aT)])) rfl rfl (hb hby d2_34)
  have Fw5 := (F_scope.keep K3 nin0).same W5
  have f5_6 := Ex3.wr W5
  have f5_7 := V3.other W5 (Ne.symm ne_aT_b3)
  have f5_8 := (E_T.keep K3).wr W5
  have f5_9 := (F_sizes.keep K3 nin0).other W5 (Or.inr (slot_ne (Or.inr (hw _ (List.mem_of_getElem? (i := 28) rfl))) (Or.inr (hw _ (List.mem_of_getElem? (i := 26) rfl))) (by decide) (t := (.array .int)) (t' := (.array .int)) (by decide) (by decide)))
  have f5_10 := (F_strides.keep K3 nin0).other W5 (Or.inr (slot_ne (Or.inr (hw _ (List.mem_of_getElem? (i := 30) rfl))) (Or.inr (hw _ (List.mem_of_getElem? (i := 26) rfl))) (by decide) (t := (.array .int)) (t' := (.array .int)) (by decide) (by decide)))
  have f5_11 := (F_rewards.keep K3 nin0).other W5 (Or.inr (slot_ne (Or.inr (hw _ (List.mem_of_getElem? (i := 53) rfl))) (Or.inr (hw _ (List.mem_of_getElem? (i := 26) rfl))) (by decide) (t := (.array .double)) (t' := (.array .int)) (by decide) (by decide)))
  have f5_12 := (F_costs.keep K3 nin0).other W5 (Or.inr (slot_ne (Or.inr (hw _ (List.mem_of_getElem? (i := 55) rfl))) (Or.inr (hw _ (List.mem_of_getElem? (i := 26) rfl))) (by decide) (t := (.array .double)) (t' := (.array .int)) (by decide) (by decide)))
  have K5w : Keep h0 h3 [aT] := own_keep_more K3 (by simp)
  have K5 : Keep h0 h5 [aT] := (K5w).wr W5 (Or.inl (by simp))
  have N5 := Fr.snoc X5 N0 gn_aT
  have Zh5 : n0 ≤ h5.size := Nat.le_trans Z0 K5.1
  refine own_back ?_ st5
  show own_Go p e below PO (T5.setTop (mkF m 37 #[.val (.ref aT), .val (.ref aA), .val (.ref aB), .val (.ref aR), .val .null, .unset, .unset] []))
  refine own_back ?_ (fun t k => XS.aloadN X5.here hx rfl (hb hby d2_37) rfl rfl k)
  show own_Go p e below PO (T5.setTop (mkF m 38 #[.val (.ref aT), .val (.ref aA), .val (.ref aB), .val (.ref aR), .val .null, .unset, .unset] [(.ref aT)]))
  refine own_back ?_ (fun t k => XS.aloadN X5.here hx rfl (hb hby d2_38) rfl rfl k)
  show own_Go p e below PO (T5.setTop (mkF m 39 #[.val (.ref aT), .val (.ref aA), .val (.ref aB), .val (.ref aR), .val .null, .unset, .unset] [(.ref aB), (.ref aT)]))
  obtain ⟨T13, h13, X13, e13, E13, A13, Ex13, st13⟩ := cloneH X5 hx hZ hown (hw _ (List.mem_of_getElem? (i := 16) rfl)) (hw _ (List.mem_of_getElem? (i := 17) rfl)) (hw _ (List.mem_of_getElem? (i := 21) rfl)) (hw _ (List.mem_of_getElem? (i := 19) rfl)) (hw _ (List.mem_of_getElem? (i := 20) rfl)) (hw _ (List.mem_of_getElem? (i := 22) rfl)) e5 ((V_B.keep K5 (ninS nB nin0))).arh (E_B.keep K5) (g := (mkF m 39 #[.val (.ref aT), .val (.ref aA), .val (.ref aB), .val (.ref aR), .val .null, .unset, .unset] [(.ref aB), (.ref aT)])) rfl (by rw [hml]; rfl) rfl (hb hby d2_39) (by decide) (W := 1) (by show 2 * 0 + _ ≤ _; exact Nat.le_of_eq rfl) (by decide) (cap := 2) (by decide) (by decide) (by decide)
  obtain ⟨b13, g13⟩ : ∃ z, z = h5.size := ⟨_, rfl⟩
  rw [← g13] at A13 Ex13 st13
  have ne_aA_b13 : aA ≠ b13 := Nat.ne_of_lt (Nat.lt_of_lt_of_le (V_A.keep K5 (ninS nA nin0)).lt (Nat.le_of_eq g13.symm))
  have ne_aB_b13 : aB ≠ b13 := Nat.ne_of_lt (Nat.lt_of_lt_of_le (V_B.keep K5 (ninS nB nin0)).lt (Nat.le_of_eq g13.symm))
  have ne_aR_b13 : aR ≠ b13 := Nat.ne_of_lt (Nat.lt_of_lt_of_le (V_R.keep K5 (ninS nR nin0)).lt (Nat.le_of_eq g13.symm))
  have ne_aT_b13 : aT ≠ b13 := Nat.ne_of_lt (Nat.lt_of_lt_of_le f5_8.lt (Nat.le_of_eq g13.symm))
  have ne_b3_b13 : b3 ≠ b13 := Nat.ne_of_lt (Nat.lt_of_lt_of_le f5_6.lt (Nat.le_of_eq g13.symm))
  have sz_b13 : h0.size ≤ b13 := Nat.le_trans K5.1 (Nat.le_of_eq g13.symm)
  have gn_b13 : n0 ≤ b13 := Nat.le_trans Z0 sz_b13
  have f13_14 := f5_6.ext E13
  have f13_15 := f5_7.ext E13
  have f13_16 := f5_8.ext E13
  have f13_17 := Fw5.ext E13
  have f13_18 := f5_9.ext E13
  have f13_19 := f5_10.ext E13
  have f13_20 := f5_11.ext E13
  have f13_21 := f5_12.ext E13
  have K13 : Keep h0 h13 [aT] := (K5).ext E13
  have Zh13 : n0 ≤ h13.size := Nat.le_trans Z0 K13.1
  have V13 : Arv Z h13 b13 kB .int (2 : Int32) [(.int (2 : Int32)), (.int (2 : Int32))] (.int (0 : Int32)) := A13
  refine own_back ?_ st13
  show own_Go p e below PO (T13.setTop (mkF m 42 #[.val (.ref aT), .val (.ref aA), .val (.ref aB), .val (.ref aR), .val .null, .unset, .unset] [(.ref b13), (.ref aT)]))
  obtain ⟨T22, X22, e22, st22⟩ := castY X13 hx hZ hown (hw _ (List.mem_of_getElem? (i := 23) rfl)) e13 (Ins.self Ex13) (g := (mkF m 42 #[.val (.ref aT), .val (.ref aA), .val (.ref aB), .val (.ref aR), .val .null, .unset, .unset] [(.ref b13), (.ref aT)])) rfl rfl (hb hby d2_42)
  refine own_back ?_ st22
  show own_Go p e below PO (T22.setTop (mkF m 45 #[.val (.ref aT), .val (.ref aA), .val (.ref aB), .val (.ref aR), .val .null, .unset, .unset] [(.ref b13), (.ref aT)]))
  obtain ⟨T23, h23, X23, e23, W23, st23⟩ := putF X22 hx hZ hown (host := "") (Or.inl (hw _ (List.mem_of_getElem? (i := 27) rfl))) Via.refl e22 f13_18 f13_16 (Or.inr ⟨(hw _ (List.mem_of_getElem? (i := 28) rfl)), rfl, hnm⟩) (hw _ (List.mem_of_getElem? (i := 8) rfl)) (ty := (.array .int)) (by decide) rfl rfl (g := (mkF m 45 #[.val (.ref aT), .val (.ref aA), .val (.ref aB), .val (.ref aR), .val .null, .unset, .unset] [(.ref b13), (.ref aT)])) rfl rfl (hb hby d2_45)
  have Fw23 := f13_18.same W23
  have f23_24 := f13_14.wr W23
  have f23_25 := f13_15.other W23 (Ne.symm ne_aT_b3)
  have f23_26 := f13_16.wr W23
  have f23_27 := f13_17.other W23 (Or.inr (slot_ne (Or.inr (hw _ (List.mem_of_getElem? (i := 26) rfl))) (Or.inr (hw _ (List.mem_of_getElem? (i := 28) rfl))) (by decide) (t := (.array .int)) (t' := (.array .int)) (by decide) (by decide)))
  have f23_28 := f13_19.other W23 (Or.inr (slot_ne (Or.inr (hw _ (List.mem_of_getElem? (i := 30) rfl))) (Or.inr (hw _ (List.mem_of_getElem? (i := 28) rfl))) (by decide) (t := (.array .int)) (t' := (.array .int)) (by decide) (by decide)))
  have f23_29 := f13_20.other W23 (Or.inr (slot_ne (Or.inr (hw _ (List.mem_of_getElem? (i := 53) rfl))) (Or.inr (hw _ (List.mem_of_getElem? (i := 28) rfl))) (by decide) (t := (.array .double)) (t' := (.array .int)) (by decide) (by decide)))
  have f23_30 := f13_21.other W23 (Or.inr (slot_ne (Or.inr (hw _ (List.mem_of_getElem? (i := 55) rfl))) (Or.inr (hw _ (List.mem_of_getElem? (i := 28) rfl))) (by decide) (t := (.array .double)) (t' := (.array .int)) (by decide) (by decide)))
  have f23_31 := Ex13.wr W23
  have f23_32 := V13.other W23 (Ne.symm ne_aT_b13)
  have K23 : Keep h0 h23 [aT] := (K13).wr W23 (Or.inl (by simp))
  have N23 := Fr.snoc X23 N5 gn_aT
  have Zh23 : n0 ≤ h23.size := Nat.le_trans Z0 K23.1
  refine own_back ?_ st23
  show own_Go p e below PO (T23.setTop (mkF m 48 #[.val (.ref aT), .val (.ref aA), .val (.ref aB), .val (.ref aR), .val .null, .unset, .unset] []))
  refine own_back ?_ (fun t k => XS.aloadN X23.here hx rfl (hb hby d2_48) rfl rfl k)
  show own_Go p e below PO (T23.setTop (mkF m 49 #[.val (.ref aT), .val (.ref aA), .val (.ref aB), .val (.ref aR), .val .null, .unset, .unset] [(.ref aT)]))
  refine own_back ?_ (fun t k => XS.aloadN X23.here hx rfl (hb hby d2_49) rfl rfl k)
  show own_Go p e below PO (T23.setTop (mkF m 50 #[.val (.ref aT), .val (.ref aA), .val (.ref aB), .val (.ref aR), .val .null, .unset, .unset] [(.ref aA), (.ref aT)]))
  refine own_back ?_ (own_len X23 hx hZ e23 (V_A.keep K23 (ninS nA nin0)) (g := (mkF m 50 #[.val (.ref aT), .val (.ref aA), .val (.ref aB), .val (.ref aR), .val .null, .unset, .unset] [(.ref aA), (.ref aT)])) rfl rfl (hb hby d2_50))
  show own_Go p e below PO (T23.setTop (mkF m 51 #[.val (.ref aT), .val (.ref aA), .val (.ref aB), .val (.ref aR), .val .null, .unset, .unset] [(.int (2 : Int32)), (.ref aT)]))
  obtain ⟨T33, h33, k33, X33, e33, E33, A33, Ex33, st33⟩ := newPE X23 hx hZ (hw _ (List.mem_of_getElem? (i := 6) rfl)) e23 (g := (mkF m 51 #[.val (.ref aT), .val (.ref aA), .val (.ref aB), .val (.ref aR), .val .null, .unset, .unset] [(.int (2 : Int32)), (.ref aT)])) rfl (hb hby d2_51) rfl (by decide) (cap := 2) (by decide) (by decide) (by decide) (by decide) (ad := "[I") (by decide)
  obtain ⟨b33, g33⟩ : ∃ z, z = h23.size := ⟨_, rfl⟩
  rw [← g33] at A33 Ex33 st33
  have ne_aA_b33 : aA ≠ b33 := Nat.ne_of_lt (Nat.lt_of_lt_of_le (V_A.keep K23 (ninS nA nin0)).lt (Nat.le_of_eq g33.symm))
  have ne_aB_b33 : aB ≠ b33 := Nat.ne_of_lt (Nat.lt_of_lt_of_le (V_B.keep K23 (ninS nB nin0)).lt (Nat.le_of_eq g33.symm))
  have ne_aR_b33 : aR ≠ b33 := Nat.ne_of_lt (Nat.lt_of_lt_of_le (V_R.keep K23 (ninS nR nin0)).lt (Nat.le_of_eq g33.symm))
  have ne_aT_b33 : aT ≠ b33 := Nat.ne_of_lt (Nat.lt_of_lt_of_le f23_26.lt (Nat.le_of_eq g33.symm))
  have ne_b13_b33 : b13 ≠ b33 := Nat.ne_of_lt (Nat.lt_of_lt_of_le f23_31.lt (Nat.le_of_eq g33.symm))
  have ne_b3_b33 : b3 ≠ b33 := Nat.ne_of_lt (Nat.lt_of_lt_of_le f23_24.lt (Nat.le_of_eq g33.symm))
  have sz_b33 : h0.size ≤ b33 := Nat.le_trans K23.1 (Nat.le_of_eq g33.symm)
  have gn_b33 : n0 ≤ b33 := Nat.le_trans Z0 sz_b33
  have f33_34 := f23_24.ext E33
  have f33_35 := f23_25.ext E33
  have f33_36 := f23_26.ext E33
  have f33_37 := f23_27.ext E33
  have f33_38 := Fw23.ext E33
  have f33_39 := f23_28.ext E33
  have f33_40 := f23_29.ext E33
  have f33_41 := f23_30.ext E33
  have f33_42 := f23_31.ext E33
  have f33_43 := f23_32.ext E33
  have K33 : Keep h0 h33 [aT] := (K23).ext E33
  have Zh33 : n0 ≤ h33.size := Nat.le_trans Z0 K33.1
  have V33 : Arv Z h33 b33 k33 .int (2 : Int32) [(.int (0 : Int32)), (.int (0 : Int32))] (.int (0 : Int32)) := (Arv.new A33 (by decide)).pad (pad_rep [] (.int (0 : Int32)) 2)
  refine own_back ?_ st33
  show own_Go p e below PO (T33.setTop (mkF m 53 #[.val (.ref aT), .val (.ref aA), .val (.ref aB), .val (.ref aR), .val .null, .unset, .unset] [(.ref b33), (.ref aT)]))
  obtain ⟨T44, h44, X44, e44, W44, st44⟩ := putF X33 hx hZ hown (host := "") (Or.inl (hw _ (List.mem_of_getElem? (i := 29) rfl))) Via.refl e33 f33_39 f33_36 (Or.inr ⟨(hw _ (List.mem_of_getElem? (i := 30) rfl)), rfl, hnm⟩) (hw _ (List.mem_of_getElem? (i := 8) rfl)) (ty := (.array .int)) (by decide) rfl rfl (g := (mkF m 53 #[.val (.ref aT), .val (.ref aA), .val (.ref aB), .val (.ref aR), .val .null, .unset, .unset] [(.ref b33), (.ref aT)])) rfl rfl (hb hby d2_53)
  have Fw44 := f33_39.same W44
  have f44_45 := f33_34.wr W44
  have f44_46 := f33_35.other W44 (Ne.symm ne_aT_b3)
  have f44_47 := f33_36.wr W44
  have f44_48 := f33_37.other W44 (Or.inr (slot_ne (Or.inr (hw _ (List.mem_of_getElem? (i := 26) rfl))) (Or.inr (hw _ (List.mem_of_getElem? (i := 30) rfl))) (by decide) (t := (.array .int)) (t' := (.array .int)) (by decide) (by decide)))
  have f44_49 := f33_38.other W44 (Or.inr (slot_ne (Or.inr (hw _ (List.mem_of_getElem? (i := 28) rfl))) (Or.inr (hw _ (List.mem_of_getElem? (i := 30) rfl))) (by decide) (t := (.array .int)) (t' := (.array .int)) (by decide) (by decide)))
  have f44_50 := f33_40.other W44 (Or.inr (slot_ne (Or.inr (hw _ (List.mem_of_getElem? (i := 53) rfl))) (Or.inr (hw _ (List.mem_of_getElem? (i := 30) rfl))) (by decide) (t := (.array .double)) (t' := (.array .int)) (by decide) (by decide)))
  have f44_51 := f33_41.other W44 (Or.inr (slot_ne (Or.inr (hw _ (List.mem_of_getElem? (i := 55) rfl))) (Or.inr (hw _ (List.mem_of_getElem? (i := 30) rfl))) (by decide) (t := (.array .double)) (t' := (.array .int)) (by decide) (by decide)))
  have f44_52 := f33_42.wr W44
  have f44_53 := f33_43.other W44 (Ne.symm ne_aT_b13)
  have f44_54 := Ex33.wr W44
  have f44_55 := V33.other W44 (Ne.symm ne_aT_b33)
  have K44 : Keep h0 h44 [aT] := (K33).wr W44 (Or.inl (by simp))
  have N44 := Fr.snoc X44 N23 gn_aT
  have Zh44 : n0 ≤ h44.size := Nat.le_trans Z0 K44.1
  refine own_back ?_ st44
  show own_Go p e below PO (T44.setTop (mkF m 56 #[.val (.ref aT), .val (.ref aA), .val (.ref aB), .val (.ref aR), .val .null, .unset, .unset] []))
  refine own_back ?_ (fun t k => XS.iconst X44.here hx rfl (hb hby d2_56) k)
  show own_Go p e below PO (T44.setTop (mkF m 57 #[.val (.ref aT), .val (.ref aA), .val (.ref aB), .val (.ref aR), .val .null, .unset, .unset] [(.int (1 : Int32))]))
  refine own_back ?_ (fun t k => XS.istore X44.here hx rfl (hb hby d2_57) rfl (l' := #[.val (.ref aT), .val (.ref aA), .val (.ref aB), .val (.ref aR), .val .null, .val (.int (1 : Int32)), .unset]) rfl k)
  show own_Go p e below PO (T44.setTop (mkF m 59 #[.val (.ref aT), .val (.ref aA), .val (.ref aB), .val (.ref aR), .val .null, .val (.int (1 : Int32)), .unset] []))
  refine own_back ?_ (fun t k => XS.aloadN X44.here hx rfl (hb hby d2_59) rfl rfl k)
  show own_Go p e below PO (T44.setTop (mkF m 60 #[.val (.ref aT), .val (.ref aA), .val (.ref aB), .val (.ref aR), .val .null, .val (.int (1 : Int32)), .unset] [(.ref aA)]))
  refine own_back ?_ (own_len X44 hx hZ e44 (V_A.keep K44 (ninS nA nin0)) (g := (mkF m 60 #[.val (.ref aT), .val (.ref aA), .val (.ref aB), .val (.ref aR), .val .null, .val (.int (1 : Int32)), .unset] [(.ref aA)])) rfl rfl (hb hby d2_60))
  show own_Go p e below PO (T44.setTop (mkF m 61 #[.val (.ref aT), .val (.ref aA), .val (.ref aB), .val (.ref aR), .val .null, .val (.int (1 : Int32)), .unset] [(.int (2 : Int32))]))
  refine own_back ?_ (fun t k => XS.iconst X44.here hx rfl (hb hby d2_61) k)
  show own_Go p e below PO (T44.setTop (mkF m 62 #[.val (.ref aT), .val (.ref aA), .val (.ref aB), .val (.ref aR), .val .null, .val (.int (1 : Int32)), .unset] [(.int (1 : Int32)), (.int (2 : Int32))]))
  refine own_back ?_ (fun t k => XS.isub X44.here hx rfl (hb hby d2_62) rfl k)
  show own_Go p e below PO (T44.setTop (mkF m 63 #[.val (.ref aT), .val (.ref aA), .val (.ref aB), .val (.ref aR), .val .null, .val (.int (1 : Int32)), .unset] [(.int (1 : Int32))]))
  refine own_back ?_ (fun t k => XS.istore X44.here hx rfl (hb hby d2_63) rfl (l' := #[.val (.ref aT), .val (.ref aA), .val (.ref aB), .val (.ref aR), .val .null, .val (.int (1 : Int32)), .val (.int (1 : Int32))]) rfl k)
  show own_Go p e below PO (T44.setTop (mkF m 65 #[.val (.ref aT), .val (.ref aA), .val (.ref aB), .val (.ref aR), .val .null, .val (.int (1 : Int32)), .val (.int (1 : Int32))] []))
  refine own_back ?_ (fun t k => XS.iload X44.here hx rfl (hb hby d2_65) rfl k)
  show own_Go p e below PO (T44.setTop (mkF m 67 #[.val (.ref aT), .val (.ref aA), .val (.ref aB), .val (.ref aR), .val .null, .val (.int (1 : Int32)), .val (.int (1 : Int32))] [(.int (1 : Int32))]))
  have hd67_56 : ¬ ((1 : Int32) < (0 : Int32)) := (by decide)
  refine own_back ?_ (fun t k => XS.ifNo X44.here hx rfl (hb hby d2_67) rfl ((if0 _ _).trans (flt hd67_56).1) k)
  show own_Go p e below PO (T44.setTop (mkF m 70 #[.val (.ref aT), .val (.ref aA), .val (.ref aB), .val (.ref aR), .val .null, .val (.int (1 : Int32)), .val (.int (1 : Int32))] []))
  refine own_back ?_ (fun t k => XS.aloadN X44.here hx rfl (hb hby d2_70) rfl rfl k)
  show own_Go p e below PO (T44.setTop (mkF m 71 #[.val (.ref aT), .val (.ref aA), .val (.ref aB), .val (.ref aR), .val .null, .val (.int (1 : Int32)), .val (.int (1 : Int32))] [(.ref aT)]))
  obtain ⟨T57, X57, e57, st57⟩ := getF X44 hx hZ hown (host := "") (Or.inl (hw _ (List.mem_of_getElem? (i := 29) rfl))) Via.refl e44 Fw44 (g := (mkF m 71 #[.val (.ref aT), .val (.ref aA), .val (.ref aB), .val (.ref aR), .val .null, .val (.int (1 : Int32)), .val (.int (1 : Int32))] [(.ref aT)])) rfl rfl (hb hby d2_71)
  refine own_back ?_ st57
  show own_Go p e below PO (T57.setTop (mkF m 74 #[.val (.ref aT), .val (.ref aA), .val (.ref aB), .val (.ref aR), .val .null, .val (.int (1 : Int32)), .val (.int (1 : Int32))] [(.ref b33)]))
  refine own_back ?_ (fun t k => XS.iload X57.here hx rfl (hb hby d2_74) rfl k)
  show own_Go p e below PO (T57.setTop (mkF m 76 #[.val (.ref aT), .val (.ref aA), .val (.ref aB), .val (.ref aR), .val .null, .val (.int (1 : Int32)), .val (.int (1 : Int32))] [(.int (1 : Int32)), (.ref b33)]))
  refine own_back ?_ (fun t k => XS.iload X57.here hx rfl (hb hby d2_76) rfl k)
  show own_Go p e below PO (T57.setTop (mkF m 78 #[.val (.ref aT), .val (.ref aA), .val (.ref aB), .val (.ref aR), .val .null, .val (.int (1 : Int32)), .val (.int (1 : Int32))] [(.int (1 : Int32)), (.int (1 : Int32)), (.ref b33)]))
  obtain ⟨T58, h58, X58, e58, W58, V58, st58⟩ := own_stI X57 hx hZ e57 f44_55 (j := (1 : Int32)) ⟨by decide, by decide⟩ (i := 1) rfl (by show 1 < 2; decide) (g := (mkF m 78 #[.val (.ref aT), .val (.ref aA), .val (.ref aB), .val (.ref aR), .val .null, .val (.int (1 : Int32)), .val (.int (1 : Int32))] [(.int (1 : Int32)), (.int (1 : Int32)), (.ref b33)])) rfl rfl (hb hby d2_78)
  replace V58 : Arv Z h58 b33 k33 .int (2 : Int32) [(.int (0 : Int32)), (.int (1 : Int32))] (.int (0 : Int32)) := V58
  have f58_59 := f44_45.wr W58
  have f58_60 := f44_46.other W58 ne_b3_b33
  have f58_61 := f44_47.wr W58
  have f58_62 := f44_48.other W58 (Or.inl ne_aT_b33)
  have f58_63 := f44_49.other W58 (Or.inl ne_aT_b33)
  have f58_64 := Fw44.other W58 (Or.inl ne_aT_b33)
  have f58_65 := f44_50.other W58 (Or.inl ne_aT_b33)
  have f58_66 := f44_51.other W58 (Or.inl ne_aT_b33)
  have f58_67 := f44_52.wr W58
  have f58_68 := f44_53.other W58 ne_b13_b33
  have f58_69 := f44_54.wr W58
  have K58 : Keep h0 h58 [aT] := (K44).wr W58 (Or.inr sz_b33)
  have N58 := Fr.snoc X58 N44 gn_b33
  have Zh58 : n0 ≤ h58.size := Nat.le_trans Z0 K58.1
  refine own_back ?_ st58
  show own_Go p e below PO (T58.setTop (mkF m 79 #[.val (.ref aT), .val (.ref aA), .val (.ref aB), .val (.ref aR), .val .null, .val (.int (1 : Int32)), .val (.int (1 : Int32))] []))
  refine own_back ?_ (fun t k => XS.iload X58.here hx rfl (hb hby d2_79) rfl k)
  show own_Go p e below PO (T58.setTop (mkF m 81 #[.val (.ref aT), .val (.ref aA), .val (.ref aB), .val (.ref aR), .val .null, .val (.int (1 : Int32)), .val (.int (1 : Int32))] [(.int (1 : Int32))]))
  refine own_back ?_ (fun t k => XS.aloadN X58.here hx rfl (hb hby d2_81) rfl rfl k)
  show own_Go p e below PO (T58.setTop (mkF m 82 #[.val (.ref aT), .val (.ref aA), .val (.ref aB), .val (.ref aR), .val .null, .val (.int (1 : Int32)), .val (.int (1 : Int32))] [(.ref aB), (.int (1 : Int32))]))
  refine own_back ?_ (fun t k => XS.iload X58.here hx rfl (hb hby d2_82) rfl k)
  show own_Go p e below PO (T58.setTop (mkF m 84 #[.val (.ref aT), .val (.ref aA), .val (.ref aB), .val (.ref aR), .val .null, .val (.int (1 : Int32)), .val (.int (1 : Int32))] [(.int (1 : Int32)), (.ref aB), (.int (1 : Int32))]))
  refine own_back ?_ (own_ldI X58 hx hZ e58 (V_B.keep K58 (ninS nB nin0)) (j := (1 : Int32)) (v := (.int (2 : Int32))) ⟨by decide, by decide⟩ rfl (g := (mkF m 84 #[.val (.ref aT), .val (.ref aA), .val (.ref aB), .val (.ref aR), .val .null, .val (.int (1 : Int32)), .val (.int (1 : Int32))] [(.int (1 : Int32)), (.ref aB), (.int (1 : Int32))])) rfl rfl (hb hby d2_84))
  show own_Go p e below PO (T58.setTop (mkF m 85 #[.val (.ref aT), .val (.ref aA), .val (.ref aB), .val (.ref aR), .val .null, .val (.int (1 : Int32)), .val (.int (1 : Int32))] [(.int (2 : Int32)), (.int (1 : Int32))]))
  obtain ⟨_, _, ⟨T70, L70, k70, n70⟩, -, X70, ⟨Lc70, hQ70, l70, y70, z70⟩, st70⟩ := Jvm.LawKit.callS X58 hx (y := (⟨"java/lang/Math", "multiplyExact", "(II)I"⟩ : MethodName)) hown (mvT hZ (hw _ (List.mem_of_getElem? (i := 31) rfl))) (mvT hZ (hw _ (List.mem_of_getElem? (i := 32) rfl))) (mvT hZ (hw _ (List.mem_of_getElem? (i := 33) rfl))) (mvT hZ (hw _ (List.mem_of_getElem? (i := 34) rfl))) (by decide) (backOf (W := 0) (rmMul_1_2 l Z a0 hw []   h58 n0 Zh58 ) hZ (hw _ (List.mem_of_getElem? (i := 34) rfl)) (hw _ (List.mem_of_getElem? (i := 33) rfl)) (by decide) (by decide)) (g := (mkF m 85 #[.val (.ref aT), .val (.ref aA), .val (.ref aB), .val (.ref aR), .val .null, .val (.int (1 : Int32)), .val (.int (1 : Int32))] [(.int (2 : Int32)), (.int (1 : Int32))])) rfl (by rw [hml]; rfl) (argsL := [(.int (1 : Int32)), (.int (2 : Int32))]) (rest := []) (lenOf pd_0 rfl) rfl (by show 2 * 0 + _ ≤ _; exact Nat.le_of_eq rfl) (hb hby d2_85) (fun _ _ => ⟨rfl, e58, (by decide : 3 + 0 ≤ _), (by decide : 6 + 0 ≤ _)⟩)
  dsimp only [Pt.U, Pt.locs, Pt.cells, Pt.slots] at X70 l70 y70 z70 st70 hQ70
  subst l70 y70 z70
  obtain ⟨rfl, N70q, e70⟩ := hQ70
  have N70 := Fr.app N58 N70q
  refine own_back ?_ st70
  show own_Go p e below PO (T70.setTop (mkF m 88 #[.val (.ref aT), .val (.ref aA), .val (.ref aB), .val (.ref aR), .val .null, .val (.int (1 : Int32)), .val (.int (1 : Int32))] [(.int (2 : Int32))]))
  refine own_back ?_ (fun t k => XS.istore X70.here hx rfl (hb hby d2_88) rfl (l' := #[.val (.ref aT), .val (.ref aA), .val (.ref aB), .val (.ref aR), .val .null, .val (.int (2 : Int32)), .val (.int (1 : Int32))]) rfl k)
  show own_Go p e below PO (T70.setTop (mkF m 90 #[.val (.ref aT), .val (.ref aA), .val (.ref aB), .val (.ref aR), .val .null, .val (.int (2 : Int32)), .val (.int (1 : Int32))] []))
  refine own_back ?_ (fun t k => XS.iinc X70.here hx rfl (hb hby d2_90) rfl (l' := #[.val (.ref aT), .val (.ref aA), .val (.ref aB), .val (.ref aR), .val .null, .val (.int (2 : Int32)), .val (.int (0 : Int32))]) rfl k)
  show own_Go p e below PO (T70.setTop (mkF m 93 #[.val (.ref aT), .val (.ref aA), .val (.ref aB), .val (.ref aR), .val .null, .val (.int (2 : Int32)), .val (.int (0 : Int32))] []))
  refine own_back ?_ (fun t k => XS.goto X70.here hx rfl (pc0 := 93) (pc' := 65) rfl (hb hby d2_93) (by decide) (by decide) k)
  show own_Go p e below PO (T70.setTop (mkF m 65 #[.val (.ref aT), .val (.ref aA), .val (.ref aB), .val (.ref aR), .val .null, .val (.int (2 : Int32)), .val (.int (0 : Int32))] []))
  refine own_back ?_ (fun t k => XS.iload X70.here hx rfl (hb hby d2_65) rfl k)
  show own_Go p e below PO (T70.setTop (mkF m 67 #[.val (.ref aT), .val (.ref aA), .val (.ref aB), .val (.ref aR), .val .null, .val (.int (2 : Int32)), .val (.int (0 : Int32))] [(.int (0 : Int32))]))
  refine own_back ?_ (fun t k => XS.ifNo X70.here hx rfl (hb hby d2_67) rfl ((if0 _ _).trans (flt Int32.lt_irrefl).1) k)
  show own_Go p e below PO (T70.setTop (mkF m 70 #[.val (.ref aT), .val (.ref aA), .val (.ref aB), .val (.ref aR), .val .null, .val (.int (2 : Int32)), .val (.int (0 : Int32))] []))
  refine own_back ?_ (fun t k => XS.aloadN X70.here hx rfl (hb hby d2_70) rfl rfl k)
  show own_Go p e below PO (T70.setTop (mkF m 71 #[.val (.ref aT), .val (.ref aA), .val (.ref aB), .val (.ref aR), .val .null, .val (.int (2 : Int32)), .val (.int (0 : Int32))] [(.ref aT)]))
  obtain ⟨T71, X71, e71, st71⟩ := getF X70 hx hZ hown (host := "") (Or.inl (hw _ (List.mem_of_getElem? (i := 29) rfl))) Via.refl e70 f58_64 (g := (mkF m 71 #[.val (.ref aT), .val (.ref aA), .val (.ref aB), .val (.ref aR), .val .null, .val (.int (2 : Int32)), .val (.int (0 : Int32))] [(.ref aT)])) rfl rfl (hb hby d2_71)
  refine own_back ?_ st71
  show own_Go p e below PO (T71.setTop (mkF m 74 #[.val (.ref aT), .val (.ref aA), .val (.ref aB), .val (.ref aR), .val .null, .val (.int (2 : Int32)), .val (.int (0 : Int32))] [(.ref b33)]))
  refine own_back ?_ (fun t k => XS.iload X71.here hx rfl (hb hby d2_74) rfl k)
  show own_Go p e below PO (T71.setTop (mkF m 76 #[.val (.ref aT), .val (.ref aA), .val (.ref aB), .val (.ref aR), .val .null, .val (.int (2 : Int32)), .val (.int (0 : Int32))] [(.int (0 : Int32)), (.ref b33)]))
  refine own_back ?_ (fun t k => XS.iload X71.here hx rfl (hb hby d2_76) rfl k)
  show own_Go p e below PO (T71.setTop (mkF m 78 #[.val (.ref aT), .val (.ref aA), .val (.ref aB), .val (.ref aR), .val .null, .val (.int (2 : Int32)), .val (.int (0 : Int32))] [(.int (2 : Int32)), (.int (0 : Int32)), (.ref b33)]))
  obtain ⟨T72, h72, X72, e72, W72, V72, st72⟩ := own_stI X71 hx hZ e71 V58 (j := (0 : Int32)) ⟨by decide, by decide⟩ (i := 0) rfl (by show 0 < 2; decide) (g := (mkF m 78 #[.val (.ref aT), .val (.ref aA), .val (.ref aB), .val (.ref aR), .val .null, .val (.int (2 : Int32)), .val (.int (0 : Int32))] [(.int (2 : Int32)), (.int (0 : Int32)), (.ref b33)])) rfl rfl (hb hby d2_78)
  replace V72 : Arv Z h72 b33 k33 .int (2 : Int32) [(.int (2 : Int32)), (.int (1 : Int32))] (.int (0 : Int32)) := V72
  have f72_73 := f58_59.wr W72
  have f72_74 := f58_60.other W72 ne_b3_b33
  have f72_75 := f58_61.wr W72
  have f72_76 := f58_62.other W72 (Or.inl ne_aT_b33)
  have f72_77 := f58_63.other W72 (Or.inl ne_aT_b33)
  have f72_78 := f58_64.other W72 (Or.inl ne_aT_b33)
  have f72_79 := f58_65.other W72 (Or.inl ne_aT_b33)
  have f72_80 := f58_66.other W72 (Or.inl ne_aT_b33)
  have f72_81 := f58_67.wr W72
  have f72_82 := f58_68.other W72 ne_b13_b33
  have f72_83 := f58_69.wr W72
  have K72 : Keep h0 h72 [aT] := (K58).wr W72 (Or.inr sz_b33)
  have N72 := Fr.snoc X72 N70 gn_b33
  have Zh72 : n0 ≤ h72.size := Nat.le_trans Z0 K72.1
  refine own_back ?_ st72
  show own_Go p e below PO (T72.setTop (mkF m 79 #[.val (.ref aT), .val (.ref aA), .val (.ref aB), .val (.ref aR), .val .null, .val (.int (2 : Int32)), .val (.int (0 : Int32))] []))
  refine own_back ?_ (fun t k => XS.iload X72.here hx rfl (hb hby d2_79) rfl k)
  show own_Go p e below PO (T72.setTop (mkF m 81 #[.val (.ref aT), .val (.ref aA), .val (.ref aB), .val (.ref aR), .val .null, .val (.int (2 : Int32)), .val (.int (0 : Int32))] [(.int (2 : Int32))]))
  refine own_back ?_ (fun t k => XS.aloadN X72.here hx rfl (hb hby d2_81) rfl rfl k)
  show own_Go p e below PO (T72.setTop (mkF m 82 #[.val (.ref aT), .val (.ref aA), .val (.ref aB), .val (.ref aR), .val .null, .val (.int (2 : Int32)), .val (.int (0 : Int32))] [(.ref aB), (.int (2 : Int32))]))
  refine own_back ?_ (fun t k => XS.iload X72.here hx rfl (hb hby d2_82) rfl k)
  show own_Go p e below PO (T72.setTop (mkF m 84 #[.val (.ref aT), .val (.ref aA), .val (.ref aB), .val (.ref aR), .val .null, .val (.int (2 : Int32)), .val (.int (0 : Int32))] [(.int (0 : Int32)), (.ref aB), (.int (2 : Int32))]))
  refine own_back ?_ (own_ldI X72 hx hZ e72 (V_B.keep K72 (ninS nB nin0)) (j := (0 : Int32)) (v := (.int (2 : Int32))) ⟨by decide, by decide⟩ rfl (g := (mkF m 84 #[.val (.ref aT), .val (.ref aA), .val (.ref aB), .val (.ref aR), .val .null, .val (.int (2 : Int32)), .val (.int (0 : Int32))] [(.int (0 : Int32)), (.ref aB), (.int (2 : Int32))])) rfl rfl (hb hby d2_84))
  show own_Go p e below PO (T72.setTop (mkF m 85 #[.val (.ref aT), .val (.ref aA), .val (.ref aB), .val (.ref aR), .val .null, .val (.int (2 : Int32)), .val (.int (0 : Int32))] [(.int (2 : Int32)), (.int (2 : Int32))]))
  obtain ⟨_, _, ⟨T84, L84, k84, n84⟩, -, X84, ⟨Lc84, hQ84, l84, y84, z84⟩, st84⟩ := Jvm.LawKit.callS X72 hx (y := (⟨"java/lang/Math", "multiplyExact", "(II)I"⟩ : MethodName)) hown (mvT hZ (hw _ (List.mem_of_getElem? (i := 31) rfl))) (mvT hZ (hw _ (List.mem_of_getElem? (i := 32) rfl))) (mvT hZ (hw _ (List.mem_of_getElem? (i := 33) rfl))) (mvT hZ (hw _ (List.mem_of_getElem? (i := 34) rfl))) (by decide) (backOf (W := 0) (rmMul_2_2 l Z a0 hw []   h72 n0 Zh72 ) hZ (hw _ (List.mem_of_getElem? (i := 34) rfl)) (hw _ (List.mem_of_getElem? (i := 33) rfl)) (by decide) (by decide)) (g := (mkF m 85 #[.val (.ref aT), .val (.ref aA), .val (.ref aB), .val (.ref aR), .val .null, .val (.int (2 : Int32)), .val (.int (0 : Int32))] [(.int (2 : Int32)), (.int (2 : Int32))])) rfl (by rw [hml]; rfl) (argsL := [(.int (2 : Int32)), (.int (2 : Int32))]) (rest := []) (lenOf pd_0 rfl) rfl (by show 2 * 0 + _ ≤ _; exact Nat.le_of_eq rfl) (hb hby d2_85) (fun _ _ => ⟨rfl, e72, (by decide : 3 + 0 ≤ _), (by decide : 6 + 0 ≤ _)⟩)
  dsimp only [Pt.U, Pt.locs, Pt.cells, Pt.slots] at X84 l84 y84 z84 st84 hQ84
  subst l84 y84 z84
  obtain ⟨rfl, N84q, e84⟩ := hQ84
  have N84 := Fr.app N72 N84q
  refine own_back ?_ st84
  show own_Go p e below PO (T84.setTop (mkF m 88 #[.val (.ref aT), .val (.ref aA), .val (.ref aB), .val (.ref aR), .val .null, .val (.int (2 : Int32)), .val (.int (0 : Int32))] [(.int (4 : Int32))]))
  refine own_back ?_ (fun t k => XS.istore X84.here hx rfl (hb hby d2_88) rfl (l' := #[.val (.ref aT), .val (.ref aA), .val (.ref aB), .val (.ref aR), .val .null, .val (.int (4 : Int32)), .val (.int (0 : Int32))]) rfl k)
  show own_Go p e below PO (T84.setTop (mkF m 90 #[.val (.ref aT), .val (.ref aA), .val (.ref aB), .val (.ref aR), .val .null, .val (.int (4 : Int32)), .val (.int (0 : Int32))] []))
  refine own_back ?_ (fun t k => XS.iinc X84.here hx rfl (hb hby d2_90) rfl (l' := #[.val (.ref aT), .val (.ref aA), .val (.ref aB), .val (.ref aR), .val .null, .val (.int (4 : Int32)), .val (.int (-1 : Int32))]) rfl k)
  show own_Go p e below PO (T84.setTop (mkF m 93 #[.val (.ref aT), .val (.ref aA), .val (.ref aB), .val (.ref aR), .val .null, .val (.int (4 : Int32)), .val (.int (-1 : Int32))] []))
  refine own_back ?_ (fun t k => XS.goto X84.here hx rfl (pc0 := 93) (pc' := 65) rfl (hb hby d2_93) (by decide) (by decide) k)
  show own_Go p e below PO (T84.setTop (mkF m 65 #[.val (.ref aT), .val (.ref aA), .val (.ref aB), .val (.ref aR), .val .null, .val (.int (4 : Int32)), .val (.int (-1 : Int32))] []))
  refine own_back ?_ (fun t k => XS.iload X84.here hx rfl (hb hby d2_65) rfl k)
  show own_Go p e below PO (T84.setTop (mkF m 67 #[.val (.ref aT), .val (.ref aA), .val (.ref aB), .val (.ref aR), .val .null, .val (.int (4 : Int32)), .val (.int (-1 : Int32))] [(.int (-1 : Int32))]))
  have hd67_85 : (-1 : Int32) < (0 : Int32) := (by decide)
  refine own_back ?_ (fun t k => XS.ifYes X84.here hx rfl (pc0 := 67) (pc' := 96) rfl (hb hby d2_67) rfl ((if0 _ _).trans (tlt hd67_85).1) (by decide) (by decide) k)
  show own_Go p e below PO (T84.setTop (mkF m 96 #[.val (.ref aT), .val (.ref aA), .val (.ref aB), .val (.ref aR), .val .null, .val (.int (4 : Int32)), .val (.int (-1 : Int32))] []))
  refine own_back ?_ (fun t k => XS.aloadN X84.here hx rfl (hb hby d2_96) rfl rfl k)
  show own_Go p e below PO (T84.setTop (mkF m 97 #[.val (.ref aT), .val (.ref aA), .val (.ref aB), .val (.ref aR), .val .null, .val (.int (4 : Int32)), .val (.int (-1 : Int32))] [(.ref aT)]))
  refine own_back ?_ (fun t k => XS.aloadN X84.here hx rfl (hb hby d2_97) rfl rfl k)
  show own_Go p e below PO (T84.setTop (mkF m 98 #[.val (.ref aT), .val (.ref aA), .val (.ref aB), .val (.ref aR), .val .null, .val (.int (4 : Int32)), .val (.int (-1 : Int32))] [(.ref aR), (.ref aT)]))
  refine own_back ?_ (fun t k => XS.iload X84.here hx rfl (hb hby d2_98) rfl k)
  show own_Go p e below PO (T84.setTop (mkF m 100 #[.val (.ref aT), .val (.ref aA), .val (.ref aB), .val (.ref aR), .val .null, .val (.int (4 : Int32)), .val (.int (-1 : Int32))] [(.int (4 : Int32)), (.ref aR), (.ref aT)]))
  obtain ⟨aS86, T86, h86, k86, X86, e86, E86, hS86, hk86, hZ, hown, st86⟩ := ldcS (s := s) (vm0 := s.vm) X84 hx hZ hown (hw _ (List.mem_of_getElem? (i := 35) rfl)) (own_wS hw) e84 hS0 (Nat.zero_le _) (g := (mkF m 100 #[.val (.ref aT), .val (.ref aA), .val (.ref aB), .val (.ref aR), .val .null, .val (.int (4 : Int32)), .val (.int (-1 : Int32))] [(.int (4 : Int32)), (.ref aR), (.ref aT)])) rfl (hb hby d2_100) (n := 28) (by decide) (by decide) (by decide) (by decide)
  have f86_87 := f72_73.ext E86
  have f86_88 := f72_74.ext E86
  have f86_89 := f72_75.ext E86
  have f86_90 := f72_76.ext E86
  have f86_91 := f72_77.ext E86
  have f86_92 := f72_78.ext E86
  have f86_93 := f72_79.ext E86
  have f86_94 := f72_80.ext E86
  have f86_95 := f72_81.ext E86
  have f86_96 := f72_82.ext E86
  have f86_97 := f72_83.ext E86
  have f86_98 := V72.ext E86
  have K86 : Keep h0 h86 [aT] := (K72).ext E86
  have Zh86 : n0 ≤ h86.size := Nat.le_trans Z0 K86.1
  refine own_back ?_ st86
  show own_Go p e below PO (T86.setTop (mkF m 102 #[.val (.ref aT), .val (.ref aA), .val (.ref aB), .val (.ref aR), .val .null, .val (.int (4 : Int32)), .val (.int (-1 : Int32))] [(.ref aS86), (.int (4 : Int32)), (.ref aR), (.ref aT)]))
  obtain ⟨_, _, ⟨T99, L99, k99, n99⟩, -, X99, ⟨Lc99, hQ99, l99, y99, z99⟩, st99⟩ := Jvm.LawKit.callS X86 hx (y := (⟨"com/example/nearbound/nearbound/dcop/Constraint", "checkTable", "([DILjava/lang/String;)[D"⟩ : MethodName)) hown (mvT hZ (hw _ (List.mem_of_getElem? (i := 43) rfl))) (mvT hZ (hw _ (List.mem_of_getElem? (i := 44) rfl))) (mvT hZ (hw _ (List.mem_of_getElem? (i := 9) rfl))) (mvT hZ (hw _ (List.mem_of_getElem? (i := 45) rfl))) (by decide) (backOf (W := 1) (rmTab l Z a0 hw [] aR aS86 kR u0 u1 u2 u3 h86 n0 Zh86 (E_R.keep K86) (V_R.keep K86 (ninS nR nin0))) hZ (hw _ (List.mem_of_getElem? (i := 45) rfl)) (hw _ (List.mem_of_getElem? (i := 9) rfl)) (by decide) (by decide)) (g := (mkF m 102 #[.val (.ref aT), .val (.ref aA), .val (.ref aB), .val (.ref aR), .val .null, .val (.int (4 : Int32)), .val (.int (-1 : Int32))] [(.ref aS86), (.int (4 : Int32)), (.ref aR), (.ref aT)])) rfl (by rw [hml]; rfl) (argsL := [(.ref aR), (.int (4 : Int32)), (.ref aS86)]) (rest := [(.ref aT)]) (lenOf pd_1 rfl) rfl (by show 2 * 0 + _ ≤ _; exact Nat.le_of_eq rfl) (hb hby d2_102) (fun _ _ => ⟨rfl, e86, (by decide : 5 + 1 ≤ _), (by decide : 38 + 4 ≤ _)⟩)
  dsimp only [Pt.U, Pt.locs, Pt.cells, Pt.slots] at X99 l99 y99 z99 st99 hQ99
  subst l99 y99 z99
  obtain ⟨aN99, rfl, N99q, Kc99, sz99, EN99, VN99⟩ := hQ99
  have N99 := Fr.app N84 N99q
  have ne_aA_aN99 : aA ≠ aN99 := Nat.ne_of_lt (Nat.lt_of_lt_of_le (V_A.keep K86 (ninS nA nin0)).lt sz99)
  have ne_aB_aN99 : aB ≠ aN99 := Nat.ne_of_lt (Nat.lt_of_lt_of_le (V_B.keep K86 (ninS nB nin0)).lt sz99)
  have ne_aR_aN99 : aR ≠ aN99 := Nat.ne_of_lt (Nat.lt_of_lt_of_le (V_R.keep K86 (ninS nR nin0)).lt sz99)
  have ne_aT_aN99 : aT ≠ aN99 := Nat.ne_of_lt (Nat.lt_of_lt_of_le f86_89.lt sz99)
  have ne_b13_aN99 : b13 ≠ aN99 := Nat.ne_of_lt (Nat.lt_of_lt_of_le f86_95.lt sz99)
  have ne_b3_aN99 : b3 ≠ aN99 := Nat.ne_of_lt (Nat.lt_of_lt_of_le f86_87.lt sz99)
  have ne_b33_aN99 : b33 ≠ aN99 := Nat.ne_of_lt (Nat.lt_of_lt_of_le f86_97.lt sz99)
  have sz_aN99 : h0.size ≤ aN99 := Nat.le_trans K86.1 sz99
  have gn_aN99 : n0 ≤ aN99 := Nat.le_trans Z0 sz_aN99
  have f99_100 := f86_87.keep Kc99
  have f99_101 := f86_88.keep Kc99 nin0
  have f99_102 := f86_89.keep Kc99
  have f99_103 := f86_90.keep Kc99 nin0
  have f99_104 := f86_91.keep Kc99 nin0
  have f99_105 := f86_92.keep Kc99 nin0
  have f99_106 := f86_93.keep Kc99 nin0
  have f99_107 := f86_94.keep Kc99 nin0
  have f99_108 := f86_95.keep Kc99
  have f99_109 := f86_96.keep Kc99 nin0
  have f99_110 := f86_97.keep Kc99
  have f99_111 := f86_98.keep Kc99 nin0
  have K99 : Keep h0 T99.heap [aT] := (K86).trans Kc99 all0
  have Zh99 : n0 ≤ T99.heap.size := Nat.le_trans Z0 K99.1
  have hk99 := Nat.le_trans hk86 Kc99.1
  refine own_back ?_ st99
  show own_Go p e below PO (T99.setTop (mkF m 105 #[.val (.ref aT), .val (.ref aA), .val (.ref aB), .val (.ref aR), .val .null, .val (.int (4 : Int32)), .val (.int (-1 : Int32))] [(.ref aN99), (.ref aT)]))
  obtain ⟨T112, h112, X112, e112, W112, st112⟩ := putF X99 hx hZ hown (host := "") (Or.inl (hw _ (List.mem_of_getElem? (i := 52) rfl))) Via.refl rfl f99_106 f99_102 (Or.inr ⟨(hw _ (List.mem_of_getElem? (i := 53) rfl)), rfl, hnm⟩) (hw _ (List.mem_of_getElem? (i := 8) rfl)) (ty := (.array .double)) (by decide) rfl rfl (g := (mkF m 105 #[.val (.ref aT), .val (.ref aA), .val (.ref aB), .val (.ref aR), .val .null, .val (.int (4 : Int32)), .val (.int (-1 : Int32))] [(.ref aN99), (.ref aT)])) rfl rfl (hb hby d2_105)
  have Fw112 := f99_106.same W112
  have f112_113 := f99_100.wr W112
  have f112_114 := f99_101.other W112 (Ne.symm ne_aT_b3)
  have f112_115 := f99_102.wr W112
  have f112_116 := f99_103.other W112 (Or.inr (slot_ne (Or.inr (hw _ (List.mem_of_getElem? (i := 26) rfl))) (Or.inr (hw _ (List.mem_of_getElem? (i := 53) rfl))) (by decide) (t := (.array .int)) (t' := (.array .double)) (by decide) (by decide)))
  have f112_117 := f99_104.other W112 (Or.inr (slot_ne (Or.inr (hw _ (List.mem_of_getElem? (i := 28) rfl))) (Or.inr (hw _ (List.mem_of_getElem? (i := 53) rfl))) (by decide) (t := (.array .int)) (t' := (.array .double)) (by decide) (by decide)))
  have f112_118 := f99_105.other W112 (Or.inr (slot_ne (Or.inr (hw _ (List.mem_of_getElem? (i := 30) rfl))) (Or.inr (hw _ (List.mem_of_getElem? (i := 53) rfl))) (by decide) (t := (.array .int)) (t' := (.array .double)) (by decide) (by decide)))
  have f112_119 := f99_107.other W112 (Or.inr (slot_ne (Or.inr (hw _ (List.mem_of_getElem? (i := 55) rfl))) (Or.inr (hw _ (List.mem_of_getElem? (i := 53) rfl))) (by decide) (t := (.array .double)) (t' := (.array .double)) (by decide) (by decide)))
  have f112_120 := f99_108.wr W112
  have f112_121 := f99_109.other W112 (Ne.symm ne_aT_b13)
  have f112_122 := f99_110.wr W112
  have f112_123 := f99_111.other W112 (Ne.symm ne_aT_b33)
  have f112_124 := EN99.wr W112
  have f112_125 := VN99.other W112 (Ne.symm ne_aT_aN99)
  have K112 : Keep h0 h112 [aT] := (K99).wr W112 (Or.inl (by simp))
  have N112 := Fr.snoc X112 N99 gn_aT
  have Zh112 : n0 ≤ h112.size := Nat.le_trans Z0 K112.1
  have hk112 := Nat.le_trans hk99 (Keep.of_wr W112).1
  refine own_back ?_ st112
  show own_Go p e below PO (T112.setTop (mkF m 108 #[.val (.ref aT), .val (.ref aA), .val (.ref aB), .val (.ref aR), .val .null, .val (.int (4 : Int32)), .val (.int (-1 : Int32))] []))
  refine own_back ?_ (fun t k => XS.aload X112.here hx rfl (hb hby d2_108) rfl rfl k)
  show own_Go p e below PO (T112.setTop (mkF m 110 #[.val (.ref aT), .val (.ref aA), .val (.ref aB), .val (.ref aR), .val .null, .val (.int (4 : Int32)), .val (.int (-1 : Int32))] [.null]))
  refine own_back ?_ (fun t k => XS.ifnullYes X112.here hx rfl (pc0 := 110) (pc' := 134) rfl (hb hby d2_110) rfl (by decide) (by decide) k)
  show own_Go p e below PO (T112.setTop (mkF m 134 #[.val (.ref aT), .val (.ref aA), .val (.ref aB), .val (.ref aR), .val .null, .val (.int (4 : Int32)), .val (.int (-1 : Int32))] []))
  refine own_back ?_ (fun t k => XS.aloadN X112.here hx rfl (hb hby d2_134) rfl rfl k)
  show own_Go p e below PO (T112.setTop (mkF m 135 #[.val (.ref aT), .val (.ref aA), .val (.ref aB), .val (.ref aR), .val .null, .val (.int (4 : Int32)), .val (.int (-1 : Int32))] [(.ref aT)]))
  refine own_back ?_ (fun t k => XS.aload X112.here hx rfl (hb hby d2_135) rfl rfl k)
  show own_Go p e below PO (T112.setTop (mkF m 137 #[.val (.ref aT), .val (.ref aA), .val (.ref aB), .val (.ref aR), .val .null, .val (.int (4 : Int32)), .val (.int (-1 : Int32))] [.null, (.ref aT)]))
  refine own_back ?_ (fun t k => XS.ifnonnullNo X112.here hx rfl (hb hby d2_137) rfl k)
  show own_Go p e below PO (T112.setTop (mkF m 140 #[.val (.ref aT), .val (.ref aA), .val (.ref aB), .val (.ref aR), .val .null, .val (.int (4 : Int32)), .val (.int (-1 : Int32))] [(.ref aT)]))
  refine own_back ?_ (fun t k => XS.aconstNull X112.here hx rfl (hb hby d2_140) k)
  show own_Go p e below PO (T112.setTop (mkF m 141 #[.val (.ref aT), .val (.ref aA), .val (.ref aB), .val (.ref aR), .val .null, .val (.int (4 : Int32)), .val (.int (-1 : Int32))] [.null, (.ref aT)]))
  refine own_back ?_ (fun t k => XS.goto X112.here hx rfl (pc0 := 141) (pc' := 153) rfl (hb hby d2_141) (by decide) (by decide) k)
  show own_Go p e below PO (T112.setTop (mkF m 153 #[.val (.ref aT), .val (.ref aA), .val (.ref aB), .val (.ref aR), .val .null, .val (.int (4 : Int32)), .val (.int (-1 : Int32))] [.null, (.ref aT)]))
  obtain ⟨T126, h126, X126, e126, W126, st126⟩ := putF X112 hx hZ hown (host := "") (Or.inl (hw _ (List.mem_of_getElem? (i := 54) rfl))) Via.refl e112 f112_119 f112_115 (Or.inr ⟨(hw _ (List.mem_of_getElem? (i := 55) rfl)), rfl, hnm⟩) (hw _ (List.mem_of_getElem? (i := 8) rfl)) (ty := (.array .double)) (by decide) rfl rfl (g := (mkF m 153 #[.val (.ref aT), .val (.ref aA), .val (.ref aB), .val (.ref aR), .val .null, .val (.int (4 : Int32)), .val (.int (-1 : Int32))] [.null, (.ref aT)])) rfl rfl (hb hby d2_153)
  have Fw126 := f112_119.same W126
  have f126_127 := f112_113.wr W126
  have f126_128 := f112_114.other W126 (Ne.symm ne_aT_b3)
  have f126_129 := f112_115.wr W126
  have f126_130 := f112_116.other W126 (Or.inr (slot_ne (Or.inr (hw _ (List.mem_of_getElem? (i := 26) rfl))) (Or.inr (hw _ (List.mem_of_getElem? (i := 55) rfl))) (by decide) (t := (.array .int)) (t' := (.array .double)) (by decide) (by decide)))
  have f126_131 := f112_117.other W126 (Or.inr (slot_ne (Or.inr (hw _ (List.mem_of_getElem? (i := 28) rfl))) (Or.inr (hw _ (List.mem_of_getElem? (i := 55) rfl))) (by decide) (t := (.array .int)) (t' := (.array .double)) (by decide) (by decide)))
  have f126_132 := f112_118.other W126 (Or.inr (slot_ne (Or.inr (hw _ (List.mem_of_getElem? (i := 30) rfl))) (Or.inr (hw _ (List.mem_of_getElem? (i := 55) rfl))) (by decide) (t := (.array .int)) (t' := (.array .double)) (by decide) (by decide)))
  have f126_133 := Fw112.other W126 (Or.inr (slot_ne (Or.inr (hw _ (List.mem_of_getElem? (i := 53) rfl))) (Or.inr (hw _ (List.mem_of_getElem? (i := 55) rfl))) (by decide) (t := (.array .double)) (t' := (.array .double)) (by decide) (by decide)))
  have f126_134 := f112_120.wr W126
  have f126_135 := f112_121.other W126 (Ne.symm ne_aT_b13)
  have f126_136 := f112_122.wr W126
  have f126_137 := f112_123.other W126 (Ne.symm ne_aT_b33)
  have f126_138 := f112_124.wr W126
  have f126_139 := f112_125.other W126 (Ne.symm ne_aT_aN99)
  have K126 : Keep h0 h126 [aT] := (K112).wr W126 (Or.inl (by simp))
  have N126 := Fr.snoc X126 N112 gn_aT
  have Zh126 : n0 ≤ h126.size := Nat.le_trans Z0 K126.1
  have hk126 := Nat.le_trans hk112 (Keep.of_wr W126).1
  refine own_back ?_ st126
  show own_Go p e below PO (T126.setTop (mkF m 156 #[.val (.ref aT), .val (.ref aA), .val (.ref aB), .val (.ref aR), .val .null, .val (.int (4 : Int32)), .val (.int (-1 : Int32))] []))
  refine own_retVW X126 hx Bd.returns (hb hby d2_156) e126 (Bd.notSynchronized) ?_ (by decide) (by decide) (s := s) (vm0 := T86.vm) hS86 hk126
  exact ⟨rfl, N126, K126, aN99, sz_aN99, f126_133, f126_139⟩
theorem d2_113 : decode prog_2_method_1_code 113 = .ok (.aload_n 1, 1) := by decide +kernel
theorem d2_114 : decode prog_2_method_1_code 114 = .ok (.arraylength, 1) := by decide +kernel
theorem d2_115 : decode prog_2_method_1_code 115 = .ok (.iconst 2, 1) := by decide +kernel
theorem d2_116 : decode prog_2_method_1_code 116 = .ok (.if_icmp .eq 18, 3) := by decide +kernel
theorem d2_144 : decode prog_2_method_1_code 144 = .ok (.aload 4, 2) := by decide +kernel
theorem d2_146 : decode prog_2_method_1_code 146 = .ok (.iload 5, 2) := by decide +kernel
theorem d2_148 : decode prog_2_method_1_code 148 = .ok (.ldc 52, 2) := by decide +kernel
theorem d2_150 : decode prog_2_method_1_code 150 = .ok (.invokestatic 41, 3) := by decide +kernel
theorem ef_rmI_c (m : MethodId) (x0 : Addr) (x1 : Addr) (x2 : Addr) (x3 : Addr) (x4 : Addr) : entryFrame m #[(.ref x0), (.ref x1), (.ref x2), (.ref x3), (.ref x4)] 7 = mkF m 0 #[.val (.ref x0), .val (.ref x1), .val (.ref x2), .val (.ref x3), .val (.ref x4), .unset, .unset] [] := by first | (simp [entryFrame, mkF, argsToLocals, Value.category]; done) | rfl
def Q_rmI_c (Z : State) (aT : Addr) (kR : ClassId) (u0 u1 u2 u3 : UInt64) (h0 : Heap) (n0 : Nat) (v : Option Value) (h : Heap) (L : List Loc) : Prop := v = none ∧ Fr n0 L ∧ Keep h0 h [aT] ∧ ∃ aN : Addr, h0.size ≤ aN ∧ Fld Z h aT "com/example/nearbound/nearbound/dcop/Constraint" "rewards" "[D" (.ref aN) ∧ Arv Z h aN kR .double (4 : Int32) [(.double u0), (.double u1), (.double u2), (.double u3)] (.double (0 : UInt64))
set_option maxRecDepth 65536 in
set_option maxHeartbeats 40000000 in
theorem rmI_c (l : Launch) (Z : State) (a0 : Array Value) (hw : ∀ d ∈ tables_1, d.before a0 Z = true) (ws : List Jvm.Cond) (aT : Addr) (aA : Addr) (aB : Addr) (aR : Addr) (aC : Addr) (kA kB kR kC : ClassId) (u0 u1 u2 u3 : UInt64) (h0 : Heap) (n0 : Nat) (Z0 : n0 ≤ h0.size) (E_T : Exa Z h0 aT "com/example/nearbound/nearbound/dcop/Constraint") (F_scope : Fld Z h0 aT "com/example/nearbound/nearbound/dcop/Constraint" "scope" "[I" .null) (F_sizes : Fld Z h0 aT "com/example/nearbound/nearbound/dcop/Constraint" "sizes" "[I" .null) (F_strides : Fld Z h0 aT "com/example/nearbound/nearbound/dcop/Constraint" "strides" "[I" .null) (F_rewards : Fld Z h0 aT "com/example/nearbound/nearbound/dcop/Constraint" "rewards" "[D" .null) (F_costs : Fld Z h0 aT "com/example/nearbound/nearbound/dcop/Constraint" "costs" "[D" .null) (E_A : Exa Z h0 aA "[I") (V_A : Arv Z h0 aA kA .int (2 : Int32) [(.int (0 : Int32)), (.int (1 : Int32))] (.int (0 : Int32))) (nA : aA ≠ aT) (E_B : Exa Z h0 aB "[I") (V_B : Arv Z h0 aB kB .int (2 : Int32) [(.int (2 : Int32)), (.int (2 : Int32))] (.int (0 : Int32))) (nB : aB ≠ aT) (E_R : Exa Z h0 aR "[D") (V_R : Arv Z h0 aR kR .double (4 : Int32) [(.double u0), (.double u1), (.double u2), (.double u3)] (.double (0 : UInt64))) (nR : aR ≠ aT) (E_C : Exa Z h0 aC "[D") (V_C : Arv Z h0 aC kC .double (4 : Int32) [(.double (4607182418800017408 : UInt64)), (.double (4611686018427387904 : UInt64)), (.double (0 : UInt64)), (.double (4613937818241073152 : UInt64))] (.double (0 : UInt64))) (nC : aC ≠ aT) (gn_aT : n0 ≤ aT) :
    MetFree l (⟨"com/example/nearbound/nearbound/dcop/Constraint", "<init>", "([I[I[D[D)V"⟩ : MethodName) (head1 (Jvm.Cond.code (⟨"com/example/nearbound/nearbound/dcop/Constraint", "<init>", "([I[I[D[D)V"⟩ : MethodName) prog_2_method_1_code 7 none :: ws) ({ frames := 2, cells := 9, slots := 70, locals := 29 } : Room)) (fun a U => a = #[(.ref aT), (.ref aA), (.ref aB), (.ref aR), (.ref aC)] ∧ Z.Warmed39 U.vm ∧ U.heap = h0) (fun _ _ _ _ _ => True) (fun _ U o U' => ∃ v L, o = .returned v ∧ Q_rmI_c Z aT kR u0 u1 u2 u3 h0 n0 v U'.heap L ∧ ReturnedEndW U o U' L ({ frames := 2, cells := 9, slots := 70, locals := 29 } : Room).cells ({ frames := 2, cells := 9, slots := 70, locals := 29 } : Room).slots) := by
  refine MetFree.of_bodySF (plainFor_of_name pn_0) hisR ?_
  intro p e s m args below meth c s₁ Bd hml0 hP hK
  obtain ⟨rfl, hZ, hh⟩ := hP
  have hx := Bd.exec
  have hby := Bd.bytes
  have hml : c.maxLocals = 7 := hml0
  have hown : s.vm.findClass "com/example/nearbound/nearbound/dcop/Constraint" = some m.cls := findClass_of_methodNamed Bd.named
  have hnm := (name_of_methodNamed Bd.named Bd.method).1
  have X0 : Stand p l e ({ frames := 2, cells := 9, slots := 70, locals := 29 } : Room) s m #[(.ref aT), (.ref aA), (.ref aB), (.ref aR), (.ref aC)] below meth c s₁ [] 0 0 := Stand.of_body Bd
  have e0 : s₁.heap = h0 := by rw [← hh, Bd.state]; rfl
  have N0 := Fr.nil n0
  have hS0 : s.Since s.vm 0 := (State.WarmedH.refl s).since 0
  let PO : Outcome → State → Prop := own_POW s (Q_rmI_c Z aT kR u0 u1 u2 u3 h0 n0) 9 70
  show own_Go p e below PO (s₁.setTop (entryFrame m #[(.ref aT), (.ref aA), (.ref aB), (.ref aR), (.ref aC)] 7))
  rw [ef_rmI_c]
  show own_Go p e below PO (s₁.setTop (mkF m 0 #[.val (.ref aT), .val (.ref aA), .val (.ref aB), .val (.ref aR), .val (.ref aC), .unset, .unset] []))
  refine own_back ?_ (fun t k => XS.aloadN X0.here hx rfl (hb hby d2_0) rfl rfl k)
  show own_Go p e below PO (s₁.setTop (mkF m 1 #[.val (.ref aT), .val (.ref aA), .val (.ref aB), .val (.ref aR), .val (.ref aC), .unset, .unset] [(.ref aT)]))
  obtain ⟨T1, X1, e1, st1⟩ := initO X0 hx hZ hown (hw _ (List.mem_of_getElem? (i := 13) rfl)) (hw _ (List.mem_of_getElem? (i := 14) rfl)) (hw _ (List.mem_of_getElem? (i := 15) rfl)) e0 (g := (mkF m 1 #[.val (.ref aT), .val (.ref aA), .val (.ref aB), .val (.ref aR), .val (.ref aC), .unset, .unset] [(.ref aT)])) rfl (by rw [hml]; rfl) rfl (hb hby d2_1) (by decide) (W := 0) (by show 2 * 0 + _ ≤ _; exact Nat.le_of_eq rfl) (by decide)
  refine own_back ?_ st1
  show own_Go p e below PO (T1.setTop (mkF m 4 #[.val (.ref aT), .val (.ref aA), .val (.ref aB), .val (.ref aR), .val (.ref aC), .unset, .unset] []))
  refine own_back ?_ (fun t k => XS.aloadN X1.here hx rfl (hb hby d2_4) rfl rfl k)
  show own_Go p e below PO (T1.setTop (mkF m 5 #[.val (.ref aT), .val (.ref aA), .val (.ref aB), .val (.ref aR), .val (.ref aC), .unset, .unset] [(.ref aA)]))
  refine own_back ?_ (own_len X1 hx hZ e1 V_A (g := (mkF m 5 #[.val (.ref aT), .val (.ref aA), .val (.ref aB), .val (.ref aR), .val (.ref aC), .unset, .unset] [(.ref aA)])) rfl rfl (hb hby d2_5))
  show own_Go p e below PO (T1.setTop (mkF m 6 #[.val (.ref aT), .val (.ref aA), .val (.ref aB), .val (.ref aR), .val (.ref aC), .unset, .unset] [(.int (2 : Int32))]))
  have hd6_2 : ¬ ((2 : Int32) = (0 : Int32)) := (by decide)
  refine own_back ?_ (fun t k => XS.ifNo X1.here hx rfl (hb hby d2_6) rfl ((if0 _ _).trans (feq hd6_2).1) k)
  show own_Go p e below PO (T1.setTop (mkF m 9 #[.val (.ref aT), .val (.ref aA), .val (.ref aB), .val (.ref aR), .val (.ref aC), .unset, .unset] []))
  refine own_back ?_ (fun t k => XS.aloadN X1.here hx rfl (hb hby d2_9) rfl rfl k)
  show own_Go p e below PO (T1.setTop (mkF m 10 #[.val (.ref aT), .val (.ref aA), .val (.ref aB), .val (.ref aR), .val (.ref aC), .unset, .unset] [(.ref aA)]))
  refine own_back ?_ (own_len X1 hx hZ e1 V_A (g := (mkF m 10 #[.val (.ref aT), .val (.ref aA), .val (.ref aB), .val (.ref aR), .val (.ref aC), .unset, .unset] [(.ref aA)])) rfl rfl (hb hby d2_10))
  show own_Go p e below PO (T1.setTop (mkF m 11 #[.val (.ref aT), .val (.ref aA), .val (.ref aB), .val (.ref aR), .val (.ref aC), .unset, .unset] [(.int (2 : Int32))]))
  refine own_back ?_ (fun t k => XS.aloadN X1.here hx rfl (hb hby d2_11) rfl rfl k)
  show own_Go p e below PO (T1.setTop (mkF m 12 #[.val (.ref aT), .val (.ref aA), .val (.ref aB), .val (.ref aR), .val (.ref aC), .unset, .unset] [(.ref aB), (.int (2 : Int32))]))
  refine own_back ?_ (own_len X1 hx hZ e1 V_B (g := (mkF m 12 #[.val (.ref aT), .val (.ref aA), .val (.ref aB), .val (.ref aR), .val (.ref aC), .unset, .unset] [(.ref aB), (.int (2 : Int32))])) rfl rfl (hb hby d2_12))
  show own_Go p e below PO (T1.setTop (mkF m 13 #[.val (.ref aT), .val (.ref aA), .val (.ref aB), .val (.ref aR), .val (.ref aC), .unset, .unset] [(.int (2 : Int32)), (.int (2 : Int32))]))
  refine own_back ?_ (fun t k => XS.icmpYes X1.here hx rfl (pc0 := 13) (pc' := 26) rfl (hb hby d2_13) rfl (teq rfl).1 (by decide) (by decide) k)
  show own_Go p e below PO (T1.setTop (mkF m 26 #[.val (.ref aT), .val (.ref aA), .val (.ref aB), .val (.ref aR), .val (.ref aC), .unset, .unset] []))
  refine own_back ?_ (fun t k => XS.aloadN X1.here hx rfl (hb hby d2_26) rfl rfl k)
  show own_Go p e below PO (T1.setTop (mkF m 27 #[.val (.ref aT), .val (.ref aA), .val (.ref aB), .val (.ref aR), .val (.ref aC), .unset, .unset] [(.ref aT)]))
  refine own_back ?_ (fun t k => XS.aloadN X1.here hx rfl (hb hby d2_27) rfl rfl k)
  show own_Go p e below PO (T1.setTop (mkF m 28 #[.val (.ref aT), .val (.ref aA), .val (.ref aB), .val (.ref aR), .val (.ref aC), .unset, .unset] [(.ref aA), (.ref aT)]))
  obtain ⟨T3, h3, X3, e3, E3, A3, Ex3, st3⟩ := cloneH X1 hx hZ hown (hw _ (List.mem_of_getElem? (i := 16) rfl)) (hw _ (List.mem_of_getElem? (i := 17) rfl)) (hw _ (List.mem_of_getElem? (i := 21) rfl)) (hw _ (List.mem_of_getElem? (i := 19) rfl)) (hw _ (List.mem_of_getElem? (i := 20) rfl)) (hw _ (List.mem_of_getElem? (i := 22) rfl)) e1 (V_A).arh E_A (g := (mkF m 28 #[.val (.ref aT), .val (.ref aA), .val (.ref aB), .val (.ref aR), .val (.ref aC), .unset, .unset] [(.ref aA), (.ref aT)])) rfl (by rw [hml]; rfl) rfl (hb hby d2_28) (by decide) (W := 1) (by show 2 * 0 + _ ≤ _; exact Nat.le_of_eq rfl) (by decide) (cap := 2) (by decide) (by decide) (by decide)
  obtain ⟨b3, g3⟩ : ∃ z, z = h0.size := ⟨_, rfl⟩
  rw [← g3] at A3 Ex3 st3
  have ne_aA_b3 : aA ≠ b3 := Nat.ne_of_lt (Nat.lt_of_lt_of_le V_A.lt (Nat.le_of_eq g3.symm))
  have ne_aB_b3 : aB ≠ b3 := Nat.ne_of_lt (Nat.lt_of_lt_of_le V_B.lt (Nat.le_of_eq g3.symm))
  have ne_aC_b3 : aC ≠ b3 := Nat.ne_of_lt (Nat.lt_of_lt_of_le V_C.lt (Nat.le_of_eq g3.symm))
  have ne_aR_b3 : aR ≠ b3 := Nat.ne_of_lt (Nat.lt_of_lt_of_le V_R.lt (Nat.le_of_eq g3.symm))
  have ne_aT_b3 : aT ≠ b3 := Nat.ne_of_lt (Nat.lt_of_lt_of_le E_T.lt (Nat.le_of_eq g3.symm))
  have sz_b3 : h0.size ≤ b3 := Nat.le_of_eq g3.symm
  have gn_b3 : n0 ≤ b3 := Nat.le_trans Z0 sz_b3
  have K3 : Keep h0 h3 [] := (Keep.refl h0 []).ext E3
  have Zh3 : n0 ≤ h3.size := Nat.le_trans Z0 K3.1
  have V3 : Arv Z h3 b3 kA .int (2 : Int32) [(.int (0 : Int32)), (.int (1 : Int32))] (.int (0 : Int32)) := A3
  refine own_back ?_ st3
  show own_Go p e below PO (T3.setTop (mkF m 31 #[.val (.ref aT), .val (.ref aA), .val (.ref aB), .val (.ref aR), .val (.ref aC), .unset, .unset] [(.ref b3), (.ref aT)]))
  obtain ⟨T4, X4, e4, st4⟩ := castY X3 hx hZ hown (hw _ (List.mem_of_getElem? (i := 23) rfl)) e3 (Ins.self Ex3) (g := (mkF m 31 #[.val (.ref aT), .val (.ref aA), .val (.ref aB), .val (.ref aR), .val (.ref aC), .unset, .unset] [(.ref b3), (.ref aT)])) rfl rfl (hb hby d2_31)
  refine own_back ?_ st4
  show own_Go p e below PO (T4.setTop (mkF m 34 #[.val (.ref aT), .val (.ref aA), .val (.ref aB), .val (.ref aR), .val (.ref aC), .unset, .unset] [(.ref b3), (.ref aT)]))
  obtain ⟨T5, h5, X5, e5, W5, st5⟩ := putF X4 hx hZ hown (host := "") (Or.inl (hw _ (List.mem_of_getElem? (i := 25) rfl))) Via.refl e4 (F_scope.keep K3 nin0) (E_T.keep K3) (Or.inr ⟨(hw _ (List.mem_of_getElem? (i := 26) rfl)), rfl, hnm⟩) (hw _ (List.mem_of_getElem? (i := 8) rfl)) (ty := (.array .int)) (by decide) rfl rfl (g := (mkF m 34 #[.val (.ref aT), .val (.ref aA), .val (.ref aB), .val (.ref aR), .val (.ref aC), .unset, .unset] [(.ref b3), (.ref aT)])) rfl rfl (hb hby d2_34)
  have Fw5 := (F_scope.keep K3 nin0).same W5
  have f5_6 := Ex3.wr W5
  have f5_7 := V3.other W5 (Ne.symm ne_aT_b3)
  have f5_8 := (E_T.keep K3).wr W5
  have f5_9 := (F_sizes.keep K3 nin0).other W5 (Or.inr (slot_ne (Or.inr (hw _ (List.mem_of_getElem? (i := 28) rfl))) (Or.inr (hw _ (List.mem_of_getElem? (i := 26) rfl))) (by decide) (t := (.array .int)) (t' := (.array .int)) (by decide) (by decide)))
  have f5_10 := (F_strides.keep K3 nin0).other W5 (Or.inr (slot_ne (Or.inr (hw _ (List.mem_of_getElem? (i := 30) rfl))) (Or.inr (hw _ (List.mem_of_getElem? (i := 26) rfl))) (by decide) (t := (.array .int)) (t' := (.array .int)) (by decide) (by decide)))
  have f5_11 := (F_rewards.keep K3 nin0).other W5 (Or.inr (slot_ne (Or.inr (hw _ (List.mem_of_getElem? (i := 53) rfl))) (Or.inr (hw _ (List.mem_of_getElem? (i := 26) rfl))) (by decide) (t := (.array .double)) (t' := (.array .int)) (by decide) (by decide)))
  have f5_12 := (F_costs.keep K3 nin0).other W5 (Or.inr (slot_ne (Or.inr (hw _ (List.mem_of_getElem? (i := 55) rfl))) (Or.inr (hw _ (List.mem_of_getElem? (i := 26) rfl))) (by decide) (t := (.array .double)) (t' := (.array .int)) (by decide) (by decide)))
  have K5w : Keep h0 h3 [aT] := own_keep_more K3 (by simp)
  have K5 : Keep h0 h5 [aT] := (K5w).wr W5 (Or.inl (by simp))
  have N5 := Fr.snoc X5 N0 gn_aT
  have Zh5 : n0 ≤ h5.size := Nat.le_trans Z0 K5.1
  refine own_back ?_ st5
  show own_Go p e below PO (T5.setTop (mkF m 37 #[.val (.ref aT), .val (.ref aA), .val (.ref aB), .val (.ref aR), .val (.ref aC), .unset, .unset] []))
  refine own_back ?_ (fun t k => XS.aloadN X5.here hx rfl (hb hby d2_37) rfl rfl k)
  show own_Go p e below PO (T5.setTop (mkF m 38 #[.val (.ref aT), .val (.ref aA), .val (.ref aB), .val (.ref aR), .val (.ref aC), .unset, .unset] [(.ref aT)]))
  refine own_back ?_ (fun t k => XS.aloadN X5.here hx rfl (hb hby d2_38) rfl rfl k)
  show own_Go p e below PO (T5.setTop (mkF m 39 #[.val (.ref aT), .val (.ref aA), .val (.ref aB), .val (.ref aR), .val (.ref aC), .unset, .unset] [(.ref aB), (.ref aT)]))
  obtain ⟨T13, h13, X13, e13, E13, A13, Ex13, st13⟩ := cloneH X5 hx hZ hown (hw _ (List.mem_of_getElem? (i := 16) rfl)) (hw _ (List.mem_of_getElem? (i := 17) rfl)) (hw _ (List.mem_of_getElem? (i := 21) rfl)) (hw _ (List.mem_of_getElem? (i := 19) rfl)) (hw _ (List.mem_of_getElem? (i := 20) rfl)) (hw _ (List.mem_of_getElem? (i := 22) rfl)) e5 ((V_B.keep K5 (ninS nB nin0))).arh (E_B.keep K5) (g := (mkF m 39 #[.val (.ref aT), .val (.ref aA), .val (.ref aB), .val (.ref aR), .val (.ref aC), .unset, .unset] [(.ref aB), (.ref aT)])) rfl (by rw [hml]; rfl) rfl (hb hby d2_39) (by decide) (W := 1) (by show 2 * 0 + _ ≤ _; exact Nat.le_of_eq rfl) (by decide) (cap := 2) (by decide) (by decide) (by decide)
  obtain ⟨b13, g13⟩ : ∃ z, z = h5.size := ⟨_, rfl⟩
  rw [← g13] at A13 Ex13 st13
  have ne_aA_b13 : aA ≠ b13 := Nat.ne_of_lt (Nat.lt_of_lt_of_le (V_A.keep K5 (ninS nA nin0)).lt (Nat.le_of_eq g13.symm))
  have ne_aB_b13 : aB ≠ b13 := Nat.ne_of_lt (Nat.lt_of_lt_of_le (V_B.keep K5 (ninS nB nin0)).lt (Nat.le_of_eq g13.symm))
  have ne_aC_b13 : aC ≠ b13 := Nat.ne_of_lt (Nat.lt_of_lt_of_le (V_C.keep K5 (ninS nC nin0)).lt (Nat.le_of_eq g13.symm))
  have ne_aR_b13 : aR ≠ b13 := Nat.ne_of_lt (Nat.lt_of_lt_of_le (V_R.keep K5 (ninS nR nin0)).lt (Nat.le_of_eq g13.symm))
  have ne_aT_b13 : aT ≠ b13 := Nat.ne_of_lt (Nat.lt_of_lt_of_le f5_8.lt (Nat.le_of_eq g13.symm))
  have ne_b3_b13 : b3 ≠ b13 := Nat.ne_of_lt (Nat.lt_of_lt_of_le f5_6.lt (Nat.le_of_eq g13.symm))
  have sz_b13 : h0.size ≤ b13 := Nat.le_trans K5.1 (Nat.le_of_eq g13.symm)
  have gn_b13 : n0 ≤ b13 := Nat.le_trans Z0 sz_b13
  have f13_14 := f5_6.ext E13
  have f13_15 := f5_7.ext E13
  have f13_16 := f5_8.ext E13
  have f13_17 := Fw5.ext E13
  have f13_18 := f5_9.ext E13
  have f13_19 := f5_10.ext E13
  have f13_20 := f5_11.ext E13
  have f13_21 := f5_12.ext E13
  have K13 : Keep h0 h13 [aT] := (K5).ext E13
  have Zh13 : n0 ≤ h13.size := Nat.le_trans Z0 K13.1
  have V13 : Arv Z h13 b13 kB .int (2 : Int32) [(.int (2 : Int32)), (.int (2 : Int32))] (.int (0 : Int32)) := A13
  refine own_back ?_ st13
  show own_Go p e below PO (T13.setTop (mkF m 42 #[.val (.ref aT), .val (.ref aA), .val (.ref aB), .val (.ref aR), .val (.ref aC), .unset, .unset] [(.ref b13), (.ref aT)]))
  obtain ⟨T22, X22, e22, st22⟩ := castY X13 hx hZ hown (hw _ (List.mem_of_getElem? (i := 23) rfl)) e13 (Ins.self Ex13) (g := (mkF m 42 #[.val (.ref aT), .val (.ref aA), .val (.ref aB), .val (.ref aR), .val (.ref aC), .unset, .unset] [(.ref b13), (.ref aT)])) rfl rfl (hb hby d2_42)
  refine own_back ?_ st22
  show own_Go p e below PO (T22.setTop (mkF m 45 #[.val (.ref aT), .val (.ref aA), .val (.ref aB), .val (.ref aR), .val (.ref aC), .unset, .unset] [(.ref b13), (.ref aT)]))
  obtain ⟨T23, h23, X23, e23, W23, st23⟩ := putF X22 hx hZ hown (host := "") (Or.inl (hw _ (List.mem_of_getElem? (i := 27) rfl))) Via.refl e22 f13_18 f13_16 (Or.inr ⟨(hw _ (List.mem_of_getElem? (i := 28) rfl)), rfl, hnm⟩) (hw _ (List.mem_of_getElem? (i := 8) rfl)) (ty := (.array .int)) (by decide) rfl rfl (g := (mkF m 45 #[.val (.ref aT), .val (.ref aA), .val (.ref aB), .val (.ref aR), .val (.ref aC), .unset, .unset] [(.ref b13), (.ref aT)])) rfl rfl (hb hby d2_45)
  have Fw23 := f13_18.same W23
  have f23_24 := f13_14.wr W23
  have f23_25 := f13_15.other W23 (Ne.symm ne_aT_b3)
  have f23_26 := f13_16.wr W23
  have f23_27 := f13_17.other W23 (Or.inr (slot_ne (Or.inr (hw _ (List.mem_of_getElem? (i := 26) rfl))) (Or.inr (hw _ (List.mem_of_getElem? (i := 28) rfl))) (by decide) (t := (.array .int)) (t' := (.array .int)) (by decide) (by decide)))
  have f23_28 := f13_19.other W23 (Or.inr (slot_ne (Or.inr (hw _ (List.mem_of_getElem? (i := 30) rfl))) (Or.inr (hw _ (List.mem_of_getElem? (i := 28) rfl))) (by decide) (t := (.array .int)) (t' := (.array .int)) (by decide) (by decide)))
  have f23_29 := f13_20.other W23 (Or.inr (slot_ne (Or.inr (hw _ (List.mem_of_getElem? (i := 53) rfl))) (Or.inr (hw _ (List.mem_of_getElem? (i := 28) rfl))) (by decide) (t := (.array .double)) (t' := (.array .int)) (by decide) (by decide)))
  have f23_30 := f13_21.other W23 (Or.inr (slot_ne (Or.inr (hw _ (List.mem_of_getElem? (i := 55) rfl))) (Or.inr (hw _ (List.mem_of_getElem? (i := 28) rfl))) (by decide) (t := (.array .double)) (t' := (.array .int)) (by decide) (by decide)))
  have f23_31 := Ex13.wr W23
  have f23_32 := V13.other W23 (Ne.symm ne_aT_b13)
  have K23 : Keep h0 h23 [aT] := (K13).wr W23 (Or.inl (by simp))
  have N23 := Fr.snoc X23 N5 gn_aT
  have Zh23 : n0 ≤ h23.size := Nat.le_trans Z0 K23.1
  refine own_back ?_ st23
  show own_Go p e below PO (T23.setTop (mkF m 48 #[.val (.ref aT), .val (.ref aA), .val (.ref aB), .val (.ref aR), .val (.ref aC), .unset, .unset] []))
  refine own_back ?_ (fun t k => XS.aloadN X23.here hx rfl (hb hby d2_48) rfl rfl k)
  show own_Go p e below PO (T23.setTop (mkF m 49 #[.val (.ref aT), .val (.ref aA), .val (.ref aB), .val (.ref aR), .val (.ref aC), .unset, .unset] [(.ref aT)]))
  refine own_back ?_ (fun t k => XS.aloadN X23.here hx rfl (hb hby d2_49) rfl rfl k)
  show own_Go p e below PO (T23.setTop (mkF m 50 #[.val (.ref aT), .val (.ref aA), .val (.ref aB), .val (.ref aR), .val (.ref aC), .unset, .unset] [(.ref aA), (.ref aT)]))
  refine own_back ?_ (own_len X23 hx hZ e23 (V_A.keep K23 (ninS nA nin0)) (g := (mkF m 50 #[.val (.ref aT), .val (.ref aA), .val (.ref aB), .val (.ref aR), .val (.ref aC), .unset, .unset] [(.ref aA), (.ref aT)])) rfl rfl (hb hby d2_50))
  show own_Go p e below PO (T23.setTop (mkF m 51 #[.val (.ref aT), .val (.ref aA), .val (.ref aB), .val (.ref aR), .val (.ref aC), .unset, .unset] [(.int (2 : Int32)), (.ref aT)]))
  obtain ⟨T33, h33, k33, X33, e33, E33, A33, Ex33, st33⟩ := newPE X23 hx hZ (hw _ (List.mem_of_getElem? (i := 6) rfl)) e23 (g := (mkF m 51 #[.val (.ref aT), .val (.ref aA), .val (.ref aB), .val (.ref aR), .val (.ref aC), .unset, .unset] [(.int (2 : Int32)), (.ref aT)])) rfl (hb hby d2_51) rfl (by decide) (cap := 2) (by decide) (by decide) (by decide) (by decide) (ad := "[I") (by decide)
  obtain ⟨b33, g33⟩ : ∃ z, z = h23.size := ⟨_, rfl⟩
  rw [← g33] at A33 Ex33 st33
  have ne_aA_b33 : aA ≠ b33 := Nat.ne_of_lt (Nat.lt_of_lt_of_le (V_A.keep K23 (ninS nA nin0)).lt (Nat.le_of_eq g33.symm))
  have ne_aB_b33 : aB ≠ b33 := Nat.ne_of_lt (Nat.lt_of_lt_of_le (V_B.keep K23 (ninS nB nin0)).lt (Nat.le_of_eq g33.symm))
  have ne_aC_b33 : aC ≠ b33 := Nat.ne_of_lt (Nat.lt_of_lt_of_le (V_C.keep K23 (ninS nC nin0)).lt (Nat.le_of_eq g33.symm))
  have ne_aR_b33 : aR ≠ b33 := Nat.ne_of_lt (Nat.lt_of_lt_of_le (V_R.keep K23 (ninS nR nin0)).lt (Nat.le_of_eq g33.symm))
  have ne_aT_b33 : aT ≠ b33 := Nat.ne_of_lt (Nat.lt_of_lt_of_le f23_26.lt (Nat.le_of_eq g33.symm))
  have ne_b13_b33 : b13 ≠ b33 := Nat.ne_of_lt (Nat.lt_of_lt_of_le f23_31.lt (Nat.le_of_eq g33.symm))
  have ne_b3_b33 : b3 ≠ b33 := Nat.ne_of_lt (Nat.lt_of_lt_of_le f23_24.lt (Nat.le_of_eq g33.symm))
  have sz_b33 : h0.size ≤ b33 := Nat.le_trans K23.1 (Nat.le_of_eq g33.symm)
  have gn_b33 : n0 ≤ b33 := Nat.le_trans Z0 sz_b33
  have f33_34 := f23_24.ext E33
  have f33_35 := f23_25.ext E33
  have f33_36 := f23_26.ext E33
  have f33_37 := f23_27.ext E33
  have f33_38 := Fw23.ext E33
  have f33_39 := f23_28.ext E33
  have f33_40 := f23_29.ext E33
  have f33_41 := f23_30.ext E33
  have f33_42 := f23_31.ext E33
  have f33_43 := f23_32.ext E33
  have K33 : Keep h0 h33 [aT] := (K23).ext E33
  have Zh33 : n0 ≤ h33.size := Nat.le_trans Z0 K33.1
  have V33 : Arv Z h33 b33 k33 .int (2 : Int32) [(.int (0 : Int32)), (.int (0 : Int32))] (.int (0 : Int32)) := (Arv.new A33 (by decide)).pad (pad_rep [] (.int (0 : Int32)) 2)
  refine own_back ?_ st33
  show own_Go p e below PO (T33.setTop (mkF m 53 #[.val (.ref aT), .val (.ref aA), .val (.ref aB), .val (.ref aR), .val (.ref aC), .unset, .unset] [(.ref b33), (.ref aT)]))
  obtain ⟨T44, h44, X44, e44, W44, st44⟩ := putF X33 hx hZ hown (host := "") (Or.inl (hw _ (List.mem_of_getElem? (i := 29) rfl))) Via.refl e33 f33_39 f33_36 (Or.inr ⟨(hw _ (List.mem_of_getElem? (i := 30) rfl)), rfl, hnm⟩) (hw _ (List.mem_of_getElem? (i := 8) rfl)) (ty := (.array .int)) (by decide) rfl rfl (g := (mkF m 53 #[.val (.ref aT), .val (.ref aA), .val (.ref aB), .val (.ref aR), .val (.ref aC), .unset, .unset] [(.ref b33), (.ref aT)])) rfl rfl (hb hby d2_53)
  have Fw44 := f33_39.same W44
  have f44_45 := f33_34.wr W44
  have f44_46 := f33_35.other W44 (Ne.symm ne_aT_b3)
  have f44_47 := f33_36.wr W44
  have f44_48 := f33_37.other W44 (Or.inr (slot_ne (Or.inr (hw _ (List.mem_of_getElem? (i := 26) rfl))) (Or.inr (hw _ (List.mem_of_getElem? (i := 30) rfl))) (by decide) (t := (.array .int)) (t' := (.array .int)) (by decide) (by decide)))
  have f44_49 := f33_38.other W44 (Or.inr (slot_ne (Or.inr (hw _ (List.mem_of_getElem? (i := 28) rfl))) (Or.inr (hw _ (List.mem_of_getElem? (i := 30) rfl))) (by decide) (t := (.array .int)) (t' := (.array .int)) (by decide) (by decide)))
  have f44_50 := f33_40.other W44 (Or.inr (slot_ne (Or.inr (hw _ (List.mem_of_getElem? (i := 53) rfl))) (Or.inr (hw _ (List.mem_of_getElem? (i := 30) rfl))) (by decide) (t := (.array .double)) (t' := (.array .int)) (by decide) (by decide)))
  have f44_51 := f33_41.other W44 (Or.inr (slot_ne (Or.inr (hw _ (List.mem_of_getElem? (i := 55) rfl))) (Or.inr (hw _ (List.mem_of_getElem? (i := 30) rfl))) (by decide) (t := (.array .double)) (t' := (.array .int)) (by decide) (by decide)))
  have f44_52 := f33_42.wr W44
  have f44_53 := f33_43.other W44 (Ne.symm ne_aT_b13)
  have f44_54 := Ex33.wr W44
  have f44_55 := V33.other W44 (Ne.symm ne_aT_b33)
  have K44 : Keep h0 h44 [aT] := (K33).wr W44 (Or.inl (by simp))
  have N44 := Fr.snoc X44 N23 gn_aT
  have Zh44 : n0 ≤ h44.size := Nat.le_trans Z0 K44.1
  refine own_back ?_ st44
  show own_Go p e below PO (T44.setTop (mkF m 56 #[.val (.ref aT), .val (.ref aA), .val (.ref aB), .val (.ref aR), .val (.ref aC), .unset, .unset] []))
  refine own_back ?_ (fun t k => XS.iconst X44.here hx rfl (hb hby d2_56) k)
  show own_Go p e below PO (T44.setTop (mkF m 57 #[.val (.ref aT), .val (.ref aA), .val (.ref aB), .val (.ref aR), .val (.ref aC), .unset, .unset] [(.int (1 : Int32))]))
  refine own_back ?_ (fun t k => XS.istore X44.here hx rfl (hb hby d2_57) rfl (l' := #[.val (.ref aT), .val (.ref aA), .val (.ref aB), .val (.ref aR), .val (.ref aC), .val (.int (1 : Int32)), .unset]) rfl k)
  show own_Go p e below PO (T44.setTop (mkF m 59 #[.val (.ref aT), .val (.ref aA), .val (.ref aB), .val (.ref aR), .val (.ref aC), .val (.int (1 : Int32)), .unset] []))
  refine own_back ?_ (fun t k => XS.aloadN X44.here hx rfl (hb hby d2_59) rfl rfl k)
  show own_Go p e below PO (T44.setTop (mkF m 60 #[.val (.ref aT), .val (.ref aA), .val (.ref aB), .val (.ref aR), .val (.ref aC), .val (.int (1 : Int32)), .unset] [(.ref aA)]))
  refine own_back ?_ (own_len X44 hx hZ e44 (V_A.keep K44 (ninS nA nin0)) (g := (mkF m 60 #[.val (.ref aT), .val (.ref aA), .val (.ref aB), .val (.ref aR), .val (.ref aC), .val (.int (1 : Int32)), .unset] [(.ref aA)])) rfl rfl (hb hby d2_60))
  show own_Go p e below PO (T44.setTop (mkF m 61 #[.val (.ref aT), .val (.ref aA), .val (.ref aB), .val (.ref aR), .val (.ref aC), .val (.int (1 : Int32)), .unset] [(.int (2 : Int32))]))
  refine own_back ?_ (fun t k => XS.iconst X44.here hx rfl (hb hby d2_61) k)
  show own_Go p e below PO (T44.setTop (mkF m 62 #[.val (.ref aT), .val (.ref aA), .val (.ref aB), .val (.ref aR), .val (.ref aC), .val (.int (1 : Int32)), .unset] [(.int (1 : Int32)), (.int (2 : Int32))]))
  refine own_back ?_ (fun t k => XS.isub X44.here hx rfl (hb hby d2_62) rfl k)
  show own_Go p e below PO (T44.setTop (mkF m 63 #[.val (.ref aT), .val (.ref aA), .val (.ref aB), .val (.ref aR), .val (.ref aC), .val (.int (1 : Int32)), .unset] [(.int (1 : Int32))]))
  refine own_back ?_ (fun t k => XS.istore X44.here hx rfl (hb hby d2_63) rfl (l' := #[.val (.ref aT), .val (.ref aA), .val (.ref aB), .val (.ref aR), .val (.ref aC), .val (.int (1 : Int32)), .val (.int (1 : Int32))]) rfl k)
  show own_Go p e below PO (T44.setTop (mkF m 65 #[.val (.ref aT), .val (.ref aA), .val (.ref aB), .val (.ref aR), .val (.ref aC), .val (.int (1 : Int32)), .val (.int (1 : Int32))] []))
  refine own_back ?_ (fun t k => XS.iload X44.here hx rfl (hb hby d2_65) rfl k)
  show own_Go p e below PO (T44.setTop (mkF m 67 #[.val (.ref aT), .val (.ref aA), .val (.ref aB), .val (.ref aR), .val (.ref aC), .val (.int (1 : Int32)), .val (.int (1 : Int32))] [(.int (1 : Int32))]))
  have hd67_56 : ¬ ((1 : Int32) < (0 : Int32)) := (by decide)
  refine own_back ?_ (fun t k => XS.ifNo X44.here hx rfl (hb hby d2_67) rfl ((if0 _ _).trans (flt hd67_56).1) k)
  show own_Go p e below PO (T44.setTop (mkF m 70 #[.val (.ref aT), .val (.ref aA), .val (.ref aB), .val (.ref aR), .val (.ref aC), .val (.int (1 : Int32)), .val (.int (1 : Int32))] []))
  refine own_back ?_ (fun t k => XS.aloadN X44.here hx rfl (hb hby d2_70) rfl rfl k)
  show own_Go p e below PO (T44.setTop (mkF m 71 #[.val (.ref aT), .val (.ref aA), .val (.ref aB), .val (.ref aR), .val (.ref aC), .val (.int (1 : Int32)), .val (.int (1 : Int32))] [(.ref aT)]))
  obtain ⟨T57, X57, e57, st57⟩ := getF X44 hx hZ hown (host := "") (Or.inl (hw _ (List.mem_of_getElem? (i := 29) rfl))) Via.refl e44 Fw44 (g := (mkF m 71 #[.val (.ref aT), .val (.ref aA), .val (.ref aB), .val (.ref aR), .val (.ref aC), .val (.int (1 : Int32)), .val (.int (1 : Int32))] [(.ref aT)])) rfl rfl (hb hby d2_71)
  refine own_back ?_ st57
  show own_Go p e below PO (T57.setTop (mkF m 74 #[.val (.ref aT), .val (.ref aA), .val (.ref aB), .val (.ref aR), .val (.ref aC), .val (.int (1 : Int32)), .val (.int (1 : Int32))] [(.ref b33)]))
  refine own_back ?_ (fun t k => XS.iload X57.here hx rfl (hb hby d2_74) rfl k)
  show own_Go p e below PO (T57.setTop (mkF m 76 #[.val (.ref aT), .val (.ref aA), .val (.ref aB), .val (.ref aR), .val (.ref aC), .val (.int (1 : Int32)), .val (.int (1 : Int32))] [(.int (1 : Int32)), (.ref b33)]))
  refine own_back ?_ (fun t k => XS.iload X57.here hx rfl (hb hby d2_76) rfl k)
  show own_Go p e below PO (T57.setTop (mkF m 78 #[.val (.ref aT), .val (.ref aA), .val (.ref aB), .val (.ref aR), .val (.ref aC), .val (.int (1 : Int32)), .val (.int (1 : Int32))] [(.int (1 : Int32)), (.int (1 : Int32)), (.ref b33)]))
  obtain ⟨T58, h58, X58, e58, W58, V58, st58⟩ := own_stI X57 hx hZ e57 f44_55 (j := (1 : Int32)) ⟨by decide, by decide⟩ (i := 1) rfl (by show 1 < 2; decide) (g := (mkF m 78 #[.val (.ref aT), .val (.ref aA), .val (.ref aB), .val (.ref aR), .val (.ref aC), .val (.int (1 : Int32)), .val (.int (1 : Int32))] [(.int (1 : Int32)), (.int (1 : Int32)), (.ref b33)])) rfl rfl (hb hby d2_78)
  replace V58 : Arv Z h58 b33 k33 .int (2 : Int32) [(.int (0 : Int32)), (.int (1 : Int32))] (.int (0 : Int32)) := V58
  have f58_59 := f44_45.wr W58
  have f58_60 := f44_46.other W58 ne_b3_b33
  have f58_61 := f44_47.wr W58
  have f58_62 := f44_48.other W58 (Or.inl ne_aT_b33)
  have f58_63 := f44_49.other W58 (Or.inl ne_aT_b33)
  have f58_64 := Fw44.other W58 (Or.inl ne_aT_b33)
  have f58_65 := f44_50.other W58 (Or.inl ne_aT_b33)
  have f58_66 := f44_51.other W58 (Or.inl ne_aT_b33)
  have f58_67 := f44_52.wr W58
  have f58_68 := f44_53.other W58 ne_b13_b33
  have f58_69 := f44_54.wr W58
  have K58 : Keep h0 h58 [aT] := (K44).wr W58 (Or.inr sz_b33)
  have N58 := Fr.snoc X58 N44 gn_b33
  have Zh58 : n0 ≤ h58.size := Nat.le_trans Z0 K58.1
  refine own_back ?_ st58
  show own_Go p e below PO (T58.setTop (mkF m 79 #[.val (.ref aT), .val (.ref aA), .val (.ref aB), .val (.ref aR), .val (.ref aC), .val (.int (1 : Int32)), .val (.int (1 : Int32))] []))
  refine own_back ?_ (fun t k => XS.iload X58.here hx rfl (hb hby d2_79) rfl k)
  show own_Go p e below PO (T58.setTop (mkF m 81 #[.val (.ref aT), .val (.ref aA), .val (.ref aB), .val (.ref aR), .val (.ref aC), .val (.int (1 : Int32)), .val (.int (1 : Int32))] [(.int (1 : Int32))]))
  refine own_back ?_ (fun t k => XS.aloadN X58.here hx rfl (hb hby d2_81) rfl rfl k)
  show own_Go p e below PO (T58.setTop (mkF m 82 #[.val (.ref aT), .val (.ref aA), .val (.ref aB), .val (.ref aR), .val (.ref aC), .val (.int (1 : Int32)), .val (.int (1 : Int32))] [(.ref aB), (.int (1 : Int32))]))
  refine own_back ?_ (fun t k => XS.iload X58.here hx rfl (hb hby d2_82) rfl k)
  show own_Go p e below PO (T58.setTop (mkF m 84 #[.val (.ref aT), .val (.ref aA), .val (.ref aB), .val (.ref aR), .val (.ref aC), .val (.int (1 : Int32)), .val (.int (1 : Int32))] [(.int (1 : Int32)), (.ref aB), (.int (1 : Int32))]))
  refine own_back ?_ (own_ldI X58 hx hZ e58 (V_B.keep K58 (ninS nB nin0)) (j := (1 : Int32)) (v := (.int (2 : Int32))) ⟨by decide, by decide⟩ rfl (g := (mkF m 84 #[.val (.ref aT), .val (.ref aA), .val (.ref aB), .val (.ref aR), .val (.ref aC), .val (.int (1 : Int32)), .val (.int (1 : Int32))] [(.int (1 : Int32)), (.ref aB), (.int (1 : Int32))])) rfl rfl (hb hby d2_84))
  show own_Go p e below PO (T58.setTop (mkF m 85 #[.val (.ref aT), .val (.ref aA), .val (.ref aB), .val (.ref aR), .val (.ref aC), .val (.int (1 : Int32)), .val (.int (1 : Int32))] [(.int (2 : Int32)), (.int (1 : Int32))]))
  obtain ⟨_, _, ⟨T70, L70, k70, n70⟩, -, X70, ⟨Lc70, hQ70, l70, y70, z70⟩, st70⟩ := Jvm.LawKit.callS X58 hx (y := (⟨"java/lang/Math", "multiplyExact", "(II)I"⟩ : MethodName)) hown (mvT hZ (hw _ (List.mem_of_getElem? (i := 31) rfl))) (mvT hZ (hw _ (List.mem_of_getElem? (i := 32) rfl))) (mvT hZ (hw _ (List.mem_of_getElem? (i := 33) rfl))) (mvT hZ (hw _ (List.mem_of_getElem? (i := 34) rfl))) (by decide) (backOf (W := 0) (rmMul_1_2 l Z a0 hw []   h58 n0 Zh58 ) hZ (hw _ (List.mem_of_getElem? (i := 34) rfl)) (hw _ (List.mem_of_getElem? (i := 33) rfl)) (by decide) (by decide)) (g := (mkF m 85 #[.val (.ref aT), .val (.ref aA), .val (.ref aB), .val (.ref aR), .val (.ref aC), .val (.int (1 : Int32)), .val (.int (1 : Int32))] [(.int (2 : Int32)), (.int (1 : Int32))])) rfl (by rw [hml]; rfl) (argsL := [(.int (1 : Int32)), (.int (2 : Int32))]) (rest := []) (lenOf pd_0 rfl) rfl (by show 2 * 0 + _ ≤ _; exact Nat.le_of_eq rfl) (hb hby d2_85) (fun _ _ => ⟨rfl, e58, (by decide : 3 + 0 ≤ _), (by decide : 6 + 0 ≤ _)⟩)
  dsimp only [Pt.U, Pt.locs, Pt.cells, Pt.slots] at X70 l70 y70 z70 st70 hQ70
  subst l70 y70 z70
  obtain ⟨rfl, N70q, e70⟩ := hQ70
  have N70 := Fr.app N58 N70q
  refine own_back ?_ st70
  show own_Go p e below PO (T70.setTop (mkF m 88 #[.val (.ref aT), .val (.ref aA), .val (.ref aB), .val (.ref aR), .val (.ref aC), .val (.int (1 : Int32)), .val (.int (1 : Int32))] [(.int (2 : Int32))]))
  refine own_back ?_ (fun t k => XS.istore X70.here hx rfl (hb hby d2_88) rfl (l' := #[.val (.ref aT), .val (.ref aA), .val (.ref aB), .val (.ref aR), .val (.ref aC), .val (.int (2 : Int32)), .val (.int (1 : Int32))]) rfl k)
  show own_Go p e below PO (T70.setTop (mkF m 90 #[.val (.ref aT), .val (.ref aA), .val (.ref aB), .val (.ref aR), .val (.ref aC), .val (.int (2 : Int32)), .val (.int (1 : Int32))] []))
  refine own_back ?_ (fun t k => XS.iinc X70.here hx rfl (hb hby d2_90) rfl (l' := #[.val (.ref aT), .val (.ref aA), .val (.ref aB), .val (.ref aR), .val (.ref aC), .val (.int (2 : Int32)), .val (.int (0 : Int32))]) rfl k)
  show own_Go p e below PO (T70.setTop (mkF m 93 #[.val (.ref aT), .val (.ref aA), .val (.ref aB), .val (.ref aR), .val (.ref aC), .val (.int (2 : Int32)), .val (.int (0 : Int32))] []))
  refine own_back ?_ (fun t k => XS.goto X70.here hx rfl (pc0 := 93) (pc' := 65) rfl (hb hby d2_93) (by decide) (by decide) k)
  show own_Go p e below PO (T70.setTop (mkF m 65 #[.val (.ref aT), .val (.ref aA), .val (.ref aB), .val (.ref aR), .val (.ref aC), .val (.int (2 : Int32)), .val (.int (0 : Int32))] []))
  refine own_back ?_ (fun t k => XS.iload X70.here hx rfl (hb hby d2_65) rfl k)
  show own_Go p e below PO (T70.setTop (mkF m 67 #[.val (.ref aT), .val (.ref aA), .val (.ref aB), .val (.ref aR), .val (.ref aC), .val (.int (2 : Int32)), .val (.int (0 : Int32))] [(.int (0 : Int32))]))
  refine own_back ?_ (fun t k => XS.ifNo X70.here hx rfl (hb hby d2_67) rfl ((if0 _ _).trans (flt Int32.lt_irrefl).1) k)
  show own_Go p e below PO (T70.setTop (mkF m 70 #[.val (.ref aT), .val (.ref aA), .val (.ref aB), .val (.ref aR), .val (.ref aC), .val (.int (2 : Int32)), .val (.int (0 : Int32))] []))
  refine own_back ?_ (fun t k => XS.aloadN X70.here hx rfl (hb hby d2_70) rfl rfl k)
  show own_Go p e below PO (T70.setTop (mkF m 71 #[.val (.ref aT), .val (.ref aA), .val (.ref aB), .val (.ref aR), .val (.ref aC), .val (.int (2 : Int32)), .val (.int (0 : Int32))] [(.ref aT)]))
  obtain ⟨T71, X71, e71, st71⟩ := getF X70 hx hZ hown (host := "") (Or.inl (hw _ (List.mem_of_getElem? (i := 29) rfl))) Via.refl e70 f58_64 (g := (mkF m 71 #[.val (.ref aT), .val (.ref aA), .val (.ref aB), .val (.ref aR), .val (.ref aC), .val (.int (2 : Int32)), .val (.int (0 : Int32))] [(.ref aT)])) rfl rfl (hb hby d2_71)
  refine own_back ?_ st71
  show own_Go p e below PO (T71.setTop (mkF m 74 #[.val (.ref aT), .val (.ref aA), .val (.ref aB), .val (.ref aR), .val (.ref aC), .val (.int (2 : Int32)), .val (.int (0 : Int32))] [(.ref b33)]))
  refine own_back ?_ (fun t k => XS.iload X71.here hx rfl (hb hby d2_74) rfl k)
  show own_Go p e below PO (T71.setTop (mkF m 76 #[.val (.ref aT), .val (.ref aA), .val (.ref aB), .val (.ref aR), .val (.ref aC), .val (.int (2 : Int32)), .val (.int (0 : Int32))] [(.int (0 : Int32)), (.ref b33)]))
  refine own_back ?_ (fun t k => XS.iload X71.here hx rfl (hb hby d2_76) rfl k)
  show own_Go p e below PO (T71.setTop (mkF m 78 #[.val (.ref aT), .val (.ref aA), .val (.ref aB), .val (.ref aR), .val (.ref aC), .val (.int (2 : Int32)), .val (.int (0 : Int32))] [(.int (2 : Int32)), (.int (0 : Int32)), (.ref b33)]))
  obtain ⟨T72, h72, X72, e72, W72, V72, st72⟩ := own_stI X71 hx hZ e71 V58 (j := (0 : Int32)) ⟨by decide, by decide⟩ (i := 0) rfl (by show 0 < 2; decide) (g := (mkF m 78 #[.val (.ref aT), .val (.ref aA), .val (.ref aB), .val (.ref aR), .val (.ref aC), .val (.int (2 : Int32)), .val (.int (0 : Int32))] [(.int (2 : Int32)), (.int (0 : Int32)), (.ref b33)])) rfl rfl (hb hby d2_78)
  replace V72 : Arv Z h72 b33 k33 .int (2 : Int32) [(.int (2 : Int32)), (.int (1 : Int32))] (.int (0 : Int32)) := V72
  have f72_73 := f58_59.wr W72
  have f72_74 := f58_60.other W72 ne_b3_b33
  have f72_75 := f58_61.wr W72
  have f72_76 := f58_62.other W72 (Or.inl ne_aT_b33)
  have f72_77 := f58_63.other W72 (Or.inl ne_aT_b33)
  have f72_78 := f58_64.other W72 (Or.inl ne_aT_b33)
  have f72_79 := f58_65.other W72 (Or.inl ne_aT_b33)
  have f72_80 := f58_66.other W72 (Or.inl ne_aT_b33)
  have f72_81 := f58_67.wr W72
  have f72_82 := f58_68.other W72 ne_b13_b33
  have f72_83 := f58_69.wr W72
  have K72 : Keep h0 h72 [aT] := (K58).wr W72 (Or.inr sz_b33)
  have N72 := Fr.snoc X72 N70 gn_b33
  have Zh72 : n0 ≤ h72.size := Nat.le_trans Z0 K72.1
  refine own_back ?_ st72
  show own_Go p e below PO (T72.setTop (mkF m 79 #[.val (.ref aT), .val (.ref aA), .val (.ref aB), .val (.ref aR), .val (.ref aC), .val (.int (2 : Int32)), .val (.int (0 : Int32))] []))
  refine own_back ?_ (fun t k => XS.iload X72.here hx rfl (hb hby d2_79) rfl k)
  show own_Go p e below PO (T72.setTop (mkF m 81 #[.val (.ref aT), .val (.ref aA), .val (.ref aB), .val (.ref aR), .val (.ref aC), .val (.int (2 : Int32)), .val (.int (0 : Int32))] [(.int (2 : Int32))]))
  refine own_back ?_ (fun t k => XS.aloadN X72.here hx rfl (hb hby d2_81) rfl rfl k)
  show own_Go p e below PO (T72.setTop (mkF m 82 #[.val (.ref aT), .val (.ref aA), .val (.ref aB), .val (.ref aR), .val (.ref aC), .val (.int (2 : Int32)), .val (.int (0 : Int32))] [(.ref aB), (.int (2 : Int32))]))
  refine own_back ?_ (fun t k => XS.iload X72.here hx rfl (hb hby d2_82) rfl k)
  show own_Go p e below PO (T72.setTop (mkF m 84 #[.val (.ref aT), .val (.ref aA), .val (.ref aB), .val (.ref aR), .val (.ref aC), .val (.int (2 : Int32)), .val (.int (0 : Int32))] [(.int (0 : Int32)), (.ref aB), (.int (2 : Int32))]))
  refine own_back ?_ (own_ldI X72 hx hZ e72 (V_B.keep K72 (ninS nB nin0)) (j := (0 : Int32)) (v := (.int (2 : Int32))) ⟨by decide, by decide⟩ rfl (g := (mkF m 84 #[.val (.ref aT), .val (.ref aA), .val (.ref aB), .val (.ref aR), .val (.ref aC), .val (.int (2 : Int32)), .val (.int (0 : Int32))] [(.int (0 : Int32)), (.ref aB), (.int (2 : Int32))])) rfl rfl (hb hby d2_84))
  show own_Go p e below PO (T72.setTop (mkF m 85 #[.val (.ref aT), .val (.ref aA), .val (.ref aB), .val (.ref aR), .val (.ref aC), .val (.int (2 : Int32)), .val (.int (0 : Int32))] [(.int (2 : Int32)), (.int (2 : Int32))]))
  obtain ⟨_, _, ⟨T84, L84, k84, n84⟩, -, X84, ⟨Lc84, hQ84, l84, y84, z84⟩, st84⟩ := Jvm.LawKit.callS X72 hx (y := (⟨"java/lang/Math", "multiplyExact", "(II)I"⟩ : MethodName)) hown (mvT hZ (hw _ (List.mem_of_getElem? (i := 31) rfl))) (mvT hZ (hw _ (List.mem_of_getElem? (i := 32) rfl))) (mvT hZ (hw _ (List.mem_of_getElem? (i := 33) rfl))) (mvT hZ (hw _ (List.mem_of_getElem? (i := 34) rfl))) (by decide) (backOf (W := 0) (rmMul_2_2 l Z a0 hw []   h72 n0 Zh72 ) hZ (hw _ (List.mem_of_getElem? (i := 34) rfl)) (hw _ (List.mem_of_getElem? (i := 33) rfl)) (by decide) (by decide)) (g := (mkF m 85 #[.val (.ref aT), .val (.ref aA), .val (.ref aB), .val (.ref aR), .val (.ref aC), .val (.int (2 : Int32)), .val (.int (0 : Int32))] [(.int (2 : Int32)), (.int (2 : Int32))])) rfl (by rw [hml]; rfl) (argsL := [(.int (2 : Int32)), (.int (2 : Int32))]) (rest := []) (lenOf pd_0 rfl) rfl (by show 2 * 0 + _ ≤ _; exact Nat.le_of_eq rfl) (hb hby d2_85) (fun _ _ => ⟨rfl, e72, (by decide : 3 + 0 ≤ _), (by decide : 6 + 0 ≤ _)⟩)
  dsimp only [Pt.U, Pt.locs, Pt.cells, Pt.slots] at X84 l84 y84 z84 st84 hQ84
  subst l84 y84 z84
  obtain ⟨rfl, N84q, e84⟩ := hQ84
  have N84 := Fr.app N72 N84q
  refine own_back ?_ st84
  show own_Go p e below PO (T84.setTop (mkF m 88 #[.val (.ref aT), .val (.ref aA), .val (.ref aB), .val (.ref aR), .val (.ref aC), .val (.int (2 : Int32)), .val (.int (0 : Int32))] [(.int (4 : Int32))]))
  refine own_back ?_ (fun t k => XS.istore X84.here hx rfl (hb hby d2_88) rfl (l' := #[.val (.ref aT), .val (.ref aA), .val (.ref aB), .val (.ref aR), .val (.ref aC), .val (.int (4 : Int32)), .val (.int (0 : Int32))]) rfl k)
  show own_Go p e below PO (T84.setTop (mkF m 90 #[.val (.ref aT), .val (.ref aA), .val (.ref aB), .val (.ref aR), .val (.ref aC), .val (.int (4 : Int32)), .val (.int (0 : Int32))] []))
  refine own_back ?_ (fun t k => XS.iinc X84.here hx rfl (hb hby d2_90) rfl (l' := #[.val (.ref aT), .val (.ref aA), .val (.ref aB), .val (.ref aR), .val (.ref aC), .val (.int (4 : Int32)), .val (.int (-1 : Int32))]) rfl k)
  show own_Go p e below PO (T84.setTop (mkF m 93 #[.val (.ref aT), .val (.ref aA), .val (.ref aB), .val (.ref aR), .val (.ref aC), .val (.int (4 : Int32)), .val (.int (-1 : Int32))] []))
  refine own_back ?_ (fun t k => XS.goto X84.here hx rfl (pc0 := 93) (pc' := 65) rfl (hb hby d2_93) (by decide) (by decide) k)
  show own_Go p e below PO (T84.setTop (mkF m 65 #[.val (.ref aT), .val (.ref aA), .val (.ref aB), .val (.ref aR), .val (.ref aC), .val (.int (4 : Int32)), .val (.int (-1 : Int32))] []))
  refine own_back ?_ (fun t k => XS.iload X84.here hx rfl (hb hby d2_65) rfl k)
  show own_Go p e below PO (T84.setTop (mkF m 67 #[.val (.ref aT), .val (.ref aA), .val (.ref aB), .val (.ref aR), .val (.ref aC), .val (.int (4 : Int32)), .val (.int (-1 : Int32))] [(.int (-1 : Int32))]))
  have hd67_85 : (-1 : Int32) < (0 : Int32) := (by decide)
  refine own_back ?_ (fun t k => XS.ifYes X84.here hx rfl (pc0 := 67) (pc' := 96) rfl (hb hby d2_67) rfl ((if0 _ _).trans (tlt hd67_85).1) (by decide) (by decide) k)
  show own_Go p e below PO (T84.setTop (mkF m 96 #[.val (.ref aT), .val (.ref aA), .val (.ref aB), .val (.ref aR), .val (.ref aC), .val (.int (4 : Int32)), .val (.int (-1 : Int32))] []))
  refine own_back ?_ (fun t k => XS.aloadN X84.here hx rfl (hb hby d2_96) rfl rfl k)
  show own_Go p e below PO (T84.setTop (mkF m 97 #[.val (.ref aT), .val (.ref aA), .val (.ref aB), .val (.ref aR), .val (.ref aC), .val (.int (4 : Int32)), .val (.int (-1 : Int32))] [(.ref aT)]))
  refine own_back ?_ (fun t k => XS.aloadN X84.here hx rfl (hb hby d2_97) rfl rfl k)
  show own_Go p e below PO (T84.setTop (mkF m 98 #[.val (.ref aT), .val (.ref aA), .val (.ref aB), .val (.ref aR), .val (.ref aC), .val (.int (4 : Int32)), .val (.int (-1 : Int32))] [(.ref aR), (.ref aT)]))
  refine own_back ?_ (fun t k => XS.iload X84.here hx rfl (hb hby d2_98) rfl k)
  show own_Go p e below PO (T84.setTop (mkF m 100 #[.val (.ref aT), .val (.ref aA), .val (.ref aB), .val (.ref aR), .val (.ref aC), .val (.int (4 : Int32)), .val (.int (-1 : Int32))] [(.int (4 : Int32)), (.ref aR), (.ref aT)]))
  obtain ⟨aS86, T86, h86, k86, X86, e86, E86, hS86, hk86, hZ, hown, st86⟩ := ldcS (s := s) (vm0 := s.vm) X84 hx hZ hown (hw _ (List.mem_of_getElem? (i := 35) rfl)) (own_wS hw) e84 hS0 (Nat.zero_le _) (g := (mkF m 100 #[.val (.ref aT), .val (.ref aA), .val (.ref aB), .val (.ref aR), .val (.ref aC), .val (.int (4 : Int32)), .val (.int (-1 : Int32))] [(.int (4 : Int32)), (.ref aR), (.ref aT)])) rfl (hb hby d2_100) (n := 28) (by decide) (by decide) (by decide) (by decide)
  have f86_87 := f72_73.ext E86
  have f86_88 := f72_74.ext E86
  have f86_89 := f72_75.ext E86
  have f86_90 := f72_76.ext E86
  have f86_91 := f72_77.ext E86
  have f86_92 := f72_78.ext E86
  have f86_93 := f72_79.ext E86
  have f86_94 := f72_80.ext E86
  have f86_95 := f72_81.ext E86
  have f86_96 := f72_82.ext E86
  have f86_97 := f72_83.ext E86
  have f86_98 := V72.ext E86
  have K86 : Keep h0 h86 [aT] := (K72).ext E86
  have Zh86 : n0 ≤ h86.size := Nat.le_trans Z0 K86.1
  refine own_back ?_ st86
  show own_Go p e below PO (T86.setTop (mkF m 102 #[.val (.ref aT), .val (.ref aA), .val (.ref aB), .val (.ref aR), .val (.ref aC), .val (.int (4 : Int32)), .val (.int (-1 : Int32))] [(.ref aS86), (.int (4 : Int32)), (.ref aR), (.ref aT)]))
  obtain ⟨_, _, ⟨T99, L99, k99, n99⟩, -, X99, ⟨Lc99, hQ99, l99, y99, z99⟩, st99⟩ := Jvm.LawKit.callS X86 hx (y := (⟨"com/example/nearbound/nearbound/dcop/Constraint", "checkTable", "([DILjava/lang/String;)[D"⟩ : MethodName)) hown (mvT hZ (hw _ (List.mem_of_getElem? (i := 43) rfl))) (mvT hZ (hw _ (List.mem_of_getElem? (i := 44) rfl))) (mvT hZ (hw _ (List.mem_of_getElem? (i := 9) rfl))) (mvT hZ (hw _ (List.mem_of_getElem? (i := 45) rfl))) (by decide) (backOf (W := 1) (rmTab l Z a0 hw [] aR aS86 kR u0 u1 u2 u3 h86 n0 Zh86 (E_R.keep K86) (V_R.keep K86 (ninS nR nin0))) hZ (hw _ (List.mem_of_getElem? (i := 45) rfl)) (hw _ (List.mem_of_getElem? (i := 9) rfl)) (by decide) (by decide)) (g := (mkF m 102 #[.val (.ref aT), .val (.ref aA), .val (.ref aB), .val (.ref aR), .val (.ref aC), .val (.int (4 : Int32)), .val (.int (-1 : Int32))] [(.ref aS86), (.int (4 : Int32)), (.ref aR), (.ref aT)])) rfl (by rw [hml]; rfl) (argsL := [(.ref aR), (.int (4 : Int32)), (.ref aS86)]) (rest := [(.ref aT)]) (lenOf pd_1 rfl) rfl (by show 2 * 0 + _ ≤ _; exact Nat.le_of_eq rfl) (hb hby d2_102) (fun _ _ => ⟨rfl, e86, (by decide : 5 + 1 ≤ _), (by decide : 38 + 4 ≤ _)⟩)
  dsimp only [Pt.U, Pt.locs, Pt.cells, Pt.slots] at X99 l99 y99 z99 st99 hQ99
  subst l99 y99 z99
  obtain ⟨aN99, rfl, N99q, Kc99, sz99, EN99, VN99⟩ := hQ99
  have N99 := Fr.app N84 N99q
  have ne_aA_aN99 : aA ≠ aN99 := Nat.ne_of_lt (Nat.lt_of_lt_of_le (V_A.keep K86 (ninS nA nin0)).lt sz99)
  have ne_aB_aN99 : aB ≠ aN99 := Nat.ne_of_lt (Nat.lt_of_lt_of_le (V_B.keep K86 (ninS nB nin0)).lt sz99)
  have ne_aC_aN99 : aC ≠ aN99 := Nat.ne_of_lt (Nat.lt_of_lt_of_le (V_C.keep K86 (ninS nC nin0)).lt sz99)
  have ne_aR_aN99 : aR ≠ aN99 := Nat.ne_of_lt (Nat.lt_of_lt_of_le (V_R.keep K86 (ninS nR nin0)).lt sz99)
  have ne_aT_aN99 : aT ≠ aN99 := Nat.ne_of_lt (Nat.lt_of_lt_of_le f86_89.lt sz99)
  have ne_b13_aN99 : b13 ≠ aN99 := Nat.ne_of_lt (Nat.lt_of_lt_of_le f86_95.lt sz99)
  have ne_b3_aN99 : b3 ≠ aN99 := Nat.ne_of_lt (Nat.lt_of_lt_of_le f86_87.lt sz99)
  have ne_b33_aN99 : b33 ≠ aN99 := Nat.ne_of_lt (Nat.lt_of_lt_of_le f86_97.lt sz99)
  have sz_aN99 : h0.size ≤ aN99 := Nat.le_trans K86.1 sz99
  have gn_aN99 : n0 ≤ aN99 := Nat.le_trans Z0 sz_aN99
  have f99_100 := f86_87.keep Kc99
  have f99_101 := f86_88.keep Kc99 nin0
  have f99_102 := f86_89.keep Kc99
  have f99_103 := f86_90.keep Kc99 nin0
  have f99_104 := f86_91.keep Kc99 nin0
  have f99_105 := f86_92.keep Kc99 nin0
  have f99_106 := f86_93.keep Kc99 nin0
  have f99_107 := f86_94.keep Kc99 nin0
  have f99_108 := f86_95.keep Kc99
  have f99_109 := f86_96.keep Kc99 nin0
  have f99_110 := f86_97.keep Kc99
  have f99_111 := f86_98.keep Kc99 nin0
  have K99 : Keep h0 T99.heap [aT] := (K86).trans Kc99 all0
  have Zh99 : n0 ≤ T99.heap.size := Nat.le_trans Z0 K99.1
  have hk99 := Nat.le_trans hk86 Kc99.1
  refine own_back ?_ st99
  show own_Go p e below PO (T99.setTop (mkF m 105 #[.val (.ref aT), .val (.ref aA), .val (.ref aB), .val (.ref aR), .val (.ref aC), .val (.int (4 : Int32)), .val (.int (-1 : Int32))] [(.ref aN99), (.ref aT)]))
  obtain ⟨T112, h112, X112, e112, W112, st112⟩ := putF X99 hx hZ hown (host := "") (Or.inl (hw _ (List.mem_of_getElem? (i := 52) rfl))) Via.refl rfl f99_106 f99_102 (Or.inr ⟨(hw _ (List.mem_of_getElem? (i := 53) rfl)), rfl, hnm⟩) (hw _ (List.mem_of_getElem? (i := 8) rfl)) (ty := (.array .double)) (by decide) rfl rfl (g := (mkF m 105 #[.val (.ref aT), .val (.ref aA), .val (.ref aB), .val (.ref aR), .val (.ref aC), .val (.int (4 : Int32)), .val (.int (-1 : Int32))] [(.ref aN99), (.ref aT)])) rfl rfl (hb hby d2_105)
  have Fw112 := f99_106.same W112
  have f112_113 := f99_100.wr W112
  have f112_114 := f99_101.other W112 (Ne.symm ne_aT_b3)
  have f112_115 := f99_102.wr W112
  have f112_116 := f99_103.other W112 (Or.inr (slot_ne (Or.inr (hw _ (List.mem_of_getElem? (i := 26) rfl))) (Or.inr (hw _ (List.mem_of_getElem? (i := 53) rfl))) (by decide) (t := (.array .int)) (t' := (.array .double)) (by decide) (by decide)))
  have f112_117 := f99_104.other W112 (Or.inr (slot_ne (Or.inr (hw _ (List.mem_of_getElem? (i := 28) rfl))) (Or.inr (hw _ (List.mem_of_getElem? (i := 53) rfl))) (by decide) (t := (.array .int)) (t' := (.array .double)) (by decide) (by decide)))
  have f112_118 := f99_105.other W112 (Or.inr (slot_ne (Or.inr (hw _ (List.mem_of_getElem? (i := 30) rfl))) (Or.inr (hw _ (List.mem_of_getElem? (i := 53) rfl))) (by decide) (t := (.array .int)) (t' := (.array .double)) (by decide) (by decide)))
  have f112_119 := f99_107.other W112 (Or.inr (slot_ne (Or.inr (hw _ (List.mem_of_getElem? (i := 55) rfl))) (Or.inr (hw _ (List.mem_of_getElem? (i := 53) rfl))) (by decide) (t := (.array .double)) (t' := (.array .double)) (by decide) (by decide)))
  have f112_120 := f99_108.wr W112
  have f112_121 := f99_109.other W112 (Ne.symm ne_aT_b13)
  have f112_122 := f99_110.wr W112
  have f112_123 := f99_111.other W112 (Ne.symm ne_aT_b33)
  have f112_124 := EN99.wr W112
  have f112_125 := VN99.other W112 (Ne.symm ne_aT_aN99)
  have K112 : Keep h0 h112 [aT] := (K99).wr W112 (Or.inl (by simp))
  have N112 := Fr.snoc X112 N99 gn_aT
  have Zh112 : n0 ≤ h112.size := Nat.le_trans Z0 K112.1
  have hk112 := Nat.le_trans hk99 (Keep.of_wr W112).1
  refine own_back ?_ st112
  show own_Go p e below PO (T112.setTop (mkF m 108 #[.val (.ref aT), .val (.ref aA), .val (.ref aB), .val (.ref aR), .val (.ref aC), .val (.int (4 : Int32)), .val (.int (-1 : Int32))] []))
  refine own_back ?_ (fun t k => XS.aload X112.here hx rfl (hb hby d2_108) rfl rfl k)
  show own_Go p e below PO (T112.setTop (mkF m 110 #[.val (.ref aT), .val (.ref aA), .val (.ref aB), .val (.ref aR), .val (.ref aC), .val (.int (4 : Int32)), .val (.int (-1 : Int32))] [(.ref aC)]))
  refine own_back ?_ (fun t k => XS.ifnullNo X112.here hx rfl (hb hby d2_110) rfl k)
  show own_Go p e below PO (T112.setTop (mkF m 113 #[.val (.ref aT), .val (.ref aA), .val (.ref aB), .val (.ref aR), .val (.ref aC), .val (.int (4 : Int32)), .val (.int (-1 : Int32))] []))
  refine own_back ?_ (fun t k => XS.aloadN X112.here hx rfl (hb hby d2_113) rfl rfl k)
  show own_Go p e below PO (T112.setTop (mkF m 114 #[.val (.ref aT), .val (.ref aA), .val (.ref aB), .val (.ref aR), .val (.ref aC), .val (.int (4 : Int32)), .val (.int (-1 : Int32))] [(.ref aA)]))
  refine own_back ?_ (own_len X112 hx hZ e112 (V_A.keep K112 (ninS nA nin0)) (g := (mkF m 114 #[.val (.ref aT), .val (.ref aA), .val (.ref aB), .val (.ref aR), .val (.ref aC), .val (.int (4 : Int32)), .val (.int (-1 : Int32))] [(.ref aA)])) rfl rfl (hb hby d2_114))
  show own_Go p e below PO (T112.setTop (mkF m 115 #[.val (.ref aT), .val (.ref aA), .val (.ref aB), .val (.ref aR), .val (.ref aC), .val (.int (4 : Int32)), .val (.int (-1 : Int32))] [(.int (2 : Int32))]))
  refine own_back ?_ (fun t k => XS.iconst X112.here hx rfl (hb hby d2_115) k)
  show own_Go p e below PO (T112.setTop (mkF m 116 #[.val (.ref aT), .val (.ref aA), .val (.ref aB), .val (.ref aR), .val (.ref aC), .val (.int (4 : Int32)), .val (.int (-1 : Int32))] [(.int (2 : Int32)), (.int (2 : Int32))]))
  refine own_back ?_ (fun t k => XS.icmpYes X112.here hx rfl (pc0 := 116) (pc' := 134) rfl (hb hby d2_116) rfl (teq rfl).1 (by decide) (by decide) k)
  show own_Go p e below PO (T112.setTop (mkF m 134 #[.val (.ref aT), .val (.ref aA), .val (.ref aB), .val (.ref aR), .val (.ref aC), .val (.int (4 : Int32)), .val (.int (-1 : Int32))] []))
  refine own_back ?_ (fun t k => XS.aloadN X112.here hx rfl (hb hby d2_134) rfl rfl k)
  show own_Go p e below PO (T112.setTop (mkF m 135 #[.val (.ref aT), .val (.ref aA), .val (.ref aB), .val (.ref aR), .val (.ref aC), .val (.int (4 : Int32)), .val (.int (-1 : Int32))] [(.ref aT)]))
  refine own_back ?_ (fun t k => XS.aload X112.here hx rfl (hb hby d2_135) rfl rfl k)
  show own_Go p e below PO (T112.setTop (mkF m 137 #[.val (.ref aT), .val (.ref aA), .val (.ref aB), .val (.ref aR), .val (.ref aC), .val (.int (4 : Int32)), .val (.int (-1 : Int32))] [(.ref aC), (.ref aT)]))
  refine own_back ?_ (fun t k => XS.ifnonnullYes X112.here hx rfl (pc0 := 137) (pc' := 144) rfl (hb hby d2_137) rfl (by decide) (by decide) k)
  show own_Go p e below PO (T112.setTop (mkF m 144 #[.val (.ref aT), .val (.ref aA), .val (.ref aB), .val (.ref aR), .val (.ref aC), .val (.int (4 : Int32)), .val (.int (-1 : Int32))] [(.ref aT)]))
  refine own_back ?_ (fun t k => XS.aload X112.here hx rfl (hb hby d2_144) rfl rfl k)
  show own_Go p e below PO (T112.setTop (mkF m 146 #[.val (.ref aT), .val (.ref aA), .val (.ref aB), .val (.ref aR), .val (.ref aC), .val (.int (4 : Int32)), .val (.int (-1 : Int32))] [(.ref aC), (.ref aT)]))
  refine own_back ?_ (fun t k => XS.iload X112.here hx rfl (hb hby d2_146) rfl k)
  show own_Go p e below PO (T112.setTop (mkF m 148 #[.val (.ref aT), .val (.ref aA), .val (.ref aB), .val (.ref aR), .val (.ref aC), .val (.int (4 : Int32)), .val (.int (-1 : Int32))] [(.int (4 : Int32)), (.ref aC), (.ref aT)]))
  obtain ⟨aS126, T126, h126, k126, X126, e126, E126, hS126, hk126, hZ, hown, st126⟩ := ldcS (s := s) (vm0 := T86.vm) X112 hx hZ hown (hw _ (List.mem_of_getElem? (i := 64) rfl)) (own_wS hw) e112 hS86 hk112 (g := (mkF m 148 #[.val (.ref aT), .val (.ref aA), .val (.ref aB), .val (.ref aR), .val (.ref aC), .val (.int (4 : Int32)), .val (.int (-1 : Int32))] [(.int (4 : Int32)), (.ref aC), (.ref aT)])) rfl (hb hby d2_148) (n := 20) (by decide) (by decide) (by decide) (by decide)
  have f126_127 := f112_113.ext E126
  have f126_128 := f112_114.ext E126
  have f126_129 := f112_115.ext E126
  have f126_130 := f112_116.ext E126
  have f126_131 := f112_117.ext E126
  have f126_132 := f112_118.ext E126
  have f126_133 := Fw112.ext E126
  have f126_134 := f112_119.ext E126
  have f126_135 := f112_120.ext E126
  have f126_136 := f112_121.ext E126
  have f126_137 := f112_122.ext E126
  have f126_138 := f112_123.ext E126
  have f126_139 := f112_124.ext E126
  have f126_140 := f112_125.ext E126
  have K126 : Keep h0 h126 [aT] := (K112).ext E126
  have Zh126 : n0 ≤ h126.size := Nat.le_trans Z0 K126.1
  refine own_back ?_ st126
  show own_Go p e below PO (T126.setTop (mkF m 150 #[.val (.ref aT), .val (.ref aA), .val (.ref aB), .val (.ref aR), .val (.ref aC), .val (.int (4 : Int32)), .val (.int (-1 : Int32))] [(.ref aS126), (.int (4 : Int32)), (.ref aC), (.ref aT)]))
  obtain ⟨_, _, ⟨T141, L141, k141, n141⟩, -, X141, ⟨Lc141, hQ141, l141, y141, z141⟩, st141⟩ := Jvm.LawKit.callS X126 hx (y := (⟨"com/example/nearbound/nearbound/dcop/Constraint", "checkTable", "([DILjava/lang/String;)[D"⟩ : MethodName)) hown (mvT hZ (hw _ (List.mem_of_getElem? (i := 43) rfl))) (mvT hZ (hw _ (List.mem_of_getElem? (i := 44) rfl))) (mvT hZ (hw _ (List.mem_of_getElem? (i := 9) rfl))) (mvT hZ (hw _ (List.mem_of_getElem? (i := 45) rfl))) (by decide) (backOf (W := 1) (rmTab l Z a0 hw [] aC aS126 kC (4607182418800017408 : UInt64) (4611686018427387904 : UInt64) (0 : UInt64) (4613937818241073152 : UInt64) h126 n0 Zh126 (E_C.keep K126) (V_C.keep K126 (ninS nC nin0))) hZ (hw _ (List.mem_of_getElem? (i := 45) rfl)) (hw _ (List.mem_of_getElem? (i := 9) rfl)) (by decide) (by decide)) (g := (mkF m 150 #[.val (.ref aT), .val (.ref aA), .val (.ref aB), .val (.ref aR), .val (.ref aC), .val (.int (4 : Int32)), .val (.int (-1 : Int32))] [(.ref aS126), (.int (4 : Int32)), (.ref aC), (.ref aT)])) rfl (by rw [hml]; rfl) (argsL := [(.ref aC), (.int (4 : Int32)), (.ref aS126)]) (rest := [(.ref aT)]) (lenOf pd_1 rfl) rfl (by show 2 * 0 + _ ≤ _; exact Nat.le_of_eq rfl) (hb hby d2_150) (fun _ _ => ⟨rfl, e126, (by decide : 8 + 1 ≤ _), (by decide : 66 + 4 ≤ _)⟩)
  dsimp only [Pt.U, Pt.locs, Pt.cells, Pt.slots] at X141 l141 y141 z141 st141 hQ141
  subst l141 y141 z141
  obtain ⟨aN141, rfl, N141q, Kc141, sz141, EN141, VN141⟩ := hQ141
  have N141 := Fr.app N112 N141q
  have ne_aA_aN141 : aA ≠ aN141 := Nat.ne_of_lt (Nat.lt_of_lt_of_le (V_A.keep K126 (ninS nA nin0)).lt sz141)
  have ne_aB_aN141 : aB ≠ aN141 := Nat.ne_of_lt (Nat.lt_of_lt_of_le (V_B.keep K126 (ninS nB nin0)).lt sz141)
  have ne_aC_aN141 : aC ≠ aN141 := Nat.ne_of_lt (Nat.lt_of_lt_of_le (V_C.keep K126 (ninS nC nin0)).lt sz141)
  have ne_aN99_aN141 : aN99 ≠ aN141 := Nat.ne_of_lt (Nat.lt_of_lt_of_le f126_139.lt sz141)
  have ne_aR_aN141 : aR ≠ aN141 := Nat.ne_of_lt (Nat.lt_of_lt_of_le (V_R.keep K126 (ninS nR nin0)).lt sz141)
  have ne_aT_aN141 : aT ≠ aN141 := Nat.ne_of_lt (Nat.lt_of_lt_of_le f126_129.lt sz141)
  have ne_b13_aN141 : b13 ≠ aN141 := Nat.ne_of_lt (Nat.lt_of_lt_of_le f126_135.lt sz141)
  have ne_b3_aN141 : b3 ≠ aN141 := Nat.ne_of_lt (Nat.lt_of_lt_of_le f126_127.lt sz141)
  have ne_b33_aN141 : b33 ≠ aN141 := Nat.ne_of_lt (Nat.lt_of_lt_of_le f126_137.lt sz141)
  have sz_aN141 : h0.size ≤ aN141 := Nat.le_trans K126.1 sz141
  have gn_aN141 : n0 ≤ aN141 := Nat.le_trans Z0 sz_aN141
  have f141_142 := f126_127.keep Kc141
  have f141_143 := f126_128.keep Kc141 nin0
  have f141_144 := f126_129.keep Kc141
  have f141_145 := f126_130.keep Kc141 nin0
  have f141_146 := f126_131.keep Kc141 nin0
  have f141_147 := f126_132.keep Kc141 nin0
  have f141_148 := f126_133.keep Kc141 nin0
  have f141_149 := f126_134.keep Kc141 nin0
  have f141_150 := f126_135.keep Kc141
  have f141_151 := f126_136.keep Kc141 nin0
  have f141_152 := f126_137.keep Kc141
  have f141_153 := f126_138.keep Kc141 nin0
  have f141_154 := f126_139.keep Kc141
  have f141_155 := f126_140.keep Kc141 nin0
  have K141 : Keep h0 T141.heap [aT] := (K126).trans Kc141 all0
  have Zh141 : n0 ≤ T141.heap.size := Nat.le_trans Z0 K141.1
  have hk141 := Nat.le_trans hk126 Kc141.1
  refine own_back ?_ st141
  show own_Go p e below PO (T141.setTop (mkF m 153 #[.val (.ref aT), .val (.ref aA), .val (.ref aB), .val (.ref aR), .val (.ref aC), .val (.int (4 : Int32)), .val (.int (-1 : Int32))] [(.ref aN141), (.ref aT)]))
  obtain ⟨T156, h156, X156, e156, W156, st156⟩ := putF X141 hx hZ hown (host := "") (Or.inl (hw _ (List.mem_of_getElem? (i := 54) rfl))) Via.refl rfl f141_149 f141_144 (Or.inr ⟨(hw _ (List.mem_of_getElem? (i := 55) rfl)), rfl, hnm⟩) (hw _ (List.mem_of_getElem? (i := 8) rfl)) (ty := (.array .double)) (by decide) rfl rfl (g := (mkF m 153 #[.val (.ref aT), .val (.ref aA), .val (.ref aB), .val (.ref aR), .val (.ref aC), .val (.int (4 : Int32)), .val (.int (-1 : Int32))] [(.ref aN141), (.ref aT)])) rfl rfl (hb hby d2_153)
  have Fw156 := f141_149.same W156
  have f156_157 := f141_142.wr W156
  have f156_158 := f141_143.other W156 (Ne.symm ne_aT_b3)
  have f156_159 := f141_144.wr W156
  have f156_160 := f141_145.other W156 (Or.inr (slot_ne (Or.inr (hw _ (List.mem_of_getElem? (i := 26) rfl))) (Or.inr (hw _ (List.mem_of_getElem? (i := 55) rfl))) (by decide) (t := (.array .int)) (t' := (.array .double)) (by decide) (by decide)))
  have f156_161 := f141_146.other W156 (Or.inr (slot_ne (Or.inr (hw _ (List.mem_of_getElem? (i := 28) rfl))) (Or.inr (hw _ (List.mem_of_getElem? (i := 55) rfl))) (by decide) (t := (.array .int)) (t' := (.array .double)) (by decide) (by decide)))
  have f156_162 := f141_147.other W156 (Or.inr (slot_ne (Or.inr (hw _ (List.mem_of_getElem? (i := 30) rfl))) (Or.inr (hw _ (List.mem_of_getElem? (i := 55) rfl))) (by decide) (t := (.array .int)) (t' := (.array .double)) (by decide) (by decide)))
  have f156_163 := f141_148.other W156 (Or.inr (slot_ne (Or.inr (hw _ (List.mem_of_getElem? (i := 53) rfl))) (Or.inr (hw _ (List.mem_of_getElem? (i := 55) rfl))) (by decide) (t := (.array .double)) (t' := (.array .double)) (by decide) (by decide)))
  have f156_164 := f141_150.wr W156
  have f156_165 := f141_151.other W156 (Ne.symm ne_aT_b13)
  have f156_166 := f141_152.wr W156
  have f156_167 := f141_153.other W156 (Ne.symm ne_aT_b33)
  have f156_168 := f141_154.wr W156
  have f156_169 := f141_155.other W156 (Ne.symm ne_aT_aN99)
  have f156_170 := EN141.wr W156
  have f156_171 := VN141.other W156 (Ne.symm ne_aT_aN141)
  have K156 : Keep h0 h156 [aT] := (K141).wr W156 (Or.inl (by simp))
  have N156 := Fr.snoc X156 N141 gn_aT
  have Zh156 : n0 ≤ h156.size := Nat.le_trans Z0 K156.1
  have hk156 := Nat.le_trans hk141 (Keep.of_wr W156).1
  refine own_back ?_ st156
  show own_Go p e below PO (T156.setTop (mkF m 156 #[.val (.ref aT), .val (.ref aA), .val (.ref aB), .val (.ref aR), .val (.ref aC), .val (.int (4 : Int32)), .val (.int (-1 : Int32))] []))
  refine own_retVW X156 hx Bd.returns (hb hby d2_156) e156 (Bd.notSynchronized) ?_ (by decide) (by decide) (s := s) (vm0 := T126.vm) hS126 hk156
  exact ⟨rfl, N156, K156, aN99, sz_aN99, f156_163, f156_169⟩
theorem d6_0 : decode prog_2_method_12_code 0 = .ok (.aload_n 0, 1) := by decide +kernel
theorem d6_1 : decode prog_2_method_12_code 1 = .ok (.getfield 45, 3) := by decide +kernel
theorem d6_4 : decode prog_2_method_12_code 4 = .ok (.astore_n 1, 1) := by decide +kernel
theorem d6_5 : decode prog_2_method_12_code 5 = .ok (.aload_n 1, 1) := by decide +kernel
theorem d6_6 : decode prog_2_method_12_code 6 = .ok (.arraylength, 1) := by decide +kernel
theorem d6_7 : decode prog_2_method_12_code 7 = .ok (.istore_n 2, 1) := by decide +kernel
theorem d6_8 : decode prog_2_method_12_code 8 = .ok (.iconst 0, 1) := by decide +kernel
theorem d6_9 : decode prog_2_method_12_code 9 = .ok (.istore_n 3, 1) := by decide +kernel
theorem d6_10 : decode prog_2_method_12_code 10 = .ok (.iload_n 3, 1) := by decide +kernel
theorem d6_11 : decode prog_2_method_12_code 11 = .ok (.iload_n 2, 1) := by decide +kernel
theorem d6_12 : decode prog_2_method_12_code 12 = .ok (.if_icmp .ge 25, 3) := by decide +kernel
theorem d6_15 : decode prog_2_method_12_code 15 = .ok (.aload_n 1, 1) := by decide +kernel
theorem d6_16 : decode prog_2_method_12_code 16 = .ok (.iload_n 3, 1) := by decide +kernel
theorem d6_17 : decode prog_2_method_12_code 17 = .ok (.daload, 1) := by decide +kernel
theorem d6_18 : decode prog_2_method_12_code 18 = .ok (.dstore 4, 2) := by decide +kernel
theorem d6_20 : decode prog_2_method_12_code 20 = .ok (.dload 4, 2) := by decide +kernel
theorem d6_22 : decode prog_2_method_12_code 22 = .ok (.ldc2_w 80, 3) := by decide +kernel
theorem d6_25 : decode prog_2_method_12_code 25 = .ok (.dcmp .l, 1) := by decide +kernel
theorem d6_26 : decode prog_2_method_12_code 26 = .ok (.ifCond .ne 5, 3) := by decide +kernel
theorem d6_29 : decode prog_2_method_12_code 29 = .ok (.iconst 1, 1) := by decide +kernel
theorem d6_30 : decode prog_2_method_12_code 30 = .ok (.ireturn, 1) := by decide +kernel
theorem d6_31 : decode prog_2_method_12_code 31 = .ok (.iinc 3 1, 3) := by decide +kernel
theorem d6_34 : decode prog_2_method_12_code 34 = .ok (.goto (-24), 3) := by decide +kernel
theorem d6_37 : decode prog_2_method_12_code 37 = .ok (.iconst 0, 1) := by decide +kernel
theorem d6_38 : decode prog_2_method_12_code 38 = .ok (.ireturn, 1) := by decide +kernel
theorem ef_rmH (m : MethodId) (x0 : Addr) : entryFrame m #[(.ref x0)] 6 = mkF m 0 #[.val (.ref x0), .unset, .unset, .unset, .unset, .unset] [] := by first | (simp [entryFrame, mkF, argsToLocals, Value.category]; done) | rfl
def Q_rmH (u0 u1 u2 u3 : UInt64) (h0 : Heap) (n0 : Nat) (v : Option Value) (h : Heap) (L : List Loc) : Prop := v = some (.int (own_hard u0 u1 u2 u3)) ∧ Fr n0 L ∧ h = h0
set_option maxRecDepth 65536 in
set_option maxHeartbeats 40000000 in
theorem rmH (l : Launch) (Z : State) (a0 : Array Value) (hw : ∀ d ∈ tables_1, d.before a0 Z = true) (ws : List Jvm.Cond) (aT : Addr) (aA : Addr) (kA : ClassId) (u0 u1 u2 u3 : UInt64) (h0 : Heap) (n0 : Nat) (Z0 : n0 ≤ h0.size) (F_S : Fld Z h0 aT "com/example/nearbound/nearbound/dcop/Constraint" "rewards" "[D" (.ref aA)) (V_A : Arv Z h0 aA kA .double (4 : Int32) [(.double u0), (.double u1), (.double u2), (.double u3)] (.double (0 : UInt64))) :
    MetFree l (⟨"com/example/nearbound/nearbound/dcop/Constraint", "isHard", "()Z"⟩ : MethodName) (head1 (Jvm.Cond.code (⟨"com/example/nearbound/nearbound/dcop/Constraint", "isHard", "()Z"⟩ : MethodName) prog_2_method_12_code 6 (some .boolean) :: ws) ({ frames := 0, cells := 0, slots := 0, locals := 0 } : Room)) (fun a U => a = #[(.ref aT)] ∧ Z.Warmed39 U.vm ∧ U.heap = h0) (fun _ _ _ _ _ => True) (fun _ U o U' => ∃ v L, o = .returned v ∧ Q_rmH u0 u1 u2 u3 h0 n0 v U'.heap L ∧ FrameEnd U o U' L ({ frames := 0, cells := 0, slots := 0, locals := 0 } : Room).cells ({ frames := 0, cells := 0, slots := 0, locals := 0 } : Room).slots) := by
  refine MetFree.of_bodySF (plainFor_of_name pn_0) hisR ?_
  intro p e s m args below meth c s₁ Bd hml0 hP hK
  obtain ⟨rfl, hZ, hh⟩ := hP
  have hx := Bd.exec
  have hby := Bd.bytes
  have hml : c.maxLocals = 6 := hml0
  have hown : s.vm.findClass "com/example/nearbound/nearbound/dcop/Constraint" = some m.cls := findClass_of_methodNamed Bd.named
  have hnm := (name_of_methodNamed Bd.named Bd.method).1
  have X0 : Stand p l e ({ frames := 0, cells := 0, slots := 0, locals := 0 } : Room) s m #[(.ref aT)] below meth c s₁ [] 0 0 := Stand.of_body Bd
  have e0 : s₁.heap = h0 := by rw [← hh, Bd.state]; rfl
  have N0 := Fr.nil n0
  let PO : Outcome → State → Prop := own_PO s (Q_rmH u0 u1 u2 u3 h0 n0) 0 0
  show own_Go p e below PO (s₁.setTop (entryFrame m #[(.ref aT)] 6))
  rw [ef_rmH]
  show own_Go p e below PO (s₁.setTop (mkF m 0 #[.val (.ref aT), .unset, .unset, .unset, .unset, .unset] []))
  refine own_back ?_ (fun t k => XS.aloadN X0.here hx rfl (hb hby d6_0) rfl rfl k)
  show own_Go p e below PO (s₁.setTop (mkF m 1 #[.val (.ref aT), .unset, .unset, .unset, .unset, .unset] [(.ref aT)]))
  obtain ⟨T1, X1, e1, st1⟩ := getF X0 hx hZ hown (host := "") (Or.inl (hw _ (List.mem_of_getElem? (i := 52) rfl))) Via.refl e0 F_S (g := (mkF m 1 #[.val (.ref aT), .unset, .unset, .unset, .unset, .unset] [(.ref aT)])) rfl rfl (hb hby d6_1)
  refine own_back ?_ st1
  show own_Go p e below PO (T1.setTop (mkF m 4 #[.val (.ref aT), .unset, .unset, .unset, .unset, .unset] [(.ref aA)]))
  refine own_back ?_ (fun t k => XS.astoreN X1.here hx rfl (hb hby d6_4) rfl rfl (l' := #[.val (.ref aT), .val (.ref aA), .unset, .unset, .unset, .unset]) rfl k)
  show own_Go p e below PO (T1.setTop (mkF m 5 #[.val (.ref aT), .val (.ref aA), .unset, .unset, .unset, .unset] []))
  refine own_back ?_ (fun t k => XS.aloadN X1.here hx rfl (hb hby d6_5) rfl rfl k)
  show own_Go p e below PO (T1.setTop (mkF m 6 #[.val (.ref aT), .val (.ref aA), .unset, .unset, .unset, .unset] [(.ref aA)]))
  refine own_back ?_ (own_len X1 hx hZ e1 V_A (g := (mkF m 6 #[.val (.ref aT), .val (.ref aA), .unset, .unset, .unset, .unset] [(.ref aA)])) rfl rfl (hb hby d6_6))
  show own_Go p e below PO (T1.setTop (mkF m 7 #[.val (.ref aT), .val (.ref aA), .unset, .unset, .unset, .unset] [(.int (4 : Int32))]))
  refine own_back ?_ (fun t k => XS.istoreN X1.here hx rfl (hb hby d6_7) rfl (l' := #[.val (.ref aT), .val (.ref aA), .val (.int (4 : Int32)), .unset, .unset, .unset]) rfl k)
  show own_Go p e below PO (T1.setTop (mkF m 8 #[.val (.ref aT), .val (.ref aA), .val (.int (4 : Int32)), .unset, .unset, .unset] []))
  refine own_back ?_ (fun t k => XS.iconst X1.here hx rfl (hb hby d6_8) k)
  show own_Go p e below PO (T1.setTop (mkF m 9 #[.val (.ref aT), .val (.ref aA), .val (.int (4 : Int32)), .unset, .unset, .unset] [(.int (0 : Int32))]))
  refine own_back ?_ (fun t k => XS.istoreN X1.here hx rfl (hb hby d6_9) rfl (l' := #[.val (.ref aT), .val (.ref aA), .val (.int (4 : Int32)), .val (.int (0 : Int32)), .unset, .unset]) rfl k)
  show own_Go p e below PO (T1.setTop (mkF m 10 #[.val (.ref aT), .val (.ref aA), .val (.int (4 : Int32)), .val (.int (0 : Int32)), .unset, .unset] []))
  refine own_back ?_ (fun t k => XS.iloadN X1.here hx rfl (hb hby d6_10) rfl k)
  show own_Go p e below PO (T1.setTop (mkF m 11 #[.val (.ref aT), .val (.ref aA), .val (.int (4 : Int32)), .val (.int (0 : Int32)), .unset, .unset] [(.int (0 : Int32))]))
  refine own_back ?_ (fun t k => XS.iloadN X1.here hx rfl (hb hby d6_11) rfl k)
  show own_Go p e below PO (T1.setTop (mkF m 12 #[.val (.ref aT), .val (.ref aA), .val (.int (4 : Int32)), .val (.int (0 : Int32)), .unset, .unset] [(.int (4 : Int32)), (.int (0 : Int32))]))
  have hd12_2 : (0 : Int32) < (4 : Int32) := (by decide)
  refine own_back ?_ (fun t k => XS.icmpNo X1.here hx rfl (hb hby d6_12) rfl (tlt hd12_2).2.1 k)
  show own_Go p e below PO (T1.setTop (mkF m 15 #[.val (.ref aT), .val (.ref aA), .val (.int (4 : Int32)), .val (.int (0 : Int32)), .unset, .unset] []))
  refine own_back ?_ (fun t k => XS.aloadN X1.here hx rfl (hb hby d6_15) rfl rfl k)
  show own_Go p e below PO (T1.setTop (mkF m 16 #[.val (.ref aT), .val (.ref aA), .val (.int (4 : Int32)), .val (.int (0 : Int32)), .unset, .unset] [(.ref aA)]))
  refine own_back ?_ (fun t k => XS.iloadN X1.here hx rfl (hb hby d6_16) rfl k)
  show own_Go p e below PO (T1.setTop (mkF m 17 #[.val (.ref aT), .val (.ref aA), .val (.int (4 : Int32)), .val (.int (0 : Int32)), .unset, .unset] [(.int (0 : Int32)), (.ref aA)]))
  refine own_back ?_ (own_ldD X1 hx hZ e1 V_A (j := (0 : Int32)) (v := (.double u0)) ⟨by decide, by decide⟩ rfl (g := (mkF m 17 #[.val (.ref aT), .val (.ref aA), .val (.int (4 : Int32)), .val (.int (0 : Int32)), .unset, .unset] [(.int (0 : Int32)), (.ref aA)])) rfl rfl (hb hby d6_17))
  show own_Go p e below PO (T1.setTop (mkF m 18 #[.val (.ref aT), .val (.ref aA), .val (.int (4 : Int32)), .val (.int (0 : Int32)), .unset, .unset] [(.double u0)]))
  refine own_back ?_ (fun t k => XS.dstore X1.here hx rfl (hb hby d6_18) rfl (l' := #[.val (.ref aT), .val (.ref aA), .val (.int (4 : Int32)), .val (.int (0 : Int32)), .val (.double u0), .second]) rfl k)
  show own_Go p e below PO (T1.setTop (mkF m 20 #[.val (.ref aT), .val (.ref aA), .val (.int (4 : Int32)), .val (.int (0 : Int32)), .val (.double u0), .second] []))
  refine own_back ?_ (fun t k => XS.dload X1.here hx rfl (hb hby d6_20) rfl k)
  show own_Go p e below PO (T1.setTop (mkF m 22 #[.val (.ref aT), .val (.ref aA), .val (.int (4 : Int32)), .val (.int (0 : Int32)), .val (.double u0), .second] [(.double u0)]))
  refine own_back ?_ (fun t k => X1.ldc2DoubleC hx hown (mvT hZ (hw _ (List.mem_of_getElem? (i := 61) rfl))) (g := (mkF m 22 #[.val (.ref aT), .val (.ref aA), .val (.int (4 : Int32)), .val (.int (0 : Int32)), .val (.double u0), .second] [(.double u0)])) rfl (hb hby d6_22) _ k)
  show own_Go p e below PO (T1.setTop (mkF m 25 #[.val (.ref aT), .val (.ref aA), .val (.int (4 : Int32)), .val (.int (0 : Int32)), .val (.double u0), .second] [(.double (18442240474082181120 : UInt64)), (.double u0)]))
  refine own_back ?_ (fun t k => XS.dcmpS X1.here hx rfl (v := (own_cmp u0)) (hb hby d6_25) rfl rfl k)
  show own_Go p e below PO (T1.setTop (mkF m 26 #[.val (.ref aT), .val (.ref aA), .val (.int (4 : Int32)), .val (.int (0 : Int32)), .val (.double u0), .second] [(.int (own_cmp u0))]))
  by_cases hc26_3 : (own_cmp u0) = (0 : Int32)
  case pos =>
    refine own_back ?_ (fun t k => XS.ifNo X1.here hx rfl (hb hby d6_26) rfl ((if0 _ _).trans (teq hc26_3).2) k)
    show own_Go p e below PO (T1.setTop (mkF m 29 #[.val (.ref aT), .val (.ref aA), .val (.int (4 : Int32)), .val (.int (0 : Int32)), .val (.double u0), .second] []))
    refine own_back ?_ (fun t k => XS.iconst X1.here hx rfl (hb hby d6_29) k)
    show own_Go p e below PO (T1.setTop (mkF m 30 #[.val (.ref aT), .val (.ref aA), .val (.int (4 : Int32)), .val (.int (0 : Int32)), .val (.double u0), .second] [(.int (1 : Int32))]))
    refine own_retN X1 hx (t := .boolean) (rest := []) Bd.returns (by decide) (by simp) (hb hby d6_30) e1 (Bd.notSynchronized) ?_ (by decide) (by decide)
    exact ⟨by simp [own_hard, hd12_2, hc26_3], N0, rfl⟩
  refine own_back ?_ (fun t k => XS.ifYes X1.here hx rfl (pc0 := 26) (pc' := 31) rfl (hb hby d6_26) rfl ((if0 _ _).trans (feq hc26_3).2) (by decide) (by decide) k)
  show own_Go p e below PO (T1.setTop (mkF m 31 #[.val (.ref aT), .val (.ref aA), .val (.int (4 : Int32)), .val (.int (0 : Int32)), .val (.double u0), .second] []))
  refine own_back ?_ (fun t k => XS.iinc X1.here hx rfl (hb hby d6_31) rfl (l' := #[.val (.ref aT), .val (.ref aA), .val (.int (4 : Int32)), .val (.int (1 : Int32)), .val (.double u0), .second]) rfl k)
  show own_Go p e below PO (T1.setTop (mkF m 34 #[.val (.ref aT), .val (.ref aA), .val (.int (4 : Int32)), .val (.int (1 : Int32)), .val (.double u0), .second] []))
  refine own_back ?_ (fun t k => XS.goto X1.here hx rfl (pc0 := 34) (pc' := 10) rfl (hb hby d6_34) (by decide) (by decide) k)
  show own_Go p e below PO (T1.setTop (mkF m 10 #[.val (.ref aT), .val (.ref aA), .val (.int (4 : Int32)), .val (.int (1 : Int32)), .val (.double u0), .second] []))
  refine own_back ?_ (fun t k => XS.iloadN X1.here hx rfl (hb hby d6_10) rfl k)
  show own_Go p e below PO (T1.setTop (mkF m 11 #[.val (.ref aT), .val (.ref aA), .val (.int (4 : Int32)), .val (.int (1 : Int32)), .val (.double u0), .second] [(.int (1 : Int32))]))
  refine own_back ?_ (fun t k => XS.iloadN X1.here hx rfl (hb hby d6_11) rfl k)
  show own_Go p e below PO (T1.setTop (mkF m 12 #[.val (.ref aT), .val (.ref aA), .val (.int (4 : Int32)), .val (.int (1 : Int32)), .val (.double u0), .second] [(.int (4 : Int32)), (.int (1 : Int32))]))
  have hd12_4 : (1 : Int32) < (4 : Int32) := (by decide)
  refine own_back ?_ (fun t k => XS.icmpNo X1.here hx rfl (hb hby d6_12) rfl (tlt hd12_4).2.1 k)
  show own_Go p e below PO (T1.setTop (mkF m 15 #[.val (.ref aT), .val (.ref aA), .val (.int (4 : Int32)), .val (.int (1 : Int32)), .val (.double u0), .second] []))
  refine own_back ?_ (fun t k => XS.aloadN X1.here hx rfl (hb hby d6_15) rfl rfl k)
  show own_Go p e below PO (T1.setTop (mkF m 16 #[.val (.ref aT), .val (.ref aA), .val (.int (4 : Int32)), .val (.int (1 : Int32)), .val (.double u0), .second] [(.ref aA)]))
  refine own_back ?_ (fun t k => XS.iloadN X1.here hx rfl (hb hby d6_16) rfl k)
  show own_Go p e below PO (T1.setTop (mkF m 17 #[.val (.ref aT), .val (.ref aA), .val (.int (4 : Int32)), .val (.int (1 : Int32)), .val (.double u0), .second] [(.int (1 : Int32)), (.ref aA)]))
  refine own_back ?_ (own_ldD X1 hx hZ e1 V_A (j := (1 : Int32)) (v := (.double u1)) ⟨by decide, by decide⟩ rfl (g := (mkF m 17 #[.val (.ref aT), .val (.ref aA), .val (.int (4 : Int32)), .val (.int (1 : Int32)), .val (.double u0), .second] [(.int (1 : Int32)), (.ref aA)])) rfl rfl (hb hby d6_17))
  show own_Go p e below PO (T1.setTop (mkF m 18 #[.val (.ref aT), .val (.ref aA), .val (.int (4 : Int32)), .val (.int (1 : Int32)), .val (.double u0), .second] [(.double u1)]))
  refine own_back ?_ (fun t k => XS.dstore X1.here hx rfl (hb hby d6_18) rfl (l' := #[.val (.ref aT), .val (.ref aA), .val (.int (4 : Int32)), .val (.int (1 : Int32)), .val (.double u1), .second]) rfl k)
  show own_Go p e below PO (T1.setTop (mkF m 20 #[.val (.ref aT), .val (.ref aA), .val (.int (4 : Int32)), .val (.int (1 : Int32)), .val (.double u1), .second] []))
  refine own_back ?_ (fun t k => XS.dload X1.here hx rfl (hb hby d6_20) rfl k)
  show own_Go p e below PO (T1.setTop (mkF m 22 #[.val (.ref aT), .val (.ref aA), .val (.int (4 : Int32)), .val (.int (1 : Int32)), .val (.double u1), .second] [(.double u1)]))
  refine own_back ?_ (fun t k => X1.ldc2DoubleC hx hown (mvT hZ (hw _ (List.mem_of_getElem? (i := 61) rfl))) (g := (mkF m 22 #[.val (.ref aT), .val (.ref aA), .val (.int (4 : Int32)), .val (.int (1 : Int32)), .val (.double u1), .second] [(.double u1)])) rfl (hb hby d6_22) _ k)
  show own_Go p e below PO (T1.setTop (mkF m 25 #[.val (.ref aT), .val (.ref aA), .val (.int (4 : Int32)), .val (.int (1 : Int32)), .val (.double u1), .second] [(.double (18442240474082181120 : UInt64)), (.double u1)]))
  refine own_back ?_ (fun t k => XS.dcmpS X1.here hx rfl (v := (own_cmp u1)) (hb hby d6_25) rfl rfl k)
  show own_Go p e below PO (T1.setTop (mkF m 26 #[.val (.ref aT), .val (.ref aA), .val (.int (4 : Int32)), .val (.int (1 : Int32)), .val (.double u1), .second] [(.int (own_cmp u1))]))
  by_cases hc26_5 : (own_cmp u1) = (0 : Int32)
  case pos =>
    refine own_back ?_ (fun t k => XS.ifNo X1.here hx rfl (hb hby d6_26) rfl ((if0 _ _).trans (teq hc26_5).2) k)
    show own_Go p e below PO (T1.setTop (mkF m 29 #[.val (.ref aT), .val (.ref aA), .val (.int (4 : Int32)), .val (.int (1 : Int32)), .val (.double u1), .second] []))
    refine own_back ?_ (fun t k => XS.iconst X1.here hx rfl (hb hby d6_29) k)
    show own_Go p e below PO (T1.setTop (mkF m 30 #[.val (.ref aT), .val (.ref aA), .val (.int (4 : Int32)), .val (.int (1 : Int32)), .val (.double u1), .second] [(.int (1 : Int32))]))
    refine own_retN X1 hx (t := .boolean) (rest := []) Bd.returns (by decide) (by simp) (hb hby d6_30) e1 (Bd.notSynchronized) ?_ (by decide) (by decide)
    exact ⟨by simp [own_hard, hd12_2, hc26_3, hd12_4, hc26_5], N0, rfl⟩
  refine own_back ?_ (fun t k => XS.ifYes X1.here hx rfl (pc0 := 26) (pc' := 31) rfl (hb hby d6_26) rfl ((if0 _ _).trans (feq hc26_5).2) (by decide) (by decide) k)
  show own_Go p e below PO (T1.setTop (mkF m 31 #[.val (.ref aT), .val (.ref aA), .val (.int (4 : Int32)), .val (.int (1 : Int32)), .val (.double u1), .second] []))
  refine own_back ?_ (fun t k => XS.iinc X1.here hx rfl (hb hby d6_31) rfl (l' := #[.val (.ref aT), .val (.ref aA), .val (.int (4 : Int32)), .val (.int (2 : Int32)), .val (.double u1), .second]) rfl k)
  show own_Go p e below PO (T1.setTop (mkF m 34 #[.val (.ref aT), .val (.ref aA), .val (.int (4 : Int32)), .val (.int (2 : Int32)), .val (.double u1), .second] []))
  refine own_back ?_ (fun t k => XS.goto X1.here hx rfl (pc0 := 34) (pc' := 10) rfl (hb hby d6_34) (by decide) (by decide) k)
  show own_Go p e below PO (T1.setTop (mkF m 10 #[.val (.ref aT), .val (.ref aA), .val (.int (4 : Int32)), .val (.int (2 : Int32)), .val (.double u1), .second] []))
  refine own_back ?_ (fun t k => XS.iloadN X1.here hx rfl (hb hby d6_10) rfl k)
  show own_Go p e below PO (T1.setTop (mkF m 11 #[.val (.ref aT), .val (.ref aA), .val (.int (4 : Int32)), .val (.int (2 : Int32)), .val (.double u1), .second] [(.int (2 : Int32))]))
  refine own_back ?_ (fun t k => XS.iloadN X1.here hx rfl (hb hby d6_11) rfl k)
  show own_Go p e below PO (T1.setTop (mkF m 12 #[.val (.ref aT), .val (.ref aA), .val (.int (4 : Int32)), .val (.int (2 : Int32)), .val (.double u1), .second] [(.int (4 : Int32)), (.int (2 : Int32))]))
  have hd12_6 : (2 : Int32) < (4 : Int32) := (by decide)
  refine own_back ?_ (fun t k => XS.icmpNo X1.here hx rfl (hb hby d6_12) rfl (tlt hd12_6).2.1 k)
  show own_Go p e below PO (T1.setTop (mkF m 15 #[.val (.ref aT), .val (.ref aA), .val (.int (4 : Int32)), .val (.int (2 : Int32)), .val (.double u1), .second] []))
  refine own_back ?_ (fun t k => XS.aloadN X1.here hx rfl (hb hby d6_15) rfl rfl k)
  show own_Go p e below PO (T1.setTop (mkF m 16 #[.val (.ref aT), .val (.ref aA), .val (.int (4 : Int32)), .val (.int (2 : Int32)), .val (.double u1), .second] [(.ref aA)]))
  refine own_back ?_ (fun t k => XS.iloadN X1.here hx rfl (hb hby d6_16) rfl k)
  show own_Go p e below PO (T1.setTop (mkF m 17 #[.val (.ref aT), .val (.ref aA), .val (.int (4 : Int32)), .val (.int (2 : Int32)), .val (.double u1), .second] [(.int (2 : Int32)), (.ref aA)]))
  refine own_back ?_ (own_ldD X1 hx hZ e1 V_A (j := (2 : Int32)) (v := (.double u2)) ⟨by decide, by decide⟩ rfl (g := (mkF m 17 #[.val (.ref aT), .val (.ref aA), .val (.int (4 : Int32)), .val (.int (2 : Int32)), .val (.double u1), .second] [(.int (2 : Int32)), (.ref aA)])) rfl rfl (hb hby d6_17))
  show own_Go p e below PO (T1.setTop (mkF m 18 #[.val (.ref aT), .val (.ref aA), .val (.int (4 : Int32)), .val (.int (2 : Int32)), .val (.double u1), .second] [(.double u2)]))
  refine own_back ?_ (fun t k => XS.dstore X1.here hx rfl (hb hby d6_18) rfl (l' := #[.val (.ref aT), .val (.ref aA), .val (.int (4 : Int32)), .val (.int (2 : Int32)), .val (.double u2), .second]) rfl k)
  show own_Go p e below PO (T1.setTop (mkF m 20 #[.val (.ref aT), .val (.ref aA), .val (.int (4 : Int32)), .val (.int (2 : Int32)), .val (.double u2), .second] []))
  refine own_back ?_ (fun t k => XS.dload X1.here hx rfl (hb hby d6_20) rfl k)
  show own_Go p e below PO (T1.setTop (mkF m 22 #[.val (.ref aT), .val (.ref aA), .val (.int (4 : Int32)), .val (.int (2 : Int32)), .val (.double u2), .second] [(.double u2)]))
  refine own_back ?_ (fun t k => X1.ldc2DoubleC hx hown (mvT hZ (hw _ (List.mem_of_getElem? (i := 61) rfl))) (g := (mkF m 22 #[.val (.ref aT), .val (.ref aA), .val (.int (4 : Int32)), .val (.int (2 : Int32)), .val (.double u2), .second] [(.double u2)])) rfl (hb hby d6_22) _ k)
  show own_Go p e below PO (T1.setTop (mkF m 25 #[.val (.ref aT), .val (.ref aA), .val (.int (4 : Int32)), .val (.int (2 : Int32)), .val (.double u2), .second] [(.double (18442240474082181120 : UInt64)), (.double u2)]))
  refine own_back ?_ (fun t k => XS.dcmpS X1.here hx rfl (v := (own_cmp u2)) (hb hby d6_25) rfl rfl k)
  show own_Go p e below PO (T1.setTop (mkF m 26 #[.val (.ref aT), .val (.ref aA), .val (.int (4 : Int32)), .val (.int (2 : Int32)), .val (.double u2), .second] [(.int (own_cmp u2))]))
  by_cases hc26_7 : (own_cmp u2) = (0 : Int32)
  case pos =>
    refine own_back ?_ (fun t k => XS.ifNo X1.here hx rfl (hb hby d6_26) rfl ((if0 _ _).trans (teq hc26_7).2) k)
    show own_Go p e below PO (T1.setTop (mkF m 29 #[.val (.ref aT), .val (.ref aA), .val (.int (4 : Int32)), .val (.int (2 : Int32)), .val (.double u2), .second] []))
    refine own_back ?_ (fun t k => XS.iconst X1.here hx rfl (hb hby d6_29) k)
    show own_Go p e below PO (T1.setTop (mkF m 30 #[.val (.ref aT), .val (.ref aA), .val (.int (4 : Int32)), .val (.int (2 : Int32)), .val (.double u2), .second] [(.int (1 : Int32))]))
    refine own_retN X1 hx (t := .boolean) (rest := []) Bd.returns (by decide) (by simp) (hb hby d6_30) e1 (Bd.notSynchronized) ?_ (by decide) (by decide)
    exact ⟨by simp [own_hard, hd12_2, hc26_3, hd12_4, hc26_5, hd12_6, hc26_7], N0, rfl⟩
  refine own_back ?_ (fun t k => XS.ifYes X1.here hx rfl (pc0 := 26) (pc' := 31) rfl (hb hby d6_26) rfl ((if0 _ _).trans (feq hc26_7).2) (by decide) (by decide) k)
  show own_Go p e below PO (T1.setTop (mkF m 31 #[.val (.ref aT), .val (.ref aA), .val (.int (4 : Int32)), .val (.int (2 : Int32)), .val (.double u2), .second] []))
  refine own_back ?_ (fun t k => XS.iinc X1.here hx rfl (hb hby d6_31) rfl (l' := #[.val (.ref aT), .val (.ref aA), .val (.int (4 : Int32)), .val (.int (3 : Int32)), .val (.double u2), .second]) rfl k)
  show own_Go p e below PO (T1.setTop (mkF m 34 #[.val (.ref aT), .val (.ref aA), .val (.int (4 : Int32)), .val (.int (3 : Int32)), .val (.double u2), .second] []))
  refine own_back ?_ (fun t k => XS.goto X1.here hx rfl (pc0 := 34) (pc' := 10) rfl (hb hby d6_34) (by decide) (by decide) k)
  show own_Go p e below PO (T1.setTop (mkF m 10 #[.val (.ref aT), .val (.ref aA), .val (.int (4 : Int32)), .val (.int (3 : Int32)), .val (.double u2), .second] []))
  refine own_back ?_ (fun t k => XS.iloadN X1.here hx rfl (hb hby d6_10) rfl k)
  show own_Go p e below PO (T1.setTop (mkF m 11 #[.val (.ref aT), .val (.ref aA), .val (.int (4 : Int32)), .val (.int (3 : Int32)), .val (.double u2), .second] [(.int (3 : Int32))]))
  refine own_back ?_ (fun t k => XS.iloadN X1.here hx rfl (hb hby d6_11) rfl k)
  show own_Go p e below PO (T1.setTop (mkF m 12 #[.val (.ref aT), .val (.ref aA), .val (.int (4 : Int32)), .val (.int (3 : Int32)), .val (.double u2), .second] [(.int (4 : Int32)), (.int (3 : Int32))]))
  have hd12_8 : (3 : Int32) < (4 : Int32) := (by decide)
  refine own_back ?_ (fun t k => XS.icmpNo X1.here hx rfl (hb hby d6_12) rfl (tlt hd12_8).2.1 k)
  show own_Go p e below PO (T1.setTop (mkF m 15 #[.val (.ref aT), .val (.ref aA), .val (.int (4 : Int32)), .val (.int (3 : Int32)), .val (.double u2), .second] []))
  refine own_back ?_ (fun t k => XS.aloadN X1.here hx rfl (hb hby d6_15) rfl rfl k)
  show own_Go p e below PO (T1.setTop (mkF m 16 #[.val (.ref aT), .val (.ref aA), .val (.int (4 : Int32)), .val (.int (3 : Int32)), .val (.double u2), .second] [(.ref aA)]))
  refine own_back ?_ (fun t k => XS.iloadN X1.here hx rfl (hb hby d6_16) rfl k)
  show own_Go p e below PO (T1.setTop (mkF m 17 #[.val (.ref aT), .val (.ref aA), .val (.int (4 : Int32)), .val (.int (3 : Int32)), .val (.double u2), .second] [(.int (3 : Int32)), (.ref aA)]))
  refine own_back ?_ (own_ldD X1 hx hZ e1 V_A (j := (3 : Int32)) (v := (.double u3)) ⟨by decide, by decide⟩ rfl (g := (mkF m 17 #[.val (.ref aT), .val (.ref aA), .val (.int (4 : Int32)), .val (.int (3 : Int32)), .val (.double u2), .second] [(.int (3 : Int32)), (.ref aA)])) rfl rfl (hb hby d6_17))
  show own_Go p e below PO (T1.setTop (mkF m 18 #[.val (.ref aT), .val (.ref aA), .val (.int (4 : Int32)), .val (.int (3 : Int32)), .val (.double u2), .second] [(.double u3)]))
  refine own_back ?_ (fun t k => XS.dstore X1.here hx rfl (hb hby d6_18) rfl (l' := #[.val (.ref aT), .val (.ref aA), .val (.int (4 : Int32)), .val (.int (3 : Int32)), .val (.double u3), .second]) rfl k)
  show own_Go p e below PO (T1.setTop (mkF m 20 #[.val (.ref aT), .val (.ref aA), .val (.int (4 : Int32)), .val (.int (3 : Int32)), .val (.double u3), .second] []))
  refine own_back ?_ (fun t k => XS.dload X1.here hx rfl (hb hby d6_20) rfl k)
  show own_Go p e below PO (T1.setTop (mkF m 22 #[.val (.ref aT), .val (.ref aA), .val (.int (4 : Int32)), .val (.int (3 : Int32)), .val (.double u3), .second] [(.double u3)]))
  refine own_back ?_ (fun t k => X1.ldc2DoubleC hx hown (mvT hZ (hw _ (List.mem_of_getElem? (i := 61) rfl))) (g := (mkF m 22 #[.val (.ref aT), .val (.ref aA), .val (.int (4 : Int32)), .val (.int (3 : Int32)), .val (.double u3), .second] [(.double u3)])) rfl (hb hby d6_22) _ k)
  show own_Go p e below PO (T1.setTop (mkF m 25 #[.val (.ref aT), .val (.ref aA), .val (.int (4 : Int32)), .val (.int (3 : Int32)), .val (.double u3), .second] [(.double (18442240474082181120 : UInt64)), (.double u3)]))
  refine own_back ?_ (fun t k => XS.dcmpS X1.here hx rfl (v := (own_cmp u3)) (hb hby d6_25) rfl rfl k)
  show own_Go p e below PO (T1.setTop (mkF m 26 #[.val (.ref aT), .val (.ref aA), .val (.int (4 : Int32)), .val (.int (3 : Int32)), .val (.double u3), .second] [(.int (own_cmp u3))]))
  by_cases hc26_9 : (own_cmp u3) = (0 : Int32)
  case pos =>
    refine own_back ?_ (fun t k => XS.ifNo X1.here hx rfl (hb hby d6_26) rfl ((if0 _ _).trans (teq hc26_9).2) k)
    show own_Go p e below PO (T1.setTop (mkF m 29 #[.val (.ref aT), .val (.ref aA), .val (.int (4 : Int32)), .val (.int (3 : Int32)), .val (.double u3), .second] []))
    refine own_back ?_ (fun t k => XS.iconst X1.here hx rfl (hb hby d6_29) k)
    show own_Go p e below PO (T1.setTop (mkF m 30 #[.val (.ref aT), .val (.ref aA), .val (.int (4 : Int32)), .val (.int (3 : Int32)), .val (.double u3), .second] [(.int (1 : Int32))]))
    refine own_retN X1 hx (t := .boolean) (rest := []) Bd.returns (by decide) (by simp) (hb hby d6_30) e1 (Bd.notSynchronized) ?_ (by decide) (by decide)
    exact ⟨by simp [own_hard, hd12_2, hc26_3, hd12_4, hc26_5, hd12_6, hc26_7, hd12_8, hc26_9], N0, rfl⟩
  refine own_back ?_ (fun t k => XS.ifYes X1.here hx rfl (pc0 := 26) (pc' := 31) rfl (hb hby d6_26) rfl ((if0 _ _).trans (feq hc26_9).2) (by decide) (by decide) k)
  show own_Go p e below PO (T1.setTop (mkF m 31 #[.val (.ref aT), .val (.ref aA), .val (.int (4 : Int32)), .val (.int (3 : Int32)), .val (.double u3), .second] []))
  refine own_back ?_ (fun t k => XS.iinc X1.here hx rfl (hb hby d6_31) rfl (l' := #[.val (.ref aT), .val (.ref aA), .val (.int (4 : Int32)), .val (.int (4 : Int32)), .val (.double u3), .second]) rfl k)
  show own_Go p e below PO (T1.setTop (mkF m 34 #[.val (.ref aT), .val (.ref aA), .val (.int (4 : Int32)), .val (.int (4 : Int32)), .val (.double u3), .second] []))
  refine own_back ?_ (fun t k => XS.goto X1.here hx rfl (pc0 := 34) (pc' := 10) rfl (hb hby d6_34) (by decide) (by decide) k)
  show own_Go p e below PO (T1.setTop (mkF m 10 #[.val (.ref aT), .val (.ref aA), .val (.int (4 : Int32)), .val (.int (4 : Int32)), .val (.double u3), .second] []))
  refine own_back ?_ (fun t k => XS.iloadN X1.here hx rfl (hb hby d6_10) rfl k)
  show own_Go p e below PO (T1.setTop (mkF m 11 #[.val (.ref aT), .val (.ref aA), .val (.int (4 : Int32)), .val (.int (4 : Int32)), .val (.double u3), .second] [(.int (4 : Int32))]))
  refine own_back ?_ (fun t k => XS.iloadN X1.here hx rfl (hb hby d6_11) rfl k)
  show own_Go p e below PO (T1.setTop (mkF m 12 #[.val (.ref aT), .val (.ref aA), .val (.int (4 : Int32)), .val (.int (4 : Int32)), .val (.double u3), .second] [(.int (4 : Int32)), (.int (4 : Int32))]))
  refine own_back ?_ (fun t k => XS.icmpYes X1.here hx rfl (pc0 := 12) (pc' := 37) rfl (hb hby d6_12) rfl (flt Int32.lt_irrefl).2.1 (by decide) (by decide) k)
  show own_Go p e below PO (T1.setTop (mkF m 37 #[.val (.ref aT), .val (.ref aA), .val (.int (4 : Int32)), .val (.int (4 : Int32)), .val (.double u3), .second] []))
  refine own_back ?_ (fun t k => XS.iconst X1.here hx rfl (hb hby d6_37) k)
  show own_Go p e below PO (T1.setTop (mkF m 38 #[.val (.ref aT), .val (.ref aA), .val (.int (4 : Int32)), .val (.int (4 : Int32)), .val (.double u3), .second] [(.int (0 : Int32))]))
  refine own_retN X1 hx (t := .boolean) (rest := []) Bd.returns (by decide) (by simp) (hb hby d6_38) e1 (Bd.notSynchronized) ?_ (by decide) (by decide)
  exact ⟨by simp [own_hard, hd12_2, hc26_3, hd12_4, hc26_5, hd12_6, hc26_7, hd12_8, hc26_9], N0, rfl⟩
theorem pd_2 : parseMethodDescriptor "(I)D" = some ⟨[.int], some .double⟩ := by decide +kernel
theorem pd_3 : parseMethodDescriptor "([I[I[D[D)V" = some ⟨[(.array .int), (.array .int), (.array .double), (.array .double)], none⟩ := by decide +kernel
theorem pd_4 : parseMethodDescriptor "()Z" = some ⟨[], some .boolean⟩ := by decide +kernel
theorem ef_rm0 (m : MethodId) (x0 : Int32) (x1 : Int32) (x2 : Int32) (x3 : Int32) (x4 : Int32) : entryFrame m #[(.int x0), (.int x1), (.int x2), (.int x3), (.int x4)] maxLocals = mkF m 0 #[.val (.int x0), .val (.int x1), .val (.int x2), .val (.int x3), .val (.int x4), .unset, .unset, .unset, .unset, .unset, .unset] [] := by first | (simp [entryFrame, mkF, argsToLocals, Value.category, maxLocals]; done) | rfl
def Q_rm0 (n0 : Nat) (v : Option Value) (h : Heap) (L : List Loc) : Prop := v = some (.int 1) ∧ Fr n0 L
set_option maxRecDepth 65536 in
set_option maxHeartbeats 40000000 in
theorem rm0 (l : Launch) (Z : State) (a0 : Array Value) (hw : ∀ d ∈ tables_1, d.before a0 Z = true) (ws : List Jvm.Cond) (pA : Int32) (pB : Int32) (pC : Int32) (pD : Int32) (pE : Int32)  (h0 : Heap) (n0 : Nat) (Z0 : n0 ≤ h0.size)  :
    MetFree l x (head1 (Jvm.Cond.code x code maxLocals ret :: ws) room_1) (fun a U => a = #[(.int pA), (.int pB), (.int pC), (.int pD), (.int pE)] ∧ Z.Warmed39 U.vm ∧ U.heap = h0) (fun _ _ _ _ _ => True) (fun _ U o U' => ∃ v L, o = .returned v ∧ Q_rm0 n0 v U'.heap L ∧ ReturnedEndW U o U' L room_1.cells room_1.slots) := by
  refine MetFree.of_bodySF (plainFor_of_name pn_1) hisR ?_
  intro p e s m args below meth c s₁ Bd hml0 hP hK
  obtain ⟨rfl, hZ, hh⟩ := hP
  have hx := Bd.exec
  have hby := Bd.bytes
  have hml : c.maxLocals = 11 := hml0
  have hown : s.vm.findClass "com/example/nearbound/nearbound/dcop/ConstraintIsHardPinLaw" = some m.cls := findClass_of_methodNamed Bd.named
  have hnm := (name_of_methodNamed Bd.named Bd.method).1
  have X0 : Stand p l e room_1 s m #[(.int pA), (.int pB), (.int pC), (.int pD), (.int pE)] below meth c s₁ [] 0 0 := Stand.of_body Bd
  have e0 : s₁.heap = h0 := by rw [← hh, Bd.state]; rfl
  have N0 := Fr.nil n0
  have hS0 : s.Since s.vm 0 := (State.WarmedH.refl s).since 0
  let PO : Outcome → State → Prop := own_POW s (Q_rm0 n0) 32 2240
  show own_Go p e below PO (s₁.setTop (entryFrame m #[(.int pA), (.int pB), (.int pC), (.int pD), (.int pE)] maxLocals))
  rw [ef_rm0]
  show own_Go p e below PO (s₁.setTop (mkF m 0 #[.val (.int pA), .val (.int pB), .val (.int pC), .val (.int pD), .val (.int pE), .unset, .unset, .unset, .unset, .unset, .unset] []))
  refine own_back ?_ (fun t k => XS.iconst X0.here hx rfl (hb hby at_0) k)
  show own_Go p e below PO (s₁.setTop (mkF m 1 #[.val (.int pA), .val (.int pB), .val (.int pC), .val (.int pD), .val (.int pE), .unset, .unset, .unset, .unset, .unset, .unset] [(.int (4 : Int32))]))
  obtain ⟨T1, h1, k1, X1, e1, E1, A1, Ex1, st1⟩ := newPE X0 hx hZ (hw _ (List.mem_of_getElem? (i := 0) rfl)) e0 (g := (mkF m 1 #[.val (.int pA), .val (.int pB), .val (.int pC), .val (.int pD), .val (.int pE), .unset, .unset, .unset, .unset, .unset, .unset] [(.int (4 : Int32))])) rfl (hb hby at_1) rfl (by decide) (cap := 4) (by decide) (by decide) (by decide) (by decide) (ad := "[D") (by decide)
  obtain ⟨b1, g1⟩ : ∃ z, z = h0.size := ⟨_, rfl⟩
  rw [← g1] at A1 Ex1 st1
  have sz_b1 : h0.size ≤ b1 := Nat.le_of_eq g1.symm
  have gn_b1 : n0 ≤ b1 := Nat.le_trans Z0 sz_b1
  have K1 : Keep h0 h1 [] := (Keep.refl h0 []).ext E1
  have Zh1 : n0 ≤ h1.size := Nat.le_trans Z0 K1.1
  have V1 : Arv Z h1 b1 k1 .double (4 : Int32) [(.double (0 : UInt64)), (.double (0 : UInt64)), (.double (0 : UInt64)), (.double (0 : UInt64))] (.double (0 : UInt64)) := (Arv.new A1 (by decide)).pad (pad_rep [] (.double (0 : UInt64)) 4)
  refine own_back ?_ st1
  show own_Go p e below PO (T1.setTop (mkF m 3 #[.val (.int pA), .val (.int pB), .val (.int pC), .val (.int pD), .val (.int pE), .unset, .unset, .unset, .unset, .unset, .unset] [(.ref b1)]))
  refine own_back ?_ (fun t k => XS.astore X1.here hx rfl (hb hby at_3) rfl rfl (l' := #[.val (.int pA), .val (.int pB), .val (.int pC), .val (.int pD), .val (.int pE), .val (.ref b1), .unset, .unset, .unset, .unset, .unset]) rfl k)
  show own_Go p e below PO (T1.setTop (mkF m 5 #[.val (.int pA), .val (.int pB), .val (.int pC), .val (.int pD), .val (.int pE), .val (.ref b1), .unset, .unset, .unset, .unset, .unset] []))
  refine own_back ?_ (fun t k => XS.aload X1.here hx rfl (hb hby at_5) rfl rfl k)
  show own_Go p e below PO (T1.setTop (mkF m 7 #[.val (.int pA), .val (.int pB), .val (.int pC), .val (.int pD), .val (.int pE), .val (.ref b1), .unset, .unset, .unset, .unset, .unset] [(.ref b1)]))
  refine own_back ?_ (fun t k => XS.iconst X1.here hx rfl (hb hby at_7) k)
  show own_Go p e below PO (T1.setTop (mkF m 8 #[.val (.int pA), .val (.int pB), .val (.int pC), .val (.int pD), .val (.int pE), .val (.ref b1), .unset, .unset, .unset, .unset, .unset] [(.int (0 : Int32)), (.ref b1)]))
  refine own_back ?_ (fun t k => XS.iloadN X1.here hx rfl (hb hby at_8) rfl k)
  show own_Go p e below PO (T1.setTop (mkF m 9 #[.val (.int pA), .val (.int pB), .val (.int pC), .val (.int pD), .val (.int pE), .val (.ref b1), .unset, .unset, .unset, .unset, .unset] [(.int pA), (.int (0 : Int32)), (.ref b1)]))
  obtain ⟨_, _, ⟨T2, L2, k2, n2⟩, -, X2, ⟨Lc2, hQ2, l2, y2, z2⟩, st2⟩ := Jvm.LawKit.callS X1 hx (y := (⟨"com/example/nearbound/nearbound/dcop/ConstraintIsHardPinLaw", "entry", "(I)D"⟩ : MethodName)) hown (mvT hZ (hw _ (List.mem_of_getElem? (i := 1) rfl))) (mvT hZ (hw _ (List.mem_of_getElem? (i := 2) rfl))) (mvT hZ (hw _ (List.mem_of_getElem? (i := 3) rfl))) (mvT hZ (hw _ (List.mem_of_getElem? (i := 4) rfl))) (by decide) (backOf (W := 2) (rm1 l Z a0 hw [] pA  h1 n0 Zh1 ) hZ (hw _ (List.mem_of_getElem? (i := 4) rfl)) (hw _ (List.mem_of_getElem? (i := 3) rfl)) (by decide) (by decide)) (g := (mkF m 9 #[.val (.int pA), .val (.int pB), .val (.int pC), .val (.int pD), .val (.int pE), .val (.ref b1), .unset, .unset, .unset, .unset, .unset] [(.int pA), (.int (0 : Int32)), (.ref b1)])) rfl (by rw [hml]; rfl) (argsL := [(.int pA)]) (rest := [(.int (0 : Int32)), (.ref b1)]) (lenOf pd_2 rfl) rfl (by show 2 * 0 + _ ≤ _; exact Nat.le_of_eq rfl) (hb hby at_9) (fun _ _ => ⟨rfl, e1, (by decide : 1 + 0 ≤ _), (by decide : 4 + 0 ≤ _)⟩)
  dsimp only [Pt.U, Pt.locs, Pt.cells, Pt.slots] at X2 l2 y2 z2 st2 hQ2
  subst l2 y2 z2
  obtain ⟨rfl, N2q, e2⟩ := hQ2
  have N2 := Fr.app N0 N2q
  refine own_back ?_ st2
  show own_Go p e below PO (T2.setTop (mkF m 12 #[.val (.int pA), .val (.int pB), .val (.int pC), .val (.int pD), .val (.int pE), .val (.ref b1), .unset, .unset, .unset, .unset, .unset] [(.double (own_entry pA)), (.int (0 : Int32)), (.ref b1)]))
  obtain ⟨T3, h3, X3, e3, W3, V3, st3⟩ := own_stD X2 hx hZ e2 V1 (j := (0 : Int32)) ⟨by decide, by decide⟩ (i := 0) rfl (by show 0 < 4; decide) (g := (mkF m 12 #[.val (.int pA), .val (.int pB), .val (.int pC), .val (.int pD), .val (.int pE), .val (.ref b1), .unset, .unset, .unset, .unset, .unset] [(.double (own_entry pA)), (.int (0 : Int32)), (.ref b1)])) rfl rfl (hb hby at_12)
  replace V3 : Arv Z h3 b1 k1 .double (4 : Int32) [(.double (own_entry pA)), (.double (0 : UInt64)), (.double (0 : UInt64)), (.double (0 : UInt64))] (.double (0 : UInt64)) := V3
  have f3_4 := Ex1.wr W3
  have K3 : Keep h0 h3 [] := (K1).wr W3 (Or.inr sz_b1)
  have N3 := Fr.snoc X3 N2 gn_b1
  have Zh3 : n0 ≤ h3.size := Nat.le_trans Z0 K3.1
  refine own_back ?_ st3
  show own_Go p e below PO (T3.setTop (mkF m 13 #[.val (.int pA), .val (.int pB), .val (.int pC), .val (.int pD), .val (.int pE), .val (.ref b1), .unset, .unset, .unset, .unset, .unset] []))
  refine own_back ?_ (fun t k => XS.aload X3.here hx rfl (hb hby at_13) rfl rfl k)
  show own_Go p e below PO (T3.setTop (mkF m 15 #[.val (.int pA), .val (.int pB), .val (.int pC), .val (.int pD), .val (.int pE), .val (.ref b1), .unset, .unset, .unset, .unset, .unset] [(.ref b1)]))
  refine own_back ?_ (fun t k => XS.iconst X3.here hx rfl (hb hby at_15) k)
  show own_Go p e below PO (T3.setTop (mkF m 16 #[.val (.int pA), .val (.int pB), .val (.int pC), .val (.int pD), .val (.int pE), .val (.ref b1), .unset, .unset, .unset, .unset, .unset] [(.int (1 : Int32)), (.ref b1)]))
  refine own_back ?_ (fun t k => XS.iloadN X3.here hx rfl (hb hby at_16) rfl k)
  show own_Go p e below PO (T3.setTop (mkF m 17 #[.val (.int pA), .val (.int pB), .val (.int pC), .val (.int pD), .val (.int pE), .val (.ref b1), .unset, .unset, .unset, .unset, .unset] [(.int pB), (.int (1 : Int32)), (.ref b1)]))
  obtain ⟨_, _, ⟨T5, L5, k5, n5⟩, -, X5, ⟨Lc5, hQ5, l5, y5, z5⟩, st5⟩ := Jvm.LawKit.callS X3 hx (y := (⟨"com/example/nearbound/nearbound/dcop/ConstraintIsHardPinLaw", "entry", "(I)D"⟩ : MethodName)) hown (mvT hZ (hw _ (List.mem_of_getElem? (i := 1) rfl))) (mvT hZ (hw _ (List.mem_of_getElem? (i := 2) rfl))) (mvT hZ (hw _ (List.mem_of_getElem? (i := 3) rfl))) (mvT hZ (hw _ (List.mem_of_getElem? (i := 4) rfl))) (by decide) (backOf (W := 2) (rm1 l Z a0 hw [] pB  h3 n0 Zh3 ) hZ (hw _ (List.mem_of_getElem? (i := 4) rfl)) (hw _ (List.mem_of_getElem? (i := 3) rfl)) (by decide) (by decide)) (g := (mkF m 17 #[.val (.int pA), .val (.int pB), .val (.int pC), .val (.int pD), .val (.int pE), .val (.ref b1), .unset, .unset, .unset, .unset, .unset] [(.int pB), (.int (1 : Int32)), (.ref b1)])) rfl (by rw [hml]; rfl) (argsL := [(.int pB)]) (rest := [(.int (1 : Int32)), (.ref b1)]) (lenOf pd_2 rfl) rfl (by show 2 * 0 + _ ≤ _; exact Nat.le_of_eq rfl) (hb hby at_17) (fun _ _ => ⟨rfl, e3, (by decide : 1 + 0 ≤ _), (by decide : 4 + 0 ≤ _)⟩)
  dsimp only [Pt.U, Pt.locs, Pt.cells, Pt.slots] at X5 l5 y5 z5 st5 hQ5
  subst l5 y5 z5
  obtain ⟨rfl, N5q, e5⟩ := hQ5
  have N5 := Fr.app N3 N5q
  refine own_back ?_ st5
  show own_Go p e below PO (T5.setTop (mkF m 20 #[.val (.int pA), .val (.int pB), .val (.int pC), .val (.int pD), .val (.int pE), .val (.ref b1), .unset, .unset, .unset, .unset, .unset] [(.double (own_entry pB)), (.int (1 : Int32)), (.ref b1)]))
  obtain ⟨T6, h6, X6, e6, W6, V6, st6⟩ := own_stD X5 hx hZ e5 V3 (j := (1 : Int32)) ⟨by decide, by decide⟩ (i := 1) rfl (by show 1 < 4; decide) (g := (mkF m 20 #[.val (.int pA), .val (.int pB), .val (.int pC), .val (.int pD), .val (.int pE), .val (.ref b1), .unset, .unset, .unset, .unset, .unset] [(.double (own_entry pB)), (.int (1 : Int32)), (.ref b1)])) rfl rfl (hb hby at_20)
  replace V6 : Arv Z h6 b1 k1 .double (4 : Int32) [(.double (own_entry pA)), (.double (own_entry pB)), (.double (0 : UInt64)), (.double (0 : UInt64))] (.double (0 : UInt64)) := V6
  have f6_7 := f3_4.wr W6
  have K6 : Keep h0 h6 [] := (K3).wr W6 (Or.inr sz_b1)
  have N6 := Fr.snoc X6 N5 gn_b1
  have Zh6 : n0 ≤ h6.size := Nat.le_trans Z0 K6.1
  refine own_back ?_ st6
  show own_Go p e below PO (T6.setTop (mkF m 21 #[.val (.int pA), .val (.int pB), .val (.int pC), .val (.int pD), .val (.int pE), .val (.ref b1), .unset, .unset, .unset, .unset, .unset] []))
  refine own_back ?_ (fun t k => XS.aload X6.here hx rfl (hb hby at_21) rfl rfl k)
  show own_Go p e below PO (T6.setTop (mkF m 23 #[.val (.int pA), .val (.int pB), .val (.int pC), .val (.int pD), .val (.int pE), .val (.ref b1), .unset, .unset, .unset, .unset, .unset] [(.ref b1)]))
  refine own_back ?_ (fun t k => XS.iconst X6.here hx rfl (hb hby at_23) k)
  show own_Go p e below PO (T6.setTop (mkF m 24 #[.val (.int pA), .val (.int pB), .val (.int pC), .val (.int pD), .val (.int pE), .val (.ref b1), .unset, .unset, .unset, .unset, .unset] [(.int (2 : Int32)), (.ref b1)]))
  refine own_back ?_ (fun t k => XS.iloadN X6.here hx rfl (hb hby at_24) rfl k)
  show own_Go p e below PO (T6.setTop (mkF m 25 #[.val (.int pA), .val (.int pB), .val (.int pC), .val (.int pD), .val (.int pE), .val (.ref b1), .unset, .unset, .unset, .unset, .unset] [(.int pC), (.int (2 : Int32)), (.ref b1)]))
  obtain ⟨_, _, ⟨T8, L8, k8, n8⟩, -, X8, ⟨Lc8, hQ8, l8, y8, z8⟩, st8⟩ := Jvm.LawKit.callS X6 hx (y := (⟨"com/example/nearbound/nearbound/dcop/ConstraintIsHardPinLaw", "entry", "(I)D"⟩ : MethodName)) hown (mvT hZ (hw _ (List.mem_of_getElem? (i := 1) rfl))) (mvT hZ (hw _ (List.mem_of_getElem? (i := 2) rfl))) (mvT hZ (hw _ (List.mem_of_getElem? (i := 3) rfl))) (mvT hZ (hw _ (List.mem_of_getElem? (i := 4) rfl))) (by decide) (backOf (W := 2) (rm1 l Z a0 hw [] pC  h6 n0 Zh6 ) hZ (hw _ (List.mem_of_getElem? (i := 4) rfl)) (hw _ (List.mem_of_getElem? (i := 3) rfl)) (by decide) (by decide)) (g := (mkF m 25 #[.val (.int pA), .val (.int pB), .val (.int pC), .val (.int pD), .val (.int pE), .val (.ref b1), .unset, .unset, .unset, .unset, .unset] [(.int pC), (.int (2 : Int32)), (.ref b1)])) rfl (by rw [hml]; rfl) (argsL := [(.int pC)]) (rest := [(.int (2 : Int32)), (.ref b1)]) (lenOf pd_2 rfl) rfl (by show 2 * 0 + _ ≤ _; exact Nat.le_of_eq rfl) (hb hby at_25) (fun _ _ => ⟨rfl, e6, (by decide : 1 + 0 ≤ _), (by decide : 4 + 0 ≤ _)⟩)
  dsimp only [Pt.U, Pt.locs, Pt.cells, Pt.slots] at X8 l8 y8 z8 st8 hQ8
  subst l8 y8 z8
  obtain ⟨rfl, N8q, e8⟩ := hQ8
  have N8 := Fr.app N6 N8q
  refine own_back ?_ st8
  show own_Go p e below PO (T8.setTop (mkF m 28 #[.val (.int pA), .val (.int pB), .val (.int pC), .val (.int pD), .val (.int pE), .val (.ref b1), .unset, .unset, .unset, .unset, .unset] [(.double (own_entry pC)), (.int (2 : Int32)), (.ref b1)]))
  obtain ⟨T9, h9, X9, e9, W9, V9, st9⟩ := own_stD X8 hx hZ e8 V6 (j := (2 : Int32)) ⟨by decide, by decide⟩ (i := 2) rfl (by show 2 < 4; decide) (g := (mkF m 28 #[.val (.int pA), .val (.int pB), .val (.int pC), .val (.int pD), .val (.int pE), .val (.ref b1), .unset, .unset, .unset, .unset, .unset] [(.double (own_entry pC)), (.int (2 : Int32)), (.ref b1)])) rfl rfl (hb hby at_28)
  replace V9 : Arv Z h9 b1 k1 .double (4 : Int32) [(.double (own_entry pA)), (.double (own_entry pB)), (.double (own_entry pC)), (.double (0 : UInt64))] (.double (0 : UInt64)) := V9
  have f9_10 := f6_7.wr W9
  have K9 : Keep h0 h9 [] := (K6).wr W9 (Or.inr sz_b1)
  have N9 := Fr.snoc X9 N8 gn_b1
  have Zh9 : n0 ≤ h9.size := Nat.le_trans Z0 K9.1
  refine own_back ?_ st9
  show own_Go p e below PO (T9.setTop (mkF m 29 #[.val (.int pA), .val (.int pB), .val (.int pC), .val (.int pD), .val (.int pE), .val (.ref b1), .unset, .unset, .unset, .unset, .unset] []))
  refine own_back ?_ (fun t k => XS.aload X9.here hx rfl (hb hby at_29) rfl rfl k)
  show own_Go p e below PO (T9.setTop (mkF m 31 #[.val (.int pA), .val (.int pB), .val (.int pC), .val (.int pD), .val (.int pE), .val (.ref b1), .unset, .unset, .unset, .unset, .unset] [(.ref b1)]))
  refine own_back ?_ (fun t k => XS.iconst X9.here hx rfl (hb hby at_31) k)
  show own_Go p e below PO (T9.setTop (mkF m 32 #[.val (.int pA), .val (.int pB), .val (.int pC), .val (.int pD), .val (.int pE), .val (.ref b1), .unset, .unset, .unset, .unset, .unset] [(.int (3 : Int32)), (.ref b1)]))
  refine own_back ?_ (fun t k => XS.iloadN X9.here hx rfl (hb hby at_32) rfl k)
  show own_Go p e below PO (T9.setTop (mkF m 33 #[.val (.int pA), .val (.int pB), .val (.int pC), .val (.int pD), .val (.int pE), .val (.ref b1), .unset, .unset, .unset, .unset, .unset] [(.int pD), (.int (3 : Int32)), (.ref b1)]))
  obtain ⟨_, _, ⟨T11, L11, k11, n11⟩, -, X11, ⟨Lc11, hQ11, l11, y11, z11⟩, st11⟩ := Jvm.LawKit.callS X9 hx (y := (⟨"com/example/nearbound/nearbound/dcop/ConstraintIsHardPinLaw", "entry", "(I)D"⟩ : MethodName)) hown (mvT hZ (hw _ (List.mem_of_getElem? (i := 1) rfl))) (mvT hZ (hw _ (List.mem_of_getElem? (i := 2) rfl))) (mvT hZ (hw _ (List.mem_of_getElem? (i := 3) rfl))) (mvT hZ (hw _ (List.mem_of_getElem? (i := 4) rfl))) (by decide) (backOf (W := 2) (rm1 l Z a0 hw [] pD  h9 n0 Zh9 ) hZ (hw _ (List.mem_of_getElem? (i := 4) rfl)) (hw _ (List.mem_of_getElem? (i := 3) rfl)) (by decide) (by decide)) (g := (mkF m 33 #[.val (.int pA), .val (.int pB), .val (.int pC), .val (.int pD), .val (.int pE), .val (.ref b1), .unset, .unset, .unset, .unset, .unset] [(.int pD), (.int (3 : Int32)), (.ref b1)])) rfl (by rw [hml]; rfl) (argsL := [(.int pD)]) (rest := [(.int (3 : Int32)), (.ref b1)]) (lenOf pd_2 rfl) rfl (by show 2 * 0 + _ ≤ _; exact Nat.le_of_eq rfl) (hb hby at_33) (fun _ _ => ⟨rfl, e9, (by decide : 1 + 0 ≤ _), (by decide : 4 + 0 ≤ _)⟩)
  dsimp only [Pt.U, Pt.locs, Pt.cells, Pt.slots] at X11 l11 y11 z11 st11 hQ11
  subst l11 y11 z11
  obtain ⟨rfl, N11q, e11⟩ := hQ11
  have N11 := Fr.app N9 N11q
  refine own_back ?_ st11
  show own_Go p e below PO (T11.setTop (mkF m 36 #[.val (.int pA), .val (.int pB), .val (.int pC), .val (.int pD), .val (.int pE), .val (.ref b1), .unset, .unset, .unset, .unset, .unset] [(.double (own_entry pD)), (.int (3 : Int32)), (.ref b1)]))
  obtain ⟨T12, h12, X12, e12, W12, V12, st12⟩ := own_stD X11 hx hZ e11 V9 (j := (3 : Int32)) ⟨by decide, by decide⟩ (i := 3) rfl (by show 3 < 4; decide) (g := (mkF m 36 #[.val (.int pA), .val (.int pB), .val (.int pC), .val (.int pD), .val (.int pE), .val (.ref b1), .unset, .unset, .unset, .unset, .unset] [(.double (own_entry pD)), (.int (3 : Int32)), (.ref b1)])) rfl rfl (hb hby at_36)
  replace V12 : Arv Z h12 b1 k1 .double (4 : Int32) [(.double (own_entry pA)), (.double (own_entry pB)), (.double (own_entry pC)), (.double (own_entry pD))] (.double (0 : UInt64)) := V12
  have f12_13 := f9_10.wr W12
  have K12 : Keep h0 h12 [] := (K9).wr W12 (Or.inr sz_b1)
  have N12 := Fr.snoc X12 N11 gn_b1
  have Zh12 : n0 ≤ h12.size := Nat.le_trans Z0 K12.1
  refine own_back ?_ st12
  show own_Go p e below PO (T12.setTop (mkF m 37 #[.val (.int pA), .val (.int pB), .val (.int pC), .val (.int pD), .val (.int pE), .val (.ref b1), .unset, .unset, .unset, .unset, .unset] []))
  refine own_back ?_ (fun t k => XS.aconstNull X12.here hx rfl (hb hby at_37) k)
  show own_Go p e below PO (T12.setTop (mkF m 38 #[.val (.int pA), .val (.int pB), .val (.int pC), .val (.int pD), .val (.int pE), .val (.ref b1), .unset, .unset, .unset, .unset, .unset] [.null]))
  refine own_back ?_ (fun t k => XS.astore X12.here hx rfl (hb hby at_38) rfl rfl (l' := #[.val (.int pA), .val (.int pB), .val (.int pC), .val (.int pD), .val (.int pE), .val (.ref b1), .unset, .unset, .val .null, .unset, .unset]) rfl k)
  show own_Go p e below PO (T12.setTop (mkF m 40 #[.val (.int pA), .val (.int pB), .val (.int pC), .val (.int pD), .val (.int pE), .val (.ref b1), .unset, .unset, .val .null, .unset, .unset] []))
  refine own_back ?_ (fun t k => XS.iload X12.here hx rfl (hb hby at_40) rfl k)
  show own_Go p e below PO (T12.setTop (mkF m 42 #[.val (.int pA), .val (.int pB), .val (.int pC), .val (.int pD), .val (.int pE), .val (.ref b1), .unset, .unset, .val .null, .unset, .unset] [(.int pE)]))
  refine own_back ?_ (fun t k => XS.iconst X12.here hx rfl (hb hby at_42) k)
  show own_Go p e below PO (T12.setTop (mkF m 43 #[.val (.int pA), .val (.int pB), .val (.int pC), .val (.int pD), .val (.int pE), .val (.ref b1), .unset, .unset, .val .null, .unset, .unset] [(.int (1 : Int32)), (.int pE)]))
  refine own_back ?_ (fun t k => XS.iand X12.here hx rfl (hb hby at_43) rfl k)
  show own_Go p e below PO (T12.setTop (mkF m 44 #[.val (.int pA), .val (.int pB), .val (.int pC), .val (.int pD), .val (.int pE), .val (.ref b1), .unset, .unset, .val .null, .unset, .unset] [(.int (pE &&& (1 : Int32)))]))
  by_cases hc44_14 : (pE &&& (1 : Int32)) = (0 : Int32)
  case pos =>
    refine own_back ?_ (fun t k => XS.ifYes X12.here hx rfl (pc0 := 44) (pc' := 68) rfl (hb hby at_44) rfl ((if0 _ _).trans (teq hc44_14).1) (by decide) (by decide) k)
    show own_Go p e below PO (T12.setTop (mkF m 68 #[.val (.int pA), .val (.int pB), .val (.int pC), .val (.int pD), .val (.int pE), .val (.ref b1), .unset, .unset, .val .null, .unset, .unset] []))
    refine own_back ?_ (fun t k => XS.iconst X12.here hx rfl (hb hby at_68) k)
    show own_Go p e below PO (T12.setTop (mkF m 69 #[.val (.int pA), .val (.int pB), .val (.int pC), .val (.int pD), .val (.int pE), .val (.ref b1), .unset, .unset, .val .null, .unset, .unset] [(.int (2 : Int32))]))
    obtain ⟨T15, h15, k15, X15, e15, E15, A15, Ex15, st15⟩ := newPE X12 hx hZ (hw _ (List.mem_of_getElem? (i := 6) rfl)) e12 (g := (mkF m 69 #[.val (.int pA), .val (.int pB), .val (.int pC), .val (.int pD), .val (.int pE), .val (.ref b1), .unset, .unset, .val .null, .unset, .unset] [(.int (2 : Int32))])) rfl (hb hby at_69) rfl (by decide) (cap := 2) (by decide) (by decide) (by decide) (by decide) (ad := "[I") (by decide)
    obtain ⟨b15, g15⟩ : ∃ z, z = h12.size := ⟨_, rfl⟩
    rw [← g15] at A15 Ex15 st15
    have ne_b1_b15 : b1 ≠ b15 := Nat.ne_of_lt (Nat.lt_of_lt_of_le f12_13.lt (Nat.le_of_eq g15.symm))
    have sz_b15 : h0.size ≤ b15 := Nat.le_trans K12.1 (Nat.le_of_eq g15.symm)
    have gn_b15 : n0 ≤ b15 := Nat.le_trans Z0 sz_b15
    have f15_16 := f12_13.ext E15
    have f15_17 := V12.ext E15
    have K15 : Keep h0 h15 [] := (K12).ext E15
    have Zh15 : n0 ≤ h15.size := Nat.le_trans Z0 K15.1
    have V15 : Arv Z h15 b15 k15 .int (2 : Int32) [(.int (0 : Int32)), (.int (0 : Int32))] (.int (0 : Int32)) := (Arv.new A15 (by decide)).pad (pad_rep [] (.int (0 : Int32)) 2)
    refine own_back ?_ st15
    show own_Go p e below PO (T15.setTop (mkF m 71 #[.val (.int pA), .val (.int pB), .val (.int pC), .val (.int pD), .val (.int pE), .val (.ref b1), .unset, .unset, .val .null, .unset, .unset] [(.ref b15)]))
    refine own_back ?_ (fun t k => XS.dup X15.here hx rfl (hb hby at_71) rfl rfl k)
    show own_Go p e below PO (T15.setTop (mkF m 72 #[.val (.int pA), .val (.int pB), .val (.int pC), .val (.int pD), .val (.int pE), .val (.ref b1), .unset, .unset, .val .null, .unset, .unset] [(.ref b15), (.ref b15)]))
    refine own_back ?_ (fun t k => XS.iconst X15.here hx rfl (hb hby at_72) k)
    show own_Go p e below PO (T15.setTop (mkF m 73 #[.val (.int pA), .val (.int pB), .val (.int pC), .val (.int pD), .val (.int pE), .val (.ref b1), .unset, .unset, .val .null, .unset, .unset] [(.int (0 : Int32)), (.ref b15), (.ref b15)]))
    refine own_back ?_ (fun t k => XS.iconst X15.here hx rfl (hb hby at_73) k)
    show own_Go p e below PO (T15.setTop (mkF m 74 #[.val (.int pA), .val (.int pB), .val (.int pC), .val (.int pD), .val (.int pE), .val (.ref b1), .unset, .unset, .val .null, .unset, .unset] [(.int (0 : Int32)), (.int (0 : Int32)), (.ref b15), (.ref b15)]))
    obtain ⟨T18, h18, X18, e18, W18, V18, st18⟩ := own_stI X15 hx hZ e15 V15 (j := (0 : Int32)) ⟨by decide, by decide⟩ (i := 0) rfl (by show 0 < 2; decide) (g := (mkF m 74 #[.val (.int pA), .val (.int pB), .val (.int pC), .val (.int pD), .val (.int pE), .val (.ref b1), .unset, .unset, .val .null, .unset, .unset] [(.int (0 : Int32)), (.int (0 : Int32)), (.ref b15), (.ref b15)])) rfl rfl (hb hby at_74)
    replace V18 : Arv Z h18 b15 k15 .int (2 : Int32) [(.int (0 : Int32)), (.int (0 : Int32))] (.int (0 : Int32)) := V18
    have f18_19 := f15_16.wr W18
    have f18_20 := f15_17.other W18 ne_b1_b15
    have f18_21 := Ex15.wr W18
    have K18 : Keep h0 h18 [] := (K15).wr W18 (Or.inr sz_b15)
    have N18 := Fr.snoc X18 N12 gn_b15
    have Zh18 : n0 ≤ h18.size := Nat.le_trans Z0 K18.1
    refine own_back ?_ st18
    show own_Go p e below PO (T18.setTop (mkF m 75 #[.val (.int pA), .val (.int pB), .val (.int pC), .val (.int pD), .val (.int pE), .val (.ref b1), .unset, .unset, .val .null, .unset, .unset] [(.ref b15)]))
    refine own_back ?_ (fun t k => XS.dup X18.here hx rfl (hb hby at_75) rfl rfl k)
    show own_Go p e below PO (T18.setTop (mkF m 76 #[.val (.int pA), .val (.int pB), .val (.int pC), .val (.int pD), .val (.int pE), .val (.ref b1), .unset, .unset, .val .null, .unset, .unset] [(.ref b15), (.ref b15)]))
    refine own_back ?_ (fun t k => XS.iconst X18.here hx rfl (hb hby at_76) k)
    show own_Go p e below PO (T18.setTop (mkF m 77 #[.val (.int pA), .val (.int pB), .val (.int pC), .val (.int pD), .val (.int pE), .val (.ref b1), .unset, .unset, .val .null, .unset, .unset] [(.int (1 : Int32)), (.ref b15), (.ref b15)]))
    refine own_back ?_ (fun t k => XS.iconst X18.here hx rfl (hb hby at_77) k)
    show own_Go p e below PO (T18.setTop (mkF m 78 #[.val (.int pA), .val (.int pB), .val (.int pC), .val (.int pD), .val (.int pE), .val (.ref b1), .unset, .unset, .val .null, .unset, .unset] [(.int (1 : Int32)), (.int (1 : Int32)), (.ref b15), (.ref b15)]))
    obtain ⟨T22, h22, X22, e22, W22, V22, st22⟩ := own_stI X18 hx hZ e18 V18 (j := (1 : Int32)) ⟨by decide, by decide⟩ (i := 1) rfl (by show 1 < 2; decide) (g := (mkF m 78 #[.val (.int pA), .val (.int pB), .val (.int pC), .val (.int pD), .val (.int pE), .val (.ref b1), .unset, .unset, .val .null, .unset, .unset] [(.int (1 : Int32)), (.int (1 : Int32)), (.ref b15), (.ref b15)])) rfl rfl (hb hby at_78)
    replace V22 : Arv Z h22 b15 k15 .int (2 : Int32) [(.int (0 : Int32)), (.int (1 : Int32))] (.int (0 : Int32)) := V22
    have f22_23 := f18_19.wr W22
    have f22_24 := f18_20.other W22 ne_b1_b15
    have f22_25 := f18_21.wr W22
    have K22 : Keep h0 h22 [] := (K18).wr W22 (Or.inr sz_b15)
    have N22 := Fr.snoc X22 N18 gn_b15
    have Zh22 : n0 ≤ h22.size := Nat.le_trans Z0 K22.1
    refine own_back ?_ st22
    show own_Go p e below PO (T22.setTop (mkF m 79 #[.val (.int pA), .val (.int pB), .val (.int pC), .val (.int pD), .val (.int pE), .val (.ref b1), .unset, .unset, .val .null, .unset, .unset] [(.ref b15)]))
    refine own_back ?_ (fun t k => XS.astore X22.here hx rfl (hb hby at_79) rfl rfl (l' := #[.val (.int pA), .val (.int pB), .val (.int pC), .val (.int pD), .val (.int pE), .val (.ref b1), .val (.ref b15), .unset, .val .null, .unset, .unset]) rfl k)
    show own_Go p e below PO (T22.setTop (mkF m 81 #[.val (.int pA), .val (.int pB), .val (.int pC), .val (.int pD), .val (.int pE), .val (.ref b1), .val (.ref b15), .unset, .val .null, .unset, .unset] []))
    refine own_back ?_ (fun t k => XS.iconst X22.here hx rfl (hb hby at_81) k)
    show own_Go p e below PO (T22.setTop (mkF m 82 #[.val (.int pA), .val (.int pB), .val (.int pC), .val (.int pD), .val (.int pE), .val (.ref b1), .val (.ref b15), .unset, .val .null, .unset, .unset] [(.int (2 : Int32))]))
    obtain ⟨T26, h26, k26, X26, e26, E26, A26, Ex26, st26⟩ := newPE X22 hx hZ (hw _ (List.mem_of_getElem? (i := 6) rfl)) e22 (g := (mkF m 82 #[.val (.int pA), .val (.int pB), .val (.int pC), .val (.int pD), .val (.int pE), .val (.ref b1), .val (.ref b15), .unset, .val .null, .unset, .unset] [(.int (2 : Int32))])) rfl (hb hby at_82) rfl (by decide) (cap := 2) (by decide) (by decide) (by decide) (by decide) (ad := "[I") (by decide)
    obtain ⟨b26, g26⟩ : ∃ z, z = h22.size := ⟨_, rfl⟩
    rw [← g26] at A26 Ex26 st26
    have ne_b1_b26 : b1 ≠ b26 := Nat.ne_of_lt (Nat.lt_of_lt_of_le f22_23.lt (Nat.le_of_eq g26.symm))
    have ne_b15_b26 : b15 ≠ b26 := Nat.ne_of_lt (Nat.lt_of_lt_of_le f22_25.lt (Nat.le_of_eq g26.symm))
    have sz_b26 : h0.size ≤ b26 := Nat.le_trans K22.1 (Nat.le_of_eq g26.symm)
    have gn_b26 : n0 ≤ b26 := Nat.le_trans Z0 sz_b26
    have f26_27 := f22_23.ext E26
    have f26_28 := f22_24.ext E26
    have f26_29 := f22_25.ext E26
    have f26_30 := V22.ext E26
    have K26 : Keep h0 h26 [] := (K22).ext E26
    have Zh26 : n0 ≤ h26.size := Nat.le_trans Z0 K26.1
    have V26 : Arv Z h26 b26 k26 .int (2 : Int32) [(.int (0 : Int32)), (.int (0 : Int32))] (.int (0 : Int32)) := (Arv.new A26 (by decide)).pad (pad_rep [] (.int (0 : Int32)) 2)
    refine own_back ?_ st26
    show own_Go p e below PO (T26.setTop (mkF m 84 #[.val (.int pA), .val (.int pB), .val (.int pC), .val (.int pD), .val (.int pE), .val (.ref b1), .val (.ref b15), .unset, .val .null, .unset, .unset] [(.ref b26)]))
    refine own_back ?_ (fun t k => XS.dup X26.here hx rfl (hb hby at_84) rfl rfl k)
    show own_Go p e below PO (T26.setTop (mkF m 85 #[.val (.int pA), .val (.int pB), .val (.int pC), .val (.int pD), .val (.int pE), .val (.ref b1), .val (.ref b15), .unset, .val .null, .unset, .unset] [(.ref b26), (.ref b26)]))
    refine own_back ?_ (fun t k => XS.iconst X26.here hx rfl (hb hby at_85) k)
    show own_Go p e below PO (T26.setTop (mkF m 86 #[.val (.int pA), .val (.int pB), .val (.int pC), .val (.int pD), .val (.int pE), .val (.ref b1), .val (.ref b15), .unset, .val .null, .unset, .unset] [(.int (0 : Int32)), (.ref b26), (.ref b26)]))
    refine own_back ?_ (fun t k => XS.iconst X26.here hx rfl (hb hby at_86) k)
    show own_Go p e below PO (T26.setTop (mkF m 87 #[.val (.int pA), .val (.int pB), .val (.int pC), .val (.int pD), .val (.int pE), .val (.ref b1), .val (.ref b15), .unset, .val .null, .unset, .unset] [(.int (2 : Int32)), (.int (0 : Int32)), (.ref b26), (.ref b26)]))
    obtain ⟨T31, h31, X31, e31, W31, V31, st31⟩ := own_stI X26 hx hZ e26 V26 (j := (0 : Int32)) ⟨by decide, by decide⟩ (i := 0) rfl (by show 0 < 2; decide) (g := (mkF m 87 #[.val (.int pA), .val (.int pB), .val (.int pC), .val (.int pD), .val (.int pE), .val (.ref b1), .val (.ref b15), .unset, .val .null, .unset, .unset] [(.int (2 : Int32)), (.int (0 : Int32)), (.ref b26), (.ref b26)])) rfl rfl (hb hby at_87)
    replace V31 : Arv Z h31 b26 k26 .int (2 : Int32) [(.int (2 : Int32)), (.int (0 : Int32))] (.int (0 : Int32)) := V31
    have f31_32 := f26_27.wr W31
    have f31_33 := f26_28.other W31 ne_b1_b26
    have f31_34 := f26_29.wr W31
    have f31_35 := f26_30.other W31 ne_b15_b26
    have f31_36 := Ex26.wr W31
    have K31 : Keep h0 h31 [] := (K26).wr W31 (Or.inr sz_b26)
    have N31 := Fr.snoc X31 N22 gn_b26
    have Zh31 : n0 ≤ h31.size := Nat.le_trans Z0 K31.1
    refine own_back ?_ st31
    show own_Go p e below PO (T31.setTop (mkF m 88 #[.val (.int pA), .val (.int pB), .val (.int pC), .val (.int pD), .val (.int pE), .val (.ref b1), .val (.ref b15), .unset, .val .null, .unset, .unset] [(.ref b26)]))
    refine own_back ?_ (fun t k => XS.dup X31.here hx rfl (hb hby at_88) rfl rfl k)
    show own_Go p e below PO (T31.setTop (mkF m 89 #[.val (.int pA), .val (.int pB), .val (.int pC), .val (.int pD), .val (.int pE), .val (.ref b1), .val (.ref b15), .unset, .val .null, .unset, .unset] [(.ref b26), (.ref b26)]))
    refine own_back ?_ (fun t k => XS.iconst X31.here hx rfl (hb hby at_89) k)
    show own_Go p e below PO (T31.setTop (mkF m 90 #[.val (.int pA), .val (.int pB), .val (.int pC), .val (.int pD), .val (.int pE), .val (.ref b1), .val (.ref b15), .unset, .val .null, .unset, .unset] [(.int (1 : Int32)), (.ref b26), (.ref b26)]))
    refine own_back ?_ (fun t k => XS.iconst X31.here hx rfl (hb hby at_90) k)
    show own_Go p e below PO (T31.setTop (mkF m 91 #[.val (.int pA), .val (.int pB), .val (.int pC), .val (.int pD), .val (.int pE), .val (.ref b1), .val (.ref b15), .unset, .val .null, .unset, .unset] [(.int (2 : Int32)), (.int (1 : Int32)), (.ref b26), (.ref b26)]))
    obtain ⟨T37, h37, X37, e37, W37, V37, st37⟩ := own_stI X31 hx hZ e31 V31 (j := (1 : Int32)) ⟨by decide, by decide⟩ (i := 1) rfl (by show 1 < 2; decide) (g := (mkF m 91 #[.val (.int pA), .val (.int pB), .val (.int pC), .val (.int pD), .val (.int pE), .val (.ref b1), .val (.ref b15), .unset, .val .null, .unset, .unset] [(.int (2 : Int32)), (.int (1 : Int32)), (.ref b26), (.ref b26)])) rfl rfl (hb hby at_91)
    replace V37 : Arv Z h37 b26 k26 .int (2 : Int32) [(.int (2 : Int32)), (.int (2 : Int32))] (.int (0 : Int32)) := V37
    have f37_38 := f31_32.wr W37
    have f37_39 := f31_33.other W37 ne_b1_b26
    have f37_40 := f31_34.wr W37
    have f37_41 := f31_35.other W37 ne_b15_b26
    have f37_42 := f31_36.wr W37
    have K37 : Keep h0 h37 [] := (K31).wr W37 (Or.inr sz_b26)
    have N37 := Fr.snoc X37 N31 gn_b26
    have Zh37 : n0 ≤ h37.size := Nat.le_trans Z0 K37.1
    refine own_back ?_ st37
    show own_Go p e below PO (T37.setTop (mkF m 92 #[.val (.int pA), .val (.int pB), .val (.int pC), .val (.int pD), .val (.int pE), .val (.ref b1), .val (.ref b15), .unset, .val .null, .unset, .unset] [(.ref b26)]))
    refine own_back ?_ (fun t k => XS.astore X37.here hx rfl (hb hby at_92) rfl rfl (l' := #[.val (.int pA), .val (.int pB), .val (.int pC), .val (.int pD), .val (.int pE), .val (.ref b1), .val (.ref b15), .val (.ref b26), .val .null, .unset, .unset]) rfl k)
    show own_Go p e below PO (T37.setTop (mkF m 94 #[.val (.int pA), .val (.int pB), .val (.int pC), .val (.int pD), .val (.int pE), .val (.ref b1), .val (.ref b15), .val (.ref b26), .val .null, .unset, .unset] []))
    refine own_back ?_ (fun t k => XS.iload X37.here hx rfl (hb hby at_94) rfl k)
    show own_Go p e below PO (T37.setTop (mkF m 96 #[.val (.int pA), .val (.int pB), .val (.int pC), .val (.int pD), .val (.int pE), .val (.ref b1), .val (.ref b15), .val (.ref b26), .val .null, .unset, .unset] [(.int pE)]))
    refine own_back ?_ (fun t k => XS.iconst X37.here hx rfl (hb hby at_96) k)
    show own_Go p e below PO (T37.setTop (mkF m 97 #[.val (.int pA), .val (.int pB), .val (.int pC), .val (.int pD), .val (.int pE), .val (.ref b1), .val (.ref b15), .val (.ref b26), .val .null, .unset, .unset] [(.int (2 : Int32)), (.int pE)]))
    refine own_back ?_ (fun t k => XS.iand X37.here hx rfl (hb hby at_97) rfl k)
    show own_Go p e below PO (T37.setTop (mkF m 98 #[.val (.int pA), .val (.int pB), .val (.int pC), .val (.int pD), .val (.int pE), .val (.ref b1), .val (.ref b15), .val (.ref b26), .val .null, .unset, .unset] [(.int (pE &&& (2 : Int32)))]))
    by_cases hc98_43 : (pE &&& (2 : Int32)) = (0 : Int32)
    case pos =>
      refine own_back ?_ (fun t k => XS.ifYes X37.here hx rfl (pc0 := 98) (pc' := 126) rfl (hb hby at_98) rfl ((if0 _ _).trans (teq hc98_43).1) (by decide) (by decide) k)
      show own_Go p e below PO (T37.setTop (mkF m 126 #[.val (.int pA), .val (.int pB), .val (.int pC), .val (.int pD), .val (.int pE), .val (.ref b1), .val (.ref b15), .val (.ref b26), .val .null, .unset, .unset] []))
      obtain ⟨T44, h44, X44, e44, E44, A44, D44, -, st44⟩ := newO X37 hx hZ hown (hw _ (List.mem_of_getElem? (i := 7) rfl)) (hw _ (List.mem_of_getElem? (i := 8) rfl)) (hw _ (List.mem_of_getElem? (i := 9) rfl)) e37 (g := (mkF m 126 #[.val (.int pA), .val (.int pB), .val (.int pC), .val (.int pD), .val (.int pE), .val (.ref b1), .val (.ref b15), .val (.ref b26), .val .null, .unset, .unset] [])) rfl (hb hby at_126) (by decide) (by decide)
      obtain ⟨b44, g44⟩ : ∃ z, z = h37.size := ⟨_, rfl⟩
      rw [← g44] at A44 D44 st44
      have ne_b1_b44 : b1 ≠ b44 := Nat.ne_of_lt (Nat.lt_of_lt_of_le f37_38.lt (Nat.le_of_eq g44.symm))
      have ne_b15_b44 : b15 ≠ b44 := Nat.ne_of_lt (Nat.lt_of_lt_of_le f37_40.lt (Nat.le_of_eq g44.symm))
      have ne_b26_b44 : b26 ≠ b44 := Nat.ne_of_lt (Nat.lt_of_lt_of_le f37_42.lt (Nat.le_of_eq g44.symm))
      have sz_b44 : h0.size ≤ b44 := Nat.le_trans K37.1 (Nat.le_of_eq g44.symm)
      have gn_b44 : n0 ≤ b44 := Nat.le_trans Z0 sz_b44
      have f44_45 := f37_38.ext E44
      have f44_46 := f37_39.ext E44
      have f44_47 := f37_40.ext E44
      have f44_48 := f37_41.ext E44
      have f44_49 := f37_42.ext E44
      have f44_50 := V37.ext E44
      have K44 : Keep h0 h44 [] := (K37).ext E44
      have Zh44 : n0 ≤ h44.size := Nat.le_trans Z0 K44.1
      have F44_scope : Fld Z h44 b44 "com/example/nearbound/nearbound/dcop/Constraint" "scope" "[I" .null := D44 (Or.inr (hw _ (List.mem_of_getElem? (i := 26) rfl))) (ty := (.array .int)) (by decide)
      have F44_sizes : Fld Z h44 b44 "com/example/nearbound/nearbound/dcop/Constraint" "sizes" "[I" .null := D44 (Or.inr (hw _ (List.mem_of_getElem? (i := 28) rfl))) (ty := (.array .int)) (by decide)
      have F44_strides : Fld Z h44 b44 "com/example/nearbound/nearbound/dcop/Constraint" "strides" "[I" .null := D44 (Or.inr (hw _ (List.mem_of_getElem? (i := 30) rfl))) (ty := (.array .int)) (by decide)
      have F44_rewards : Fld Z h44 b44 "com/example/nearbound/nearbound/dcop/Constraint" "rewards" "[D" .null := D44 (Or.inr (hw _ (List.mem_of_getElem? (i := 53) rfl))) (ty := (.array .double)) (by decide)
      have F44_costs : Fld Z h44 b44 "com/example/nearbound/nearbound/dcop/Constraint" "costs" "[D" .null := D44 (Or.inr (hw _ (List.mem_of_getElem? (i := 55) rfl))) (ty := (.array .double)) (by decide)
      refine own_back ?_ st44
      show own_Go p e below PO (T44.setTop (mkF m 129 #[.val (.int pA), .val (.int pB), .val (.int pC), .val (.int pD), .val (.int pE), .val (.ref b1), .val (.ref b15), .val (.ref b26), .val .null, .unset, .unset] [(.ref b44)]))
      refine own_back ?_ (fun t k => XS.dup X44.here hx rfl (hb hby at_129) rfl rfl k)
      show own_Go p e below PO (T44.setTop (mkF m 130 #[.val (.int pA), .val (.int pB), .val (.int pC), .val (.int pD), .val (.int pE), .val (.ref b1), .val (.ref b15), .val (.ref b26), .val .null, .unset, .unset] [(.ref b44), (.ref b44)]))
      refine own_back ?_ (fun t k => XS.aload X44.here hx rfl (hb hby at_130) rfl rfl k)
      show own_Go p e below PO (T44.setTop (mkF m 132 #[.val (.int pA), .val (.int pB), .val (.int pC), .val (.int pD), .val (.int pE), .val (.ref b1), .val (.ref b15), .val (.ref b26), .val .null, .unset, .unset] [(.ref b15), (.ref b44), (.ref b44)]))
      refine own_back ?_ (fun t k => XS.aload X44.here hx rfl (hb hby at_132) rfl rfl k)
      show own_Go p e below PO (T44.setTop (mkF m 134 #[.val (.int pA), .val (.int pB), .val (.int pC), .val (.int pD), .val (.int pE), .val (.ref b1), .val (.ref b15), .val (.ref b26), .val .null, .unset, .unset] [(.ref b26), (.ref b15), (.ref b44), (.ref b44)]))
      refine own_back ?_ (fun t k => XS.aload X44.here hx rfl (hb hby at_134) rfl rfl k)
      show own_Go p e below PO (T44.setTop (mkF m 136 #[.val (.int pA), .val (.int pB), .val (.int pC), .val (.int pD), .val (.int pE), .val (.ref b1), .val (.ref b15), .val (.ref b26), .val .null, .unset, .unset] [(.ref b1), (.ref b26), (.ref b15), (.ref b44), (.ref b44)]))
      refine own_back ?_ (fun t k => XS.aload X44.here hx rfl (hb hby at_136) rfl rfl k)
      show own_Go p e below PO (T44.setTop (mkF m 138 #[.val (.int pA), .val (.int pB), .val (.int pC), .val (.int pD), .val (.int pE), .val (.ref b1), .val (.ref b15), .val (.ref b26), .val .null, .unset, .unset] [.null, (.ref b1), (.ref b26), (.ref b15), (.ref b44), (.ref b44)]))
      obtain ⟨_, _, ⟨T51, L51, k51, n51⟩, -, X51, hSn51, hgr51, ⟨Lc51, hQ51, l51, y51, z51⟩, st51⟩ := X44.specialBackS hx (y := (⟨"com/example/nearbound/nearbound/dcop/Constraint", "<init>", "([I[I[D[D)V"⟩ : MethodName)) rfl hown (mvT hZ (hw _ (List.mem_of_getElem? (i := 10) rfl))) (mvT hZ (hw _ (List.mem_of_getElem? (i := 11) rfl))) (mvT hZ (hw _ (List.mem_of_getElem? (i := 12) rfl))) (by decide) (backOfS (W := 1) (rmI_b l Z a0 hw [] b44 b15 b26 b1 k15 k26 k1 k1 (own_entry pA) (own_entry pB) (own_entry pC) (own_entry pD) h44 n0 Zh44 A44 F44_scope F44_sizes F44_strides F44_rewards F44_costs f44_47 f44_48 ne_b15_b44 f44_49 f44_50 ne_b26_b44 f44_45 f44_46 ne_b1_b44 gn_b44) hZ (hw _ (List.mem_of_getElem? (i := 12) rfl)) (hw _ (List.mem_of_getElem? (i := 9) rfl)) (by decide) (by decide)) (g := (mkF m 138 #[.val (.int pA), .val (.int pB), .val (.int pC), .val (.int pD), .val (.int pE), .val (.ref b1), .val (.ref b15), .val (.ref b26), .val .null, .unset, .unset] [.null, (.ref b1), (.ref b26), (.ref b15), (.ref b44), (.ref b44)])) rfl (by rw [hml]; rfl) (Steps.refl _) (a := b44) (argsL := [(.ref b15), (.ref b26), (.ref b1), .null]) (rest := [(.ref b44)]) (lenOf pd_3 rfl) rfl (by show 2 * 0 + _ ≤ _; exact Nat.le_of_eq rfl) (hb hby at_138) (fun _ _ => ⟨rfl, e44, (by decide : 4 + 6 ≤ _), (by decide : 13 + 42 ≤ _)⟩)
      dsimp only [Pt.U, Pt.locs, Pt.cells, Pt.slots] at X51 l51 y51 z51 st51 hQ51
      subst l51 y51 z51
      replace X51 : Stand p l e room_1 (s.setVm T51.vm) m #[(.int pA), (.int pB), (.int pC), (.int pD), (.int pE)] below meth c T51 _ _ _ := X51
      have hS51 : s.Since T51.vm T51.heap.size := foldS (s := s) (vm0 := s.vm) (T := T44) hS0 (by rw [e44]; exact (Nat.zero_le _)) hSn51 hgr51
      have hZ : Z.Warmed39 (s.setVm T51.vm).vm := State.Warmed39.trans (t := s.setVm s.vm) hZ hSn51.1
      have hown : (s.setVm T51.vm).vm.findClass "com/example/nearbound/nearbound/dcop/ConstraintIsHardPinLaw" = some m.cls := by rw [show (s.setVm T51.vm).vm = T51.vm from rfl, hSn51.1.alike.findClass]; exact hown
      obtain ⟨rfl, N51q, Kc51, aN, szN, FS, VN⟩ := hQ51
      have N51 := Fr.app N37 N51q
      have ne_b1_aN : b1 ≠ aN := Nat.ne_of_lt (Nat.lt_of_lt_of_le f44_45.lt szN)
      have ne_b15_aN : b15 ≠ aN := Nat.ne_of_lt (Nat.lt_of_lt_of_le f44_47.lt szN)
      have ne_b26_aN : b26 ≠ aN := Nat.ne_of_lt (Nat.lt_of_lt_of_le f44_49.lt szN)
      have ne_b44_aN : b44 ≠ aN := Nat.ne_of_lt (Nat.lt_of_lt_of_le A44.lt szN)
      have sz_aN : h0.size ≤ aN := Nat.le_trans K44.1 szN
      have gn_aN : n0 ≤ aN := Nat.le_trans Z0 sz_aN
      have f51_52 := f44_45.keep Kc51
      have f51_53 := f44_46.keep Kc51 (ninS ne_b1_b44 nin0)
      have f51_54 := f44_47.keep Kc51
      have f51_55 := f44_48.keep Kc51 (ninS ne_b15_b44 nin0)
      have f51_56 := f44_49.keep Kc51
      have f51_57 := f44_50.keep Kc51 (ninS ne_b26_b44 nin0)
      have f51_58 := A44.keep Kc51
      have K51 : Keep h0 T51.heap [] := (K44).trans Kc51 (allS (Or.inr sz_b44) all0)
      have Zh51 : n0 ≤ T51.heap.size := Nat.le_trans Z0 K51.1
      refine own_back ?_ (fun t k => st51.trans k)
      show own_Go p e below PO (T51.setTop (mkF m 141 #[.val (.int pA), .val (.int pB), .val (.int pC), .val (.int pD), .val (.int pE), .val (.ref b1), .val (.ref b15), .val (.ref b26), .val .null, .unset, .unset] [(.ref b44)]))
      refine own_back ?_ (fun t k => XS.astore X51.here hx rfl (hb hby at_141) rfl rfl (l' := #[.val (.int pA), .val (.int pB), .val (.int pC), .val (.int pD), .val (.int pE), .val (.ref b1), .val (.ref b15), .val (.ref b26), .val .null, .val (.ref b44), .unset]) rfl k)
      show own_Go p e below PO (T51.setTop (mkF m 143 #[.val (.int pA), .val (.int pB), .val (.int pC), .val (.int pD), .val (.int pE), .val (.ref b1), .val (.ref b15), .val (.ref b26), .val .null, .val (.ref b44), .unset] []))
      refine own_back ?_ (fun t k => XS.iloadN X51.here hx rfl (hb hby at_143) rfl k)
      show own_Go p e below PO (T51.setTop (mkF m 144 #[.val (.int pA), .val (.int pB), .val (.int pC), .val (.int pD), .val (.int pE), .val (.ref b1), .val (.ref b15), .val (.ref b26), .val .null, .val (.ref b44), .unset] [(.int pA)]))
      refine own_back ?_ (fun t k => XS.iconst X51.here hx rfl (hb hby at_144) k)
      show own_Go p e below PO (T51.setTop (mkF m 145 #[.val (.int pA), .val (.int pB), .val (.int pC), .val (.int pD), .val (.int pE), .val (.ref b1), .val (.ref b15), .val (.ref b26), .val .null, .val (.ref b44), .unset] [(.int (3 : Int32)), (.int pA)]))
      refine own_back ?_ (fun t k => XS.iand X51.here hx rfl (hb hby at_145) rfl k)
      show own_Go p e below PO (T51.setTop (mkF m 146 #[.val (.int pA), .val (.int pB), .val (.int pC), .val (.int pD), .val (.int pE), .val (.ref b1), .val (.ref b15), .val (.ref b26), .val .null, .val (.ref b44), .unset] [(.int (pA &&& (3 : Int32)))]))
      by_cases hc146_59 : (pA &&& (3 : Int32)) = (0 : Int32)
      case pos =>
        refine own_back ?_ (fun t k => XS.ifYes X51.here hx rfl (pc0 := 146) (pc' := 167) rfl (hb hby at_146) rfl ((if0 _ _).trans (teq hc146_59).1) (by decide) (by decide) k)
        show own_Go p e below PO (T51.setTop (mkF m 167 #[.val (.int pA), .val (.int pB), .val (.int pC), .val (.int pD), .val (.int pE), .val (.ref b1), .val (.ref b15), .val (.ref b26), .val .null, .val (.ref b44), .unset] []))
        refine own_back ?_ (fun t k => XS.iconst X51.here hx rfl (hb hby at_167) k)
        show own_Go p e below PO (T51.setTop (mkF m 168 #[.val (.int pA), .val (.int pB), .val (.int pC), .val (.int pD), .val (.int pE), .val (.ref b1), .val (.ref b15), .val (.ref b26), .val .null, .val (.ref b44), .unset] [(.int (1 : Int32))]))
        refine own_back ?_ (fun t k => XS.goto X51.here hx rfl (pc0 := 168) (pc' := 172) rfl (hb hby at_168) (by decide) (by decide) k)
        show own_Go p e below PO (T51.setTop (mkF m 172 #[.val (.int pA), .val (.int pB), .val (.int pC), .val (.int pD), .val (.int pE), .val (.ref b1), .val (.ref b15), .val (.ref b26), .val .null, .val (.ref b44), .unset] [(.int (1 : Int32))]))
        refine own_back ?_ (fun t k => XS.istore X51.here hx rfl (hb hby at_172) rfl (l' := #[.val (.int pA), .val (.int pB), .val (.int pC), .val (.int pD), .val (.int pE), .val (.ref b1), .val (.ref b15), .val (.ref b26), .val .null, .val (.ref b44), .val (.int (1 : Int32))]) rfl k)
        show own_Go p e below PO (T51.setTop (mkF m 174 #[.val (.int pA), .val (.int pB), .val (.int pC), .val (.int pD), .val (.int pE), .val (.ref b1), .val (.ref b15), .val (.ref b26), .val .null, .val (.ref b44), .val (.int (1 : Int32))] []))
        refine own_back ?_ (fun t k => XS.aload X51.here hx rfl (hb hby at_174) rfl rfl k)
        show own_Go p e below PO (T51.setTop (mkF m 176 #[.val (.int pA), .val (.int pB), .val (.int pC), .val (.int pD), .val (.int pE), .val (.ref b1), .val (.ref b15), .val (.ref b26), .val .null, .val (.ref b44), .val (.int (1 : Int32))] [(.ref b44)]))
        obtain ⟨cq60, kq60, q60a, q60b, q60c⟩ := isOf hZ rfl f51_58
        obtain ⟨_, _, ⟨T60, L60, k60, n60⟩, -, X60, ⟨Lc60, hQ60, l60, y60, z60⟩, st60⟩ := X51.virtualBack hx (y := (⟨"com/example/nearbound/nearbound/dcop/Constraint", "isHard", "()Z"⟩ : MethodName)) (z := (⟨"com/example/nearbound/nearbound/dcop/Constraint", "isHard", "()Z"⟩ : MethodName)) hown (mvT hZ (hw _ (List.mem_of_getElem? (i := 56) rfl))) (mvT hZ (hw _ (List.mem_of_getElem? (i := 57) rfl))) (notFace_of_selects (args := #[]) (mvT hZ (hw _ (List.mem_of_getElem? (i := 59) rfl)))) (mvT hZ (hw _ (List.mem_of_getElem? (i := 59) rfl))) (mvT hZ (hw _ (List.mem_of_getElem? (i := 58) rfl))) (by decide) (backOf (W := 0) (rmH l Z a0 hw [] b44 aN k1 (own_entry pA) (own_entry pB) (own_entry pC) (own_entry pD) T51.heap n0 Zh51 FS VN) hZ (hw _ (List.mem_of_getElem? (i := 60) rfl)) (hw _ (List.mem_of_getElem? (i := 9) rfl)) (by decide) (by decide)) q60a q60c (g := (mkF m 176 #[.val (.int pA), .val (.int pB), .val (.int pC), .val (.int pD), .val (.int pE), .val (.ref b1), .val (.ref b15), .val (.ref b26), .val .null, .val (.ref b44), .val (.int (1 : Int32))] [(.ref b44)])) rfl (by rw [hml]; rfl) (Steps.refl _) (argsL := []) (rest := []) (lenOf pd_4 rfl) rfl (by show 2 * 0 + _ ≤ _; exact Nat.le_of_eq rfl) (hb hby at_176) (fun _ _ => ⟨rfl, rfl, (by decide : 10 + 0 ≤ _), (by decide : 55 + 0 ≤ _)⟩)
        dsimp only [Pt.U, Pt.locs, Pt.cells, Pt.slots] at X60 l60 y60 z60 st60 hQ60
        subst l60 y60 z60
        obtain ⟨rfl, N60q, e60⟩ := hQ60
        have N60 := Fr.app N51 N60q
        refine own_back ?_ (fun t k => st60.trans k)
        show own_Go p e below PO (T60.setTop (mkF m 179 #[.val (.int pA), .val (.int pB), .val (.int pC), .val (.int pD), .val (.int pE), .val (.ref b1), .val (.ref b15), .val (.ref b26), .val .null, .val (.ref b44), .val (.int (1 : Int32))] [(.int (own_hard (own_entry pA) (own_entry pB) (own_entry pC) (own_entry pD)))]))
        refine own_gen (A := Int32) (own_hard (own_entry pA) (own_entry pB) (own_entry pC) (own_entry pD)) (fun r176_61 => own_Go p e below PO (T60.setTop (mkF m 179 #[.val (.int pA), .val (.int pB), .val (.int pC), .val (.int pD), .val (.int pE), .val (.ref b1), .val (.ref b15), .val (.ref b26), .val .null, .val (.ref b44), .val (.int (1 : Int32))] [(.int r176_61)]))) ?_
        intro r176_61 h_r176_61
        show own_Go p e below PO (T60.setTop (mkF m 179 #[.val (.int pA), .val (.int pB), .val (.int pC), .val (.int pD), .val (.int pE), .val (.ref b1), .val (.ref b15), .val (.ref b26), .val .null, .val (.ref b44), .val (.int (1 : Int32))] [(.int r176_61)]))
        refine own_back ?_ (fun t k => XS.iload X60.here hx rfl (hb hby at_179) rfl k)
        show own_Go p e below PO (T60.setTop (mkF m 181 #[.val (.int pA), .val (.int pB), .val (.int pC), .val (.int pD), .val (.int pE), .val (.ref b1), .val (.ref b15), .val (.ref b26), .val .null, .val (.ref b44), .val (.int (1 : Int32))] [(.int (1 : Int32)), (.int r176_61)]))
        have hd181_62 : r176_61 = (1 : Int32) := by rw [h_r176_61]; simp [own_hard, own_ent0 hc146_59]
        refine own_back ?_ (fun t k => XS.icmpNo X60.here hx rfl (hb hby at_181) rfl (teq hd181_62).2 k)
        show own_Go p e below PO (T60.setTop (mkF m 184 #[.val (.int pA), .val (.int pB), .val (.int pC), .val (.int pD), .val (.int pE), .val (.ref b1), .val (.ref b15), .val (.ref b26), .val .null, .val (.ref b44), .val (.int (1 : Int32))] []))
        refine own_back ?_ (fun t k => XS.iconst X60.here hx rfl (hb hby at_184) k)
        show own_Go p e below PO (T60.setTop (mkF m 185 #[.val (.int pA), .val (.int pB), .val (.int pC), .val (.int pD), .val (.int pE), .val (.ref b1), .val (.ref b15), .val (.ref b26), .val .null, .val (.ref b44), .val (.int (1 : Int32))] [(.int (1 : Int32))]))
        refine own_back ?_ (fun t k => XS.goto X60.here hx rfl (pc0 := 185) (pc' := 189) rfl (hb hby at_185) (by decide) (by decide) k)
        show own_Go p e below PO (T60.setTop (mkF m 189 #[.val (.int pA), .val (.int pB), .val (.int pC), .val (.int pD), .val (.int pE), .val (.ref b1), .val (.ref b15), .val (.ref b26), .val .null, .val (.ref b44), .val (.int (1 : Int32))] [(.int (1 : Int32))]))
        refine own_retNW X60 hx (t := .boolean) (rest := []) Bd.returns (by decide) (by simp) (hb hby at_189) e60 (Bd.notSynchronized) ?_ (by decide) (by decide) (s := s) (vm0 := T51.vm) hS51 (Nat.le_refl _)
        exact ⟨rfl, N60⟩
      refine own_back ?_ (fun t k => XS.ifNo X51.here hx rfl (hb hby at_146) rfl ((if0 _ _).trans (feq hc146_59).1) k)
      show own_Go p e below PO (T51.setTop (mkF m 149 #[.val (.int pA), .val (.int pB), .val (.int pC), .val (.int pD), .val (.int pE), .val (.ref b1), .val (.ref b15), .val (.ref b26), .val .null, .val (.ref b44), .unset] []))
      refine own_back ?_ (fun t k => XS.iloadN X51.here hx rfl (hb hby at_149) rfl k)
      show own_Go p e below PO (T51.setTop (mkF m 150 #[.val (.int pA), .val (.int pB), .val (.int pC), .val (.int pD), .val (.int pE), .val (.ref b1), .val (.ref b15), .val (.ref b26), .val .null, .val (.ref b44), .unset] [(.int pB)]))
      refine own_back ?_ (fun t k => XS.iconst X51.here hx rfl (hb hby at_150) k)
      show own_Go p e below PO (T51.setTop (mkF m 151 #[.val (.int pA), .val (.int pB), .val (.int pC), .val (.int pD), .val (.int pE), .val (.ref b1), .val (.ref b15), .val (.ref b26), .val .null, .val (.ref b44), .unset] [(.int (3 : Int32)), (.int pB)]))
      refine own_back ?_ (fun t k => XS.iand X51.here hx rfl (hb hby at_151) rfl k)
      show own_Go p e below PO (T51.setTop (mkF m 152 #[.val (.int pA), .val (.int pB), .val (.int pC), .val (.int pD), .val (.int pE), .val (.ref b1), .val (.ref b15), .val (.ref b26), .val .null, .val (.ref b44), .unset] [(.int (pB &&& (3 : Int32)))]))
      by_cases hc152_63 : (pB &&& (3 : Int32)) = (0 : Int32)
      case pos =>
        refine own_back ?_ (fun t k => XS.ifYes X51.here hx rfl (pc0 := 152) (pc' := 167) rfl (hb hby at_152) rfl ((if0 _ _).trans (teq hc152_63).1) (by decide) (by decide) k)
        show own_Go p e below PO (T51.setTop (mkF m 167 #[.val (.int pA), .val (.int pB), .val (.int pC), .val (.int pD), .val (.int pE), .val (.ref b1), .val (.ref b15), .val (.ref b26), .val .null, .val (.ref b44), .unset] []))
        refine own_back ?_ (fun t k => XS.iconst X51.here hx rfl (hb hby at_167) k)
        show own_Go p e below PO (T51.setTop (mkF m 168 #[.val (.int pA), .val (.int pB), .val (.int pC), .val (.int pD), .val (.int pE), .val (.ref b1), .val (.ref b15), .val (.ref b26), .val .null, .val (.ref b44), .unset] [(.int (1 : Int32))]))
        refine own_back ?_ (fun t k => XS.goto X51.here hx rfl (pc0 := 168) (pc' := 172) rfl (hb hby at_168) (by decide) (by decide) k)
        show own_Go p e below PO (T51.setTop (mkF m 172 #[.val (.int pA), .val (.int pB), .val (.int pC), .val (.int pD), .val (.int pE), .val (.ref b1), .val (.ref b15), .val (.ref b26), .val .null, .val (.ref b44), .unset] [(.int (1 : Int32))]))
        refine own_back ?_ (fun t k => XS.istore X51.here hx rfl (hb hby at_172) rfl (l' := #[.val (.int pA), .val (.int pB), .val (.int pC), .val (.int pD), .val (.int pE), .val (.ref b1), .val (.ref b15), .val (.ref b26), .val .null, .val (.ref b44), .val (.int (1 : Int32))]) rfl k)
        show own_Go p e below PO (T51.setTop (mkF m 174 #[.val (.int pA), .val (.int pB), .val (.int pC), .val (.int pD), .val (.int pE), .val (.ref b1), .val (.ref b15), .val (.ref b26), .val .null, .val (.ref b44), .val (.int (1 : Int32))] []))
        refine own_back ?_ (fun t k => XS.aload X51.here hx rfl (hb hby at_174) rfl rfl k)
        show own_Go p e below PO (T51.setTop (mkF m 176 #[.val (.int pA), .val (.int pB), .val (.int pC), .val (.int pD), .val (.int pE), .val (.ref b1), .val (.ref b15), .val (.ref b26), .val .null, .val (.ref b44), .val (.int (1 : Int32))] [(.ref b44)]))
        obtain ⟨cq64, kq64, q64a, q64b, q64c⟩ := isOf hZ rfl f51_58
        obtain ⟨_, _, ⟨T64, L64, k64, n64⟩, -, X64, ⟨Lc64, hQ64, l64, y64, z64⟩, st64⟩ := X51.virtualBack hx (y := (⟨"com/example/nearbound/nearbound/dcop/Constraint", "isHard", "()Z"⟩ : MethodName)) (z := (⟨"com/example/nearbound/nearbound/dcop/Constraint", "isHard", "()Z"⟩ : MethodName)) hown (mvT hZ (hw _ (List.mem_of_getElem? (i := 56) rfl))) (mvT hZ (hw _ (List.mem_of_getElem? (i := 57) rfl))) (notFace_of_selects (args := #[]) (mvT hZ (hw _ (List.mem_of_getElem? (i := 59) rfl)))) (mvT hZ (hw _ (List.mem_of_getElem? (i := 59) rfl))) (mvT hZ (hw _ (List.mem_of_getElem? (i := 58) rfl))) (by decide) (backOf (W := 0) (rmH l Z a0 hw [] b44 aN k1 (own_entry pA) (own_entry pB) (own_entry pC) (own_entry pD) T51.heap n0 Zh51 FS VN) hZ (hw _ (List.mem_of_getElem? (i := 60) rfl)) (hw _ (List.mem_of_getElem? (i := 9) rfl)) (by decide) (by decide)) q64a q64c (g := (mkF m 176 #[.val (.int pA), .val (.int pB), .val (.int pC), .val (.int pD), .val (.int pE), .val (.ref b1), .val (.ref b15), .val (.ref b26), .val .null, .val (.ref b44), .val (.int (1 : Int32))] [(.ref b44)])) rfl (by rw [hml]; rfl) (Steps.refl _) (argsL := []) (rest := []) (lenOf pd_4 rfl) rfl (by show 2 * 0 + _ ≤ _; exact Nat.le_of_eq rfl) (hb hby at_176) (fun _ _ => ⟨rfl, rfl, (by decide : 10 + 0 ≤ _), (by decide : 55 + 0 ≤ _)⟩)
        dsimp only [Pt.U, Pt.locs, Pt.cells, Pt.slots] at X64 l64 y64 z64 st64 hQ64
        subst l64 y64 z64
        obtain ⟨rfl, N64q, e64⟩ := hQ64
        have N64 := Fr.app N51 N64q
        refine own_back ?_ (fun t k => st64.trans k)
        show own_Go p e below PO (T64.setTop (mkF m 179 #[.val (.int pA), .val (.int pB), .val (.int pC), .val (.int pD), .val (.int pE), .val (.ref b1), .val (.ref b15), .val (.ref b26), .val .null, .val (.ref b44), .val (.int (1 : Int32))] [(.int (own_hard (own_entry pA) (own_entry pB) (own_entry pC) (own_entry pD)))]))
        refine own_gen (A := Int32) (own_hard (own_entry pA) (own_entry pB) (own_entry pC) (own_entry pD)) (fun r176_65 => own_Go p e below PO (T64.setTop (mkF m 179 #[.val (.int pA), .val (.int pB), .val (.int pC), .val (.int pD), .val (.int pE), .val (.ref b1), .val (.ref b15), .val (.ref b26), .val .null, .val (.ref b44), .val (.int (1 : Int32))] [(.int r176_65)]))) ?_
        intro r176_65 h_r176_65
        show own_Go p e below PO (T64.setTop (mkF m 179 #[.val (.int pA), .val (.int pB), .val (.int pC), .val (.int pD), .val (.int pE), .val (.ref b1), .val (.ref b15), .val (.ref b26), .val .null, .val (.ref b44), .val (.int (1 : Int32))] [(.int r176_65)]))
        refine own_back ?_ (fun t k => XS.iload X64.here hx rfl (hb hby at_179) rfl k)
        show own_Go p e below PO (T64.setTop (mkF m 181 #[.val (.int pA), .val (.int pB), .val (.int pC), .val (.int pD), .val (.int pE), .val (.ref b1), .val (.ref b15), .val (.ref b26), .val .null, .val (.ref b44), .val (.int (1 : Int32))] [(.int (1 : Int32)), (.int r176_65)]))
        have hd181_66 : r176_65 = (1 : Int32) := by rw [h_r176_65]; simp [own_hard, own_ent1 hc146_59, own_ent0 hc152_63]
        refine own_back ?_ (fun t k => XS.icmpNo X64.here hx rfl (hb hby at_181) rfl (teq hd181_66).2 k)
        show own_Go p e below PO (T64.setTop (mkF m 184 #[.val (.int pA), .val (.int pB), .val (.int pC), .val (.int pD), .val (.int pE), .val (.ref b1), .val (.ref b15), .val (.ref b26), .val .null, .val (.ref b44), .val (.int (1 : Int32))] []))
        refine own_back ?_ (fun t k => XS.iconst X64.here hx rfl (hb hby at_184) k)
        show own_Go p e below PO (T64.setTop (mkF m 185 #[.val (.int pA), .val (.int pB), .val (.int pC), .val (.int pD), .val (.int pE), .val (.ref b1), .val (.ref b15), .val (.ref b26), .val .null, .val (.ref b44), .val (.int (1 : Int32))] [(.int (1 : Int32))]))
        refine own_back ?_ (fun t k => XS.goto X64.here hx rfl (pc0 := 185) (pc' := 189) rfl (hb hby at_185) (by decide) (by decide) k)
        show own_Go p e below PO (T64.setTop (mkF m 189 #[.val (.int pA), .val (.int pB), .val (.int pC), .val (.int pD), .val (.int pE), .val (.ref b1), .val (.ref b15), .val (.ref b26), .val .null, .val (.ref b44), .val (.int (1 : Int32))] [(.int (1 : Int32))]))
        refine own_retNW X64 hx (t := .boolean) (rest := []) Bd.returns (by decide) (by simp) (hb hby at_189) e64 (Bd.notSynchronized) ?_ (by decide) (by decide) (s := s) (vm0 := T51.vm) hS51 (Nat.le_refl _)
        exact ⟨rfl, N64⟩
      refine own_back ?_ (fun t k => XS.ifNo X51.here hx rfl (hb hby at_152) rfl ((if0 _ _).trans (feq hc152_63).1) k)
      show own_Go p e below PO (T51.setTop (mkF m 155 #[.val (.int pA), .val (.int pB), .val (.int pC), .val (.int pD), .val (.int pE), .val (.ref b1), .val (.ref b15), .val (.ref b26), .val .null, .val (.ref b44), .unset] []))
      refine own_back ?_ (fun t k => XS.iloadN X51.here hx rfl (hb hby at_155) rfl k)
      show own_Go p e below PO (T51.setTop (mkF m 156 #[.val (.int pA), .val (.int pB), .val (.int pC), .val (.int pD), .val (.int pE), .val (.ref b1), .val (.ref b15), .val (.ref b26), .val .null, .val (.ref b44), .unset] [(.int pC)]))
      refine own_back ?_ (fun t k => XS.iconst X51.here hx rfl (hb hby at_156) k)
      show own_Go p e below PO (T51.setTop (mkF m 157 #[.val (.int pA), .val (.int pB), .val (.int pC), .val (.int pD), .val (.int pE), .val (.ref b1), .val (.ref b15), .val (.ref b26), .val .null, .val (.ref b44), .unset] [(.int (3 : Int32)), (.int pC)]))
      refine own_back ?_ (fun t k => XS.iand X51.here hx rfl (hb hby at_157) rfl k)
      show own_Go p e below PO (T51.setTop (mkF m 158 #[.val (.int pA), .val (.int pB), .val (.int pC), .val (.int pD), .val (.int pE), .val (.ref b1), .val (.ref b15), .val (.ref b26), .val .null, .val (.ref b44), .unset] [(.int (pC &&& (3 : Int32)))]))
      by_cases hc158_67 : (pC &&& (3 : Int32)) = (0 : Int32)
      case pos =>
        refine own_back ?_ (fun t k => XS.ifYes X51.here hx rfl (pc0 := 158) (pc' := 167) rfl (hb hby at_158) rfl ((if0 _ _).trans (teq hc158_67).1) (by decide) (by decide) k)
        show own_Go p e below PO (T51.setTop (mkF m 167 #[.val (.int pA), .val (.int pB), .val (.int pC), .val (.int pD), .val (.int pE), .val (.ref b1), .val (.ref b15), .val (.ref b26), .val .null, .val (.ref b44), .unset] []))
        refine own_back ?_ (fun t k => XS.iconst X51.here hx rfl (hb hby at_167) k)
        show own_Go p e below PO (T51.setTop (mkF m 168 #[.val (.int pA), .val (.int pB), .val (.int pC), .val (.int pD), .val (.int pE), .val (.ref b1), .val (.ref b15), .val (.ref b26), .val .null, .val (.ref b44), .unset] [(.int (1 : Int32))]))
        refine own_back ?_ (fun t k => XS.goto X51.here hx rfl (pc0 := 168) (pc' := 172) rfl (hb hby at_168) (by decide) (by decide) k)
        show own_Go p e below PO (T51.setTop (mkF m 172 #[.val (.int pA), .val (.int pB), .val (.int pC), .val (.int pD), .val (.int pE), .val (.ref b1), .val (.ref b15), .val (.ref b26), .val .null, .val (.ref b44), .unset] [(.int (1 : Int32))]))
        refine own_back ?_ (fun t k => XS.istore X51.here hx rfl (hb hby at_172) rfl (l' := #[.val (.int pA), .val (.int pB), .val (.int pC), .val (.int pD), .val (.int pE), .val (.ref b1), .val (.ref b15), .val (.ref b26), .val .null, .val (.ref b44), .val (.int (1 : Int32))]) rfl k)
        show own_Go p e below PO (T51.setTop (mkF m 174 #[.val (.int pA), .val (.int pB), .val (.int pC), .val (.int pD), .val (.int pE), .val (.ref b1), .val (.ref b15), .val (.ref b26), .val .null, .val (.ref b44), .val (.int (1 : Int32))] []))
        refine own_back ?_ (fun t k => XS.aload X51.here hx rfl (hb hby at_174) rfl rfl k)
        show own_Go p e below PO (T51.setTop (mkF m 176 #[.val (.int pA), .val (.int pB), .val (.int pC), .val (.int pD), .val (.int pE), .val (.ref b1), .val (.ref b15), .val (.ref b26), .val .null, .val (.ref b44), .val (.int (1 : Int32))] [(.ref b44)]))
        obtain ⟨cq68, kq68, q68a, q68b, q68c⟩ := isOf hZ rfl f51_58
        obtain ⟨_, _, ⟨T68, L68, k68, n68⟩, -, X68, ⟨Lc68, hQ68, l68, y68, z68⟩, st68⟩ := X51.virtualBack hx (y := (⟨"com/example/nearbound/nearbound/dcop/Constraint", "isHard", "()Z"⟩ : MethodName)) (z := (⟨"com/example/nearbound/nearbound/dcop/Constraint", "isHard", "()Z"⟩ : MethodName)) hown (mvT hZ (hw _ (List.mem_of_getElem? (i := 56) rfl))) (mvT hZ (hw _ (List.mem_of_getElem? (i := 57) rfl))) (notFace_of_selects (args := #[]) (mvT hZ (hw _ (List.mem_of_getElem? (i := 59) rfl)))) (mvT hZ (hw _ (List.mem_of_getElem? (i := 59) rfl))) (mvT hZ (hw _ (List.mem_of_getElem? (i := 58) rfl))) (by decide) (backOf (W := 0) (rmH l Z a0 hw [] b44 aN k1 (own_entry pA) (own_entry pB) (own_entry pC) (own_entry pD) T51.heap n0 Zh51 FS VN) hZ (hw _ (List.mem_of_getElem? (i := 60) rfl)) (hw _ (List.mem_of_getElem? (i := 9) rfl)) (by decide) (by decide)) q68a q68c (g := (mkF m 176 #[.val (.int pA), .val (.int pB), .val (.int pC), .val (.int pD), .val (.int pE), .val (.ref b1), .val (.ref b15), .val (.ref b26), .val .null, .val (.ref b44), .val (.int (1 : Int32))] [(.ref b44)])) rfl (by rw [hml]; rfl) (Steps.refl _) (argsL := []) (rest := []) (lenOf pd_4 rfl) rfl (by show 2 * 0 + _ ≤ _; exact Nat.le_of_eq rfl) (hb hby at_176) (fun _ _ => ⟨rfl, rfl, (by decide : 10 + 0 ≤ _), (by decide : 55 + 0 ≤ _)⟩)
        dsimp only [Pt.U, Pt.locs, Pt.cells, Pt.slots] at X68 l68 y68 z68 st68 hQ68
        subst l68 y68 z68
        obtain ⟨rfl, N68q, e68⟩ := hQ68
        have N68 := Fr.app N51 N68q
        refine own_back ?_ (fun t k => st68.trans k)
        show own_Go p e below PO (T68.setTop (mkF m 179 #[.val (.int pA), .val (.int pB), .val (.int pC), .val (.int pD), .val (.int pE), .val (.ref b1), .val (.ref b15), .val (.ref b26), .val .null, .val (.ref b44), .val (.int (1 : Int32))] [(.int (own_hard (own_entry pA) (own_entry pB) (own_entry pC) (own_entry pD)))]))
        refine own_gen (A := Int32) (own_hard (own_entry pA) (own_entry pB) (own_entry pC) (own_entry pD)) (fun r176_69 => own_Go p e below PO (T68.setTop (mkF m 179 #[.val (.int pA), .val (.int pB), .val (.int pC), .val (.int pD), .val (.int pE), .val (.ref b1), .val (.ref b15), .val (.ref b26), .val .null, .val (.ref b44), .val (.int (1 : Int32))] [(.int r176_69)]))) ?_
        intro r176_69 h_r176_69
        show own_Go p e below PO (T68.setTop (mkF m 179 #[.val (.int pA), .val (.int pB), .val (.int pC), .val (.int pD), .val (.int pE), .val (.ref b1), .val (.ref b15), .val (.ref b26), .val .null, .val (.ref b44), .val (.int (1 : Int32))] [(.int r176_69)]))
        refine own_back ?_ (fun t k => XS.iload X68.here hx rfl (hb hby at_179) rfl k)
        show own_Go p e below PO (T68.setTop (mkF m 181 #[.val (.int pA), .val (.int pB), .val (.int pC), .val (.int pD), .val (.int pE), .val (.ref b1), .val (.ref b15), .val (.ref b26), .val .null, .val (.ref b44), .val (.int (1 : Int32))] [(.int (1 : Int32)), (.int r176_69)]))
        have hd181_70 : r176_69 = (1 : Int32) := by rw [h_r176_69]; simp [own_hard, own_ent1 hc146_59, own_ent1 hc152_63, own_ent0 hc158_67]
        refine own_back ?_ (fun t k => XS.icmpNo X68.here hx rfl (hb hby at_181) rfl (teq hd181_70).2 k)
        show own_Go p e below PO (T68.setTop (mkF m 184 #[.val (.int pA), .val (.int pB), .val (.int pC), .val (.int pD), .val (.int pE), .val (.ref b1), .val (.ref b15), .val (.ref b26), .val .null, .val (.ref b44), .val (.int (1 : Int32))] []))
        refine own_back ?_ (fun t k => XS.iconst X68.here hx rfl (hb hby at_184) k)
        show own_Go p e below PO (T68.setTop (mkF m 185 #[.val (.int pA), .val (.int pB), .val (.int pC), .val (.int pD), .val (.int pE), .val (.ref b1), .val (.ref b15), .val (.ref b26), .val .null, .val (.ref b44), .val (.int (1 : Int32))] [(.int (1 : Int32))]))
        refine own_back ?_ (fun t k => XS.goto X68.here hx rfl (pc0 := 185) (pc' := 189) rfl (hb hby at_185) (by decide) (by decide) k)
        show own_Go p e below PO (T68.setTop (mkF m 189 #[.val (.int pA), .val (.int pB), .val (.int pC), .val (.int pD), .val (.int pE), .val (.ref b1), .val (.ref b15), .val (.ref b26), .val .null, .val (.ref b44), .val (.int (1 : Int32))] [(.int (1 : Int32))]))
        refine own_retNW X68 hx (t := .boolean) (rest := []) Bd.returns (by decide) (by simp) (hb hby at_189) e68 (Bd.notSynchronized) ?_ (by decide) (by decide) (s := s) (vm0 := T51.vm) hS51 (Nat.le_refl _)
        exact ⟨rfl, N68⟩
      refine own_back ?_ (fun t k => XS.ifNo X51.here hx rfl (hb hby at_158) rfl ((if0 _ _).trans (feq hc158_67).1) k)
      show own_Go p e below PO (T51.setTop (mkF m 161 #[.val (.int pA), .val (.int pB), .val (.int pC), .val (.int pD), .val (.int pE), .val (.ref b1), .val (.ref b15), .val (.ref b26), .val .null, .val (.ref b44), .unset] []))
      refine own_back ?_ (fun t k => XS.iloadN X51.here hx rfl (hb hby at_161) rfl k)
      show own_Go p e below PO (T51.setTop (mkF m 162 #[.val (.int pA), .val (.int pB), .val (.int pC), .val (.int pD), .val (.int pE), .val (.ref b1), .val (.ref b15), .val (.ref b26), .val .null, .val (.ref b44), .unset] [(.int pD)]))
      refine own_back ?_ (fun t k => XS.iconst X51.here hx rfl (hb hby at_162) k)
      show own_Go p e below PO (T51.setTop (mkF m 163 #[.val (.int pA), .val (.int pB), .val (.int pC), .val (.int pD), .val (.int pE), .val (.ref b1), .val (.ref b15), .val (.ref b26), .val .null, .val (.ref b44), .unset] [(.int (3 : Int32)), (.int pD)]))
      refine own_back ?_ (fun t k => XS.iand X51.here hx rfl (hb hby at_163) rfl k)
      show own_Go p e below PO (T51.setTop (mkF m 164 #[.val (.int pA), .val (.int pB), .val (.int pC), .val (.int pD), .val (.int pE), .val (.ref b1), .val (.ref b15), .val (.ref b26), .val .null, .val (.ref b44), .unset] [(.int (pD &&& (3 : Int32)))]))
      by_cases hc164_71 : (pD &&& (3 : Int32)) = (0 : Int32)
      case pos =>
        refine own_back ?_ (fun t k => XS.ifNo X51.here hx rfl (hb hby at_164) rfl ((if0 _ _).trans (teq hc164_71).2) k)
        show own_Go p e below PO (T51.setTop (mkF m 167 #[.val (.int pA), .val (.int pB), .val (.int pC), .val (.int pD), .val (.int pE), .val (.ref b1), .val (.ref b15), .val (.ref b26), .val .null, .val (.ref b44), .unset] []))
        refine own_back ?_ (fun t k => XS.iconst X51.here hx rfl (hb hby at_167) k)
        show own_Go p e below PO (T51.setTop (mkF m 168 #[.val (.int pA), .val (.int pB), .val (.int pC), .val (.int pD), .val (.int pE), .val (.ref b1), .val (.ref b15), .val (.ref b26), .val .null, .val (.ref b44), .unset] [(.int (1 : Int32))]))
        refine own_back ?_ (fun t k => XS.goto X51.here hx rfl (pc0 := 168) (pc' := 172) rfl (hb hby at_168) (by decide) (by decide) k)
        show own_Go p e below PO (T51.setTop (mkF m 172 #[.val (.int pA), .val (.int pB), .val (.int pC), .val (.int pD), .val (.int pE), .val (.ref b1), .val (.ref b15), .val (.ref b26), .val .null, .val (.ref b44), .unset] [(.int (1 : Int32))]))
        refine own_back ?_ (fun t k => XS.istore X51.here hx rfl (hb hby at_172) rfl (l' := #[.val (.int pA), .val (.int pB), .val (.int pC), .val (.int pD), .val (.int pE), .val (.ref b1), .val (.ref b15), .val (.ref b26), .val .null, .val (.ref b44), .val (.int (1 : Int32))]) rfl k)
        show own_Go p e below PO (T51.setTop (mkF m 174 #[.val (.int pA), .val (.int pB), .val (.int pC), .val (.int pD), .val (.int pE), .val (.ref b1), .val (.ref b15), .val (.ref b26), .val .null, .val (.ref b44), .val (.int (1 : Int32))] []))
        refine own_back ?_ (fun t k => XS.aload X51.here hx rfl (hb hby at_174) rfl rfl k)
        show own_Go p e below PO (T51.setTop (mkF m 176 #[.val (.int pA), .val (.int pB), .val (.int pC), .val (.int pD), .val (.int pE), .val (.ref b1), .val (.ref b15), .val (.ref b26), .val .null, .val (.ref b44), .val (.int (1 : Int32))] [(.ref b44)]))
        obtain ⟨cq72, kq72, q72a, q72b, q72c⟩ := isOf hZ rfl f51_58
        obtain ⟨_, _, ⟨T72, L72, k72, n72⟩, -, X72, ⟨Lc72, hQ72, l72, y72, z72⟩, st72⟩ := X51.virtualBack hx (y := (⟨"com/example/nearbound/nearbound/dcop/Constraint", "isHard", "()Z"⟩ : MethodName)) (z := (⟨"com/example/nearbound/nearbound/dcop/Constraint", "isHard", "()Z"⟩ : MethodName)) hown (mvT hZ (hw _ (List.mem_of_getElem? (i := 56) rfl))) (mvT hZ (hw _ (List.mem_of_getElem? (i := 57) rfl))) (notFace_of_selects (args := #[]) (mvT hZ (hw _ (List.mem_of_getElem? (i := 59) rfl)))) (mvT hZ (hw _ (List.mem_of_getElem? (i := 59) rfl))) (mvT hZ (hw _ (List.mem_of_getElem? (i := 58) rfl))) (by decide) (backOf (W := 0) (rmH l Z a0 hw [] b44 aN k1 (own_entry pA) (own_entry pB) (own_entry pC) (own_entry pD) T51.heap n0 Zh51 FS VN) hZ (hw _ (List.mem_of_getElem? (i := 60) rfl)) (hw _ (List.mem_of_getElem? (i := 9) rfl)) (by decide) (by decide)) q72a q72c (g := (mkF m 176 #[.val (.int pA), .val (.int pB), .val (.int pC), .val (.int pD), .val (.int pE), .val (.ref b1), .val (.ref b15), .val (.ref b26), .val .null, .val (.ref b44), .val (.int (1 : Int32))] [(.ref b44)])) rfl (by rw [hml]; rfl) (Steps.refl _) (argsL := []) (rest := []) (lenOf pd_4 rfl) rfl (by show 2 * 0 + _ ≤ _; exact Nat.le_of_eq rfl) (hb hby at_176) (fun _ _ => ⟨rfl, rfl, (by decide : 10 + 0 ≤ _), (by decide : 55 + 0 ≤ _)⟩)
        dsimp only [Pt.U, Pt.locs, Pt.cells, Pt.slots] at X72 l72 y72 z72 st72 hQ72
        subst l72 y72 z72
        obtain ⟨rfl, N72q, e72⟩ := hQ72
        have N72 := Fr.app N51 N72q
        refine own_back ?_ (fun t k => st72.trans k)
        show own_Go p e below PO (T72.setTop (mkF m 179 #[.val (.int pA), .val (.int pB), .val (.int pC), .val (.int pD), .val (.int pE), .val (.ref b1), .val (.ref b15), .val (.ref b26), .val .null, .val (.ref b44), .val (.int (1 : Int32))] [(.int (own_hard (own_entry pA) (own_entry pB) (own_entry pC) (own_entry pD)))]))
        refine own_gen (A := Int32) (own_hard (own_entry pA) (own_entry pB) (own_entry pC) (own_entry pD)) (fun r176_73 => own_Go p e below PO (T72.setTop (mkF m 179 #[.val (.int pA), .val (.int pB), .val (.int pC), .val (.int pD), .val (.int pE), .val (.ref b1), .val (.ref b15), .val (.ref b26), .val .null, .val (.ref b44), .val (.int (1 : Int32))] [(.int r176_73)]))) ?_
        intro r176_73 h_r176_73
        show own_Go p e below PO (T72.setTop (mkF m 179 #[.val (.int pA), .val (.int pB), .val (.int pC), .val (.int pD), .val (.int pE), .val (.ref b1), .val (.ref b15), .val (.ref b26), .val .null, .val (.ref b44), .val (.int (1 : Int32))] [(.int r176_73)]))
        refine own_back ?_ (fun t k => XS.iload X72.here hx rfl (hb hby at_179) rfl k)
        show own_Go p e below PO (T72.setTop (mkF m 181 #[.val (.int pA), .val (.int pB), .val (.int pC), .val (.int pD), .val (.int pE), .val (.ref b1), .val (.ref b15), .val (.ref b26), .val .null, .val (.ref b44), .val (.int (1 : Int32))] [(.int (1 : Int32)), (.int r176_73)]))
        have hd181_74 : r176_73 = (1 : Int32) := by rw [h_r176_73]; simp [own_hard, own_ent1 hc146_59, own_ent1 hc152_63, own_ent1 hc158_67, own_ent0 hc164_71]
        refine own_back ?_ (fun t k => XS.icmpNo X72.here hx rfl (hb hby at_181) rfl (teq hd181_74).2 k)
        show own_Go p e below PO (T72.setTop (mkF m 184 #[.val (.int pA), .val (.int pB), .val (.int pC), .val (.int pD), .val (.int pE), .val (.ref b1), .val (.ref b15), .val (.ref b26), .val .null, .val (.ref b44), .val (.int (1 : Int32))] []))
        refine own_back ?_ (fun t k => XS.iconst X72.here hx rfl (hb hby at_184) k)
        show own_Go p e below PO (T72.setTop (mkF m 185 #[.val (.int pA), .val (.int pB), .val (.int pC), .val (.int pD), .val (.int pE), .val (.ref b1), .val (.ref b15), .val (.ref b26), .val .null, .val (.ref b44), .val (.int (1 : Int32))] [(.int (1 : Int32))]))
        refine own_back ?_ (fun t k => XS.goto X72.here hx rfl (pc0 := 185) (pc' := 189) rfl (hb hby at_185) (by decide) (by decide) k)
        show own_Go p e below PO (T72.setTop (mkF m 189 #[.val (.int pA), .val (.int pB), .val (.int pC), .val (.int pD), .val (.int pE), .val (.ref b1), .val (.ref b15), .val (.ref b26), .val .null, .val (.ref b44), .val (.int (1 : Int32))] [(.int (1 : Int32))]))
        refine own_retNW X72 hx (t := .boolean) (rest := []) Bd.returns (by decide) (by simp) (hb hby at_189) e72 (Bd.notSynchronized) ?_ (by decide) (by decide) (s := s) (vm0 := T51.vm) hS51 (Nat.le_refl _)
        exact ⟨rfl, N72⟩
      refine own_back ?_ (fun t k => XS.ifYes X51.here hx rfl (pc0 := 164) (pc' := 171) rfl (hb hby at_164) rfl ((if0 _ _).trans (feq hc164_71).2) (by decide) (by decide) k)
      show own_Go p e below PO (T51.setTop (mkF m 171 #[.val (.int pA), .val (.int pB), .val (.int pC), .val (.int pD), .val (.int pE), .val (.ref b1), .val (.ref b15), .val (.ref b26), .val .null, .val (.ref b44), .unset] []))
      refine own_back ?_ (fun t k => XS.iconst X51.here hx rfl (hb hby at_171) k)
      show own_Go p e below PO (T51.setTop (mkF m 172 #[.val (.int pA), .val (.int pB), .val (.int pC), .val (.int pD), .val (.int pE), .val (.ref b1), .val (.ref b15), .val (.ref b26), .val .null, .val (.ref b44), .unset] [(.int (0 : Int32))]))
      refine own_back ?_ (fun t k => XS.istore X51.here hx rfl (hb hby at_172) rfl (l' := #[.val (.int pA), .val (.int pB), .val (.int pC), .val (.int pD), .val (.int pE), .val (.ref b1), .val (.ref b15), .val (.ref b26), .val .null, .val (.ref b44), .val (.int (0 : Int32))]) rfl k)
      show own_Go p e below PO (T51.setTop (mkF m 174 #[.val (.int pA), .val (.int pB), .val (.int pC), .val (.int pD), .val (.int pE), .val (.ref b1), .val (.ref b15), .val (.ref b26), .val .null, .val (.ref b44), .val (.int (0 : Int32))] []))
      refine own_back ?_ (fun t k => XS.aload X51.here hx rfl (hb hby at_174) rfl rfl k)
      show own_Go p e below PO (T51.setTop (mkF m 176 #[.val (.int pA), .val (.int pB), .val (.int pC), .val (.int pD), .val (.int pE), .val (.ref b1), .val (.ref b15), .val (.ref b26), .val .null, .val (.ref b44), .val (.int (0 : Int32))] [(.ref b44)]))
      obtain ⟨cq75, kq75, q75a, q75b, q75c⟩ := isOf hZ rfl f51_58
      obtain ⟨_, _, ⟨T75, L75, k75, n75⟩, -, X75, ⟨Lc75, hQ75, l75, y75, z75⟩, st75⟩ := X51.virtualBack hx (y := (⟨"com/example/nearbound/nearbound/dcop/Constraint", "isHard", "()Z"⟩ : MethodName)) (z := (⟨"com/example/nearbound/nearbound/dcop/Constraint", "isHard", "()Z"⟩ : MethodName)) hown (mvT hZ (hw _ (List.mem_of_getElem? (i := 56) rfl))) (mvT hZ (hw _ (List.mem_of_getElem? (i := 57) rfl))) (notFace_of_selects (args := #[]) (mvT hZ (hw _ (List.mem_of_getElem? (i := 59) rfl)))) (mvT hZ (hw _ (List.mem_of_getElem? (i := 59) rfl))) (mvT hZ (hw _ (List.mem_of_getElem? (i := 58) rfl))) (by decide) (backOf (W := 0) (rmH l Z a0 hw [] b44 aN k1 (own_entry pA) (own_entry pB) (own_entry pC) (own_entry pD) T51.heap n0 Zh51 FS VN) hZ (hw _ (List.mem_of_getElem? (i := 60) rfl)) (hw _ (List.mem_of_getElem? (i := 9) rfl)) (by decide) (by decide)) q75a q75c (g := (mkF m 176 #[.val (.int pA), .val (.int pB), .val (.int pC), .val (.int pD), .val (.int pE), .val (.ref b1), .val (.ref b15), .val (.ref b26), .val .null, .val (.ref b44), .val (.int (0 : Int32))] [(.ref b44)])) rfl (by rw [hml]; rfl) (Steps.refl _) (argsL := []) (rest := []) (lenOf pd_4 rfl) rfl (by show 2 * 0 + _ ≤ _; exact Nat.le_of_eq rfl) (hb hby at_176) (fun _ _ => ⟨rfl, rfl, (by decide : 10 + 0 ≤ _), (by decide : 55 + 0 ≤ _)⟩)
      dsimp only [Pt.U, Pt.locs, Pt.cells, Pt.slots] at X75 l75 y75 z75 st75 hQ75
      subst l75 y75 z75
      obtain ⟨rfl, N75q, e75⟩ := hQ75
      have N75 := Fr.app N51 N75q
      refine own_back ?_ (fun t k => st75.trans k)
      show own_Go p e below PO (T75.setTop (mkF m 179 #[.val (.int pA), .val (.int pB), .val (.int pC), .val (.int pD), .val (.int pE), .val (.ref b1), .val (.ref b15), .val (.ref b26), .val .null, .val (.ref b44), .val (.int (0 : Int32))] [(.int (own_hard (own_entry pA) (own_entry pB) (own_entry pC) (own_entry pD)))]))
      refine own_gen (A := Int32) (own_hard (own_entry pA) (own_entry pB) (own_entry pC) (own_entry pD)) (fun r176_76 => own_Go p e below PO (T75.setTop (mkF m 179 #[.val (.int pA), .val (.int pB), .val (.int pC), .val (.int pD), .val (.int pE), .val (.ref b1), .val (.ref b15), .val (.ref b26), .val .null, .val (.ref b44), .val (.int (0 : Int32))] [(.int r176_76)]))) ?_
      intro r176_76 h_r176_76
      show own_Go p e below PO (T75.setTop (mkF m 179 #[.val (.int pA), .val (.int pB), .val (.int pC), .val (.int pD), .val (.int pE), .val (.ref b1), .val (.ref b15), .val (.ref b26), .val .null, .val (.ref b44), .val (.int (0 : Int32))] [(.int r176_76)]))
      refine own_back ?_ (fun t k => XS.iload X75.here hx rfl (hb hby at_179) rfl k)
      show own_Go p e below PO (T75.setTop (mkF m 181 #[.val (.int pA), .val (.int pB), .val (.int pC), .val (.int pD), .val (.int pE), .val (.ref b1), .val (.ref b15), .val (.ref b26), .val .null, .val (.ref b44), .val (.int (0 : Int32))] [(.int (0 : Int32)), (.int r176_76)]))
      have hd181_77 : r176_76 = (0 : Int32) := by rw [h_r176_76]; simp [own_hard, own_ent1 hc146_59, own_ent1 hc152_63, own_ent1 hc158_67, own_ent1 hc164_71]
      refine own_back ?_ (fun t k => XS.icmpNo X75.here hx rfl (hb hby at_181) rfl (teq hd181_77).2 k)
      show own_Go p e below PO (T75.setTop (mkF m 184 #[.val (.int pA), .val (.int pB), .val (.int pC), .val (.int pD), .val (.int pE), .val (.ref b1), .val (.ref b15), .val (.ref b26), .val .null, .val (.ref b44), .val (.int (0 : Int32))] []))
      refine own_back ?_ (fun t k => XS.iconst X75.here hx rfl (hb hby at_184) k)
      show own_Go p e below PO (T75.setTop (mkF m 185 #[.val (.int pA), .val (.int pB), .val (.int pC), .val (.int pD), .val (.int pE), .val (.ref b1), .val (.ref b15), .val (.ref b26), .val .null, .val (.ref b44), .val (.int (0 : Int32))] [(.int (1 : Int32))]))
      refine own_back ?_ (fun t k => XS.goto X75.here hx rfl (pc0 := 185) (pc' := 189) rfl (hb hby at_185) (by decide) (by decide) k)
      show own_Go p e below PO (T75.setTop (mkF m 189 #[.val (.int pA), .val (.int pB), .val (.int pC), .val (.int pD), .val (.int pE), .val (.ref b1), .val (.ref b15), .val (.ref b26), .val .null, .val (.ref b44), .val (.int (0 : Int32))] [(.int (1 : Int32))]))
      refine own_retNW X75 hx (t := .boolean) (rest := []) Bd.returns (by decide) (by simp) (hb hby at_189) e75 (Bd.notSynchronized) ?_ (by decide) (by decide) (s := s) (vm0 := T51.vm) hS51 (Nat.le_refl _)
      exact ⟨rfl, N75⟩
    refine own_back ?_ (fun t k => XS.ifNo X37.here hx rfl (hb hby at_98) rfl ((if0 _ _).trans (feq hc98_43).1) k)
    show own_Go p e below PO (T37.setTop (mkF m 101 #[.val (.int pA), .val (.int pB), .val (.int pC), .val (.int pD), .val (.int pE), .val (.ref b1), .val (.ref b15), .val (.ref b26), .val .null, .unset, .unset] []))
    refine own_back ?_ (fun t k => XS.iconst X37.here hx rfl (hb hby at_101) k)
    show own_Go p e below PO (T37.setTop (mkF m 102 #[.val (.int pA), .val (.int pB), .val (.int pC), .val (.int pD), .val (.int pE), .val (.ref b1), .val (.ref b15), .val (.ref b26), .val .null, .unset, .unset] [(.int (4 : Int32))]))
    obtain ⟨T78, h78, k78, X78, e78, E78, A78, Ex78, st78⟩ := newPE X37 hx hZ (hw _ (List.mem_of_getElem? (i := 0) rfl)) e37 (g := (mkF m 102 #[.val (.int pA), .val (.int pB), .val (.int pC), .val (.int pD), .val (.int pE), .val (.ref b1), .val (.ref b15), .val (.ref b26), .val .null, .unset, .unset] [(.int (4 : Int32))])) rfl (hb hby at_102) rfl (by decide) (cap := 4) (by decide) (by decide) (by decide) (by decide) (ad := "[D") (by decide)
    obtain ⟨b78, g78⟩ : ∃ z, z = h37.size := ⟨_, rfl⟩
    rw [← g78] at A78 Ex78 st78
    have ne_b1_b78 : b1 ≠ b78 := Nat.ne_of_lt (Nat.lt_of_lt_of_le f37_38.lt (Nat.le_of_eq g78.symm))
    have ne_b15_b78 : b15 ≠ b78 := Nat.ne_of_lt (Nat.lt_of_lt_of_le f37_40.lt (Nat.le_of_eq g78.symm))
    have ne_b26_b78 : b26 ≠ b78 := Nat.ne_of_lt (Nat.lt_of_lt_of_le f37_42.lt (Nat.le_of_eq g78.symm))
    have sz_b78 : h0.size ≤ b78 := Nat.le_trans K37.1 (Nat.le_of_eq g78.symm)
    have gn_b78 : n0 ≤ b78 := Nat.le_trans Z0 sz_b78
    have f78_79 := f37_38.ext E78
    have f78_80 := f37_39.ext E78
    have f78_81 := f37_40.ext E78
    have f78_82 := f37_41.ext E78
    have f78_83 := f37_42.ext E78
    have f78_84 := V37.ext E78
    have K78 : Keep h0 h78 [] := (K37).ext E78
    have Zh78 : n0 ≤ h78.size := Nat.le_trans Z0 K78.1
    have V78 : Arv Z h78 b78 k78 .double (4 : Int32) [(.double (0 : UInt64)), (.double (0 : UInt64)), (.double (0 : UInt64)), (.double (0 : UInt64))] (.double (0 : UInt64)) := (Arv.new A78 (by decide)).pad (pad_rep [] (.double (0 : UInt64)) 4)
    refine own_back ?_ st78
    show own_Go p e below PO (T78.setTop (mkF m 104 #[.val (.int pA), .val (.int pB), .val (.int pC), .val (.int pD), .val (.int pE), .val (.ref b1), .val (.ref b15), .val (.ref b26), .val .null, .unset, .unset] [(.ref b78)]))
    refine own_back ?_ (fun t k => XS.dup X78.here hx rfl (hb hby at_104) rfl rfl k)
    show own_Go p e below PO (T78.setTop (mkF m 105 #[.val (.int pA), .val (.int pB), .val (.int pC), .val (.int pD), .val (.int pE), .val (.ref b1), .val (.ref b15), .val (.ref b26), .val .null, .unset, .unset] [(.ref b78), (.ref b78)]))
    refine own_back ?_ (fun t k => XS.iconst X78.here hx rfl (hb hby at_105) k)
    show own_Go p e below PO (T78.setTop (mkF m 106 #[.val (.int pA), .val (.int pB), .val (.int pC), .val (.int pD), .val (.int pE), .val (.ref b1), .val (.ref b15), .val (.ref b26), .val .null, .unset, .unset] [(.int (0 : Int32)), (.ref b78), (.ref b78)]))
    refine own_back ?_ (fun t k => XS.dconst1 X78.here hx rfl (v := (4607182418800017408 : UInt64)) (hb hby at_106) (by decide +kernel) k)
    show own_Go p e below PO (T78.setTop (mkF m 107 #[.val (.int pA), .val (.int pB), .val (.int pC), .val (.int pD), .val (.int pE), .val (.ref b1), .val (.ref b15), .val (.ref b26), .val .null, .unset, .unset] [(.double (4607182418800017408 : UInt64)), (.int (0 : Int32)), (.ref b78), (.ref b78)]))
    obtain ⟨T85, h85, X85, e85, W85, V85, st85⟩ := own_stD X78 hx hZ e78 V78 (j := (0 : Int32)) ⟨by decide, by decide⟩ (i := 0) rfl (by show 0 < 4; decide) (g := (mkF m 107 #[.val (.int pA), .val (.int pB), .val (.int pC), .val (.int pD), .val (.int pE), .val (.ref b1), .val (.ref b15), .val (.ref b26), .val .null, .unset, .unset] [(.double (4607182418800017408 : UInt64)), (.int (0 : Int32)), (.ref b78), (.ref b78)])) rfl rfl (hb hby at_107)
    replace V85 : Arv Z h85 b78 k78 .double (4 : Int32) [(.double (4607182418800017408 : UInt64)), (.double (0 : UInt64)), (.double (0 : UInt64)), (.double (0 : UInt64))] (.double (0 : UInt64)) := V85
    have f85_86 := f78_79.wr W85
    have f85_87 := f78_80.other W85 ne_b1_b78
    have f85_88 := f78_81.wr W85
    have f85_89 := f78_82.other W85 ne_b15_b78
    have f85_90 := f78_83.wr W85
    have f85_91 := f78_84.other W85 ne_b26_b78
    have f85_92 := Ex78.wr W85
    have K85 : Keep h0 h85 [] := (K78).wr W85 (Or.inr sz_b78)
    have N85 := Fr.snoc X85 N37 gn_b78
    have Zh85 : n0 ≤ h85.size := Nat.le_trans Z0 K85.1
    refine own_back ?_ st85
    show own_Go p e below PO (T85.setTop (mkF m 108 #[.val (.int pA), .val (.int pB), .val (.int pC), .val (.int pD), .val (.int pE), .val (.ref b1), .val (.ref b15), .val (.ref b26), .val .null, .unset, .unset] [(.ref b78)]))
    refine own_back ?_ (fun t k => XS.dup X85.here hx rfl (hb hby at_108) rfl rfl k)
    show own_Go p e below PO (T85.setTop (mkF m 109 #[.val (.int pA), .val (.int pB), .val (.int pC), .val (.int pD), .val (.int pE), .val (.ref b1), .val (.ref b15), .val (.ref b26), .val .null, .unset, .unset] [(.ref b78), (.ref b78)]))
    refine own_back ?_ (fun t k => XS.iconst X85.here hx rfl (hb hby at_109) k)
    show own_Go p e below PO (T85.setTop (mkF m 110 #[.val (.int pA), .val (.int pB), .val (.int pC), .val (.int pD), .val (.int pE), .val (.ref b1), .val (.ref b15), .val (.ref b26), .val .null, .unset, .unset] [(.int (1 : Int32)), (.ref b78), (.ref b78)]))
    refine own_back ?_ (fun t k => X85.ldc2DoubleC hx hown (mvT hZ (hw _ (List.mem_of_getElem? (i := 62) rfl))) (g := (mkF m 110 #[.val (.int pA), .val (.int pB), .val (.int pC), .val (.int pD), .val (.int pE), .val (.ref b1), .val (.ref b15), .val (.ref b26), .val .null, .unset, .unset] [(.int (1 : Int32)), (.ref b78), (.ref b78)])) rfl (hb hby at_110) _ k)
    show own_Go p e below PO (T85.setTop (mkF m 113 #[.val (.int pA), .val (.int pB), .val (.int pC), .val (.int pD), .val (.int pE), .val (.ref b1), .val (.ref b15), .val (.ref b26), .val .null, .unset, .unset] [(.double (4611686018427387904 : UInt64)), (.int (1 : Int32)), (.ref b78), (.ref b78)]))
    obtain ⟨T93, h93, X93, e93, W93, V93, st93⟩ := own_stD X85 hx hZ e85 V85 (j := (1 : Int32)) ⟨by decide, by decide⟩ (i := 1) rfl (by show 1 < 4; decide) (g := (mkF m 113 #[.val (.int pA), .val (.int pB), .val (.int pC), .val (.int pD), .val (.int pE), .val (.ref b1), .val (.ref b15), .val (.ref b26), .val .null, .unset, .unset] [(.double (4611686018427387904 : UInt64)), (.int (1 : Int32)), (.ref b78), (.ref b78)])) rfl rfl (hb hby at_113)
    replace V93 : Arv Z h93 b78 k78 .double (4 : Int32) [(.double (4607182418800017408 : UInt64)), (.double (4611686018427387904 : UInt64)), (.double (0 : UInt64)), (.double (0 : UInt64))] (.double (0 : UInt64)) := V93
    have f93_94 := f85_86.wr W93
    have f93_95 := f85_87.other W93 ne_b1_b78
    have f93_96 := f85_88.wr W93
    have f93_97 := f85_89.other W93 ne_b15_b78
    have f93_98 := f85_90.wr W93
    have f93_99 := f85_91.other W93 ne_b26_b78
    have f93_100 := f85_92.wr W93
    have K93 : Keep h0 h93 [] := (K85).wr W93 (Or.inr sz_b78)
    have N93 := Fr.snoc X93 N85 gn_b78
    have Zh93 : n0 ≤ h93.size := Nat.le_trans Z0 K93.1
    refine own_back ?_ st93
    show own_Go p e below PO (T93.setTop (mkF m 114 #[.val (.int pA), .val (.int pB), .val (.int pC), .val (.int pD), .val (.int pE), .val (.ref b1), .val (.ref b15), .val (.ref b26), .val .null, .unset, .unset] [(.ref b78)]))
    refine own_back ?_ (fun t k => XS.dup X93.here hx rfl (hb hby at_114) rfl rfl k)
    show own_Go p e below PO (T93.setTop (mkF m 115 #[.val (.int pA), .val (.int pB), .val (.int pC), .val (.int pD), .val (.int pE), .val (.ref b1), .val (.ref b15), .val (.ref b26), .val .null, .unset, .unset] [(.ref b78), (.ref b78)]))
    refine own_back ?_ (fun t k => XS.iconst X93.here hx rfl (hb hby at_115) k)
    show own_Go p e below PO (T93.setTop (mkF m 116 #[.val (.int pA), .val (.int pB), .val (.int pC), .val (.int pD), .val (.int pE), .val (.ref b1), .val (.ref b15), .val (.ref b26), .val .null, .unset, .unset] [(.int (2 : Int32)), (.ref b78), (.ref b78)]))
    refine own_back ?_ (fun t k => XS.dconst0 X93.here hx rfl (v := (0 : UInt64)) (hb hby at_116) (by decide +kernel) k)
    show own_Go p e below PO (T93.setTop (mkF m 117 #[.val (.int pA), .val (.int pB), .val (.int pC), .val (.int pD), .val (.int pE), .val (.ref b1), .val (.ref b15), .val (.ref b26), .val .null, .unset, .unset] [(.double (0 : UInt64)), (.int (2 : Int32)), (.ref b78), (.ref b78)]))
    obtain ⟨T101, h101, X101, e101, W101, V101, st101⟩ := own_stD X93 hx hZ e93 V93 (j := (2 : Int32)) ⟨by decide, by decide⟩ (i := 2) rfl (by show 2 < 4; decide) (g := (mkF m 117 #[.val (.int pA), .val (.int pB), .val (.int pC), .val (.int pD), .val (.int pE), .val (.ref b1), .val (.ref b15), .val (.ref b26), .val .null, .unset, .unset] [(.double (0 : UInt64)), (.int (2 : Int32)), (.ref b78), (.ref b78)])) rfl rfl (hb hby at_117)
    replace V101 : Arv Z h101 b78 k78 .double (4 : Int32) [(.double (4607182418800017408 : UInt64)), (.double (4611686018427387904 : UInt64)), (.double (0 : UInt64)), (.double (0 : UInt64))] (.double (0 : UInt64)) := V101
    have f101_102 := f93_94.wr W101
    have f101_103 := f93_95.other W101 ne_b1_b78
    have f101_104 := f93_96.wr W101
    have f101_105 := f93_97.other W101 ne_b15_b78
    have f101_106 := f93_98.wr W101
    have f101_107 := f93_99.other W101 ne_b26_b78
    have f101_108 := f93_100.wr W101
    have K101 : Keep h0 h101 [] := (K93).wr W101 (Or.inr sz_b78)
    have N101 := Fr.snoc X101 N93 gn_b78
    have Zh101 : n0 ≤ h101.size := Nat.le_trans Z0 K101.1
    refine own_back ?_ st101
    show own_Go p e below PO (T101.setTop (mkF m 118 #[.val (.int pA), .val (.int pB), .val (.int pC), .val (.int pD), .val (.int pE), .val (.ref b1), .val (.ref b15), .val (.ref b26), .val .null, .unset, .unset] [(.ref b78)]))
    refine own_back ?_ (fun t k => XS.dup X101.here hx rfl (hb hby at_118) rfl rfl k)
    show own_Go p e below PO (T101.setTop (mkF m 119 #[.val (.int pA), .val (.int pB), .val (.int pC), .val (.int pD), .val (.int pE), .val (.ref b1), .val (.ref b15), .val (.ref b26), .val .null, .unset, .unset] [(.ref b78), (.ref b78)]))
    refine own_back ?_ (fun t k => XS.iconst X101.here hx rfl (hb hby at_119) k)
    show own_Go p e below PO (T101.setTop (mkF m 120 #[.val (.int pA), .val (.int pB), .val (.int pC), .val (.int pD), .val (.int pE), .val (.ref b1), .val (.ref b15), .val (.ref b26), .val .null, .unset, .unset] [(.int (3 : Int32)), (.ref b78), (.ref b78)]))
    refine own_back ?_ (fun t k => X101.ldc2DoubleC hx hown (mvT hZ (hw _ (List.mem_of_getElem? (i := 63) rfl))) (g := (mkF m 120 #[.val (.int pA), .val (.int pB), .val (.int pC), .val (.int pD), .val (.int pE), .val (.ref b1), .val (.ref b15), .val (.ref b26), .val .null, .unset, .unset] [(.int (3 : Int32)), (.ref b78), (.ref b78)])) rfl (hb hby at_120) _ k)
    show own_Go p e below PO (T101.setTop (mkF m 123 #[.val (.int pA), .val (.int pB), .val (.int pC), .val (.int pD), .val (.int pE), .val (.ref b1), .val (.ref b15), .val (.ref b26), .val .null, .unset, .unset] [(.double (4613937818241073152 : UInt64)), (.int (3 : Int32)), (.ref b78), (.ref b78)]))
    obtain ⟨T109, h109, X109, e109, W109, V109, st109⟩ := own_stD X101 hx hZ e101 V101 (j := (3 : Int32)) ⟨by decide, by decide⟩ (i := 3) rfl (by show 3 < 4; decide) (g := (mkF m 123 #[.val (.int pA), .val (.int pB), .val (.int pC), .val (.int pD), .val (.int pE), .val (.ref b1), .val (.ref b15), .val (.ref b26), .val .null, .unset, .unset] [(.double (4613937818241073152 : UInt64)), (.int (3 : Int32)), (.ref b78), (.ref b78)])) rfl rfl (hb hby at_123)
    replace V109 : Arv Z h109 b78 k78 .double (4 : Int32) [(.double (4607182418800017408 : UInt64)), (.double (4611686018427387904 : UInt64)), (.double (0 : UInt64)), (.double (4613937818241073152 : UInt64))] (.double (0 : UInt64)) := V109
    have f109_110 := f101_102.wr W109
    have f109_111 := f101_103.other W109 ne_b1_b78
    have f109_112 := f101_104.wr W109
    have f109_113 := f101_105.other W109 ne_b15_b78
    have f109_114 := f101_106.wr W109
    have f109_115 := f101_107.other W109 ne_b26_b78
    have f109_116 := f101_108.wr W109
    have K109 : Keep h0 h109 [] := (K101).wr W109 (Or.inr sz_b78)
    have N109 := Fr.snoc X109 N101 gn_b78
    have Zh109 : n0 ≤ h109.size := Nat.le_trans Z0 K109.1
    refine own_back ?_ st109
    show own_Go p e below PO (T109.setTop (mkF m 124 #[.val (.int pA), .val (.int pB), .val (.int pC), .val (.int pD), .val (.int pE), .val (.ref b1), .val (.ref b15), .val (.ref b26), .val .null, .unset, .unset] [(.ref b78)]))
    refine own_back ?_ (fun t k => XS.astore X109.here hx rfl (hb hby at_124) rfl rfl (l' := #[.val (.int pA), .val (.int pB), .val (.int pC), .val (.int pD), .val (.int pE), .val (.ref b1), .val (.ref b15), .val (.ref b26), .val (.ref b78), .unset, .unset]) rfl k)
    show own_Go p e below PO (T109.setTop (mkF m 126 #[.val (.int pA), .val (.int pB), .val (.int pC), .val (.int pD), .val (.int pE), .val (.ref b1), .val (.ref b15), .val (.ref b26), .val (.ref b78), .unset, .unset] []))
    obtain ⟨T117, h117, X117, e117, E117, A117, D117, -, st117⟩ := newO X109 hx hZ hown (hw _ (List.mem_of_getElem? (i := 7) rfl)) (hw _ (List.mem_of_getElem? (i := 8) rfl)) (hw _ (List.mem_of_getElem? (i := 9) rfl)) e109 (g := (mkF m 126 #[.val (.int pA), .val (.int pB), .val (.int pC), .val (.int pD), .val (.int pE), .val (.ref b1), .val (.ref b15), .val (.ref b26), .val (.ref b78), .unset, .unset] [])) rfl (hb hby at_126) (by decide) (by decide)
    obtain ⟨b117, g117⟩ : ∃ z, z = h109.size := ⟨_, rfl⟩
    rw [← g117] at A117 D117 st117
    have ne_b1_b117 : b1 ≠ b117 := Nat.ne_of_lt (Nat.lt_of_lt_of_le f109_110.lt (Nat.le_of_eq g117.symm))
    have ne_b15_b117 : b15 ≠ b117 := Nat.ne_of_lt (Nat.lt_of_lt_of_le f109_112.lt (Nat.le_of_eq g117.symm))
    have ne_b26_b117 : b26 ≠ b117 := Nat.ne_of_lt (Nat.lt_of_lt_of_le f109_114.lt (Nat.le_of_eq g117.symm))
    have ne_b78_b117 : b78 ≠ b117 := Nat.ne_of_lt (Nat.lt_of_lt_of_le f109_116.lt (Nat.le_of_eq g117.symm))
    have sz_b117 : h0.size ≤ b117 := Nat.le_trans K109.1 (Nat.le_of_eq g117.symm)
    have gn_b117 : n0 ≤ b117 := Nat.le_trans Z0 sz_b117
    have f117_118 := f109_110.ext E117
    have f117_119 := f109_111.ext E117
    have f117_120 := f109_112.ext E117
    have f117_121 := f109_113.ext E117
    have f117_122 := f109_114.ext E117
    have f117_123 := f109_115.ext E117
    have f117_124 := f109_116.ext E117
    have f117_125 := V109.ext E117
    have K117 : Keep h0 h117 [] := (K109).ext E117
    have Zh117 : n0 ≤ h117.size := Nat.le_trans Z0 K117.1
    have F117_scope : Fld Z h117 b117 "com/example/nearbound/nearbound/dcop/Constraint" "scope" "[I" .null := D117 (Or.inr (hw _ (List.mem_of_getElem? (i := 26) rfl))) (ty := (.array .int)) (by decide)
    have F117_sizes : Fld Z h117 b117 "com/example/nearbound/nearbound/dcop/Constraint" "sizes" "[I" .null := D117 (Or.inr (hw _ (List.mem_of_getElem? (i := 28) rfl))) (ty := (.array .int)) (by decide)
    have F117_strides : Fld Z h117 b117 "com/example/nearbound/nearbound/dcop/Constraint" "strides" "[I" .null := D117 (Or.inr (hw _ (List.mem_of_getElem? (i := 30) rfl))) (ty := (.array .int)) (by decide)
    have F117_rewards : Fld Z h117 b117 "com/example/nearbound/nearbound/dcop/Constraint" "rewards" "[D" .null := D117 (Or.inr (hw _ (List.mem_of_getElem? (i := 53) rfl))) (ty := (.array .double)) (by decide)
    have F117_costs : Fld Z h117 b117 "com/example/nearbound/nearbound/dcop/Constraint" "costs" "[D" .null := D117 (Or.inr (hw _ (List.mem_of_getElem? (i := 55) rfl))) (ty := (.array .double)) (by decide)
    refine own_back ?_ st117
    show own_Go p e below PO (T117.setTop (mkF m 129 #[.val (.int pA), .val (.int pB), .val (.int pC), .val (.int pD), .val (.int pE), .val (.ref b1), .val (.ref b15), .val (.ref b26), .val (.ref b78), .unset, .unset] [(.ref b117)]))
    refine own_back ?_ (fun t k => XS.dup X117.here hx rfl (hb hby at_129) rfl rfl k)
    show own_Go p e below PO (T117.setTop (mkF m 130 #[.val (.int pA), .val (.int pB), .val (.int pC), .val (.int pD), .val (.int pE), .val (.ref b1), .val (.ref b15), .val (.ref b26), .val (.ref b78), .unset, .unset] [(.ref b117), (.ref b117)]))
    refine own_back ?_ (fun t k => XS.aload X117.here hx rfl (hb hby at_130) rfl rfl k)
    show own_Go p e below PO (T117.setTop (mkF m 132 #[.val (.int pA), .val (.int pB), .val (.int pC), .val (.int pD), .val (.int pE), .val (.ref b1), .val (.ref b15), .val (.ref b26), .val (.ref b78), .unset, .unset] [(.ref b15), (.ref b117), (.ref b117)]))
    refine own_back ?_ (fun t k => XS.aload X117.here hx rfl (hb hby at_132) rfl rfl k)
    show own_Go p e below PO (T117.setTop (mkF m 134 #[.val (.int pA), .val (.int pB), .val (.int pC), .val (.int pD), .val (.int pE), .val (.ref b1), .val (.ref b15), .val (.ref b26), .val (.ref b78), .unset, .unset] [(.ref b26), (.ref b15), (.ref b117), (.ref b117)]))
    refine own_back ?_ (fun t k => XS.aload X117.here hx rfl (hb hby at_134) rfl rfl k)
    show own_Go p e below PO (T117.setTop (mkF m 136 #[.val (.int pA), .val (.int pB), .val (.int pC), .val (.int pD), .val (.int pE), .val (.ref b1), .val (.ref b15), .val (.ref b26), .val (.ref b78), .unset, .unset] [(.ref b1), (.ref b26), (.ref b15), (.ref b117), (.ref b117)]))
    refine own_back ?_ (fun t k => XS.aload X117.here hx rfl (hb hby at_136) rfl rfl k)
    show own_Go p e below PO (T117.setTop (mkF m 138 #[.val (.int pA), .val (.int pB), .val (.int pC), .val (.int pD), .val (.int pE), .val (.ref b1), .val (.ref b15), .val (.ref b26), .val (.ref b78), .unset, .unset] [(.ref b78), (.ref b1), (.ref b26), (.ref b15), (.ref b117), (.ref b117)]))
    obtain ⟨_, _, ⟨T126, L126, k126, n126⟩, -, X126, hSn126, hgr126, ⟨Lc126, hQ126, l126, y126, z126⟩, st126⟩ := X117.specialBackS hx (y := (⟨"com/example/nearbound/nearbound/dcop/Constraint", "<init>", "([I[I[D[D)V"⟩ : MethodName)) rfl hown (mvT hZ (hw _ (List.mem_of_getElem? (i := 10) rfl))) (mvT hZ (hw _ (List.mem_of_getElem? (i := 11) rfl))) (mvT hZ (hw _ (List.mem_of_getElem? (i := 12) rfl))) (by decide) (backOfS (W := 1) (rmI_c l Z a0 hw [] b117 b15 b26 b1 b78 k15 k26 k1 k78 (own_entry pA) (own_entry pB) (own_entry pC) (own_entry pD) h117 n0 Zh117 A117 F117_scope F117_sizes F117_strides F117_rewards F117_costs f117_120 f117_121 ne_b15_b117 f117_122 f117_123 ne_b26_b117 f117_118 f117_119 ne_b1_b117 f117_124 f117_125 ne_b78_b117 gn_b117) hZ (hw _ (List.mem_of_getElem? (i := 12) rfl)) (hw _ (List.mem_of_getElem? (i := 9) rfl)) (by decide) (by decide)) (g := (mkF m 138 #[.val (.int pA), .val (.int pB), .val (.int pC), .val (.int pD), .val (.int pE), .val (.ref b1), .val (.ref b15), .val (.ref b26), .val (.ref b78), .unset, .unset] [(.ref b78), (.ref b1), (.ref b26), (.ref b15), (.ref b117), (.ref b117)])) rfl (by rw [hml]; rfl) (Steps.refl _) (a := b117) (argsL := [(.ref b15), (.ref b26), (.ref b1), (.ref b78)]) (rest := [(.ref b117)]) (lenOf pd_3 rfl) rfl (by show 2 * 0 + _ ≤ _; exact Nat.le_of_eq rfl) (hb hby at_138) (fun _ _ => ⟨rfl, e117, (by decide : 5 + 9 ≤ _), (by decide : 17 + 70 ≤ _)⟩)
    dsimp only [Pt.U, Pt.locs, Pt.cells, Pt.slots] at X126 l126 y126 z126 st126 hQ126
    subst l126 y126 z126
    replace X126 : Stand p l e room_1 (s.setVm T126.vm) m #[(.int pA), (.int pB), (.int pC), (.int pD), (.int pE)] below meth c T126 _ _ _ := X126
    have hS126 : s.Since T126.vm T126.heap.size := foldS (s := s) (vm0 := s.vm) (T := T117) hS0 (by rw [e117]; exact (Nat.zero_le _)) hSn126 hgr126
    have hZ : Z.Warmed39 (s.setVm T126.vm).vm := State.Warmed39.trans (t := s.setVm s.vm) hZ hSn126.1
    have hown : (s.setVm T126.vm).vm.findClass "com/example/nearbound/nearbound/dcop/ConstraintIsHardPinLaw" = some m.cls := by rw [show (s.setVm T126.vm).vm = T126.vm from rfl, hSn126.1.alike.findClass]; exact hown
    obtain ⟨rfl, N126q, Kc126, aN, szN, FS, VN⟩ := hQ126
    have N126 := Fr.app N109 N126q
    have ne_b1_aN : b1 ≠ aN := Nat.ne_of_lt (Nat.lt_of_lt_of_le f117_118.lt szN)
    have ne_b117_aN : b117 ≠ aN := Nat.ne_of_lt (Nat.lt_of_lt_of_le A117.lt szN)
    have ne_b15_aN : b15 ≠ aN := Nat.ne_of_lt (Nat.lt_of_lt_of_le f117_120.lt szN)
    have ne_b26_aN : b26 ≠ aN := Nat.ne_of_lt (Nat.lt_of_lt_of_le f117_122.lt szN)
    have ne_b78_aN : b78 ≠ aN := Nat.ne_of_lt (Nat.lt_of_lt_of_le f117_124.lt szN)
    have sz_aN : h0.size ≤ aN := Nat.le_trans K117.1 szN
    have gn_aN : n0 ≤ aN := Nat.le_trans Z0 sz_aN
    have f126_127 := f117_118.keep Kc126
    have f126_128 := f117_119.keep Kc126 (ninS ne_b1_b117 nin0)
    have f126_129 := f117_120.keep Kc126
    have f126_130 := f117_121.keep Kc126 (ninS ne_b15_b117 nin0)
    have f126_131 := f117_122.keep Kc126
    have f126_132 := f117_123.keep Kc126 (ninS ne_b26_b117 nin0)
    have f126_133 := f117_124.keep Kc126
    have f126_134 := f117_125.keep Kc126 (ninS ne_b78_b117 nin0)
    have f126_135 := A117.keep Kc126
    have K126 : Keep h0 T126.heap [] := (K117).trans Kc126 (allS (Or.inr sz_b117) all0)
    have Zh126 : n0 ≤ T126.heap.size := Nat.le_trans Z0 K126.1
    refine own_back ?_ (fun t k => st126.trans k)
    show own_Go p e below PO (T126.setTop (mkF m 141 #[.val (.int pA), .val (.int pB), .val (.int pC), .val (.int pD), .val (.int pE), .val (.ref b1), .val (.ref b15), .val (.ref b26), .val (.ref b78), .unset, .unset] [(.ref b117)]))
    refine own_back ?_ (fun t k => XS.astore X126.here hx rfl (hb hby at_141) rfl rfl (l' := #[.val (.int pA), .val (.int pB), .val (.int pC), .val (.int pD), .val (.int pE), .val (.ref b1), .val (.ref b15), .val (.ref b26), .val (.ref b78), .val (.ref b117), .unset]) rfl k)
    show own_Go p e below PO (T126.setTop (mkF m 143 #[.val (.int pA), .val (.int pB), .val (.int pC), .val (.int pD), .val (.int pE), .val (.ref b1), .val (.ref b15), .val (.ref b26), .val (.ref b78), .val (.ref b117), .unset] []))
    refine own_back ?_ (fun t k => XS.iloadN X126.here hx rfl (hb hby at_143) rfl k)
    show own_Go p e below PO (T126.setTop (mkF m 144 #[.val (.int pA), .val (.int pB), .val (.int pC), .val (.int pD), .val (.int pE), .val (.ref b1), .val (.ref b15), .val (.ref b26), .val (.ref b78), .val (.ref b117), .unset] [(.int pA)]))
    refine own_back ?_ (fun t k => XS.iconst X126.here hx rfl (hb hby at_144) k)
    show own_Go p e below PO (T126.setTop (mkF m 145 #[.val (.int pA), .val (.int pB), .val (.int pC), .val (.int pD), .val (.int pE), .val (.ref b1), .val (.ref b15), .val (.ref b26), .val (.ref b78), .val (.ref b117), .unset] [(.int (3 : Int32)), (.int pA)]))
    refine own_back ?_ (fun t k => XS.iand X126.here hx rfl (hb hby at_145) rfl k)
    show own_Go p e below PO (T126.setTop (mkF m 146 #[.val (.int pA), .val (.int pB), .val (.int pC), .val (.int pD), .val (.int pE), .val (.ref b1), .val (.ref b15), .val (.ref b26), .val (.ref b78), .val (.ref b117), .unset] [(.int (pA &&& (3 : Int32)))]))
    by_cases hc146_136 : (pA &&& (3 : Int32)) = (0 : Int32)
    case pos =>
      refine own_back ?_ (fun t k => XS.ifYes X126.here hx rfl (pc0 := 146) (pc' := 167) rfl (hb hby at_146) rfl ((if0 _ _).trans (teq hc146_136).1) (by decide) (by decide) k)
      show own_Go p e below PO (T126.setTop (mkF m 167 #[.val (.int pA), .val (.int pB), .val (.int pC), .val (.int pD), .val (.int pE), .val (.ref b1), .val (.ref b15), .val (.ref b26), .val (.ref b78), .val (.ref b117), .unset] []))
      refine own_back ?_ (fun t k => XS.iconst X126.here hx rfl (hb hby at_167) k)
      show own_Go p e below PO (T126.setTop (mkF m 168 #[.val (.int pA), .val (.int pB), .val (.int pC), .val (.int pD), .val (.int pE), .val (.ref b1), .val (.ref b15), .val (.ref b26), .val (.ref b78), .val (.ref b117), .unset] [(.int (1 : Int32))]))
      refine own_back ?_ (fun t k => XS.goto X126.here hx rfl (pc0 := 168) (pc' := 172) rfl (hb hby at_168) (by decide) (by decide) k)
      show own_Go p e below PO (T126.setTop (mkF m 172 #[.val (.int pA), .val (.int pB), .val (.int pC), .val (.int pD), .val (.int pE), .val (.ref b1), .val (.ref b15), .val (.ref b26), .val (.ref b78), .val (.ref b117), .unset] [(.int (1 : Int32))]))
      refine own_back ?_ (fun t k => XS.istore X126.here hx rfl (hb hby at_172) rfl (l' := #[.val (.int pA), .val (.int pB), .val (.int pC), .val (.int pD), .val (.int pE), .val (.ref b1), .val (.ref b15), .val (.ref b26), .val (.ref b78), .val (.ref b117), .val (.int (1 : Int32))]) rfl k)
      show own_Go p e below PO (T126.setTop (mkF m 174 #[.val (.int pA), .val (.int pB), .val (.int pC), .val (.int pD), .val (.int pE), .val (.ref b1), .val (.ref b15), .val (.ref b26), .val (.ref b78), .val (.ref b117), .val (.int (1 : Int32))] []))
      refine own_back ?_ (fun t k => XS.aload X126.here hx rfl (hb hby at_174) rfl rfl k)
      show own_Go p e below PO (T126.setTop (mkF m 176 #[.val (.int pA), .val (.int pB), .val (.int pC), .val (.int pD), .val (.int pE), .val (.ref b1), .val (.ref b15), .val (.ref b26), .val (.ref b78), .val (.ref b117), .val (.int (1 : Int32))] [(.ref b117)]))
      obtain ⟨cq137, kq137, q137a, q137b, q137c⟩ := isOf hZ rfl f126_135
      obtain ⟨_, _, ⟨T137, L137, k137, n137⟩, -, X137, ⟨Lc137, hQ137, l137, y137, z137⟩, st137⟩ := X126.virtualBack hx (y := (⟨"com/example/nearbound/nearbound/dcop/Constraint", "isHard", "()Z"⟩ : MethodName)) (z := (⟨"com/example/nearbound/nearbound/dcop/Constraint", "isHard", "()Z"⟩ : MethodName)) hown (mvT hZ (hw _ (List.mem_of_getElem? (i := 56) rfl))) (mvT hZ (hw _ (List.mem_of_getElem? (i := 57) rfl))) (notFace_of_selects (args := #[]) (mvT hZ (hw _ (List.mem_of_getElem? (i := 59) rfl)))) (mvT hZ (hw _ (List.mem_of_getElem? (i := 59) rfl))) (mvT hZ (hw _ (List.mem_of_getElem? (i := 58) rfl))) (by decide) (backOf (W := 0) (rmH l Z a0 hw [] b117 aN k1 (own_entry pA) (own_entry pB) (own_entry pC) (own_entry pD) T126.heap n0 Zh126 FS VN) hZ (hw _ (List.mem_of_getElem? (i := 60) rfl)) (hw _ (List.mem_of_getElem? (i := 9) rfl)) (by decide) (by decide)) q137a q137c (g := (mkF m 176 #[.val (.int pA), .val (.int pB), .val (.int pC), .val (.int pD), .val (.int pE), .val (.ref b1), .val (.ref b15), .val (.ref b26), .val (.ref b78), .val (.ref b117), .val (.int (1 : Int32))] [(.ref b117)])) rfl (by rw [hml]; rfl) (Steps.refl _) (argsL := []) (rest := []) (lenOf pd_4 rfl) rfl (by show 2 * 0 + _ ≤ _; exact Nat.le_of_eq rfl) (hb hby at_176) (fun _ _ => ⟨rfl, rfl, (by decide : 14 + 0 ≤ _), (by decide : 87 + 0 ≤ _)⟩)
      dsimp only [Pt.U, Pt.locs, Pt.cells, Pt.slots] at X137 l137 y137 z137 st137 hQ137
      subst l137 y137 z137
      obtain ⟨rfl, N137q, e137⟩ := hQ137
      have N137 := Fr.app N126 N137q
      refine own_back ?_ (fun t k => st137.trans k)
      show own_Go p e below PO (T137.setTop (mkF m 179 #[.val (.int pA), .val (.int pB), .val (.int pC), .val (.int pD), .val (.int pE), .val (.ref b1), .val (.ref b15), .val (.ref b26), .val (.ref b78), .val (.ref b117), .val (.int (1 : Int32))] [(.int (own_hard (own_entry pA) (own_entry pB) (own_entry pC) (own_entry pD)))]))
      refine own_gen (A := Int32) (own_hard (own_entry pA) (own_entry pB) (own_entry pC) (own_entry pD)) (fun r176_138 => own_Go p e below PO (T137.setTop (mkF m 179 #[.val (.int pA), .val (.int pB), .val (.int pC), .val (.int pD), .val (.int pE), .val (.ref b1), .val (.ref b15), .val (.ref b26), .val (.ref b78), .val (.ref b117), .val (.int (1 : Int32))] [(.int r176_138)]))) ?_
      intro r176_138 h_r176_138
      show own_Go p e below PO (T137.setTop (mkF m 179 #[.val (.int pA), .val (.int pB), .val (.int pC), .val (.int pD), .val (.int pE), .val (.ref b1), .val (.ref b15), .val (.ref b26), .val (.ref b78), .val (.ref b117), .val (.int (1 : Int32))] [(.int r176_138)]))
      refine own_back ?_ (fun t k => XS.iload X137.here hx rfl (hb hby at_179) rfl k)
      show own_Go p e below PO (T137.setTop (mkF m 181 #[.val (.int pA), .val (.int pB), .val (.int pC), .val (.int pD), .val (.int pE), .val (.ref b1), .val (.ref b15), .val (.ref b26), .val (.ref b78), .val (.ref b117), .val (.int (1 : Int32))] [(.int (1 : Int32)), (.int r176_138)]))
      have hd181_139 : r176_138 = (1 : Int32) := by rw [h_r176_138]; simp [own_hard, own_ent0 hc146_136]
      refine own_back ?_ (fun t k => XS.icmpNo X137.here hx rfl (hb hby at_181) rfl (teq hd181_139).2 k)
      show own_Go p e below PO (T137.setTop (mkF m 184 #[.val (.int pA), .val (.int pB), .val (.int pC), .val (.int pD), .val (.int pE), .val (.ref b1), .val (.ref b15), .val (.ref b26), .val (.ref b78), .val (.ref b117), .val (.int (1 : Int32))] []))
      refine own_back ?_ (fun t k => XS.iconst X137.here hx rfl (hb hby at_184) k)
      show own_Go p e below PO (T137.setTop (mkF m 185 #[.val (.int pA), .val (.int pB), .val (.int pC), .val (.int pD), .val (.int pE), .val (.ref b1), .val (.ref b15), .val (.ref b26), .val (.ref b78), .val (.ref b117), .val (.int (1 : Int32))] [(.int (1 : Int32))]))
      refine own_back ?_ (fun t k => XS.goto X137.here hx rfl (pc0 := 185) (pc' := 189) rfl (hb hby at_185) (by decide) (by decide) k)
      show own_Go p e below PO (T137.setTop (mkF m 189 #[.val (.int pA), .val (.int pB), .val (.int pC), .val (.int pD), .val (.int pE), .val (.ref b1), .val (.ref b15), .val (.ref b26), .val (.ref b78), .val (.ref b117), .val (.int (1 : Int32))] [(.int (1 : Int32))]))
      refine own_retNW X137 hx (t := .boolean) (rest := []) Bd.returns (by decide) (by simp) (hb hby at_189) e137 (Bd.notSynchronized) ?_ (by decide) (by decide) (s := s) (vm0 := T126.vm) hS126 (Nat.le_refl _)
      exact ⟨rfl, N137⟩
    refine own_back ?_ (fun t k => XS.ifNo X126.here hx rfl (hb hby at_146) rfl ((if0 _ _).trans (feq hc146_136).1) k)
    show own_Go p e below PO (T126.setTop (mkF m 149 #[.val (.int pA), .val (.int pB), .val (.int pC), .val (.int pD), .val (.int pE), .val (.ref b1), .val (.ref b15), .val (.ref b26), .val (.ref b78), .val (.ref b117), .unset] []))
    refine own_back ?_ (fun t k => XS.iloadN X126.here hx rfl (hb hby at_149) rfl k)
    show own_Go p e below PO (T126.setTop (mkF m 150 #[.val (.int pA), .val (.int pB), .val (.int pC), .val (.int pD), .val (.int pE), .val (.ref b1), .val (.ref b15), .val (.ref b26), .val (.ref b78), .val (.ref b117), .unset] [(.int pB)]))
    refine own_back ?_ (fun t k => XS.iconst X126.here hx rfl (hb hby at_150) k)
    show own_Go p e below PO (T126.setTop (mkF m 151 #[.val (.int pA), .val (.int pB), .val (.int pC), .val (.int pD), .val (.int pE), .val (.ref b1), .val (.ref b15), .val (.ref b26), .val (.ref b78), .val (.ref b117), .unset] [(.int (3 : Int32)), (.int pB)]))
    refine own_back ?_ (fun t k => XS.iand X126.here hx rfl (hb hby at_151) rfl k)
    show own_Go p e below PO (T126.setTop (mkF m 152 #[.val (.int pA), .val (.int pB), .val (.int pC), .val (.int pD), .val (.int pE), .val (.ref b1), .val (.ref b15), .val (.ref b26), .val (.ref b78), .val (.ref b117), .unset] [(.int (pB &&& (3 : Int32)))]))
    by_cases hc152_140 : (pB &&& (3 : Int32)) = (0 : Int32)
    case pos =>
      refine own_back ?_ (fun t k => XS.ifYes X126.here hx rfl (pc0 := 152) (pc' := 167) rfl (hb hby at_152) rfl ((if0 _ _).trans (teq hc152_140).1) (by decide) (by decide) k)
      show own_Go p e below PO (T126.setTop (mkF m 167 #[.val (.int pA), .val (.int pB), .val (.int pC), .val (.int pD), .val (.int pE), .val (.ref b1), .val (.ref b15), .val (.ref b26), .val (.ref b78), .val (.ref b117), .unset] []))
      refine own_back ?_ (fun t k => XS.iconst X126.here hx rfl (hb hby at_167) k)
      show own_Go p e below PO (T126.setTop (mkF m 168 #[.val (.int pA), .val (.int pB), .val (.int pC), .val (.int pD), .val (.int pE), .val (.ref b1), .val (.ref b15), .val (.ref b26), .val (.ref b78), .val (.ref b117), .unset] [(.int (1 : Int32))]))
      refine own_back ?_ (fun t k => XS.goto X126.here hx rfl (pc0 := 168) (pc' := 172) rfl (hb hby at_168) (by decide) (by decide) k)
      show own_Go p e below PO (T126.setTop (mkF m 172 #[.val (.int pA), .val (.int pB), .val (.int pC), .val (.int pD), .val (.int pE), .val (.ref b1), .val (.ref b15), .val (.ref b26), .val (.ref b78), .val (.ref b117), .unset] [(.int (1 : Int32))]))
      refine own_back ?_ (fun t k => XS.istore X126.here hx rfl (hb hby at_172) rfl (l' := #[.val (.int pA), .val (.int pB), .val (.int pC), .val (.int pD), .val (.int pE), .val (.ref b1), .val (.ref b15), .val (.ref b26), .val (.ref b78), .val (.ref b117), .val (.int (1 : Int32))]) rfl k)
      show own_Go p e below PO (T126.setTop (mkF m 174 #[.val (.int pA), .val (.int pB), .val (.int pC), .val (.int pD), .val (.int pE), .val (.ref b1), .val (.ref b15), .val (.ref b26), .val (.ref b78), .val (.ref b117), .val (.int (1 : Int32))] []))
      refine own_back ?_ (fun t k => XS.aload X126.here hx rfl (hb hby at_174) rfl rfl k)
      show own_Go p e below PO (T126.setTop (mkF m 176 #[.val (.int pA), .val (.int pB), .val (.int pC), .val (.int pD), .val (.int pE), .val (.ref b1), .val (.ref b15), .val (.ref b26), .val (.ref b78), .val (.ref b117), .val (.int (1 : Int32))] [(.ref b117)]))
      obtain ⟨cq141, kq141, q141a, q141b, q141c⟩ := isOf hZ rfl f126_135
      obtain ⟨_, _, ⟨T141, L141, k141, n141⟩, -, X141, ⟨Lc141, hQ141, l141, y141, z141⟩, st141⟩ := X126.virtualBack hx (y := (⟨"com/example/nearbound/nearbound/dcop/Constraint", "isHard", "()Z"⟩ : MethodName)) (z := (⟨"com/example/nearbound/nearbound/dcop/Constraint", "isHard", "()Z"⟩ : MethodName)) hown (mvT hZ (hw _ (List.mem_of_getElem? (i := 56) rfl))) (mvT hZ (hw _ (List.mem_of_getElem? (i := 57) rfl))) (notFace_of_selects (args := #[]) (mvT hZ (hw _ (List.mem_of_getElem? (i := 59) rfl)))) (mvT hZ (hw _ (List.mem_of_getElem? (i := 59) rfl))) (mvT hZ (hw _ (List.mem_of_getElem? (i := 58) rfl))) (by decide) (backOf (W := 0) (rmH l Z a0 hw [] b117 aN k1 (own_entry pA) (own_entry pB) (own_entry pC) (own_entry pD) T126.heap n0 Zh126 FS VN) hZ (hw _ (List.mem_of_getElem? (i := 60) rfl)) (hw _ (List.mem_of_getElem? (i := 9) rfl)) (by decide) (by decide)) q141a q141c (g := (mkF m 176 #[.val (.int pA), .val (.int pB), .val (.int pC), .val (.int pD), .val (.int pE), .val (.ref b1), .val (.ref b15), .val (.ref b26), .val (.ref b78), .val (.ref b117), .val (.int (1 : Int32))] [(.ref b117)])) rfl (by rw [hml]; rfl) (Steps.refl _) (argsL := []) (rest := []) (lenOf pd_4 rfl) rfl (by show 2 * 0 + _ ≤ _; exact Nat.le_of_eq rfl) (hb hby at_176) (fun _ _ => ⟨rfl, rfl, (by decide : 14 + 0 ≤ _), (by decide : 87 + 0 ≤ _)⟩)
      dsimp only [Pt.U, Pt.locs, Pt.cells, Pt.slots] at X141 l141 y141 z141 st141 hQ141
      subst l141 y141 z141
      obtain ⟨rfl, N141q, e141⟩ := hQ141
      have N141 := Fr.app N126 N141q
      refine own_back ?_ (fun t k => st141.trans k)
      show own_Go p e below PO (T141.setTop (mkF m 179 #[.val (.int pA), .val (.int pB), .val (.int pC), .val (.int pD), .val (.int pE), .val (.ref b1), .val (.ref b15), .val (.ref b26), .val (.ref b78), .val (.ref b117), .val (.int (1 : Int32))] [(.int (own_hard (own_entry pA) (own_entry pB) (own_entry pC) (own_entry pD)))]))
      refine own_gen (A := Int32) (own_hard (own_entry pA) (own_entry pB) (own_entry pC) (own_entry pD)) (fun r176_142 => own_Go p e below PO (T141.setTop (mkF m 179 #[.val (.int pA), .val (.int pB), .val (.int pC), .val (.int pD), .val (.int pE), .val (.ref b1), .val (.ref b15), .val (.ref b26), .val (.ref b78), .val (.ref b117), .val (.int (1 : Int32))] [(.int r176_142)]))) ?_
      intro r176_142 h_r176_142
      show own_Go p e below PO (T141.setTop (mkF m 179 #[.val (.int pA), .val (.int pB), .val (.int pC), .val (.int pD), .val (.int pE), .val (.ref b1), .val (.ref b15), .val (.ref b26), .val (.ref b78), .val (.ref b117), .val (.int (1 : Int32))] [(.int r176_142)]))
      refine own_back ?_ (fun t k => XS.iload X141.here hx rfl (hb hby at_179) rfl k)
      show own_Go p e below PO (T141.setTop (mkF m 181 #[.val (.int pA), .val (.int pB), .val (.int pC), .val (.int pD), .val (.int pE), .val (.ref b1), .val (.ref b15), .val (.ref b26), .val (.ref b78), .val (.ref b117), .val (.int (1 : Int32))] [(.int (1 : Int32)), (.int r176_142)]))
      have hd181_143 : r176_142 = (1 : Int32) := by rw [h_r176_142]; simp [own_hard, own_ent1 hc146_136, own_ent0 hc152_140]
      refine own_back ?_ (fun t k => XS.icmpNo X141.here hx rfl (hb hby at_181) rfl (teq hd181_143).2 k)
      show own_Go p e below PO (T141.setTop (mkF m 184 #[.val (.int pA), .val (.int pB), .val (.int pC), .val (.int pD), .val (.int pE), .val (.ref b1), .val (.ref b15), .val (.ref b26), .val (.ref b78), .val (.ref b117), .val (.int (1 : Int32))] []))
      refine own_back ?_ (fun t k => XS.iconst X141.here hx rfl (hb hby at_184) k)
      show own_Go p e below PO (T141.setTop (mkF m 185 #[.val (.int pA), .val (.int pB), .val (.int pC), .val (.int pD), .val (.int pE), .val (.ref b1), .val (.ref b15), .val (.ref b26), .val (.ref b78), .val (.ref b117), .val (.int (1 : Int32))] [(.int (1 : Int32))]))
      refine own_back ?_ (fun t k => XS.goto X141.here hx rfl (pc0 := 185) (pc' := 189) rfl (hb hby at_185) (by decide) (by decide) k)
      show own_Go p e below PO (T141.setTop (mkF m 189 #[.val (.int pA), .val (.int pB), .val (.int pC), .val (.int pD), .val (.int pE), .val (.ref b1), .val (.ref b15), .val (.ref b26), .val (.ref b78), .val (.ref b117), .val (.int (1 : Int32))] [(.int (1 : Int32))]))
      refine own_retNW X141 hx (t := .boolean) (rest := []) Bd.returns (by decide) (by simp) (hb hby at_189) e141 (Bd.notSynchronized) ?_ (by decide) (by decide) (s := s) (vm0 := T126.vm) hS126 (Nat.le_refl _)
      exact ⟨rfl, N141⟩
    refine own_back ?_ (fun t k => XS.ifNo X126.here hx rfl (hb hby at_152) rfl ((if0 _ _).trans (feq hc152_140).1) k)
    show own_Go p e below PO (T126.setTop (mkF m 155 #[.val (.int pA), .val (.int pB), .val (.int pC), .val (.int pD), .val (.int pE), .val (.ref b1), .val (.ref b15), .val (.ref b26), .val (.ref b78), .val (.ref b117), .unset] []))
    refine own_back ?_ (fun t k => XS.iloadN X126.here hx rfl (hb hby at_155) rfl k)
    show own_Go p e below PO (T126.setTop (mkF m 156 #[.val (.int pA), .val (.int pB), .val (.int pC), .val (.int pD), .val (.int pE), .val (.ref b1), .val (.ref b15), .val (.ref b26), .val (.ref b78), .val (.ref b117), .unset] [(.int pC)]))
    refine own_back ?_ (fun t k => XS.iconst X126.here hx rfl (hb hby at_156) k)
    show own_Go p e below PO (T126.setTop (mkF m 157 #[.val (.int pA), .val (.int pB), .val (.int pC), .val (.int pD), .val (.int pE), .val (.ref b1), .val (.ref b15), .val (.ref b26), .val (.ref b78), .val (.ref b117), .unset] [(.int (3 : Int32)), (.int pC)]))
    refine own_back ?_ (fun t k => XS.iand X126.here hx rfl (hb hby at_157) rfl k)
    show own_Go p e below PO (T126.setTop (mkF m 158 #[.val (.int pA), .val (.int pB), .val (.int pC), .val (.int pD), .val (.int pE), .val (.ref b1), .val (.ref b15), .val (.ref b26), .val (.ref b78), .val (.ref b117), .unset] [(.int (pC &&& (3 : Int32)))]))
    by_cases hc158_144 : (pC &&& (3 : Int32)) = (0 : Int32)
    case pos =>
      refine own_back ?_ (fun t k => XS.ifYes X126.here hx rfl (pc0 := 158) (pc' := 167) rfl (hb hby at_158) rfl ((if0 _ _).trans (teq hc158_144).1) (by decide) (by decide) k)
      show own_Go p e below PO (T126.setTop (mkF m 167 #[.val (.int pA), .val (.int pB), .val (.int pC), .val (.int pD), .val (.int pE), .val (.ref b1), .val (.ref b15), .val (.ref b26), .val (.ref b78), .val (.ref b117), .unset] []))
      refine own_back ?_ (fun t k => XS.iconst X126.here hx rfl (hb hby at_167) k)
      show own_Go p e below PO (T126.setTop (mkF m 168 #[.val (.int pA), .val (.int pB), .val (.int pC), .val (.int pD), .val (.int pE), .val (.ref b1), .val (.ref b15), .val (.ref b26), .val (.ref b78), .val (.ref b117), .unset] [(.int (1 : Int32))]))
      refine own_back ?_ (fun t k => XS.goto X126.here hx rfl (pc0 := 168) (pc' := 172) rfl (hb hby at_168) (by decide) (by decide) k)
      show own_Go p e below PO (T126.setTop (mkF m 172 #[.val (.int pA), .val (.int pB), .val (.int pC), .val (.int pD), .val (.int pE), .val (.ref b1), .val (.ref b15), .val (.ref b26), .val (.ref b78), .val (.ref b117), .unset] [(.int (1 : Int32))]))
      refine own_back ?_ (fun t k => XS.istore X126.here hx rfl (hb hby at_172) rfl (l' := #[.val (.int pA), .val (.int pB), .val (.int pC), .val (.int pD), .val (.int pE), .val (.ref b1), .val (.ref b15), .val (.ref b26), .val (.ref b78), .val (.ref b117), .val (.int (1 : Int32))]) rfl k)
      show own_Go p e below PO (T126.setTop (mkF m 174 #[.val (.int pA), .val (.int pB), .val (.int pC), .val (.int pD), .val (.int pE), .val (.ref b1), .val (.ref b15), .val (.ref b26), .val (.ref b78), .val (.ref b117), .val (.int (1 : Int32))] []))
      refine own_back ?_ (fun t k => XS.aload X126.here hx rfl (hb hby at_174) rfl rfl k)
      show own_Go p e below PO (T126.setTop (mkF m 176 #[.val (.int pA), .val (.int pB), .val (.int pC), .val (.int pD), .val (.int pE), .val (.ref b1), .val (.ref b15), .val (.ref b26), .val (.ref b78), .val (.ref b117), .val (.int (1 : Int32))] [(.ref b117)]))
      obtain ⟨cq145, kq145, q145a, q145b, q145c⟩ := isOf hZ rfl f126_135
      obtain ⟨_, _, ⟨T145, L145, k145, n145⟩, -, X145, ⟨Lc145, hQ145, l145, y145, z145⟩, st145⟩ := X126.virtualBack hx (y := (⟨"com/example/nearbound/nearbound/dcop/Constraint", "isHard", "()Z"⟩ : MethodName)) (z := (⟨"com/example/nearbound/nearbound/dcop/Constraint", "isHard", "()Z"⟩ : MethodName)) hown (mvT hZ (hw _ (List.mem_of_getElem? (i := 56) rfl))) (mvT hZ (hw _ (List.mem_of_getElem? (i := 57) rfl))) (notFace_of_selects (args := #[]) (mvT hZ (hw _ (List.mem_of_getElem? (i := 59) rfl)))) (mvT hZ (hw _ (List.mem_of_getElem? (i := 59) rfl))) (mvT hZ (hw _ (List.mem_of_getElem? (i := 58) rfl))) (by decide) (backOf (W := 0) (rmH l Z a0 hw [] b117 aN k1 (own_entry pA) (own_entry pB) (own_entry pC) (own_entry pD) T126.heap n0 Zh126 FS VN) hZ (hw _ (List.mem_of_getElem? (i := 60) rfl)) (hw _ (List.mem_of_getElem? (i := 9) rfl)) (by decide) (by decide)) q145a q145c (g := (mkF m 176 #[.val (.int pA), .val (.int pB), .val (.int pC), .val (.int pD), .val (.int pE), .val (.ref b1), .val (.ref b15), .val (.ref b26), .val (.ref b78), .val (.ref b117), .val (.int (1 : Int32))] [(.ref b117)])) rfl (by rw [hml]; rfl) (Steps.refl _) (argsL := []) (rest := []) (lenOf pd_4 rfl) rfl (by show 2 * 0 + _ ≤ _; exact Nat.le_of_eq rfl) (hb hby at_176) (fun _ _ => ⟨rfl, rfl, (by decide : 14 + 0 ≤ _), (by decide : 87 + 0 ≤ _)⟩)
      dsimp only [Pt.U, Pt.locs, Pt.cells, Pt.slots] at X145 l145 y145 z145 st145 hQ145
      subst l145 y145 z145
      obtain ⟨rfl, N145q, e145⟩ := hQ145
      have N145 := Fr.app N126 N145q
      refine own_back ?_ (fun t k => st145.trans k)
      show own_Go p e below PO (T145.setTop (mkF m 179 #[.val (.int pA), .val (.int pB), .val (.int pC), .val (.int pD), .val (.int pE), .val (.ref b1), .val (.ref b15), .val (.ref b26), .val (.ref b78), .val (.ref b117), .val (.int (1 : Int32))] [(.int (own_hard (own_entry pA) (own_entry pB) (own_entry pC) (own_entry pD)))]))
      refine own_gen (A := Int32) (own_hard (own_entry pA) (own_entry pB) (own_entry pC) (own_entry pD)) (fun r176_146 => own_Go p e below PO (T145.setTop (mkF m 179 #[.val (.int pA), .val (.int pB), .val (.int pC), .val (.int pD), .val (.int pE), .val (.ref b1), .val (.ref b15), .val (.ref b26), .val (.ref b78), .val (.ref b117), .val (.int (1 : Int32))] [(.int r176_146)]))) ?_
      intro r176_146 h_r176_146
      show own_Go p e below PO (T145.setTop (mkF m 179 #[.val (.int pA), .val (.int pB), .val (.int pC), .val (.int pD), .val (.int pE), .val (.ref b1), .val (.ref b15), .val (.ref b26), .val (.ref b78), .val (.ref b117), .val (.int (1 : Int32))] [(.int r176_146)]))
      refine own_back ?_ (fun t k => XS.iload X145.here hx rfl (hb hby at_179) rfl k)
      show own_Go p e below PO (T145.setTop (mkF m 181 #[.val (.int pA), .val (.int pB), .val (.int pC), .val (.int pD), .val (.int pE), .val (.ref b1), .val (.ref b15), .val (.ref b26), .val (.ref b78), .val (.ref b117), .val (.int (1 : Int32))] [(.int (1 : Int32)), (.int r176_146)]))
      have hd181_147 : r176_146 = (1 : Int32) := by rw [h_r176_146]; simp [own_hard, own_ent1 hc146_136, own_ent1 hc152_140, own_ent0 hc158_144]
      refine own_back ?_ (fun t k => XS.icmpNo X145.here hx rfl (hb hby at_181) rfl (teq hd181_147).2 k)
      show own_Go p e below PO (T145.setTop (mkF m 184 #[.val (.int pA), .val (.int pB), .val (.int pC), .val (.int pD), .val (.int pE), .val (.ref b1), .val (.ref b15), .val (.ref b26), .val (.ref b78), .val (.ref b117), .val (.int (1 : Int32))] []))
      refine own_back ?_ (fun t k => XS.iconst X145.here hx rfl (hb hby at_184) k)
      show own_Go p e below PO (T145.setTop (mkF m 185 #[.val (.int pA), .val (.int pB), .val (.int pC), .val (.int pD), .val (.int pE), .val (.ref b1), .val (.ref b15), .val (.ref b26), .val (.ref b78), .val (.ref b117), .val (.int (1 : Int32))] [(.int (1 : Int32))]))
      refine own_back ?_ (fun t k => XS.goto X145.here hx rfl (pc0 := 185) (pc' := 189) rfl (hb hby at_185) (by decide) (by decide) k)
      show own_Go p e below PO (T145.setTop (mkF m 189 #[.val (.int pA), .val (.int pB), .val (.int pC), .val (.int pD), .val (.int pE), .val (.ref b1), .val (.ref b15), .val (.ref b26), .val (.ref b78), .val (.ref b117), .val (.int (1 : Int32))] [(.int (1 : Int32))]))
      refine own_retNW X145 hx (t := .boolean) (rest := []) Bd.returns (by decide) (by simp) (hb hby at_189) e145 (Bd.notSynchronized) ?_ (by decide) (by decide) (s := s) (vm0 := T126.vm) hS126 (Nat.le_refl _)
      exact ⟨rfl, N145⟩
    refine own_back ?_ (fun t k => XS.ifNo X126.here hx rfl (hb hby at_158) rfl ((if0 _ _).trans (feq hc158_144).1) k)
    show own_Go p e below PO (T126.setTop (mkF m 161 #[.val (.int pA), .val (.int pB), .val (.int pC), .val (.int pD), .val (.int pE), .val (.ref b1), .val (.ref b15), .val (.ref b26), .val (.ref b78), .val (.ref b117), .unset] []))
    refine own_back ?_ (fun t k => XS.iloadN X126.here hx rfl (hb hby at_161) rfl k)
    show own_Go p e below PO (T126.setTop (mkF m 162 #[.val (.int pA), .val (.int pB), .val (.int pC), .val (.int pD), .val (.int pE), .val (.ref b1), .val (.ref b15), .val (.ref b26), .val (.ref b78), .val (.ref b117), .unset] [(.int pD)]))
    refine own_back ?_ (fun t k => XS.iconst X126.here hx rfl (hb hby at_162) k)
    show own_Go p e below PO (T126.setTop (mkF m 163 #[.val (.int pA), .val (.int pB), .val (.int pC), .val (.int pD), .val (.int pE), .val (.ref b1), .val (.ref b15), .val (.ref b26), .val (.ref b78), .val (.ref b117), .unset] [(.int (3 : Int32)), (.int pD)]))
    refine own_back ?_ (fun t k => XS.iand X126.here hx rfl (hb hby at_163) rfl k)
    show own_Go p e below PO (T126.setTop (mkF m 164 #[.val (.int pA), .val (.int pB), .val (.int pC), .val (.int pD), .val (.int pE), .val (.ref b1), .val (.ref b15), .val (.ref b26), .val (.ref b78), .val (.ref b117), .unset] [(.int (pD &&& (3 : Int32)))]))
    by_cases hc164_148 : (pD &&& (3 : Int32)) = (0 : Int32)
    case pos =>
      refine own_back ?_ (fun t k => XS.ifNo X126.here hx rfl (hb hby at_164) rfl ((if0 _ _).trans (teq hc164_148).2) k)
      show own_Go p e below PO (T126.setTop (mkF m 167 #[.val (.int pA), .val (.int pB), .val (.int pC), .val (.int pD), .val (.int pE), .val (.ref b1), .val (.ref b15), .val (.ref b26), .val (.ref b78), .val (.ref b117), .unset] []))
      refine own_back ?_ (fun t k => XS.iconst X126.here hx rfl (hb hby at_167) k)
      show own_Go p e below PO (T126.setTop (mkF m 168 #[.val (.int pA), .val (.int pB), .val (.int pC), .val (.int pD), .val (.int pE), .val (.ref b1), .val (.ref b15), .val (.ref b26), .val (.ref b78), .val (.ref b117), .unset] [(.int (1 : Int32))]))
      refine own_back ?_ (fun t k => XS.goto X126.here hx rfl (pc0 := 168) (pc' := 172) rfl (hb hby at_168) (by decide) (by decide) k)
      show own_Go p e below PO (T126.setTop (mkF m 172 #[.val (.int pA), .val (.int pB), .val (.int pC), .val (.int pD), .val (.int pE), .val (.ref b1), .val (.ref b15), .val (.ref b26), .val (.ref b78), .val (.ref b117), .unset] [(.int (1 : Int32))]))
      refine own_back ?_ (fun t k => XS.istore X126.here hx rfl (hb hby at_172) rfl (l' := #[.val (.int pA), .val (.int pB), .val (.int pC), .val (.int pD), .val (.int pE), .val (.ref b1), .val (.ref b15), .val (.ref b26), .val (.ref b78), .val (.ref b117), .val (.int (1 : Int32))]) rfl k)
      show own_Go p e below PO (T126.setTop (mkF m 174 #[.val (.int pA), .val (.int pB), .val (.int pC), .val (.int pD), .val (.int pE), .val (.ref b1), .val (.ref b15), .val (.ref b26), .val (.ref b78), .val (.ref b117), .val (.int (1 : Int32))] []))
      refine own_back ?_ (fun t k => XS.aload X126.here hx rfl (hb hby at_174) rfl rfl k)
      show own_Go p e below PO (T126.setTop (mkF m 176 #[.val (.int pA), .val (.int pB), .val (.int pC), .val (.int pD), .val (.int pE), .val (.ref b1), .val (.ref b15), .val (.ref b26), .val (.ref b78), .val (.ref b117), .val (.int (1 : Int32))] [(.ref b117)]))
      obtain ⟨cq149, kq149, q149a, q149b, q149c⟩ := isOf hZ rfl f126_135
      obtain ⟨_, _, ⟨T149, L149, k149, n149⟩, -, X149, ⟨Lc149, hQ149, l149, y149, z149⟩, st149⟩ := X126.virtualBack hx (y := (⟨"com/example/nearbound/nearbound/dcop/Constraint", "isHard", "()Z"⟩ : MethodName)) (z := (⟨"com/example/nearbound/nearbound/dcop/Constraint", "isHard", "()Z"⟩ : MethodName)) hown (mvT hZ (hw _ (List.mem_of_getElem? (i := 56) rfl))) (mvT hZ (hw _ (List.mem_of_getElem? (i := 57) rfl))) (notFace_of_selects (args := #[]) (mvT hZ (hw _ (List.mem_of_getElem? (i := 59) rfl)))) (mvT hZ (hw _ (List.mem_of_getElem? (i := 59) rfl))) (mvT hZ (hw _ (List.mem_of_getElem? (i := 58) rfl))) (by decide) (backOf (W := 0) (rmH l Z a0 hw [] b117 aN k1 (own_entry pA) (own_entry pB) (own_entry pC) (own_entry pD) T126.heap n0 Zh126 FS VN) hZ (hw _ (List.mem_of_getElem? (i := 60) rfl)) (hw _ (List.mem_of_getElem? (i := 9) rfl)) (by decide) (by decide)) q149a q149c (g := (mkF m 176 #[.val (.int pA), .val (.int pB), .val (.int pC), .val (.int pD), .val (.int pE), .val (.ref b1), .val (.ref b15), .val (.ref b26), .val (.ref b78), .val (.ref b117), .val (.int (1 : Int32))] [(.ref b117)])) rfl (by rw [hml]; rfl) (Steps.refl _) (argsL := []) (rest := []) (lenOf pd_4 rfl) rfl (by show 2 * 0 + _ ≤ _; exact Nat.le_of_eq rfl) (hb hby at_176) (fun _ _ => ⟨rfl, rfl, (by decide : 14 + 0 ≤ _), (by decide : 87 + 0 ≤ _)⟩)
      dsimp only [Pt.U, Pt.locs, Pt.cells, Pt.slots] at X149 l149 y149 z149 st149 hQ149
      subst l149 y149 z149
      obtain ⟨rfl, N149q, e149⟩ := hQ149
      have N149 := Fr.app N126 N149q
      refine own_back ?_ (fun t k => st149.trans k)
      show own_Go p e below PO (T149.setTop (mkF m 179 #[.val (.int pA), .val (.int pB), .val (.int pC), .val (.int pD), .val (.int pE), .val (.ref b1), .val (.ref b15), .val (.ref b26), .val (.ref b78), .val (.ref b117), .val (.int (1 : Int32))] [(.int (own_hard (own_entry pA) (own_entry pB) (own_entry pC) (own_entry pD)))]))
      refine own_gen (A := Int32) (own_hard (own_entry pA) (own_entry pB) (own_entry pC) (own_entry pD)) (fun r176_150 => own_Go p e below PO (T149.setTop (mkF m 179 #[.val (.int pA), .val (.int pB), .val (.int pC), .val (.int pD), .val (.int pE), .val (.ref b1), .val (.ref b15), .val (.ref b26), .val (.ref b78), .val (.ref b117), .val (.int (1 : Int32))] [(.int r176_150)]))) ?_
      intro r176_150 h_r176_150
      show own_Go p e below PO (T149.setTop (mkF m 179 #[.val (.int pA), .val (.int pB), .val (.int pC), .val (.int pD), .val (.int pE), .val (.ref b1), .val (.ref b15), .val (.ref b26), .val (.ref b78), .val (.ref b117), .val (.int (1 : Int32))] [(.int r176_150)]))
      refine own_back ?_ (fun t k => XS.iload X149.here hx rfl (hb hby at_179) rfl k)
      show own_Go p e below PO (T149.setTop (mkF m 181 #[.val (.int pA), .val (.int pB), .val (.int pC), .val (.int pD), .val (.int pE), .val (.ref b1), .val (.ref b15), .val (.ref b26), .val (.ref b78), .val (.ref b117), .val (.int (1 : Int32))] [(.int (1 : Int32)), (.int r176_150)]))
      have hd181_151 : r176_150 = (1 : Int32) := by rw [h_r176_150]; simp [own_hard, own_ent1 hc146_136, own_ent1 hc152_140, own_ent1 hc158_144, own_ent0 hc164_148]
      refine own_back ?_ (fun t k => XS.icmpNo X149.here hx rfl (hb hby at_181) rfl (teq hd181_151).2 k)
      show own_Go p e below PO (T149.setTop (mkF m 184 #[.val (.int pA), .val (.int pB), .val (.int pC), .val (.int pD), .val (.int pE), .val (.ref b1), .val (.ref b15), .val (.ref b26), .val (.ref b78), .val (.ref b117), .val (.int (1 : Int32))] []))
      refine own_back ?_ (fun t k => XS.iconst X149.here hx rfl (hb hby at_184) k)
      show own_Go p e below PO (T149.setTop (mkF m 185 #[.val (.int pA), .val (.int pB), .val (.int pC), .val (.int pD), .val (.int pE), .val (.ref b1), .val (.ref b15), .val (.ref b26), .val (.ref b78), .val (.ref b117), .val (.int (1 : Int32))] [(.int (1 : Int32))]))
      refine own_back ?_ (fun t k => XS.goto X149.here hx rfl (pc0 := 185) (pc' := 189) rfl (hb hby at_185) (by decide) (by decide) k)
      show own_Go p e below PO (T149.setTop (mkF m 189 #[.val (.int pA), .val (.int pB), .val (.int pC), .val (.int pD), .val (.int pE), .val (.ref b1), .val (.ref b15), .val (.ref b26), .val (.ref b78), .val (.ref b117), .val (.int (1 : Int32))] [(.int (1 : Int32))]))
      refine own_retNW X149 hx (t := .boolean) (rest := []) Bd.returns (by decide) (by simp) (hb hby at_189) e149 (Bd.notSynchronized) ?_ (by decide) (by decide) (s := s) (vm0 := T126.vm) hS126 (Nat.le_refl _)
      exact ⟨rfl, N149⟩
    refine own_back ?_ (fun t k => XS.ifYes X126.here hx rfl (pc0 := 164) (pc' := 171) rfl (hb hby at_164) rfl ((if0 _ _).trans (feq hc164_148).2) (by decide) (by decide) k)
    show own_Go p e below PO (T126.setTop (mkF m 171 #[.val (.int pA), .val (.int pB), .val (.int pC), .val (.int pD), .val (.int pE), .val (.ref b1), .val (.ref b15), .val (.ref b26), .val (.ref b78), .val (.ref b117), .unset] []))
    refine own_back ?_ (fun t k => XS.iconst X126.here hx rfl (hb hby at_171) k)
    show own_Go p e below PO (T126.setTop (mkF m 172 #[.val (.int pA), .val (.int pB), .val (.int pC), .val (.int pD), .val (.int pE), .val (.ref b1), .val (.ref b15), .val (.ref b26), .val (.ref b78), .val (.ref b117), .unset] [(.int (0 : Int32))]))
    refine own_back ?_ (fun t k => XS.istore X126.here hx rfl (hb hby at_172) rfl (l' := #[.val (.int pA), .val (.int pB), .val (.int pC), .val (.int pD), .val (.int pE), .val (.ref b1), .val (.ref b15), .val (.ref b26), .val (.ref b78), .val (.ref b117), .val (.int (0 : Int32))]) rfl k)
    show own_Go p e below PO (T126.setTop (mkF m 174 #[.val (.int pA), .val (.int pB), .val (.int pC), .val (.int pD), .val (.int pE), .val (.ref b1), .val (.ref b15), .val (.ref b26), .val (.ref b78), .val (.ref b117), .val (.int (0 : Int32))] []))
    refine own_back ?_ (fun t k => XS.aload X126.here hx rfl (hb hby at_174) rfl rfl k)
    show own_Go p e below PO (T126.setTop (mkF m 176 #[.val (.int pA), .val (.int pB), .val (.int pC), .val (.int pD), .val (.int pE), .val (.ref b1), .val (.ref b15), .val (.ref b26), .val (.ref b78), .val (.ref b117), .val (.int (0 : Int32))] [(.ref b117)]))
    obtain ⟨cq152, kq152, q152a, q152b, q152c⟩ := isOf hZ rfl f126_135
    obtain ⟨_, _, ⟨T152, L152, k152, n152⟩, -, X152, ⟨Lc152, hQ152, l152, y152, z152⟩, st152⟩ := X126.virtualBack hx (y := (⟨"com/example/nearbound/nearbound/dcop/Constraint", "isHard", "()Z"⟩ : MethodName)) (z := (⟨"com/example/nearbound/nearbound/dcop/Constraint", "isHard", "()Z"⟩ : MethodName)) hown (mvT hZ (hw _ (List.mem_of_getElem? (i := 56) rfl))) (mvT hZ (hw _ (List.mem_of_getElem? (i := 57) rfl))) (notFace_of_selects (args := #[]) (mvT hZ (hw _ (List.mem_of_getElem? (i := 59) rfl)))) (mvT hZ (hw _ (List.mem_of_getElem? (i := 59) rfl))) (mvT hZ (hw _ (List.mem_of_getElem? (i := 58) rfl))) (by decide) (backOf (W := 0) (rmH l Z a0 hw [] b117 aN k1 (own_entry pA) (own_entry pB) (own_entry pC) (own_entry pD) T126.heap n0 Zh126 FS VN) hZ (hw _ (List.mem_of_getElem? (i := 60) rfl)) (hw _ (List.mem_of_getElem? (i := 9) rfl)) (by decide) (by decide)) q152a q152c (g := (mkF m 176 #[.val (.int pA), .val (.int pB), .val (.int pC), .val (.int pD), .val (.int pE), .val (.ref b1), .val (.ref b15), .val (.ref b26), .val (.ref b78), .val (.ref b117), .val (.int (0 : Int32))] [(.ref b117)])) rfl (by rw [hml]; rfl) (Steps.refl _) (argsL := []) (rest := []) (lenOf pd_4 rfl) rfl (by show 2 * 0 + _ ≤ _; exact Nat.le_of_eq rfl) (hb hby at_176) (fun _ _ => ⟨rfl, rfl, (by decide : 14 + 0 ≤ _), (by decide : 87 + 0 ≤ _)⟩)
    dsimp only [Pt.U, Pt.locs, Pt.cells, Pt.slots] at X152 l152 y152 z152 st152 hQ152
    subst l152 y152 z152
    obtain ⟨rfl, N152q, e152⟩ := hQ152
    have N152 := Fr.app N126 N152q
    refine own_back ?_ (fun t k => st152.trans k)
    show own_Go p e below PO (T152.setTop (mkF m 179 #[.val (.int pA), .val (.int pB), .val (.int pC), .val (.int pD), .val (.int pE), .val (.ref b1), .val (.ref b15), .val (.ref b26), .val (.ref b78), .val (.ref b117), .val (.int (0 : Int32))] [(.int (own_hard (own_entry pA) (own_entry pB) (own_entry pC) (own_entry pD)))]))
    refine own_gen (A := Int32) (own_hard (own_entry pA) (own_entry pB) (own_entry pC) (own_entry pD)) (fun r176_153 => own_Go p e below PO (T152.setTop (mkF m 179 #[.val (.int pA), .val (.int pB), .val (.int pC), .val (.int pD), .val (.int pE), .val (.ref b1), .val (.ref b15), .val (.ref b26), .val (.ref b78), .val (.ref b117), .val (.int (0 : Int32))] [(.int r176_153)]))) ?_
    intro r176_153 h_r176_153
    show own_Go p e below PO (T152.setTop (mkF m 179 #[.val (.int pA), .val (.int pB), .val (.int pC), .val (.int pD), .val (.int pE), .val (.ref b1), .val (.ref b15), .val (.ref b26), .val (.ref b78), .val (.ref b117), .val (.int (0 : Int32))] [(.int r176_153)]))
    refine own_back ?_ (fun t k => XS.iload X152.here hx rfl (hb hby at_179) rfl k)
    show own_Go p e below PO (T152.setTop (mkF m 181 #[.val (.int pA), .val (.int pB), .val (.int pC), .val (.int pD), .val (.int pE), .val (.ref b1), .val (.ref b15), .val (.ref b26), .val (.ref b78), .val (.ref b117), .val (.int (0 : Int32))] [(.int (0 : Int32)), (.int r176_153)]))
    have hd181_154 : r176_153 = (0 : Int32) := by rw [h_r176_153]; simp [own_hard, own_ent1 hc146_136, own_ent1 hc152_140, own_ent1 hc158_144, own_ent1 hc164_148]
    refine own_back ?_ (fun t k => XS.icmpNo X152.here hx rfl (hb hby at_181) rfl (teq hd181_154).2 k)
    show own_Go p e below PO (T152.setTop (mkF m 184 #[.val (.int pA), .val (.int pB), .val (.int pC), .val (.int pD), .val (.int pE), .val (.ref b1), .val (.ref b15), .val (.ref b26), .val (.ref b78), .val (.ref b117), .val (.int (0 : Int32))] []))
    refine own_back ?_ (fun t k => XS.iconst X152.here hx rfl (hb hby at_184) k)
    show own_Go p e below PO (T152.setTop (mkF m 185 #[.val (.int pA), .val (.int pB), .val (.int pC), .val (.int pD), .val (.int pE), .val (.ref b1), .val (.ref b15), .val (.ref b26), .val (.ref b78), .val (.ref b117), .val (.int (0 : Int32))] [(.int (1 : Int32))]))
    refine own_back ?_ (fun t k => XS.goto X152.here hx rfl (pc0 := 185) (pc' := 189) rfl (hb hby at_185) (by decide) (by decide) k)
    show own_Go p e below PO (T152.setTop (mkF m 189 #[.val (.int pA), .val (.int pB), .val (.int pC), .val (.int pD), .val (.int pE), .val (.ref b1), .val (.ref b15), .val (.ref b26), .val (.ref b78), .val (.ref b117), .val (.int (0 : Int32))] [(.int (1 : Int32))]))
    refine own_retNW X152 hx (t := .boolean) (rest := []) Bd.returns (by decide) (by simp) (hb hby at_189) e152 (Bd.notSynchronized) ?_ (by decide) (by decide) (s := s) (vm0 := T126.vm) hS126 (Nat.le_refl _)
    exact ⟨rfl, N152⟩
  refine own_back ?_ (fun t k => XS.ifNo X12.here hx rfl (hb hby at_44) rfl ((if0 _ _).trans (feq hc44_14).1) k)
  show own_Go p e below PO (T12.setTop (mkF m 47 #[.val (.int pA), .val (.int pB), .val (.int pC), .val (.int pD), .val (.int pE), .val (.ref b1), .unset, .unset, .val .null, .unset, .unset] []))
  refine own_back ?_ (fun t k => XS.iconst X12.here hx rfl (hb hby at_47) k)
  show own_Go p e below PO (T12.setTop (mkF m 48 #[.val (.int pA), .val (.int pB), .val (.int pC), .val (.int pD), .val (.int pE), .val (.ref b1), .unset, .unset, .val .null, .unset, .unset] [(.int (1 : Int32))]))
  obtain ⟨T155, h155, k155, X155, e155, E155, A155, Ex155, st155⟩ := newPE X12 hx hZ (hw _ (List.mem_of_getElem? (i := 6) rfl)) e12 (g := (mkF m 48 #[.val (.int pA), .val (.int pB), .val (.int pC), .val (.int pD), .val (.int pE), .val (.ref b1), .unset, .unset, .val .null, .unset, .unset] [(.int (1 : Int32))])) rfl (hb hby at_48) rfl (by decide) (cap := 1) (by decide) (by decide) (by decide) (by decide) (ad := "[I") (by decide)
  obtain ⟨b155, g155⟩ : ∃ z, z = h12.size := ⟨_, rfl⟩
  rw [← g155] at A155 Ex155 st155
  have ne_b1_b155 : b1 ≠ b155 := Nat.ne_of_lt (Nat.lt_of_lt_of_le f12_13.lt (Nat.le_of_eq g155.symm))
  have sz_b155 : h0.size ≤ b155 := Nat.le_trans K12.1 (Nat.le_of_eq g155.symm)
  have gn_b155 : n0 ≤ b155 := Nat.le_trans Z0 sz_b155
  have f155_156 := f12_13.ext E155
  have f155_157 := V12.ext E155
  have K155 : Keep h0 h155 [] := (K12).ext E155
  have Zh155 : n0 ≤ h155.size := Nat.le_trans Z0 K155.1
  have V155 : Arv Z h155 b155 k155 .int (1 : Int32) [(.int (0 : Int32))] (.int (0 : Int32)) := (Arv.new A155 (by decide)).pad (pad_rep [] (.int (0 : Int32)) 1)
  refine own_back ?_ st155
  show own_Go p e below PO (T155.setTop (mkF m 50 #[.val (.int pA), .val (.int pB), .val (.int pC), .val (.int pD), .val (.int pE), .val (.ref b1), .unset, .unset, .val .null, .unset, .unset] [(.ref b155)]))
  refine own_back ?_ (fun t k => XS.dup X155.here hx rfl (hb hby at_50) rfl rfl k)
  show own_Go p e below PO (T155.setTop (mkF m 51 #[.val (.int pA), .val (.int pB), .val (.int pC), .val (.int pD), .val (.int pE), .val (.ref b1), .unset, .unset, .val .null, .unset, .unset] [(.ref b155), (.ref b155)]))
  refine own_back ?_ (fun t k => XS.iconst X155.here hx rfl (hb hby at_51) k)
  show own_Go p e below PO (T155.setTop (mkF m 52 #[.val (.int pA), .val (.int pB), .val (.int pC), .val (.int pD), .val (.int pE), .val (.ref b1), .unset, .unset, .val .null, .unset, .unset] [(.int (0 : Int32)), (.ref b155), (.ref b155)]))
  refine own_back ?_ (fun t k => XS.iconst X155.here hx rfl (hb hby at_52) k)
  show own_Go p e below PO (T155.setTop (mkF m 53 #[.val (.int pA), .val (.int pB), .val (.int pC), .val (.int pD), .val (.int pE), .val (.ref b1), .unset, .unset, .val .null, .unset, .unset] [(.int (0 : Int32)), (.int (0 : Int32)), (.ref b155), (.ref b155)]))
  obtain ⟨T158, h158, X158, e158, W158, V158, st158⟩ := own_stI X155 hx hZ e155 V155 (j := (0 : Int32)) ⟨by decide, by decide⟩ (i := 0) rfl (by show 0 < 1; decide) (g := (mkF m 53 #[.val (.int pA), .val (.int pB), .val (.int pC), .val (.int pD), .val (.int pE), .val (.ref b1), .unset, .unset, .val .null, .unset, .unset] [(.int (0 : Int32)), (.int (0 : Int32)), (.ref b155), (.ref b155)])) rfl rfl (hb hby at_53)
  replace V158 : Arv Z h158 b155 k155 .int (1 : Int32) [(.int (0 : Int32))] (.int (0 : Int32)) := V158
  have f158_159 := f155_156.wr W158
  have f158_160 := f155_157.other W158 ne_b1_b155
  have f158_161 := Ex155.wr W158
  have K158 : Keep h0 h158 [] := (K155).wr W158 (Or.inr sz_b155)
  have N158 := Fr.snoc X158 N12 gn_b155
  have Zh158 : n0 ≤ h158.size := Nat.le_trans Z0 K158.1
  refine own_back ?_ st158
  show own_Go p e below PO (T158.setTop (mkF m 54 #[.val (.int pA), .val (.int pB), .val (.int pC), .val (.int pD), .val (.int pE), .val (.ref b1), .unset, .unset, .val .null, .unset, .unset] [(.ref b155)]))
  refine own_back ?_ (fun t k => XS.astore X158.here hx rfl (hb hby at_54) rfl rfl (l' := #[.val (.int pA), .val (.int pB), .val (.int pC), .val (.int pD), .val (.int pE), .val (.ref b1), .val (.ref b155), .unset, .val .null, .unset, .unset]) rfl k)
  show own_Go p e below PO (T158.setTop (mkF m 56 #[.val (.int pA), .val (.int pB), .val (.int pC), .val (.int pD), .val (.int pE), .val (.ref b1), .val (.ref b155), .unset, .val .null, .unset, .unset] []))
  refine own_back ?_ (fun t k => XS.iconst X158.here hx rfl (hb hby at_56) k)
  show own_Go p e below PO (T158.setTop (mkF m 57 #[.val (.int pA), .val (.int pB), .val (.int pC), .val (.int pD), .val (.int pE), .val (.ref b1), .val (.ref b155), .unset, .val .null, .unset, .unset] [(.int (1 : Int32))]))
  obtain ⟨T162, h162, k162, X162, e162, E162, A162, Ex162, st162⟩ := newPE X158 hx hZ (hw _ (List.mem_of_getElem? (i := 6) rfl)) e158 (g := (mkF m 57 #[.val (.int pA), .val (.int pB), .val (.int pC), .val (.int pD), .val (.int pE), .val (.ref b1), .val (.ref b155), .unset, .val .null, .unset, .unset] [(.int (1 : Int32))])) rfl (hb hby at_57) rfl (by decide) (cap := 1) (by decide) (by decide) (by decide) (by decide) (ad := "[I") (by decide)
  obtain ⟨b162, g162⟩ : ∃ z, z = h158.size := ⟨_, rfl⟩
  rw [← g162] at A162 Ex162 st162
  have ne_b1_b162 : b1 ≠ b162 := Nat.ne_of_lt (Nat.lt_of_lt_of_le f158_159.lt (Nat.le_of_eq g162.symm))
  have ne_b155_b162 : b155 ≠ b162 := Nat.ne_of_lt (Nat.lt_of_lt_of_le f158_161.lt (Nat.le_of_eq g162.symm))
  have sz_b162 : h0.size ≤ b162 := Nat.le_trans K158.1 (Nat.le_of_eq g162.symm)
  have gn_b162 : n0 ≤ b162 := Nat.le_trans Z0 sz_b162
  have f162_163 := f158_159.ext E162
  have f162_164 := f158_160.ext E162
  have f162_165 := f158_161.ext E162
  have f162_166 := V158.ext E162
  have K162 : Keep h0 h162 [] := (K158).ext E162
  have Zh162 : n0 ≤ h162.size := Nat.le_trans Z0 K162.1
  have V162 : Arv Z h162 b162 k162 .int (1 : Int32) [(.int (0 : Int32))] (.int (0 : Int32)) := (Arv.new A162 (by decide)).pad (pad_rep [] (.int (0 : Int32)) 1)
  refine own_back ?_ st162
  show own_Go p e below PO (T162.setTop (mkF m 59 #[.val (.int pA), .val (.int pB), .val (.int pC), .val (.int pD), .val (.int pE), .val (.ref b1), .val (.ref b155), .unset, .val .null, .unset, .unset] [(.ref b162)]))
  refine own_back ?_ (fun t k => XS.dup X162.here hx rfl (hb hby at_59) rfl rfl k)
  show own_Go p e below PO (T162.setTop (mkF m 60 #[.val (.int pA), .val (.int pB), .val (.int pC), .val (.int pD), .val (.int pE), .val (.ref b1), .val (.ref b155), .unset, .val .null, .unset, .unset] [(.ref b162), (.ref b162)]))
  refine own_back ?_ (fun t k => XS.iconst X162.here hx rfl (hb hby at_60) k)
  show own_Go p e below PO (T162.setTop (mkF m 61 #[.val (.int pA), .val (.int pB), .val (.int pC), .val (.int pD), .val (.int pE), .val (.ref b1), .val (.ref b155), .unset, .val .null, .unset, .unset] [(.int (0 : Int32)), (.ref b162), (.ref b162)]))
  refine own_back ?_ (fun t k => XS.iconst X162.here hx rfl (hb hby at_61) k)
  show own_Go p e below PO (T162.setTop (mkF m 62 #[.val (.int pA), .val (.int pB), .val (.int pC), .val (.int pD), .val (.int pE), .val (.ref b1), .val (.ref b155), .unset, .val .null, .unset, .unset] [(.int (4 : Int32)), (.int (0 : Int32)), (.ref b162), (.ref b162)]))
  obtain ⟨T167, h167, X167, e167, W167, V167, st167⟩ := own_stI X162 hx hZ e162 V162 (j := (0 : Int32)) ⟨by decide, by decide⟩ (i := 0) rfl (by show 0 < 1; decide) (g := (mkF m 62 #[.val (.int pA), .val (.int pB), .val (.int pC), .val (.int pD), .val (.int pE), .val (.ref b1), .val (.ref b155), .unset, .val .null, .unset, .unset] [(.int (4 : Int32)), (.int (0 : Int32)), (.ref b162), (.ref b162)])) rfl rfl (hb hby at_62)
  replace V167 : Arv Z h167 b162 k162 .int (1 : Int32) [(.int (4 : Int32))] (.int (0 : Int32)) := V167
  have f167_168 := f162_163.wr W167
  have f167_169 := f162_164.other W167 ne_b1_b162
  have f167_170 := f162_165.wr W167
  have f167_171 := f162_166.other W167 ne_b155_b162
  have f167_172 := Ex162.wr W167
  have K167 : Keep h0 h167 [] := (K162).wr W167 (Or.inr sz_b162)
  have N167 := Fr.snoc X167 N158 gn_b162
  have Zh167 : n0 ≤ h167.size := Nat.le_trans Z0 K167.1
  refine own_back ?_ st167
  show own_Go p e below PO (T167.setTop (mkF m 63 #[.val (.int pA), .val (.int pB), .val (.int pC), .val (.int pD), .val (.int pE), .val (.ref b1), .val (.ref b155), .unset, .val .null, .unset, .unset] [(.ref b162)]))
  refine own_back ?_ (fun t k => XS.astore X167.here hx rfl (hb hby at_63) rfl rfl (l' := #[.val (.int pA), .val (.int pB), .val (.int pC), .val (.int pD), .val (.int pE), .val (.ref b1), .val (.ref b155), .val (.ref b162), .val .null, .unset, .unset]) rfl k)
  show own_Go p e below PO (T167.setTop (mkF m 65 #[.val (.int pA), .val (.int pB), .val (.int pC), .val (.int pD), .val (.int pE), .val (.ref b1), .val (.ref b155), .val (.ref b162), .val .null, .unset, .unset] []))
  refine own_back ?_ (fun t k => XS.goto X167.here hx rfl (pc0 := 65) (pc' := 126) rfl (hb hby at_65) (by decide) (by decide) k)
  show own_Go p e below PO (T167.setTop (mkF m 126 #[.val (.int pA), .val (.int pB), .val (.int pC), .val (.int pD), .val (.int pE), .val (.ref b1), .val (.ref b155), .val (.ref b162), .val .null, .unset, .unset] []))
  obtain ⟨T173, h173, X173, e173, E173, A173, D173, -, st173⟩ := newO X167 hx hZ hown (hw _ (List.mem_of_getElem? (i := 7) rfl)) (hw _ (List.mem_of_getElem? (i := 8) rfl)) (hw _ (List.mem_of_getElem? (i := 9) rfl)) e167 (g := (mkF m 126 #[.val (.int pA), .val (.int pB), .val (.int pC), .val (.int pD), .val (.int pE), .val (.ref b1), .val (.ref b155), .val (.ref b162), .val .null, .unset, .unset] [])) rfl (hb hby at_126) (by decide) (by decide)
  obtain ⟨b173, g173⟩ : ∃ z, z = h167.size := ⟨_, rfl⟩
  rw [← g173] at A173 D173 st173
  have ne_b1_b173 : b1 ≠ b173 := Nat.ne_of_lt (Nat.lt_of_lt_of_le f167_168.lt (Nat.le_of_eq g173.symm))
  have ne_b155_b173 : b155 ≠ b173 := Nat.ne_of_lt (Nat.lt_of_lt_of_le f167_170.lt (Nat.le_of_eq g173.symm))
  have ne_b162_b173 : b162 ≠ b173 := Nat.ne_of_lt (Nat.lt_of_lt_of_le f167_172.lt (Nat.le_of_eq g173.symm))
  have sz_b173 : h0.size ≤ b173 := Nat.le_trans K167.1 (Nat.le_of_eq g173.symm)
  have gn_b173 : n0 ≤ b173 := Nat.le_trans Z0 sz_b173
  have f173_174 := f167_168.ext E173
  have f173_175 := f167_169.ext E173
  have f173_176 := f167_170.ext E173
  have f173_177 := f167_171.ext E173
  have f173_178 := f167_172.ext E173
  have f173_179 := V167.ext E173
  have K173 : Keep h0 h173 [] := (K167).ext E173
  have Zh173 : n0 ≤ h173.size := Nat.le_trans Z0 K173.1
  have F173_scope : Fld Z h173 b173 "com/example/nearbound/nearbound/dcop/Constraint" "scope" "[I" .null := D173 (Or.inr (hw _ (List.mem_of_getElem? (i := 26) rfl))) (ty := (.array .int)) (by decide)
  have F173_sizes : Fld Z h173 b173 "com/example/nearbound/nearbound/dcop/Constraint" "sizes" "[I" .null := D173 (Or.inr (hw _ (List.mem_of_getElem? (i := 28) rfl))) (ty := (.array .int)) (by decide)
  have F173_strides : Fld Z h173 b173 "com/example/nearbound/nearbound/dcop/Constraint" "strides" "[I" .null := D173 (Or.inr (hw _ (List.mem_of_getElem? (i := 30) rfl))) (ty := (.array .int)) (by decide)
  have F173_rewards : Fld Z h173 b173 "com/example/nearbound/nearbound/dcop/Constraint" "rewards" "[D" .null := D173 (Or.inr (hw _ (List.mem_of_getElem? (i := 53) rfl))) (ty := (.array .double)) (by decide)
  have F173_costs : Fld Z h173 b173 "com/example/nearbound/nearbound/dcop/Constraint" "costs" "[D" .null := D173 (Or.inr (hw _ (List.mem_of_getElem? (i := 55) rfl))) (ty := (.array .double)) (by decide)
  refine own_back ?_ st173
  show own_Go p e below PO (T173.setTop (mkF m 129 #[.val (.int pA), .val (.int pB), .val (.int pC), .val (.int pD), .val (.int pE), .val (.ref b1), .val (.ref b155), .val (.ref b162), .val .null, .unset, .unset] [(.ref b173)]))
  refine own_back ?_ (fun t k => XS.dup X173.here hx rfl (hb hby at_129) rfl rfl k)
  show own_Go p e below PO (T173.setTop (mkF m 130 #[.val (.int pA), .val (.int pB), .val (.int pC), .val (.int pD), .val (.int pE), .val (.ref b1), .val (.ref b155), .val (.ref b162), .val .null, .unset, .unset] [(.ref b173), (.ref b173)]))
  refine own_back ?_ (fun t k => XS.aload X173.here hx rfl (hb hby at_130) rfl rfl k)
  show own_Go p e below PO (T173.setTop (mkF m 132 #[.val (.int pA), .val (.int pB), .val (.int pC), .val (.int pD), .val (.int pE), .val (.ref b1), .val (.ref b155), .val (.ref b162), .val .null, .unset, .unset] [(.ref b155), (.ref b173), (.ref b173)]))
  refine own_back ?_ (fun t k => XS.aload X173.here hx rfl (hb hby at_132) rfl rfl k)
  show own_Go p e below PO (T173.setTop (mkF m 134 #[.val (.int pA), .val (.int pB), .val (.int pC), .val (.int pD), .val (.int pE), .val (.ref b1), .val (.ref b155), .val (.ref b162), .val .null, .unset, .unset] [(.ref b162), (.ref b155), (.ref b173), (.ref b173)]))
  refine own_back ?_ (fun t k => XS.aload X173.here hx rfl (hb hby at_134) rfl rfl k)
  show own_Go p e below PO (T173.setTop (mkF m 136 #[.val (.int pA), .val (.int pB), .val (.int pC), .val (.int pD), .val (.int pE), .val (.ref b1), .val (.ref b155), .val (.ref b162), .val .null, .unset, .unset] [(.ref b1), (.ref b162), (.ref b155), (.ref b173), (.ref b173)]))
  refine own_back ?_ (fun t k => XS.aload X173.here hx rfl (hb hby at_136) rfl rfl k)
  show own_Go p e below PO (T173.setTop (mkF m 138 #[.val (.int pA), .val (.int pB), .val (.int pC), .val (.int pD), .val (.int pE), .val (.ref b1), .val (.ref b155), .val (.ref b162), .val .null, .unset, .unset] [.null, (.ref b1), (.ref b162), (.ref b155), (.ref b173), (.ref b173)]))
  obtain ⟨_, _, ⟨T180, L180, k180, n180⟩, -, X180, hSn180, hgr180, ⟨Lc180, hQ180, l180, y180, z180⟩, st180⟩ := X173.specialBackS hx (y := (⟨"com/example/nearbound/nearbound/dcop/Constraint", "<init>", "([I[I[D[D)V"⟩ : MethodName)) rfl hown (mvT hZ (hw _ (List.mem_of_getElem? (i := 10) rfl))) (mvT hZ (hw _ (List.mem_of_getElem? (i := 11) rfl))) (mvT hZ (hw _ (List.mem_of_getElem? (i := 12) rfl))) (by decide) (backOfS (W := 1) (rmI_a l Z a0 hw [] b173 b155 b162 b1 k155 k162 k1 k1 (own_entry pA) (own_entry pB) (own_entry pC) (own_entry pD) h173 n0 Zh173 A173 F173_scope F173_sizes F173_strides F173_rewards F173_costs f173_176 f173_177 ne_b155_b173 f173_178 f173_179 ne_b162_b173 f173_174 f173_175 ne_b1_b173 gn_b173) hZ (hw _ (List.mem_of_getElem? (i := 12) rfl)) (hw _ (List.mem_of_getElem? (i := 9) rfl)) (by decide) (by decide)) (g := (mkF m 138 #[.val (.int pA), .val (.int pB), .val (.int pC), .val (.int pD), .val (.int pE), .val (.ref b1), .val (.ref b155), .val (.ref b162), .val .null, .unset, .unset] [.null, (.ref b1), (.ref b162), (.ref b155), (.ref b173), (.ref b173)])) rfl (by rw [hml]; rfl) (Steps.refl _) (a := b173) (argsL := [(.ref b155), (.ref b162), (.ref b1), .null]) (rest := [(.ref b173)]) (lenOf pd_3 rfl) rfl (by show 2 * 0 + _ ≤ _; exact Nat.le_of_eq rfl) (hb hby at_138) (fun _ _ => ⟨rfl, e173, (by decide : 4 + 6 ≤ _), (by decide : 11 + 39 ≤ _)⟩)
  dsimp only [Pt.U, Pt.locs, Pt.cells, Pt.slots] at X180 l180 y180 z180 st180 hQ180
  subst l180 y180 z180
  replace X180 : Stand p l e room_1 (s.setVm T180.vm) m #[(.int pA), (.int pB), (.int pC), (.int pD), (.int pE)] below meth c T180 _ _ _ := X180
  have hS180 : s.Since T180.vm T180.heap.size := foldS (s := s) (vm0 := s.vm) (T := T173) hS0 (by rw [e173]; exact (Nat.zero_le _)) hSn180 hgr180
  have hZ : Z.Warmed39 (s.setVm T180.vm).vm := State.Warmed39.trans (t := s.setVm s.vm) hZ hSn180.1
  have hown : (s.setVm T180.vm).vm.findClass "com/example/nearbound/nearbound/dcop/ConstraintIsHardPinLaw" = some m.cls := by rw [show (s.setVm T180.vm).vm = T180.vm from rfl, hSn180.1.alike.findClass]; exact hown
  obtain ⟨rfl, N180q, Kc180, aN, szN, FS, VN⟩ := hQ180
  have N180 := Fr.app N167 N180q
  have ne_b1_aN : b1 ≠ aN := Nat.ne_of_lt (Nat.lt_of_lt_of_le f173_174.lt szN)
  have ne_b155_aN : b155 ≠ aN := Nat.ne_of_lt (Nat.lt_of_lt_of_le f173_176.lt szN)
  have ne_b162_aN : b162 ≠ aN := Nat.ne_of_lt (Nat.lt_of_lt_of_le f173_178.lt szN)
  have ne_b173_aN : b173 ≠ aN := Nat.ne_of_lt (Nat.lt_of_lt_of_le A173.lt szN)
  have sz_aN : h0.size ≤ aN := Nat.le_trans K173.1 szN
  have gn_aN : n0 ≤ aN := Nat.le_trans Z0 sz_aN
  have f180_181 := f173_174.keep Kc180
  have f180_182 := f173_175.keep Kc180 (ninS ne_b1_b173 nin0)
  have f180_183 := f173_176.keep Kc180
  have f180_184 := f173_177.keep Kc180 (ninS ne_b155_b173 nin0)
  have f180_185 := f173_178.keep Kc180
  have f180_186 := f173_179.keep Kc180 (ninS ne_b162_b173 nin0)
  have f180_187 := A173.keep Kc180
  have K180 : Keep h0 T180.heap [] := (K173).trans Kc180 (allS (Or.inr sz_b173) all0)
  have Zh180 : n0 ≤ T180.heap.size := Nat.le_trans Z0 K180.1
  refine own_back ?_ (fun t k => st180.trans k)
  show own_Go p e below PO (T180.setTop (mkF m 141 #[.val (.int pA), .val (.int pB), .val (.int pC), .val (.int pD), .val (.int pE), .val (.ref b1), .val (.ref b155), .val (.ref b162), .val .null, .unset, .unset] [(.ref b173)]))
  refine own_back ?_ (fun t k => XS.astore X180.here hx rfl (hb hby at_141) rfl rfl (l' := #[.val (.int pA), .val (.int pB), .val (.int pC), .val (.int pD), .val (.int pE), .val (.ref b1), .val (.ref b155), .val (.ref b162), .val .null, .val (.ref b173), .unset]) rfl k)
  show own_Go p e below PO (T180.setTop (mkF m 143 #[.val (.int pA), .val (.int pB), .val (.int pC), .val (.int pD), .val (.int pE), .val (.ref b1), .val (.ref b155), .val (.ref b162), .val .null, .val (.ref b173), .unset] []))
  refine own_back ?_ (fun t k => XS.iloadN X180.here hx rfl (hb hby at_143) rfl k)
  show own_Go p e below PO (T180.setTop (mkF m 144 #[.val (.int pA), .val (.int pB), .val (.int pC), .val (.int pD), .val (.int pE), .val (.ref b1), .val (.ref b155), .val (.ref b162), .val .null, .val (.ref b173), .unset] [(.int pA)]))
  refine own_back ?_ (fun t k => XS.iconst X180.here hx rfl (hb hby at_144) k)
  show own_Go p e below PO (T180.setTop (mkF m 145 #[.val (.int pA), .val (.int pB), .val (.int pC), .val (.int pD), .val (.int pE), .val (.ref b1), .val (.ref b155), .val (.ref b162), .val .null, .val (.ref b173), .unset] [(.int (3 : Int32)), (.int pA)]))
  refine own_back ?_ (fun t k => XS.iand X180.here hx rfl (hb hby at_145) rfl k)
  show own_Go p e below PO (T180.setTop (mkF m 146 #[.val (.int pA), .val (.int pB), .val (.int pC), .val (.int pD), .val (.int pE), .val (.ref b1), .val (.ref b155), .val (.ref b162), .val .null, .val (.ref b173), .unset] [(.int (pA &&& (3 : Int32)))]))
  by_cases hc146_188 : (pA &&& (3 : Int32)) = (0 : Int32)
  case pos =>
    refine own_back ?_ (fun t k => XS.ifYes X180.here hx rfl (pc0 := 146) (pc' := 167) rfl (hb hby at_146) rfl ((if0 _ _).trans (teq hc146_188).1) (by decide) (by decide) k)
    show own_Go p e below PO (T180.setTop (mkF m 167 #[.val (.int pA), .val (.int pB), .val (.int pC), .val (.int pD), .val (.int pE), .val (.ref b1), .val (.ref b155), .val (.ref b162), .val .null, .val (.ref b173), .unset] []))
    refine own_back ?_ (fun t k => XS.iconst X180.here hx rfl (hb hby at_167) k)
    show own_Go p e below PO (T180.setTop (mkF m 168 #[.val (.int pA), .val (.int pB), .val (.int pC), .val (.int pD), .val (.int pE), .val (.ref b1), .val (.ref b155), .val (.ref b162), .val .null, .val (.ref b173), .unset] [(.int (1 : Int32))]))
    refine own_back ?_ (fun t k => XS.goto X180.here hx rfl (pc0 := 168) (pc' := 172) rfl (hb hby at_168) (by decide) (by decide) k)
    show own_Go p e below PO (T180.setTop (mkF m 172 #[.val (.int pA), .val (.int pB), .val (.int pC), .val (.int pD), .val (.int pE), .val (.ref b1), .val (.ref b155), .val (.ref b162), .val .null, .val (.ref b173), .unset] [(.int (1 : Int32))]))
    refine own_back ?_ (fun t k => XS.istore X180.here hx rfl (hb hby at_172) rfl (l' := #[.val (.int pA), .val (.int pB), .val (.int pC), .val (.int pD), .val (.int pE), .val (.ref b1), .val (.ref b155), .val (.ref b162), .val .null, .val (.ref b173), .val (.int (1 : Int32))]) rfl k)
    show own_Go p e below PO (T180.setTop (mkF m 174 #[.val (.int pA), .val (.int pB), .val (.int pC), .val (.int pD), .val (.int pE), .val (.ref b1), .val (.ref b155), .val (.ref b162), .val .null, .val (.ref b173), .val (.int (1 : Int32))] []))
    refine own_back ?_ (fun t k => XS.aload X180.here hx rfl (hb hby at_174) rfl rfl k)
    show own_Go p e below PO (T180.setTop (mkF m 176 #[.val (.int pA), .val (.int pB), .val (.int pC), .val (.int pD), .val (.int pE), .val (.ref b1), .val (.ref b155), .val (.ref b162), .val .null, .val (.ref b173), .val (.int (1 : Int32))] [(.ref b173)]))
    obtain ⟨cq189, kq189, q189a, q189b, q189c⟩ := isOf hZ rfl f180_187
    obtain ⟨_, _, ⟨T189, L189, k189, n189⟩, -, X189, ⟨Lc189, hQ189, l189, y189, z189⟩, st189⟩ := X180.virtualBack hx (y := (⟨"com/example/nearbound/nearbound/dcop/Constraint", "isHard", "()Z"⟩ : MethodName)) (z := (⟨"com/example/nearbound/nearbound/dcop/Constraint", "isHard", "()Z"⟩ : MethodName)) hown (mvT hZ (hw _ (List.mem_of_getElem? (i := 56) rfl))) (mvT hZ (hw _ (List.mem_of_getElem? (i := 57) rfl))) (notFace_of_selects (args := #[]) (mvT hZ (hw _ (List.mem_of_getElem? (i := 59) rfl)))) (mvT hZ (hw _ (List.mem_of_getElem? (i := 59) rfl))) (mvT hZ (hw _ (List.mem_of_getElem? (i := 58) rfl))) (by decide) (backOf (W := 0) (rmH l Z a0 hw [] b173 aN k1 (own_entry pA) (own_entry pB) (own_entry pC) (own_entry pD) T180.heap n0 Zh180 FS VN) hZ (hw _ (List.mem_of_getElem? (i := 60) rfl)) (hw _ (List.mem_of_getElem? (i := 9) rfl)) (by decide) (by decide)) q189a q189c (g := (mkF m 176 #[.val (.int pA), .val (.int pB), .val (.int pC), .val (.int pD), .val (.int pE), .val (.ref b1), .val (.ref b155), .val (.ref b162), .val .null, .val (.ref b173), .val (.int (1 : Int32))] [(.ref b173)])) rfl (by rw [hml]; rfl) (Steps.refl _) (argsL := []) (rest := []) (lenOf pd_4 rfl) rfl (by show 2 * 0 + _ ≤ _; exact Nat.le_of_eq rfl) (hb hby at_176) (fun _ _ => ⟨rfl, rfl, (by decide : 10 + 0 ≤ _), (by decide : 50 + 0 ≤ _)⟩)
    dsimp only [Pt.U, Pt.locs, Pt.cells, Pt.slots] at X189 l189 y189 z189 st189 hQ189
    subst l189 y189 z189
    obtain ⟨rfl, N189q, e189⟩ := hQ189
    have N189 := Fr.app N180 N189q
    refine own_back ?_ (fun t k => st189.trans k)
    show own_Go p e below PO (T189.setTop (mkF m 179 #[.val (.int pA), .val (.int pB), .val (.int pC), .val (.int pD), .val (.int pE), .val (.ref b1), .val (.ref b155), .val (.ref b162), .val .null, .val (.ref b173), .val (.int (1 : Int32))] [(.int (own_hard (own_entry pA) (own_entry pB) (own_entry pC) (own_entry pD)))]))
    refine own_gen (A := Int32) (own_hard (own_entry pA) (own_entry pB) (own_entry pC) (own_entry pD)) (fun r176_190 => own_Go p e below PO (T189.setTop (mkF m 179 #[.val (.int pA), .val (.int pB), .val (.int pC), .val (.int pD), .val (.int pE), .val (.ref b1), .val (.ref b155), .val (.ref b162), .val .null, .val (.ref b173), .val (.int (1 : Int32))] [(.int r176_190)]))) ?_
    intro r176_190 h_r176_190
    show own_Go p e below PO (T189.setTop (mkF m 179 #[.val (.int pA), .val (.int pB), .val (.int pC), .val (.int pD), .val (.int pE), .val (.ref b1), .val (.ref b155), .val (.ref b162), .val .null, .val (.ref b173), .val (.int (1 : Int32))] [(.int r176_190)]))
    refine own_back ?_ (fun t k => XS.iload X189.here hx rfl (hb hby at_179) rfl k)
    show own_Go p e below PO (T189.setTop (mkF m 181 #[.val (.int pA), .val (.int pB), .val (.int pC), .val (.int pD), .val (.int pE), .val (.ref b1), .val (.ref b155), .val (.ref b162), .val .null, .val (.ref b173), .val (.int (1 : Int32))] [(.int (1 : Int32)), (.int r176_190)]))
    have hd181_191 : r176_190 = (1 : Int32) := by rw [h_r176_190]; simp [own_hard, own_ent0 hc146_188]
    refine own_back ?_ (fun t k => XS.icmpNo X189.here hx rfl (hb hby at_181) rfl (teq hd181_191).2 k)
    show own_Go p e below PO (T189.setTop (mkF m 184 #[.val (.int pA), .val (.int pB), .val (.int pC), .val (.int pD), .val (.int pE), .val (.ref b1), .val (.ref b155), .val (.ref b162), .val .null, .val (.ref b173), .val (.int (1 : Int32))] []))
    refine own_back ?_ (fun t k => XS.iconst X189.here hx rfl (hb hby at_184) k)
    show own_Go p e below PO (T189.setTop (mkF m 185 #[.val (.int pA), .val (.int pB), .val (.int pC), .val (.int pD), .val (.int pE), .val (.ref b1), .val (.ref b155), .val (.ref b162), .val .null, .val (.ref b173), .val (.int (1 : Int32))] [(.int (1 : Int32))]))
    refine own_back ?_ (fun t k => XS.goto X189.here hx rfl (pc0 := 185) (pc' := 189) rfl (hb hby at_185) (by decide) (by decide) k)
    show own_Go p e below PO (T189.setTop (mkF m 189 #[.val (.int pA), .val (.int pB), .val (.int pC), .val (.int pD), .val (.int pE), .val (.ref b1), .val (.ref b155), .val (.ref b162), .val .null, .val (.ref b173), .val (.int (1 : Int32))] [(.int (1 : Int32))]))
    refine own_retNW X189 hx (t := .boolean) (rest := []) Bd.returns (by decide) (by simp) (hb hby at_189) e189 (Bd.notSynchronized) ?_ (by decide) (by decide) (s := s) (vm0 := T180.vm) hS180 (Nat.le_refl _)
    exact ⟨rfl, N189⟩
  refine own_back ?_ (fun t k => XS.ifNo X180.here hx rfl (hb hby at_146) rfl ((if0 _ _).trans (feq hc146_188).1) k)
  show own_Go p e below PO (T180.setTop (mkF m 149 #[.val (.int pA), .val (.int pB), .val (.int pC), .val (.int pD), .val (.int pE), .val (.ref b1), .val (.ref b155), .val (.ref b162), .val .null, .val (.ref b173), .unset] []))
  refine own_back ?_ (fun t k => XS.iloadN X180.here hx rfl (hb hby at_149) rfl k)
  show own_Go p e below PO (T180.setTop (mkF m 150 #[.val (.int pA), .val (.int pB), .val (.int pC), .val (.int pD), .val (.int pE), .val (.ref b1), .val (.ref b155), .val (.ref b162), .val .null, .val (.ref b173), .unset] [(.int pB)]))
  refine own_back ?_ (fun t k => XS.iconst X180.here hx rfl (hb hby at_150) k)
  show own_Go p e below PO (T180.setTop (mkF m 151 #[.val (.int pA), .val (.int pB), .val (.int pC), .val (.int pD), .val (.int pE), .val (.ref b1), .val (.ref b155), .val (.ref b162), .val .null, .val (.ref b173), .unset] [(.int (3 : Int32)), (.int pB)]))
  refine own_back ?_ (fun t k => XS.iand X180.here hx rfl (hb hby at_151) rfl k)
  show own_Go p e below PO (T180.setTop (mkF m 152 #[.val (.int pA), .val (.int pB), .val (.int pC), .val (.int pD), .val (.int pE), .val (.ref b1), .val (.ref b155), .val (.ref b162), .val .null, .val (.ref b173), .unset] [(.int (pB &&& (3 : Int32)))]))
  by_cases hc152_192 : (pB &&& (3 : Int32)) = (0 : Int32)
  case pos =>
    refine own_back ?_ (fun t k => XS.ifYes X180.here hx rfl (pc0 := 152) (pc' := 167) rfl (hb hby at_152) rfl ((if0 _ _).trans (teq hc152_192).1) (by decide) (by decide) k)
    show own_Go p e below PO (T180.setTop (mkF m 167 #[.val (.int pA), .val (.int pB), .val (.int pC), .val (.int pD), .val (.int pE), .val (.ref b1), .val (.ref b155), .val (.ref b162), .val .null, .val (.ref b173), .unset] []))
    refine own_back ?_ (fun t k => XS.iconst X180.here hx rfl (hb hby at_167) k)
    show own_Go p e below PO (T180.setTop (mkF m 168 #[.val (.int pA), .val (.int pB), .val (.int pC), .val (.int pD), .val (.int pE), .val (.ref b1), .val (.ref b155), .val (.ref b162), .val .null, .val (.ref b173), .unset] [(.int (1 : Int32))]))
    refine own_back ?_ (fun t k => XS.goto X180.here hx rfl (pc0 := 168) (pc' := 172) rfl (hb hby at_168) (by decide) (by decide) k)
    show own_Go p e below PO (T180.setTop (mkF m 172 #[.val (.int pA), .val (.int pB), .val (.int pC), .val (.int pD), .val (.int pE), .val (.ref b1), .val (.ref b155), .val (.ref b162), .val .null, .val (.ref b173), .unset] [(.int (1 : Int32))]))
    refine own_back ?_ (fun t k => XS.istore X180.here hx rfl (hb hby at_172) rfl (l' := #[.val (.int pA), .val (.int pB), .val (.int pC), .val (.int pD), .val (.int pE), .val (.ref b1), .val (.ref b155), .val (.ref b162), .val .null, .val (.ref b173), .val (.int (1 : Int32))]) rfl k)
    show own_Go p e below PO (T180.setTop (mkF m 174 #[.val (.int pA), .val (.int pB), .val (.int pC), .val (.int pD), .val (.int pE), .val (.ref b1), .val (.ref b155), .val (.ref b162), .val .null, .val (.ref b173), .val (.int (1 : Int32))] []))
    refine own_back ?_ (fun t k => XS.aload X180.here hx rfl (hb hby at_174) rfl rfl k)
    show own_Go p e below PO (T180.setTop (mkF m 176 #[.val (.int pA), .val (.int pB), .val (.int pC), .val (.int pD), .val (.int pE), .val (.ref b1), .val (.ref b155), .val (.ref b162), .val .null, .val (.ref b173), .val (.int (1 : Int32))] [(.ref b173)]))
    obtain ⟨cq193, kq193, q193a, q193b, q193c⟩ := isOf hZ rfl f180_187
    obtain ⟨_, _, ⟨T193, L193, k193, n193⟩, -, X193, ⟨Lc193, hQ193, l193, y193, z193⟩, st193⟩ := X180.virtualBack hx (y := (⟨"com/example/nearbound/nearbound/dcop/Constraint", "isHard", "()Z"⟩ : MethodName)) (z := (⟨"com/example/nearbound/nearbound/dcop/Constraint", "isHard", "()Z"⟩ : MethodName)) hown (mvT hZ (hw _ (List.mem_of_getElem? (i := 56) rfl))) (mvT hZ (hw _ (List.mem_of_getElem? (i := 57) rfl))) (notFace_of_selects (args := #[]) (mvT hZ (hw _ (List.mem_of_getElem? (i := 59) rfl)))) (mvT hZ (hw _ (List.mem_of_getElem? (i := 59) rfl))) (mvT hZ (hw _ (List.mem_of_getElem? (i := 58) rfl))) (by decide) (backOf (W := 0) (rmH l Z a0 hw [] b173 aN k1 (own_entry pA) (own_entry pB) (own_entry pC) (own_entry pD) T180.heap n0 Zh180 FS VN) hZ (hw _ (List.mem_of_getElem? (i := 60) rfl)) (hw _ (List.mem_of_getElem? (i := 9) rfl)) (by decide) (by decide)) q193a q193c (g := (mkF m 176 #[.val (.int pA), .val (.int pB), .val (.int pC), .val (.int pD), .val (.int pE), .val (.ref b1), .val (.ref b155), .val (.ref b162), .val .null, .val (.ref b173), .val (.int (1 : Int32))] [(.ref b173)])) rfl (by rw [hml]; rfl) (Steps.refl _) (argsL := []) (rest := []) (lenOf pd_4 rfl) rfl (by show 2 * 0 + _ ≤ _; exact Nat.le_of_eq rfl) (hb hby at_176) (fun _ _ => ⟨rfl, rfl, (by decide : 10 + 0 ≤ _), (by decide : 50 + 0 ≤ _)⟩)
    dsimp only [Pt.U, Pt.locs, Pt.cells, Pt.slots] at X193 l193 y193 z193 st193 hQ193
    subst l193 y193 z193
    obtain ⟨rfl, N193q, e193⟩ := hQ193
    have N193 := Fr.app N180 N193q
    refine own_back ?_ (fun t k => st193.trans k)
    show own_Go p e below PO (T193.setTop (mkF m 179 #[.val (.int pA), .val (.int pB), .val (.int pC), .val (.int pD), .val (.int pE), .val (.ref b1), .val (.ref b155), .val (.ref b162), .val .null, .val (.ref b173), .val (.int (1 : Int32))] [(.int (own_hard (own_entry pA) (own_entry pB) (own_entry pC) (own_entry pD)))]))
    refine own_gen (A := Int32) (own_hard (own_entry pA) (own_entry pB) (own_entry pC) (own_entry pD)) (fun r176_194 => own_Go p e below PO (T193.setTop (mkF m 179 #[.val (.int pA), .val (.int pB), .val (.int pC), .val (.int pD), .val (.int pE), .val (.ref b1), .val (.ref b155), .val (.ref b162), .val .null, .val (.ref b173), .val (.int (1 : Int32))] [(.int r176_194)]))) ?_
    intro r176_194 h_r176_194
    show own_Go p e below PO (T193.setTop (mkF m 179 #[.val (.int pA), .val (.int pB), .val (.int pC), .val (.int pD), .val (.int pE), .val (.ref b1), .val (.ref b155), .val (.ref b162), .val .null, .val (.ref b173), .val (.int (1 : Int32))] [(.int r176_194)]))
    refine own_back ?_ (fun t k => XS.iload X193.here hx rfl (hb hby at_179) rfl k)
    show own_Go p e below PO (T193.setTop (mkF m 181 #[.val (.int pA), .val (.int pB), .val (.int pC), .val (.int pD), .val (.int pE), .val (.ref b1), .val (.ref b155), .val (.ref b162), .val .null, .val (.ref b173), .val (.int (1 : Int32))] [(.int (1 : Int32)), (.int r176_194)]))
    have hd181_195 : r176_194 = (1 : Int32) := by rw [h_r176_194]; simp [own_hard, own_ent1 hc146_188, own_ent0 hc152_192]
    refine own_back ?_ (fun t k => XS.icmpNo X193.here hx rfl (hb hby at_181) rfl (teq hd181_195).2 k)
    show own_Go p e below PO (T193.setTop (mkF m 184 #[.val (.int pA), .val (.int pB), .val (.int pC), .val (.int pD), .val (.int pE), .val (.ref b1), .val (.ref b155), .val (.ref b162), .val .null, .val (.ref b173), .val (.int (1 : Int32))] []))
    refine own_back ?_ (fun t k => XS.iconst X193.here hx rfl (hb hby at_184) k)
    show own_Go p e below PO (T193.setTop (mkF m 185 #[.val (.int pA), .val (.int pB), .val (.int pC), .val (.int pD), .val (.int pE), .val (.ref b1), .val (.ref b155), .val (.ref b162), .val .null, .val (.ref b173), .val (.int (1 : Int32))] [(.int (1 : Int32))]))
    refine own_back ?_ (fun t k => XS.goto X193.here hx rfl (pc0 := 185) (pc' := 189) rfl (hb hby at_185) (by decide) (by decide) k)
    show own_Go p e below PO (T193.setTop (mkF m 189 #[.val (.int pA), .val (.int pB), .val (.int pC), .val (.int pD), .val (.int pE), .val (.ref b1), .val (.ref b155), .val (.ref b162), .val .null, .val (.ref b173), .val (.int (1 : Int32))] [(.int (1 : Int32))]))
    refine own_retNW X193 hx (t := .boolean) (rest := []) Bd.returns (by decide) (by simp) (hb hby at_189) e193 (Bd.notSynchronized) ?_ (by decide) (by decide) (s := s) (vm0 := T180.vm) hS180 (Nat.le_refl _)
    exact ⟨rfl, N193⟩
  refine own_back ?_ (fun t k => XS.ifNo X180.here hx rfl (hb hby at_152) rfl ((if0 _ _).trans (feq hc152_192).1) k)
  show own_Go p e below PO (T180.setTop (mkF m 155 #[.val (.int pA), .val (.int pB), .val (.int pC), .val (.int pD), .val (.int pE), .val (.ref b1), .val (.ref b155), .val (.ref b162), .val .null, .val (.ref b173), .unset] []))
  refine own_back ?_ (fun t k => XS.iloadN X180.here hx rfl (hb hby at_155) rfl k)
  show own_Go p e below PO (T180.setTop (mkF m 156 #[.val (.int pA), .val (.int pB), .val (.int pC), .val (.int pD), .val (.int pE), .val (.ref b1), .val (.ref b155), .val (.ref b162), .val .null, .val (.ref b173), .unset] [(.int pC)]))
  refine own_back ?_ (fun t k => XS.iconst X180.here hx rfl (hb hby at_156) k)
  show own_Go p e below PO (T180.setTop (mkF m 157 #[.val (.int pA), .val (.int pB), .val (.int pC), .val (.int pD), .val (.int pE), .val (.ref b1), .val (.ref b155), .val (.ref b162), .val .null, .val (.ref b173), .unset] [(.int (3 : Int32)), (.int pC)]))
  refine own_back ?_ (fun t k => XS.iand X180.here hx rfl (hb hby at_157) rfl k)
  show own_Go p e below PO (T180.setTop (mkF m 158 #[.val (.int pA), .val (.int pB), .val (.int pC), .val (.int pD), .val (.int pE), .val (.ref b1), .val (.ref b155), .val (.ref b162), .val .null, .val (.ref b173), .unset] [(.int (pC &&& (3 : Int32)))]))
  by_cases hc158_196 : (pC &&& (3 : Int32)) = (0 : Int32)
  case pos =>
    refine own_back ?_ (fun t k => XS.ifYes X180.here hx rfl (pc0 := 158) (pc' := 167) rfl (hb hby at_158) rfl ((if0 _ _).trans (teq hc158_196).1) (by decide) (by decide) k)
    show own_Go p e below PO (T180.setTop (mkF m 167 #[.val (.int pA), .val (.int pB), .val (.int pC), .val (.int pD), .val (.int pE), .val (.ref b1), .val (.ref b155), .val (.ref b162), .val .null, .val (.ref b173), .unset] []))
    refine own_back ?_ (fun t k => XS.iconst X180.here hx rfl (hb hby at_167) k)
    show own_Go p e below PO (T180.setTop (mkF m 168 #[.val (.int pA), .val (.int pB), .val (.int pC), .val (.int pD), .val (.int pE), .val (.ref b1), .val (.ref b155), .val (.ref b162), .val .null, .val (.ref b173), .unset] [(.int (1 : Int32))]))
    refine own_back ?_ (fun t k => XS.goto X180.here hx rfl (pc0 := 168) (pc' := 172) rfl (hb hby at_168) (by decide) (by decide) k)
    show own_Go p e below PO (T180.setTop (mkF m 172 #[.val (.int pA), .val (.int pB), .val (.int pC), .val (.int pD), .val (.int pE), .val (.ref b1), .val (.ref b155), .val (.ref b162), .val .null, .val (.ref b173), .unset] [(.int (1 : Int32))]))
    refine own_back ?_ (fun t k => XS.istore X180.here hx rfl (hb hby at_172) rfl (l' := #[.val (.int pA), .val (.int pB), .val (.int pC), .val (.int pD), .val (.int pE), .val (.ref b1), .val (.ref b155), .val (.ref b162), .val .null, .val (.ref b173), .val (.int (1 : Int32))]) rfl k)
    show own_Go p e below PO (T180.setTop (mkF m 174 #[.val (.int pA), .val (.int pB), .val (.int pC), .val (.int pD), .val (.int pE), .val (.ref b1), .val (.ref b155), .val (.ref b162), .val .null, .val (.ref b173), .val (.int (1 : Int32))] []))
    refine own_back ?_ (fun t k => XS.aload X180.here hx rfl (hb hby at_174) rfl rfl k)
    show own_Go p e below PO (T180.setTop (mkF m 176 #[.val (.int pA), .val (.int pB), .val (.int pC), .val (.int pD), .val (.int pE), .val (.ref b1), .val (.ref b155), .val (.ref b162), .val .null, .val (.ref b173), .val (.int (1 : Int32))] [(.ref b173)]))
    obtain ⟨cq197, kq197, q197a, q197b, q197c⟩ := isOf hZ rfl f180_187
    obtain ⟨_, _, ⟨T197, L197, k197, n197⟩, -, X197, ⟨Lc197, hQ197, l197, y197, z197⟩, st197⟩ := X180.virtualBack hx (y := (⟨"com/example/nearbound/nearbound/dcop/Constraint", "isHard", "()Z"⟩ : MethodName)) (z := (⟨"com/example/nearbound/nearbound/dcop/Constraint", "isHard", "()Z"⟩ : MethodName)) hown (mvT hZ (hw _ (List.mem_of_getElem? (i := 56) rfl))) (mvT hZ (hw _ (List.mem_of_getElem? (i := 57) rfl))) (notFace_of_selects (args := #[]) (mvT hZ (hw _ (List.mem_of_getElem? (i := 59) rfl)))) (mvT hZ (hw _ (List.mem_of_getElem? (i := 59) rfl))) (mvT hZ (hw _ (List.mem_of_getElem? (i := 58) rfl))) (by decide) (backOf (W := 0) (rmH l Z a0 hw [] b173 aN k1 (own_entry pA) (own_entry pB) (own_entry pC) (own_entry pD) T180.heap n0 Zh180 FS VN) hZ (hw _ (List.mem_of_getElem? (i := 60) rfl)) (hw _ (List.mem_of_getElem? (i := 9) rfl)) (by decide) (by decide)) q197a q197c (g := (mkF m 176 #[.val (.int pA), .val (.int pB), .val (.int pC), .val (.int pD), .val (.int pE), .val (.ref b1), .val (.ref b155), .val (.ref b162), .val .null, .val (.ref b173), .val (.int (1 : Int32))] [(.ref b173)])) rfl (by rw [hml]; rfl) (Steps.refl _) (argsL := []) (rest := []) (lenOf pd_4 rfl) rfl (by show 2 * 0 + _ ≤ _; exact Nat.le_of_eq rfl) (hb hby at_176) (fun _ _ => ⟨rfl, rfl, (by decide : 10 + 0 ≤ _), (by decide : 50 + 0 ≤ _)⟩)
    dsimp only [Pt.U, Pt.locs, Pt.cells, Pt.slots] at X197 l197 y197 z197 st197 hQ197
    subst l197 y197 z197
    obtain ⟨rfl, N197q, e197⟩ := hQ197
    have N197 := Fr.app N180 N197q
    refine own_back ?_ (fun t k => st197.trans k)
    show own_Go p e below PO (T197.setTop (mkF m 179 #[.val (.int pA), .val (.int pB), .val (.int pC), .val (.int pD), .val (.int pE), .val (.ref b1), .val (.ref b155), .val (.ref b162), .val .null, .val (.ref b173), .val (.int (1 : Int32))] [(.int (own_hard (own_entry pA) (own_entry pB) (own_entry pC) (own_entry pD)))]))
    refine own_gen (A := Int32) (own_hard (own_entry pA) (own_entry pB) (own_entry pC) (own_entry pD)) (fun r176_198 => own_Go p e below PO (T197.setTop (mkF m 179 #[.val (.int pA), .val (.int pB), .val (.int pC), .val (.int pD), .val (.int pE), .val (.ref b1), .val (.ref b155), .val (.ref b162), .val .null, .val (.ref b173), .val (.int (1 : Int32))] [(.int r176_198)]))) ?_
    intro r176_198 h_r176_198
    show own_Go p e below PO (T197.setTop (mkF m 179 #[.val (.int pA), .val (.int pB), .val (.int pC), .val (.int pD), .val (.int pE), .val (.ref b1), .val (.ref b155), .val (.ref b162), .val .null, .val (.ref b173), .val (.int (1 : Int32))] [(.int r176_198)]))
    refine own_back ?_ (fun t k => XS.iload X197.here hx rfl (hb hby at_179) rfl k)
    show own_Go p e below PO (T197.setTop (mkF m 181 #[.val (.int pA), .val (.int pB), .val (.int pC), .val (.int pD), .val (.int pE), .val (.ref b1), .val (.ref b155), .val (.ref b162), .val .null, .val (.ref b173), .val (.int (1 : Int32))] [(.int (1 : Int32)), (.int r176_198)]))
    have hd181_199 : r176_198 = (1 : Int32) := by rw [h_r176_198]; simp [own_hard, own_ent1 hc146_188, own_ent1 hc152_192, own_ent0 hc158_196]
    refine own_back ?_ (fun t k => XS.icmpNo X197.here hx rfl (hb hby at_181) rfl (teq hd181_199).2 k)
    show own_Go p e below PO (T197.setTop (mkF m 184 #[.val (.int pA), .val (.int pB), .val (.int pC), .val (.int pD), .val (.int pE), .val (.ref b1), .val (.ref b155), .val (.ref b162), .val .null, .val (.ref b173), .val (.int (1 : Int32))] []))
    refine own_back ?_ (fun t k => XS.iconst X197.here hx rfl (hb hby at_184) k)
    show own_Go p e below PO (T197.setTop (mkF m 185 #[.val (.int pA), .val (.int pB), .val (.int pC), .val (.int pD), .val (.int pE), .val (.ref b1), .val (.ref b155), .val (.ref b162), .val .null, .val (.ref b173), .val (.int (1 : Int32))] [(.int (1 : Int32))]))
    refine own_back ?_ (fun t k => XS.goto X197.here hx rfl (pc0 := 185) (pc' := 189) rfl (hb hby at_185) (by decide) (by decide) k)
    show own_Go p e below PO (T197.setTop (mkF m 189 #[.val (.int pA), .val (.int pB), .val (.int pC), .val (.int pD), .val (.int pE), .val (.ref b1), .val (.ref b155), .val (.ref b162), .val .null, .val (.ref b173), .val (.int (1 : Int32))] [(.int (1 : Int32))]))
    refine own_retNW X197 hx (t := .boolean) (rest := []) Bd.returns (by decide) (by simp) (hb hby at_189) e197 (Bd.notSynchronized) ?_ (by decide) (by decide) (s := s) (vm0 := T180.vm) hS180 (Nat.le_refl _)
    exact ⟨rfl, N197⟩
  refine own_back ?_ (fun t k => XS.ifNo X180.here hx rfl (hb hby at_158) rfl ((if0 _ _).trans (feq hc158_196).1) k)
  show own_Go p e below PO (T180.setTop (mkF m 161 #[.val (.int pA), .val (.int pB), .val (.int pC), .val (.int pD), .val (.int pE), .val (.ref b1), .val (.ref b155), .val (.ref b162), .val .null, .val (.ref b173), .unset] []))
  refine own_back ?_ (fun t k => XS.iloadN X180.here hx rfl (hb hby at_161) rfl k)
  show own_Go p e below PO (T180.setTop (mkF m 162 #[.val (.int pA), .val (.int pB), .val (.int pC), .val (.int pD), .val (.int pE), .val (.ref b1), .val (.ref b155), .val (.ref b162), .val .null, .val (.ref b173), .unset] [(.int pD)]))
  refine own_back ?_ (fun t k => XS.iconst X180.here hx rfl (hb hby at_162) k)
  show own_Go p e below PO (T180.setTop (mkF m 163 #[.val (.int pA), .val (.int pB), .val (.int pC), .val (.int pD), .val (.int pE), .val (.ref b1), .val (.ref b155), .val (.ref b162), .val .null, .val (.ref b173), .unset] [(.int (3 : Int32)), (.int pD)]))
  refine own_back ?_ (fun t k => XS.iand X180.here hx rfl (hb hby at_163) rfl k)
  show own_Go p e below PO (T180.setTop (mkF m 164 #[.val (.int pA), .val (.int pB), .val (.int pC), .val (.int pD), .val (.int pE), .val (.ref b1), .val (.ref b155), .val (.ref b162), .val .null, .val (.ref b173), .unset] [(.int (pD &&& (3 : Int32)))]))
  by_cases hc164_200 : (pD &&& (3 : Int32)) = (0 : Int32)
  case pos =>
    refine own_back ?_ (fun t k => XS.ifNo X180.here hx rfl (hb hby at_164) rfl ((if0 _ _).trans (teq hc164_200).2) k)
    show own_Go p e below PO (T180.setTop (mkF m 167 #[.val (.int pA), .val (.int pB), .val (.int pC), .val (.int pD), .val (.int pE), .val (.ref b1), .val (.ref b155), .val (.ref b162), .val .null, .val (.ref b173), .unset] []))
    refine own_back ?_ (fun t k => XS.iconst X180.here hx rfl (hb hby at_167) k)
    show own_Go p e below PO (T180.setTop (mkF m 168 #[.val (.int pA), .val (.int pB), .val (.int pC), .val (.int pD), .val (.int pE), .val (.ref b1), .val (.ref b155), .val (.ref b162), .val .null, .val (.ref b173), .unset] [(.int (1 : Int32))]))
    refine own_back ?_ (fun t k => XS.goto X180.here hx rfl (pc0 := 168) (pc' := 172) rfl (hb hby at_168) (by decide) (by decide) k)
    show own_Go p e below PO (T180.setTop (mkF m 172 #[.val (.int pA), .val (.int pB), .val (.int pC), .val (.int pD), .val (.int pE), .val (.ref b1), .val (.ref b155), .val (.ref b162), .val .null, .val (.ref b173), .unset] [(.int (1 : Int32))]))
    refine own_back ?_ (fun t k => XS.istore X180.here hx rfl (hb hby at_172) rfl (l' := #[.val (.int pA), .val (.int pB), .val (.int pC), .val (.int pD), .val (.int pE), .val (.ref b1), .val (.ref b155), .val (.ref b162), .val .null, .val (.ref b173), .val (.int (1 : Int32))]) rfl k)
    show own_Go p e below PO (T180.setTop (mkF m 174 #[.val (.int pA), .val (.int pB), .val (.int pC), .val (.int pD), .val (.int pE), .val (.ref b1), .val (.ref b155), .val (.ref b162), .val .null, .val (.ref b173), .val (.int (1 : Int32))] []))
    refine own_back ?_ (fun t k => XS.aload X180.here hx rfl (hb hby at_174) rfl rfl k)
    show own_Go p e below PO (T180.setTop (mkF m 176 #[.val (.int pA), .val (.int pB), .val (.int pC), .val (.int pD), .val (.int pE), .val (.ref b1), .val (.ref b155), .val (.ref b162), .val .null, .val (.ref b173), .val (.int (1 : Int32))] [(.ref b173)]))
    obtain ⟨cq201, kq201, q201a, q201b, q201c⟩ := isOf hZ rfl f180_187
    obtain ⟨_, _, ⟨T201, L201, k201, n201⟩, -, X201, ⟨Lc201, hQ201, l201, y201, z201⟩, st201⟩ := X180.virtualBack hx (y := (⟨"com/example/nearbound/nearbound/dcop/Constraint", "isHard", "()Z"⟩ : MethodName)) (z := (⟨"com/example/nearbound/nearbound/dcop/Constraint", "isHard", "()Z"⟩ : MethodName)) hown (mvT hZ (hw _ (List.mem_of_getElem? (i := 56) rfl))) (mvT hZ (hw _ (List.mem_of_getElem? (i := 57) rfl))) (notFace_of_selects (args := #[]) (mvT hZ (hw _ (List.mem_of_getElem? (i := 59) rfl)))) (mvT hZ (hw _ (List.mem_of_getElem? (i := 59) rfl))) (mvT hZ (hw _ (List.mem_of_getElem? (i := 58) rfl))) (by decide) (backOf (W := 0) (rmH l Z a0 hw [] b173 aN k1 (own_entry pA) (own_entry pB) (own_entry pC) (own_entry pD) T180.heap n0 Zh180 FS VN) hZ (hw _ (List.mem_of_getElem? (i := 60) rfl)) (hw _ (List.mem_of_getElem? (i := 9) rfl)) (by decide) (by decide)) q201a q201c (g := (mkF m 176 #[.val (.int pA), .val (.int pB), .val (.int pC), .val (.int pD), .val (.int pE), .val (.ref b1), .val (.ref b155), .val (.ref b162), .val .null, .val (.ref b173), .val (.int (1 : Int32))] [(.ref b173)])) rfl (by rw [hml]; rfl) (Steps.refl _) (argsL := []) (rest := []) (lenOf pd_4 rfl) rfl (by show 2 * 0 + _ ≤ _; exact Nat.le_of_eq rfl) (hb hby at_176) (fun _ _ => ⟨rfl, rfl, (by decide : 10 + 0 ≤ _), (by decide : 50 + 0 ≤ _)⟩)
    dsimp only [Pt.U, Pt.locs, Pt.cells, Pt.slots] at X201 l201 y201 z201 st201 hQ201
    subst l201 y201 z201
    obtain ⟨rfl, N201q, e201⟩ := hQ201
    have N201 := Fr.app N180 N201q
    refine own_back ?_ (fun t k => st201.trans k)
    show own_Go p e below PO (T201.setTop (mkF m 179 #[.val (.int pA), .val (.int pB), .val (.int pC), .val (.int pD), .val (.int pE), .val (.ref b1), .val (.ref b155), .val (.ref b162), .val .null, .val (.ref b173), .val (.int (1 : Int32))] [(.int (own_hard (own_entry pA) (own_entry pB) (own_entry pC) (own_entry pD)))]))
    refine own_gen (A := Int32) (own_hard (own_entry pA) (own_entry pB) (own_entry pC) (own_entry pD)) (fun r176_202 => own_Go p e below PO (T201.setTop (mkF m 179 #[.val (.int pA), .val (.int pB), .val (.int pC), .val (.int pD), .val (.int pE), .val (.ref b1), .val (.ref b155), .val (.ref b162), .val .null, .val (.ref b173), .val (.int (1 : Int32))] [(.int r176_202)]))) ?_
    intro r176_202 h_r176_202
    show own_Go p e below PO (T201.setTop (mkF m 179 #[.val (.int pA), .val (.int pB), .val (.int pC), .val (.int pD), .val (.int pE), .val (.ref b1), .val (.ref b155), .val (.ref b162), .val .null, .val (.ref b173), .val (.int (1 : Int32))] [(.int r176_202)]))
    refine own_back ?_ (fun t k => XS.iload X201.here hx rfl (hb hby at_179) rfl k)
    show own_Go p e below PO (T201.setTop (mkF m 181 #[.val (.int pA), .val (.int pB), .val (.int pC), .val (.int pD), .val (.int pE), .val (.ref b1), .val (.ref b155), .val (.ref b162), .val .null, .val (.ref b173), .val (.int (1 : Int32))] [(.int (1 : Int32)), (.int r176_202)]))
    have hd181_203 : r176_202 = (1 : Int32) := by rw [h_r176_202]; simp [own_hard, own_ent1 hc146_188, own_ent1 hc152_192, own_ent1 hc158_196, own_ent0 hc164_200]
    refine own_back ?_ (fun t k => XS.icmpNo X201.here hx rfl (hb hby at_181) rfl (teq hd181_203).2 k)
    show own_Go p e below PO (T201.setTop (mkF m 184 #[.val (.int pA), .val (.int pB), .val (.int pC), .val (.int pD), .val (.int pE), .val (.ref b1), .val (.ref b155), .val (.ref b162), .val .null, .val (.ref b173), .val (.int (1 : Int32))] []))
    refine own_back ?_ (fun t k => XS.iconst X201.here hx rfl (hb hby at_184) k)
    show own_Go p e below PO (T201.setTop (mkF m 185 #[.val (.int pA), .val (.int pB), .val (.int pC), .val (.int pD), .val (.int pE), .val (.ref b1), .val (.ref b155), .val (.ref b162), .val .null, .val (.ref b173), .val (.int (1 : Int32))] [(.int (1 : Int32))]))
    refine own_back ?_ (fun t k => XS.goto X201.here hx rfl (pc0 := 185) (pc' := 189) rfl (hb hby at_185) (by decide) (by decide) k)
    show own_Go p e below PO (T201.setTop (mkF m 189 #[.val (.int pA), .val (.int pB), .val (.int pC), .val (.int pD), .val (.int pE), .val (.ref b1), .val (.ref b155), .val (.ref b162), .val .null, .val (.ref b173), .val (.int (1 : Int32))] [(.int (1 : Int32))]))
    refine own_retNW X201 hx (t := .boolean) (rest := []) Bd.returns (by decide) (by simp) (hb hby at_189) e201 (Bd.notSynchronized) ?_ (by decide) (by decide) (s := s) (vm0 := T180.vm) hS180 (Nat.le_refl _)
    exact ⟨rfl, N201⟩
  refine own_back ?_ (fun t k => XS.ifYes X180.here hx rfl (pc0 := 164) (pc' := 171) rfl (hb hby at_164) rfl ((if0 _ _).trans (feq hc164_200).2) (by decide) (by decide) k)
  show own_Go p e below PO (T180.setTop (mkF m 171 #[.val (.int pA), .val (.int pB), .val (.int pC), .val (.int pD), .val (.int pE), .val (.ref b1), .val (.ref b155), .val (.ref b162), .val .null, .val (.ref b173), .unset] []))
  refine own_back ?_ (fun t k => XS.iconst X180.here hx rfl (hb hby at_171) k)
  show own_Go p e below PO (T180.setTop (mkF m 172 #[.val (.int pA), .val (.int pB), .val (.int pC), .val (.int pD), .val (.int pE), .val (.ref b1), .val (.ref b155), .val (.ref b162), .val .null, .val (.ref b173), .unset] [(.int (0 : Int32))]))
  refine own_back ?_ (fun t k => XS.istore X180.here hx rfl (hb hby at_172) rfl (l' := #[.val (.int pA), .val (.int pB), .val (.int pC), .val (.int pD), .val (.int pE), .val (.ref b1), .val (.ref b155), .val (.ref b162), .val .null, .val (.ref b173), .val (.int (0 : Int32))]) rfl k)
  show own_Go p e below PO (T180.setTop (mkF m 174 #[.val (.int pA), .val (.int pB), .val (.int pC), .val (.int pD), .val (.int pE), .val (.ref b1), .val (.ref b155), .val (.ref b162), .val .null, .val (.ref b173), .val (.int (0 : Int32))] []))
  refine own_back ?_ (fun t k => XS.aload X180.here hx rfl (hb hby at_174) rfl rfl k)
  show own_Go p e below PO (T180.setTop (mkF m 176 #[.val (.int pA), .val (.int pB), .val (.int pC), .val (.int pD), .val (.int pE), .val (.ref b1), .val (.ref b155), .val (.ref b162), .val .null, .val (.ref b173), .val (.int (0 : Int32))] [(.ref b173)]))
  obtain ⟨cq204, kq204, q204a, q204b, q204c⟩ := isOf hZ rfl f180_187
  obtain ⟨_, _, ⟨T204, L204, k204, n204⟩, -, X204, ⟨Lc204, hQ204, l204, y204, z204⟩, st204⟩ := X180.virtualBack hx (y := (⟨"com/example/nearbound/nearbound/dcop/Constraint", "isHard", "()Z"⟩ : MethodName)) (z := (⟨"com/example/nearbound/nearbound/dcop/Constraint", "isHard", "()Z"⟩ : MethodName)) hown (mvT hZ (hw _ (List.mem_of_getElem? (i := 56) rfl))) (mvT hZ (hw _ (List.mem_of_getElem? (i := 57) rfl))) (notFace_of_selects (args := #[]) (mvT hZ (hw _ (List.mem_of_getElem? (i := 59) rfl)))) (mvT hZ (hw _ (List.mem_of_getElem? (i := 59) rfl))) (mvT hZ (hw _ (List.mem_of_getElem? (i := 58) rfl))) (by decide) (backOf (W := 0) (rmH l Z a0 hw [] b173 aN k1 (own_entry pA) (own_entry pB) (own_entry pC) (own_entry pD) T180.heap n0 Zh180 FS VN) hZ (hw _ (List.mem_of_getElem? (i := 60) rfl)) (hw _ (List.mem_of_getElem? (i := 9) rfl)) (by decide) (by decide)) q204a q204c (g := (mkF m 176 #[.val (.int pA), .val (.int pB), .val (.int pC), .val (.int pD), .val (.int pE), .val (.ref b1), .val (.ref b155), .val (.ref b162), .val .null, .val (.ref b173), .val (.int (0 : Int32))] [(.ref b173)])) rfl (by rw [hml]; rfl) (Steps.refl _) (argsL := []) (rest := []) (lenOf pd_4 rfl) rfl (by show 2 * 0 + _ ≤ _; exact Nat.le_of_eq rfl) (hb hby at_176) (fun _ _ => ⟨rfl, rfl, (by decide : 10 + 0 ≤ _), (by decide : 50 + 0 ≤ _)⟩)
  dsimp only [Pt.U, Pt.locs, Pt.cells, Pt.slots] at X204 l204 y204 z204 st204 hQ204
  subst l204 y204 z204
  obtain ⟨rfl, N204q, e204⟩ := hQ204
  have N204 := Fr.app N180 N204q
  refine own_back ?_ (fun t k => st204.trans k)
  show own_Go p e below PO (T204.setTop (mkF m 179 #[.val (.int pA), .val (.int pB), .val (.int pC), .val (.int pD), .val (.int pE), .val (.ref b1), .val (.ref b155), .val (.ref b162), .val .null, .val (.ref b173), .val (.int (0 : Int32))] [(.int (own_hard (own_entry pA) (own_entry pB) (own_entry pC) (own_entry pD)))]))
  refine own_gen (A := Int32) (own_hard (own_entry pA) (own_entry pB) (own_entry pC) (own_entry pD)) (fun r176_205 => own_Go p e below PO (T204.setTop (mkF m 179 #[.val (.int pA), .val (.int pB), .val (.int pC), .val (.int pD), .val (.int pE), .val (.ref b1), .val (.ref b155), .val (.ref b162), .val .null, .val (.ref b173), .val (.int (0 : Int32))] [(.int r176_205)]))) ?_
  intro r176_205 h_r176_205
  show own_Go p e below PO (T204.setTop (mkF m 179 #[.val (.int pA), .val (.int pB), .val (.int pC), .val (.int pD), .val (.int pE), .val (.ref b1), .val (.ref b155), .val (.ref b162), .val .null, .val (.ref b173), .val (.int (0 : Int32))] [(.int r176_205)]))
  refine own_back ?_ (fun t k => XS.iload X204.here hx rfl (hb hby at_179) rfl k)
  show own_Go p e below PO (T204.setTop (mkF m 181 #[.val (.int pA), .val (.int pB), .val (.int pC), .val (.int pD), .val (.int pE), .val (.ref b1), .val (.ref b155), .val (.ref b162), .val .null, .val (.ref b173), .val (.int (0 : Int32))] [(.int (0 : Int32)), (.int r176_205)]))
  have hd181_206 : r176_205 = (0 : Int32) := by rw [h_r176_205]; simp [own_hard, own_ent1 hc146_188, own_ent1 hc152_192, own_ent1 hc158_196, own_ent1 hc164_200]
  refine own_back ?_ (fun t k => XS.icmpNo X204.here hx rfl (hb hby at_181) rfl (teq hd181_206).2 k)
  show own_Go p e below PO (T204.setTop (mkF m 184 #[.val (.int pA), .val (.int pB), .val (.int pC), .val (.int pD), .val (.int pE), .val (.ref b1), .val (.ref b155), .val (.ref b162), .val .null, .val (.ref b173), .val (.int (0 : Int32))] []))
  refine own_back ?_ (fun t k => XS.iconst X204.here hx rfl (hb hby at_184) k)
  show own_Go p e below PO (T204.setTop (mkF m 185 #[.val (.int pA), .val (.int pB), .val (.int pC), .val (.int pD), .val (.int pE), .val (.ref b1), .val (.ref b155), .val (.ref b162), .val .null, .val (.ref b173), .val (.int (0 : Int32))] [(.int (1 : Int32))]))
  refine own_back ?_ (fun t k => XS.goto X204.here hx rfl (pc0 := 185) (pc' := 189) rfl (hb hby at_185) (by decide) (by decide) k)
  show own_Go p e below PO (T204.setTop (mkF m 189 #[.val (.int pA), .val (.int pB), .val (.int pC), .val (.int pD), .val (.int pE), .val (.ref b1), .val (.ref b155), .val (.ref b162), .val .null, .val (.ref b173), .val (.int (0 : Int32))] [(.int (1 : Int32))]))
  refine own_retNW X204 hx (t := .boolean) (rest := []) Bd.returns (by decide) (by simp) (hb hby at_189) e204 (Bd.notSynchronized) ?_ (by decide) (by decide) (s := s) (vm0 := T180.vm) hS180 (Nat.le_refl _)
  exact ⟨rfl, N204⟩
set_option maxRecDepth 65536 in
set_option maxHeartbeats 40000000 in
theorem comes_1 {Post : Tables → Env → Array Value → State → Outcome → State → Prop} (hpost : ∀ tb e args s v u, (limb_1_1.after args s (.returned v) u = true ∧ limb_1_2.after args s (.returned v) u = true ∧ True) → ReturnedEndW s (.returned v) u (Jvm.fieldLocs frame_1_writes args s ++ Jvm.arrayLocs frame_1_arrays args s ++ Jvm.staticLocs frame_1_statics s) 32 2240 → Post tb e args s (.returned v) u) :
    ArmFor flags0 classFile x code maxLocals ret World_1 tables_1 room_1 Calls_1 rest_1 Pre_1 Post := by
  intro l hfl _ _ p e ha hc hk s m args below hf hA hF happ hP
  obtain ⟨hcalls, hrest, hpre⟩ := hP
  obtain ⟨-, -, -, hnamed, -, -, -, hat⟩ := (Spec.applies_iff hf).mp happ
  obtain ⟨hg, hn⟩ := and_e (Cond.before_iff.mp (show (Jvm.Cond.and given_1 narrow_1).before args s = true from hpre))
  obtain ⟨gc, g0⟩ := and_e hg
  obtain ⟨ga0, g1⟩ := and_e g0
  obtain ⟨ga1, g2⟩ := and_e g1
  obtain ⟨ga2, g3⟩ := and_e g2
  obtain ⟨ga3, g4⟩ := and_e g3
  obtain ⟨w0, w1, w2, w3, w4, rfl⟩ : ∃ w0 w1 w2 w3 w4 : Value, args = #[w0, w1, w2, w3, w4] := by
    have hs : args.size = 5 := by simpa [Cond.value, given_1] using gc
    obtain ⟨L⟩ := args
    match L, hs with
    | [w0, w1, w2, w3, w4], _ => exact ⟨w0, w1, w2, w3, w4, rfl⟩
  have hw := fun d (hd : d ∈ tables_1) => atoms_spec (ws := Jvm.Cond.code x code maxLocals ret :: tables_1) hat d (List.mem_cons_of_mem _ hd)
  obtain ⟨i0, ei0⟩ := is_v ga0
  obtain rfl : w0 = (.int i0) := Option.some.inj ei0
  obtain ⟨i1, ei1⟩ := is_v ga1
  obtain rfl : w1 = (.int i1) := Option.some.inj ei1
  obtain ⟨i2, ei2⟩ := is_v ga2
  obtain rfl : w2 = (.int i2) := Option.some.inj ei2
  obtain ⟨i3, ei3⟩ := is_v ga3
  obtain rfl : w3 = (.int i3) := Option.some.inj ei3
  obtain ⟨i4, ei4⟩ := is_v g4
  obtain rfl : w4 = (.int i4) := Option.some.inj ei4
  obtain ⟨n, o, h1, h2, h3, _, L, rfl, ⟨rfl, N⟩, hq⟩ := rm0 l s _ hw tables_1 i0 i1 i2 i3 i4  s.heap s.heap.size (Nat.le_refl _)  p e ha hc hk s m _ below hf ((Spec.applies_iff_loose hf).mp happ).1 ⟨rfl, State.Warmed39.refl s, rfl⟩ trivial
  refine ⟨n, _, h1, h2, h3, hpost _ _ _ _ _ _ ⟨Cond.after_iff.mpr rfl, Cond.after_iff.mpr (eq_i res_at (Term.int_eval (1)) rfl), trivial⟩ ⟨hq.1, hq.2.1, hq.2.2.1, (hq.2.2.2.sift fun y hy => Or.inr (N y hy)).mono (by decide) (by decide)⟩⟩
theorem main_1_1 : Claimed_1_1 := comes_1 fun _ _ _ _ _ _ h hF => ⟨h.1, hF⟩
theorem main_1_2 : Claimed_1_2 := comes_1 fun _ _ _ _ _ _ h hF => ⟨h.2.1, hF⟩
end Jvm.Pilot.@@N@@
namespace Jvm.Pilot.@@N@@
open Jvm Jvm.ClassFile Sem Op Lib Jvm.Free Jvm.Stand Jvm.Pilot.@@N@@.Jvm.D
/-! MADE BY PROGRAM (witnessworld.py) out of the Statement's table words and the real class files: 15 classes; the members and pool entries that the words name. The judged class is class 1, her method 2. -/
namespace start1
open Jvm.ClassFile
def u (s : String) : CpInfo := .utf8 (stringToUtf16 s)
/-- a pool by its gaps: so many unusable entries, then the entry; so many at the end -/
def gap : Nat → List CpInfo → List CpInfo
  | 0, r => r
  | n + 1, r => .unusable :: gap n r
def poolList (es : List (Nat × CpInfo)) (last : Nat) : List CpInfo := es.foldr (fun e r => gap e.1 (e.2 :: r)) (gap last [])
def pool (es : List (Nat × CpInfo)) (last : Nat) : Array CpInfo := ⟨poolList es last⟩
def fileOf (pool : Array CpInfo) (this : Nat) (attrs : Array Attribute := #[]) (ms : Array MethodInfo := #[]) (fl : Nat := 33) (sup : Nat := 0) (ifs : Array Nat := #[]) (fds : Array FieldInfo := #[]) : ClassFile where
  minorVersion := 0
  majorVersion := 65
  constantPool := pool
  accessFlags := fl
  thisClass := this
  superClass := sup
  interfaces := ifs
  fields := fds
  methods := ms
  attributes := attrs
def plain (name : String) (sup : Option ClassId) : Class where
  name := name
  kind := .ordinary
  loader := none
  accessFlags := 33
  super := sup
  interfaces := #[]
  cf := none
  fields := #[]
  methods := #[]
  instanceTypes := #[]
  staticTypes := #[]
  resolved := #[]
  callSites := []
  init := .initialized
  statics := none
  mirror := none

def pool0 : Array CpInfo := pool [(5, u "<init>"), (0, u "()V"), (1, .class_ 10), (1, u "java/lang/Object"), (85, u "clone"), (0, u "()Ljava/lang/Object;")] 26

def k0c0 : Code := { maxStack := 0, maxLocals := 1, code := object_method_1_code, exceptionTable := #[], attributes := #[] }
def k0m0 : Method := { name := "<init>", desc := "()V", sig := { parameters := [], returnType := none }, accessFlags := 1, code := some k0c0 }
def k0m1 : Method := { name := "clone", desc := "()Ljava/lang/Object;", sig := { parameters := [], returnType := some (.object "java/lang/Object") }, accessFlags := 260, code := none }
/-- java/lang/Object -/
def k0 : Class := { plain "java/lang/Object" none with
  accessFlags := 33
  interfaces := #[]
  cf := some (fileOf pool0 8 #[] #[{ accessFlags := 1, nameIndex := 5, descriptorIndex := 6, attributes := #[] }, { accessFlags := 260, nameIndex := 96, descriptorIndex := 97, attributes := #[] }] 33 0 #[] #[])
  fields := #[]
  methods := #[k0m0, k0m1]
  instanceTypes := #[]
  staticTypes := #[]
  resolved := Array.replicate 124 none
  statics := none }

def pool1 : Array CpInfo := pool [(2, .class_ 4), (1, u "java/lang/Object"), (0, u "<init>"), (0, u "()V"), (0, .class_ 8), (0, u "com/example/nearbound/nearbound/dcop/Constraint"), (0, .double 18442240474082181120), (1, .methodref 12 13), (0, .class_ 14), (0, .nameAndType 15 16), (0, u "com/example/nearbound/nearbound/dcop/ConstraintIsHardPinLaw"), (0, u "entry"), (0, u "(I)D"), (0, .double 4611686018427387904), (1, .double 4613937818241073152), (1, .methodref 7 22), (0, .nameAndType 5 23), (0, u "([I[I[D[D)V"), (0, .methodref 7 25), (0, .nameAndType 26 27), (0, u "isHard"), (0, u "()Z"), (3, u "law"), (0, u "(IIIII)Z")] 6

def k1m0 : Method := { name := "<init>", desc := "()V", sig := { parameters := [], returnType := none }, accessFlags := 1, code := none }
def k1c1 : Code := { maxStack := 2, maxLocals := 1, code := method_2_code, exceptionTable := #[], attributes := #[] }
def k1m1 : Method := { name := "entry", desc := "(I)D", sig := { parameters := [.int], returnType := some .double }, accessFlags := 10, code := some k1c1 }
def k1c2 : Code := { maxStack := 6, maxLocals := 11, code := code, exceptionTable := #[], attributes := #[] }
def k1m2 : Method := { name := "law", desc := "(IIIII)Z", sig := { parameters := [.int, .int, .int, .int, .int], returnType := some .boolean }, accessFlags := 9, code := some k1c2 }
/-- com/example/nearbound/nearbound/dcop/ConstraintIsHardPinLaw -/
def k1 : Class := { plain "com/example/nearbound/nearbound/dcop/ConstraintIsHardPinLaw" (some 0) with
  accessFlags := 49
  interfaces := #[]
  cf := some (fileOf pool1 12 #[] #[{ accessFlags := 1, nameIndex := 5, descriptorIndex := 6, attributes := #[] }, { accessFlags := 10, nameIndex := 15, descriptorIndex := 16, attributes := #[] }, { accessFlags := 9, nameIndex := 31, descriptorIndex := 32, attributes := #[] }] 49 2 #[] #[])
  fields := #[]
  methods := #[k1m0, k1m1, k1m2]
  instanceTypes := #[]
  staticTypes := #[]
  resolved := Array.replicate 39 none
  statics := none }

def pool2 : Array CpInfo := pool [(3, .methodref 4 5), (0, .class_ 6), (0, .nameAndType 7 8), (0, u "java/lang/Object"), (0, u "<init>"), (0, u "()V"), (7, .methodref 17 18), (0, .class_ 19), (0, .nameAndType 20 21), (0, u "[I"), (0, u "clone"), (0, u "()Ljava/lang/Object;"), (0, .fieldref 23 24), (0, .class_ 25), (0, .nameAndType 26 19), (0, u "com/example/nearbound/nearbound/dcop/Constraint"), (0, u "scope"), (0, .fieldref 23 28), (0, .nameAndType 29 19), (0, u "sizes"), (0, .fieldref 23 31), (0, .nameAndType 32 19), (0, u "strides"), (0, .methodref 34 35), (0, .class_ 36), (0, .nameAndType 37 38), (0, u "java/lang/Math"), (0, u "multiplyExact"), (0, u "(II)I"), (0, .string 40), (0, u "rewards"), (0, .methodref 23 42), (0, .nameAndType 43 44), (0, u "checkTable"), (0, u "([DILjava/lang/String;)[D"), (0, .fieldref 23 46), (0, .nameAndType 40 47), (0, u "[D"), (4, .string 53), (0, u "costs"), (0, .fieldref 23 55), (0, .nameAndType 53 47), (3, .methodref 60 18), (0, .class_ 47), (11, u "()Z"), (7, .double 18442240474082181120), (26, u "FORBIDDEN"), (0, u "D"), (1, u "([I[I[D[D)V"), (17, u "isHard")] 26

def k2c0 : Code := { maxStack := 4, maxLocals := 7, code := prog_2_method_1_code, exceptionTable := #[], attributes := #[] }
def k2m0 : Method := { name := "<init>", desc := "([I[I[D[D)V", sig := { parameters := [(.array .int), (.array .int), (.array .double), (.array .double)], returnType := none }, accessFlags := 1, code := some k2c0 }
def k2c1 : Code := { maxStack := 5, maxLocals := 3, code := prog_2_method_2_code, exceptionTable := #[], attributes := #[] }
def k2m1 : Method := { name := "checkTable", desc := "([DILjava/lang/String;)[D", sig := { parameters := [(.array .double), .int, (.object "java/lang/String")], returnType := some (.array .double) }, accessFlags := 10, code := some k2c1 }
def k2c2 : Code := { maxStack := 4, maxLocals := 6, code := prog_2_method_12_code, exceptionTable := #[], attributes := #[] }
def k2m2 : Method := { name := "isHard", desc := "()Z", sig := { parameters := [], returnType := some .boolean }, accessFlags := 1, code := some k2c2 }
/-- com/example/nearbound/nearbound/dcop/Constraint -/
def k2 : Class := { plain "com/example/nearbound/nearbound/dcop/Constraint" (some 0) with
  accessFlags := 49
  interfaces := #[]
  cf := some (fileOf pool2 23 #[] #[{ accessFlags := 1, nameIndex := 7, descriptorIndex := 110, attributes := #[] }, { accessFlags := 10, nameIndex := 43, descriptorIndex := 44, attributes := #[] }, { accessFlags := 1, nameIndex := 128, descriptorIndex := 72, attributes := #[] }] 49 4 #[] #[{ accessFlags := 25, nameIndex := 107, descriptorIndex := 108, attributes := #[] }, { accessFlags := 18, nameIndex := 26, descriptorIndex := 19, attributes := #[] }, { accessFlags := 18, nameIndex := 29, descriptorIndex := 19, attributes := #[] }, { accessFlags := 18, nameIndex := 32, descriptorIndex := 19, attributes := #[] }, { accessFlags := 18, nameIndex := 40, descriptorIndex := 47, attributes := #[] }, { accessFlags := 18, nameIndex := 53, descriptorIndex := 47, attributes := #[] }])
  fields := #[{ name := "FORBIDDEN", type := .double, accessFlags := 25, slot := 0, constantValue := 0 }, { name := "scope", type := (.array .int), accessFlags := 18, slot := 0, constantValue := 0 }, { name := "sizes", type := (.array .int), accessFlags := 18, slot := 1, constantValue := 0 }, { name := "strides", type := (.array .int), accessFlags := 18, slot := 2, constantValue := 0 }, { name := "rewards", type := (.array .double), accessFlags := 18, slot := 3, constantValue := 0 }, { name := "costs", type := (.array .double), accessFlags := 18, slot := 4, constantValue := 0 }]
  methods := #[k2m0, k2m1, k2m2]
  instanceTypes := #[(.array .int), (.array .int), (.array .int), (.array .double), (.array .double)]
  staticTypes := #[.double]
  resolved := Array.replicate 155 none
  statics := none }

def pool3 : Array CpInfo := pool [(1, .class_ 2), (0, u "java/lang/Cloneable"), (0, .class_ 4), (0, u "java/lang/Object")] 2

/-- java/lang/Cloneable -/
def k3 : Class := { plain "java/lang/Cloneable" (some 0) with
  accessFlags := 1537
  interfaces := #[]
  cf := some (fileOf pool3 1 #[] #[] 1537 3 #[] #[])
  fields := #[]
  methods := #[]
  instanceTypes := #[]
  staticTypes := #[]
  resolved := Array.replicate 7 none
  statics := none }

def pool4 : Array CpInfo := pool [(1, .class_ 2), (0, u "java/lang/Math"), (1, .class_ 6), (1, u "java/lang/Object"), (0, u "<init>"), (0, u "()V"), (89, .class_ 100), (1, u "java/lang/Math$RandomNumberGeneratorHolder"), (19, u "multiplyExact"), (51, u "negativeZeroFloatBits"), (0, u "J"), (2, u "negativeZeroDoubleBits"), (68, u "$assertionsDisabled"), (0, u "Z"), (88, u "(II)I"), (2, u "twoToTheDoubleScaleDown"), (0, u "D"), (4, u "twoToTheDoubleScaleUp"), (9, u "E"), (3, u "PI"), (2, u "TAU"), (2, u "DEGREES_TO_RADIANS"), (0, u "RADIANS_TO_DEGREES")] 94

def k4m0 : Method := { name := "<init>", desc := "()V", sig := { parameters := [], returnType := none }, accessFlags := 2, code := none }
def k4c1 : Code := { maxStack := 4, maxLocals := 4, code := jdk_29_method_28_code, exceptionTable := #[], attributes := #[] }
def k4m1 : Method := { name := "multiplyExact", desc := "(II)I", sig := { parameters := [.int, .int], returnType := some .int }, accessFlags := 9, code := some k4c1 }
/-- java/lang/Math -/
def k4 : Class := { plain "java/lang/Math" (some 0) with
  accessFlags := 49
  interfaces := #[]
  cf := some (fileOf pool4 1 #[.nestMembers #[98]] #[{ accessFlags := 2, nameIndex := 7, descriptorIndex := 8, attributes := #[] }, { accessFlags := 9, nameIndex := 120, descriptorIndex := 335, attributes := #[] }] 49 4 #[] #[{ accessFlags := 25, nameIndex := 354, descriptorIndex := 339, attributes := #[] }, { accessFlags := 25, nameIndex := 358, descriptorIndex := 339, attributes := #[] }, { accessFlags := 25, nameIndex := 361, descriptorIndex := 339, attributes := #[] }, { accessFlags := 26, nameIndex := 364, descriptorIndex := 339, attributes := #[] }, { accessFlags := 26, nameIndex := 365, descriptorIndex := 339, attributes := #[] }, { accessFlags := 26, nameIndex := 172, descriptorIndex := 173, attributes := #[] }, { accessFlags := 26, nameIndex := 176, descriptorIndex := 173, attributes := #[] }, { accessFlags := 8, nameIndex := 344, descriptorIndex := 339, attributes := #[] }, { accessFlags := 8, nameIndex := 338, descriptorIndex := 339, attributes := #[] }, { accessFlags := 4120, nameIndex := 245, descriptorIndex := 246, attributes := #[] }])
  fields := #[{ name := "E", type := .double, accessFlags := 25, slot := 0, constantValue := 0 }, { name := "PI", type := .double, accessFlags := 25, slot := 1, constantValue := 0 }, { name := "TAU", type := .double, accessFlags := 25, slot := 2, constantValue := 0 }, { name := "DEGREES_TO_RADIANS", type := .double, accessFlags := 26, slot := 3, constantValue := 0 }, { name := "RADIANS_TO_DEGREES", type := .double, accessFlags := 26, slot := 4, constantValue := 0 }, { name := "negativeZeroFloatBits", type := .long, accessFlags := 26, slot := 5, constantValue := 0 }, { name := "negativeZeroDoubleBits", type := .long, accessFlags := 26, slot := 6, constantValue := 0 }, { name := "twoToTheDoubleScaleUp", type := .double, accessFlags := 8, slot := 7, constantValue := 0 }, { name := "twoToTheDoubleScaleDown", type := .double, accessFlags := 8, slot := 8, constantValue := 0 }, { name := "$assertionsDisabled", type := .boolean, accessFlags := 4120, slot := 9, constantValue := 0 }]
  methods := #[k4m0, k4m1]
  instanceTypes := #[]
  staticTypes := #[.double, .double, .double, .double, .double, .long, .long, .double, .double, .boolean]
  resolved := Array.replicate 460 none
  statics := none }

def pool5 : Array CpInfo := pool [(1, .class_ 2), (0, u "java/io/Serializable"), (0, .class_ 4), (0, u "java/lang/Object")] 2

/-- java/io/Serializable -/
def k5 : Class := { plain "java/io/Serializable" (some 0) with
  accessFlags := 1537
  interfaces := #[]
  cf := some (fileOf pool5 1 #[] #[] 1537 3 #[] #[])
  fields := #[]
  methods := #[]
  instanceTypes := #[]
  staticTypes := #[]
  resolved := Array.replicate 7 none
  statics := none }

def pool6 : Array CpInfo := pool [(1, .class_ 2), (0, u "java/lang/Comparable"), (0, .class_ 4), (0, u "java/lang/Object")] 7

/-- java/lang/Comparable -/
def k6 : Class := { plain "java/lang/Comparable" (some 0) with
  accessFlags := 1537
  interfaces := #[]
  cf := some (fileOf pool6 1 #[] #[] 1537 3 #[] #[])
  fields := #[]
  methods := #[]
  instanceTypes := #[]
  staticTypes := #[]
  resolved := Array.replicate 12 none
  statics := none }

def pool7 : Array CpInfo := pool [(2, .class_ 4), (1, u "java/lang/CharSequence"), (42, .class_ 48), (0, u "java/lang/CharSequence$1CodePointIterator"), (10, .class_ 60), (0, u "java/lang/CharSequence$1CharIterator"), (5, .class_ 67), (0, u "java/lang/Object")] 63

/-- java/lang/CharSequence -/
def k7 : Class := { plain "java/lang/CharSequence" (some 0) with
  accessFlags := 1537
  interfaces := #[]
  cf := some (fileOf pool7 2 #[.nestMembers #[47, 59]] #[] 1537 66 #[] #[])
  fields := #[]
  methods := #[]
  instanceTypes := #[]
  staticTypes := #[]
  resolved := Array.replicate 131 none
  statics := none }

def pool8 : Array CpInfo := pool [(1, .class_ 2), (0, u "java/lang/constant/Constable"), (0, .class_ 4), (0, u "java/lang/Object")] 6

/-- java/lang/constant/Constable -/
def k8 : Class := { plain "java/lang/constant/Constable" (some 0) with
  accessFlags := 1537
  interfaces := #[]
  cf := some (fileOf pool8 1 #[] #[] 1537 3 #[] #[])
  fields := #[]
  methods := #[]
  instanceTypes := #[]
  staticTypes := #[]
  resolved := Array.replicate 11 none
  statics := none }

def pool9 : Array CpInfo := pool [(1, .class_ 2), (0, u "java/lang/constant/ConstantDesc"), (0, .class_ 4), (0, u "java/lang/Object")] 32

/-- java/lang/constant/ConstantDesc -/
def k9 : Class := { plain "java/lang/constant/ConstantDesc" (some 0) with
  accessFlags := 1537
  interfaces := #[]
  cf := some (fileOf pool9 1 #[] #[] 1537 3 #[] #[])
  fields := #[]
  methods := #[]
  instanceTypes := #[]
  staticTypes := #[]
  resolved := Array.replicate 37 none
  statics := none }

def pool10 : Array CpInfo := pool [(2, .class_ 4), (1, u "java/lang/Object"), (0, u "<init>"), (0, u "()V"), (3, .class_ 12), (1, u "java/lang/String"), (0, u "value"), (0, u "[B"), (2, u "coder"), (0, u "B"), (2, u "hash"), (0, u "I"), (2, u "hashIsZero"), (0, u "Z"), (13, u "COMPACT_STRINGS"), (534, .class_ 576), (0, u "java/lang/CharSequence"), (22, u "CASE_INSENSITIVE_ORDER"), (0, u "Ljava/util/Comparator;"), (500, u "serialPersistentFields"), (0, u "[Ljava/io/ObjectStreamField;"), (0, .class_ 1104), (0, u "java/lang/String$CaseInsensitiveComparator"), (1, .class_ 1107), (0, u "java/io/Serializable"), (0, .class_ 1109), (0, u "java/lang/Comparable"), (0, .class_ 1111), (0, u "java/lang/constant/Constable"), (0, .class_ 1113), (0, u "java/lang/constant/ConstantDesc"), (2, u "serialVersionUID"), (0, u "J"), (3, u "REPL"), (0, u "C"), (2, u "LATIN1"), (1, u "UTF16")] 323

def k10m0 : Method := { name := "<init>", desc := "()V", sig := { parameters := [], returnType := none }, accessFlags := 1, code := none }
/-- java/lang/String -/
def k10 : Class := { plain "java/lang/String" (some 0) with
  accessFlags := 49
  interfaces := #[5, 6, 7, 8, 9]
  cf := some (fileOf pool10 10 #[.nestMembers #[1103]] #[{ accessFlags := 1, nameIndex := 5, descriptorIndex := 6, attributes := #[] }] 49 2 #[1106, 1108, 575, 1110, 1112] #[{ accessFlags := 18, nameIndex := 13, descriptorIndex := 14, attributes := #[] }, { accessFlags := 18, nameIndex := 17, descriptorIndex := 18, attributes := #[] }, { accessFlags := 2, nameIndex := 21, descriptorIndex := 22, attributes := #[] }, { accessFlags := 2, nameIndex := 25, descriptorIndex := 26, attributes := #[] }, { accessFlags := 26, nameIndex := 1116, descriptorIndex := 1117, attributes := #[] }, { accessFlags := 24, nameIndex := 40, descriptorIndex := 26, attributes := #[] }, { accessFlags := 26, nameIndex := 1101, descriptorIndex := 1102, attributes := #[] }, { accessFlags := 26, nameIndex := 1121, descriptorIndex := 1122, attributes := #[] }, { accessFlags := 25, nameIndex := 599, descriptorIndex := 600, attributes := #[] }, { accessFlags := 24, nameIndex := 1125, descriptorIndex := 18, attributes := #[] }, { accessFlags := 24, nameIndex := 1127, descriptorIndex := 18, attributes := #[] }])
  fields := #[{ name := "value", type := (.array .byte), accessFlags := 18, slot := 0, constantValue := 0 }, { name := "coder", type := .byte, accessFlags := 18, slot := 1, constantValue := 0 }, { name := "hash", type := .int, accessFlags := 2, slot := 2, constantValue := 0 }, { name := "hashIsZero", type := .boolean, accessFlags := 2, slot := 3, constantValue := 0 }, { name := "serialVersionUID", type := .long, accessFlags := 26, slot := 0, constantValue := 0 }, { name := "COMPACT_STRINGS", type := .boolean, accessFlags := 24, slot := 1, constantValue := 0 }, { name := "serialPersistentFields", type := (.array (.object "java/io/ObjectStreamField")), accessFlags := 26, slot := 2, constantValue := 0 }, { name := "REPL", type := .char, accessFlags := 26, slot := 3, constantValue := 0 }, { name := "CASE_INSENSITIVE_ORDER", type := (.object "java/util/Comparator"), accessFlags := 25, slot := 4, constantValue := 0 }, { name := "LATIN1", type := .byte, accessFlags := 24, slot := 5, constantValue := 0 }, { name := "UTF16", type := .byte, accessFlags := 24, slot := 6, constantValue := 0 }]
  methods := #[k10m0]
  instanceTypes := #[(.array .byte), .byte, .int, .boolean]
  staticTypes := #[.long, .boolean, (.array (.object "java/io/ObjectStreamField")), .char, (.object "java/util/Comparator"), .byte, .byte]
  resolved := Array.replicate 1451 none
  statics := none }

/-- the primitive byte -/
def k11 : Class := { plain "byte" none with kind := .primitive 'B', accessFlags := 0x411 }
/-- [B -/
def k12 : Class := { plain "[B" (some 0) with kind := .array 11 .byte, interfaces := #[3, 5], accessFlags := 1041 }

/-- the primitive int -/
def k13 : Class := { plain "int" none with kind := .primitive 'I', accessFlags := 0x411 }
/-- [I -/
def k14 : Class := { plain "[I" (some 0) with kind := .array 13 .int, interfaces := #[3, 5], accessFlags := 1041 }

/-- the primitive double -/
def k15 : Class := { plain "double" none with kind := .primitive 'D', accessFlags := 0x411 }
/-- [D -/
def k16 : Class := { plain "[D" (some 0) with kind := .array 15 .double, interfaces := #[3, 5], accessFlags := 1041 }
def heap : Heap := #[]
def classes : Array Class := #[k0, k1, k2, k3, k4, k5, k6, k7, k8, k9, k10, k11, k12, k13, k14, k15, k16]
def interned : List (Array UInt16 × Addr) := []
def slotsUsed : Nat := 0
def theMethod : MethodId := ⟨1, 2⟩
def args0 : Array Value := #[.int 5, .int 5, .int 5, .int 5, .int 5]
def aboutOver (below : List Frame) : State where
  vm := { classes := classes, interned := interned.toArray }
  heap := heap
  slotsUsed := slotsUsed
  threads := #[{ frames := .invoking theMethod args0 :: below }]
def below0 : List Frame := [.native { method := ⟨0, 0⟩, args := #[] }]
def about1 : State := aboutOver below0
def p0 : Program := .bare "" "" ""
def e0 : Env := launch0.env 0 0 0
theorem w_frames : about1.frames = Frame.invoking theMethod args0 :: below0 := rfl
set_option maxRecDepth 65536 in
theorem w_args : argsFit about1.vm theMethod args0 = true := by decide +kernel
set_option maxRecDepth 65536 in
theorem w_heap : heapFits about1 = true := by decide +kernel
set_option maxRecDepth 65536 in
theorem w_runnable : about1.curStatus? = some .runnable := by decide +kernel
set_option maxRecDepth 65536 in
theorem w_alone : about1.alone = true := by decide +kernel
set_option maxRecDepth 65536 in
theorem w_named : about1.methodNamed? x = some theMethod := by decide +kernel
set_option maxRecDepth 65536 in
theorem w_hears : about1.hears theMethod below0 = true := by decide +kernel
set_option maxRecDepth 65536 in
theorem w_ripe : about1.ripe theMethod args0 below0 = true := by decide +kernel
theorem w_running : about1.status = .running := rfl
set_option maxRecDepth 65536 in
theorem w_room : about1.hasRoom e0.platform room_1 = true :=
  launch0.hasRoom_least _ room_1 (by decide +kernel) (by decide +kernel) (by decide +kernel) (by decide +kernel) (by decide +kernel) (by decide +kernel)
theorem allAtoms_all (ts : List Jvm.Cond) (a : Array Jvm.Value) (st : Jvm.State) : (allAtoms ts).before a st = ts.all (fun c => c.before a st) := by
  induction ts with
  | nil => rfl
  | cons c t ih =>
    show (Jvm.Cond.and c (allAtoms t)).before a st = _
    rw [Jvm.Cond.before_and, ih, List.all_cons]
def words1 : List Jvm.Cond := Jvm.Cond.code x code maxLocals ret :: tables_1
/-- a 'code' word, met by the world's own term for the bytes: nothing is compared byte by byte -/
theorem code_word {y : MethodName} {bytes : ByteArray} {mx : Nat} {rt : Option FieldType} {a : Array Value} {s : State} {m : MethodId} {meth : Method} {c : Code} (h1 : s.methodNamed? y = some m) (h2 : s.vm.method? m = some meth) (h3 : meth.code = some c) (h4 : c.code = bytes)
    (h5 : (c.maxLocals == mx && c.exceptionTable.isEmpty && decide (c.maxStack ≤ mostOperands) && decide (meth.sig.returnType = rt) && !meth.locks && decide (parseMethodDescriptor y.desc = some meth.sig)) = true) : (Jvm.Cond.code y bytes mx rt).before a s = true := by
  simp only [Bool.and_eq_true, beq_iff_eq, Bool.not_eq_true', decide_eq_true_eq] at h5
  obtain ⟨⟨⟨⟨⟨g1, g2⟩, g3⟩, g4⟩, g5⟩, g6⟩ := h5
  simp [Cond.before, Cond.holds, Cond.value, h1, h2, h3, h4, g1, g2, g3, g4, g5, g6]
def isCode : Jvm.Cond → Bool
  | .code _ _ _ _ => true
  | _ => false
theorem all_split {L : List Jvm.Cond} {P : Jvm.Cond → Bool} (h1 : L.all (fun c => isCode c || P c) = true) (h2 : ∀ c ∈ L.filter isCode, P c = true) : L.all P = true := by
  refine List.all_eq_true.mpr fun c hc => ?_
  have h := List.all_eq_true.mp h1 c hc
  rcases Bool.eq_false_or_eq_true (isCode c) with hi | hi
  · exact h2 c (List.mem_filter.mpr ⟨hc, hi⟩)
  · simpa [hi] using h
set_option maxRecDepth 65536 in
theorem w_c0 : (Jvm.Cond.code x code maxLocals ret).before args0 about1 = true := code_word (m := ⟨1, 2⟩) (meth := k1m2) (c := k1c2) (by decide +kernel) rfl rfl rfl (by decide +kernel)
set_option maxRecDepth 65536 in
theorem w_c1 : (Jvm.Cond.code ({ cls := "com/example/nearbound/nearbound/dcop/ConstraintIsHardPinLaw", name := "entry", desc := "(I)D" } : Jvm.MethodName) method_2_code (1 : Nat) (Option.some Jvm.ClassFile.FieldType.double)).before args0 about1 = true := code_word (m := ⟨1, 1⟩) (meth := k1m1) (c := k1c1) (by decide +kernel) rfl rfl rfl (by decide +kernel)
set_option maxRecDepth 65536 in
theorem w_c2 : (Jvm.Cond.code ({ cls := "com/example/nearbound/nearbound/dcop/Constraint", name := "<init>", desc := "([I[I[D[D)V" } : Jvm.MethodName) prog_2_method_1_code (7 : Nat) (Option.none : Option Jvm.ClassFile.FieldType)).before args0 about1 = true := code_word (m := ⟨2, 0⟩) (meth := k2m0) (c := k2c0) (by decide +kernel) rfl rfl rfl (by decide +kernel)
set_option maxRecDepth 65536 in
theorem w_c3 : (Jvm.Cond.code ({ cls := "java/lang/Object", name := "<init>", desc := "()V" } : Jvm.MethodName) object_method_1_code (1 : Nat) (Option.none : Option Jvm.ClassFile.FieldType)).before args0 about1 = true := code_word (m := ⟨0, 0⟩) (meth := k0m0) (c := k0c0) (by decide +kernel) rfl rfl rfl (by decide +kernel)
set_option maxRecDepth 65536 in
theorem w_c4 : (Jvm.Cond.code ({ cls := "java/lang/Math", name := "multiplyExact", desc := "(II)I" } : Jvm.MethodName) jdk_29_method_28_code (4 : Nat) (Option.some Jvm.ClassFile.FieldType.int)).before args0 about1 = true := code_word (m := ⟨4, 1⟩) (meth := k4m1) (c := k4c1) (by decide +kernel) rfl rfl rfl (by decide +kernel)
set_option maxRecDepth 65536 in
theorem w_c5 : (Jvm.Cond.code ({ cls := "com/example/nearbound/nearbound/dcop/Constraint", name := "checkTable", desc := "([DILjava/lang/String;)[D" } : Jvm.MethodName) prog_2_method_2_code (3 : Nat) (Option.some (Jvm.ClassFile.FieldType.array Jvm.ClassFile.FieldType.double))).before args0 about1 = true := code_word (m := ⟨2, 1⟩) (meth := k2m1) (c := k2c1) (by decide +kernel) rfl rfl rfl (by decide +kernel)
set_option maxRecDepth 65536 in
theorem w_c6 : (Jvm.Cond.code ({ cls := "com/example/nearbound/nearbound/dcop/Constraint", name := "isHard", desc := "()Z" } : Jvm.MethodName) prog_2_method_12_code (6 : Nat) (Option.some Jvm.ClassFile.FieldType.boolean)).before args0 about1 = true := code_word (m := ⟨2, 2⟩) (meth := k2m2) (c := k2c2) (by decide +kernel) rfl rfl rfl (by decide +kernel)
def codes1 : List Jvm.Cond := [Jvm.Cond.code x code maxLocals ret, Jvm.Cond.code ({ cls := "com/example/nearbound/nearbound/dcop/ConstraintIsHardPinLaw", name := "entry", desc := "(I)D" } : Jvm.MethodName) method_2_code (1 : Nat) (Option.some Jvm.ClassFile.FieldType.double), Jvm.Cond.code ({ cls := "com/example/nearbound/nearbound/dcop/Constraint", name := "<init>", desc := "([I[I[D[D)V" } : Jvm.MethodName) prog_2_method_1_code (7 : Nat) (Option.none : Option Jvm.ClassFile.FieldType), Jvm.Cond.code ({ cls := "java/lang/Object", name := "<init>", desc := "()V" } : Jvm.MethodName) object_method_1_code (1 : Nat) (Option.none : Option Jvm.ClassFile.FieldType), Jvm.Cond.code ({ cls := "java/lang/Math", name := "multiplyExact", desc := "(II)I" } : Jvm.MethodName) jdk_29_method_28_code (4 : Nat) (Option.some Jvm.ClassFile.FieldType.int), Jvm.Cond.code ({ cls := "com/example/nearbound/nearbound/dcop/Constraint", name := "checkTable", desc := "([DILjava/lang/String;)[D" } : Jvm.MethodName) prog_2_method_2_code (3 : Nat) (Option.some (Jvm.ClassFile.FieldType.array Jvm.ClassFile.FieldType.double)), Jvm.Cond.code ({ cls := "com/example/nearbound/nearbound/dcop/Constraint", name := "isHard", desc := "()Z" } : Jvm.MethodName) prog_2_method_12_code (6 : Nat) (Option.some Jvm.ClassFile.FieldType.boolean)]
set_option maxRecDepth 65536 in
theorem codes_eq : words1.filter isCode = codes1 := rfl
theorem w_codes : ∀ c ∈ words1.filter isCode, c.before args0 about1 = true := by
  rw [codes_eq]
  intro c hc
  simp only [codes1, List.mem_cons, List.not_mem_nil, or_false] at hc
  rcases hc with rfl | rfl | rfl | rfl | rfl | rfl | rfl
  · exact w_c0
  · exact w_c1
  · exact w_c2
  · exact w_c3
  · exact w_c4
  · exact w_c5
  · exact w_c6
set_option maxRecDepth 65536 in
theorem w_t1 : (words1.take 24).all (fun c => isCode c || c.before args0 about1) = true := by decide +kernel
set_option maxRecDepth 65536 in
theorem w_t2 : ((words1.drop 24).take 24).all (fun c => isCode c || c.before args0 about1) = true := by decide +kernel
set_option maxRecDepth 65536 in
theorem w_t3 : ((words1.drop 24).drop 24).all (fun c => isCode c || c.before args0 about1) = true := by decide +kernel
theorem w_tables : (allAtoms (Jvm.Cond.code x code maxLocals ret :: tables_1)).before args0 about1 = true := by
  rw [allAtoms_all]
  show words1.all (fun c => c.before args0 about1) = true
  refine all_split ?_ w_codes
  rw [← List.take_append_drop 24 words1, List.all_append, w_t1, ← List.take_append_drop 24 (words1.drop 24), List.all_append, w_t2, w_t3]
  rfl
set_option maxRecDepth 65536 in
theorem w_case : (Jvm.Cond.and given_1 narrow_1).before args0 about1 = true := by decide +kernel
theorem w_applies : (headSpec (Jvm.Cond.code x code maxLocals ret :: tables_1) room_1).applies x e0.platform about1 = true :=
  (Spec.applies_iff w_frames).mpr ⟨w_running, w_runnable, w_alone, w_named, w_hears, w_ripe, w_room, w_tables⟩
theorem atStart : AtStart classFile x code maxLocals ret World_1 tables_1 room_1 Calls_1 rest_1 Pre_1 launch0 p0 e0 about1 theMethod args0 below0 :=
  ⟨lists_1, trivial, launch0.admits_env _ _ _, launch0.least_env, fairChoices_fair.cas, fairChoices_fair.clock, w_frames, w_args, w_heap, w_applies, trivial, trivial, w_case⟩
end start1
theorem witness_1 : WitnessClaimed_1 := ⟨start1.p0, start1.e0, start1.about1, start1.theMethod, start1.args0, start1.below0, start1.atStart⟩
end Jvm.Pilot.@@N@@
