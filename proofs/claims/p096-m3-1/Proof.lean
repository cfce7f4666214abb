import JvmDerived
import JvmDerived.Pilot.@@N@@Statement
import JvmDerived.Pilot.@@N@@Code
set_option linter.unusedVariables false
set_option linter.unusedSimpArgs false
namespace Jvm.RoadKit
open Sem ClassFile Op Lib Jvm.Stand Jvm.Free Jvm.LawKit
/-! the goal of a walk, seen from where it stands -/
def own_Go (p : Program) (e : Env) (below : List Frame) (PO : Outcome → State → Prop) (U : State) : Prop :=
  ∃ s₂ o, Steps p.tables e below U s₂ ∧ s₂.status = .running ∧ Ended s₂ below o ∧ PO o s₂
def own_PO (s : State) (Q : Option Value → Heap → List Loc → Prop) (C N : Nat) : Outcome → State → Prop :=
  fun o U' => ∃ v L, o = .returned v ∧ Q v U'.heap L ∧ FrameEnd s o U' L C N
theorem own_back {p : Program} {e : Env} {below : List Frame} {PO : Outcome → State → Prop} {U V : State} (h : own_Go p e below PO V)
    (st : ∀ t, Steps p.tables e below V t → Steps p.tables e below U t) : own_Go p e below PO U := by
  obtain ⟨t, o, h1, h2⟩ := h
  exact ⟨t, o, st t h1, h2⟩
theorem own_gen {A : Type} (x : A) (P : A → Prop) (h : ∀ c, c = x → P c) : P x := h x rfl
section New
variable {p : Program} {l : Launch} {e : Env} {R : Room} {s : State} {m : MethodId} {args : Array Value} {below : List Frame} {meth : Method} {c : Code} {T : State} {locs : List Loc} {cells slots : Nat} {h : Heap}
  {Q : Option Value → Heap → List Loc → Prop} {C N : Nat}
theorem own_end (X : Stand p l e R s m args below meth c T locs cells slots) {v : Option Value} {U : State} (hv : meth.sig.returnType = none → v = none) (eT : T.heap = h) (hk : meth.locks = false)
    (st : ∀ fs, (∀ (f : JFrame) (acts : List Action), f.method = m → f.locked = none → f.entered = [] → (doReturn e (T.setTop f) acts v).1 = T.setFrames fs) → Steps p.tables e below U (T.setFrames fs))
    (hQ : Q v h locs) (hc : cells ≤ C) (hn : slots ≤ N) : own_Go p e below (own_PO s Q C N) U := by
  obtain ⟨fs, hr, hrun, hended, hW, hsame⟩ := X.leave (v := v) hv hk
  subst eT
  exact ⟨_, _, st fs hr, hrun, hended, _, _, rfl, hQ, ⟨_, rfl⟩, hW, hsame.mono hc hn⟩
theorem own_retV (X : Stand p l e R s m args below meth c T locs cells slots) (hx : p.tables.exec = Jvm.exec) {pc : Nat} {Ls : Array Slot} (hret : meth.sig.returnType = none) (hd : decode c.code pc = .ok (.return_, 1))
    (eT : T.heap = h) (hk : meth.locks = false) (hQ : Q none h locs) (hc : cells ≤ C) (hn : slots ≤ N) : own_Go p e below (own_PO s Q C N) (T.setTop (mkF m pc Ls [])) :=
  own_end X (fun _ => rfl) eT hk (fun fs hr => X.returnOut hx hret hd hr) hQ hc hn
theorem own_retI (X : Stand p l e R s m args below meth c T locs cells slots) (hx : p.tables.exec = Jvm.exec) {pc : Nat} {Ls : Array Slot} {z : Int32} {rest : List Value} (hret : meth.sig.returnType = some .int) (hd : decode c.code pc = .ok (.ireturn, 1))
    (eT : T.heap = h) (hk : meth.locks = false) (hQ : Q (some (.int z)) h locs) (hc : cells ≤ C) (hn : slots ≤ N) : own_Go p e below (own_PO s Q C N) (T.setTop (mkF m pc Ls (.int z :: rest))) :=
  own_end X (fun q => by rw [hret] at q; cases q) eT hk (fun fs hr => retOut X hx hret rfl (Or.inl ⟨rfl, Or.inl rfl, z, rfl⟩) hd hr) hQ hc hn
theorem own_retN (X : Stand p l e R s m args below meth c T locs cells slots) (hx : p.tables.exec = Jvm.exec) {pc : Nat} {Ls : Array Slot} {z : Int32} {t : FieldType} {rest : List Value} (hret : meth.sig.returnType = some t) (hz : nar t z = z) (ht : t = .boolean ∨ t = .byte ∨ t = .char ∨ t = .short) (hd : decode c.code pc = .ok (.ireturn, 1))
    (eT : T.heap = h) (hk : meth.locks = false) (hQ : Q (some (.int z)) h locs) (hc : cells ≤ C) (hn : slots ≤ N) : own_Go p e below (own_PO s Q C N) (T.setTop (mkF m pc Ls (.int z :: rest))) :=
  own_end X (fun q => by rw [hret] at q; cases q) eT hk (fun fs hr => retN X hx (t := t) hret ht hd (by rw [hz]; exact hr)) hQ hc hn
theorem own_retJ (X : Stand p l e R s m args below meth c T locs cells slots) (hx : p.tables.exec = Jvm.exec) {pc : Nat} {Ls : Array Slot} {z : Int64} {rest : List Value} (hret : meth.sig.returnType = some .long) (hd : decode c.code pc = .ok (.lreturn, 1))
    (eT : T.heap = h) (hk : meth.locks = false) (hQ : Q (some (.long z)) h locs) (hc : cells ≤ C) (hn : slots ≤ N) : own_Go p e below (own_PO s Q C N) (T.setTop (mkF m pc Ls (.long z :: rest))) :=
  own_end X (fun q => by rw [hret] at q; cases q) eT hk (fun fs hr => retOut X hx hret rfl (Or.inr (Or.inl ⟨rfl, rfl, z, rfl⟩)) hd hr) hQ hc hn
theorem own_retD (X : Stand p l e R s m args below meth c T locs cells slots) (hx : p.tables.exec = Jvm.exec) {pc : Nat} {Ls : Array Slot} {z : UInt64} {rest : List Value} (hret : meth.sig.returnType = some .double) (hd : decode c.code pc = .ok (.dreturn, 1))
    (eT : T.heap = h) (hk : meth.locks = false) (hQ : Q (some (.double z)) h locs) (hc : cells ≤ C) (hn : slots ≤ N) : own_Go p e below (own_PO s Q C N) (T.setTop (mkF m pc Ls (.double z :: rest))) :=
  own_end X (fun q => by rw [hret] at q; cases q) eT hk (fun fs hr => retOut X hx hret rfl (Or.inr (Or.inr (Or.inl ⟨rfl, rfl, z, rfl⟩))) hd hr) hQ hc hn
theorem own_retA (X : Stand p l e R s m args below meth c T locs cells slots) (hx : p.tables.exec = Jvm.exec) {pc : Nat} {Ls : Array Slot} {w : Value} {t : FieldType} {rest : List Value} (hret : meth.sig.returnType = some t) (ht : t.isReference = true) (hw : w.isRef = true) (hd : decode c.code pc = .ok (.areturn, 1))
    (eT : T.heap = h) (hk : meth.locks = false) (hQ : Q (some w) h locs) (hc : cells ≤ C) (hn : slots ≤ N) : own_Go p e below (own_PO s Q C N) (T.setTop (mkF m pc Ls (w :: rest))) :=
  own_end X (fun q => by rw [hret] at q; cases q) eT hk (fun fs hr => retOut X hx hret (by cases t <;> first | (cases ht; done) | (cases w <;> first | (cases hw; done) | rfl)) (Or.inr (Or.inr (Or.inr (Or.inr ⟨rfl, ht, hw⟩)))) hd hr) hQ hc hn
end New
end Jvm.RoadKit
namespace Jvm.RoadKit
open Sem ClassFile Op Lib Jvm.Stand Jvm.Free Jvm.LawKit
section Heap
variable {p : Program} {l : Launch} {e : Env} {R : Room} {s : State} {m : MethodId} {args : Array Value} {below : List Frame} {meth : Method} {c : Code} {T : State} {locs : List Loc} {cells slots : Nat} {h h' : Heap} {Z : State}
  {a : Addr} {k : ClassId} {n : Int32} {vs : List Value} {dv : Value} {ws ws' : List Addr} {C : String}
theorem own_keep_more (K : Keep h h' ws) (q : ∀ x ∈ ws, x ∈ ws') : Keep h h' ws' := ⟨K.1, fun x c hx r => K.2.1 x c hx fun z => r (q x z), K.2.2⟩
theorem own_sta_keep {C n d : String} {v : Value} (F : Sta Z h C n d v) (K : Keep h h' ws) (q : ∀ x ∈ ws, ∀ cell : Cell, h[x]? = some cell → cell.vm.isStatics = false) : Sta Z h' C n d v := by
  obtain ⟨cf, i, kk, f, st, cell, h1, h2, h3, h4, h5, h6, h7⟩ := F
  exact ⟨cf, i, kk, f, st, cell, h1, h2, h3, h4, K.2.1 st cell h5 (fun z => by rw [q st z cell h5] at h6; cases h6), h6, h7⟩
/-- a private method is selected of itself: the class is no interface, as another 'selects' word says -/
theorem own_selpriv {s : State} {args args' : Array Value} {y z w : MethodName} (hs : (Cond.selects y.cls z w).before args' s = true) (hpriv : s.PrivateAt y) (hinst : (Cond.instanceMethod y).before args s = true) (hy : y.cls ≠ "java/lang/invoke/MethodHandle" ∧ y.cls ≠ "java/lang/invoke/VarHandle") (hw : w.cls = y.cls := by rfl) :
    (Cond.selects y.cls y y).before args s = true := by
  obtain ⟨c2, r2, m2, q1, q2, q3, q4, kP, hkP, hkPi⟩ := Cond.selects_spec hs
  have hc := findClass_of_methodNamed q3
  rw [hw] at hc
  exact selects_self_of_private hc hkP hkPi hpriv hinst hy
theorem own_stI (X : Stand p l e R s m args below meth c T locs cells slots) (hx : p.tables.exec = Jvm.exec) (hZ : Z.Warmed39 s.vm) (eT : T.heap = h) (A : Arv Z h a k .int n vs dv) {j x : Int32} (hj : ¬ j < 0 ∧ j < n) {i : Nat} (hi : j.toNatClampNeg = i) (hl : i < vs.length) {g : JFrame} (hg : g.method = m) {rest : List Value} (hs : g.stack = .int x :: .int j :: .ref a :: rest) (hd : decode c.code g.pc = .ok (.iastore, 1)) :
    ∃ T' h', Stand p l e R s m args below meth c T' (locs ++ [⟨a, j.toNatClampNeg⟩]) cells slots ∧ T'.heap = h' ∧ Wr h h' a j.toNatClampNeg (.int x) ∧ Arv Z h' a k .int n (vs.set i (.int x)) dv ∧ ∀ target, Steps p.tables e below (T'.setTop { g with pc := g.pc + 1, stack := rest }) target → Steps p.tables e below (T.setTop g) target := by
  obtain ⟨cl, Ar, q, S, N, H, G⟩ := A
  obtain ⟨T', h', X', e', W, st⟩ := stI X hx hZ eT Ar (inb_of S hj) hg hs hd
  exact ⟨T', h', X', e', W, Arv.set Ar q S N H G rfl W i hi hl, st⟩
theorem own_stJ (X : Stand p l e R s m args below meth c T locs cells slots) (hx : p.tables.exec = Jvm.exec) (hZ : Z.Warmed39 s.vm) (eT : T.heap = h) (A : Arv Z h a k .long n vs dv) {j : Int32} {x : Int64} (hj : ¬ j < 0 ∧ j < n) {i : Nat} (hi : j.toNatClampNeg = i) (hl : i < vs.length) {g : JFrame} (hg : g.method = m) {rest : List Value} (hs : g.stack = .long x :: .int j :: .ref a :: rest) (hd : decode c.code g.pc = .ok (.lastore, 1)) :
    ∃ T' h', Stand p l e R s m args below meth c T' (locs ++ [⟨a, j.toNatClampNeg⟩]) cells slots ∧ T'.heap = h' ∧ Wr h h' a j.toNatClampNeg (.long x) ∧ Arv Z h' a k .long n (vs.set i (.long x)) dv ∧ ∀ target, Steps p.tables e below (T'.setTop { g with pc := g.pc + 1, stack := rest }) target → Steps p.tables e below (T.setTop g) target := by
  obtain ⟨cl, Ar, q, S, N, H, G⟩ := A
  obtain ⟨T', h', X', e', W, st⟩ := stJ X hx hZ eT Ar (inb_of S hj) hg hs hd
  exact ⟨T', h', X', e', W, Arv.set Ar q S N H G rfl W i hi hl, st⟩
theorem own_stD (X : Stand p l e R s m args below meth c T locs cells slots) (hx : p.tables.exec = Jvm.exec) (hZ : Z.Warmed39 s.vm) (eT : T.heap = h) (A : Arv Z h a k .double n vs dv) {j : Int32} {x : UInt64} (hj : ¬ j < 0 ∧ j < n) {i : Nat} (hi : j.toNatClampNeg = i) (hl : i < vs.length) {g : JFrame} (hg : g.method = m) {rest : List Value} (hs : g.stack = .double x :: .int j :: .ref a :: rest) (hd : decode c.code g.pc = .ok (.dastore, 1)) :
    ∃ T' h', Stand p l e R s m args below meth c T' (locs ++ [⟨a, j.toNatClampNeg⟩]) cells slots ∧ T'.heap = h' ∧ Wr h h' a j.toNatClampNeg (.double x) ∧ Arv Z h' a k .double n (vs.set i (.double x)) dv ∧ ∀ target, Steps p.tables e below (T'.setTop { g with pc := g.pc + 1, stack := rest }) target → Steps p.tables e below (T.setTop g) target := by
  obtain ⟨cl, Ar, q, S, N, H, G⟩ := A
  obtain ⟨T', h', X', e', W, st⟩ := stD X hx hZ eT Ar (inb_of S hj) hg hs hd
  exact ⟨T', h', X', e', W, Arv.set Ar q S N H G rfl W i hi hl, st⟩
theorem own_stB (X : Stand p l e R s m args below meth c T locs cells slots) (hx : p.tables.exec = Jvm.exec) (hZ : Z.Warmed39 s.vm) (eT : T.heap = h) (A : Arv Z h a k .byte n vs dv) {j x : Int32} (hj : ¬ j < 0 ∧ j < n) {i : Nat} (hi : j.toNatClampNeg = i) (hl : i < vs.length) {g : JFrame} (hg : g.method = m) {rest : List Value} (hs : g.stack = .int x :: .int j :: .ref a :: rest) (hd : decode c.code g.pc = .ok (.bastore, 1)) :
    ∃ T' h', Stand p l e R s m args below meth c T' (locs ++ [⟨a, j.toNatClampNeg⟩]) cells slots ∧ T'.heap = h' ∧ Wr h h' a j.toNatClampNeg (.int (nar .byte x)) ∧ Arv Z h' a k .byte n (vs.set i (.int (nar .byte x))) dv ∧ ∀ target, Steps p.tables e below (T'.setTop { g with pc := g.pc + 1, stack := rest }) target → Steps p.tables e below (T.setTop g) target := by
  obtain ⟨cl, Ar, q, S, N, H, G⟩ := A
  obtain ⟨T', h', X', e', W, st⟩ := stB X hx hZ eT Ar (inb_of S hj) hg hs hd
  exact ⟨T', h', X', e', W, Arv.set Ar q S N H G (fits_nar_byte x) W i hi hl, st⟩
theorem own_stZ (X : Stand p l e R s m args below meth c T locs cells slots) (hx : p.tables.exec = Jvm.exec) (hZ : Z.Warmed39 s.vm) (eT : T.heap = h) (A : Arv Z h a k .boolean n vs dv) {j x : Int32} (hj : ¬ j < 0 ∧ j < n) {i : Nat} (hi : j.toNatClampNeg = i) (hl : i < vs.length) {g : JFrame} (hg : g.method = m) {rest : List Value} (hs : g.stack = .int x :: .int j :: .ref a :: rest) (hd : decode c.code g.pc = .ok (.bastore, 1)) :
    ∃ T' h', Stand p l e R s m args below meth c T' (locs ++ [⟨a, j.toNatClampNeg⟩]) cells slots ∧ T'.heap = h' ∧ Wr h h' a j.toNatClampNeg (.int (nar .boolean x)) ∧ Arv Z h' a k .boolean n (vs.set i (.int (nar .boolean x))) dv ∧ ∀ target, Steps p.tables e below (T'.setTop { g with pc := g.pc + 1, stack := rest }) target → Steps p.tables e below (T.setTop g) target := by
  obtain ⟨cl, Ar, q, S, N, H, G⟩ := A
  obtain ⟨T', h', X', e', W, st⟩ := stZ X hx hZ eT Ar (inb_of S hj) hg hs hd
  exact ⟨T', h', X', e', W, Arv.set Ar q S N H G (fits_nar_bool x) W i hi hl, st⟩
theorem own_stC (X : Stand p l e R s m args below meth c T locs cells slots) (hx : p.tables.exec = Jvm.exec) (hZ : Z.Warmed39 s.vm) (eT : T.heap = h) (A : Arv Z h a k .char n vs dv) {j x : Int32} (hj : ¬ j < 0 ∧ j < n) {i : Nat} (hi : j.toNatClampNeg = i) (hl : i < vs.length) {g : JFrame} (hg : g.method = m) {rest : List Value} (hs : g.stack = .int x :: .int j :: .ref a :: rest) (hd : decode c.code g.pc = .ok (.castore, 1)) :
    ∃ T' h', Stand p l e R s m args below meth c T' (locs ++ [⟨a, j.toNatClampNeg⟩]) cells slots ∧ T'.heap = h' ∧ Wr h h' a j.toNatClampNeg (.int (nar .char x)) ∧ Arv Z h' a k .char n (vs.set i (.int (nar .char x))) dv ∧ ∀ target, Steps p.tables e below (T'.setTop { g with pc := g.pc + 1, stack := rest }) target → Steps p.tables e below (T.setTop g) target := by
  obtain ⟨cl, Ar, q, S, N, H, G⟩ := A
  obtain ⟨T', h', X', e', W, st⟩ := stC X hx hZ eT Ar (inb_of S hj) hg hs hd
  exact ⟨T', h', X', e', W, Arv.set Ar q S N H G (fits_nar_char x) W i hi hl, st⟩
theorem own_stR (X : Stand p l e R s m args below meth c T locs cells slots) (hx : p.tables.exec = Jvm.exec) (hZ : Z.Warmed39 s.vm) (eT : T.heap = h) (A : Arv Z h a k (.object C) n vs dv) (O : Ovr Z k C) {y : Addr} (I : Ins Z h y C true) {j : Int32} (hj : ¬ j < 0 ∧ j < n) {i : Nat} (hi : j.toNatClampNeg = i) (hl : i < vs.length) {g : JFrame} (hg : g.method = m) {rest : List Value} (hs : g.stack = .ref y :: .int j :: .ref a :: rest) (hd : decode c.code g.pc = .ok (.aastore, 1)) :
    ∃ T' h', Stand p l e R s m args below meth c T' (locs ++ [⟨a, j.toNatClampNeg⟩]) cells slots ∧ T'.heap = h' ∧ Wr h h' a j.toNatClampNeg (.ref y) ∧ Arv Z h' a k (.object C) n (vs.set i (.ref y)) dv ∧ ∀ target, Steps p.tables e below (T'.setTop { g with pc := g.pc + 1, stack := rest }) target → Steps p.tables e below (T.setTop g) target := by
  obtain ⟨cl, Ar, q, S, N, H, G⟩ := A
  obtain ⟨T', h', X', e', W, st⟩ := stR X hx hZ eT Ar (inb_of S hj) rfl (Sto.ofV Ar q O I) hg hs hd
  exact ⟨T', h', X', e', W, Arv.set Ar q S N H G rfl W i hi hl, st⟩
theorem own_ldI (X : Stand p l e R s m args below meth c T locs cells slots) (hx : p.tables.exec = Jvm.exec) (hZ : Z.Warmed39 s.vm) (eT : T.heap = h) (A : Arv Z h a k .int n vs dv) {j : Int32} {v : Value} (hj : ¬ j < 0 ∧ j < n) (hv : vs.getD j.toNatClampNeg dv = v) {g : JFrame} (hg : g.method = m) {rest : List Value} (hs : g.stack = .int j :: .ref a :: rest) (hd : decode c.code g.pc = .ok (.iaload, 1)) :
    ∀ target, Steps p.tables e below (T.setTop { g with pc := g.pc + 1, stack := v :: rest }) target → Steps p.tables e below (T.setTop g) target := by
  obtain ⟨cl, Ar, q, S, N, H, G⟩ := A
  exact fun t k => X.iaload hx (by rw [eT]; exact Ar.1) (State.isArrayOf_alike hZ.alike Ar.2.1) Ar.2.2 (inb_of S hj) (H.at (inb_of S hj) hv) hg hs hd t k
theorem own_ldJ (X : Stand p l e R s m args below meth c T locs cells slots) (hx : p.tables.exec = Jvm.exec) (hZ : Z.Warmed39 s.vm) (eT : T.heap = h) (A : Arv Z h a k .long n vs dv) {j : Int32} {v : Value} (hj : ¬ j < 0 ∧ j < n) (hv : vs.getD j.toNatClampNeg dv = v) {g : JFrame} (hg : g.method = m) {rest : List Value} (hs : g.stack = .int j :: .ref a :: rest) (hd : decode c.code g.pc = .ok (.laload, 1)) :
    ∀ target, Steps p.tables e below (T.setTop { g with pc := g.pc + 1, stack := v :: rest }) target → Steps p.tables e below (T.setTop g) target := by
  obtain ⟨cl, Ar, q, S, N, H, G⟩ := A
  exact fun t k => X.laload hx (by rw [eT]; exact Ar.1) (State.isArrayOf_alike hZ.alike Ar.2.1) Ar.2.2 (inb_of S hj) (H.at (inb_of S hj) hv) hg hs hd t k
theorem own_ldC (X : Stand p l e R s m args below meth c T locs cells slots) (hx : p.tables.exec = Jvm.exec) (hZ : Z.Warmed39 s.vm) (eT : T.heap = h) (A : Arv Z h a k .char n vs dv) {j : Int32} {v : Value} (hj : ¬ j < 0 ∧ j < n) (hv : vs.getD j.toNatClampNeg dv = v) {g : JFrame} (hg : g.method = m) {rest : List Value} (hs : g.stack = .int j :: .ref a :: rest) (hd : decode c.code g.pc = .ok (.caload, 1)) :
    ∀ target, Steps p.tables e below (T.setTop { g with pc := g.pc + 1, stack := v :: rest }) target → Steps p.tables e below (T.setTop g) target := by
  obtain ⟨cl, Ar, q, S, N, H, G⟩ := A
  exact fun t k => X.caload hx (by rw [eT]; exact Ar.1) (State.isArrayOf_alike hZ.alike Ar.2.1) Ar.2.2 (inb_of S hj) (H.at (inb_of S hj) hv) hg hs hd t k
theorem own_ldD (X : Stand p l e R s m args below meth c T locs cells slots) (hx : p.tables.exec = Jvm.exec) (hZ : Z.Warmed39 s.vm) (eT : T.heap = h) (A : Arv Z h a k .double n vs dv) {j : Int32} {v : Value} (hj : ¬ j < 0 ∧ j < n) (hv : vs.getD j.toNatClampNeg dv = v) {g : JFrame} (hg : g.method = m) {rest : List Value} (hs : g.stack = .int j :: .ref a :: rest) (hd : decode c.code g.pc = .ok (.daload, 1)) :
    ∀ target, Steps p.tables e below (T.setTop { g with pc := g.pc + 1, stack := v :: rest }) target → Steps p.tables e below (T.setTop g) target := by
  obtain ⟨cl, Ar, q, S, N, H, G⟩ := A
  exact fun t k => X.daload hx (by rw [eT]; exact Ar.1) (State.isArrayOf_alike hZ.alike Ar.2.1) Ar.2.2 (inb_of S hj) (H.at (inb_of S hj) hv) hg hs hd t k
theorem own_ldB (X : Stand p l e R s m args below meth c T locs cells slots) (hx : p.tables.exec = Jvm.exec) (hZ : Z.Warmed39 s.vm) (eT : T.heap = h) (A : Arv Z h a k .byte n vs dv) {j : Int32} {v : Value} (hj : ¬ j < 0 ∧ j < n) (hv : vs.getD j.toNatClampNeg dv = v) {g : JFrame} (hg : g.method = m) {rest : List Value} (hs : g.stack = .int j :: .ref a :: rest) (hd : decode c.code g.pc = .ok (.baload, 1)) :
    ∀ target, Steps p.tables e below (T.setTop { g with pc := g.pc + 1, stack := v :: rest }) target → Steps p.tables e below (T.setTop g) target := by
  obtain ⟨cl, Ar, q, S, N, H, G⟩ := A
  exact fun t k => X.baloadBytes hx (by rw [eT]; exact Ar.1) (State.isArrayOf_alike hZ.alike Ar.2.1) Ar.2.2 (inb_of S hj) (H.at (inb_of S hj) hv) hg hs hd t k
theorem own_ldR (X : Stand p l e R s m args below meth c T locs cells slots) (hx : p.tables.exec = Jvm.exec) (hZ : Z.Warmed39 s.vm) (eT : T.heap = h) {ty : FieldType} (A : Arv Z h a k ty n vs dv) (hty : ty.isReference = true) {j : Int32} {v : Value} (hj : ¬ j < 0 ∧ j < n) (hv : vs.getD j.toNatClampNeg dv = v) {g : JFrame} (hg : g.method = m) {rest : List Value} (hs : g.stack = .int j :: .ref a :: rest) (hd : decode c.code g.pc = .ok (.aaload, 1)) :
    ∀ target, Steps p.tables e below (T.setTop { g with pc := g.pc + 1, stack := v :: rest }) target → Steps p.tables e below (T.setTop g) target := by
  obtain ⟨cl, Ar, q, S, N, H, G⟩ := A
  exact fun t k => X.aaload hx (by rw [eT]; exact Ar.1) (State.isArrayOf_alike hZ.alike Ar.2.1) hty Ar.2.2 (inb_of S hj) (H.at (inb_of S hj) hv) hg hs hd t k
theorem own_len (X : Stand p l e R s m args below meth c T locs cells slots) (hx : p.tables.exec = Jvm.exec) (hZ : Z.Warmed39 s.vm) (eT : T.heap = h) {ty : FieldType} (A : Arv Z h a k ty n vs dv) {g : JFrame} (hg : g.method = m) {rest : List Value} (hs : g.stack = .ref a :: rest) (hd : decode c.code g.pc = .ok (.arraylength, 1)) :
    ∀ target, Steps p.tables e below (T.setTop { g with pc := g.pc + 1, stack := .int n :: rest }) target → Steps p.tables e below (T.setTop g) target := by
  obtain ⟨cl, Ar, q, S, N, H, G⟩ := A
  intro t kk
  refine X.arraylength hx (by rw [eT]; exact Ar.1) (State.isArrayOf_alike hZ.alike Ar.2.1) hg hs hd t ?_
  rw [len_of S N]; exact kk
end Heap
end Jvm.RoadKit
namespace Jvm.Pilot.@@N@@
open Jvm Jvm.ClassFile Sem Op Lib Jvm.Free Jvm.Stand Jvm.LawKit Jvm.RoadKit Bundle Jvm.Pilot.@@N@@.Jvm.D
/-! numbers: an int and a double by the whole number that they hold -/
def own_I (z : Int) : Int32 := Int32.ofInt z
def own_D (z : Int) : UInt64 := FP.l2d (Int64.ofInt z)
def own_up (f : Int → Int) (z x : Int) : Int → Int := fun y => if y = z then x else f y
theorem own_up_s (f : Int → Int) (z x : Int) : own_up f z x z = x := if_pos rfl
theorem own_up_o {f : Int → Int} {z x y : Int} (h : y ≠ z) : own_up f z x y = f y := if_neg h
theorem own_sub {A : Type} {x y : A} (P : A → Prop) (h : x = y) (q : P y) : P x := by subst h; exact q
theorem own_toI {z : Int} (h : -1000 ≤ z ∧ z ≤ 1000) : (own_I z).toInt = z := Int32.toInt_ofInt_of_le (by omega) (by omega)
theorem own_cl {z : Int} (h : -1000 ≤ z ∧ z ≤ 1000) : (own_I z).toNatClampNeg = z.toNat := congrArg Int.toNat (own_toI h)
theorem own_lt {x y : Int} (hx : -1000 ≤ x ∧ x ≤ 1000) (hy : -1000 ≤ y ∧ y ≤ 1000) : own_I x < own_I y ↔ x < y := by rw [Int32.lt_iff_toInt_lt, own_toI hx, own_toI hy]
theorem own_eq {x y : Int} (hx : -1000 ≤ x ∧ x ≤ 1000) (hy : -1000 ≤ y ∧ y ≤ 1000) : own_I x = own_I y ↔ x = y :=
  ⟨fun h => by have q := congrArg Int32.toInt h; rwa [own_toI hx, own_toI hy] at q, fun h => by rw [h]⟩
theorem own_i0 : own_I 0 = (0 : Int32) := by decide
theorem own_i1 : own_I 1 = (1 : Int32) := by decide
theorem own_im1 : own_I (-1) = (-1 : Int32) := by decide
theorem own_i2 : own_I 2 = (2 : Int32) := by decide
theorem own_i4 : own_I 4 = (4 : Int32) := by decide
theorem own_i16 : own_I 16 = (16 : Int32) := by decide
theorem own_lt0 {x : Int} (hx : -1000 ≤ x ∧ x ≤ 1000) : own_I x < (0 : Int32) ↔ x < 0 := by rw [← own_i0]; exact own_lt hx (by omega)
theorem own_add (x y : Int) : own_I x + own_I y = own_I (x + y) := (Int32.ofInt_add x y).symm
theorem own_add1 (x : Int) : own_I x + (1 : Int32) = own_I (x + 1) := by rw [← own_i1]; exact own_add x 1
theorem own_add2 (x : Int) : own_I x + (2 : Int32) = own_I (x + 2) := by rw [← own_i2]; exact own_add x 2
theorem own_addm1 (x : Int) : own_I x + (-1 : Int32) = own_I (x - 1) := by
  rw [← own_im1]; exact (own_add x (-1)).trans (congrArg own_I (by omega))
theorem own_inb {z : Int} (h : 0 ≤ z ∧ z < 16) : ¬ own_I z < 0 ∧ own_I z < (16 : Int32) := by
  refine ⟨fun q => ?_, ?_⟩
  · have := (own_lt0 (by omega)).mp q; omega
  · rw [← own_i16]; exact (own_lt (by omega) (by omega)).mpr h.2
/-! lists of sixteen -/
def own_L (g : Nat → Value) : List Value := (List.range 16).map g
theorem own_L_q (g : Nat → Value) (i : Nat) : (own_L g)[i]? = if i < 16 then some (g i) else none := by
  unfold own_L
  rw [List.getElem?_map]
  by_cases h : i < 16
  · rw [List.getElem?_range h, if_pos h]; rfl
  · rw [if_neg h, List.getElem?_eq_none (by rw [List.length_range]; omega)]; rfl
theorem own_L_l (g : Nat → Value) : (own_L g).length = 16 := by unfold own_L; rw [List.length_map, List.length_range]
theorem own_L_get {g : Nat → Value} {k : Nat} (h : k < 16) (d : Value) : (own_L g).getD k d = g k := by
  rw [List.getD_eq_getElem?_getD, own_L_q, if_pos h]; rfl
theorem own_L_set {g g' : Nat → Value} {k : Nat} {v : Value} (h : k < 16) (h1 : g' k = v) (h2 : ∀ i, i ≠ k → g' i = g i) : (own_L g).set k v = own_L g' := by
  apply List.ext_getElem?
  intro i
  rw [List.getElem?_set, own_L_q, own_L_q, own_L_l]
  by_cases q : k = i
  · subst q; rw [if_pos rfl, if_pos h, if_pos h, h1]
  · rw [if_neg q, h2 i (fun z => q z.symm)]
def own_vi (f : Int → Int) : List Value := own_L fun i => .int (own_I (f (i : Int)))
def own_vd (f : Int → Int) : List Value := own_L fun i => .double (own_D (f (i : Int)))
theorem own_vl (f : Int → Int) : (own_vi f).length = 16 := own_L_l _
theorem own_vdl (f : Int → Int) : (own_vd f).length = 16 := own_L_l _
theorem own_ix {z : Int} (h : 0 ≤ z ∧ z < 16) : (own_I z).toNatClampNeg < 16 := by rw [own_cl (by omega)]; omega
theorem own_ixi {z : Int} (f : Int → Int) (h : 0 ≤ z ∧ z < 16) : (own_I z).toNatClampNeg < (own_vi f).length := by rw [own_vl]; exact own_ix h
theorem own_ixd {z : Int} (f : Int → Int) (h : 0 ≤ z ∧ z < 16) : (own_I z).toNatClampNeg < (own_vd f).length := by rw [own_vdl]; exact own_ix h
theorem own_get {f : Int → Int} {z : Int} {d : Value} (h : 0 ≤ z ∧ z < 16) : (own_vi f).getD (own_I z).toNatClampNeg d = .int (own_I (f z)) := by
  unfold own_vi
  rw [own_L_get (own_ix h)]
  show Value.int (own_I (f (((own_I z).toNatClampNeg : Nat) : Int))) = _
  rw [own_cl (by omega), Int.toNat_of_nonneg h.1]
theorem own_getd {f : Int → Int} {z : Int} {d : Value} (h : 0 ≤ z ∧ z < 16) : (own_vd f).getD (own_I z).toNatClampNeg d = .double (own_D (f z)) := by
  unfold own_vd
  rw [own_L_get (own_ix h)]
  show Value.double (own_D (f (((own_I z).toNatClampNeg : Nat) : Int))) = _
  rw [own_cl (by omega), Int.toNat_of_nonneg h.1]
theorem own_set {f : Int → Int} {z x : Int} {y : Int32} (h : 0 ≤ z ∧ z < 16) (hy : y = own_I x) : (own_vi f).set (own_I z).toNatClampNeg (.int y) = own_vi (own_up f z x) := by
  subst hy
  have e : (((own_I z).toNatClampNeg : Nat) : Int) = z := by rw [own_cl (by omega), Int.toNat_of_nonneg h.1]
  refine own_L_set (own_ix h) ?_ fun i hi => ?_
  · show Value.int (own_I (own_up f z x (((own_I z).toNatClampNeg : Nat) : Int))) = _
    rw [e, own_up_s]
  · show Value.int (own_I (own_up f z x (i : Int))) = _
    rw [own_up_o (fun q => hi (by rw [own_cl (by omega)]; omega))]
theorem own_setd {f : Int → Int} {z x : Int} {y : UInt64} (h : 0 ≤ z ∧ z < 16) (hy : y = own_D x) : (own_vd f).set (own_I z).toNatClampNeg (.double y) = own_vd (own_up f z x) := by
  subst hy
  have e : (((own_I z).toNatClampNeg : Nat) : Int) = z := by rw [own_cl (by omega), Int.toNat_of_nonneg h.1]
  refine own_L_set (own_ix h) ?_ fun i hi => ?_
  · show Value.double (own_D (own_up f z x (((own_I z).toNatClampNeg : Nat) : Int))) = _
    rw [e, own_up_s]
  · show Value.double (own_D (own_up f z x (i : Int))) = _
    rw [own_up_o (fun q => hi (by rw [own_cl (by omega)]; omega))]
theorem own_D0 : own_D 0 = (0 : UInt64) := by unfold own_D; exact l2d_zero
theorem own_pi0 : ∀ i, (own_vi fun _ => 0).getD i (.int (0 : Int32)) = ([] : List Value).getD i (.int (0 : Int32)) := fun i => by
  rw [List.getD_eq_getElem?_getD, List.getD_eq_getElem?_getD]
  unfold own_vi
  rw [own_L_q]
  by_cases h : i < 16
  · rw [if_pos h, List.getElem?_nil]; show Value.int (own_I 0) = Value.int 0; rw [own_i0]
  · rw [if_neg h, List.getElem?_nil]
theorem own_pd0 : ∀ i, (own_vd fun _ => 0).getD i (.double (0 : UInt64)) = ([] : List Value).getD i (.double (0 : UInt64)) := fun i => by
  rw [List.getD_eq_getElem?_getD, List.getD_eq_getElem?_getD]
  unfold own_vd
  rw [own_L_q]
  by_cases h : i < 16
  · rw [if_pos h, List.getElem?_nil]; show Value.double (own_D 0) = Value.double 0; rw [own_D0]
  · rw [if_neg h, List.getElem?_nil]
/-- what arraycopy leaves: the first four of g, the others of f -/
def own_cp (g f : Int → Int) : Int → Int := fun y => if y < 4 then g y else f y
theorem own_cp_l (g f : Int → Int) {d d' : Value} : ∀ i, (own_vi (own_cp g f)).getD i d = ((own_vi f).take (0 : Int32).toNatClampNeg ++ ((List.range (4 : Int32).toNatClampNeg).map fun i => (own_vi g).getD ((0 : Int32).toNatClampNeg + i) d') ++ (own_vi f).drop ((0 : Int32).toNatClampNeg + (4 : Int32).toNatClampNeg)).getD i d := fun i => by
  have e0 : (0 : Int32).toNatClampNeg = 0 := by decide
  have e4 : (4 : Int32).toNatClampNeg = 4 := by decide
  rw [e0, e4]
  simp only [List.take_zero, List.nil_append, Nat.zero_add]
  rw [List.getD_eq_getElem?_getD, List.getD_eq_getElem?_getD, List.getElem?_append]
  have ln : ((List.range 4).map fun i => (own_vi g).getD i d').length = 4 := by simp
  rw [ln]
  by_cases h : i < 4
  · rw [if_pos h, List.getElem?_map, List.getElem?_range h]
    unfold own_vi
    rw [own_L_q, if_pos (by omega)]
    show Value.int (own_I (own_cp g f (i : Int))) = (own_L _).getD i d'
    rw [own_L_get (by omega)]
    have : own_cp g f (i : Int) = g (i : Int) := if_pos (by omega)
    rw [this]
  · rw [if_neg h, List.getElem?_drop]
    have e : 4 + (i - 4) = i := by omega
    rw [e]
    unfold own_vi
    rw [own_L_q, own_L_q]
    by_cases q : i < 16
    · rw [if_pos q, if_pos q]
      have : own_cp g f (i : Int) = f (i : Int) := if_neg (by omega)
      rw [this]
    · rw [if_neg q, if_neg q]
theorem own_ixk {k : Nat} (f : Int → Int) (h : k < 16) : k < (own_vi f).length := by rw [own_vl]; exact h
theorem own_setk {f : Int → Int} {x : Int} {y : Int32} (k : Nat) (z : Int) (hz : z = (k : Int)) (h : k < 16) (hy : y = own_I x) : (own_vi f).set k (.int y) = own_vi (own_up f z x) := by
  subst hy
  refine own_L_set h ?_ fun i hi => ?_
  · show Value.int (own_I (own_up f z x (k : Int))) = _
    rw [← hz, own_up_s]
  · show Value.int (own_I (own_up f z x (i : Int))) = _
    rw [own_up_o (fun q => hi (by omega))]
theorem own_fl {f : Int → Int} {n : Int} (h0 : 0 ≤ n) (h1 : n < 4) : own_up (own_up (own_up (own_up f 0 (-1)) 1 (-1)) 2 (-1)) 3 (-1) n = -1 := by
  rcases (by omega : n = 0 ∨ n = 1 ∨ n = 2 ∨ n = 3) with rfl | rfl | rfl | rfl <;> simp [own_up]
theorem own_cp4 {g f : Int → Int} {n : Int} (h : n < 4) : own_cp g f n = g n := if_pos h
/-! doubles that hold whole numbers -/
theorem own_64 {z : Int} (h : -1000 ≤ z ∧ z ≤ 1000) : (Int64.ofInt z).toInt = z := Int64.toInt_ofInt_of_le (by omega) (by omega)
theorem own_b53 {z : Int} (h : -1000 ≤ z ∧ z ≤ 1000) : B53 (Int64.ofInt z) := by
  show -9007199254740992 < (Int64.ofInt z).toInt ∧ (Int64.ofInt z).toInt < 9007199254740992
  rw [own_64 h]; omega
theorem own_dsub {x y : Int} (hx : -1000 ≤ x ∧ x ≤ 1000) (hy : -1000 ≤ y ∧ y ≤ 1000) : FP.dsub (own_D x) (own_D y) = own_D (x - y) := by
  unfold own_D; rw [dsub_w (own_b53 hx) (own_b53 hy), Int64.ofInt_sub]
theorem own_dadd {x y : Int} (hx : -1000 ≤ x ∧ x ≤ 1000) (hy : -1000 ≤ y ∧ y ≤ 1000) : FP.dadd (own_D x) (own_D y) = own_D (x + y) := by
  unfold own_D; rw [dadd_w (own_b53 hx) (own_b53 hy), Int64.ofInt_add]
theorem own_nn (z : Int) : Jvm.Free.Fl.NoNaN64 (own_D z) := nn_w (a := Int64.ofInt z) rfl
theorem own_nnI : Jvm.Free.Fl.NoNaN64 (9218868437227405312 : UInt64) := show (9218868437227405312 : UInt64) &&& 0x7fffffffffffffff ≤ 0x7ff0000000000000 by decide
theorem own_i2d {z : Int} (h : -1000 ≤ z ∧ z ≤ 1000) : FP.i2d (own_I z) = own_D z := by
  rw [i2d_w]; unfold own_D
  refine congrArg FP.l2d (Int64.toInt_inj.mp ?_)
  rw [Int32.toInt_toInt64, own_toI h, own_64 h]
/-- what a comparison with 0.0 leaves -/
def own_cz (r : Int) : Int32 := if 0 < r then 1 else 0
theorem own_dcmp {r : Int} (h : 0 ≤ r ∧ r ≤ 1000) : cmpValue (FP.dcmp (own_D r) (0 : UInt64)) .l = own_cz r := by
  rw [← own_D0]
  unfold own_D own_cz
  rw [dcmp_ws (own_b53 (by omega)) (own_b53 (by omega)), own_64 (by omega), own_64 (by omega), if_neg (by omega)]
  by_cases q : r = 0
  · rw [if_pos q, if_neg (by omega)]; rfl
  · rw [if_neg q, if_pos (by omega)]; rfl
theorem own_cz_p {r : Int} (h : (0 : Int32) < own_cz r) : 0 < r := by
  by_cases q : 0 < r
  · exact q
  · unfold own_cz at h; rw [if_neg q] at h; exact absurd h (by decide)
theorem own_cz_n {r : Int} (h : ¬ (0 : Int32) < own_cz r) : ¬ 0 < r := fun q => h (by unfold own_cz; rw [if_pos q]; decide)
theorem own_czt {r : Int} (h : 0 < r) : (0 : Int32) < own_cz r := by unfold own_cz; rw [if_pos h]; decide
def own_mn (x y : Int) : Int := if x < y then x else y
theorem own_min {x y : Int} (hx : -1000 ≤ x ∧ x ≤ 1000) (hy : -1000 ≤ y ∧ y ≤ 1000) : Native.java_lang_Math.nans.pick64 false (own_D x) (own_D y) = own_D (own_mn x y) := by
  unfold own_D own_mn
  by_cases q : x < y
  · rw [if_pos q]; exact min_l (own_b53 hx) (own_b53 hy) (Int64.lt_iff_toInt_lt.mpr (by rw [own_64 hx, own_64 hy]; exact q))
  · rw [if_neg q]; exact min_g (own_b53 hx) (own_b53 hy) (fun z => q (by have := Int64.lt_iff_toInt_lt.mp z; rwa [own_64 hx, own_64 hy] at this))
theorem own_pick {a b : UInt64} (q : FP.dcmp a b = some .gt) : Native.java_lang_Math.nans.pick64 false a b = b := by
  delta Native.java_lang_Math.nans.pick64
  first
  | (rw [q]; done)
  | (rw [q]; rfl)
  | (simp [q]; done)
theorem own_minI (x : Int) : Native.java_lang_Math.nans.pick64 false (9218868437227405312 : UInt64) (own_D x) = own_D x :=
  own_pick (FP.Core.fin_lt_inf (Jvm.Free.Fl.fin64_core.mp (Jvm.Free.Fl.l2d_fin (Int64.ofInt x)))).2.2.1
/-! edges -/
def own_f (e : Int) : Int := if e % 2 = 0 then e + 1 else e - 1
theorem own_f_e {e : Int} (h : e % 2 = 0) : own_f e = e + 1 := if_pos h
theorem own_f_o {e : Int} (h : e % 2 = 1) : own_f e = e - 1 := if_neg (by omega)
theorem own_f_c (e : Int) : (e % 2 = 0 ∧ own_f e = e + 1) ∨ (e % 2 = 1 ∧ own_f e = e - 1) := by
  by_cases h : e % 2 = 0
  · exact Or.inl ⟨h, own_f_e h⟩
  · exact Or.inr ⟨by omega, own_f_o (by omega)⟩
theorem own_f_f (e : Int) : own_f (own_f e) = e := by
  have h1 := own_f_c e
  have h2 := own_f_c (own_f e)
  omega
theorem own_f_b {e : Int} {E : Nat} (h0 : 0 ≤ e) (h1 : e < E) (hE : E % 2 = 0) : 0 ≤ own_f e ∧ own_f e < E := by
  have h := own_f_c e
  omega
theorem own_f_n (e : Int) : own_f e ≠ e := by
  have h := own_f_c e
  omega
theorem own_xor {e : Int} (h : 0 ≤ e ∧ e < 16) : own_I e ^^^ (1 : Int32) = own_I (own_f e) := by
  have t : ∀ k : Fin 16, own_I (k.1 : Int) ^^^ (1 : Int32) = own_I (own_f (k.1 : Int)) := by decide +kernel
  have q : own_I ((e.toNat : Nat) : Int) ^^^ (1 : Int32) = own_I (own_f ((e.toNat : Nat) : Int)) := t ⟨e.toNat, by omega⟩
  have e1 : ((e.toNat : Nat) : Int) = e := Int.toNat_of_nonneg h.1
  rwa [e1] at q
def own_X (t : Int → Int) (n k z : Int) : Prop := -1 ≤ z ∧ z < k ∧ (0 ≤ z → t z = n) ∧ ∀ e : Int, 0 ≤ e → z < e → e < k → t e ≠ n
theorem own_X_c {t t' : Int → Int} {n k z : Int} (h : ∀ e : Int, 0 ≤ e → e < k → t' e = t e) (x : own_X t n k z) : own_X t' n k z := by
  obtain ⟨x1, x2, x3, x4⟩ := x
  exact ⟨x1, x2, fun q => by rw [h z q x2]; exact x3 q, fun e q1 q2 q3 => by rw [h e q1 q3]; exact x4 e q1 q2 q3⟩
/-- an edge of n below k isn't behind z -/
theorem own_X_le {t : Int → Int} {n k z e : Int} (x : own_X t n k z) (h0 : 0 ≤ e) (h1 : e < k) (h2 : t e = n) : e ≤ z := by
  by_cases q : z < e
  · exact absurd h2 (x.2.2.2 e h0 q h1)
  · omega
def own_H (E : Nat) (tl hd fst nxt : Int → Int) : Prop :=
  (∀ e : Int, 0 ≤ e → e < E → (0 ≤ tl e ∧ tl e < 4) ∧ (0 ≤ hd e ∧ hd e < 4) ∧ own_X tl (tl e) e (nxt e)) ∧ ∀ n : Int, 0 ≤ n → n < 4 → own_X tl n E (fst n)
theorem own_H_add {E : Nat} {tl hd fst nxt : Int → Int} {u v : Int} (hu : 0 ≤ u ∧ u < 4) (hv : 0 ≤ v ∧ v < 4) (h : own_H E tl hd fst nxt) :
    own_H (E + 1) (own_up tl E u) (own_up hd E v) (own_up fst u E) (own_up nxt E (fst u)) := by
  obtain ⟨h1, h2⟩ := h
  have tc : ∀ e : Int, 0 ≤ e → e < E → own_up tl E u e = tl e := fun e _ q => own_up_o (by omega)
  refine ⟨fun e q0 q1 => ?_, fun n q0 q1 => ?_⟩
  · by_cases c : e = E
    · subst c
      rw [own_up_s, own_up_s, own_up_s]
      exact ⟨hu, hv, own_X_c tc (h2 u hu.1 hu.2)⟩
    · have ce : e < E := by omega
      obtain ⟨a1, a2, a3⟩ := h1 e q0 ce
      rw [own_up_o c, own_up_o c, own_up_o c]
      exact ⟨a1, a2, own_X_c (fun x y z => tc x y (by omega)) a3⟩
  · by_cases c : n = u
    · subst c
      rw [own_up_s]
      refine ⟨by omega, by omega, fun _ => own_up_s _ _ _, fun e x y z => ?_⟩
      exfalso; omega
    · obtain ⟨x1, x2, x3, x4⟩ := h2 n q0 q1
      rw [own_up_o c]
      refine ⟨x1, by omega, fun q => by rw [tc _ q x2]; exact x3 q, fun e y0 y1 y2 => ?_⟩
      by_cases d : e = E
      · subst d; rw [own_up_s]; exact fun z => c z.symm
      · rw [own_up_o d]; exact x4 e y0 y1 (by omega)
def own_G (E : Nat) (tl hd fst nxt : Int → Int) : Prop := own_H E tl hd fst nxt ∧ E % 2 = 0 ∧ E ≤ 12 ∧ ∀ e : Int, 0 ≤ e → e < E → hd (own_f e) = tl e
theorem own_G0 : own_G 0 (fun _ => 0) (fun _ => 0) (own_up (own_up (own_up (own_up (fun _ => 0) 0 (-1)) 1 (-1)) 2 (-1)) 3 (-1)) (fun _ => 0) := by
  refine ⟨⟨fun e h0 h1 => ?_, fun n h0 h1 => ?_⟩, rfl, by omega, fun e h0 h1 => ?_⟩
  · exfalso; omega
  · have q : own_up (own_up (own_up (own_up (fun _ => 0) 0 (-1)) 1 (-1)) 2 (-1)) 3 (-1) n = -1 := own_fl h0 h1
    rw [q]
    exact ⟨by omega, by omega, fun z => absurd z (by omega), fun e x0 x1 x2 => by exfalso; omega⟩
  · exfalso; omega
theorem own_G_add {E : Nat} {tl hd fst nxt : Int → Int} {u v : Int} (hu : 0 ≤ u ∧ u < 4) (hv : 0 ≤ v ∧ v < 4) (h : own_G E tl hd fst nxt) (hE : E ≤ 10) :
    own_G (E + 1 + 1) (own_up (own_up tl E u) ((E + 1 : Nat) : Int) v) (own_up (own_up hd E v) ((E + 1 : Nat) : Int) u) (own_up (own_up fst u E) v ((E + 1 : Nat) : Int)) (own_up (own_up nxt E (fst u)) ((E + 1 : Nat) : Int) (own_up fst u E v)) := by
  obtain ⟨h1, h2, h3, h4⟩ := h
  refine ⟨own_H_add hv hu (own_H_add hu hv h1), by omega, by omega, fun e q0 q1 => ?_⟩
  have f := own_f_c e
  by_cases c : e = E
  · have f1 : own_f e = ((E + 1 : Nat) : Int) := by omega
    rw [f1, own_up_s, own_up_o (by omega), c, own_up_s]
  · by_cases d : e = ((E + 1 : Nat) : Int)
    · have f1 : own_f e = (E : Int) := by omega
      rw [f1, own_up_o (by omega), own_up_s, d, own_up_s]
    · have ce : e < E := by omega
      have b := own_f_b q0 ce h2
      rw [own_up_o (by omega), own_up_o (by omega), own_up_o d, own_up_o c]
      exact h4 e q0 ce
theorem own_G_tf {E : Nat} {tl hd fst nxt : Int → Int} (h : own_G E tl hd fst nxt) {e : Int} (h0 : 0 ≤ e) (h1 : e < E) : tl (own_f e) = hd e := by
  have b := own_f_b h0 h1 h.2.1
  have q := h.2.2.2 (own_f e) b.1 b.2
  rw [own_f_f] at q
  exact q.symm
def own_R (E : Nat) (ρ : Int → Int) : Prop := ∀ e : Int, 0 ≤ e → e < E → 0 ≤ ρ e ∧ ρ e + ρ (own_f e) ≤ 15
theorem own_R_b {E : Nat} {ρ : Int → Int} (h : own_R E ρ) (hE : E % 2 = 0) {e : Int} (h0 : 0 ≤ e) (h1 : e < E) : 0 ≤ ρ e ∧ ρ e ≤ 15 := by
  have b := own_f_b h0 h1 hE
  have q1 := h e h0 h1
  have q2 := h (own_f e) b.1 b.2
  omega
theorem own_R_add {E : Nat} {ρ : Int → Int} (h : own_R E ρ) (hE : E % 2 = 0) {c : Int} (hc : 0 ≤ c ∧ c ≤ 15) : own_R (E + 1 + 1) (own_up (own_up ρ E c) ((E + 1 : Nat) : Int) 0) := by
  intro e q0 q1
  have f := own_f_c e
  by_cases a : e = E
  · have f1 : own_f e = ((E + 1 : Nat) : Int) := by omega
    rw [f1, own_up_s, own_up_o (by omega), a, own_up_s]; omega
  · by_cases d : e = ((E + 1 : Nat) : Int)
    · have f1 : own_f e = (E : Int) := by omega
      rw [f1, own_up_o (show (E : Int) ≠ ((E + 1 : Nat) : Int) by omega), own_up_s, d, own_up_s]; omega
    · have ce : e < E := by omega
      have b := own_f_b q0 ce hE
      rw [own_up_o d, own_up_o a, own_up_o (show own_f e ≠ ((E + 1 : Nat) : Int) by omega), own_up_o (show own_f e ≠ (E : Int) by omega)]
      exact h e q0 ce
/-! what leaves a set of nodes -/
def own_O (tl hd : Int → Int) (S : Int → Bool) (ρ : Int → Int) : Nat → Int
  | 0 => 0
  | k + 1 => own_O tl hd S ρ k + (if S (tl (k : Int)) = true ∧ S (hd (k : Int)) = false then ρ (k : Int) else 0)
theorem own_O_s (tl hd : Int → Int) (S : Int → Bool) (ρ : Int → Int) (k : Nat) : own_O tl hd S ρ (k + 1) = own_O tl hd S ρ k + (if S (tl (k : Int)) = true ∧ S (hd (k : Int)) = false then ρ (k : Int) else 0) := rfl
theorem own_O_c {tl hd tl' hd' : Int → Int} {S : Int → Bool} {ρ ρ' : Int → Int} : ∀ k : Nat, (∀ e : Int, 0 ≤ e → e < k → tl' e = tl e ∧ hd' e = hd e ∧ ρ' e = ρ e) → own_O tl' hd' S ρ' k = own_O tl hd S ρ k := by
  intro k
  induction k with
  | zero => intro _; rfl
  | succ k ih =>
    intro h
    rw [own_O_s, own_O_s, ih (fun e h1 h2 => h e h1 (by omega))]
    obtain ⟨a, b, c⟩ := h (k : Int) (by omega) (by omega)
    rw [a, b, c]
theorem own_O_u {tl hd : Int → Int} {S : Int → Bool} {ρ : Int → Int} {p x : Int} : ∀ k : Nat, 0 ≤ p → p < k → own_O tl hd S (own_up ρ p x) k = own_O tl hd S ρ k + (if S (tl p) = true ∧ S (hd p) = false then x - ρ p else 0) := by
  intro k
  induction k with
  | zero => intro h0 h1; exfalso; omega
  | succ k ih =>
    intro h0 h1
    by_cases hp : p = (k : Int)
    · subst hp
      have hc : own_O tl hd S (own_up ρ (k : Int) x) k = own_O tl hd S ρ k := own_O_c k (fun e _ q => ⟨rfl, rfl, own_up_o (by omega)⟩)
      rw [own_O_s, own_O_s, own_up_s, hc]
      by_cases c : S (tl (k : Int)) = true ∧ S (hd (k : Int)) = false
      · simp only [if_pos c] <;> omega
      · simp only [if_neg c] <;> omega
    · rw [own_O_s, own_O_s, ih h0 (by omega), own_up_o (show (k : Int) ≠ p from fun z => hp z.symm)]
      exact Int.add_right_comm _ _ _
theorem own_O_nn {tl hd : Int → Int} {S : Int → Bool} {ρ : Int → Int} : ∀ k : Nat, (∀ e : Int, 0 ≤ e → e < k → 0 ≤ ρ e) → 0 ≤ own_O tl hd S ρ k := by
  intro k
  induction k with
  | zero => intro _; exact Int.le_refl 0
  | succ k ih =>
    intro h
    have a := ih (fun e h1 h2 => h e h1 (by omega))
    have b := h (k : Int) (by omega) (by omega)
    rw [own_O_s]
    by_cases c : S (tl (k : Int)) = true ∧ S (hd (k : Int)) = false
    · rw [if_pos c]; omega
    · rw [if_neg c]; omega
theorem own_O_ge {tl hd : Int → Int} {S : Int → Bool} {ρ : Int → Int} {p : Int} : ∀ k : Nat, (∀ e : Int, 0 ≤ e → e < k → 0 ≤ ρ e) → 0 ≤ p → p < k → S (tl p) = true → S (hd p) = false → ρ p ≤ own_O tl hd S ρ k := by
  intro k
  induction k with
  | zero => intro _ h0 h1; exfalso; omega
  | succ k ih =>
    intro h h0 h1 a1 a2
    have hh : ∀ e : Int, 0 ≤ e → e < k → 0 ≤ ρ e := fun e h1 h2 => h e h1 (by omega)
    rw [own_O_s]
    by_cases hp : p = (k : Int)
    · have a := own_O_nn (tl := tl) (hd := hd) (S := S) k hh
      rw [← hp, if_pos ⟨a1, a2⟩]; omega
    · have a := ih hh h0 (by omega) a1 a2
      have b := h (k : Int) (by omega) (by omega)
      by_cases c : S (tl (k : Int)) = true ∧ S (hd (k : Int)) = false
      · rw [if_pos c]; omega
      · rw [if_neg c]; omega
theorem own_O_z {tl hd : Int → Int} {S : Int → Bool} {ρ : Int → Int} : ∀ k : Nat, (∀ e : Int, 0 ≤ e → e < k → S (tl e) = true → S (hd e) = false → ρ e = 0) → own_O tl hd S ρ k = 0 := by
  intro k
  induction k with
  | zero => intro _; rfl
  | succ k ih =>
    intro h
    have a := ih (fun e h1 h2 => h e h1 (by omega))
    rw [own_O_s, a]
    by_cases c : S (tl (k : Int)) = true ∧ S (hd (k : Int)) = false
    · have b := h (k : Int) (by omega) (by omega) c.1 c.2
      rw [if_pos c]; omega
    · rw [if_neg c]; omega
def own_d (b : Bool) (x : Int) : Int := if b = true then x else 0
theorem own_d0 (b : Bool) : own_d b 0 = 0 := by cases b <;> rfl
/-- two links more -/
theorem own_O_add {E : Nat} {tl hd ρ : Int → Int} (S : Int → Bool) {u v c : Int} :
    own_O (own_up (own_up tl E u) ((E + 1 : Nat) : Int) v) (own_up (own_up hd E v) ((E + 1 : Nat) : Int) u) S (own_up (own_up ρ E c) ((E + 1 : Nat) : Int) 0) (E + 1 + 1) = own_O tl hd S ρ E + own_d (S u && !S v) c := by
  have n : (E : Int) ≠ ((E + 1 : Nat) : Int) := by omega
  have hc : own_O (own_up (own_up tl E u) ((E + 1 : Nat) : Int) v) (own_up (own_up hd E v) ((E + 1 : Nat) : Int) u) S (own_up (own_up ρ E c) ((E + 1 : Nat) : Int) 0) E = own_O tl hd S ρ E :=
    own_O_c E (fun e _ q => ⟨by rw [own_up_o (by omega), own_up_o (by omega)], by rw [own_up_o (by omega), own_up_o (by omega)], by rw [own_up_o (by omega), own_up_o (by omega)]⟩)
  rw [own_O_s, own_O_s, hc]
  rw [own_up_o n, own_up_o n, own_up_o n, own_up_s, own_up_s, own_up_s, own_up_s, own_up_s, own_up_s]
  unfold own_d
  cases S u <;> cases S v <;> simp
def own_stp (ρ : Int → Int) (p δ : Int) : Int → Int := own_up (own_up ρ p (ρ p - δ)) (own_f p) (own_up ρ p (ρ p - δ) (own_f p) + δ)
theorem own_O_step {E : Nat} {tl hd fst nxt ρ : Int → Int} (G : own_G E tl hd fst nxt) (S : Int → Bool) {p δ : Int} (h0 : 0 ≤ p) (h1 : p < E) :
    own_O tl hd S (own_stp ρ p δ) E = own_O tl hd S ρ E - own_d (S (tl p)) δ + own_d (S (hd p)) δ := by
  have b := own_f_b h0 h1 G.2.1
  unfold own_stp
  rw [own_O_u E b.1 b.2, own_O_u E h0 h1, own_G_tf G h0 h1, G.2.2.2 p h0 h1]
  unfold own_d
  generalize own_up ρ p (ρ p - δ) (own_f p) = w
  generalize own_O tl hd S ρ E = o
  cases S (tl p) <;> cases S (hd p) <;> simp <;> omega
theorem own_R_stp {E : Nat} {ρ : Int → Int} (h : own_R E ρ) (hE : E % 2 = 0) {p δ : Int} (h0 : 0 ≤ p) (h1 : p < E) (d0 : 0 ≤ δ) (d1 : δ ≤ ρ p) : own_R E (own_stp ρ p δ) := by
  intro e q0 q1
  have b := own_f_b h0 h1 hE
  have n := own_f_n p
  have be := own_f_b q0 q1 hE
  unfold own_stp
  rw [own_up_o (f := ρ) n]
  by_cases c : e = p
  · rw [c, own_up_o (f := own_up ρ p (ρ p - δ)) n.symm, own_up_s, own_up_s]
    have q := h p h0 h1
    omega
  · by_cases d : e = own_f p
    · rw [d, own_up_s, own_f_f, own_up_o (f := own_up ρ p (ρ p - δ)) n.symm, own_up_s]
      have q := h p h0 h1
      have q' := h (own_f p) b.1 b.2
      omega
    · have e1 : own_f e ≠ p := fun z => d ((own_f_f e).symm.trans (congrArg own_f z))
      have e2 : own_f e ≠ own_f p := fun z => c ((own_f_f e).symm.trans ((congrArg own_f z).trans (own_f_f p)))
      rw [own_up_o d, own_up_o c, own_up_o e2, own_up_o e1]
      exact h e q0 q1
theorem own_stp_ge {ρ : Int → Int} {p δ j : Int} (h : j ≠ p) (d0 : 0 ≤ δ) (hf : 0 ≤ ρ (own_f p)) (hj : δ ≤ ρ j) : δ ≤ own_stp ρ p δ j := by
  unfold own_stp
  rw [own_up_o (f := ρ) (own_f_n p)]
  by_cases c : j = own_f p
  · rw [c, own_up_s]; omega
  · rw [own_up_o c, own_up_o h]; exact hj
/-! the search in breadth -/
def own_b (x : Int) : Int := if 0 ≤ x then 1 else 0
theorem own_b1 {x : Int} (h : 0 ≤ x) : own_b x = 1 := if_pos h
theorem own_b0 {x : Int} (h : x < 0) : own_b x = 0 := if_neg (by omega)
theorem own_bb (x : Int) : 0 ≤ own_b x ∧ own_b x ≤ 1 := by
  by_cases h : 0 ≤ x
  · rw [own_b1 h]; omega
  · rw [own_b0 (by omega)]; omega
def own_cnt (lev : Int → Int) : Int := own_b (lev 0) + own_b (lev 1) + own_b (lev 2) + own_b (lev 3)
theorem own_cnt_b (lev : Int → Int) : 0 ≤ own_cnt lev ∧ own_cnt lev ≤ 4 := by
  have h0 := own_bb (lev 0)
  have h1 := own_bb (lev 1)
  have h2 := own_bb (lev 2)
  have h3 := own_bb (lev 3)
  unfold own_cnt
  omega
theorem own_4 {v : Int} (h : 0 ≤ v ∧ v < 4) : v = 0 ∨ v = 1 ∨ v = 2 ∨ v = 3 := by omega
theorem own_cnt_up {lev : Int → Int} {v x : Int} (hv : 0 ≤ v ∧ v < 4) : own_cnt (own_up lev v x) = own_cnt lev - own_b (lev v) + own_b x := by
  unfold own_cnt
  rcases own_4 hv with rfl | rfl | rfl | rfl
  · rw [own_up_s, own_up_o (show (1 : Int) ≠ 0 by omega), own_up_o (show (2 : Int) ≠ 0 by omega), own_up_o (show (3 : Int) ≠ 0 by omega)]; omega
  · rw [own_up_s, own_up_o (show (0 : Int) ≠ 1 by omega), own_up_o (show (2 : Int) ≠ 1 by omega), own_up_o (show (3 : Int) ≠ 1 by omega)]; omega
  · rw [own_up_s, own_up_o (show (0 : Int) ≠ 2 by omega), own_up_o (show (1 : Int) ≠ 2 by omega), own_up_o (show (3 : Int) ≠ 2 by omega)]; omega
  · rw [own_up_s, own_up_o (show (0 : Int) ≠ 3 by omega), own_up_o (show (1 : Int) ≠ 3 by omega), own_up_o (show (2 : Int) ≠ 3 by omega)]; omega
theorem own_cnt_lt {lev : Int → Int} {v : Int} (hv : 0 ≤ v ∧ v < 4) (h : lev v < 0) : own_cnt lev ≤ 3 := by
  have q := own_cnt_up (lev := lev) (x := 0) hv
  have b := own_cnt_b (own_up lev v 0)
  rw [own_b0 h, own_b1 (Int.le_refl 0)] at q
  omega
theorem own_cnt_pos {lev : Int → Int} {v : Int} (hv : 0 ≤ v ∧ v < 4) (h : 0 ≤ lev v) : 1 ≤ own_cnt lev := by
  have q := own_cnt_up (lev := lev) (x := -1) hv
  have b := own_cnt_b (own_up lev v (-1))
  rw [own_b1 h, own_b0 (by omega)] at q
  omega
def own_BC (E : Nat) (tl hd rm : Int → Int) (s0 : Int) (lev que : Int → Int) (q : Int) : Prop :=
  own_cnt lev = q ∧ lev s0 = 0 ∧ (∀ i : Int, 0 ≤ i → i < q → (0 ≤ que i ∧ que i < 4) ∧ 0 ≤ lev (que i)) ∧
  (∀ n : Int, 0 ≤ n → n < 4 → 0 ≤ lev n → ∃ i : Int, 0 ≤ i ∧ i < q ∧ que i = n) ∧ (∀ n : Int, 0 ≤ n → n < 4 → -1 ≤ lev n ∧ lev n < q) ∧
  (∀ n : Int, 0 ≤ n → n < 4 → 1 ≤ lev n → ∃ e : Int, 0 ≤ e ∧ e < E ∧ 0 < rm e ∧ hd e = n ∧ lev (tl e) + 1 = lev n) ∧ (∀ n : Int, 0 ≤ n → n < 4 → lev n = 0 → n = s0)
theorem own_BC_init {E : Nat} {tl hd rm : Int → Int} {s0 : Int} {lev que : Int → Int} (hs : 0 ≤ s0 ∧ s0 < 4) (h : ∀ n : Int, 0 ≤ n → n < 4 → lev n = -1) :
    own_BC E tl hd rm s0 (own_up lev s0 0) (own_up que 0 s0) 1 := by
  have o : ∀ n : Int, 0 ≤ n → n < 4 → n ≠ s0 → own_up lev s0 0 n = -1 := fun n a b c => by rw [own_up_o c]; exact h n a b
  refine ⟨?_, own_up_s _ _ _, fun i h0 h1 => ?_, fun n h0 h1 h2 => ?_, fun n h0 h1 => ?_, fun n h0 h1 h2 => ?_, fun n h0 h1 h2 => ?_⟩
  · rw [own_cnt_up hs, h s0 hs.1 hs.2]
    unfold own_cnt
    rw [h 0 (by omega) (by omega), h 1 (by omega) (by omega), h 2 (by omega) (by omega), h 3 (by omega) (by omega)]
    decide
  · have e : i = 0 := by omega
    rw [e, own_up_s, own_up_s]
    exact ⟨hs, Int.le_refl 0⟩
  · by_cases c : n = s0
    · exact ⟨0, by omega, by omega, by rw [own_up_s, c]⟩
    · rw [o n h0 h1 c] at h2; exfalso; omega
  · by_cases c : n = s0
    · rw [c, own_up_s]; omega
    · rw [o n h0 h1 c]; omega
  · by_cases c : n = s0
    · rw [c, own_up_s] at h2; exfalso; omega
    · rw [o n h0 h1 c] at h2; exfalso; omega
  · by_cases c : n = s0
    · exact c
    · rw [o n h0 h1 c] at h2; exfalso; omega
theorem own_BC_push {E : Nat} {tl hd rm : Int → Int} {s0 : Int} {lev que : Int → Int} {q z : Int} (hs : 0 ≤ s0 ∧ s0 < 4) (H : own_BC E tl hd rm s0 lev que q) (z0 : 0 ≤ z) (z1 : z < E) (ht : 0 ≤ tl z ∧ tl z < 4) (hh : 0 ≤ hd z ∧ hd z < 4)
    (hu : 0 ≤ lev (tl z)) (hr : 0 < rm z) (hv : lev (hd z) < 0) : own_BC E tl hd rm s0 (own_up lev (hd z) (lev (tl z) + 1)) (own_up que q (hd z)) (q + 1) := by
  obtain ⟨c1, c2, c3, c4, c5, c6, c7⟩ := H
  have cb := own_cnt_b lev
  have n1 : ∀ y : Int, 0 ≤ lev y → y ≠ hd z := fun y a b => by rw [b] at a; omega
  refine ⟨?_, ?_, fun i h0 h1 => ?_, fun n h0 h1 h2 => ?_, fun n h0 h1 => ?_, fun n h0 h1 h2 => ?_, fun n h0 h1 h2 => ?_⟩
  · rw [own_cnt_up hh, own_b0 hv, own_b1 (by omega), c1]; omega
  · rw [own_up_o (n1 s0 (by omega))]; exact c2
  · by_cases c : i = q
    · rw [c, own_up_s, own_up_s]; exact ⟨hh, by omega⟩
    · obtain ⟨a1, a2⟩ := c3 i h0 (by omega)
      rw [own_up_o c, own_up_o (n1 _ a2)]; exact ⟨a1, a2⟩
  · by_cases c : n = hd z
    · exact ⟨q, by omega, by omega, by rw [own_up_s, c]⟩
    · rw [own_up_o c] at h2
      obtain ⟨i, i0, i1, i2⟩ := c4 n h0 h1 h2
      exact ⟨i, i0, by omega, by rw [own_up_o (by omega)]; exact i2⟩
  · by_cases c : n = hd z
    · have b := c5 (tl z) ht.1 ht.2
      rw [c, own_up_s]; omega
    · have b := c5 n h0 h1
      rw [own_up_o c]; omega
  · by_cases c : n = hd z
    · refine ⟨z, z0, z1, hr, c.symm, ?_⟩
      rw [c, own_up_s, own_up_o (n1 _ hu)]
    · rw [own_up_o c] at h2
      obtain ⟨e, e0, e1, e2, e3, e4⟩ := c6 n h0 h1 h2
      refine ⟨e, e0, e1, e2, e3, ?_⟩
      rw [own_up_o c, own_up_o (n1 _ (by omega))]; exact e4
  · by_cases c : n = hd z
    · rw [c, own_up_s] at h2; exfalso; omega
    · rw [own_up_o c] at h2; exact c7 n h0 h1 h2
def own_DN (E : Nat) (tl hd rm lev : Int → Int) (v z : Int) : Prop := ∀ e : Int, 0 ≤ e → e < E → z < e → tl e = v → 0 < rm e → 0 ≤ lev (hd e)
theorem own_up_nn {lev : Int → Int} {v x y : Int} (hx : 0 ≤ x) (h : 0 ≤ lev y) : 0 ≤ own_up lev v x y := by
  by_cases c : y = v
  · rw [c, own_up_s]; exact hx
  · rw [own_up_o c]; exact h
def own_BD (E : Nat) (tl hd rm lev que : Int → Int) (a : Int) : Prop := ∀ i : Int, 0 ≤ i → i < a → own_DN E tl hd rm lev (que i) (-1)
def own_BI (E : Nat) (tl hd rm : Int → Int) (s0 : Int) (lev que : Int → Int) (q a z : Int) : Prop :=
  own_BC E tl hd rm s0 lev que q ∧ own_BD E tl hd rm lev que a ∧ own_DN E tl hd rm lev (que a) z ∧ (0 ≤ a ∧ a < q) ∧ -1 ≤ z ∧ z < E ∧ (0 ≤ z → tl z = que a)
theorem own_BI_start {E : Nat} {tl hd fst nxt rm : Int → Int} {s0 : Int} {lev que : Int → Int} {q a : Int} (G : own_G E tl hd fst nxt) (H : own_BC E tl hd rm s0 lev que q) (D : own_BD E tl hd rm lev que a) (ha : 0 ≤ a ∧ a < q) :
    own_BI E tl hd rm s0 lev que q a (fst (que a)) := by
  obtain ⟨r, l⟩ := H.2.2.1 a ha.1 ha.2
  have x := G.1.2 (que a) r.1 r.2
  exact ⟨H, D, fun e e0 e1 e2 e3 _ => absurd e3 (x.2.2.2 e e0 e2 e1), ha, x.1, x.2.1, x.2.2.1⟩
theorem own_BI_skip {E : Nat} {tl hd fst nxt rm : Int → Int} {s0 : Int} {lev que : Int → Int} {q a z : Int} (G : own_G E tl hd fst nxt) (I : own_BI E tl hd rm s0 lev que q a z) (z0 : 0 ≤ z) (h : 0 < rm z → 0 ≤ lev (hd z)) :
    own_BI E tl hd rm s0 lev que q a (nxt z) := by
  obtain ⟨i1, i2, i3, i4, i5, i6, i7⟩ := I
  obtain ⟨g1, g2, x⟩ := G.1.1 z z0 i6
  have t := i7 z0
  rw [t] at x
  refine ⟨i1, i2, fun e e0 e1 e2 e3 e4 => ?_, i4, x.1, by have := x.2.1; omega, x.2.2.1⟩
  by_cases c : z < e
  · exact i3 e e0 e1 c e3 e4
  · by_cases d : e = z
    · rw [d] at e4 ⊢; exact h e4
    · exact absurd e3 (x.2.2.2 e e0 e2 (by omega))
theorem own_BI_push {E : Nat} {tl hd fst nxt rm : Int → Int} {s0 : Int} {lev que : Int → Int} {q a z : Int} (hs : 0 ≤ s0 ∧ s0 < 4) (G : own_G E tl hd fst nxt) (I : own_BI E tl hd rm s0 lev que q a z) (z0 : 0 ≤ z) (hr : 0 < rm z) (hv : lev (hd z) < 0) :
    own_BI E tl hd rm s0 (own_up lev (hd z) (lev (que a) + 1)) (own_up que q (hd z)) (q + 1) a (nxt z) := by
  have I' := I
  obtain ⟨i1, i2, i3, i4, i5, i6, i7⟩ := I
  obtain ⟨g1, g2, x⟩ := G.1.1 z z0 i6
  have t := i7 z0
  have hu := (i1.2.2.1 a i4.1 i4.2).2
  have qa : own_up que q (hd z) a = que a := own_up_o (by omega)
  have B : own_BC E tl hd rm s0 (own_up lev (hd z) (lev (que a) + 1)) (own_up que q (hd z)) (q + 1) := by
    have b := own_BC_push hs i1 z0 i6 g1 g2 (by rw [t]; exact hu) hr hv
    rwa [t] at b
  have J : own_BI E tl hd rm s0 (own_up lev (hd z) (lev (que a) + 1)) (own_up que q (hd z)) (q + 1) a z := by
    refine ⟨B, fun i h0 h1 => ?_, ?_, by omega, i5, i6, fun y => by rw [qa]; exact t⟩
    · rw [own_up_o (show i ≠ q by omega)]
      exact fun e e0 e1 e2 e3 e4 => own_up_nn (by omega) (i2 i h0 h1 e e0 e1 e2 e3 e4)
    · rw [qa]
      exact fun e e0 e1 e2 e3 e4 => own_up_nn (by omega) (i3 e e0 e1 e2 e3 e4)
  exact own_BI_skip G J z0 (fun _ => by rw [own_up_s]; omega)
theorem own_BI_end {E : Nat} {tl hd rm : Int → Int} {s0 : Int} {lev que : Int → Int} {q a z : Int} (I : own_BI E tl hd rm s0 lev que q a z) (hz : z < 0) : own_BD E tl hd rm lev que (a + 1) := by
  obtain ⟨i1, i2, i3, i4, i5, i6, i7⟩ := I
  intro i h0 h1
  by_cases c : i = a
  · rw [c]; exact fun e e0 e1 e2 e3 e4 => i3 e e0 e1 (by omega) e3 e4
  · exact i2 i h0 (by omega)
def own_LV (E : Nat) (tl hd rm : Int → Int) (s0 : Int) (lev : Int → Int) : Prop :=
  (∀ n : Int, 0 ≤ n → n < 4 → -1 ≤ lev n ∧ lev n < 4) ∧ lev s0 = 0 ∧ (∀ e : Int, 0 ≤ e → e < E → 0 < rm e → 0 ≤ lev (tl e) → 0 ≤ lev (hd e)) ∧
  (∀ n : Int, 0 ≤ n → n < 4 → 1 ≤ lev n → ∃ e : Int, 0 ≤ e ∧ e < E ∧ 0 < rm e ∧ hd e = n ∧ lev (tl e) + 1 = lev n) ∧ (∀ n : Int, 0 ≤ n → n < 4 → lev n = 0 → n = s0)
theorem own_BC_LV {E : Nat} {tl hd fst nxt rm : Int → Int} {s0 : Int} {lev que : Int → Int} {q a : Int} (G : own_G E tl hd fst nxt) (H : own_BC E tl hd rm s0 lev que q) (D : own_BD E tl hd rm lev que a) (ha : ¬ a < q) : own_LV E tl hd rm s0 lev := by
  obtain ⟨c1, c2, c3, c4, c5, c6, c7⟩ := H
  have b := own_cnt_b lev
  refine ⟨fun n h0 h1 => ?_, c2, fun e e0 e1 e2 e3 => ?_, c6, c7⟩
  · have := c5 n h0 h1; omega
  · obtain ⟨g1, g2, x⟩ := G.1.1 e e0 e1
    obtain ⟨i, i0, i1, i2⟩ := c4 (tl e) g1.1 g1.2 e3
    exact D i i0 (by omega) e e0 e1 (by omega) i2.symm e2
/-! the search in depth -/
def own_A (E : Nat) (tl : Int → Int) (s0 : Int) (lev arc : Int → Int) : Prop :=
  (∀ n : Int, 0 ≤ n → n < 4 → (-1 ≤ lev n ∧ lev n < 4) ∧ -1 ≤ arc n ∧ arc n < E ∧ (0 ≤ arc n → tl (arc n) = n)) ∧ lev s0 = 0
def own_GE (E : Nat) (tl hd rm lev : Int → Int) (Gd : Int → Prop) (v x : Int) : Prop :=
  ∃ e : Int, 0 ≤ e ∧ e ≤ x ∧ e < E ∧ tl e = v ∧ 0 < rm e ∧ lev (hd e) = lev v + 1 ∧ Gd (hd e)
def own_W (E : Nat) (tl hd rm lev arc : Int → Int) (Gd : Int → Prop) (t0 : Int) : Prop := ∀ v : Int, 0 ≤ v → v < 4 → Gd v → v ≠ t0 → own_GE E tl hd rm lev Gd v (arc v)
def own_nt (s0 : Int) (hd pth : Int → Int) (t : Int) : Int := if t = 0 then s0 else hd (pth (t - 1))
theorem own_nt0 (s0 : Int) (hd pth : Int → Int) : own_nt s0 hd pth 0 = s0 := if_pos rfl
theorem own_nt1 {s0 : Int} {hd pth : Int → Int} {t : Int} (h : t ≠ 0) : own_nt s0 hd pth t = hd (pth (t - 1)) := if_neg h
def own_P (E : Nat) (tl hd rm : Int → Int) (s0 : Int) (lev arc pth : Int → Int) (d node : Int) : Prop :=
  0 ≤ d ∧ (∀ i : Int, 0 ≤ i → i < d → (0 ≤ pth i ∧ pth i < E) ∧ 0 < rm (pth i) ∧ tl (pth i) = own_nt s0 hd pth i ∧ lev (tl (pth i)) = i ∧ lev (hd (pth i)) = i + 1 ∧ arc (tl (pth i)) = pth i) ∧ node = own_nt s0 hd pth d
def own_DF (E : Nat) (tl hd rm : Int → Int) (Gd : Int → Prop) (s0 t0 : Int) (lev arc pth : Int → Int) (d node : Int) : Prop :=
  own_A E tl s0 lev arc ∧ own_W E tl hd rm lev arc Gd t0 ∧ own_P E tl hd rm s0 lev arc pth d node
theorem own_DF_init {E : Nat} {tl hd rm : Int → Int} {Gd : Int → Prop} {s0 t0 : Int} {lev arc pth : Int → Int} (a : own_A E tl s0 lev arc) (w : own_W E tl hd rm lev arc Gd t0) : own_DF E tl hd rm Gd s0 t0 lev arc pth 0 s0 :=
  ⟨a, w, Int.le_refl 0, fun i h0 h1 => by exfalso; omega, (own_nt0 _ _ _).symm⟩
theorem own_DF_node {E : Nat} {tl hd fst nxt rm : Int → Int} {Gd : Int → Prop} {s0 t0 : Int} {lev arc pth : Int → Int} {d node : Int} (G : own_G E tl hd fst nxt) (hs : 0 ≤ s0 ∧ s0 < 4) (D : own_DF E tl hd rm Gd s0 t0 lev arc pth d node) :
    (0 ≤ node ∧ node < 4) ∧ lev node = d ∧ 0 ≤ d ∧ d ≤ 3 := by
  obtain ⟨a, w, p1, p2, p3⟩ := D
  by_cases c : d = 0
  · have e : node = s0 := by rw [p3, c, own_nt0]
    rw [e, a.2]; exact ⟨hs, by omega, by omega, by omega⟩
  · obtain ⟨q1, q2, q3, q4, q5, q6⟩ := p2 (d - 1) (by omega) (by omega)
    obtain ⟨g1, g2, x⟩ := G.1.1 _ q1.1 q1.2
    have e : node = hd (pth (d - 1)) := by rw [p3, own_nt1 c]
    have b := (a.1 _ g2.1 g2.2).1
    rw [e]; exact ⟨g2, by omega, by omega, by omega⟩
theorem own_DF_d1 {E : Nat} {tl hd rm : Int → Int} {Gd : Int → Prop} {s0 t0 : Int} {lev arc pth : Int → Int} {d node : Int} (D : own_DF E tl hd rm Gd s0 t0 lev arc pth d node) (hn : node = t0) (hst : s0 ≠ t0) : 1 ≤ d := by
  obtain ⟨a, w, p1, p2, p3⟩ := D
  by_cases c : d = 0
  · rw [c, own_nt0] at p3; exact absurd (p3.symm.trans hn) hst
  · omega
def own_SC (E : Nat) (tl hd rm lev : Int → Int) (Gd : Int → Prop) (v z : Int) : Prop := -1 ≤ z ∧ z < E ∧ (0 ≤ z → tl z = v) ∧ (Gd v → own_GE E tl hd rm lev Gd v z)
theorem own_SC_init {E : Nat} {tl hd rm : Int → Int} {Gd : Int → Prop} {s0 t0 : Int} {lev arc pth : Int → Int} {d node : Int} (D : own_DF E tl hd rm Gd s0 t0 lev arc pth d node) (hn : 0 ≤ node ∧ node < 4) (ht : node ≠ t0) : own_SC E tl hd rm lev Gd node (arc node) := by
  obtain ⟨a, w, p⟩ := D
  obtain ⟨l, b1, b2, b3⟩ := a.1 node hn.1 hn.2
  exact ⟨b1, b2, b3, fun g => w node hn.1 hn.2 g ht⟩
theorem own_SC_skip {E : Nat} {tl hd fst nxt rm lev : Int → Int} {Gd : Int → Prop} {v z : Int} (G : own_G E tl hd fst nxt) (s : own_SC E tl hd rm lev Gd v z) (z0 : 0 ≤ z) (h : 0 < rm z → lev (hd z) ≠ lev v + 1) : own_SC E tl hd rm lev Gd v (nxt z) := by
  obtain ⟨s1, s2, s3, s4⟩ := s
  obtain ⟨g1, g2, x⟩ := G.1.1 z z0 s2
  have t := s3 z0
  rw [t] at x
  refine ⟨x.1, by have := x.2.1; omega, x.2.2.1, fun g => ?_⟩
  obtain ⟨e, e0, e1, e2, e3, e4, e5, e6⟩ := s4 g
  have n : e ≠ z := fun c => h (by rw [← c]; exact e4) (by rw [← c]; exact e5)
  exact ⟨e, e0, own_X_le x e0 (by omega) e3, e2, e3, e4, e5, e6⟩
theorem own_SC_none {E : Nat} {tl hd rm lev : Int → Int} {Gd : Int → Prop} {v z : Int} (s : own_SC E tl hd rm lev Gd v z) (hz : z < 0) : ¬ Gd v := fun g => by
  obtain ⟨e, e0, e1, -⟩ := s.2.2.2 g
  omega
/-- the arc is set to where the scan stands -/
theorem own_DF_arc {E : Nat} {tl hd fst nxt rm : Int → Int} {Gd : Int → Prop} {s0 t0 : Int} {lev arc pth : Int → Int} {d node z : Int} (G : own_G E tl hd fst nxt) (hs : 0 ≤ s0 ∧ s0 < 4) (D : own_DF E tl hd rm Gd s0 t0 lev arc pth d node) (s : own_SC E tl hd rm lev Gd node z) :
    own_DF E tl hd rm Gd s0 t0 lev (own_up arc node z) pth d node := by
  obtain ⟨n1, n2, n3, n4⟩ := own_DF_node G hs D
  obtain ⟨a, w, p1, p2, p3⟩ := D
  obtain ⟨s1, s2, s3, s4⟩ := s
  refine ⟨⟨fun n h0 h1 => ?_, a.2⟩, fun v h0 h1 g t => ?_, p1, fun i h0 h1 => ?_, p3⟩
  · obtain ⟨l, b⟩ := a.1 n h0 h1
    by_cases c : n = node
    · rw [c, own_up_s]; rw [c] at l; exact ⟨l, s1, s2, s3⟩
    · rw [own_up_o c]; exact ⟨l, b⟩
  · by_cases c : v = node
    · rw [c, own_up_s]; rw [c] at g; exact s4 g
    · rw [own_up_o c]; exact w v h0 h1 g t
  · obtain ⟨q1, q2, q3, q4, q5, q6⟩ := p2 i h0 h1
    have c : tl (pth i) ≠ node := fun c => by rw [c] at q4; omega
    rw [own_up_o c]
    exact ⟨q1, q2, q3, q4, q5, q6⟩
theorem own_DF_desc {E : Nat} {tl hd fst nxt rm : Int → Int} {Gd : Int → Prop} {s0 t0 : Int} {lev arc pth : Int → Int} {d node z : Int} (G : own_G E tl hd fst nxt) (hs : 0 ≤ s0 ∧ s0 < 4) (D : own_DF E tl hd rm Gd s0 t0 lev arc pth d node) (s : own_SC E tl hd rm lev Gd node z)
    (z0 : 0 ≤ z) (hr : 0 < rm z) (hl : lev (hd z) = lev node + 1) : own_DF E tl hd rm Gd s0 t0 lev (own_up arc node z) (own_up pth d z) (d + 1) (hd z) ∧ d + 1 ≤ 3 := by
  have D' := own_DF_arc G hs D s
  obtain ⟨n1, n2, n3, n4⟩ := own_DF_node G hs D
  obtain ⟨s1, s2, s3, s4⟩ := s
  have t := s3 z0
  obtain ⟨a, w, p1, p2, p3⟩ := D'
  obtain ⟨g1, g2, x⟩ := G.1.1 z z0 s2
  have b := (a.1 _ g2.1 g2.2).1
  have nt : ∀ i : Int, 0 ≤ i → i ≤ d → own_nt s0 hd (own_up pth d z) i = own_nt s0 hd pth i := fun i h0 h1 => by
    by_cases c : i = 0
    · rw [c, own_nt0, own_nt0]
    · rw [own_nt1 c, own_nt1 c, own_up_o (by omega)]
  refine ⟨⟨a, w, by omega, fun i h0 h1 => ?_, ?_⟩, by omega⟩
  · by_cases c : i = d
    · rw [nt i h0 (by omega), c, own_up_s, t, own_up_s]
      exact ⟨⟨z0, s2⟩, hr, p3, n2, by omega, rfl⟩
    · rw [nt i h0 (by omega), own_up_o c]
      exact p2 i h0 (by omega)
  · rw [own_nt1 (by omega), show d + 1 - 1 = d by omega, own_up_s]
theorem own_DF_back {E : Nat} {tl hd fst nxt rm : Int → Int} {Gd : Int → Prop} {s0 t0 : Int} {lev arc pth : Int → Int} {d node z : Int} (G : own_G E tl hd fst nxt) (hs : 0 ≤ s0 ∧ s0 < 4) (D : own_DF E tl hd rm Gd s0 t0 lev arc pth d node) (s : own_SC E tl hd rm lev Gd node z)
    (hz : z < 0) (hn : node ≠ s0) : 1 ≤ d ∧ (0 ≤ pth (d - 1) ∧ pth (d - 1) < E) ∧ own_cnt (own_up lev node (-1)) = own_cnt lev - 1 ∧ 1 ≤ own_cnt lev ∧
      own_DF E tl hd rm Gd s0 t0 (own_up lev node (-1)) (own_up (own_up arc node z) (hd (own_f (pth (d - 1)))) (nxt (pth (d - 1)))) pth (d - 1) (hd (own_f (pth (d - 1)))) := by
  have D' := own_DF_arc G hs D s
  obtain ⟨n1, n2, n3, n4⟩ := own_DF_node G hs D
  have ng := own_SC_none s hz
  obtain ⟨a0, w0, r1, r2, r3⟩ := D
  obtain ⟨a, w, p1, p2, p3⟩ := D'
  have d1 : 1 ≤ d := by
    by_cases c : d = 0
    · exact absurd (by rw [p3, c, own_nt0]) hn
    · omega
  obtain ⟨q1, q2, q3, q4, q5, q6⟩ := p2 (d - 1) (by omega) (by omega)
  have r6 := (r2 (d - 1) (by omega) (by omega)).2.2.2.2.2
  obtain ⟨g1, g2, x⟩ := G.1.1 _ q1.1 q1.2
  have hb : hd (pth (d - 1)) = node := by rw [p3, own_nt1 (by omega)]
  rw [G.2.2.2 _ q1.1 q1.2]
  have lv : ∀ y : Int, y ≠ node → own_up lev node (-1) y = lev y := fun y c => own_up_o c
  have tn : tl (pth (d - 1)) ≠ node := fun c => by rw [c] at q4; omega
  refine ⟨d1, q1, ?_, own_cnt_pos n1 (by omega), ⟨fun n h0 h1 => ?_, ?_⟩, fun v h0 h1 g t => ?_, by omega, fun i h0 h1 => ?_, q3⟩
  · rw [own_cnt_up n1, own_b1 (by omega), own_b0 (by omega)]; omega
  · obtain ⟨l, b⟩ := a.1 n h0 h1
    have lr : -1 ≤ own_up lev node (-1) n ∧ own_up lev node (-1) n < 4 := by
      by_cases c : n = node
      · rw [c, own_up_s]; omega
      · rw [own_up_o c]; exact l
    by_cases c : n = tl (pth (d - 1))
    · rw [c] at lr ⊢
      rw [own_up_s]
      exact ⟨lr, x.1, by have := x.2.1; omega, x.2.2.1⟩
    · rw [own_up_o c]; exact ⟨lr, b⟩
  · rw [lv s0 (fun c => hn c.symm)]; exact a.2
  · have vn : v ≠ node := fun c => ng (c ▸ g)
    obtain ⟨e, e0, e1, e2, e3, e4, e5, e6⟩ := w0 v h0 h1 g t
    have hn2 : hd e ≠ node := fun c => ng (c ▸ e6)
    have l1 : own_up lev node (-1) (hd e) = own_up lev node (-1) v + 1 := by rw [lv _ hn2, lv _ vn]; exact e5
    by_cases c : v = tl (pth (d - 1))
    · rw [c, own_up_s]
      have eb : e ≠ pth (d - 1) := fun q => hn2 (by rw [q]; exact hb)
      have ea : e ≤ pth (d - 1) := by rw [c, r6] at e1; exact e1
      rw [c] at e3 l1
      exact ⟨e, e0, own_X_le x e0 (by omega) e3, e2, e3, e4, l1, e6⟩
    · rw [own_up_o c, own_up_o vn]
      exact ⟨e, e0, e1, e2, e3, e4, l1, e6⟩
  · obtain ⟨k1, k2, k3, k4, k5, k6⟩ := p2 i h0 (by omega)
    have c1 : tl (pth i) ≠ node := fun c => by rw [c] at k4; omega
    have c2 : hd (pth i) ≠ node := fun c => by rw [c] at k5; omega
    have c3 : tl (pth i) ≠ tl (pth (d - 1)) := fun c => by rw [c] at k4; omega
    rw [lv _ c1, lv _ c2, own_up_o c3]
    exact ⟨k1, k2, k3, k4, k5, k6⟩
/-! the first search of a phase comes through -/
def own_pa (E : Nat) (tl hd rm lev : Int → Int) (t0 : Int) : Nat → Int → Prop
  | 0 => fun v => v = t0
  | k + 1 => fun v => ∃ e : Int, 0 ≤ e ∧ e < E ∧ tl e = v ∧ 0 < rm e ∧ lev (hd e) = lev v + 1 ∧ own_pa E tl hd rm lev t0 k (hd e)
def own_Gd (E : Nat) (tl hd rm lev : Int → Int) (t0 : Int) : Int → Prop := fun v => ∃ k : Nat, own_pa E tl hd rm lev t0 k v
theorem own_Gd_W {E : Nat} {tl hd fst nxt rm lev arc : Int → Int} {t0 : Int} (G : own_G E tl hd fst nxt) (ha : ∀ n : Int, 0 ≤ n → n < 4 → arc n = fst n) : own_W E tl hd rm lev arc (own_Gd E tl hd rm lev t0) t0 := by
  intro v h0 h1 g t
  obtain ⟨k, g⟩ := g
  cases k with
  | zero => exact absurd (show v = t0 from g) t
  | succ k =>
    obtain ⟨e, e0, e1, e2, e3, e4, e5⟩ := g
    exact ⟨e, e0, by rw [ha v h0 h1]; exact own_X_le (G.1.2 v h0 h1) e0 e1 e2, e1, e2, e3, e4, k, e5⟩
theorem own_Gd_s {E : Nat} {tl hd fst nxt rm lev : Int → Int} {s0 t0 : Int} (G : own_G E tl hd fst nxt) (L : own_LV E tl hd rm s0 lev) : ∀ (m : Nat) (v : Int), 0 ≤ v ∧ v < 4 → lev v = m → own_Gd E tl hd rm lev t0 v → own_Gd E tl hd rm lev t0 s0 := by
  intro m
  induction m with
  | zero => intro v hv h g; rw [← L.2.2.2.2 v hv.1 hv.2 (by omega)]; exact g
  | succ m ih =>
    intro v hv h g
    obtain ⟨e, e0, e1, e2, e3, e4⟩ := L.2.2.2.1 v hv.1 hv.2 (by omega)
    obtain ⟨g1, g2, x⟩ := G.1.1 e e0 e1
    obtain ⟨k, g⟩ := g
    exact ih (tl e) g1 (by omega) ⟨k + 1, e, e0, e1, rfl, e2, by rw [e3]; omega, by rw [e3]; exact g⟩
theorem own_Gd_ok {E : Nat} {tl hd fst nxt rm lev : Int → Int} {s0 t0 : Int} (G : own_G E tl hd fst nxt) (L : own_LV E tl hd rm s0 lev) (ht : 0 ≤ t0 ∧ t0 < 4) (h : 0 ≤ lev t0) : own_Gd E tl hd rm lev t0 s0 :=
  own_Gd_s G L (lev t0).toNat t0 ht (Int.toNat_of_nonneg h).symm ⟨0, show t0 = t0 from rfl⟩
theorem own_LV_A {E : Nat} {tl hd fst nxt rm lev arc : Int → Int} {s0 : Int} (G : own_G E tl hd fst nxt) (L : own_LV E tl hd rm s0 lev) (ha : ∀ n : Int, 0 ≤ n → n < 4 → arc n = fst n) : own_A E tl s0 lev arc := by
  refine ⟨fun n h0 h1 => ?_, L.2.1⟩
  have x := G.1.2 n h0 h1
  rw [ha n h0 h1]
  exact ⟨L.1 n h0 h1, x.1, x.2.1, x.2.2.1⟩
theorem own_W_no {E : Nat} {tl hd rm lev arc : Int → Int} {t0 : Int} : own_W E tl hd rm lev arc (fun _ => False) t0 := fun _ _ _ g _ => g.elim
/-! the flow along the path -/
def own_MI (rm pth : Int → Int) (d i δ : Int) : Prop := (1 ≤ i ∧ i ≤ d) ∧ (1 ≤ δ ∧ δ ≤ 15) ∧ ∀ j : Int, 0 ≤ j → j < i → δ ≤ rm (pth j)
theorem own_PF {E : Nat} {tl hd fst nxt rm : Int → Int} {Gd : Int → Prop} {s0 t0 : Int} {lev arc pth : Int → Int} {d node : Int} (G : own_G E tl hd fst nxt) (R : own_R E rm) (D : own_DF E tl hd rm Gd s0 t0 lev arc pth d node) {i : Int} (h0 : 0 ≤ i) (h1 : i < d) :
    (0 ≤ pth i ∧ pth i < E) ∧ 1 ≤ rm (pth i) ∧ rm (pth i) ≤ 15 := by
  obtain ⟨a, w, p1, p2, p3⟩ := D
  obtain ⟨q1, q2, -⟩ := p2 i h0 h1
  have b := own_R_b R G.2.1 q1.1 q1.2
  exact ⟨q1, by omega, by omega⟩
theorem own_MI_init {rm pth : Int → Int} {d : Int} (hd : 1 ≤ d) (h : 1 ≤ rm (pth 0) ∧ rm (pth 0) ≤ 15) : own_MI rm pth d 1 (rm (pth 0)) :=
  ⟨by omega, h, fun j h0 h1 => by rw [show j = 0 by omega]; exact Int.le_refl _⟩
theorem own_MI_step {rm pth : Int → Int} {d i δ : Int} (I : own_MI rm pth d i δ) (hi : i < d) (h : 1 ≤ rm (pth i)) : own_MI rm pth d (i + 1) (own_mn δ (rm (pth i))) := by
  obtain ⟨a, b, c⟩ := I
  have m : own_mn δ (rm (pth i)) ≤ δ ∧ own_mn δ (rm (pth i)) ≤ rm (pth i) ∧ 1 ≤ own_mn δ (rm (pth i)) := by
    unfold own_mn
    by_cases q : δ < rm (pth i)
    · rw [if_pos q]; omega
    · rw [if_neg q]; omega
  refine ⟨by omega, by omega, fun j h0 h1 => ?_⟩
  by_cases q : j = i
  · rw [q]; exact m.2.1
  · have := c j h0 (by omega); omega
def own_UI (E : Nat) (tl hd rm : Int → Int) (s0 : Int) (pth : Int → Int) (d δ : Int) (ρ : Int → Int) (i : Int) : Prop :=
  (0 ≤ i ∧ i ≤ d) ∧ own_R E ρ ∧ (∀ j : Int, i ≤ j → j < d → δ ≤ ρ (pth j)) ∧ ∀ S : Int → Bool, own_O tl hd S ρ E = own_O tl hd S rm E - own_d (S s0) δ + own_d (S (own_nt s0 hd pth i)) δ
theorem own_UI_init {E : Nat} {tl hd rm : Int → Int} {s0 : Int} {pth : Int → Int} {d δ : Int} (R : own_R E rm) (I : own_MI rm pth d d δ) : own_UI E tl hd rm s0 pth d δ rm 0 := by
  obtain ⟨a, b, c⟩ := I
  exact ⟨by omega, R, fun j h0 h1 => c j h0 h1, fun S => by rw [own_nt0]; omega⟩
theorem own_UI_step {E : Nat} {tl hd fst nxt rm : Int → Int} {Gd : Int → Prop} {s0 t0 : Int} {lev arc pth : Int → Int} {d node δ i : Int} {ρ : Int → Int} (G : own_G E tl hd fst nxt) (D : own_DF E tl hd rm Gd s0 t0 lev arc pth d node)
    (d0 : 0 ≤ δ) (U : own_UI E tl hd rm s0 pth d δ ρ i) (hi : i < d) : own_UI E tl hd rm s0 pth d δ (own_stp ρ (pth i) δ) (i + 1) := by
  obtain ⟨u1, u2, u3, u4⟩ := U
  obtain ⟨a, w, p1, p2, p3⟩ := D
  obtain ⟨q1, q2, q3, q4, q5, q6⟩ := p2 i u1.1 hi
  have b := own_f_b q1.1 q1.2 G.2.1
  refine ⟨by omega, own_R_stp u2 G.2.1 q1.1 q1.2 d0 (u3 i (Int.le_refl i) hi), fun j h0 h1 => ?_, fun S => ?_⟩
  · obtain ⟨k1, k2, k3, k4, k5, k6⟩ := p2 j (by omega) h1
    have n : pth j ≠ pth i := fun c => by rw [c] at k4; omega
    exact own_stp_ge n d0 (u2 _ b.1 b.2).1 (u3 j (by omega) h1)
  · rw [own_O_step G S q1.1 q1.2, u4 S, q3, own_nt1 (show i + 1 ≠ 0 by omega), show i + 1 - 1 = i by omega]
    omega
def own_AU (E : Nat) (tl hd : Int → Int) (s0 t0 : Int) (rm rm' : Int → Int) : Prop := own_R E rm' ∧ ∃ δ : Int, 1 ≤ δ ∧ ∀ S : Int → Bool, S s0 = true → S t0 = false → own_O tl hd S rm' E = own_O tl hd S rm E - δ
theorem own_UI_end {E : Nat} {tl hd rm : Int → Int} {Gd : Int → Prop} {s0 t0 : Int} {lev arc pth : Int → Int} {d node δ i : Int} {ρ : Int → Int} (D : own_DF E tl hd rm Gd s0 t0 lev arc pth d node) (hn : node = t0) (d1 : 1 ≤ δ) (U : own_UI E tl hd rm s0 pth d δ ρ i) (hi : ¬ i < d) : own_AU E tl hd s0 t0 rm ρ := by
  obtain ⟨u1, u2, u3, u4⟩ := U
  obtain ⟨a, w, p1, p2, p3⟩ := D
  have e : i = d := by omega
  refine ⟨u2, δ, d1, fun S h1 h2 => ?_⟩
  rw [u4 S, e, ← p3, hn, h1, h2]
  unfold own_d
  simp
def own_CI (E : Nat) (tl hd : Int → Int) (s0 t0 : Int) (rm0 rm : Int → Int) : Prop := own_R E rm ∧ ∃ V : Int, ∀ S : Int → Bool, S s0 = true → S t0 = false → own_O tl hd S rm E + V = own_O tl hd S rm0 E
theorem own_CI_init {E : Nat} {tl hd : Int → Int} {s0 t0 : Int} {rm : Int → Int} (R : own_R E rm) : own_CI E tl hd s0 t0 rm rm := ⟨R, 0, fun S _ _ => by omega⟩
theorem own_CI_step {E : Nat} {tl hd : Int → Int} {s0 t0 : Int} {rm0 rm rm' : Int → Int} (C : own_CI E tl hd s0 t0 rm0 rm) (A : own_AU E tl hd s0 t0 rm rm') : own_CI E tl hd s0 t0 rm0 rm' := by
  obtain ⟨R, V, h⟩ := C
  obtain ⟨R', δ, d1, h'⟩ := A
  exact ⟨R', V + δ, fun S a b => by have q1 := h S a b; have q2 := h' S a b; omega⟩
/-- what the searches still may take from the source -/
def own_ms (E : Nat) (tl hd : Int → Int) (s0 : Int) (rm : Int → Int) : Int := own_O tl hd (fun x => decide (x = s0)) rm E
theorem own_ms_nn {E : Nat} {tl hd : Int → Int} {s0 : Int} {rm : Int → Int} (R : own_R E rm) : 0 ≤ own_ms E tl hd s0 rm := own_O_nn E fun e h0 h1 => (R e h0 h1).1
theorem own_ms_lt {E : Nat} {tl hd : Int → Int} {s0 t0 : Int} {rm rm' : Int → Int} (hn : s0 ≠ t0) (A : own_AU E tl hd s0 t0 rm rm') : own_ms E tl hd s0 rm' < own_ms E tl hd s0 rm := by
  obtain ⟨R', δ, d1, h'⟩ := A
  have q := h' (fun x => decide (x = s0)) (decide_eq_true rfl) (decide_eq_false (fun c => hn c.symm))
  unfold own_ms
  omega
/-! the least cuts -/
theorem own_reach {E : Nat} {tl hd fst nxt rm lev : Int → Int} {s0 : Int} {S : Int → Bool} (G : own_G E tl hd fst nxt) (R : own_R E rm) (L : own_LV E tl hd rm s0 lev) (hs : S s0 = true) (hO : own_O tl hd S rm E = 0) :
    ∀ (m : Nat) (v : Int), 0 ≤ v ∧ v < 4 → lev v = m → S v = true := by
  intro m
  induction m with
  | zero => intro v hv h; rw [L.2.2.2.2 v hv.1 hv.2 (by omega)]; exact hs
  | succ m ih =>
    intro v hv h
    obtain ⟨e, e0, e1, e2, e3, e4⟩ := L.2.2.2.1 v hv.1 hv.2 (by omega)
    obtain ⟨g1, g2, x⟩ := G.1.1 e e0 e1
    have t := ih (tl e) g1 (by omega)
    cases c : S v with
    | true => rfl
    | false =>
      have q := own_O_ge (tl := tl) (hd := hd) (S := S) (ρ := rm) E (fun e h0 h1 => (R e h0 h1).1) e0 e1 t (by rw [e3]; exact c)
      exfalso; omega
def own_S4 (n0 n1 n2 : Int) (p q : Bool) : Int → Bool := fun x => if x = n0 then true else if x = n1 then p else if x = n2 then q else false
set_option maxHeartbeats 4000000 in
theorem own_perm4 {n0 n1 n2 n3 x : Int} (h : (0 ≤ n0 ∧ n0 < 4) ∧ (0 ≤ n1 ∧ n1 < 4) ∧ (0 ≤ n2 ∧ n2 < 4) ∧ (0 ≤ n3 ∧ n3 < 4)) (d : n0 ≠ n1 ∧ n0 ≠ n2 ∧ n0 ≠ n3 ∧ n1 ≠ n2 ∧ n1 ≠ n3 ∧ n2 ≠ n3) (hx : 0 ≤ x ∧ x < 4) : x = n0 ∨ x = n1 ∨ x = n2 ∨ x = n3 := by omega
theorem own_S4_0 {n0 n1 n2 : Int} {p q : Bool} : own_S4 n0 n1 n2 p q n0 = true := if_pos rfl
theorem own_S4_1 {n0 n1 n2 : Int} {p q : Bool} (h : n0 ≠ n1) : own_S4 n0 n1 n2 p q n1 = p := by unfold own_S4; rw [if_neg (fun c => h c.symm), if_pos rfl]
theorem own_S4_2 {n0 n1 n2 : Int} {p q : Bool} (h : n0 ≠ n2) (h' : n1 ≠ n2) : own_S4 n0 n1 n2 p q n2 = q := by unfold own_S4; rw [if_neg (fun c => h c.symm), if_neg (fun c => h' c.symm), if_pos rfl]
theorem own_S4_3 {n0 n1 n2 n3 : Int} {p q : Bool} (h : n0 ≠ n3) (h' : n1 ≠ n3) (h'' : n2 ≠ n3) : own_S4 n0 n1 n2 p q n3 = false := by unfold own_S4; rw [if_neg (fun c => h c.symm), if_neg (fun c => h' c.symm), if_neg (fun c => h'' c.symm)]
def own_cap (a b c d e f : Int) (p q : Bool) : Int := own_d (!p) a + own_d (!q) b + own_d (p && !q) c + own_d p d + own_d q e + own_d (q && !p) f
/-- the six edges, as they were laid -/
def own_six (E : Nat) (tl hd rm : Int → Int) (n0 n1 n2 n3 a b c d e f : Int) : Prop := ∀ S : Int → Bool, own_O tl hd S rm E =
  own_d (S n0 && !S n1) a + own_d (S n0 && !S n2) b + own_d (S n1 && !S n2) c + own_d (S n1 && !S n3) d + own_d (S n2 && !S n3) e + own_d (S n2 && !S n1) f
theorem own_law {E : Nat} {tl hd fst nxt rm0 rm lev : Int → Int} {n0 n1 n2 n3 a b c d e f : Int} (G : own_G E tl hd fst nxt) (hr : (0 ≤ n0 ∧ n0 < 4) ∧ (0 ≤ n1 ∧ n1 < 4) ∧ (0 ≤ n2 ∧ n2 < 4) ∧ (0 ≤ n3 ∧ n3 < 4)) (hn : n0 ≠ n1 ∧ n0 ≠ n2 ∧ n0 ≠ n3 ∧ n1 ≠ n2 ∧ n1 ≠ n3 ∧ n2 ≠ n3)
    (six : own_six E tl hd rm0 n0 n1 n2 n3 a b c d e f) (C : own_CI E tl hd n0 n3 rm0 rm) (L : own_LV E tl hd rm n0 lev) (h3 : lev n3 < 0) :
    ∃ V : Int, (V = own_cap a b c d e f (decide (0 ≤ lev n1)) (decide (0 ≤ lev n2))) ∧ ∀ p q : Bool, V ≤ own_cap a b c d e f p q ∧ (0 ≤ lev n1 → p = false → V < own_cap a b c d e f p q) ∧ (0 ≤ lev n2 → q = false → V < own_cap a b c d e f p q) := by
  obtain ⟨R, V, hV⟩ := C
  obtain ⟨d01, d02, d03, d12, d13, d23⟩ := hn
  have cap : ∀ p q : Bool, own_O tl hd (own_S4 n0 n1 n2 p q) rm E + V = own_cap a b c d e f p q := fun p q => by
    have k := hV (own_S4 n0 n1 n2 p q) own_S4_0 (own_S4_3 d03 d13 d23)
    have sx := six (own_S4 n0 n1 n2 p q)
    rw [k, sx, own_S4_0, own_S4_1 d01, own_S4_2 d02 d12, own_S4_3 d03 d13 d23]
    unfold own_cap
    cases p <;> cases q <;> rfl
  have nn : ∀ S : Int → Bool, 0 ≤ own_O tl hd S rm E := fun S => own_O_nn E fun x h0 h1 => (R x h0 h1).1
  have st : ∀ (p q : Bool) (v : Int), 0 ≤ v ∧ v < 4 → 0 ≤ lev v → own_S4 n0 n1 n2 p q v = false → V < own_cap a b c d e f p q := fun p q v hv hl hS => by
    have k := cap p q
    have k2 := nn (own_S4 n0 n1 n2 p q)
    by_cases z : own_O tl hd (own_S4 n0 n1 n2 p q) rm E = 0
    · have t := own_reach G R L own_S4_0 z (lev v).toNat v hv (Int.toNat_of_nonneg hl).symm
      rw [hS] at t; cases t
    · omega
  refine ⟨V, ?_, fun p q => ⟨?_, fun hl hp => ?_, fun hl hq => ?_⟩⟩
  · rw [← cap]
    have z : own_O tl hd (own_S4 n0 n1 n2 (decide (0 ≤ lev n1)) (decide (0 ≤ lev n2))) rm E = 0 := by
      have sv : ∀ v : Int, 0 ≤ v ∧ v < 4 → own_S4 n0 n1 n2 (decide (0 ≤ lev n1)) (decide (0 ≤ lev n2)) v = decide (0 ≤ lev v) := fun v hv => by
        rcases own_perm4 hr ⟨d01, d02, d03, d12, d13, d23⟩ hv with rfl | rfl | rfl | rfl
        · rw [own_S4_0]; exact (decide_eq_true (by rw [L.2.1]; exact Int.le_refl 0)).symm
        · rw [own_S4_1 d01]
        · rw [own_S4_2 d02 d12]
        · rw [own_S4_3 d03 d13 d23]; exact (decide_eq_false (by omega)).symm
      refine own_O_z E fun x h0 h1 t1 t2 => ?_
      obtain ⟨g1, g2, -⟩ := G.1.1 x h0 h1
      rw [sv _ g1] at t1
      rw [sv _ g2] at t2
      have t1 := of_decide_eq_true t1
      have t2 := of_decide_eq_false t2
      have r := (R x h0 h1).1
      by_cases k : 0 < rm x
      · exact absurd (L.2.2.1 x h0 h1 k t1) t2
      · omega
    rw [z]; omega
  · have k := cap p q; have k2 := nn (own_S4 n0 n1 n2 p q); omega
  · exact st p q n1 hr.2.1 hl (by rw [own_S4_1 d01]; exact hp)
  · exact st p q n2 hr.2.2.1 hl (by rw [own_S4_2 d02 d12]; exact hq)
def own_mI (x y : Int) : Int := if y < x then y else x
theorem own_mI_s (x y : Int) : (own_mI x y ≤ x ∧ own_mI x y ≤ y) ∧ (own_mI x y = x ∨ own_mI x y = y) := by
  unfold own_mI
  by_cases h : y < x
  · rw [if_pos h]; omega
  · rw [if_neg h]; omega
theorem own_fin {E : Nat} {tl hd fst nxt rm0 rm lev : Int → Int} {n0 n1 n2 n3 a b c d e f : Int} (G : own_G E tl hd fst nxt) (hr : (0 ≤ n0 ∧ n0 < 4) ∧ (0 ≤ n1 ∧ n1 < 4) ∧ (0 ≤ n2 ∧ n2 < 4) ∧ (0 ≤ n3 ∧ n3 < 4)) (hn : n0 ≠ n1 ∧ n0 ≠ n2 ∧ n0 ≠ n3 ∧ n1 ≠ n2 ∧ n1 ≠ n3 ∧ n2 ≠ n3)
    (six : own_six E tl hd rm0 n0 n1 n2 n3 a b c d e f) (C : own_CI E tl hd n0 n3 rm0 rm) (L : own_LV E tl hd rm n0 lev) (h3 : lev n3 < 0) {m : Int} (hm : m = own_mI (own_mI (a + b) (b + c + d)) (own_mI (a + e + f) (d + e))) :
    (0 ≤ lev n1 ↔ m < a + b ∧ m < a + e + f) ∧ (0 ≤ lev n2 ↔ m < a + b ∧ m < b + c + d) := by
  obtain ⟨V, h1, h2⟩ := own_law G hr hn six C L h3
  clear hr hn h3
  have k00 : own_cap a b c d e f false false = a + b := by unfold own_cap own_d; simp
  have k10 : own_cap a b c d e f true false = b + c + d := by unfold own_cap own_d; simp
  have k01 : own_cap a b c d e f false true = a + e + f := by unfold own_cap own_d; simp
  have k11 : own_cap a b c d e f true true = d + e := by unfold own_cap own_d; simp
  obtain ⟨a1, a2, a3⟩ := h2 false false
  obtain ⟨b1, b2, b3⟩ := h2 true false
  obtain ⟨c1, c2, c3⟩ := h2 false true
  obtain ⟨e1, e2, e3⟩ := h2 true true
  rw [k00] at a1 a2 a3
  rw [k10] at b1 b2 b3
  rw [k01] at c1 c2 c3
  rw [k11] at e1 e2 e3
  have mm : m ≤ a + b ∧ m ≤ b + c + d ∧ m ≤ a + e + f ∧ m ≤ d + e ∧ (m = a + b ∨ m = b + c + d ∨ m = a + e + f ∨ m = d + e) := by
    have s1 := own_mI_s (a + b) (b + c + d)
    have s2 := own_mI_s (a + e + f) (d + e)
    have s3 := own_mI_s (own_mI (a + b) (b + c + d)) (own_mI (a + e + f) (d + e))
    rw [← hm] at s3
    clear hm h1 h2 a1 a2 a3 b1 b2 b3 c1 c2 c3 e1 e2 e3 k00 k10 k01 k11 six C L G
    omega
  clear hm six C L G h2
  by_cases p : 0 ≤ lev n1
  · have x1 := a2 p rfl
    have x2 := c2 p rfl
    by_cases q : 0 ≤ lev n2
    · have y1 := a3 q rfl
      have y2 := b3 q rfl
      clear a2 a3 b2 b3 c2 c3 e2 e3
      rw [decide_eq_true p, decide_eq_true q, k11] at h1
      exact ⟨⟨fun _ => by omega, fun _ => p⟩, ⟨fun _ => by omega, fun _ => q⟩⟩
    · clear a2 a3 b2 b3 c2 c3 e2 e3
      rw [decide_eq_true p, decide_eq_false q, k10] at h1
      exact ⟨⟨fun _ => by omega, fun _ => p⟩, ⟨fun z => absurd z q, fun z => by exfalso; omega⟩⟩
  · by_cases q : 0 ≤ lev n2
    · have y1 := a3 q rfl
      have y2 := b3 q rfl
      clear a2 a3 b2 b3 c2 c3 e2 e3
      rw [decide_eq_false p, decide_eq_true q, k01] at h1
      exact ⟨⟨fun z => absurd z p, fun z => by exfalso; omega⟩, ⟨fun _ => by omega, fun _ => q⟩⟩
    · clear a2 a3 b2 b3 c2 c3 e2 e3
      rw [decide_eq_false p, decide_eq_false q, k00] at h1
      exact ⟨⟨fun z => absurd z p, fun z => by exfalso; omega⟩, ⟨fun z => absurd z q, fun z => by exfalso; omega⟩⟩
/-! the law's own numbers -/
theorem own_m15 (x : Int32) : ∃ z : Int, (0 ≤ z ∧ z ≤ 15) ∧ (x &&& (15 : Int32)) = own_I z := by
  have e := c_mask x 15 4 (by decide) (by decide)
  have e2 : ((2 ^ 4 : Nat) : Int) = 16 := by decide
  rw [e2] at e
  exact ⟨(x &&& (15 : Int32)).toInt, by omega, (Int32.ofInt_toInt _).symm⟩
theorem own_m3 (x : Int32) : ∃ z : Int, (0 ≤ z ∧ z < 4) ∧ (x &&& (3 : Int32)) = own_I z := by
  have e := c_mask x 3 2 (by decide) (by decide)
  have e2 : ((2 ^ 2 : Nat) : Int) = 4 := by decide
  rw [e2] at e
  exact ⟨(x &&& (3 : Int32)).toInt, by omega, (Int32.ofInt_toInt _).symm⟩
def own_map (n x k : Int32) : Int32 := ((n ^^^ x) + k) &&& 3
def own_pq (n0 n1 n2 n3 : Int) : Prop := ((0 ≤ n0 ∧ n0 < 4) ∧ (0 ≤ n1 ∧ n1 < 4) ∧ (0 ≤ n2 ∧ n2 < 4) ∧ (0 ≤ n3 ∧ n3 < 4)) ∧ n0 ≠ n1 ∧ n0 ≠ n2 ∧ n0 ≠ n3 ∧ n1 ≠ n2 ∧ n1 ≠ n3 ∧ n2 ≠ n3
theorem own_pe {z w : Int} (hz : 0 ≤ z ∧ z < 4) (hw : 0 ≤ w ∧ w < 4) : ∃ n0 n1 n2 n3 : Int, own_pq n0 n1 n2 n3 ∧ own_map 0 (own_I z) (own_I w) = own_I n0 ∧ own_map 1 (own_I z) (own_I w) = own_I n1 ∧ own_map 2 (own_I z) (own_I w) = own_I n2 ∧ own_map 3 (own_I z) (own_I w) = own_I n3 := by
  have t : ∀ i j : Fin 4, own_pq (own_map 0 (own_I (i.1 : Int)) (own_I (j.1 : Int))).toInt (own_map 1 (own_I (i.1 : Int)) (own_I (j.1 : Int))).toInt (own_map 2 (own_I (i.1 : Int)) (own_I (j.1 : Int))).toInt (own_map 3 (own_I (i.1 : Int)) (own_I (j.1 : Int))).toInt := by
    unfold own_pq
    decide +kernel
  have q : own_pq (own_map 0 (own_I ((z.toNat : Nat) : Int)) (own_I ((w.toNat : Nat) : Int))).toInt (own_map 1 (own_I ((z.toNat : Nat) : Int)) (own_I ((w.toNat : Nat) : Int))).toInt (own_map 2 (own_I ((z.toNat : Nat) : Int)) (own_I ((w.toNat : Nat) : Int))).toInt (own_map 3 (own_I ((z.toNat : Nat) : Int)) (own_I ((w.toNat : Nat) : Int))).toInt := t ⟨z.toNat, by omega⟩ ⟨w.toNat, by omega⟩
  rw [Int.toNat_of_nonneg hz.1, Int.toNat_of_nonneg hw.1] at q
  exact ⟨_, _, _, _, q, (Int32.ofInt_toInt _).symm, (Int32.ofInt_toInt _).symm, (Int32.ofInt_toInt _).symm, (Int32.ofInt_toInt _).symm⟩
def own_os (x : Int) : Int32 := if x < 0 then 0 else 1
theorem own_os0 {x : Int} (h : x < 0) : own_os x = 0 := if_pos h
theorem own_os1 {x : Int} (h : 0 ≤ x) : own_os x = 1 := if_neg (by omega)
theorem own_or0 {r : Int32} {A B : Prop} (h : (r = 0 ∧ A) ∨ (r = 1 ∧ B)) (q : r = 0) : A := h.elim (fun x => x.2) fun x => absurd (q.symm.trans x.1) (by decide)
theorem own_or1 {r : Int32} {A B : Prop} (h : (r = 0 ∧ A) ∨ (r = 1 ∧ B)) (q : ¬ r = 0) : B := h.elim (fun x => absurd x.1 q) fun x => x.2
theorem own_i0n : (0 : Int32) = own_I ((0 : Nat) : Int) := by decide
theorem own_R0 {ρ : Int → Int} : own_R 0 ρ := fun e h0 h1 => by exfalso; omega
theorem own_O0 {tl hd ρ : Int → Int} {S : Int → Bool} : own_O tl hd S ρ 0 = 0 := rfl
def own_NE (n0 : Nat) (aG aF aN aH aR aL aA aQ aP : Addr) : Prop := (n0 ≤ aG ∧ n0 ≤ aF ∧ n0 ≤ aN ∧ n0 ≤ aH ∧ n0 ≤ aR ∧ n0 ≤ aL ∧ n0 ≤ aA ∧ n0 ≤ aQ ∧ n0 ≤ aP) ∧ aG ≠ aF ∧ aG ≠ aN ∧ aG ≠ aH ∧ aG ≠ aR ∧ aG ≠ aL ∧ aG ≠ aA ∧ aG ≠ aQ ∧ aG ≠ aP ∧ aF ≠ aN ∧ aF ≠ aH ∧ aF ≠ aR ∧ aF ≠ aL ∧ aF ≠ aA ∧ aF ≠ aQ ∧ aF ≠ aP ∧ aN ≠ aH ∧ aN ≠ aR ∧ aN ≠ aL ∧ aN ≠ aA ∧ aN ≠ aQ ∧ aN ≠ aP ∧ aH ≠ aR ∧ aH ≠ aL ∧ aH ≠ aA ∧ aH ≠ aQ ∧ aH ≠ aP ∧ aR ≠ aL ∧ aR ≠ aA ∧ aR ≠ aQ ∧ aR ≠ aP ∧ aL ≠ aA ∧ aL ≠ aQ ∧ aL ≠ aP ∧ aA ≠ aQ ∧ aA ≠ aP ∧ aQ ≠ aP
theorem own_ne_aG_aF {n0 : Nat} {aG aF aN aH aR aL aA aQ aP : Addr} (h : own_NE n0 aG aF aN aH aR aL aA aQ aP) : aG ≠ aF := h.2.1
theorem own_ne_aG_aN {n0 : Nat} {aG aF aN aH aR aL aA aQ aP : Addr} (h : own_NE n0 aG aF aN aH aR aL aA aQ aP) : aG ≠ aN := h.2.2.1
theorem own_ne_aG_aH {n0 : Nat} {aG aF aN aH aR aL aA aQ aP : Addr} (h : own_NE n0 aG aF aN aH aR aL aA aQ aP) : aG ≠ aH := h.2.2.2.1
theorem own_ne_aG_aR {n0 : Nat} {aG aF aN aH aR aL aA aQ aP : Addr} (h : own_NE n0 aG aF aN aH aR aL aA aQ aP) : aG ≠ aR := h.2.2.2.2.1
theorem own_ne_aG_aL {n0 : Nat} {aG aF aN aH aR aL aA aQ aP : Addr} (h : own_NE n0 aG aF aN aH aR aL aA aQ aP) : aG ≠ aL := h.2.2.2.2.2.1
theorem own_ne_aG_aA {n0 : Nat} {aG aF aN aH aR aL aA aQ aP : Addr} (h : own_NE n0 aG aF aN aH aR aL aA aQ aP) : aG ≠ aA := h.2.2.2.2.2.2.1
theorem own_ne_aG_aQ {n0 : Nat} {aG aF aN aH aR aL aA aQ aP : Addr} (h : own_NE n0 aG aF aN aH aR aL aA aQ aP) : aG ≠ aQ := h.2.2.2.2.2.2.2.1
theorem own_ne_aG_aP {n0 : Nat} {aG aF aN aH aR aL aA aQ aP : Addr} (h : own_NE n0 aG aF aN aH aR aL aA aQ aP) : aG ≠ aP := h.2.2.2.2.2.2.2.2.1
theorem own_ne_aF_aN {n0 : Nat} {aG aF aN aH aR aL aA aQ aP : Addr} (h : own_NE n0 aG aF aN aH aR aL aA aQ aP) : aF ≠ aN := h.2.2.2.2.2.2.2.2.2.1
theorem own_ne_aF_aH {n0 : Nat} {aG aF aN aH aR aL aA aQ aP : Addr} (h : own_NE n0 aG aF aN aH aR aL aA aQ aP) : aF ≠ aH := h.2.2.2.2.2.2.2.2.2.2.1
theorem own_ne_aF_aR {n0 : Nat} {aG aF aN aH aR aL aA aQ aP : Addr} (h : own_NE n0 aG aF aN aH aR aL aA aQ aP) : aF ≠ aR := h.2.2.2.2.2.2.2.2.2.2.2.1
theorem own_ne_aF_aL {n0 : Nat} {aG aF aN aH aR aL aA aQ aP : Addr} (h : own_NE n0 aG aF aN aH aR aL aA aQ aP) : aF ≠ aL := h.2.2.2.2.2.2.2.2.2.2.2.2.1
theorem own_ne_aF_aA {n0 : Nat} {aG aF aN aH aR aL aA aQ aP : Addr} (h : own_NE n0 aG aF aN aH aR aL aA aQ aP) : aF ≠ aA := h.2.2.2.2.2.2.2.2.2.2.2.2.2.1
theorem own_ne_aF_aQ {n0 : Nat} {aG aF aN aH aR aL aA aQ aP : Addr} (h : own_NE n0 aG aF aN aH aR aL aA aQ aP) : aF ≠ aQ := h.2.2.2.2.2.2.2.2.2.2.2.2.2.2.1
theorem own_ne_aF_aP {n0 : Nat} {aG aF aN aH aR aL aA aQ aP : Addr} (h : own_NE n0 aG aF aN aH aR aL aA aQ aP) : aF ≠ aP := h.2.2.2.2.2.2.2.2.2.2.2.2.2.2.2.1
theorem own_ne_aN_aH {n0 : Nat} {aG aF aN aH aR aL aA aQ aP : Addr} (h : own_NE n0 aG aF aN aH aR aL aA aQ aP) : aN ≠ aH := h.2.2.2.2.2.2.2.2.2.2.2.2.2.2.2.2.1
theorem own_ne_aN_aR {n0 : Nat} {aG aF aN aH aR aL aA aQ aP : Addr} (h : own_NE n0 aG aF aN aH aR aL aA aQ aP) : aN ≠ aR := h.2.2.2.2.2.2.2.2.2.2.2.2.2.2.2.2.2.1
theorem own_ne_aN_aL {n0 : Nat} {aG aF aN aH aR aL aA aQ aP : Addr} (h : own_NE n0 aG aF aN aH aR aL aA aQ aP) : aN ≠ aL := h.2.2.2.2.2.2.2.2.2.2.2.2.2.2.2.2.2.2.1
theorem own_ne_aN_aA {n0 : Nat} {aG aF aN aH aR aL aA aQ aP : Addr} (h : own_NE n0 aG aF aN aH aR aL aA aQ aP) : aN ≠ aA := h.2.2.2.2.2.2.2.2.2.2.2.2.2.2.2.2.2.2.2.1
theorem own_ne_aN_aQ {n0 : Nat} {aG aF aN aH aR aL aA aQ aP : Addr} (h : own_NE n0 aG aF aN aH aR aL aA aQ aP) : aN ≠ aQ := h.2.2.2.2.2.2.2.2.2.2.2.2.2.2.2.2.2.2.2.2.1
theorem own_ne_aN_aP {n0 : Nat} {aG aF aN aH aR aL aA aQ aP : Addr} (h : own_NE n0 aG aF aN aH aR aL aA aQ aP) : aN ≠ aP := h.2.2.2.2.2.2.2.2.2.2.2.2.2.2.2.2.2.2.2.2.2.1
theorem own_ne_aH_aR {n0 : Nat} {aG aF aN aH aR aL aA aQ aP : Addr} (h : own_NE n0 aG aF aN aH aR aL aA aQ aP) : aH ≠ aR := h.2.2.2.2.2.2.2.2.2.2.2.2.2.2.2.2.2.2.2.2.2.2.1
theorem own_ne_aH_aL {n0 : Nat} {aG aF aN aH aR aL aA aQ aP : Addr} (h : own_NE n0 aG aF aN aH aR aL aA aQ aP) : aH ≠ aL := h.2.2.2.2.2.2.2.2.2.2.2.2.2.2.2.2.2.2.2.2.2.2.2.1
theorem own_ne_aH_aA {n0 : Nat} {aG aF aN aH aR aL aA aQ aP : Addr} (h : own_NE n0 aG aF aN aH aR aL aA aQ aP) : aH ≠ aA := h.2.2.2.2.2.2.2.2.2.2.2.2.2.2.2.2.2.2.2.2.2.2.2.2.1
theorem own_ne_aH_aQ {n0 : Nat} {aG aF aN aH aR aL aA aQ aP : Addr} (h : own_NE n0 aG aF aN aH aR aL aA aQ aP) : aH ≠ aQ := h.2.2.2.2.2.2.2.2.2.2.2.2.2.2.2.2.2.2.2.2.2.2.2.2.2.1
theorem own_ne_aH_aP {n0 : Nat} {aG aF aN aH aR aL aA aQ aP : Addr} (h : own_NE n0 aG aF aN aH aR aL aA aQ aP) : aH ≠ aP := h.2.2.2.2.2.2.2.2.2.2.2.2.2.2.2.2.2.2.2.2.2.2.2.2.2.2.1
theorem own_ne_aR_aL {n0 : Nat} {aG aF aN aH aR aL aA aQ aP : Addr} (h : own_NE n0 aG aF aN aH aR aL aA aQ aP) : aR ≠ aL := h.2.2.2.2.2.2.2.2.2.2.2.2.2.2.2.2.2.2.2.2.2.2.2.2.2.2.2.1
theorem own_ne_aR_aA {n0 : Nat} {aG aF aN aH aR aL aA aQ aP : Addr} (h : own_NE n0 aG aF aN aH aR aL aA aQ aP) : aR ≠ aA := h.2.2.2.2.2.2.2.2.2.2.2.2.2.2.2.2.2.2.2.2.2.2.2.2.2.2.2.2.1
theorem own_ne_aR_aQ {n0 : Nat} {aG aF aN aH aR aL aA aQ aP : Addr} (h : own_NE n0 aG aF aN aH aR aL aA aQ aP) : aR ≠ aQ := h.2.2.2.2.2.2.2.2.2.2.2.2.2.2.2.2.2.2.2.2.2.2.2.2.2.2.2.2.2.1
theorem own_ne_aR_aP {n0 : Nat} {aG aF aN aH aR aL aA aQ aP : Addr} (h : own_NE n0 aG aF aN aH aR aL aA aQ aP) : aR ≠ aP := h.2.2.2.2.2.2.2.2.2.2.2.2.2.2.2.2.2.2.2.2.2.2.2.2.2.2.2.2.2.2.1
theorem own_ne_aL_aA {n0 : Nat} {aG aF aN aH aR aL aA aQ aP : Addr} (h : own_NE n0 aG aF aN aH aR aL aA aQ aP) : aL ≠ aA := h.2.2.2.2.2.2.2.2.2.2.2.2.2.2.2.2.2.2.2.2.2.2.2.2.2.2.2.2.2.2.2.1
theorem own_ne_aL_aQ {n0 : Nat} {aG aF aN aH aR aL aA aQ aP : Addr} (h : own_NE n0 aG aF aN aH aR aL aA aQ aP) : aL ≠ aQ := h.2.2.2.2.2.2.2.2.2.2.2.2.2.2.2.2.2.2.2.2.2.2.2.2.2.2.2.2.2.2.2.2.1
theorem own_ne_aL_aP {n0 : Nat} {aG aF aN aH aR aL aA aQ aP : Addr} (h : own_NE n0 aG aF aN aH aR aL aA aQ aP) : aL ≠ aP := h.2.2.2.2.2.2.2.2.2.2.2.2.2.2.2.2.2.2.2.2.2.2.2.2.2.2.2.2.2.2.2.2.2.1
theorem own_ne_aA_aQ {n0 : Nat} {aG aF aN aH aR aL aA aQ aP : Addr} (h : own_NE n0 aG aF aN aH aR aL aA aQ aP) : aA ≠ aQ := h.2.2.2.2.2.2.2.2.2.2.2.2.2.2.2.2.2.2.2.2.2.2.2.2.2.2.2.2.2.2.2.2.2.2.1
theorem own_ne_aA_aP {n0 : Nat} {aG aF aN aH aR aL aA aQ aP : Addr} (h : own_NE n0 aG aF aN aH aR aL aA aQ aP) : aA ≠ aP := h.2.2.2.2.2.2.2.2.2.2.2.2.2.2.2.2.2.2.2.2.2.2.2.2.2.2.2.2.2.2.2.2.2.2.2.1
theorem own_ne_aQ_aP {n0 : Nat} {aG aF aN aH aR aL aA aQ aP : Addr} (h : own_NE n0 aG aF aN aH aR aL aA aQ aP) : aQ ≠ aP := h.2.2.2.2.2.2.2.2.2.2.2.2.2.2.2.2.2.2.2.2.2.2.2.2.2.2.2.2.2.2.2.2.2.2.2.2
def own_S (Z : State) (h : Heap) (aG aF aN aH aR aL aA aQ aP : Addr) (kF kN kH kR kL kA kQ kP : ClassId) (nc ec : Int32) (fst nxt hd rm lev arc que pth : Int → Int) : Prop :=
  Exa Z h aG "com/example/nearbound/nearbound/graph/MinCut" ∧ Fld Z h aG "com/example/nearbound/nearbound/graph/MinCut" "nodeCount" "I" (.int nc) ∧ Fld Z h aG "com/example/nearbound/nearbound/graph/MinCut" "edgeCount" "I" (.int ec) ∧ Fld Z h aG "com/example/nearbound/nearbound/graph/MinCut" "first" "[I" (.ref aF) ∧ Fld Z h aG "com/example/nearbound/nearbound/graph/MinCut" "next" "[I" (.ref aN) ∧ Fld Z h aG "com/example/nearbound/nearbound/graph/MinCut" "head" "[I" (.ref aH) ∧ Fld Z h aG "com/example/nearbound/nearbound/graph/MinCut" "room" "[D" (.ref aR) ∧ Fld Z h aG "com/example/nearbound/nearbound/graph/MinCut" "level" "[I" (.ref aL) ∧ Fld Z h aG "com/example/nearbound/nearbound/graph/MinCut" "arc" "[I" (.ref aA) ∧ Fld Z h aG "com/example/nearbound/nearbound/graph/MinCut" "queue" "[I" (.ref aQ) ∧ Fld Z h aG "com/example/nearbound/nearbound/graph/MinCut" "path" "[I" (.ref aP) ∧
  Arv Z h aF kF .int (16 : Int32) (own_vi fst) (.int (0 : Int32)) ∧ Arv Z h aN kN .int (16 : Int32) (own_vi nxt) (.int (0 : Int32)) ∧ Arv Z h aH kH .int (16 : Int32) (own_vi hd) (.int (0 : Int32)) ∧ Arv Z h aR kR .double (16 : Int32) (own_vd rm) (.double (0 : UInt64)) ∧ Arv Z h aL kL .int (16 : Int32) (own_vi lev) (.int (0 : Int32)) ∧ Arv Z h aA kA .int (16 : Int32) (own_vi arc) (.int (0 : Int32)) ∧ Arv Z h aQ kQ .int (16 : Int32) (own_vi que) (.int (0 : Int32)) ∧ Arv Z h aP kP .int (16 : Int32) (own_vi pth) (.int (0 : Int32))
def own_sl (x : Slot) : Prop := x = .unset ∨ ∃ v : Int32, x = .val (.int v)
theorem d1_0 : decode method_3_code 0 = .ok (.iload_n 0, 1) := by decide +kernel
theorem d1_1 : decode method_3_code 1 = .ok (.iload_n 1, 1) := by decide +kernel
theorem d1_2 : decode method_3_code 2 = .ok (.ixor, 1) := by decide +kernel
theorem d1_3 : decode method_3_code 3 = .ok (.iload_n 2, 1) := by decide +kernel
theorem d1_4 : decode method_3_code 4 = .ok (.iadd, 1) := by decide +kernel
theorem d1_5 : decode method_3_code 5 = .ok (.iconst 3, 1) := by decide +kernel
theorem d1_6 : decode method_3_code 6 = .ok (.iand, 1) := by decide +kernel
theorem d1_7 : decode method_3_code 7 = .ok (.ireturn, 1) := by decide +kernel
theorem pn_0 : plainName "com/example/nearbound/nearbound/graph/MinCutOnSourceSidePinLaw" = true := by first | (simp [plainName, overriddenIn]; done) | decide +kernel
theorem ef_rmMap (m : MethodId) (x0 : Int32) (x1 : Int32) (x2 : Int32) : entryFrame m #[(.int x0), (.int x1), (.int x2)] 3 = mkF m 0 #[.val (.int x0), .val (.int x1), .val (.int x2)] [] := by first | (simp [entryFrame, mkF, argsToLocals, Value.category]; done) | rfl
def Q_rmMap (pN pX pK : Int32) (h0 : Heap) (n0 : Nat) (v : Option Value) (h : Heap) (L : List Loc) : Prop := v = some (.int (own_map pN pX pK)) ∧ Fr n0 L ∧ h = h0
set_option maxRecDepth 65536 in
set_option maxHeartbeats 40000000 in
theorem rmMap (l : Launch) (Z : State) (a0 : Array Value) (hw : ∀ d ∈ tables_1, d.before a0 Z = true) (ws : List Jvm.Cond) (pN : Int32) (pX : Int32) (pK : Int32)  (h0 : Heap) (n0 : Nat) (Z0 : n0 ≤ h0.size)  :
    MetFree l (⟨"com/example/nearbound/nearbound/graph/MinCutOnSourceSidePinLaw", "map", "(III)I"⟩ : MethodName) (head1 (Jvm.Cond.code (⟨"com/example/nearbound/nearbound/graph/MinCutOnSourceSidePinLaw", "map", "(III)I"⟩ : MethodName) method_3_code 3 (some .int) :: ws) ({ frames := 0, cells := 0, slots := 0, locals := 0 } : Room)) (fun a U => a = #[(.int pN), (.int pX), (.int pK)] ∧ Z.Warmed39 U.vm ∧ U.heap = h0) (fun _ _ _ _ _ => True) (fun _ U o U' => ∃ v L, o = .returned v ∧ Q_rmMap pN pX pK h0 n0 v U'.heap L ∧ FrameEnd U o U' L ({ frames := 0, cells := 0, slots := 0, locals := 0 } : Room).cells ({ frames := 0, cells := 0, slots := 0, locals := 0 } : Room).slots) := by
  refine MetFree.of_bodySF (plainFor_of_name pn_0) hisR ?_
  intro p e s m args below meth c s₁ Bd hml0 hP hK
  obtain ⟨rfl, hZ, hh⟩ := hP
  have hx := Bd.exec
  have hby := Bd.bytes
  have hml : c.maxLocals = 3 := hml0
  have hown : s.vm.findClass "com/example/nearbound/nearbound/graph/MinCutOnSourceSidePinLaw" = some m.cls := findClass_of_methodNamed Bd.named
  have hnm := (name_of_methodNamed Bd.named Bd.method).1
  have X0 : Stand p l e ({ frames := 0, cells := 0, slots := 0, locals := 0 } : Room) s m #[(.int pN), (.int pX), (.int pK)] below meth c s₁ [] 0 0 := Stand.of_body Bd
  have e0 : s₁.heap = h0 := by rw [← hh, Bd.state]; rfl
  have N0 := Fr.nil n0
  let PO : Outcome → State → Prop := own_PO s (Q_rmMap pN pX pK h0 n0) 0 0
  show own_Go p e below PO (s₁.setTop (entryFrame m #[(.int pN), (.int pX), (.int pK)] 3))
  rw [ef_rmMap]
  show own_Go p e below PO (s₁.setTop (mkF m 0 #[.val (.int pN), .val (.int pX), .val (.int pK)] []))
  refine own_back ?_ (fun t k => XS.iloadN X0.here hx rfl (hb hby d1_0) rfl k)
  show own_Go p e below PO (s₁.setTop (mkF m 1 #[.val (.int pN), .val (.int pX), .val (.int pK)] [(.int pN)]))
  refine own_back ?_ (fun t k => XS.iloadN X0.here hx rfl (hb hby d1_1) rfl k)
  show own_Go p e below PO (s₁.setTop (mkF m 2 #[.val (.int pN), .val (.int pX), .val (.int pK)] [(.int pX), (.int pN)]))
  refine own_back ?_ (fun t k => XS.ixor X0.here hx rfl (hb hby d1_2) rfl k)
  show own_Go p e below PO (s₁.setTop (mkF m 3 #[.val (.int pN), .val (.int pX), .val (.int pK)] [(.int (pN ^^^ pX))]))
  refine own_back ?_ (fun t k => XS.iloadN X0.here hx rfl (hb hby d1_3) rfl k)
  show own_Go p e below PO (s₁.setTop (mkF m 4 #[.val (.int pN), .val (.int pX), .val (.int pK)] [(.int pK), (.int (pN ^^^ pX))]))
  refine own_back ?_ (fun t k => XS.iadd X0.here hx rfl (hb hby d1_4) rfl k)
  show own_Go p e below PO (s₁.setTop (mkF m 5 #[.val (.int pN), .val (.int pX), .val (.int pK)] [(.int ((pN ^^^ pX) + pK))]))
  refine own_back ?_ (fun t k => XS.iconst X0.here hx rfl (hb hby d1_5) k)
  show own_Go p e below PO (s₁.setTop (mkF m 6 #[.val (.int pN), .val (.int pX), .val (.int pK)] [(.int (3 : Int32)), (.int ((pN ^^^ pX) + pK))]))
  refine own_back ?_ (fun t k => XS.iand X0.here hx rfl (hb hby d1_6) rfl k)
  show own_Go p e below PO (s₁.setTop (mkF m 7 #[.val (.int pN), .val (.int pX), .val (.int pK)] [(.int (((pN ^^^ pX) + pK) &&& (3 : Int32)))]))
  refine own_retI X0 hx (rest := []) Bd.returns (hb hby d1_7) e0 (Bd.notSynchronized) ?_ (by decide) (by decide)
  exact ⟨rfl, N0, rfl⟩
theorem d13_0 : decode jdk_29_method_69_code 0 = .ok (.iload_n 0, 1) := by decide +kernel
theorem d13_1 : decode jdk_29_method_69_code 1 = .ok (.iload_n 1, 1) := by decide +kernel
theorem d13_2 : decode jdk_29_method_69_code 2 = .ok (.if_icmp .gt 7, 3) := by decide +kernel
theorem d13_5 : decode jdk_29_method_69_code 5 = .ok (.iload_n 0, 1) := by decide +kernel
theorem d13_6 : decode jdk_29_method_69_code 6 = .ok (.goto 4, 3) := by decide +kernel
theorem d13_9 : decode jdk_29_method_69_code 9 = .ok (.iload_n 1, 1) := by decide +kernel
theorem d13_10 : decode jdk_29_method_69_code 10 = .ok (.ireturn, 1) := by decide +kernel
theorem ef_rmMin (m : MethodId) (x0 : Int32) (x1 : Int32) : entryFrame m #[(.int x0), (.int x1)] 2 = mkF m 0 #[.val (.int x0), .val (.int x1)] [] := by first | (simp [entryFrame, mkF, argsToLocals, Value.category]; done) | rfl
def Q_rmMin (zp zq : Int) (h0 : Heap) (n0 : Nat) (v : Option Value) (h : Heap) (L : List Loc) : Prop := v = some (.int (own_I (own_mI zp zq))) ∧ Fr n0 L ∧ h = h0
set_option maxRecDepth 65536 in
set_option maxHeartbeats 40000000 in
theorem rmMin (l : Launch) (Z : State) (a0 : Array Value) (hw : ∀ d ∈ tables_1, d.before a0 Z = true) (ws : List Jvm.Cond)  (zp zq : Int) (h0 : Heap) (n0 : Nat) (Z0 : n0 ≤ h0.size) (hp : -1000 ≤ zp ∧ zp ≤ 1000) (hq : -1000 ≤ zq ∧ zq ≤ 1000) :
    MetFree l (⟨"java/lang/Math", "min", "(II)I"⟩ : MethodName) (head1 (Jvm.Cond.code (⟨"java/lang/Math", "min", "(II)I"⟩ : MethodName) jdk_29_method_69_code 2 (some .int) :: ws) ({ frames := 0, cells := 0, slots := 0, locals := 0 } : Room)) (fun a U => a = #[(.int (own_I zp)), (.int (own_I zq))] ∧ Z.Warmed39 U.vm ∧ U.heap = h0) (fun _ _ _ _ _ => True) (fun _ U o U' => ∃ v L, o = .returned v ∧ Q_rmMin zp zq h0 n0 v U'.heap L ∧ FrameEnd U o U' L ({ frames := 0, cells := 0, slots := 0, locals := 0 } : Room).cells ({ frames := 0, cells := 0, slots := 0, locals := 0 } : Room).slots) := by
  refine MetFree.of_bodySF (Jvm.Free.JP.mathPlain rfl (by decide +kernel)) hisR ?_
  intro p e s m args below meth c s₁ Bd hml0 hP hK
  obtain ⟨rfl, hZ, hh⟩ := hP
  have hx := Bd.exec
  have hby := Bd.bytes
  have hml : c.maxLocals = 2 := hml0
  have hown : s.vm.findClass "java/lang/Math" = some m.cls := findClass_of_methodNamed Bd.named
  have hnm := (name_of_methodNamed Bd.named Bd.method).1
  have X0 : Stand p l e ({ frames := 0, cells := 0, slots := 0, locals := 0 } : Room) s m #[(.int (own_I zp)), (.int (own_I zq))] below meth c s₁ [] 0 0 := Stand.of_body Bd
  have e0 : s₁.heap = h0 := by rw [← hh, Bd.state]; rfl
  have N0 := Fr.nil n0
  let PO : Outcome → State → Prop := own_PO s (Q_rmMin zp zq h0 n0) 0 0
  show own_Go p e below PO (s₁.setTop (entryFrame m #[(.int (own_I zp)), (.int (own_I zq))] 2))
  rw [ef_rmMin]
  show own_Go p e below PO (s₁.setTop (mkF m 0 #[.val (.int (own_I zp)), .val (.int (own_I zq))] []))
  refine own_back ?_ (fun t k => XS.iloadN X0.here hx rfl (hb hby d13_0) rfl k)
  show own_Go p e below PO (s₁.setTop (mkF m 1 #[.val (.int (own_I zp)), .val (.int (own_I zq))] [(.int (own_I zp))]))
  refine own_back ?_ (fun t k => XS.iloadN X0.here hx rfl (hb hby d13_1) rfl k)
  show own_Go p e below PO (s₁.setTop (mkF m 2 #[.val (.int (own_I zp)), .val (.int (own_I zq))] [(.int (own_I zq)), (.int (own_I zp))]))
  by_cases hc2_1 : (own_I zq) < (own_I zp)
  case pos =>
    refine own_back ?_ (fun t k => XS.icmpYes X0.here hx rfl (pc0 := 2) (pc' := 9) rfl (hb hby d13_2) rfl (tlt hc2_1).2.2.1 (by decide) (by decide) k)
    show own_Go p e below PO (s₁.setTop (mkF m 9 #[.val (.int (own_I zp)), .val (.int (own_I zq))] []))
    refine own_back ?_ (fun t k => XS.iloadN X0.here hx rfl (hb hby d13_9) rfl k)
    show own_Go p e below PO (s₁.setTop (mkF m 10 #[.val (.int (own_I zp)), .val (.int (own_I zq))] [(.int (own_I zq))]))
    refine own_retI X0 hx (rest := []) Bd.returns (hb hby d13_10) e0 (Bd.notSynchronized) ?_ (by decide) (by decide)
    exact ⟨by unfold own_mI; rw [if_pos ((own_lt hq hp).mp hc2_1)], N0, rfl⟩
  refine own_back ?_ (fun t k => XS.icmpNo X0.here hx rfl (hb hby d13_2) rfl (flt hc2_1).2.2.1 k)
  show own_Go p e below PO (s₁.setTop (mkF m 5 #[.val (.int (own_I zp)), .val (.int (own_I zq))] []))
  refine own_back ?_ (fun t k => XS.iloadN X0.here hx rfl (hb hby d13_5) rfl k)
  show own_Go p e below PO (s₁.setTop (mkF m 6 #[.val (.int (own_I zp)), .val (.int (own_I zq))] [(.int (own_I zp))]))
  refine own_back ?_ (fun t k => XS.goto X0.here hx rfl (pc0 := 6) (pc' := 10) rfl (hb hby d13_6) (by decide) (by decide) k)
  show own_Go p e below PO (s₁.setTop (mkF m 10 #[.val (.int (own_I zp)), .val (.int (own_I zq))] [(.int (own_I zp))]))
  refine own_retI X0 hx (rest := []) Bd.returns (hb hby d13_10) e0 (Bd.notSynchronized) ?_ (by decide) (by decide)
  exact ⟨by unfold own_mI; rw [if_neg (fun z => hc2_1 ((own_lt hq hp).mpr z))], N0, rfl⟩
theorem d12_0 : decode jdk_65_method_30_code 0 = .ok (.iload_n 1, 1) := by decide +kernel
theorem d12_1 : decode jdk_65_method_30_code 1 = .ok (.iload_n 2, 1) := by decide +kernel
theorem d12_2 : decode jdk_65_method_30_code 2 = .ok (.if_icmp .le 44, 3) := by decide +kernel
theorem d12_46 : decode jdk_65_method_30_code 46 = .ok (.iload_n 1, 1) := by decide +kernel
theorem d12_47 : decode jdk_65_method_30_code 47 = .ok (.ifCond .ge 12, 3) := by decide +kernel
theorem d12_59 : decode jdk_65_method_30_code 59 = .ok (.iload_n 2, 1) := by decide +kernel
theorem d12_60 : decode jdk_65_method_30_code 60 = .ok (.iload_n 0, 1) := by decide +kernel
theorem d12_61 : decode jdk_65_method_30_code 61 = .ok (.if_icmp .le 12, 3) := by decide +kernel
theorem d12_73 : decode jdk_65_method_30_code 73 = .ok (.return_, 1) := by decide +kernel
theorem pn_1 : plainName "java/util/Arrays" = true := by first | (simp [plainName, overriddenIn]; done) | decide +kernel
theorem ef_rmRc (m : MethodId) (x0 : Int32) (x1 : Int32) (x2 : Int32) : entryFrame m #[(.int x0), (.int x1), (.int x2)] 3 = mkF m 0 #[.val (.int x0), .val (.int x1), .val (.int x2)] [] := by first | (simp [entryFrame, mkF, argsToLocals, Value.category]; done) | rfl
def Q_rmRc (h0 : Heap) (n0 : Nat) (v : Option Value) (h : Heap) (L : List Loc) : Prop := v = none ∧ Fr n0 L ∧ h = h0
set_option maxRecDepth 65536 in
set_option maxHeartbeats 40000000 in
theorem rmRc (l : Launch) (Z : State) (a0 : Array Value) (hw : ∀ d ∈ tables_1, d.before a0 Z = true) (ws : List Jvm.Cond)   (h0 : Heap) (n0 : Nat) (Z0 : n0 ≤ h0.size)  :
    MetFree l (⟨"java/util/Arrays", "rangeCheck", "(III)V"⟩ : MethodName) (head1 (Jvm.Cond.code (⟨"java/util/Arrays", "rangeCheck", "(III)V"⟩ : MethodName) jdk_65_method_30_code 3 none :: ws) ({ frames := 0, cells := 0, slots := 0, locals := 0 } : Room)) (fun a U => a = #[(.int (16 : Int32)), (.int (0 : Int32)), (.int (4 : Int32))] ∧ Z.Warmed39 U.vm ∧ U.heap = h0) (fun _ _ _ _ _ => True) (fun _ U o U' => ∃ v L, o = .returned v ∧ Q_rmRc h0 n0 v U'.heap L ∧ FrameEnd U o U' L ({ frames := 0, cells := 0, slots := 0, locals := 0 } : Room).cells ({ frames := 0, cells := 0, slots := 0, locals := 0 } : Room).slots) := by
  refine MetFree.of_bodySF (plainFor_of_name pn_1) hisR ?_
  intro p e s m args below meth c s₁ Bd hml0 hP hK
  obtain ⟨rfl, hZ, hh⟩ := hP
  have hx := Bd.exec
  have hby := Bd.bytes
  have hml : c.maxLocals = 3 := hml0
  have hown : s.vm.findClass "java/util/Arrays" = some m.cls := findClass_of_methodNamed Bd.named
  have hnm := (name_of_methodNamed Bd.named Bd.method).1
  have X0 : Stand p l e ({ frames := 0, cells := 0, slots := 0, locals := 0 } : Room) s m #[(.int (16 : Int32)), (.int (0 : Int32)), (.int (4 : Int32))] below meth c s₁ [] 0 0 := Stand.of_body Bd
  have e0 : s₁.heap = h0 := by rw [← hh, Bd.state]; rfl
  have N0 := Fr.nil n0
  let PO : Outcome → State → Prop := own_PO s (Q_rmRc h0 n0) 0 0
  show own_Go p e below PO (s₁.setTop (entryFrame m #[(.int (16 : Int32)), (.int (0 : Int32)), (.int (4 : Int32))] 3))
  rw [ef_rmRc]
  show own_Go p e below PO (s₁.setTop (mkF m 0 #[.val (.int (16 : Int32)), .val (.int (0 : Int32)), .val (.int (4 : Int32))] []))
  refine own_back ?_ (fun t k => XS.iloadN X0.here hx rfl (hb hby d12_0) rfl k)
  show own_Go p e below PO (s₁.setTop (mkF m 1 #[.val (.int (16 : Int32)), .val (.int (0 : Int32)), .val (.int (4 : Int32))] [(.int (0 : Int32))]))
  refine own_back ?_ (fun t k => XS.iloadN X0.here hx rfl (hb hby d12_1) rfl k)
  show own_Go p e below PO (s₁.setTop (mkF m 2 #[.val (.int (16 : Int32)), .val (.int (0 : Int32)), .val (.int (4 : Int32))] [(.int (4 : Int32)), (.int (0 : Int32))]))
  have hd2_1 : ¬ ((4 : Int32) < (0 : Int32)) := (by decide)
  refine own_back ?_ (fun t k => XS.icmpYes X0.here hx rfl (pc0 := 2) (pc' := 46) rfl (hb hby d12_2) rfl (flt hd2_1).2.2.2 (by decide) (by decide) k)
  show own_Go p e below PO (s₁.setTop (mkF m 46 #[.val (.int (16 : Int32)), .val (.int (0 : Int32)), .val (.int (4 : Int32))] []))
  refine own_back ?_ (fun t k => XS.iloadN X0.here hx rfl (hb hby d12_46) rfl k)
  show own_Go p e below PO (s₁.setTop (mkF m 47 #[.val (.int (16 : Int32)), .val (.int (0 : Int32)), .val (.int (4 : Int32))] [(.int (0 : Int32))]))
  refine own_back ?_ (fun t k => XS.ifYes X0.here hx rfl (pc0 := 47) (pc' := 59) rfl (hb hby d12_47) rfl ((if0 _ _).trans (flt Int32.lt_irrefl).2.1) (by decide) (by decide) k)
  show own_Go p e below PO (s₁.setTop (mkF m 59 #[.val (.int (16 : Int32)), .val (.int (0 : Int32)), .val (.int (4 : Int32))] []))
  refine own_back ?_ (fun t k => XS.iloadN X0.here hx rfl (hb hby d12_59) rfl k)
  show own_Go p e below PO (s₁.setTop (mkF m 60 #[.val (.int (16 : Int32)), .val (.int (0 : Int32)), .val (.int (4 : Int32))] [(.int (4 : Int32))]))
  refine own_back ?_ (fun t k => XS.iloadN X0.here hx rfl (hb hby d12_60) rfl k)
  show own_Go p e below PO (s₁.setTop (mkF m 61 #[.val (.int (16 : Int32)), .val (.int (0 : Int32)), .val (.int (4 : Int32))] [(.int (16 : Int32)), (.int (4 : Int32))]))
  have hd61_2 : ¬ ((16 : Int32) < (4 : Int32)) := (by decide)
  refine own_back ?_ (fun t k => XS.icmpYes X0.here hx rfl (pc0 := 61) (pc' := 73) rfl (hb hby d12_61) rfl (flt hd61_2).2.2.2 (by decide) (by decide) k)
  show own_Go p e below PO (s₁.setTop (mkF m 73 #[.val (.int (16 : Int32)), .val (.int (0 : Int32)), .val (.int (4 : Int32))] []))
  refine own_retV X0 hx Bd.returns (hb hby d12_73) e0 (Bd.notSynchronized) ?_ (by decide) (by decide)
  exact ⟨rfl, N0, rfl⟩
theorem pd_0 : parseMethodDescriptor "(III)V" = some ⟨[.int, .int, .int], none⟩ := by decide +kernel
theorem d11_0 : decode jdk_65_method_104_code 0 = .ok (.aload_n 0, 1) := by decide +kernel
theorem d11_1 : decode jdk_65_method_104_code 1 = .ok (.arraylength, 1) := by decide +kernel
theorem d11_2 : decode jdk_65_method_104_code 2 = .ok (.iload_n 1, 1) := by decide +kernel
theorem d11_3 : decode jdk_65_method_104_code 3 = .ok (.iload_n 2, 1) := by decide +kernel
theorem d11_4 : decode jdk_65_method_104_code 4 = .ok (.invokestatic 13, 3) := by decide +kernel
theorem d11_7 : decode jdk_65_method_104_code 7 = .ok (.iload_n 1, 1) := by decide +kernel
theorem d11_8 : decode jdk_65_method_104_code 8 = .ok (.istore 4, 2) := by decide +kernel
theorem d11_10 : decode jdk_65_method_104_code 10 = .ok (.iload 4, 2) := by decide +kernel
theorem d11_12 : decode jdk_65_method_104_code 12 = .ok (.iload_n 2, 1) := by decide +kernel
theorem d11_13 : decode jdk_65_method_104_code 13 = .ok (.if_icmp .ge 14, 3) := by decide +kernel
theorem d11_16 : decode jdk_65_method_104_code 16 = .ok (.aload_n 0, 1) := by decide +kernel
theorem d11_17 : decode jdk_65_method_104_code 17 = .ok (.iload 4, 2) := by decide +kernel
theorem d11_19 : decode jdk_65_method_104_code 19 = .ok (.iload_n 3, 1) := by decide +kernel
theorem d11_20 : decode jdk_65_method_104_code 20 = .ok (.iastore, 1) := by decide +kernel
theorem d11_21 : decode jdk_65_method_104_code 21 = .ok (.iinc 4 1, 3) := by decide +kernel
theorem d11_24 : decode jdk_65_method_104_code 24 = .ok (.goto (-14), 3) := by decide +kernel
theorem d11_27 : decode jdk_65_method_104_code 27 = .ok (.return_, 1) := by decide +kernel
theorem ef_rmFill (m : MethodId) (x0 : Addr) (x1 : Int32) (x2 : Int32) (x3 : Int32) : entryFrame m #[(.ref x0), (.int x1), (.int x2), (.int x3)] 5 = mkF m 0 #[.val (.ref x0), .val (.int x1), .val (.int x2), .val (.int x3), .unset] [] := by first | (simp [entryFrame, mkF, argsToLocals, Value.category]; done) | rfl
def Q_rmFill (Z : State) (aL : Addr) (kL : ClassId) (h0 : Heap) (n0 : Nat) (v : Option Value) (h : Heap) (L : List Loc) : Prop := v = none ∧ Fr n0 L ∧ Keep h0 h [aL] ∧ ∃ lev' : Int → Int, Arv Z h aL kL .int (16 : Int32) (own_vi lev') (.int (0 : Int32)) ∧ ∀ n : Int, 0 ≤ n → n < 4 → lev' n = -1
set_option maxRecDepth 65536 in
set_option maxHeartbeats 40000000 in
theorem rmFill (l : Launch) (Z : State) (a0 : Array Value) (hw : ∀ d ∈ tables_1, d.before a0 Z = true) (ws : List Jvm.Cond) (aL : Addr) (kL : ClassId) (lev : Int → Int) (h0 : Heap) (n0 : Nat) (Z0 : n0 ≤ h0.size) (gn_aL : n0 ≤ aL) (V_L : Arv Z h0 aL kL .int (16 : Int32) (own_vi lev) (.int (0 : Int32))) :
    MetFree l (⟨"java/util/Arrays", "fill", "([IIII)V"⟩ : MethodName) (head1 (Jvm.Cond.code (⟨"java/util/Arrays", "fill", "([IIII)V"⟩ : MethodName) jdk_65_method_104_code 5 none :: ws) ({ frames := 1, cells := 0, slots := 0, locals := 14 } : Room)) (fun a U => a = #[(.ref aL), (.int (0 : Int32)), (.int (4 : Int32)), (.int (-1 : Int32))] ∧ Z.Warmed39 U.vm ∧ U.heap = h0) (fun _ _ _ _ _ => True) (fun _ U o U' => ∃ v L, o = .returned v ∧ Q_rmFill Z aL kL h0 n0 v U'.heap L ∧ FrameEnd U o U' L ({ frames := 1, cells := 0, slots := 0, locals := 14 } : Room).cells ({ frames := 1, cells := 0, slots := 0, locals := 14 } : Room).slots) := by
  refine MetFree.of_bodySF (plainFor_of_name pn_1) hisR ?_
  intro p e s m args below meth c s₁ Bd hml0 hP hK
  obtain ⟨rfl, hZ, hh⟩ := hP
  have hx := Bd.exec
  have hby := Bd.bytes
  have hml : c.maxLocals = 5 := hml0
  have hown : s.vm.findClass "java/util/Arrays" = some m.cls := findClass_of_methodNamed Bd.named
  have hnm := (name_of_methodNamed Bd.named Bd.method).1
  have X0 : Stand p l e ({ frames := 1, cells := 0, slots := 0, locals := 14 } : Room) s m #[(.ref aL), (.int (0 : Int32)), (.int (4 : Int32)), (.int (-1 : Int32))] below meth c s₁ [] 0 0 := Stand.of_body Bd
  have e0 : s₁.heap = h0 := by rw [← hh, Bd.state]; rfl
  have N0 := Fr.nil n0
  let PO : Outcome → State → Prop := own_PO s (Q_rmFill Z aL kL h0 n0) 0 0
  show own_Go p e below PO (s₁.setTop (entryFrame m #[(.ref aL), (.int (0 : Int32)), (.int (4 : Int32)), (.int (-1 : Int32))] 5))
  rw [ef_rmFill]
  have K0 : Keep h0 h0 [aL] := Keep.refl h0 _
  show own_Go p e below PO (s₁.setTop (mkF m 0 #[.val (.ref aL), .val (.int (0 : Int32)), .val (.int (4 : Int32)), .val (.int (-1 : Int32)), .unset] []))
  refine own_back ?_ (fun t k => XS.aloadN X0.here hx rfl (hb hby d11_0) rfl rfl k)
  show own_Go p e below PO (s₁.setTop (mkF m 1 #[.val (.ref aL), .val (.int (0 : Int32)), .val (.int (4 : Int32)), .val (.int (-1 : Int32)), .unset] [(.ref aL)]))
  refine own_back ?_ (own_len X0 hx hZ e0 V_L (g := (mkF m 1 #[.val (.ref aL), .val (.int (0 : Int32)), .val (.int (4 : Int32)), .val (.int (-1 : Int32)), .unset] [(.ref aL)])) rfl rfl (hb hby d11_1))
  show own_Go p e below PO (s₁.setTop (mkF m 2 #[.val (.ref aL), .val (.int (0 : Int32)), .val (.int (4 : Int32)), .val (.int (-1 : Int32)), .unset] [(.int (16 : Int32))]))
  refine own_back ?_ (fun t k => XS.iloadN X0.here hx rfl (hb hby d11_2) rfl k)
  show own_Go p e below PO (s₁.setTop (mkF m 3 #[.val (.ref aL), .val (.int (0 : Int32)), .val (.int (4 : Int32)), .val (.int (-1 : Int32)), .unset] [(.int (0 : Int32)), (.int (16 : Int32))]))
  refine own_back ?_ (fun t k => XS.iloadN X0.here hx rfl (hb hby d11_3) rfl k)
  show own_Go p e below PO (s₁.setTop (mkF m 4 #[.val (.ref aL), .val (.int (0 : Int32)), .val (.int (4 : Int32)), .val (.int (-1 : Int32)), .unset] [(.int (4 : Int32)), (.int (0 : Int32)), (.int (16 : Int32))]))
  obtain ⟨_, _, ⟨T1, L1, k1, n1⟩, -, X1, ⟨Lc1, hQ1, l1, y1, z1⟩, st1⟩ := Jvm.LawKit.callS X0 hx (y := (⟨"java/util/Arrays", "rangeCheck", "(III)V"⟩ : MethodName)) hown (mvT hZ (hw _ (List.mem_of_getElem? (i := 70) rfl))) (mvT hZ (hw _ (List.mem_of_getElem? (i := 71) rfl))) (mvT hZ (hw _ (List.mem_of_getElem? (i := 68) rfl))) (mvT hZ (hw _ (List.mem_of_getElem? (i := 72) rfl))) (by decide) (backOf (W := 0) (rmRc l Z a0 hw []   h0 n0 Z0 ) hZ (hw _ (List.mem_of_getElem? (i := 72) rfl)) (hw _ (List.mem_of_getElem? (i := 68) rfl)) (by decide) (by decide)) (g := (mkF m 4 #[.val (.ref aL), .val (.int (0 : Int32)), .val (.int (4 : Int32)), .val (.int (-1 : Int32)), .unset] [(.int (4 : Int32)), (.int (0 : Int32)), (.int (16 : Int32))])) rfl (by rw [hml]; rfl) (argsL := [(.int (16 : Int32)), (.int (0 : Int32)), (.int (4 : Int32))]) (rest := []) (lenOf pd_0 rfl) rfl (by show 2 * 0 + _ ≤ _; exact Nat.le_of_eq rfl) (hb hby d11_4) (fun _ _ => ⟨rfl, e0, (by decide : 0 + 0 ≤ _), (by decide : 0 + 0 ≤ _)⟩)
  dsimp only [Pt.U, Pt.locs, Pt.cells, Pt.slots] at X1 l1 y1 z1 st1 hQ1
  subst l1 y1 z1
  obtain ⟨rfl, N1q, e1⟩ := hQ1
  have N1 := Fr.app N0 N1q
  refine own_back ?_ st1
  show own_Go p e below PO (T1.setTop (mkF m 7 #[.val (.ref aL), .val (.int (0 : Int32)), .val (.int (4 : Int32)), .val (.int (-1 : Int32)), .unset] []))
  refine own_back ?_ (fun t k => XS.iloadN X1.here hx rfl (hb hby d11_7) rfl k)
  show own_Go p e below PO (T1.setTop (mkF m 8 #[.val (.ref aL), .val (.int (0 : Int32)), .val (.int (4 : Int32)), .val (.int (-1 : Int32)), .unset] [(.int (0 : Int32))]))
  refine own_back ?_ (fun t k => XS.istore X1.here hx rfl (hb hby d11_8) rfl (l' := #[.val (.ref aL), .val (.int (0 : Int32)), .val (.int (4 : Int32)), .val (.int (-1 : Int32)), .val (.int (0 : Int32))]) rfl k)
  show own_Go p e below PO (T1.setTop (mkF m 10 #[.val (.ref aL), .val (.int (0 : Int32)), .val (.int (4 : Int32)), .val (.int (-1 : Int32)), .val (.int (0 : Int32))] []))
  refine own_back ?_ (fun t k => XS.iload X1.here hx rfl (hb hby d11_10) rfl k)
  show own_Go p e below PO (T1.setTop (mkF m 12 #[.val (.ref aL), .val (.int (0 : Int32)), .val (.int (4 : Int32)), .val (.int (-1 : Int32)), .val (.int (0 : Int32))] [(.int (0 : Int32))]))
  refine own_back ?_ (fun t k => XS.iloadN X1.here hx rfl (hb hby d11_12) rfl k)
  show own_Go p e below PO (T1.setTop (mkF m 13 #[.val (.ref aL), .val (.int (0 : Int32)), .val (.int (4 : Int32)), .val (.int (-1 : Int32)), .val (.int (0 : Int32))] [(.int (4 : Int32)), (.int (0 : Int32))]))
  have hd13_2 : (0 : Int32) < (4 : Int32) := (by decide)
  refine own_back ?_ (fun t k => XS.icmpNo X1.here hx rfl (hb hby d11_13) rfl (tlt hd13_2).2.1 k)
  show own_Go p e below PO (T1.setTop (mkF m 16 #[.val (.ref aL), .val (.int (0 : Int32)), .val (.int (4 : Int32)), .val (.int (-1 : Int32)), .val (.int (0 : Int32))] []))
  refine own_back ?_ (fun t k => XS.aloadN X1.here hx rfl (hb hby d11_16) rfl rfl k)
  show own_Go p e below PO (T1.setTop (mkF m 17 #[.val (.ref aL), .val (.int (0 : Int32)), .val (.int (4 : Int32)), .val (.int (-1 : Int32)), .val (.int (0 : Int32))] [(.ref aL)]))
  refine own_back ?_ (fun t k => XS.iload X1.here hx rfl (hb hby d11_17) rfl k)
  show own_Go p e below PO (T1.setTop (mkF m 19 #[.val (.ref aL), .val (.int (0 : Int32)), .val (.int (4 : Int32)), .val (.int (-1 : Int32)), .val (.int (0 : Int32))] [(.int (0 : Int32)), (.ref aL)]))
  refine own_back ?_ (fun t k => XS.iloadN X1.here hx rfl (hb hby d11_19) rfl k)
  show own_Go p e below PO (T1.setTop (mkF m 20 #[.val (.ref aL), .val (.int (0 : Int32)), .val (.int (4 : Int32)), .val (.int (-1 : Int32)), .val (.int (0 : Int32))] [(.int (-1 : Int32)), (.int (0 : Int32)), (.ref aL)]))
  obtain ⟨T3, h3, X3, e3, W3, V3, st3⟩ := own_stI X1 hx hZ e1 V_L (j := (0 : Int32)) ⟨by decide, by decide⟩ (i := 0) rfl (own_ixk _ (by decide)) (g := (mkF m 20 #[.val (.ref aL), .val (.int (0 : Int32)), .val (.int (4 : Int32)), .val (.int (-1 : Int32)), .val (.int (0 : Int32))] [(.int (-1 : Int32)), (.int (0 : Int32)), (.ref aL)])) rfl rfl (hb hby d11_20)
  rw [own_setk (x := (-1)) 0 0 (by omega) (by decide) own_im1.symm] at V3
  have K3 : Keep h0 h3 [aL] := (K0).wr W3 (Or.inl (by simp))
  have N3 := Fr.snoc X3 N1 gn_aL
  have Zh3 : n0 ≤ h3.size := Nat.le_trans Z0 K3.1
  refine own_back ?_ st3
  show own_Go p e below PO (T3.setTop (mkF m 21 #[.val (.ref aL), .val (.int (0 : Int32)), .val (.int (4 : Int32)), .val (.int (-1 : Int32)), .val (.int (0 : Int32))] []))
  refine own_back ?_ (fun t k => XS.iinc X3.here hx rfl (hb hby d11_21) rfl (l' := #[.val (.ref aL), .val (.int (0 : Int32)), .val (.int (4 : Int32)), .val (.int (-1 : Int32)), .val (.int (1 : Int32))]) rfl k)
  show own_Go p e below PO (T3.setTop (mkF m 24 #[.val (.ref aL), .val (.int (0 : Int32)), .val (.int (4 : Int32)), .val (.int (-1 : Int32)), .val (.int (1 : Int32))] []))
  refine own_back ?_ (fun t k => XS.goto X3.here hx rfl (pc0 := 24) (pc' := 10) rfl (hb hby d11_24) (by decide) (by decide) k)
  show own_Go p e below PO (T3.setTop (mkF m 10 #[.val (.ref aL), .val (.int (0 : Int32)), .val (.int (4 : Int32)), .val (.int (-1 : Int32)), .val (.int (1 : Int32))] []))
  refine own_back ?_ (fun t k => XS.iload X3.here hx rfl (hb hby d11_10) rfl k)
  show own_Go p e below PO (T3.setTop (mkF m 12 #[.val (.ref aL), .val (.int (0 : Int32)), .val (.int (4 : Int32)), .val (.int (-1 : Int32)), .val (.int (1 : Int32))] [(.int (1 : Int32))]))
  refine own_back ?_ (fun t k => XS.iloadN X3.here hx rfl (hb hby d11_12) rfl k)
  show own_Go p e below PO (T3.setTop (mkF m 13 #[.val (.ref aL), .val (.int (0 : Int32)), .val (.int (4 : Int32)), .val (.int (-1 : Int32)), .val (.int (1 : Int32))] [(.int (4 : Int32)), (.int (1 : Int32))]))
  have hd13_4 : (1 : Int32) < (4 : Int32) := (by decide)
  refine own_back ?_ (fun t k => XS.icmpNo X3.here hx rfl (hb hby d11_13) rfl (tlt hd13_4).2.1 k)
  show own_Go p e below PO (T3.setTop (mkF m 16 #[.val (.ref aL), .val (.int (0 : Int32)), .val (.int (4 : Int32)), .val (.int (-1 : Int32)), .val (.int (1 : Int32))] []))
  refine own_back ?_ (fun t k => XS.aloadN X3.here hx rfl (hb hby d11_16) rfl rfl k)
  show own_Go p e below PO (T3.setTop (mkF m 17 #[.val (.ref aL), .val (.int (0 : Int32)), .val (.int (4 : Int32)), .val (.int (-1 : Int32)), .val (.int (1 : Int32))] [(.ref aL)]))
  refine own_back ?_ (fun t k => XS.iload X3.here hx rfl (hb hby d11_17) rfl k)
  show own_Go p e below PO (T3.setTop (mkF m 19 #[.val (.ref aL), .val (.int (0 : Int32)), .val (.int (4 : Int32)), .val (.int (-1 : Int32)), .val (.int (1 : Int32))] [(.int (1 : Int32)), (.ref aL)]))
  refine own_back ?_ (fun t k => XS.iloadN X3.here hx rfl (hb hby d11_19) rfl k)
  show own_Go p e below PO (T3.setTop (mkF m 20 #[.val (.ref aL), .val (.int (0 : Int32)), .val (.int (4 : Int32)), .val (.int (-1 : Int32)), .val (.int (1 : Int32))] [(.int (-1 : Int32)), (.int (1 : Int32)), (.ref aL)]))
  obtain ⟨T5, h5, X5, e5, W5, V5, st5⟩ := own_stI X3 hx hZ e3 V3 (j := (1 : Int32)) ⟨by decide, by decide⟩ (i := 1) rfl (own_ixk _ (by decide)) (g := (mkF m 20 #[.val (.ref aL), .val (.int (0 : Int32)), .val (.int (4 : Int32)), .val (.int (-1 : Int32)), .val (.int (1 : Int32))] [(.int (-1 : Int32)), (.int (1 : Int32)), (.ref aL)])) rfl rfl (hb hby d11_20)
  rw [own_setk (x := (-1)) 1 1 (by omega) (by decide) own_im1.symm] at V5
  have K5 : Keep h0 h5 [aL] := (K3).wr W5 (Or.inl (by simp))
  have N5 := Fr.snoc X5 N3 gn_aL
  have Zh5 : n0 ≤ h5.size := Nat.le_trans Z0 K5.1
  refine own_back ?_ st5
  show own_Go p e below PO (T5.setTop (mkF m 21 #[.val (.ref aL), .val (.int (0 : Int32)), .val (.int (4 : Int32)), .val (.int (-1 : Int32)), .val (.int (1 : Int32))] []))
  refine own_back ?_ (fun t k => XS.iinc X5.here hx rfl (hb hby d11_21) rfl (l' := #[.val (.ref aL), .val (.int (0 : Int32)), .val (.int (4 : Int32)), .val (.int (-1 : Int32)), .val (.int (2 : Int32))]) rfl k)
  show own_Go p e below PO (T5.setTop (mkF m 24 #[.val (.ref aL), .val (.int (0 : Int32)), .val (.int (4 : Int32)), .val (.int (-1 : Int32)), .val (.int (2 : Int32))] []))
  refine own_back ?_ (fun t k => XS.goto X5.here hx rfl (pc0 := 24) (pc' := 10) rfl (hb hby d11_24) (by decide) (by decide) k)
  show own_Go p e below PO (T5.setTop (mkF m 10 #[.val (.ref aL), .val (.int (0 : Int32)), .val (.int (4 : Int32)), .val (.int (-1 : Int32)), .val (.int (2 : Int32))] []))
  refine own_back ?_ (fun t k => XS.iload X5.here hx rfl (hb hby d11_10) rfl k)
  show own_Go p e below PO (T5.setTop (mkF m 12 #[.val (.ref aL), .val (.int (0 : Int32)), .val (.int (4 : Int32)), .val (.int (-1 : Int32)), .val (.int (2 : Int32))] [(.int (2 : Int32))]))
  refine own_back ?_ (fun t k => XS.iloadN X5.here hx rfl (hb hby d11_12) rfl k)
  show own_Go p e below PO (T5.setTop (mkF m 13 #[.val (.ref aL), .val (.int (0 : Int32)), .val (.int (4 : Int32)), .val (.int (-1 : Int32)), .val (.int (2 : Int32))] [(.int (4 : Int32)), (.int (2 : Int32))]))
  have hd13_6 : (2 : Int32) < (4 : Int32) := (by decide)
  refine own_back ?_ (fun t k => XS.icmpNo X5.here hx rfl (hb hby d11_13) rfl (tlt hd13_6).2.1 k)
  show own_Go p e below PO (T5.setTop (mkF m 16 #[.val (.ref aL), .val (.int (0 : Int32)), .val (.int (4 : Int32)), .val (.int (-1 : Int32)), .val (.int (2 : Int32))] []))
  refine own_back ?_ (fun t k => XS.aloadN X5.here hx rfl (hb hby d11_16) rfl rfl k)
  show own_Go p e below PO (T5.setTop (mkF m 17 #[.val (.ref aL), .val (.int (0 : Int32)), .val (.int (4 : Int32)), .val (.int (-1 : Int32)), .val (.int (2 : Int32))] [(.ref aL)]))
  refine own_back ?_ (fun t k => XS.iload X5.here hx rfl (hb hby d11_17) rfl k)
  show own_Go p e below PO (T5.setTop (mkF m 19 #[.val (.ref aL), .val (.int (0 : Int32)), .val (.int (4 : Int32)), .val (.int (-1 : Int32)), .val (.int (2 : Int32))] [(.int (2 : Int32)), (.ref aL)]))
  refine own_back ?_ (fun t k => XS.iloadN X5.here hx rfl (hb hby d11_19) rfl k)
  show own_Go p e below PO (T5.setTop (mkF m 20 #[.val (.ref aL), .val (.int (0 : Int32)), .val (.int (4 : Int32)), .val (.int (-1 : Int32)), .val (.int (2 : Int32))] [(.int (-1 : Int32)), (.int (2 : Int32)), (.ref aL)]))
  obtain ⟨T7, h7, X7, e7, W7, V7, st7⟩ := own_stI X5 hx hZ e5 V5 (j := (2 : Int32)) ⟨by decide, by decide⟩ (i := 2) rfl (own_ixk _ (by decide)) (g := (mkF m 20 #[.val (.ref aL), .val (.int (0 : Int32)), .val (.int (4 : Int32)), .val (.int (-1 : Int32)), .val (.int (2 : Int32))] [(.int (-1 : Int32)), (.int (2 : Int32)), (.ref aL)])) rfl rfl (hb hby d11_20)
  rw [own_setk (x := (-1)) 2 2 (by omega) (by decide) own_im1.symm] at V7
  have K7 : Keep h0 h7 [aL] := (K5).wr W7 (Or.inl (by simp))
  have N7 := Fr.snoc X7 N5 gn_aL
  have Zh7 : n0 ≤ h7.size := Nat.le_trans Z0 K7.1
  refine own_back ?_ st7
  show own_Go p e below PO (T7.setTop (mkF m 21 #[.val (.ref aL), .val (.int (0 : Int32)), .val (.int (4 : Int32)), .val (.int (-1 : Int32)), .val (.int (2 : Int32))] []))
  refine own_back ?_ (fun t k => XS.iinc X7.here hx rfl (hb hby d11_21) rfl (l' := #[.val (.ref aL), .val (.int (0 : Int32)), .val (.int (4 : Int32)), .val (.int (-1 : Int32)), .val (.int (3 : Int32))]) rfl k)
  show own_Go p e below PO (T7.setTop (mkF m 24 #[.val (.ref aL), .val (.int (0 : Int32)), .val (.int (4 : Int32)), .val (.int (-1 : Int32)), .val (.int (3 : Int32))] []))
  refine own_back ?_ (fun t k => XS.goto X7.here hx rfl (pc0 := 24) (pc' := 10) rfl (hb hby d11_24) (by decide) (by decide) k)
  show own_Go p e below PO (T7.setTop (mkF m 10 #[.val (.ref aL), .val (.int (0 : Int32)), .val (.int (4 : Int32)), .val (.int (-1 : Int32)), .val (.int (3 : Int32))] []))
  refine own_back ?_ (fun t k => XS.iload X7.here hx rfl (hb hby d11_10) rfl k)
  show own_Go p e below PO (T7.setTop (mkF m 12 #[.val (.ref aL), .val (.int (0 : Int32)), .val (.int (4 : Int32)), .val (.int (-1 : Int32)), .val (.int (3 : Int32))] [(.int (3 : Int32))]))
  refine own_back ?_ (fun t k => XS.iloadN X7.here hx rfl (hb hby d11_12) rfl k)
  show own_Go p e below PO (T7.setTop (mkF m 13 #[.val (.ref aL), .val (.int (0 : Int32)), .val (.int (4 : Int32)), .val (.int (-1 : Int32)), .val (.int (3 : Int32))] [(.int (4 : Int32)), (.int (3 : Int32))]))
  have hd13_8 : (3 : Int32) < (4 : Int32) := (by decide)
  refine own_back ?_ (fun t k => XS.icmpNo X7.here hx rfl (hb hby d11_13) rfl (tlt hd13_8).2.1 k)
  show own_Go p e below PO (T7.setTop (mkF m 16 #[.val (.ref aL), .val (.int (0 : Int32)), .val (.int (4 : Int32)), .val (.int (-1 : Int32)), .val (.int (3 : Int32))] []))
  refine own_back ?_ (fun t k => XS.aloadN X7.here hx rfl (hb hby d11_16) rfl rfl k)
  show own_Go p e below PO (T7.setTop (mkF m 17 #[.val (.ref aL), .val (.int (0 : Int32)), .val (.int (4 : Int32)), .val (.int (-1 : Int32)), .val (.int (3 : Int32))] [(.ref aL)]))
  refine own_back ?_ (fun t k => XS.iload X7.here hx rfl (hb hby d11_17) rfl k)
  show own_Go p e below PO (T7.setTop (mkF m 19 #[.val (.ref aL), .val (.int (0 : Int32)), .val (.int (4 : Int32)), .val (.int (-1 : Int32)), .val (.int (3 : Int32))] [(.int (3 : Int32)), (.ref aL)]))
  refine own_back ?_ (fun t k => XS.iloadN X7.here hx rfl (hb hby d11_19) rfl k)
  show own_Go p e below PO (T7.setTop (mkF m 20 #[.val (.ref aL), .val (.int (0 : Int32)), .val (.int (4 : Int32)), .val (.int (-1 : Int32)), .val (.int (3 : Int32))] [(.int (-1 : Int32)), (.int (3 : Int32)), (.ref aL)]))
  obtain ⟨T9, h9, X9, e9, W9, V9, st9⟩ := own_stI X7 hx hZ e7 V7 (j := (3 : Int32)) ⟨by decide, by decide⟩ (i := 3) rfl (own_ixk _ (by decide)) (g := (mkF m 20 #[.val (.ref aL), .val (.int (0 : Int32)), .val (.int (4 : Int32)), .val (.int (-1 : Int32)), .val (.int (3 : Int32))] [(.int (-1 : Int32)), (.int (3 : Int32)), (.ref aL)])) rfl rfl (hb hby d11_20)
  rw [own_setk (x := (-1)) 3 3 (by omega) (by decide) own_im1.symm] at V9
  have K9 : Keep h0 h9 [aL] := (K7).wr W9 (Or.inl (by simp))
  have N9 := Fr.snoc X9 N7 gn_aL
  have Zh9 : n0 ≤ h9.size := Nat.le_trans Z0 K9.1
  refine own_back ?_ st9
  show own_Go p e below PO (T9.setTop (mkF m 21 #[.val (.ref aL), .val (.int (0 : Int32)), .val (.int (4 : Int32)), .val (.int (-1 : Int32)), .val (.int (3 : Int32))] []))
  refine own_back ?_ (fun t k => XS.iinc X9.here hx rfl (hb hby d11_21) rfl (l' := #[.val (.ref aL), .val (.int (0 : Int32)), .val (.int (4 : Int32)), .val (.int (-1 : Int32)), .val (.int (4 : Int32))]) rfl k)
  show own_Go p e below PO (T9.setTop (mkF m 24 #[.val (.ref aL), .val (.int (0 : Int32)), .val (.int (4 : Int32)), .val (.int (-1 : Int32)), .val (.int (4 : Int32))] []))
  refine own_back ?_ (fun t k => XS.goto X9.here hx rfl (pc0 := 24) (pc' := 10) rfl (hb hby d11_24) (by decide) (by decide) k)
  show own_Go p e below PO (T9.setTop (mkF m 10 #[.val (.ref aL), .val (.int (0 : Int32)), .val (.int (4 : Int32)), .val (.int (-1 : Int32)), .val (.int (4 : Int32))] []))
  refine own_back ?_ (fun t k => XS.iload X9.here hx rfl (hb hby d11_10) rfl k)
  show own_Go p e below PO (T9.setTop (mkF m 12 #[.val (.ref aL), .val (.int (0 : Int32)), .val (.int (4 : Int32)), .val (.int (-1 : Int32)), .val (.int (4 : Int32))] [(.int (4 : Int32))]))
  refine own_back ?_ (fun t k => XS.iloadN X9.here hx rfl (hb hby d11_12) rfl k)
  show own_Go p e below PO (T9.setTop (mkF m 13 #[.val (.ref aL), .val (.int (0 : Int32)), .val (.int (4 : Int32)), .val (.int (-1 : Int32)), .val (.int (4 : Int32))] [(.int (4 : Int32)), (.int (4 : Int32))]))
  refine own_back ?_ (fun t k => XS.icmpYes X9.here hx rfl (pc0 := 13) (pc' := 27) rfl (hb hby d11_13) rfl (flt Int32.lt_irrefl).2.1 (by decide) (by decide) k)
  show own_Go p e below PO (T9.setTop (mkF m 27 #[.val (.ref aL), .val (.int (0 : Int32)), .val (.int (4 : Int32)), .val (.int (-1 : Int32)), .val (.int (4 : Int32))] []))
  refine own_retV X9 hx Bd.returns (hb hby d11_27) e9 (Bd.notSynchronized) ?_ (by decide) (by decide)
  exact ⟨rfl, N9, K9, _, V9, fun n h0 h1 => own_fl h0 h1⟩
theorem pd_1 : parseMethodDescriptor "([IIII)V" = some ⟨[(.array .int), .int, .int, .int], none⟩ := by decide +kernel
theorem d10_0 : decode prog_25_method_8_code 0 = .ok (.aload_n 0, 1) := by decide +kernel
theorem d10_1 : decode prog_25_method_8_code 1 = .ok (.getfield 23, 3) := by decide +kernel
theorem d10_4 : decode prog_25_method_8_code 4 = .ok (.iconst 0, 1) := by decide +kernel
theorem d10_5 : decode prog_25_method_8_code 5 = .ok (.aload_n 0, 1) := by decide +kernel
theorem d10_6 : decode prog_25_method_8_code 6 = .ok (.getfield 35, 3) := by decide +kernel
theorem d10_9 : decode prog_25_method_8_code 9 = .ok (.iconst (-1), 1) := by decide +kernel
theorem d10_10 : decode prog_25_method_8_code 10 = .ok (.invokestatic 81, 3) := by decide +kernel
theorem d10_13 : decode prog_25_method_8_code 13 = .ok (.aload_n 0, 1) := by decide +kernel
theorem d10_14 : decode prog_25_method_8_code 14 = .ok (.getfield 23, 3) := by decide +kernel
theorem d10_17 : decode prog_25_method_8_code 17 = .ok (.iload_n 1, 1) := by decide +kernel
theorem d10_18 : decode prog_25_method_8_code 18 = .ok (.iconst 0, 1) := by decide +kernel
theorem d10_19 : decode prog_25_method_8_code 19 = .ok (.iastore, 1) := by decide +kernel
theorem d10_20 : decode prog_25_method_8_code 20 = .ok (.aload_n 0, 1) := by decide +kernel
theorem d10_21 : decode prog_25_method_8_code 21 = .ok (.getfield 29, 3) := by decide +kernel
theorem d10_24 : decode prog_25_method_8_code 24 = .ok (.iconst 0, 1) := by decide +kernel
theorem d10_25 : decode prog_25_method_8_code 25 = .ok (.iload_n 1, 1) := by decide +kernel
theorem d10_26 : decode prog_25_method_8_code 26 = .ok (.iastore, 1) := by decide +kernel
theorem d10_27 : decode prog_25_method_8_code 27 = .ok (.iconst 1, 1) := by decide +kernel
theorem d10_28 : decode prog_25_method_8_code 28 = .ok (.istore_n 3, 1) := by decide +kernel
theorem d10_29 : decode prog_25_method_8_code 29 = .ok (.iconst 0, 1) := by decide +kernel
theorem d10_30 : decode prog_25_method_8_code 30 = .ok (.istore 4, 2) := by decide +kernel
theorem d10_32 : decode prog_25_method_8_code 32 = .ok (.iload 4, 2) := by decide +kernel
theorem d10_34 : decode prog_25_method_8_code 34 = .ok (.iload_n 3, 1) := by decide +kernel
theorem d10_35 : decode prog_25_method_8_code 35 = .ok (.if_icmp .ge 108, 3) := by decide +kernel
theorem d10_38 : decode prog_25_method_8_code 38 = .ok (.aload_n 0, 1) := by decide +kernel
theorem d10_39 : decode prog_25_method_8_code 39 = .ok (.getfield 29, 3) := by decide +kernel
theorem d10_42 : decode prog_25_method_8_code 42 = .ok (.iload 4, 2) := by decide +kernel
theorem d10_44 : decode prog_25_method_8_code 44 = .ok (.iaload, 1) := by decide +kernel
theorem d10_45 : decode prog_25_method_8_code 45 = .ok (.istore 5, 2) := by decide +kernel
theorem d10_47 : decode prog_25_method_8_code 47 = .ok (.aload_n 0, 1) := by decide +kernel
theorem d10_48 : decode prog_25_method_8_code 48 = .ok (.getfield 7, 3) := by decide +kernel
theorem d10_51 : decode prog_25_method_8_code 51 = .ok (.iload 5, 2) := by decide +kernel
theorem d10_53 : decode prog_25_method_8_code 53 = .ok (.iaload, 1) := by decide +kernel
theorem d10_54 : decode prog_25_method_8_code 54 = .ok (.istore 6, 2) := by decide +kernel
theorem d10_56 : decode prog_25_method_8_code 56 = .ok (.iload 6, 2) := by decide +kernel
theorem d10_58 : decode prog_25_method_8_code 58 = .ok (.ifCond .lt 79, 3) := by decide +kernel
theorem d10_61 : decode prog_25_method_8_code 61 = .ok (.aload_n 0, 1) := by decide +kernel
theorem d10_62 : decode prog_25_method_8_code 62 = .ok (.getfield 19, 3) := by decide +kernel
theorem d10_65 : decode prog_25_method_8_code 65 = .ok (.iload 6, 2) := by decide +kernel
theorem d10_67 : decode prog_25_method_8_code 67 = .ok (.daload, 1) := by decide +kernel
theorem d10_68 : decode prog_25_method_8_code 68 = .ok (.dconst 0, 1) := by decide +kernel
theorem d10_69 : decode prog_25_method_8_code 69 = .ok (.dcmp .l, 1) := by decide +kernel
theorem d10_70 : decode prog_25_method_8_code 70 = .ok (.ifCond .le 55, 3) := by decide +kernel
theorem d10_73 : decode prog_25_method_8_code 73 = .ok (.aload_n 0, 1) := by decide +kernel
theorem d10_74 : decode prog_25_method_8_code 74 = .ok (.getfield 23, 3) := by decide +kernel
theorem d10_77 : decode prog_25_method_8_code 77 = .ok (.aload_n 0, 1) := by decide +kernel
theorem d10_78 : decode prog_25_method_8_code 78 = .ok (.getfield 16, 3) := by decide +kernel
theorem d10_81 : decode prog_25_method_8_code 81 = .ok (.iload 6, 2) := by decide +kernel
theorem d10_83 : decode prog_25_method_8_code 83 = .ok (.iaload, 1) := by decide +kernel
theorem d10_84 : decode prog_25_method_8_code 84 = .ok (.iaload, 1) := by decide +kernel
theorem d10_85 : decode prog_25_method_8_code 85 = .ok (.ifCond .ge 40, 3) := by decide +kernel
theorem d10_88 : decode prog_25_method_8_code 88 = .ok (.aload_n 0, 1) := by decide +kernel
theorem d10_89 : decode prog_25_method_8_code 89 = .ok (.getfield 23, 3) := by decide +kernel
theorem d10_92 : decode prog_25_method_8_code 92 = .ok (.aload_n 0, 1) := by decide +kernel
theorem d10_93 : decode prog_25_method_8_code 93 = .ok (.getfield 16, 3) := by decide +kernel
theorem d10_96 : decode prog_25_method_8_code 96 = .ok (.iload 6, 2) := by decide +kernel
theorem d10_98 : decode prog_25_method_8_code 98 = .ok (.iaload, 1) := by decide +kernel
theorem d10_99 : decode prog_25_method_8_code 99 = .ok (.aload_n 0, 1) := by decide +kernel
theorem d10_100 : decode prog_25_method_8_code 100 = .ok (.getfield 23, 3) := by decide +kernel
theorem d10_103 : decode prog_25_method_8_code 103 = .ok (.iload 5, 2) := by decide +kernel
theorem d10_105 : decode prog_25_method_8_code 105 = .ok (.iaload, 1) := by decide +kernel
theorem d10_106 : decode prog_25_method_8_code 106 = .ok (.iconst 1, 1) := by decide +kernel
theorem d10_107 : decode prog_25_method_8_code 107 = .ok (.iadd, 1) := by decide +kernel
theorem d10_108 : decode prog_25_method_8_code 108 = .ok (.iastore, 1) := by decide +kernel
theorem d10_109 : decode prog_25_method_8_code 109 = .ok (.aload_n 0, 1) := by decide +kernel
theorem d10_110 : decode prog_25_method_8_code 110 = .ok (.getfield 29, 3) := by decide +kernel
theorem d10_113 : decode prog_25_method_8_code 113 = .ok (.iload_n 3, 1) := by decide +kernel
theorem d10_114 : decode prog_25_method_8_code 114 = .ok (.iinc 3 1, 3) := by decide +kernel
theorem d10_117 : decode prog_25_method_8_code 117 = .ok (.aload_n 0, 1) := by decide +kernel
theorem d10_118 : decode prog_25_method_8_code 118 = .ok (.getfield 16, 3) := by decide +kernel
theorem d10_121 : decode prog_25_method_8_code 121 = .ok (.iload 6, 2) := by decide +kernel
theorem d10_123 : decode prog_25_method_8_code 123 = .ok (.iaload, 1) := by decide +kernel
theorem d10_124 : decode prog_25_method_8_code 124 = .ok (.iastore, 1) := by decide +kernel
theorem d10_125 : decode prog_25_method_8_code 125 = .ok (.aload_n 0, 1) := by decide +kernel
theorem d10_126 : decode prog_25_method_8_code 126 = .ok (.getfield 13, 3) := by decide +kernel
theorem d10_129 : decode prog_25_method_8_code 129 = .ok (.iload 6, 2) := by decide +kernel
theorem d10_131 : decode prog_25_method_8_code 131 = .ok (.iaload, 1) := by decide +kernel
theorem d10_132 : decode prog_25_method_8_code 132 = .ok (.istore 6, 2) := by decide +kernel
theorem d10_134 : decode prog_25_method_8_code 134 = .ok (.goto (-78), 3) := by decide +kernel
theorem d10_137 : decode prog_25_method_8_code 137 = .ok (.iinc 4 1, 3) := by decide +kernel
theorem d10_140 : decode prog_25_method_8_code 140 = .ok (.goto (-108), 3) := by decide +kernel
theorem d10_143 : decode prog_25_method_8_code 143 = .ok (.aload_n 0, 1) := by decide +kernel
theorem d10_144 : decode prog_25_method_8_code 144 = .ok (.getfield 23, 3) := by decide +kernel
theorem d10_147 : decode prog_25_method_8_code 147 = .ok (.iload_n 2, 1) := by decide +kernel
theorem d10_148 : decode prog_25_method_8_code 148 = .ok (.iaload, 1) := by decide +kernel
theorem d10_149 : decode prog_25_method_8_code 149 = .ok (.ifCond .lt 7, 3) := by decide +kernel
theorem d10_152 : decode prog_25_method_8_code 152 = .ok (.iconst 1, 1) := by decide +kernel
theorem d10_153 : decode prog_25_method_8_code 153 = .ok (.goto 4, 3) := by decide +kernel
theorem d10_156 : decode prog_25_method_8_code 156 = .ok (.iconst 0, 1) := by decide +kernel
theorem d10_157 : decode prog_25_method_8_code 157 = .ok (.ireturn, 1) := by decide +kernel
theorem pn_2 : plainName "com/example/nearbound/nearbound/graph/MinCut" = true := by first | (simp [plainName, overriddenIn]; done) | decide +kernel
theorem ef_rmLev (m : MethodId) (x0 : Addr) (x1 : Int32) (x2 : Int32) : entryFrame m #[(.ref x0), (.int x1), (.int x2)] 7 = mkF m 0 #[.val (.ref x0), .val (.int x1), .val (.int x2), .unset, .unset, .unset, .unset] [] := by first | (simp [entryFrame, mkF, argsToLocals, Value.category]; done) | rfl
def Q_rmLev (Z : State) (aG aF aN aH aR aL aA aQ aP : Addr) (kF kN kH kR kL kA kQ kP : ClassId) (E : Nat) (tl fst nxt hd rm lev arc que pth : Int → Int) (ec : Int32) (s0 t0 : Int) (h0 : Heap) (n0 : Nat) (v : Option Value) (h : Heap) (L : List Loc) : Prop := ∃ (r : Int32) (lev' que' : Int → Int), v = some (.int r) ∧ Fr n0 L ∧ Keep h0 h [aG, aF, aN, aH, aR, aL, aA, aQ, aP] ∧ own_S Z h aG aF aN aH aR aL aA aQ aP kF kN kH kR kL kA kQ kP (4 : Int32) ec fst nxt hd rm lev' arc que' pth ∧ own_LV E tl hd rm s0 lev' ∧ ((r = 0 ∧ lev' t0 < 0) ∨ (r = 1 ∧ 0 ≤ lev' t0))
set_option maxRecDepth 65536 in
set_option maxHeartbeats 40000000 in
theorem rmLev (l : Launch) (Z : State) (a0 : Array Value) (hw : ∀ d ∈ tables_1, d.before a0 Z = true) (ws : List Jvm.Cond) (aG : Addr) (aF aN aH aR aL aA aQ aP : Addr) (kF kN kH kR kL kA kQ kP : ClassId) (E : Nat) (tl fst nxt hd rm lev arc que pth : Int → Int) (ec : Int32) (s0 t0 : Int) (h0 : Heap) (n0 : Nat) (Z0 : n0 ≤ h0.size) (hNE : own_NE n0 aG aF aN aH aR aL aA aQ aP) (hS : own_S Z h0 aG aF aN aH aR aL aA aQ aP kF kN kH kR kL kA kQ kP (4 : Int32) ec fst nxt hd rm lev arc que pth) (hG : own_G E tl hd fst nxt) (hR : own_R E rm) (hs : 0 ≤ s0 ∧ s0 < 4) (ht : 0 ≤ t0 ∧ t0 < 4) :
    MetFree l (⟨"com/example/nearbound/nearbound/graph/MinCut", "levels", "(II)Z"⟩ : MethodName) (head1 (Jvm.Cond.code (⟨"com/example/nearbound/nearbound/graph/MinCut", "levels", "(II)Z"⟩ : MethodName) prog_25_method_8_code 7 (some .boolean) :: ws) ({ frames := 2, cells := 0, slots := 0, locals := 30 } : Room)) (fun a U => a = #[(.ref aG), (.int (own_I s0)), (.int (own_I t0))] ∧ Z.Warmed39 U.vm ∧ U.heap = h0) (fun _ _ _ _ _ => True) (fun _ U o U' => ∃ v L, o = .returned v ∧ Q_rmLev Z aG aF aN aH aR aL aA aQ aP kF kN kH kR kL kA kQ kP E tl fst nxt hd rm lev arc que pth ec s0 t0 h0 n0 v U'.heap L ∧ FrameEnd U o U' L ({ frames := 2, cells := 0, slots := 0, locals := 30 } : Room).cells ({ frames := 2, cells := 0, slots := 0, locals := 30 } : Room).slots) := by
  refine MetFree.of_bodySF (plainFor_of_name pn_2) hisR ?_
  intro p e s m args below meth c s₁ Bd hml0 hP hK
  obtain ⟨rfl, hZ, hh⟩ := hP
  have hx := Bd.exec
  have hby := Bd.bytes
  have hml : c.maxLocals = 7 := hml0
  have hown : s.vm.findClass "com/example/nearbound/nearbound/graph/MinCut" = some m.cls := findClass_of_methodNamed Bd.named
  have hnm := (name_of_methodNamed Bd.named Bd.method).1
  have X0 : Stand p l e ({ frames := 2, cells := 0, slots := 0, locals := 30 } : Room) s m #[(.ref aG), (.int (own_I s0)), (.int (own_I t0))] below meth c s₁ [] 0 0 := Stand.of_body Bd
  have e0 : s₁.heap = h0 := by rw [← hh, Bd.state]; rfl
  have N0 := Fr.nil n0
  let PO : Outcome → State → Prop := own_PO s (Q_rmLev Z aG aF aN aH aR aL aA aQ aP kF kN kH kR kL kA kQ kP E tl fst nxt hd rm lev arc que pth ec s0 t0 h0 n0) 0 0
  show own_Go p e below PO (s₁.setTop (entryFrame m #[(.ref aG), (.int (own_I s0)), (.int (own_I t0))] 7))
  rw [ef_rmLev]
  obtain ⟨gn_aG, gn_aF, gn_aN, gn_aH, gn_aR, gn_aL, gn_aA, gn_aQ, gn_aP⟩ := hNE.1
  have hS' := hS
  obtain ⟨E_G, F_nodeCount, F_edgeCount, F_first, F_next, F_head, F_room, F_level, F_arc, F_queue, F_path, V_F, V_N, V_H, V_R, V_L, V_A, V_Q, V_P⟩ := hS'
  have K0 : Keep h0 h0 [aG, aF, aN, aH, aR, aL, aA, aQ, aP] := Keep.refl h0 _
  have hE12 : E ≤ 12 := hG.2.2.1
  show own_Go p e below PO (s₁.setTop (mkF m 0 #[.val (.ref aG), .val (.int (own_I s0)), .val (.int (own_I t0)), .unset, .unset, .unset, .unset] []))
  refine own_back ?_ (fun t k => XS.aloadN X0.here hx rfl (hb hby d10_0) rfl rfl k)
  show own_Go p e below PO (s₁.setTop (mkF m 1 #[.val (.ref aG), .val (.int (own_I s0)), .val (.int (own_I t0)), .unset, .unset, .unset, .unset] [(.ref aG)]))
  obtain ⟨T1, X1, e1, st1⟩ := getF X0 hx hZ hown (host := "") (Or.inl (hw _ (List.mem_of_getElem? (i := 23) rfl))) Via.refl e0 F_level (g := (mkF m 1 #[.val (.ref aG), .val (.int (own_I s0)), .val (.int (own_I t0)), .unset, .unset, .unset, .unset] [(.ref aG)])) rfl rfl (hb hby d10_1)
  refine own_back ?_ st1
  show own_Go p e below PO (T1.setTop (mkF m 4 #[.val (.ref aG), .val (.int (own_I s0)), .val (.int (own_I t0)), .unset, .unset, .unset, .unset] [(.ref aL)]))
  refine own_back ?_ (fun t k => XS.iconst X1.here hx rfl (hb hby d10_4) k)
  show own_Go p e below PO (T1.setTop (mkF m 5 #[.val (.ref aG), .val (.int (own_I s0)), .val (.int (own_I t0)), .unset, .unset, .unset, .unset] [(.int (0 : Int32)), (.ref aL)]))
  refine own_back ?_ (fun t k => XS.aloadN X1.here hx rfl (hb hby d10_5) rfl rfl k)
  show own_Go p e below PO (T1.setTop (mkF m 6 #[.val (.ref aG), .val (.int (own_I s0)), .val (.int (own_I t0)), .unset, .unset, .unset, .unset] [(.ref aG), (.int (0 : Int32)), (.ref aL)]))
  obtain ⟨T2, X2, e2, st2⟩ := getF X1 hx hZ hown (host := "") (Or.inl (hw _ (List.mem_of_getElem? (i := 36) rfl))) Via.refl e1 F_nodeCount (g := (mkF m 6 #[.val (.ref aG), .val (.int (own_I s0)), .val (.int (own_I t0)), .unset, .unset, .unset, .unset] [(.ref aG), (.int (0 : Int32)), (.ref aL)])) rfl rfl (hb hby d10_6)
  refine own_back ?_ st2
  show own_Go p e below PO (T2.setTop (mkF m 9 #[.val (.ref aG), .val (.int (own_I s0)), .val (.int (own_I t0)), .unset, .unset, .unset, .unset] [(.int (4 : Int32)), (.int (0 : Int32)), (.ref aL)]))
  refine own_back ?_ (fun t k => XS.iconst X2.here hx rfl (hb hby d10_9) k)
  show own_Go p e below PO (T2.setTop (mkF m 10 #[.val (.ref aG), .val (.int (own_I s0)), .val (.int (own_I t0)), .unset, .unset, .unset, .unset] [(.int (-1 : Int32)), (.int (4 : Int32)), (.int (0 : Int32)), (.ref aL)]))
  obtain ⟨_, _, ⟨T3, L3, k3, n3⟩, -, X3, ⟨Lc3, hQ3, l3, y3, z3⟩, st3⟩ := Jvm.LawKit.callS X2 hx (y := (⟨"java/util/Arrays", "fill", "([IIII)V"⟩ : MethodName)) hown (mvT hZ (hw _ (List.mem_of_getElem? (i := 66) rfl))) (mvT hZ (hw _ (List.mem_of_getElem? (i := 67) rfl))) (mvT hZ (hw _ (List.mem_of_getElem? (i := 68) rfl))) (mvT hZ (hw _ (List.mem_of_getElem? (i := 69) rfl))) (by decide) (backOf (W := 0) (rmFill l Z a0 hw [] aL kL lev h0 n0 Z0 gn_aL V_L) hZ (hw _ (List.mem_of_getElem? (i := 69) rfl)) (hw _ (List.mem_of_getElem? (i := 68) rfl)) (by decide) (by decide)) (g := (mkF m 10 #[.val (.ref aG), .val (.int (own_I s0)), .val (.int (own_I t0)), .unset, .unset, .unset, .unset] [(.int (-1 : Int32)), (.int (4 : Int32)), (.int (0 : Int32)), (.ref aL)])) rfl (by rw [hml]; rfl) (argsL := [(.ref aL), (.int (0 : Int32)), (.int (4 : Int32)), (.int (-1 : Int32))]) (rest := []) (lenOf pd_1 rfl) rfl (by show 2 * 0 + _ ≤ _; exact Nat.le_of_eq rfl) (hb hby d10_10) (fun _ _ => ⟨rfl, e2, (by decide : 0 + 0 ≤ _), (by decide : 0 + 0 ≤ _)⟩)
  dsimp only [Pt.U, Pt.locs, Pt.cells, Pt.slots] at X3 l3 y3 z3 st3 hQ3
  subst l3 y3 z3
  obtain ⟨rfl, N3q, Kc3, lvF, VF, hlF⟩ := hQ3
  have N3 := Fr.app N0 N3q
  have f3_4 := E_G.keep Kc3
  have f3_5 := F_nodeCount.keep Kc3 (ninS (own_ne_aG_aL hNE) nin0)
  have f3_6 := F_edgeCount.keep Kc3 (ninS (own_ne_aG_aL hNE) nin0)
  have f3_7 := F_first.keep Kc3 (ninS (own_ne_aG_aL hNE) nin0)
  have f3_8 := F_next.keep Kc3 (ninS (own_ne_aG_aL hNE) nin0)
  have f3_9 := F_head.keep Kc3 (ninS (own_ne_aG_aL hNE) nin0)
  have f3_10 := F_room.keep Kc3 (ninS (own_ne_aG_aL hNE) nin0)
  have f3_11 := F_level.keep Kc3 (ninS (own_ne_aG_aL hNE) nin0)
  have f3_12 := F_arc.keep Kc3 (ninS (own_ne_aG_aL hNE) nin0)
  have f3_13 := F_queue.keep Kc3 (ninS (own_ne_aG_aL hNE) nin0)
  have f3_14 := F_path.keep Kc3 (ninS (own_ne_aG_aL hNE) nin0)
  have f3_15 := V_F.keep Kc3 (ninS (own_ne_aF_aL hNE) nin0)
  have f3_16 := V_N.keep Kc3 (ninS (own_ne_aN_aL hNE) nin0)
  have f3_17 := V_H.keep Kc3 (ninS (own_ne_aH_aL hNE) nin0)
  have f3_18 := V_R.keep Kc3 (ninS (own_ne_aR_aL hNE) nin0)
  have f3_19 := V_A.keep Kc3 (ninS (Ne.symm (own_ne_aL_aA hNE)) nin0)
  have f3_20 := V_Q.keep Kc3 (ninS (Ne.symm (own_ne_aL_aQ hNE)) nin0)
  have f3_21 := V_P.keep Kc3 (ninS (Ne.symm (own_ne_aL_aP hNE)) nin0)
  have K3 : Keep h0 T3.heap [aG, aF, aN, aH, aR, aL, aA, aQ, aP] := (K0).trans Kc3 (allS (Or.inl (by simp)) all0)
  have Zh3 : n0 ≤ T3.heap.size := Nat.le_trans Z0 K3.1
  refine own_back ?_ st3
  show own_Go p e below PO (T3.setTop (mkF m 13 #[.val (.ref aG), .val (.int (own_I s0)), .val (.int (own_I t0)), .unset, .unset, .unset, .unset] []))
  refine own_back ?_ (fun t k => XS.aloadN X3.here hx rfl (hb hby d10_13) rfl rfl k)
  show own_Go p e below PO (T3.setTop (mkF m 14 #[.val (.ref aG), .val (.int (own_I s0)), .val (.int (own_I t0)), .unset, .unset, .unset, .unset] [(.ref aG)]))
  obtain ⟨T22, X22, e22, st22⟩ := getF X3 hx hZ hown (host := "") (Or.inl (hw _ (List.mem_of_getElem? (i := 23) rfl))) Via.refl rfl f3_11 (g := (mkF m 14 #[.val (.ref aG), .val (.int (own_I s0)), .val (.int (own_I t0)), .unset, .unset, .unset, .unset] [(.ref aG)])) rfl rfl (hb hby d10_14)
  refine own_back ?_ st22
  show own_Go p e below PO (T22.setTop (mkF m 17 #[.val (.ref aG), .val (.int (own_I s0)), .val (.int (own_I t0)), .unset, .unset, .unset, .unset] [(.ref aL)]))
  refine own_back ?_ (fun t k => XS.iloadN X22.here hx rfl (hb hby d10_17) rfl k)
  show own_Go p e below PO (T22.setTop (mkF m 18 #[.val (.ref aG), .val (.int (own_I s0)), .val (.int (own_I t0)), .unset, .unset, .unset, .unset] [(.int (own_I s0)), (.ref aL)]))
  refine own_back ?_ (fun t k => XS.iconst X22.here hx rfl (hb hby d10_18) k)
  show own_Go p e below PO (T22.setTop (mkF m 19 #[.val (.ref aG), .val (.int (own_I s0)), .val (.int (own_I t0)), .unset, .unset, .unset, .unset] [(.int (0 : Int32)), (.int (own_I s0)), (.ref aL)]))
  obtain ⟨T23, h23, X23, e23, W23, V23, st23⟩ := own_stI X22 hx hZ e22 VF (j := (own_I s0)) (own_inb (z := s0) (by omega)) (i := (own_I s0).toNatClampNeg) rfl (own_ixi (z := s0) _ (by omega)) (g := (mkF m 19 #[.val (.ref aG), .val (.int (own_I s0)), .val (.int (own_I t0)), .unset, .unset, .unset, .unset] [(.int (0 : Int32)), (.int (own_I s0)), (.ref aL)])) rfl rfl (hb hby d10_19)
  rw [own_set (z := s0) (x := 0) (by omega) own_i0.symm] at V23
  have f23_24 := f3_4.wr W23
  have f23_25 := f3_5.other W23 (Or.inl (own_ne_aG_aL hNE))
  have f23_26 := f3_6.other W23 (Or.inl (own_ne_aG_aL hNE))
  have f23_27 := f3_7.other W23 (Or.inl (own_ne_aG_aL hNE))
  have f23_28 := f3_8.other W23 (Or.inl (own_ne_aG_aL hNE))
  have f23_29 := f3_9.other W23 (Or.inl (own_ne_aG_aL hNE))
  have f23_30 := f3_10.other W23 (Or.inl (own_ne_aG_aL hNE))
  have f23_31 := f3_11.other W23 (Or.inl (own_ne_aG_aL hNE))
  have f23_32 := f3_12.other W23 (Or.inl (own_ne_aG_aL hNE))
  have f23_33 := f3_13.other W23 (Or.inl (own_ne_aG_aL hNE))
  have f23_34 := f3_14.other W23 (Or.inl (own_ne_aG_aL hNE))
  have f23_35 := f3_15.other W23 (own_ne_aF_aL hNE)
  have f23_36 := f3_16.other W23 (own_ne_aN_aL hNE)
  have f23_37 := f3_17.other W23 (own_ne_aH_aL hNE)
  have f23_38 := f3_18.other W23 (own_ne_aR_aL hNE)
  have f23_39 := f3_19.other W23 (Ne.symm (own_ne_aL_aA hNE))
  have f23_40 := f3_20.other W23 (Ne.symm (own_ne_aL_aQ hNE))
  have f23_41 := f3_21.other W23 (Ne.symm (own_ne_aL_aP hNE))
  have K23 : Keep h0 h23 [aG, aF, aN, aH, aR, aL, aA, aQ, aP] := (K3).wr W23 (Or.inl (by simp))
  have N23 := Fr.snoc X23 N3 gn_aL
  have Zh23 : n0 ≤ h23.size := Nat.le_trans Z0 K23.1
  refine own_back ?_ st23
  show own_Go p e below PO (T23.setTop (mkF m 20 #[.val (.ref aG), .val (.int (own_I s0)), .val (.int (own_I t0)), .unset, .unset, .unset, .unset] []))
  refine own_back ?_ (fun t k => XS.aloadN X23.here hx rfl (hb hby d10_20) rfl rfl k)
  show own_Go p e below PO (T23.setTop (mkF m 21 #[.val (.ref aG), .val (.int (own_I s0)), .val (.int (own_I t0)), .unset, .unset, .unset, .unset] [(.ref aG)]))
  obtain ⟨T42, X42, e42, st42⟩ := getF X23 hx hZ hown (host := "") (Or.inl (hw _ (List.mem_of_getElem? (i := 27) rfl))) Via.refl e23 f23_33 (g := (mkF m 21 #[.val (.ref aG), .val (.int (own_I s0)), .val (.int (own_I t0)), .unset, .unset, .unset, .unset] [(.ref aG)])) rfl rfl (hb hby d10_21)
  refine own_back ?_ st42
  show own_Go p e below PO (T42.setTop (mkF m 24 #[.val (.ref aG), .val (.int (own_I s0)), .val (.int (own_I t0)), .unset, .unset, .unset, .unset] [(.ref aQ)]))
  refine own_back ?_ (fun t k => XS.iconst X42.here hx rfl (hb hby d10_24) k)
  show own_Go p e below PO (T42.setTop (mkF m 25 #[.val (.ref aG), .val (.int (own_I s0)), .val (.int (own_I t0)), .unset, .unset, .unset, .unset] [(.int (0 : Int32)), (.ref aQ)]))
  refine own_back ?_ (fun t k => XS.iloadN X42.here hx rfl (hb hby d10_25) rfl k)
  show own_Go p e below PO (T42.setTop (mkF m 26 #[.val (.ref aG), .val (.int (own_I s0)), .val (.int (own_I t0)), .unset, .unset, .unset, .unset] [(.int (own_I s0)), (.int (0 : Int32)), (.ref aQ)]))
  obtain ⟨T43, h43, X43, e43, W43, V43, st43⟩ := own_stI X42 hx hZ e42 f23_40 (j := (0 : Int32)) ⟨by decide, by decide⟩ (i := 0) rfl (own_ixk _ (by decide)) (g := (mkF m 26 #[.val (.ref aG), .val (.int (own_I s0)), .val (.int (own_I t0)), .unset, .unset, .unset, .unset] [(.int (own_I s0)), (.int (0 : Int32)), (.ref aQ)])) rfl rfl (hb hby d10_26)
  rw [own_setk (x := s0) 0 0 (by omega) (by decide) rfl] at V43
  have f43_44 := f23_24.wr W43
  have f43_45 := f23_25.other W43 (Or.inl (own_ne_aG_aQ hNE))
  have f43_46 := f23_26.other W43 (Or.inl (own_ne_aG_aQ hNE))
  have f43_47 := f23_27.other W43 (Or.inl (own_ne_aG_aQ hNE))
  have f43_48 := f23_28.other W43 (Or.inl (own_ne_aG_aQ hNE))
  have f43_49 := f23_29.other W43 (Or.inl (own_ne_aG_aQ hNE))
  have f43_50 := f23_30.other W43 (Or.inl (own_ne_aG_aQ hNE))
  have f43_51 := f23_31.other W43 (Or.inl (own_ne_aG_aQ hNE))
  have f43_52 := f23_32.other W43 (Or.inl (own_ne_aG_aQ hNE))
  have f43_53 := f23_33.other W43 (Or.inl (own_ne_aG_aQ hNE))
  have f43_54 := f23_34.other W43 (Or.inl (own_ne_aG_aQ hNE))
  have f43_55 := f23_35.other W43 (own_ne_aF_aQ hNE)
  have f43_56 := f23_36.other W43 (own_ne_aN_aQ hNE)
  have f43_57 := f23_37.other W43 (own_ne_aH_aQ hNE)
  have f43_58 := f23_38.other W43 (own_ne_aR_aQ hNE)
  have f43_59 := V23.other W43 (own_ne_aL_aQ hNE)
  have f43_60 := f23_39.other W43 (own_ne_aA_aQ hNE)
  have f43_61 := f23_41.other W43 (Ne.symm (own_ne_aQ_aP hNE))
  have K43 : Keep h0 h43 [aG, aF, aN, aH, aR, aL, aA, aQ, aP] := (K23).wr W43 (Or.inl (by simp))
  have N43 := Fr.snoc X43 N23 gn_aQ
  have Zh43 : n0 ≤ h43.size := Nat.le_trans Z0 K43.1
  refine own_back ?_ st43
  show own_Go p e below PO (T43.setTop (mkF m 27 #[.val (.ref aG), .val (.int (own_I s0)), .val (.int (own_I t0)), .unset, .unset, .unset, .unset] []))
  refine own_back ?_ (fun t k => XS.iconst X43.here hx rfl (hb hby d10_27) k)
  show own_Go p e below PO (T43.setTop (mkF m 28 #[.val (.ref aG), .val (.int (own_I s0)), .val (.int (own_I t0)), .unset, .unset, .unset, .unset] [(.int (1 : Int32))]))
  refine own_back ?_ (fun t k => XS.istoreN X43.here hx rfl (hb hby d10_28) rfl (l' := #[.val (.ref aG), .val (.int (own_I s0)), .val (.int (own_I t0)), .val (.int (1 : Int32)), .unset, .unset, .unset]) rfl k)
  show own_Go p e below PO (T43.setTop (mkF m 29 #[.val (.ref aG), .val (.int (own_I s0)), .val (.int (own_I t0)), .val (.int (1 : Int32)), .unset, .unset, .unset] []))
  refine own_back ?_ (fun t k => XS.iconst X43.here hx rfl (hb hby d10_29) k)
  show own_Go p e below PO (T43.setTop (mkF m 30 #[.val (.ref aG), .val (.int (own_I s0)), .val (.int (own_I t0)), .val (.int (1 : Int32)), .unset, .unset, .unset] [(.int (0 : Int32))]))
  refine own_back ?_ (fun t k => XS.istore X43.here hx rfl (hb hby d10_30) rfl (l' := #[.val (.ref aG), .val (.int (own_I s0)), .val (.int (own_I t0)), .val (.int (1 : Int32)), .val (.int (0 : Int32)), .unset, .unset]) rfl k)
  show own_Go p e below PO (T43.setTop (mkF m 32 #[.val (.ref aG), .val (.int (own_I s0)), .val (.int (own_I t0)), .val (.int (1 : Int32)), .val (.int (0 : Int32)), .unset, .unset] []))
  refine own_sub (A := Int32) (x := (1 : Int32)) (y := (own_I 1)) (fun cv => own_Go p e below PO (T43.setTop (mkF m 32 #[.val (.ref aG), .val (.int (own_I s0)), .val (.int (own_I t0)), .val (.int cv), .val (.int (0 : Int32)), .unset, .unset] []))) own_i1.symm ?_
  show own_Go p e below PO (T43.setTop (mkF m 32 #[.val (.ref aG), .val (.int (own_I s0)), .val (.int (own_I t0)), .val (.int (own_I 1)), .val (.int (0 : Int32)), .unset, .unset] []))
  refine own_sub (A := Int32) (x := (0 : Int32)) (y := (own_I 0)) (fun cv => own_Go p e below PO (T43.setTop (mkF m 32 #[.val (.ref aG), .val (.int (own_I s0)), .val (.int (own_I t0)), .val (.int (own_I 1)), .val (.int cv), .unset, .unset] []))) own_i0.symm ?_
  show own_Go p e below PO (T43.setTop (mkF m 32 #[.val (.ref aG), .val (.int (own_I s0)), .val (.int (own_I t0)), .val (.int (own_I 1)), .val (.int (own_I 0)), .unset, .unset] []))
  have LO : ∀ (n : Nat) (T1 : State) (H1 : Heap) (lc1 : List Loc) (x5 x6 : Slot) (lev1 que1 : Int → Int) (q a : Int), Stand p l e ({ frames := 2, cells := 0, slots := 0, locals := 30 } : Room) s m #[(.ref aG), (.int (own_I s0)), (.int (own_I t0))] below meth c T1 lc1 0 0 → T1.heap = H1 → Fr n0 lc1 → Keep h0 H1 [aG, aF, aN, aH, aR, aL, aA, aQ, aP] → own_S Z H1 aG aF aN aH aR aL aA aQ aP kF kN kH kR kL kA kQ kP (4 : Int32) ec fst nxt hd rm lev1 arc que1 pth → own_BC E tl hd rm s0 lev1 que1 q → own_BD E tl hd rm lev1 que1 a → (0 ≤ a ∧ a ≤ 4) → own_sl x5 → own_sl x6 → (4 - a).toNat < n → own_Go p e below PO (T1.setTop (mkF m 32 #[.val (.ref aG), .val (.int (own_I s0)), .val (.int (own_I t0)), .val (.int (own_I q)), .val (.int (own_I a)), x5, x6] [])) := by
    intro n
    induction n with
    | zero =>
      intro T1 H1 lc1 x5 x6 lev1 que1 q a X1 eT1 N1 K1 hS1 hB hD ha h_x5 h_x6 hm
      exact absurd hm (Nat.not_lt_zero _)
    | succ n ih_LO =>
      intro T1 H1 lc1 x5 x6 lev1 que1 q a X1 eT1 N1 K1 hS1 hB hD ha h_x5 h_x6 hm
      have Zh1 : n0 ≤ H1.size := Nat.le_trans Z0 K1.1
      obtain ⟨E_G1, F_nodeCount1, F_edgeCount1, F_first1, F_next1, F_head1, F_room1, F_level1, F_arc1, F_queue1, F_path1, V_F1, V_N1, V_H1, V_R1, V_L1, V_A1, V_Q1, V_P1⟩ := hS1
      have cb := own_cnt_b lev1
      have hq := hB.1
      show own_Go p e below PO (T1.setTop (mkF m 32 #[.val (.ref aG), .val (.int (own_I s0)), .val (.int (own_I t0)), .val (.int (own_I q)), .val (.int (own_I a)), x5, x6] []))
      refine own_back ?_ (fun t k => XS.iload X1.here hx rfl (hb hby d10_32) rfl k)
      show own_Go p e below PO (T1.setTop (mkF m 34 #[.val (.ref aG), .val (.int (own_I s0)), .val (.int (own_I t0)), .val (.int (own_I q)), .val (.int (own_I a)), x5, x6] [(.int (own_I a))]))
      refine own_back ?_ (fun t k => XS.iloadN X1.here hx rfl (hb hby d10_34) rfl k)
      show own_Go p e below PO (T1.setTop (mkF m 35 #[.val (.ref aG), .val (.int (own_I s0)), .val (.int (own_I t0)), .val (.int (own_I q)), .val (.int (own_I a)), x5, x6] [(.int (own_I q)), (.int (own_I a))]))
      by_cases hc35_62 : (own_I a) < (own_I q)
      case pos =>
        refine own_back ?_ (fun t k => XS.icmpNo X1.here hx rfl (hb hby d10_35) rfl (tlt hc35_62).2.1 k)
        show own_Go p e below PO (T1.setTop (mkF m 38 #[.val (.ref aG), .val (.int (own_I s0)), .val (.int (own_I t0)), .val (.int (own_I q)), .val (.int (own_I a)), x5, x6] []))
        have aq : a < q := (own_lt (by omega) (by omega)).mp hc35_62
        have ub0 := (hB.2.2.1 a ha.1 aq).1
        obtain ⟨u, hu⟩ : ∃ u, u = que1 a := ⟨_, rfl⟩
        rw [← hu] at ub0
        refine own_back ?_ (fun t k => XS.aloadN X1.here hx rfl (hb hby d10_38) rfl rfl k)
        show own_Go p e below PO (T1.setTop (mkF m 39 #[.val (.ref aG), .val (.int (own_I s0)), .val (.int (own_I t0)), .val (.int (own_I q)), .val (.int (own_I a)), x5, x6] [(.ref aG)]))
        obtain ⟨T63, X63, e63, st63⟩ := getF X1 hx hZ hown (host := "") (Or.inl (hw _ (List.mem_of_getElem? (i := 27) rfl))) Via.refl eT1 F_queue1 (g := (mkF m 39 #[.val (.ref aG), .val (.int (own_I s0)), .val (.int (own_I t0)), .val (.int (own_I q)), .val (.int (own_I a)), x5, x6] [(.ref aG)])) rfl rfl (hb hby d10_39)
        refine own_back ?_ st63
        show own_Go p e below PO (T63.setTop (mkF m 42 #[.val (.ref aG), .val (.int (own_I s0)), .val (.int (own_I t0)), .val (.int (own_I q)), .val (.int (own_I a)), x5, x6] [(.ref aQ)]))
        refine own_back ?_ (fun t k => XS.iload X63.here hx rfl (hb hby d10_42) rfl k)
        show own_Go p e below PO (T63.setTop (mkF m 44 #[.val (.ref aG), .val (.int (own_I s0)), .val (.int (own_I t0)), .val (.int (own_I q)), .val (.int (own_I a)), x5, x6] [(.int (own_I a)), (.ref aQ)]))
        refine own_back ?_ (own_ldI X63 hx hZ e63 V_Q1 (j := (own_I a)) (v := (.int (own_I (que1 a)))) (own_inb (z := a) (by omega)) (own_get (by omega)) (g := (mkF m 44 #[.val (.ref aG), .val (.int (own_I s0)), .val (.int (own_I t0)), .val (.int (own_I q)), .val (.int (own_I a)), x5, x6] [(.int (own_I a)), (.ref aQ)])) rfl rfl (hb hby d10_44))
        show own_Go p e below PO (T63.setTop (mkF m 45 #[.val (.ref aG), .val (.int (own_I s0)), .val (.int (own_I t0)), .val (.int (own_I q)), .val (.int (own_I a)), x5, x6] [(.int (own_I (que1 a)))]))
        refine own_back ?_ (fun t k => XS.istore X63.here hx rfl (hb hby d10_45) rfl (l' := #[.val (.ref aG), .val (.int (own_I s0)), .val (.int (own_I t0)), .val (.int (own_I q)), .val (.int (own_I a)), .val (.int (own_I (que1 a))), x6]) (by rcases h_x5 with rfl | ⟨w5, rfl⟩ <;> rfl) k)
        show own_Go p e below PO (T63.setTop (mkF m 47 #[.val (.ref aG), .val (.int (own_I s0)), .val (.int (own_I t0)), .val (.int (own_I q)), .val (.int (own_I a)), .val (.int (own_I (que1 a))), x6] []))
        refine own_sub (A := Int32) (x := (own_I (que1 a))) (y := (own_I u)) (fun cv => own_Go p e below PO (T63.setTop (mkF m 47 #[.val (.ref aG), .val (.int (own_I s0)), .val (.int (own_I t0)), .val (.int (own_I q)), .val (.int (own_I a)), .val (.int cv), x6] []))) (by rw [hu]) ?_
        show own_Go p e below PO (T63.setTop (mkF m 47 #[.val (.ref aG), .val (.int (own_I s0)), .val (.int (own_I t0)), .val (.int (own_I q)), .val (.int (own_I a)), .val (.int (own_I u)), x6] []))
        refine own_back ?_ (fun t k => XS.aloadN X63.here hx rfl (hb hby d10_47) rfl rfl k)
        show own_Go p e below PO (T63.setTop (mkF m 48 #[.val (.ref aG), .val (.int (own_I s0)), .val (.int (own_I t0)), .val (.int (own_I q)), .val (.int (own_I a)), .val (.int (own_I u)), x6] [(.ref aG)]))
        obtain ⟨T64, X64, e64, st64⟩ := getF X63 hx hZ hown (host := "") (Or.inl (hw _ (List.mem_of_getElem? (i := 14) rfl))) Via.refl e63 F_first1 (g := (mkF m 48 #[.val (.ref aG), .val (.int (own_I s0)), .val (.int (own_I t0)), .val (.int (own_I q)), .val (.int (own_I a)), .val (.int (own_I u)), x6] [(.ref aG)])) rfl rfl (hb hby d10_48)
        refine own_back ?_ st64
        show own_Go p e below PO (T64.setTop (mkF m 51 #[.val (.ref aG), .val (.int (own_I s0)), .val (.int (own_I t0)), .val (.int (own_I q)), .val (.int (own_I a)), .val (.int (own_I u)), x6] [(.ref aF)]))
        refine own_back ?_ (fun t k => XS.iload X64.here hx rfl (hb hby d10_51) rfl k)
        show own_Go p e below PO (T64.setTop (mkF m 53 #[.val (.ref aG), .val (.int (own_I s0)), .val (.int (own_I t0)), .val (.int (own_I q)), .val (.int (own_I a)), .val (.int (own_I u)), x6] [(.int (own_I u)), (.ref aF)]))
        refine own_back ?_ (own_ldI X64 hx hZ e64 V_F1 (j := (own_I u)) (v := (.int (own_I (fst u)))) (own_inb (z := u) (by omega)) (own_get (by omega)) (g := (mkF m 53 #[.val (.ref aG), .val (.int (own_I s0)), .val (.int (own_I t0)), .val (.int (own_I q)), .val (.int (own_I a)), .val (.int (own_I u)), x6] [(.int (own_I u)), (.ref aF)])) rfl rfl (hb hby d10_53))
        show own_Go p e below PO (T64.setTop (mkF m 54 #[.val (.ref aG), .val (.int (own_I s0)), .val (.int (own_I t0)), .val (.int (own_I q)), .val (.int (own_I a)), .val (.int (own_I u)), x6] [(.int (own_I (fst u)))]))
        refine own_back ?_ (fun t k => XS.istore X64.here hx rfl (hb hby d10_54) rfl (l' := #[.val (.ref aG), .val (.int (own_I s0)), .val (.int (own_I t0)), .val (.int (own_I q)), .val (.int (own_I a)), .val (.int (own_I u)), .val (.int (own_I (fst u)))]) (by rcases h_x6 with rfl | ⟨w6, rfl⟩ <;> rfl) k)
        show own_Go p e below PO (T64.setTop (mkF m 56 #[.val (.ref aG), .val (.int (own_I s0)), .val (.int (own_I t0)), .val (.int (own_I q)), .val (.int (own_I a)), .val (.int (own_I u)), .val (.int (own_I (fst u)))] []))
        have LI : ∀ (k : Nat) (T2 : State) (H2 : Heap) (lc2 : List Loc) (lev2 que2 : Int → Int) (q2 z : Int), Stand p l e ({ frames := 2, cells := 0, slots := 0, locals := 30 } : Room) s m #[(.ref aG), (.int (own_I s0)), (.int (own_I t0))] below meth c T2 lc2 0 0 → T2.heap = H2 → Fr n0 lc2 → Keep h0 H2 [aG, aF, aN, aH, aR, aL, aA, aQ, aP] → own_S Z H2 aG aF aN aH aR aL aA aQ aP kF kN kH kR kL kA kQ kP (4 : Int32) ec fst nxt hd rm lev2 arc que2 pth → own_BI E tl hd rm s0 lev2 que2 q2 a z → que2 a = u → (z + 1).toNat < k → own_Go p e below PO (T2.setTop (mkF m 56 #[.val (.ref aG), .val (.int (own_I s0)), .val (.int (own_I t0)), .val (.int (own_I q2)), .val (.int (own_I a)), .val (.int (own_I u)), .val (.int (own_I z))] [])) := by
          intro k
          induction k with
          | zero =>
            intro T2 H2 lc2 lev2 que2 q2 z X2 eT2 N2 K2 hS2 hI hu2 hm2
            exact absurd hm2 (Nat.not_lt_zero _)
          | succ k ih_LI =>
            intro T2 H2 lc2 lev2 que2 q2 z X2 eT2 N2 K2 hS2 hI hu2 hm2
            have Zh2 : n0 ≤ H2.size := Nat.le_trans Z0 K2.1
            obtain ⟨E_G2, F_nodeCount2, F_edgeCount2, F_first2, F_next2, F_head2, F_room2, F_level2, F_arc2, F_queue2, F_path2, V_F2, V_N2, V_H2, V_R2, V_L2, V_A2, V_Q2, V_P2⟩ := hS2
            have hI' := hI
            obtain ⟨i1, i2, i3, i4, i5, i6, i7⟩ := hI'
            have cb2 := own_cnt_b lev2
            have hq2 := i1.1
            have ub := i1.2.2.1 a i4.1 i4.2
            rw [hu2] at ub
            show own_Go p e below PO (T2.setTop (mkF m 56 #[.val (.ref aG), .val (.int (own_I s0)), .val (.int (own_I t0)), .val (.int (own_I q2)), .val (.int (own_I a)), .val (.int (own_I u)), .val (.int (own_I z))] []))
            refine own_back ?_ (fun t k => XS.iload X2.here hx rfl (hb hby d10_56) rfl k)
            show own_Go p e below PO (T2.setTop (mkF m 58 #[.val (.ref aG), .val (.int (own_I s0)), .val (.int (own_I t0)), .val (.int (own_I q2)), .val (.int (own_I a)), .val (.int (own_I u)), .val (.int (own_I z))] [(.int (own_I z))]))
            by_cases hc58_65 : (own_I z) < (0 : Int32)
            case pos =>
              refine own_back ?_ (fun t k => XS.ifYes X2.here hx rfl (pc0 := 58) (pc' := 137) rfl (hb hby d10_58) rfl ((if0 _ _).trans (tlt hc58_65).1) (by decide) (by decide) k)
              show own_Go p e below PO (T2.setTop (mkF m 137 #[.val (.ref aG), .val (.int (own_I s0)), .val (.int (own_I t0)), .val (.int (own_I q2)), .val (.int (own_I a)), .val (.int (own_I u)), .val (.int (own_I z))] []))
              refine own_back ?_ (fun t k => XS.iinc X2.here hx rfl (hb hby d10_137) rfl (l' := #[.val (.ref aG), .val (.int (own_I s0)), .val (.int (own_I t0)), .val (.int (own_I q2)), .val (.int ((own_I a) + (1 : Int32))), .val (.int (own_I u)), .val (.int (own_I z))]) rfl k)
              show own_Go p e below PO (T2.setTop (mkF m 140 #[.val (.ref aG), .val (.int (own_I s0)), .val (.int (own_I t0)), .val (.int (own_I q2)), .val (.int ((own_I a) + (1 : Int32))), .val (.int (own_I u)), .val (.int (own_I z))] []))
              refine own_sub (A := Int32) (x := ((own_I a) + (1 : Int32))) (y := (own_I (a + 1))) (fun cv => own_Go p e below PO (T2.setTop (mkF m 140 #[.val (.ref aG), .val (.int (own_I s0)), .val (.int (own_I t0)), .val (.int (own_I q2)), .val (.int cv), .val (.int (own_I u)), .val (.int (own_I z))] []))) (own_add1 _) ?_
              show own_Go p e below PO (T2.setTop (mkF m 140 #[.val (.ref aG), .val (.int (own_I s0)), .val (.int (own_I t0)), .val (.int (own_I q2)), .val (.int (own_I (a + 1))), .val (.int (own_I u)), .val (.int (own_I z))] []))
              refine own_back ?_ (fun t k => XS.goto X2.here hx rfl (pc0 := 140) (pc' := 32) rfl (hb hby d10_140) (by decide) (by decide) k)
              show own_Go p e below PO (T2.setTop (mkF m 32 #[.val (.ref aG), .val (.int (own_I s0)), .val (.int (own_I t0)), .val (.int (own_I q2)), .val (.int (own_I (a + 1))), .val (.int (own_I u)), .val (.int (own_I z))] []))
              exact ih_LO _ _ _ _ _ _ _ _ _ X2 eT2 N2 K2 ⟨E_G2, F_nodeCount2, F_edgeCount2, F_first2, F_next2, F_head2, F_room2, F_level2, F_arc2, F_queue2, F_path2, V_F2, V_N2, V_H2, V_R2, V_L2, V_A2, V_Q2, V_P2⟩ hI.1 (own_BI_end hI ((own_lt0 (by omega)).mp hc58_65)) (by omega) (Or.inr ⟨_, rfl⟩) (Or.inr ⟨_, rfl⟩) (by omega)
            refine own_back ?_ (fun t k => XS.ifNo X2.here hx rfl (hb hby d10_58) rfl ((if0 _ _).trans (flt hc58_65).1) k)
            show own_Go p e below PO (T2.setTop (mkF m 61 #[.val (.ref aG), .val (.int (own_I s0)), .val (.int (own_I t0)), .val (.int (own_I q2)), .val (.int (own_I a)), .val (.int (own_I u)), .val (.int (own_I z))] []))
            have z0 : 0 ≤ z := Int.not_lt.mp (fun h => hc58_65 ((own_lt0 (by omega)).mpr h))
            have rb := own_R_b hR hG.2.1 z0 i6
            obtain ⟨gt, gb, nx⟩ := hG.1.1 z z0 i6
            have nx1 := nx.1
            have nx2 := nx.2.1
            have lb := i1.2.2.2.2.1 (hd z) gb.1 gb.2
            refine own_back ?_ (fun t k => XS.aloadN X2.here hx rfl (hb hby d10_61) rfl rfl k)
            show own_Go p e below PO (T2.setTop (mkF m 62 #[.val (.ref aG), .val (.int (own_I s0)), .val (.int (own_I t0)), .val (.int (own_I q2)), .val (.int (own_I a)), .val (.int (own_I u)), .val (.int (own_I z))] [(.ref aG)]))
            obtain ⟨T66, X66, e66, st66⟩ := getF X2 hx hZ hown (host := "") (Or.inl (hw _ (List.mem_of_getElem? (i := 21) rfl))) Via.refl eT2 F_room2 (g := (mkF m 62 #[.val (.ref aG), .val (.int (own_I s0)), .val (.int (own_I t0)), .val (.int (own_I q2)), .val (.int (own_I a)), .val (.int (own_I u)), .val (.int (own_I z))] [(.ref aG)])) rfl rfl (hb hby d10_62)
            refine own_back ?_ st66
            show own_Go p e below PO (T66.setTop (mkF m 65 #[.val (.ref aG), .val (.int (own_I s0)), .val (.int (own_I t0)), .val (.int (own_I q2)), .val (.int (own_I a)), .val (.int (own_I u)), .val (.int (own_I z))] [(.ref aR)]))
            refine own_back ?_ (fun t k => XS.iload X66.here hx rfl (hb hby d10_65) rfl k)
            show own_Go p e below PO (T66.setTop (mkF m 67 #[.val (.ref aG), .val (.int (own_I s0)), .val (.int (own_I t0)), .val (.int (own_I q2)), .val (.int (own_I a)), .val (.int (own_I u)), .val (.int (own_I z))] [(.int (own_I z)), (.ref aR)]))
            refine own_back ?_ (own_ldD X66 hx hZ e66 V_R2 (j := (own_I z)) (v := (.double (own_D (rm z)))) (own_inb (z := z) (by omega)) (own_getd (by omega)) (g := (mkF m 67 #[.val (.ref aG), .val (.int (own_I s0)), .val (.int (own_I t0)), .val (.int (own_I q2)), .val (.int (own_I a)), .val (.int (own_I u)), .val (.int (own_I z))] [(.int (own_I z)), (.ref aR)])) rfl rfl (hb hby d10_67))
            show own_Go p e below PO (T66.setTop (mkF m 68 #[.val (.ref aG), .val (.int (own_I s0)), .val (.int (own_I t0)), .val (.int (own_I q2)), .val (.int (own_I a)), .val (.int (own_I u)), .val (.int (own_I z))] [(.double (own_D (rm z)))]))
            refine own_back ?_ (fun t k => XS.dconst0 X66.here hx rfl (v := (0 : UInt64)) (hb hby d10_68) (by decide +kernel) k)
            show own_Go p e below PO (T66.setTop (mkF m 69 #[.val (.ref aG), .val (.int (own_I s0)), .val (.int (own_I t0)), .val (.int (own_I q2)), .val (.int (own_I a)), .val (.int (own_I u)), .val (.int (own_I z))] [(.double (0 : UInt64)), (.double (own_D (rm z)))]))
            refine own_back ?_ (fun t k => XS.dcmpS X66.here hx rfl (v := (own_cz (rm z))) (hb hby d10_69) rfl (own_dcmp (by omega)) k)
            show own_Go p e below PO (T66.setTop (mkF m 70 #[.val (.ref aG), .val (.int (own_I s0)), .val (.int (own_I t0)), .val (.int (own_I q2)), .val (.int (own_I a)), .val (.int (own_I u)), .val (.int (own_I z))] [(.int (own_cz (rm z)))]))
            by_cases hc70_67 : (0 : Int32) < (own_cz (rm z))
            case pos =>
              refine own_back ?_ (fun t k => XS.ifNo X66.here hx rfl (hb hby d10_70) rfl ((if0 _ _).trans (tlt hc70_67).2.2.2) k)
              show own_Go p e below PO (T66.setTop (mkF m 73 #[.val (.ref aG), .val (.int (own_I s0)), .val (.int (own_I t0)), .val (.int (own_I q2)), .val (.int (own_I a)), .val (.int (own_I u)), .val (.int (own_I z))] []))
              refine own_back ?_ (fun t k => XS.aloadN X66.here hx rfl (hb hby d10_73) rfl rfl k)
              show own_Go p e below PO (T66.setTop (mkF m 74 #[.val (.ref aG), .val (.int (own_I s0)), .val (.int (own_I t0)), .val (.int (own_I q2)), .val (.int (own_I a)), .val (.int (own_I u)), .val (.int (own_I z))] [(.ref aG)]))
              obtain ⟨T68, X68, e68, st68⟩ := getF X66 hx hZ hown (host := "") (Or.inl (hw _ (List.mem_of_getElem? (i := 23) rfl))) Via.refl e66 F_level2 (g := (mkF m 74 #[.val (.ref aG), .val (.int (own_I s0)), .val (.int (own_I t0)), .val (.int (own_I q2)), .val (.int (own_I a)), .val (.int (own_I u)), .val (.int (own_I z))] [(.ref aG)])) rfl rfl (hb hby d10_74)
              refine own_back ?_ st68
              show own_Go p e below PO (T68.setTop (mkF m 77 #[.val (.ref aG), .val (.int (own_I s0)), .val (.int (own_I t0)), .val (.int (own_I q2)), .val (.int (own_I a)), .val (.int (own_I u)), .val (.int (own_I z))] [(.ref aL)]))
              refine own_back ?_ (fun t k => XS.aloadN X68.here hx rfl (hb hby d10_77) rfl rfl k)
              show own_Go p e below PO (T68.setTop (mkF m 78 #[.val (.ref aG), .val (.int (own_I s0)), .val (.int (own_I t0)), .val (.int (own_I q2)), .val (.int (own_I a)), .val (.int (own_I u)), .val (.int (own_I z))] [(.ref aG), (.ref aL)]))
              obtain ⟨T69, X69, e69, st69⟩ := getF X68 hx hZ hown (host := "") (Or.inl (hw _ (List.mem_of_getElem? (i := 18) rfl))) Via.refl e68 F_head2 (g := (mkF m 78 #[.val (.ref aG), .val (.int (own_I s0)), .val (.int (own_I t0)), .val (.int (own_I q2)), .val (.int (own_I a)), .val (.int (own_I u)), .val (.int (own_I z))] [(.ref aG), (.ref aL)])) rfl rfl (hb hby d10_78)
              refine own_back ?_ st69
              show own_Go p e below PO (T69.setTop (mkF m 81 #[.val (.ref aG), .val (.int (own_I s0)), .val (.int (own_I t0)), .val (.int (own_I q2)), .val (.int (own_I a)), .val (.int (own_I u)), .val (.int (own_I z))] [(.ref aH), (.ref aL)]))
              refine own_back ?_ (fun t k => XS.iload X69.here hx rfl (hb hby d10_81) rfl k)
              show own_Go p e below PO (T69.setTop (mkF m 83 #[.val (.ref aG), .val (.int (own_I s0)), .val (.int (own_I t0)), .val (.int (own_I q2)), .val (.int (own_I a)), .val (.int (own_I u)), .val (.int (own_I z))] [(.int (own_I z)), (.ref aH), (.ref aL)]))
              refine own_back ?_ (own_ldI X69 hx hZ e69 V_H2 (j := (own_I z)) (v := (.int (own_I (hd z)))) (own_inb (z := z) (by omega)) (own_get (by omega)) (g := (mkF m 83 #[.val (.ref aG), .val (.int (own_I s0)), .val (.int (own_I t0)), .val (.int (own_I q2)), .val (.int (own_I a)), .val (.int (own_I u)), .val (.int (own_I z))] [(.int (own_I z)), (.ref aH), (.ref aL)])) rfl rfl (hb hby d10_83))
              show own_Go p e below PO (T69.setTop (mkF m 84 #[.val (.ref aG), .val (.int (own_I s0)), .val (.int (own_I t0)), .val (.int (own_I q2)), .val (.int (own_I a)), .val (.int (own_I u)), .val (.int (own_I z))] [(.int (own_I (hd z))), (.ref aL)]))
              refine own_back ?_ (own_ldI X69 hx hZ e69 V_L2 (j := (own_I (hd z))) (v := (.int (own_I (lev2 (hd z))))) (own_inb (z := (hd z)) (by omega)) (own_get (by omega)) (g := (mkF m 84 #[.val (.ref aG), .val (.int (own_I s0)), .val (.int (own_I t0)), .val (.int (own_I q2)), .val (.int (own_I a)), .val (.int (own_I u)), .val (.int (own_I z))] [(.int (own_I (hd z))), (.ref aL)])) rfl rfl (hb hby d10_84))
              show own_Go p e below PO (T69.setTop (mkF m 85 #[.val (.ref aG), .val (.int (own_I s0)), .val (.int (own_I t0)), .val (.int (own_I q2)), .val (.int (own_I a)), .val (.int (own_I u)), .val (.int (own_I z))] [(.int (own_I (lev2 (hd z))))]))
              by_cases hc85_70 : (own_I (lev2 (hd z))) < (0 : Int32)
              case pos =>
                refine own_back ?_ (fun t k => XS.ifNo X69.here hx rfl (hb hby d10_85) rfl ((if0 _ _).trans (tlt hc85_70).2.1) k)
                show own_Go p e below PO (T69.setTop (mkF m 88 #[.val (.ref aG), .val (.int (own_I s0)), .val (.int (own_I t0)), .val (.int (own_I q2)), .val (.int (own_I a)), .val (.int (own_I u)), .val (.int (own_I z))] []))
                refine own_back ?_ (fun t k => XS.aloadN X69.here hx rfl (hb hby d10_88) rfl rfl k)
                show own_Go p e below PO (T69.setTop (mkF m 89 #[.val (.ref aG), .val (.int (own_I s0)), .val (.int (own_I t0)), .val (.int (own_I q2)), .val (.int (own_I a)), .val (.int (own_I u)), .val (.int (own_I z))] [(.ref aG)]))
                obtain ⟨T71, X71, e71, st71⟩ := getF X69 hx hZ hown (host := "") (Or.inl (hw _ (List.mem_of_getElem? (i := 23) rfl))) Via.refl e69 F_level2 (g := (mkF m 89 #[.val (.ref aG), .val (.int (own_I s0)), .val (.int (own_I t0)), .val (.int (own_I q2)), .val (.int (own_I a)), .val (.int (own_I u)), .val (.int (own_I z))] [(.ref aG)])) rfl rfl (hb hby d10_89)
                refine own_back ?_ st71
                show own_Go p e below PO (T71.setTop (mkF m 92 #[.val (.ref aG), .val (.int (own_I s0)), .val (.int (own_I t0)), .val (.int (own_I q2)), .val (.int (own_I a)), .val (.int (own_I u)), .val (.int (own_I z))] [(.ref aL)]))
                refine own_back ?_ (fun t k => XS.aloadN X71.here hx rfl (hb hby d10_92) rfl rfl k)
                show own_Go p e below PO (T71.setTop (mkF m 93 #[.val (.ref aG), .val (.int (own_I s0)), .val (.int (own_I t0)), .val (.int (own_I q2)), .val (.int (own_I a)), .val (.int (own_I u)), .val (.int (own_I z))] [(.ref aG), (.ref aL)]))
                obtain ⟨T72, X72, e72, st72⟩ := getF X71 hx hZ hown (host := "") (Or.inl (hw _ (List.mem_of_getElem? (i := 18) rfl))) Via.refl e71 F_head2 (g := (mkF m 93 #[.val (.ref aG), .val (.int (own_I s0)), .val (.int (own_I t0)), .val (.int (own_I q2)), .val (.int (own_I a)), .val (.int (own_I u)), .val (.int (own_I z))] [(.ref aG), (.ref aL)])) rfl rfl (hb hby d10_93)
                refine own_back ?_ st72
                show own_Go p e below PO (T72.setTop (mkF m 96 #[.val (.ref aG), .val (.int (own_I s0)), .val (.int (own_I t0)), .val (.int (own_I q2)), .val (.int (own_I a)), .val (.int (own_I u)), .val (.int (own_I z))] [(.ref aH), (.ref aL)]))
                refine own_back ?_ (fun t k => XS.iload X72.here hx rfl (hb hby d10_96) rfl k)
                show own_Go p e below PO (T72.setTop (mkF m 98 #[.val (.ref aG), .val (.int (own_I s0)), .val (.int (own_I t0)), .val (.int (own_I q2)), .val (.int (own_I a)), .val (.int (own_I u)), .val (.int (own_I z))] [(.int (own_I z)), (.ref aH), (.ref aL)]))
                refine own_back ?_ (own_ldI X72 hx hZ e72 V_H2 (j := (own_I z)) (v := (.int (own_I (hd z)))) (own_inb (z := z) (by omega)) (own_get (by omega)) (g := (mkF m 98 #[.val (.ref aG), .val (.int (own_I s0)), .val (.int (own_I t0)), .val (.int (own_I q2)), .val (.int (own_I a)), .val (.int (own_I u)), .val (.int (own_I z))] [(.int (own_I z)), (.ref aH), (.ref aL)])) rfl rfl (hb hby d10_98))
                show own_Go p e below PO (T72.setTop (mkF m 99 #[.val (.ref aG), .val (.int (own_I s0)), .val (.int (own_I t0)), .val (.int (own_I q2)), .val (.int (own_I a)), .val (.int (own_I u)), .val (.int (own_I z))] [(.int (own_I (hd z))), (.ref aL)]))
                refine own_back ?_ (fun t k => XS.aloadN X72.here hx rfl (hb hby d10_99) rfl rfl k)
                show own_Go p e below PO (T72.setTop (mkF m 100 #[.val (.ref aG), .val (.int (own_I s0)), .val (.int (own_I t0)), .val (.int (own_I q2)), .val (.int (own_I a)), .val (.int (own_I u)), .val (.int (own_I z))] [(.ref aG), (.int (own_I (hd z))), (.ref aL)]))
                obtain ⟨T73, X73, e73, st73⟩ := getF X72 hx hZ hown (host := "") (Or.inl (hw _ (List.mem_of_getElem? (i := 23) rfl))) Via.refl e72 F_level2 (g := (mkF m 100 #[.val (.ref aG), .val (.int (own_I s0)), .val (.int (own_I t0)), .val (.int (own_I q2)), .val (.int (own_I a)), .val (.int (own_I u)), .val (.int (own_I z))] [(.ref aG), (.int (own_I (hd z))), (.ref aL)])) rfl rfl (hb hby d10_100)
                refine own_back ?_ st73
                show own_Go p e below PO (T73.setTop (mkF m 103 #[.val (.ref aG), .val (.int (own_I s0)), .val (.int (own_I t0)), .val (.int (own_I q2)), .val (.int (own_I a)), .val (.int (own_I u)), .val (.int (own_I z))] [(.ref aL), (.int (own_I (hd z))), (.ref aL)]))
                refine own_back ?_ (fun t k => XS.iload X73.here hx rfl (hb hby d10_103) rfl k)
                show own_Go p e below PO (T73.setTop (mkF m 105 #[.val (.ref aG), .val (.int (own_I s0)), .val (.int (own_I t0)), .val (.int (own_I q2)), .val (.int (own_I a)), .val (.int (own_I u)), .val (.int (own_I z))] [(.int (own_I u)), (.ref aL), (.int (own_I (hd z))), (.ref aL)]))
                refine own_back ?_ (own_ldI X73 hx hZ e73 V_L2 (j := (own_I u)) (v := (.int (own_I (lev2 u)))) (own_inb (z := u) (by omega)) (own_get (by omega)) (g := (mkF m 105 #[.val (.ref aG), .val (.int (own_I s0)), .val (.int (own_I t0)), .val (.int (own_I q2)), .val (.int (own_I a)), .val (.int (own_I u)), .val (.int (own_I z))] [(.int (own_I u)), (.ref aL), (.int (own_I (hd z))), (.ref aL)])) rfl rfl (hb hby d10_105))
                show own_Go p e below PO (T73.setTop (mkF m 106 #[.val (.ref aG), .val (.int (own_I s0)), .val (.int (own_I t0)), .val (.int (own_I q2)), .val (.int (own_I a)), .val (.int (own_I u)), .val (.int (own_I z))] [(.int (own_I (lev2 u))), (.int (own_I (hd z))), (.ref aL)]))
                refine own_back ?_ (fun t k => XS.iconst X73.here hx rfl (hb hby d10_106) k)
                show own_Go p e below PO (T73.setTop (mkF m 107 #[.val (.ref aG), .val (.int (own_I s0)), .val (.int (own_I t0)), .val (.int (own_I q2)), .val (.int (own_I a)), .val (.int (own_I u)), .val (.int (own_I z))] [(.int (1 : Int32)), (.int (own_I (lev2 u))), (.int (own_I (hd z))), (.ref aL)]))
                refine own_back ?_ (fun t k => XS.iadd X73.here hx rfl (hb hby d10_107) rfl k)
                show own_Go p e below PO (T73.setTop (mkF m 108 #[.val (.ref aG), .val (.int (own_I s0)), .val (.int (own_I t0)), .val (.int (own_I q2)), .val (.int (own_I a)), .val (.int (own_I u)), .val (.int (own_I z))] [(.int ((own_I (lev2 u)) + (1 : Int32))), (.int (own_I (hd z))), (.ref aL)]))
                refine own_sub (A := Int32) (x := ((own_I (lev2 u)) + (1 : Int32))) (y := (own_I ((lev2 u) + 1))) (fun cv => own_Go p e below PO (T73.setTop (mkF m 108 #[.val (.ref aG), .val (.int (own_I s0)), .val (.int (own_I t0)), .val (.int (own_I q2)), .val (.int (own_I a)), .val (.int (own_I u)), .val (.int (own_I z))] [(.int cv), (.int (own_I (hd z))), (.ref aL)]))) (own_add1 _) ?_
                show own_Go p e below PO (T73.setTop (mkF m 108 #[.val (.ref aG), .val (.int (own_I s0)), .val (.int (own_I t0)), .val (.int (own_I q2)), .val (.int (own_I a)), .val (.int (own_I u)), .val (.int (own_I z))] [(.int (own_I ((lev2 u) + 1))), (.int (own_I (hd z))), (.ref aL)]))
                obtain ⟨T74, h74, X74, e74, W74, V74, st74⟩ := own_stI X73 hx hZ e73 V_L2 (j := (own_I (hd z))) (own_inb (z := (hd z)) (by omega)) (i := (own_I (hd z)).toNatClampNeg) rfl (own_ixi (z := (hd z)) _ (by omega)) (g := (mkF m 108 #[.val (.ref aG), .val (.int (own_I s0)), .val (.int (own_I t0)), .val (.int (own_I q2)), .val (.int (own_I a)), .val (.int (own_I u)), .val (.int (own_I z))] [(.int (own_I ((lev2 u) + 1))), (.int (own_I (hd z))), (.ref aL)])) rfl rfl (hb hby d10_108)
                rw [own_set (z := (hd z)) (x := ((lev2 u) + 1)) (by omega) rfl] at V74
                have f74_75 := E_G2.wr W74
                have f74_76 := F_nodeCount2.other W74 (Or.inl (own_ne_aG_aL hNE))
                have f74_77 := F_edgeCount2.other W74 (Or.inl (own_ne_aG_aL hNE))
                have f74_78 := F_first2.other W74 (Or.inl (own_ne_aG_aL hNE))
                have f74_79 := F_next2.other W74 (Or.inl (own_ne_aG_aL hNE))
                have f74_80 := F_head2.other W74 (Or.inl (own_ne_aG_aL hNE))
                have f74_81 := F_room2.other W74 (Or.inl (own_ne_aG_aL hNE))
                have f74_82 := F_level2.other W74 (Or.inl (own_ne_aG_aL hNE))
                have f74_83 := F_arc2.other W74 (Or.inl (own_ne_aG_aL hNE))
                have f74_84 := F_queue2.other W74 (Or.inl (own_ne_aG_aL hNE))
                have f74_85 := F_path2.other W74 (Or.inl (own_ne_aG_aL hNE))
                have f74_86 := V_F2.other W74 (own_ne_aF_aL hNE)
                have f74_87 := V_N2.other W74 (own_ne_aN_aL hNE)
                have f74_88 := V_H2.other W74 (own_ne_aH_aL hNE)
                have f74_89 := V_R2.other W74 (own_ne_aR_aL hNE)
                have f74_90 := V_A2.other W74 (Ne.symm (own_ne_aL_aA hNE))
                have f74_91 := V_Q2.other W74 (Ne.symm (own_ne_aL_aQ hNE))
                have f74_92 := V_P2.other W74 (Ne.symm (own_ne_aL_aP hNE))
                have K74 : Keep h0 h74 [aG, aF, aN, aH, aR, aL, aA, aQ, aP] := (K2).wr W74 (Or.inl (by simp))
                have N74 := Fr.snoc X74 N2 gn_aL
                have Zh74 : n0 ≤ h74.size := Nat.le_trans Z0 K74.1
                refine own_back ?_ st74
                show own_Go p e below PO (T74.setTop (mkF m 109 #[.val (.ref aG), .val (.int (own_I s0)), .val (.int (own_I t0)), .val (.int (own_I q2)), .val (.int (own_I a)), .val (.int (own_I u)), .val (.int (own_I z))] []))
                refine own_back ?_ (fun t k => XS.aloadN X74.here hx rfl (hb hby d10_109) rfl rfl k)
                show own_Go p e below PO (T74.setTop (mkF m 110 #[.val (.ref aG), .val (.int (own_I s0)), .val (.int (own_I t0)), .val (.int (own_I q2)), .val (.int (own_I a)), .val (.int (own_I u)), .val (.int (own_I z))] [(.ref aG)]))
                obtain ⟨T93, X93, e93, st93⟩ := getF X74 hx hZ hown (host := "") (Or.inl (hw _ (List.mem_of_getElem? (i := 27) rfl))) Via.refl e74 f74_84 (g := (mkF m 110 #[.val (.ref aG), .val (.int (own_I s0)), .val (.int (own_I t0)), .val (.int (own_I q2)), .val (.int (own_I a)), .val (.int (own_I u)), .val (.int (own_I z))] [(.ref aG)])) rfl rfl (hb hby d10_110)
                refine own_back ?_ st93
                show own_Go p e below PO (T93.setTop (mkF m 113 #[.val (.ref aG), .val (.int (own_I s0)), .val (.int (own_I t0)), .val (.int (own_I q2)), .val (.int (own_I a)), .val (.int (own_I u)), .val (.int (own_I z))] [(.ref aQ)]))
                refine own_back ?_ (fun t k => XS.iloadN X93.here hx rfl (hb hby d10_113) rfl k)
                show own_Go p e below PO (T93.setTop (mkF m 114 #[.val (.ref aG), .val (.int (own_I s0)), .val (.int (own_I t0)), .val (.int (own_I q2)), .val (.int (own_I a)), .val (.int (own_I u)), .val (.int (own_I z))] [(.int (own_I q2)), (.ref aQ)]))
                refine own_back ?_ (fun t k => XS.iinc X93.here hx rfl (hb hby d10_114) rfl (l' := #[.val (.ref aG), .val (.int (own_I s0)), .val (.int (own_I t0)), .val (.int ((own_I q2) + (1 : Int32))), .val (.int (own_I a)), .val (.int (own_I u)), .val (.int (own_I z))]) rfl k)
                show own_Go p e below PO (T93.setTop (mkF m 117 #[.val (.ref aG), .val (.int (own_I s0)), .val (.int (own_I t0)), .val (.int ((own_I q2) + (1 : Int32))), .val (.int (own_I a)), .val (.int (own_I u)), .val (.int (own_I z))] [(.int (own_I q2)), (.ref aQ)]))
                refine own_sub (A := Int32) (x := ((own_I q2) + (1 : Int32))) (y := (own_I (q2 + 1))) (fun cv => own_Go p e below PO (T93.setTop (mkF m 117 #[.val (.ref aG), .val (.int (own_I s0)), .val (.int (own_I t0)), .val (.int cv), .val (.int (own_I a)), .val (.int (own_I u)), .val (.int (own_I z))] [(.int (own_I q2)), (.ref aQ)]))) (own_add1 _) ?_
                show own_Go p e below PO (T93.setTop (mkF m 117 #[.val (.ref aG), .val (.int (own_I s0)), .val (.int (own_I t0)), .val (.int (own_I (q2 + 1))), .val (.int (own_I a)), .val (.int (own_I u)), .val (.int (own_I z))] [(.int (own_I q2)), (.ref aQ)]))
                refine own_back ?_ (fun t k => XS.aloadN X93.here hx rfl (hb hby d10_117) rfl rfl k)
                show own_Go p e below PO (T93.setTop (mkF m 118 #[.val (.ref aG), .val (.int (own_I s0)), .val (.int (own_I t0)), .val (.int (own_I (q2 + 1))), .val (.int (own_I a)), .val (.int (own_I u)), .val (.int (own_I z))] [(.ref aG), (.int (own_I q2)), (.ref aQ)]))
                obtain ⟨T94, X94, e94, st94⟩ := getF X93 hx hZ hown (host := "") (Or.inl (hw _ (List.mem_of_getElem? (i := 18) rfl))) Via.refl e93 f74_80 (g := (mkF m 118 #[.val (.ref aG), .val (.int (own_I s0)), .val (.int (own_I t0)), .val (.int (own_I (q2 + 1))), .val (.int (own_I a)), .val (.int (own_I u)), .val (.int (own_I z))] [(.ref aG), (.int (own_I q2)), (.ref aQ)])) rfl rfl (hb hby d10_118)
                refine own_back ?_ st94
                show own_Go p e below PO (T94.setTop (mkF m 121 #[.val (.ref aG), .val (.int (own_I s0)), .val (.int (own_I t0)), .val (.int (own_I (q2 + 1))), .val (.int (own_I a)), .val (.int (own_I u)), .val (.int (own_I z))] [(.ref aH), (.int (own_I q2)), (.ref aQ)]))
                refine own_back ?_ (fun t k => XS.iload X94.here hx rfl (hb hby d10_121) rfl k)
                show own_Go p e below PO (T94.setTop (mkF m 123 #[.val (.ref aG), .val (.int (own_I s0)), .val (.int (own_I t0)), .val (.int (own_I (q2 + 1))), .val (.int (own_I a)), .val (.int (own_I u)), .val (.int (own_I z))] [(.int (own_I z)), (.ref aH), (.int (own_I q2)), (.ref aQ)]))
                refine own_back ?_ (own_ldI X94 hx hZ e94 f74_88 (j := (own_I z)) (v := (.int (own_I (hd z)))) (own_inb (z := z) (by omega)) (own_get (by omega)) (g := (mkF m 123 #[.val (.ref aG), .val (.int (own_I s0)), .val (.int (own_I t0)), .val (.int (own_I (q2 + 1))), .val (.int (own_I a)), .val (.int (own_I u)), .val (.int (own_I z))] [(.int (own_I z)), (.ref aH), (.int (own_I q2)), (.ref aQ)])) rfl rfl (hb hby d10_123))
                show own_Go p e below PO (T94.setTop (mkF m 124 #[.val (.ref aG), .val (.int (own_I s0)), .val (.int (own_I t0)), .val (.int (own_I (q2 + 1))), .val (.int (own_I a)), .val (.int (own_I u)), .val (.int (own_I z))] [(.int (own_I (hd z))), (.int (own_I q2)), (.ref aQ)]))
                obtain ⟨T95, h95, X95, e95, W95, V95, st95⟩ := own_stI X94 hx hZ e94 f74_91 (j := (own_I q2)) (own_inb (z := q2) (by omega)) (i := (own_I q2).toNatClampNeg) rfl (own_ixi (z := q2) _ (by omega)) (g := (mkF m 124 #[.val (.ref aG), .val (.int (own_I s0)), .val (.int (own_I t0)), .val (.int (own_I (q2 + 1))), .val (.int (own_I a)), .val (.int (own_I u)), .val (.int (own_I z))] [(.int (own_I (hd z))), (.int (own_I q2)), (.ref aQ)])) rfl rfl (hb hby d10_124)
                rw [own_set (z := q2) (x := (hd z)) (by omega) rfl] at V95
                have f95_96 := f74_75.wr W95
                have f95_97 := f74_76.other W95 (Or.inl (own_ne_aG_aQ hNE))
                have f95_98 := f74_77.other W95 (Or.inl (own_ne_aG_aQ hNE))
                have f95_99 := f74_78.other W95 (Or.inl (own_ne_aG_aQ hNE))
                have f95_100 := f74_79.other W95 (Or.inl (own_ne_aG_aQ hNE))
                have f95_101 := f74_80.other W95 (Or.inl (own_ne_aG_aQ hNE))
                have f95_102 := f74_81.other W95 (Or.inl (own_ne_aG_aQ hNE))
                have f95_103 := f74_82.other W95 (Or.inl (own_ne_aG_aQ hNE))
                have f95_104 := f74_83.other W95 (Or.inl (own_ne_aG_aQ hNE))
                have f95_105 := f74_84.other W95 (Or.inl (own_ne_aG_aQ hNE))
                have f95_106 := f74_85.other W95 (Or.inl (own_ne_aG_aQ hNE))
                have f95_107 := f74_86.other W95 (own_ne_aF_aQ hNE)
                have f95_108 := f74_87.other W95 (own_ne_aN_aQ hNE)
                have f95_109 := f74_88.other W95 (own_ne_aH_aQ hNE)
                have f95_110 := f74_89.other W95 (own_ne_aR_aQ hNE)
                have f95_111 := V74.other W95 (own_ne_aL_aQ hNE)
                have f95_112 := f74_90.other W95 (own_ne_aA_aQ hNE)
                have f95_113 := f74_92.other W95 (Ne.symm (own_ne_aQ_aP hNE))
                have K95 : Keep h0 h95 [aG, aF, aN, aH, aR, aL, aA, aQ, aP] := (K74).wr W95 (Or.inl (by simp))
                have N95 := Fr.snoc X95 N74 gn_aQ
                have Zh95 : n0 ≤ h95.size := Nat.le_trans Z0 K95.1
                refine own_back ?_ st95
                show own_Go p e below PO (T95.setTop (mkF m 125 #[.val (.ref aG), .val (.int (own_I s0)), .val (.int (own_I t0)), .val (.int (own_I (q2 + 1))), .val (.int (own_I a)), .val (.int (own_I u)), .val (.int (own_I z))] []))
                refine own_back ?_ (fun t k => XS.aloadN X95.here hx rfl (hb hby d10_125) rfl rfl k)
                show own_Go p e below PO (T95.setTop (mkF m 126 #[.val (.ref aG), .val (.int (own_I s0)), .val (.int (own_I t0)), .val (.int (own_I (q2 + 1))), .val (.int (own_I a)), .val (.int (own_I u)), .val (.int (own_I z))] [(.ref aG)]))
                obtain ⟨T114, X114, e114, st114⟩ := getF X95 hx hZ hown (host := "") (Or.inl (hw _ (List.mem_of_getElem? (i := 16) rfl))) Via.refl e95 f95_100 (g := (mkF m 126 #[.val (.ref aG), .val (.int (own_I s0)), .val (.int (own_I t0)), .val (.int (own_I (q2 + 1))), .val (.int (own_I a)), .val (.int (own_I u)), .val (.int (own_I z))] [(.ref aG)])) rfl rfl (hb hby d10_126)
                refine own_back ?_ st114
                show own_Go p e below PO (T114.setTop (mkF m 129 #[.val (.ref aG), .val (.int (own_I s0)), .val (.int (own_I t0)), .val (.int (own_I (q2 + 1))), .val (.int (own_I a)), .val (.int (own_I u)), .val (.int (own_I z))] [(.ref aN)]))
                refine own_back ?_ (fun t k => XS.iload X114.here hx rfl (hb hby d10_129) rfl k)
                show own_Go p e below PO (T114.setTop (mkF m 131 #[.val (.ref aG), .val (.int (own_I s0)), .val (.int (own_I t0)), .val (.int (own_I (q2 + 1))), .val (.int (own_I a)), .val (.int (own_I u)), .val (.int (own_I z))] [(.int (own_I z)), (.ref aN)]))
                refine own_back ?_ (own_ldI X114 hx hZ e114 f95_108 (j := (own_I z)) (v := (.int (own_I (nxt z)))) (own_inb (z := z) (by omega)) (own_get (by omega)) (g := (mkF m 131 #[.val (.ref aG), .val (.int (own_I s0)), .val (.int (own_I t0)), .val (.int (own_I (q2 + 1))), .val (.int (own_I a)), .val (.int (own_I u)), .val (.int (own_I z))] [(.int (own_I z)), (.ref aN)])) rfl rfl (hb hby d10_131))
                show own_Go p e below PO (T114.setTop (mkF m 132 #[.val (.ref aG), .val (.int (own_I s0)), .val (.int (own_I t0)), .val (.int (own_I (q2 + 1))), .val (.int (own_I a)), .val (.int (own_I u)), .val (.int (own_I z))] [(.int (own_I (nxt z)))]))
                refine own_back ?_ (fun t k => XS.istore X114.here hx rfl (hb hby d10_132) rfl (l' := #[.val (.ref aG), .val (.int (own_I s0)), .val (.int (own_I t0)), .val (.int (own_I (q2 + 1))), .val (.int (own_I a)), .val (.int (own_I u)), .val (.int (own_I (nxt z)))]) rfl k)
                show own_Go p e below PO (T114.setTop (mkF m 134 #[.val (.ref aG), .val (.int (own_I s0)), .val (.int (own_I t0)), .val (.int (own_I (q2 + 1))), .val (.int (own_I a)), .val (.int (own_I u)), .val (.int (own_I (nxt z)))] []))
                refine own_back ?_ (fun t k => XS.goto X114.here hx rfl (pc0 := 134) (pc' := 56) rfl (hb hby d10_134) (by decide) (by decide) k)
                show own_Go p e below PO (T114.setTop (mkF m 56 #[.val (.ref aG), .val (.int (own_I s0)), .val (.int (own_I t0)), .val (.int (own_I (q2 + 1))), .val (.int (own_I a)), .val (.int (own_I u)), .val (.int (own_I (nxt z)))] []))
                have hbi := own_BI_push hs hG hI z0 (own_cz_p hc70_67) ((own_lt0 (by omega)).mp hc85_70)
                rw [hu2] at hbi
                exact ih_LI _ _ _ _ _ _ _ X114 e114 N95 K95 ⟨f95_96, f95_97, f95_98, f95_99, f95_100, f95_101, f95_102, f95_103, f95_104, f95_105, f95_106, f95_107, f95_108, f95_109, f95_110, f95_111, f95_112, V95, f95_113⟩ hbi ((own_up_o (by omega)).trans hu2) (by omega)
              refine own_back ?_ (fun t k => XS.ifYes X69.here hx rfl (pc0 := 85) (pc' := 125) rfl (hb hby d10_85) rfl ((if0 _ _).trans (flt hc85_70).2.1) (by decide) (by decide) k)
              show own_Go p e below PO (T69.setTop (mkF m 125 #[.val (.ref aG), .val (.int (own_I s0)), .val (.int (own_I t0)), .val (.int (own_I q2)), .val (.int (own_I a)), .val (.int (own_I u)), .val (.int (own_I z))] []))
              refine own_back ?_ (fun t k => XS.aloadN X69.here hx rfl (hb hby d10_125) rfl rfl k)
              show own_Go p e below PO (T69.setTop (mkF m 126 #[.val (.ref aG), .val (.int (own_I s0)), .val (.int (own_I t0)), .val (.int (own_I q2)), .val (.int (own_I a)), .val (.int (own_I u)), .val (.int (own_I z))] [(.ref aG)]))
              obtain ⟨T115, X115, e115, st115⟩ := getF X69 hx hZ hown (host := "") (Or.inl (hw _ (List.mem_of_getElem? (i := 16) rfl))) Via.refl e69 F_next2 (g := (mkF m 126 #[.val (.ref aG), .val (.int (own_I s0)), .val (.int (own_I t0)), .val (.int (own_I q2)), .val (.int (own_I a)), .val (.int (own_I u)), .val (.int (own_I z))] [(.ref aG)])) rfl rfl (hb hby d10_126)
              refine own_back ?_ st115
              show own_Go p e below PO (T115.setTop (mkF m 129 #[.val (.ref aG), .val (.int (own_I s0)), .val (.int (own_I t0)), .val (.int (own_I q2)), .val (.int (own_I a)), .val (.int (own_I u)), .val (.int (own_I z))] [(.ref aN)]))
              refine own_back ?_ (fun t k => XS.iload X115.here hx rfl (hb hby d10_129) rfl k)
              show own_Go p e below PO (T115.setTop (mkF m 131 #[.val (.ref aG), .val (.int (own_I s0)), .val (.int (own_I t0)), .val (.int (own_I q2)), .val (.int (own_I a)), .val (.int (own_I u)), .val (.int (own_I z))] [(.int (own_I z)), (.ref aN)]))
              refine own_back ?_ (own_ldI X115 hx hZ e115 V_N2 (j := (own_I z)) (v := (.int (own_I (nxt z)))) (own_inb (z := z) (by omega)) (own_get (by omega)) (g := (mkF m 131 #[.val (.ref aG), .val (.int (own_I s0)), .val (.int (own_I t0)), .val (.int (own_I q2)), .val (.int (own_I a)), .val (.int (own_I u)), .val (.int (own_I z))] [(.int (own_I z)), (.ref aN)])) rfl rfl (hb hby d10_131))
              show own_Go p e below PO (T115.setTop (mkF m 132 #[.val (.ref aG), .val (.int (own_I s0)), .val (.int (own_I t0)), .val (.int (own_I q2)), .val (.int (own_I a)), .val (.int (own_I u)), .val (.int (own_I z))] [(.int (own_I (nxt z)))]))
              refine own_back ?_ (fun t k => XS.istore X115.here hx rfl (hb hby d10_132) rfl (l' := #[.val (.ref aG), .val (.int (own_I s0)), .val (.int (own_I t0)), .val (.int (own_I q2)), .val (.int (own_I a)), .val (.int (own_I u)), .val (.int (own_I (nxt z)))]) rfl k)
              show own_Go p e below PO (T115.setTop (mkF m 134 #[.val (.ref aG), .val (.int (own_I s0)), .val (.int (own_I t0)), .val (.int (own_I q2)), .val (.int (own_I a)), .val (.int (own_I u)), .val (.int (own_I (nxt z)))] []))
              refine own_back ?_ (fun t k => XS.goto X115.here hx rfl (pc0 := 134) (pc' := 56) rfl (hb hby d10_134) (by decide) (by decide) k)
              show own_Go p e below PO (T115.setTop (mkF m 56 #[.val (.ref aG), .val (.int (own_I s0)), .val (.int (own_I t0)), .val (.int (own_I q2)), .val (.int (own_I a)), .val (.int (own_I u)), .val (.int (own_I (nxt z)))] []))
              exact ih_LI _ _ _ _ _ _ _ X115 e115 N2 K2 ⟨E_G2, F_nodeCount2, F_edgeCount2, F_first2, F_next2, F_head2, F_room2, F_level2, F_arc2, F_queue2, F_path2, V_F2, V_N2, V_H2, V_R2, V_L2, V_A2, V_Q2, V_P2⟩ (own_BI_skip hG hI z0 (fun _ => Int.not_lt.mp (fun h => hc85_70 ((own_lt0 (by omega)).mpr h)))) hu2 (by omega)
            refine own_back ?_ (fun t k => XS.ifYes X66.here hx rfl (pc0 := 70) (pc' := 125) rfl (hb hby d10_70) rfl ((if0 _ _).trans (flt hc70_67).2.2.2) (by decide) (by decide) k)
            show own_Go p e below PO (T66.setTop (mkF m 125 #[.val (.ref aG), .val (.int (own_I s0)), .val (.int (own_I t0)), .val (.int (own_I q2)), .val (.int (own_I a)), .val (.int (own_I u)), .val (.int (own_I z))] []))
            refine own_back ?_ (fun t k => XS.aloadN X66.here hx rfl (hb hby d10_125) rfl rfl k)
            show own_Go p e below PO (T66.setTop (mkF m 126 #[.val (.ref aG), .val (.int (own_I s0)), .val (.int (own_I t0)), .val (.int (own_I q2)), .val (.int (own_I a)), .val (.int (own_I u)), .val (.int (own_I z))] [(.ref aG)]))
            obtain ⟨T116, X116, e116, st116⟩ := getF X66 hx hZ hown (host := "") (Or.inl (hw _ (List.mem_of_getElem? (i := 16) rfl))) Via.refl e66 F_next2 (g := (mkF m 126 #[.val (.ref aG), .val (.int (own_I s0)), .val (.int (own_I t0)), .val (.int (own_I q2)), .val (.int (own_I a)), .val (.int (own_I u)), .val (.int (own_I z))] [(.ref aG)])) rfl rfl (hb hby d10_126)
            refine own_back ?_ st116
            show own_Go p e below PO (T116.setTop (mkF m 129 #[.val (.ref aG), .val (.int (own_I s0)), .val (.int (own_I t0)), .val (.int (own_I q2)), .val (.int (own_I a)), .val (.int (own_I u)), .val (.int (own_I z))] [(.ref aN)]))
            refine own_back ?_ (fun t k => XS.iload X116.here hx rfl (hb hby d10_129) rfl k)
            show own_Go p e below PO (T116.setTop (mkF m 131 #[.val (.ref aG), .val (.int (own_I s0)), .val (.int (own_I t0)), .val (.int (own_I q2)), .val (.int (own_I a)), .val (.int (own_I u)), .val (.int (own_I z))] [(.int (own_I z)), (.ref aN)]))
            refine own_back ?_ (own_ldI X116 hx hZ e116 V_N2 (j := (own_I z)) (v := (.int (own_I (nxt z)))) (own_inb (z := z) (by omega)) (own_get (by omega)) (g := (mkF m 131 #[.val (.ref aG), .val (.int (own_I s0)), .val (.int (own_I t0)), .val (.int (own_I q2)), .val (.int (own_I a)), .val (.int (own_I u)), .val (.int (own_I z))] [(.int (own_I z)), (.ref aN)])) rfl rfl (hb hby d10_131))
            show own_Go p e below PO (T116.setTop (mkF m 132 #[.val (.ref aG), .val (.int (own_I s0)), .val (.int (own_I t0)), .val (.int (own_I q2)), .val (.int (own_I a)), .val (.int (own_I u)), .val (.int (own_I z))] [(.int (own_I (nxt z)))]))
            refine own_back ?_ (fun t k => XS.istore X116.here hx rfl (hb hby d10_132) rfl (l' := #[.val (.ref aG), .val (.int (own_I s0)), .val (.int (own_I t0)), .val (.int (own_I q2)), .val (.int (own_I a)), .val (.int (own_I u)), .val (.int (own_I (nxt z)))]) rfl k)
            show own_Go p e below PO (T116.setTop (mkF m 134 #[.val (.ref aG), .val (.int (own_I s0)), .val (.int (own_I t0)), .val (.int (own_I q2)), .val (.int (own_I a)), .val (.int (own_I u)), .val (.int (own_I (nxt z)))] []))
            refine own_back ?_ (fun t k => XS.goto X116.here hx rfl (pc0 := 134) (pc' := 56) rfl (hb hby d10_134) (by decide) (by decide) k)
            show own_Go p e below PO (T116.setTop (mkF m 56 #[.val (.ref aG), .val (.int (own_I s0)), .val (.int (own_I t0)), .val (.int (own_I q2)), .val (.int (own_I a)), .val (.int (own_I u)), .val (.int (own_I (nxt z)))] []))
            exact ih_LI _ _ _ _ _ _ _ X116 e116 N2 K2 ⟨E_G2, F_nodeCount2, F_edgeCount2, F_first2, F_next2, F_head2, F_room2, F_level2, F_arc2, F_queue2, F_path2, V_F2, V_N2, V_H2, V_R2, V_L2, V_A2, V_Q2, V_P2⟩ (own_BI_skip hG hI z0 (fun h => absurd h (own_cz_n hc70_67))) hu2 (by omega)
        exact LI 100 _ _ _ _ _ q (fst u) X64 e64 N1 K1 ⟨E_G1, F_nodeCount1, F_edgeCount1, F_first1, F_next1, F_head1, F_room1, F_level1, F_arc1, F_queue1, F_path1, V_F1, V_N1, V_H1, V_R1, V_L1, V_A1, V_Q1, V_P1⟩ (by rw [hu]; exact own_BI_start hG hB hD ⟨ha.1, aq⟩) hu.symm (by have := (hG.1.2 u ub0.1 ub0.2).2.1; omega)
      refine own_back ?_ (fun t k => XS.icmpYes X1.here hx rfl (pc0 := 35) (pc' := 143) rfl (hb hby d10_35) rfl (flt hc35_62).2.1 (by decide) (by decide) k)
      show own_Go p e below PO (T1.setTop (mkF m 143 #[.val (.ref aG), .val (.int (own_I s0)), .val (.int (own_I t0)), .val (.int (own_I q)), .val (.int (own_I a)), x5, x6] []))
      have hLV := own_BC_LV hG hB hD (fun h => hc35_62 ((own_lt (by omega) (by omega)).mpr h))
      have lt0 := hLV.1 t0 ht.1 ht.2
      refine own_back ?_ (fun t k => XS.aloadN X1.here hx rfl (hb hby d10_143) rfl rfl k)
      show own_Go p e below PO (T1.setTop (mkF m 144 #[.val (.ref aG), .val (.int (own_I s0)), .val (.int (own_I t0)), .val (.int (own_I q)), .val (.int (own_I a)), x5, x6] [(.ref aG)]))
      obtain ⟨T117, X117, e117, st117⟩ := getF X1 hx hZ hown (host := "") (Or.inl (hw _ (List.mem_of_getElem? (i := 23) rfl))) Via.refl eT1 F_level1 (g := (mkF m 144 #[.val (.ref aG), .val (.int (own_I s0)), .val (.int (own_I t0)), .val (.int (own_I q)), .val (.int (own_I a)), x5, x6] [(.ref aG)])) rfl rfl (hb hby d10_144)
      refine own_back ?_ st117
      show own_Go p e below PO (T117.setTop (mkF m 147 #[.val (.ref aG), .val (.int (own_I s0)), .val (.int (own_I t0)), .val (.int (own_I q)), .val (.int (own_I a)), x5, x6] [(.ref aL)]))
      refine own_back ?_ (fun t k => XS.iloadN X117.here hx rfl (hb hby d10_147) rfl k)
      show own_Go p e below PO (T117.setTop (mkF m 148 #[.val (.ref aG), .val (.int (own_I s0)), .val (.int (own_I t0)), .val (.int (own_I q)), .val (.int (own_I a)), x5, x6] [(.int (own_I t0)), (.ref aL)]))
      refine own_back ?_ (own_ldI X117 hx hZ e117 V_L1 (j := (own_I t0)) (v := (.int (own_I (lev1 t0)))) (own_inb (z := t0) (by omega)) (own_get (by omega)) (g := (mkF m 148 #[.val (.ref aG), .val (.int (own_I s0)), .val (.int (own_I t0)), .val (.int (own_I q)), .val (.int (own_I a)), x5, x6] [(.int (own_I t0)), (.ref aL)])) rfl rfl (hb hby d10_148))
      show own_Go p e below PO (T117.setTop (mkF m 149 #[.val (.ref aG), .val (.int (own_I s0)), .val (.int (own_I t0)), .val (.int (own_I q)), .val (.int (own_I a)), x5, x6] [(.int (own_I (lev1 t0)))]))
      by_cases hc149_118 : (own_I (lev1 t0)) < (0 : Int32)
      case pos =>
        refine own_back ?_ (fun t k => XS.ifYes X117.here hx rfl (pc0 := 149) (pc' := 156) rfl (hb hby d10_149) rfl ((if0 _ _).trans (tlt hc149_118).1) (by decide) (by decide) k)
        show own_Go p e below PO (T117.setTop (mkF m 156 #[.val (.ref aG), .val (.int (own_I s0)), .val (.int (own_I t0)), .val (.int (own_I q)), .val (.int (own_I a)), x5, x6] []))
        refine own_back ?_ (fun t k => XS.iconst X117.here hx rfl (hb hby d10_156) k)
        show own_Go p e below PO (T117.setTop (mkF m 157 #[.val (.ref aG), .val (.int (own_I s0)), .val (.int (own_I t0)), .val (.int (own_I q)), .val (.int (own_I a)), x5, x6] [(.int (0 : Int32))]))
        refine own_retN X117 hx (t := .boolean) (rest := []) Bd.returns (by decide) (by simp) (hb hby d10_157) e117 (Bd.notSynchronized) ?_ (by decide) (by decide)
        exact ⟨_, _, _, rfl, N1, K1, ⟨E_G1, F_nodeCount1, F_edgeCount1, F_first1, F_next1, F_head1, F_room1, F_level1, F_arc1, F_queue1, F_path1, V_F1, V_N1, V_H1, V_R1, V_L1, V_A1, V_Q1, V_P1⟩, hLV, Or.inl ⟨rfl, (own_lt0 (by omega)).mp hc149_118⟩⟩
      refine own_back ?_ (fun t k => XS.ifNo X117.here hx rfl (hb hby d10_149) rfl ((if0 _ _).trans (flt hc149_118).1) k)
      show own_Go p e below PO (T117.setTop (mkF m 152 #[.val (.ref aG), .val (.int (own_I s0)), .val (.int (own_I t0)), .val (.int (own_I q)), .val (.int (own_I a)), x5, x6] []))
      refine own_back ?_ (fun t k => XS.iconst X117.here hx rfl (hb hby d10_152) k)
      show own_Go p e below PO (T117.setTop (mkF m 153 #[.val (.ref aG), .val (.int (own_I s0)), .val (.int (own_I t0)), .val (.int (own_I q)), .val (.int (own_I a)), x5, x6] [(.int (1 : Int32))]))
      refine own_back ?_ (fun t k => XS.goto X117.here hx rfl (pc0 := 153) (pc' := 157) rfl (hb hby d10_153) (by decide) (by decide) k)
      show own_Go p e below PO (T117.setTop (mkF m 157 #[.val (.ref aG), .val (.int (own_I s0)), .val (.int (own_I t0)), .val (.int (own_I q)), .val (.int (own_I a)), x5, x6] [(.int (1 : Int32))]))
      refine own_retN X117 hx (t := .boolean) (rest := []) Bd.returns (by decide) (by simp) (hb hby d10_157) e117 (Bd.notSynchronized) ?_ (by decide) (by decide)
      exact ⟨_, _, _, rfl, N1, K1, ⟨E_G1, F_nodeCount1, F_edgeCount1, F_first1, F_next1, F_head1, F_room1, F_level1, F_arc1, F_queue1, F_path1, V_F1, V_N1, V_H1, V_R1, V_L1, V_A1, V_Q1, V_P1⟩, hLV, Or.inr ⟨rfl, Int.not_lt.mp (fun z => hc149_118 ((own_lt0 (by omega)).mpr z))⟩⟩
  exact LO 5 _ _ _ _ _ _ _ 1 0 X43 e43 N43 K43 ⟨f43_44, f43_45, f43_46, f43_47, f43_48, f43_49, f43_50, f43_51, f43_52, f43_53, f43_54, f43_55, f43_56, f43_57, f43_58, f43_59, f43_60, V43, f43_61⟩ (own_BC_init hs hlF) (fun i h0 h1 => by exfalso; omega) (by omega) (Or.inl rfl) (Or.inl rfl) (by omega)
theorem pd_2 : parseMethodDescriptor "(DD)D" = some ⟨[.double, .double], some .double⟩ := by decide +kernel
theorem d15_0 : decode prog_25_method_9_code 0 = .ok (.iconst 0, 1) := by decide +kernel
theorem d15_1 : decode prog_25_method_9_code 1 = .ok (.istore_n 3, 1) := by decide +kernel
theorem d15_2 : decode prog_25_method_9_code 2 = .ok (.iload_n 1, 1) := by decide +kernel
theorem d15_3 : decode prog_25_method_9_code 3 = .ok (.istore 4, 2) := by decide +kernel
theorem d15_5 : decode prog_25_method_9_code 5 = .ok (.iload 4, 2) := by decide +kernel
theorem d15_7 : decode prog_25_method_9_code 7 = .ok (.iload_n 2, 1) := by decide +kernel
theorem d15_8 : decode prog_25_method_9_code 8 = .ok (.if_icmp .eq 157, 3) := by decide +kernel
theorem d15_11 : decode prog_25_method_9_code 11 = .ok (.aload_n 0, 1) := by decide +kernel
theorem d15_12 : decode prog_25_method_9_code 12 = .ok (.getfield 26, 3) := by decide +kernel
theorem d15_15 : decode prog_25_method_9_code 15 = .ok (.iload 4, 2) := by decide +kernel
theorem d15_17 : decode prog_25_method_9_code 17 = .ok (.iaload, 1) := by decide +kernel
theorem d15_18 : decode prog_25_method_9_code 18 = .ok (.istore 5, 2) := by decide +kernel
theorem d15_20 : decode prog_25_method_9_code 20 = .ok (.iload 5, 2) := by decide +kernel
theorem d15_22 : decode prog_25_method_9_code 22 = .ok (.ifCond .lt 51, 3) := by decide +kernel
theorem d15_25 : decode prog_25_method_9_code 25 = .ok (.aload_n 0, 1) := by decide +kernel
theorem d15_26 : decode prog_25_method_9_code 26 = .ok (.getfield 19, 3) := by decide +kernel
theorem d15_29 : decode prog_25_method_9_code 29 = .ok (.iload 5, 2) := by decide +kernel
theorem d15_31 : decode prog_25_method_9_code 31 = .ok (.daload, 1) := by decide +kernel
theorem d15_32 : decode prog_25_method_9_code 32 = .ok (.dconst 0, 1) := by decide +kernel
theorem d15_33 : decode prog_25_method_9_code 33 = .ok (.dcmp .l, 1) := by decide +kernel
theorem d15_34 : decode prog_25_method_9_code 34 = .ok (.ifCond .le 27, 3) := by decide +kernel
theorem d15_37 : decode prog_25_method_9_code 37 = .ok (.aload_n 0, 1) := by decide +kernel
theorem d15_38 : decode prog_25_method_9_code 38 = .ok (.getfield 23, 3) := by decide +kernel
theorem d15_41 : decode prog_25_method_9_code 41 = .ok (.aload_n 0, 1) := by decide +kernel
theorem d15_42 : decode prog_25_method_9_code 42 = .ok (.getfield 16, 3) := by decide +kernel
theorem d15_45 : decode prog_25_method_9_code 45 = .ok (.iload 5, 2) := by decide +kernel
theorem d15_47 : decode prog_25_method_9_code 47 = .ok (.iaload, 1) := by decide +kernel
theorem d15_48 : decode prog_25_method_9_code 48 = .ok (.iaload, 1) := by decide +kernel
theorem d15_49 : decode prog_25_method_9_code 49 = .ok (.aload_n 0, 1) := by decide +kernel
theorem d15_50 : decode prog_25_method_9_code 50 = .ok (.getfield 23, 3) := by decide +kernel
theorem d15_53 : decode prog_25_method_9_code 53 = .ok (.iload 4, 2) := by decide +kernel
theorem d15_55 : decode prog_25_method_9_code 55 = .ok (.iaload, 1) := by decide +kernel
theorem d15_56 : decode prog_25_method_9_code 56 = .ok (.iconst 1, 1) := by decide +kernel
theorem d15_57 : decode prog_25_method_9_code 57 = .ok (.iadd, 1) := by decide +kernel
theorem d15_58 : decode prog_25_method_9_code 58 = .ok (.if_icmp .eq 15, 3) := by decide +kernel
theorem d15_61 : decode prog_25_method_9_code 61 = .ok (.aload_n 0, 1) := by decide +kernel
theorem d15_62 : decode prog_25_method_9_code 62 = .ok (.getfield 13, 3) := by decide +kernel
theorem d15_65 : decode prog_25_method_9_code 65 = .ok (.iload 5, 2) := by decide +kernel
theorem d15_67 : decode prog_25_method_9_code 67 = .ok (.iaload, 1) := by decide +kernel
theorem d15_68 : decode prog_25_method_9_code 68 = .ok (.istore 5, 2) := by decide +kernel
theorem d15_70 : decode prog_25_method_9_code 70 = .ok (.goto (-50), 3) := by decide +kernel
theorem d15_73 : decode prog_25_method_9_code 73 = .ok (.aload_n 0, 1) := by decide +kernel
theorem d15_74 : decode prog_25_method_9_code 74 = .ok (.getfield 26, 3) := by decide +kernel
theorem d15_77 : decode prog_25_method_9_code 77 = .ok (.iload 4, 2) := by decide +kernel
theorem d15_79 : decode prog_25_method_9_code 79 = .ok (.iload 5, 2) := by decide +kernel
theorem d15_81 : decode prog_25_method_9_code 81 = .ok (.iastore, 1) := by decide +kernel
theorem d15_82 : decode prog_25_method_9_code 82 = .ok (.iload 5, 2) := by decide +kernel
theorem d15_84 : decode prog_25_method_9_code 84 = .ok (.ifCond .lt 26, 3) := by decide +kernel
theorem d15_87 : decode prog_25_method_9_code 87 = .ok (.aload_n 0, 1) := by decide +kernel
theorem d15_88 : decode prog_25_method_9_code 88 = .ok (.getfield 32, 3) := by decide +kernel
theorem d15_91 : decode prog_25_method_9_code 91 = .ok (.iload_n 3, 1) := by decide +kernel
theorem d15_92 : decode prog_25_method_9_code 92 = .ok (.iinc 3 1, 3) := by decide +kernel
theorem d15_95 : decode prog_25_method_9_code 95 = .ok (.iload 5, 2) := by decide +kernel
theorem d15_97 : decode prog_25_method_9_code 97 = .ok (.iastore, 1) := by decide +kernel
theorem d15_98 : decode prog_25_method_9_code 98 = .ok (.aload_n 0, 1) := by decide +kernel
theorem d15_99 : decode prog_25_method_9_code 99 = .ok (.getfield 16, 3) := by decide +kernel
theorem d15_102 : decode prog_25_method_9_code 102 = .ok (.iload 5, 2) := by decide +kernel
theorem d15_104 : decode prog_25_method_9_code 104 = .ok (.iaload, 1) := by decide +kernel
theorem d15_105 : decode prog_25_method_9_code 105 = .ok (.istore 4, 2) := by decide +kernel
theorem d15_107 : decode prog_25_method_9_code 107 = .ok (.goto (-102), 3) := by decide +kernel
theorem d15_110 : decode prog_25_method_9_code 110 = .ok (.iload 4, 2) := by decide +kernel
theorem d15_112 : decode prog_25_method_9_code 112 = .ok (.iload_n 1, 1) := by decide +kernel
theorem d15_113 : decode prog_25_method_9_code 113 = .ok (.if_icmp .ne 5, 3) := by decide +kernel
theorem d15_116 : decode prog_25_method_9_code 116 = .ok (.iconst 0, 1) := by decide +kernel
theorem d15_117 : decode prog_25_method_9_code 117 = .ok (.ireturn, 1) := by decide +kernel
theorem d15_118 : decode prog_25_method_9_code 118 = .ok (.aload_n 0, 1) := by decide +kernel
theorem d15_119 : decode prog_25_method_9_code 119 = .ok (.getfield 23, 3) := by decide +kernel
theorem d15_122 : decode prog_25_method_9_code 122 = .ok (.iload 4, 2) := by decide +kernel
theorem d15_124 : decode prog_25_method_9_code 124 = .ok (.iconst (-1), 1) := by decide +kernel
theorem d15_125 : decode prog_25_method_9_code 125 = .ok (.iastore, 1) := by decide +kernel
theorem d15_126 : decode prog_25_method_9_code 126 = .ok (.aload_n 0, 1) := by decide +kernel
theorem d15_127 : decode prog_25_method_9_code 127 = .ok (.getfield 32, 3) := by decide +kernel
theorem d15_130 : decode prog_25_method_9_code 130 = .ok (.iinc 3 (-1), 3) := by decide +kernel
theorem d15_133 : decode prog_25_method_9_code 133 = .ok (.iload_n 3, 1) := by decide +kernel
theorem d15_134 : decode prog_25_method_9_code 134 = .ok (.iaload, 1) := by decide +kernel
theorem d15_135 : decode prog_25_method_9_code 135 = .ok (.istore 6, 2) := by decide +kernel
theorem d15_137 : decode prog_25_method_9_code 137 = .ok (.aload_n 0, 1) := by decide +kernel
theorem d15_138 : decode prog_25_method_9_code 138 = .ok (.getfield 16, 3) := by decide +kernel
theorem d15_141 : decode prog_25_method_9_code 141 = .ok (.iload 6, 2) := by decide +kernel
theorem d15_143 : decode prog_25_method_9_code 143 = .ok (.iconst 1, 1) := by decide +kernel
theorem d15_144 : decode prog_25_method_9_code 144 = .ok (.ixor, 1) := by decide +kernel
theorem d15_145 : decode prog_25_method_9_code 145 = .ok (.iaload, 1) := by decide +kernel
theorem d15_146 : decode prog_25_method_9_code 146 = .ok (.istore 4, 2) := by decide +kernel
theorem d15_148 : decode prog_25_method_9_code 148 = .ok (.aload_n 0, 1) := by decide +kernel
theorem d15_149 : decode prog_25_method_9_code 149 = .ok (.getfield 26, 3) := by decide +kernel
theorem d15_152 : decode prog_25_method_9_code 152 = .ok (.iload 4, 2) := by decide +kernel
theorem d15_154 : decode prog_25_method_9_code 154 = .ok (.aload_n 0, 1) := by decide +kernel
theorem d15_155 : decode prog_25_method_9_code 155 = .ok (.getfield 13, 3) := by decide +kernel
theorem d15_158 : decode prog_25_method_9_code 158 = .ok (.iload 6, 2) := by decide +kernel
theorem d15_160 : decode prog_25_method_9_code 160 = .ok (.iaload, 1) := by decide +kernel
theorem d15_161 : decode prog_25_method_9_code 161 = .ok (.iastore, 1) := by decide +kernel
theorem d15_162 : decode prog_25_method_9_code 162 = .ok (.goto (-157), 3) := by decide +kernel
theorem d15_165 : decode prog_25_method_9_code 165 = .ok (.ldc2_w 87, 3) := by decide +kernel
theorem d15_168 : decode prog_25_method_9_code 168 = .ok (.dstore 5, 2) := by decide +kernel
theorem d15_170 : decode prog_25_method_9_code 170 = .ok (.iconst 0, 1) := by decide +kernel
theorem d15_171 : decode prog_25_method_9_code 171 = .ok (.istore 7, 2) := by decide +kernel
theorem d15_173 : decode prog_25_method_9_code 173 = .ok (.iload 7, 2) := by decide +kernel
theorem d15_175 : decode prog_25_method_9_code 175 = .ok (.iload_n 3, 1) := by decide +kernel
theorem d15_176 : decode prog_25_method_9_code 176 = .ok (.if_icmp .ge 28, 3) := by decide +kernel
theorem d15_179 : decode prog_25_method_9_code 179 = .ok (.dload 5, 2) := by decide +kernel
theorem d15_181 : decode prog_25_method_9_code 181 = .ok (.aload_n 0, 1) := by decide +kernel
theorem d15_182 : decode prog_25_method_9_code 182 = .ok (.getfield 19, 3) := by decide +kernel
theorem d15_185 : decode prog_25_method_9_code 185 = .ok (.aload_n 0, 1) := by decide +kernel
theorem d15_186 : decode prog_25_method_9_code 186 = .ok (.getfield 32, 3) := by decide +kernel
theorem d15_189 : decode prog_25_method_9_code 189 = .ok (.iload 7, 2) := by decide +kernel
theorem d15_191 : decode prog_25_method_9_code 191 = .ok (.iaload, 1) := by decide +kernel
theorem d15_192 : decode prog_25_method_9_code 192 = .ok (.daload, 1) := by decide +kernel
theorem d15_193 : decode prog_25_method_9_code 193 = .ok (.invokestatic 89, 3) := by decide +kernel
theorem d15_196 : decode prog_25_method_9_code 196 = .ok (.dstore 5, 2) := by decide +kernel
theorem d15_198 : decode prog_25_method_9_code 198 = .ok (.iinc 7 1, 3) := by decide +kernel
theorem d15_201 : decode prog_25_method_9_code 201 = .ok (.goto (-28), 3) := by decide +kernel
theorem d15_204 : decode prog_25_method_9_code 204 = .ok (.iconst 0, 1) := by decide +kernel
theorem d15_205 : decode prog_25_method_9_code 205 = .ok (.istore 7, 2) := by decide +kernel
theorem d15_207 : decode prog_25_method_9_code 207 = .ok (.iload 7, 2) := by decide +kernel
theorem d15_209 : decode prog_25_method_9_code 209 = .ok (.iload_n 3, 1) := by decide +kernel
theorem d15_210 : decode prog_25_method_9_code 210 = .ok (.if_icmp .ge 45, 3) := by decide +kernel
theorem d15_213 : decode prog_25_method_9_code 213 = .ok (.aload_n 0, 1) := by decide +kernel
theorem d15_214 : decode prog_25_method_9_code 214 = .ok (.getfield 19, 3) := by decide +kernel
theorem d15_217 : decode prog_25_method_9_code 217 = .ok (.aload_n 0, 1) := by decide +kernel
theorem d15_218 : decode prog_25_method_9_code 218 = .ok (.getfield 32, 3) := by decide +kernel
theorem d15_221 : decode prog_25_method_9_code 221 = .ok (.iload 7, 2) := by decide +kernel
theorem d15_223 : decode prog_25_method_9_code 223 = .ok (.iaload, 1) := by decide +kernel
theorem d15_224 : decode prog_25_method_9_code 224 = .ok (.dup2, 1) := by decide +kernel
theorem d15_225 : decode prog_25_method_9_code 225 = .ok (.daload, 1) := by decide +kernel
theorem d15_226 : decode prog_25_method_9_code 226 = .ok (.dload 5, 2) := by decide +kernel
theorem d15_228 : decode prog_25_method_9_code 228 = .ok (.dsub, 1) := by decide +kernel
theorem d15_229 : decode prog_25_method_9_code 229 = .ok (.dastore, 1) := by decide +kernel
theorem d15_230 : decode prog_25_method_9_code 230 = .ok (.aload_n 0, 1) := by decide +kernel
theorem d15_231 : decode prog_25_method_9_code 231 = .ok (.getfield 19, 3) := by decide +kernel
theorem d15_234 : decode prog_25_method_9_code 234 = .ok (.aload_n 0, 1) := by decide +kernel
theorem d15_235 : decode prog_25_method_9_code 235 = .ok (.getfield 32, 3) := by decide +kernel
theorem d15_238 : decode prog_25_method_9_code 238 = .ok (.iload 7, 2) := by decide +kernel
theorem d15_240 : decode prog_25_method_9_code 240 = .ok (.iaload, 1) := by decide +kernel
theorem d15_241 : decode prog_25_method_9_code 241 = .ok (.iconst 1, 1) := by decide +kernel
theorem d15_242 : decode prog_25_method_9_code 242 = .ok (.ixor, 1) := by decide +kernel
theorem d15_243 : decode prog_25_method_9_code 243 = .ok (.dup2, 1) := by decide +kernel
theorem d15_244 : decode prog_25_method_9_code 244 = .ok (.daload, 1) := by decide +kernel
theorem d15_245 : decode prog_25_method_9_code 245 = .ok (.dload 5, 2) := by decide +kernel
theorem d15_247 : decode prog_25_method_9_code 247 = .ok (.dadd, 1) := by decide +kernel
theorem d15_248 : decode prog_25_method_9_code 248 = .ok (.dastore, 1) := by decide +kernel
theorem d15_249 : decode prog_25_method_9_code 249 = .ok (.iinc 7 1, 3) := by decide +kernel
theorem d15_252 : decode prog_25_method_9_code 252 = .ok (.goto (-45), 3) := by decide +kernel
theorem d15_255 : decode prog_25_method_9_code 255 = .ok (.iconst 1, 1) := by decide +kernel
theorem d15_256 : decode prog_25_method_9_code 256 = .ok (.ireturn, 1) := by decide +kernel
theorem ef_rmAug (m : MethodId) (x0 : Addr) (x1 : Int32) (x2 : Int32) : entryFrame m #[(.ref x0), (.int x1), (.int x2)] 8 = mkF m 0 #[.val (.ref x0), .val (.int x1), .val (.int x2), .unset, .unset, .unset, .unset, .unset] [] := by first | (simp [entryFrame, mkF, argsToLocals, Value.category]; done) | rfl
def Q_rmAug (Z : State) (aG aF aN aH aR aL aA aQ aP : Addr) (kF kN kH kR kL kA kQ kP : ClassId) (E : Nat) (tl fst nxt hd rm lev arc que pth : Int → Int) (ec : Int32) (s0 t0 : Int) (Gd : Int → Prop) (h0 : Heap) (n0 : Nat) (v : Option Value) (h : Heap) (L : List Loc) : Prop := ∃ (r : Int32) (rm' lev' arc' pth' : Int → Int), v = some (.int r) ∧ Fr n0 L ∧ Keep h0 h [aG, aF, aN, aH, aR, aL, aA, aQ, aP] ∧ own_S Z h aG aF aN aH aR aL aA aQ aP kF kN kH kR kL kA kQ kP (4 : Int32) ec fst nxt hd rm' lev' arc' que pth' ∧ ((r = 0 ∧ (rm' = rm ∧ ¬ Gd s0)) ∨ (r = 1 ∧ (own_AU E tl hd s0 t0 rm rm' ∧ own_A E tl s0 lev' arc')))
set_option maxRecDepth 65536 in
set_option maxHeartbeats 40000000 in
theorem rmAug (l : Launch) (Z : State) (a0 : Array Value) (hw : ∀ d ∈ tables_1, d.before a0 Z = true) (ws : List Jvm.Cond) (aG : Addr) (aF aN aH aR aL aA aQ aP : Addr) (kF kN kH kR kL kA kQ kP : ClassId) (E : Nat) (tl fst nxt hd rm lev arc que pth : Int → Int) (ec : Int32) (s0 t0 : Int) (Gd : Int → Prop) (h0 : Heap) (n0 : Nat) (Z0 : n0 ≤ h0.size) (hNE : own_NE n0 aG aF aN aH aR aL aA aQ aP) (hS : own_S Z h0 aG aF aN aH aR aL aA aQ aP kF kN kH kR kL kA kQ kP (4 : Int32) ec fst nxt hd rm lev arc que pth) (hG : own_G E tl hd fst nxt) (hR : own_R E rm) (hs : 0 ≤ s0 ∧ s0 < 4) (ht : 0 ≤ t0 ∧ t0 < 4) (hst : s0 ≠ t0) (hA : own_A E tl s0 lev arc) (hW : own_W E tl hd rm lev arc Gd t0) :
    MetFree l (⟨"com/example/nearbound/nearbound/graph/MinCut", "augment", "(II)Z"⟩ : MethodName) (head1 (Jvm.Cond.code (⟨"com/example/nearbound/nearbound/graph/MinCut", "augment", "(II)Z"⟩ : MethodName) prog_25_method_9_code 8 (some .boolean) :: ws) ({ frames := 1, cells := 0, slots := 0, locals := 15 } : Room)) (fun a U => a = #[(.ref aG), (.int (own_I s0)), (.int (own_I t0))] ∧ Z.Warmed39 U.vm ∧ U.heap = h0) (fun _ _ _ _ _ => True) (fun _ U o U' => ∃ v L, o = .returned v ∧ Q_rmAug Z aG aF aN aH aR aL aA aQ aP kF kN kH kR kL kA kQ kP E tl fst nxt hd rm lev arc que pth ec s0 t0 Gd h0 n0 v U'.heap L ∧ FrameEnd U o U' L ({ frames := 1, cells := 0, slots := 0, locals := 15 } : Room).cells ({ frames := 1, cells := 0, slots := 0, locals := 15 } : Room).slots) := by
  refine MetFree.of_bodySF (plainFor_of_name pn_2) hisR ?_
  intro p e s m args below meth c s₁ Bd hml0 hP hK
  obtain ⟨rfl, hZ, hh⟩ := hP
  have hx := Bd.exec
  have hby := Bd.bytes
  have hml : c.maxLocals = 8 := hml0
  have hown : s.vm.findClass "com/example/nearbound/nearbound/graph/MinCut" = some m.cls := findClass_of_methodNamed Bd.named
  have hnm := (name_of_methodNamed Bd.named Bd.method).1
  have X0 : Stand p l e ({ frames := 1, cells := 0, slots := 0, locals := 15 } : Room) s m #[(.ref aG), (.int (own_I s0)), (.int (own_I t0))] below meth c s₁ [] 0 0 := Stand.of_body Bd
  have e0 : s₁.heap = h0 := by rw [← hh, Bd.state]; rfl
  have N0 := Fr.nil n0
  let PO : Outcome → State → Prop := own_PO s (Q_rmAug Z aG aF aN aH aR aL aA aQ aP kF kN kH kR kL kA kQ kP E tl fst nxt hd rm lev arc que pth ec s0 t0 Gd h0 n0) 0 0
  show own_Go p e below PO (s₁.setTop (entryFrame m #[(.ref aG), (.int (own_I s0)), (.int (own_I t0))] 8))
  rw [ef_rmAug]
  obtain ⟨gn_aG, gn_aF, gn_aN, gn_aH, gn_aR, gn_aL, gn_aA, gn_aQ, gn_aP⟩ := hNE.1
  have hS' := hS
  obtain ⟨E_G, F_nodeCount, F_edgeCount, F_first, F_next, F_head, F_room, F_level, F_arc, F_queue, F_path, V_F, V_N, V_H, V_R, V_L, V_A, V_Q, V_P⟩ := hS'
  have K0 : Keep h0 h0 [aG, aF, aN, aH, aR, aL, aA, aQ, aP] := Keep.refl h0 _
  have hE12 : E ≤ 12 := hG.2.2.1
  show own_Go p e below PO (s₁.setTop (mkF m 0 #[.val (.ref aG), .val (.int (own_I s0)), .val (.int (own_I t0)), .unset, .unset, .unset, .unset, .unset] []))
  refine own_back ?_ (fun t k => XS.iconst X0.here hx rfl (hb hby d15_0) k)
  show own_Go p e below PO (s₁.setTop (mkF m 1 #[.val (.ref aG), .val (.int (own_I s0)), .val (.int (own_I t0)), .unset, .unset, .unset, .unset, .unset] [(.int (0 : Int32))]))
  refine own_back ?_ (fun t k => XS.istoreN X0.here hx rfl (hb hby d15_1) rfl (l' := #[.val (.ref aG), .val (.int (own_I s0)), .val (.int (own_I t0)), .val (.int (0 : Int32)), .unset, .unset, .unset, .unset]) rfl k)
  show own_Go p e below PO (s₁.setTop (mkF m 2 #[.val (.ref aG), .val (.int (own_I s0)), .val (.int (own_I t0)), .val (.int (0 : Int32)), .unset, .unset, .unset, .unset] []))
  refine own_back ?_ (fun t k => XS.iloadN X0.here hx rfl (hb hby d15_2) rfl k)
  show own_Go p e below PO (s₁.setTop (mkF m 3 #[.val (.ref aG), .val (.int (own_I s0)), .val (.int (own_I t0)), .val (.int (0 : Int32)), .unset, .unset, .unset, .unset] [(.int (own_I s0))]))
  refine own_back ?_ (fun t k => XS.istore X0.here hx rfl (hb hby d15_3) rfl (l' := #[.val (.ref aG), .val (.int (own_I s0)), .val (.int (own_I t0)), .val (.int (0 : Int32)), .val (.int (own_I s0)), .unset, .unset, .unset]) rfl k)
  show own_Go p e below PO (s₁.setTop (mkF m 5 #[.val (.ref aG), .val (.int (own_I s0)), .val (.int (own_I t0)), .val (.int (0 : Int32)), .val (.int (own_I s0)), .unset, .unset, .unset] []))
  refine own_sub (A := Int32) (x := (0 : Int32)) (y := (own_I 0)) (fun cv => own_Go p e below PO (s₁.setTop (mkF m 5 #[.val (.ref aG), .val (.int (own_I s0)), .val (.int (own_I t0)), .val (.int cv), .val (.int (own_I s0)), .unset, .unset, .unset] []))) own_i0.symm ?_
  show own_Go p e below PO (s₁.setTop (mkF m 5 #[.val (.ref aG), .val (.int (own_I s0)), .val (.int (own_I t0)), .val (.int (own_I 0)), .val (.int (own_I s0)), .unset, .unset, .unset] []))
  have LM : ∀ (n : Nat) (T1 : State) (H1 : Heap) (lc1 : List Loc) (x5 x6 : Slot) (lev1 arc1 pth1 : Int → Int) (d nd : Int), Stand p l e ({ frames := 1, cells := 0, slots := 0, locals := 15 } : Room) s m #[(.ref aG), (.int (own_I s0)), (.int (own_I t0))] below meth c T1 lc1 0 0 → T1.heap = H1 → Fr n0 lc1 → Keep h0 H1 [aG, aF, aN, aH, aR, aL, aA, aQ, aP] → own_S Z H1 aG aF aN aH aR aL aA aQ aP kF kN kH kR kL kA kQ kP (4 : Int32) ec fst nxt hd rm lev1 arc1 que pth1 → own_DF E tl hd rm Gd s0 t0 lev1 arc1 pth1 d nd → own_sl x5 → own_sl x6 → (4 * own_cnt lev1 + 3 - d).toNat < n → own_Go p e below PO (T1.setTop (mkF m 5 #[.val (.ref aG), .val (.int (own_I s0)), .val (.int (own_I t0)), .val (.int (own_I d)), .val (.int (own_I nd)), x5, x6, .unset] [])) := by
    intro n
    induction n with
    | zero =>
      intro T1 H1 lc1 x5 x6 lev1 arc1 pth1 d nd X1 eT1 N1 K1 hS1 hD h_x5 h_x6 hm
      exact absurd hm (Nat.not_lt_zero _)
    | succ n ih_LM =>
      intro T1 H1 lc1 x5 x6 lev1 arc1 pth1 d nd X1 eT1 N1 K1 hS1 hD h_x5 h_x6 hm
      have Zh1 : n0 ≤ H1.size := Nat.le_trans Z0 K1.1
      obtain ⟨E_G1, F_nodeCount1, F_edgeCount1, F_first1, F_next1, F_head1, F_room1, F_level1, F_arc1, F_queue1, F_path1, V_F1, V_N1, V_H1, V_R1, V_L1, V_A1, V_Q1, V_P1⟩ := hS1
      obtain ⟨nb, nl, nd0, nd3⟩ := own_DF_node hG hs hD
      have cb := own_cnt_b lev1
      show own_Go p e below PO (T1.setTop (mkF m 5 #[.val (.ref aG), .val (.int (own_I s0)), .val (.int (own_I t0)), .val (.int (own_I d)), .val (.int (own_I nd)), x5, x6, .unset] []))
      refine own_back ?_ (fun t k => XS.iload X1.here hx rfl (hb hby d15_5) rfl k)
      show own_Go p e below PO (T1.setTop (mkF m 7 #[.val (.ref aG), .val (.int (own_I s0)), .val (.int (own_I t0)), .val (.int (own_I d)), .val (.int (own_I nd)), x5, x6, .unset] [(.int (own_I nd))]))
      refine own_back ?_ (fun t k => XS.iloadN X1.here hx rfl (hb hby d15_7) rfl k)
      show own_Go p e below PO (T1.setTop (mkF m 8 #[.val (.ref aG), .val (.int (own_I s0)), .val (.int (own_I t0)), .val (.int (own_I d)), .val (.int (own_I nd)), x5, x6, .unset] [(.int (own_I t0)), (.int (own_I nd))]))
      by_cases hc8_1 : (own_I nd) = (own_I t0)
      case pos =>
        refine own_back ?_ (fun t k => XS.icmpYes X1.here hx rfl (pc0 := 8) (pc' := 165) rfl (hb hby d15_8) rfl (teq hc8_1).1 (by decide) (by decide) k)
        show own_Go p e below PO (T1.setTop (mkF m 165 #[.val (.ref aG), .val (.int (own_I s0)), .val (.int (own_I t0)), .val (.int (own_I d)), .val (.int (own_I nd)), x5, x6, .unset] []))
        have nt : nd = t0 := (own_eq (by omega) (by omega)).mp hc8_1
        have d1 := own_DF_d1 hD nt hst
        refine own_back ?_ (fun t k => X1.ldc2DoubleC hx hown (mvT hZ (hw _ (List.mem_of_getElem? (i := 90) rfl))) (g := (mkF m 165 #[.val (.ref aG), .val (.int (own_I s0)), .val (.int (own_I t0)), .val (.int (own_I d)), .val (.int (own_I nd)), x5, x6, .unset] [])) rfl (hb hby d15_165) _ k)
        show own_Go p e below PO (T1.setTop (mkF m 168 #[.val (.ref aG), .val (.int (own_I s0)), .val (.int (own_I t0)), .val (.int (own_I d)), .val (.int (own_I nd)), x5, x6, .unset] [(.double (9218868437227405312 : UInt64))]))
        refine own_back ?_ (fun t k => XS.dstore X1.here hx rfl (hb hby d15_168) rfl (l' := #[.val (.ref aG), .val (.int (own_I s0)), .val (.int (own_I t0)), .val (.int (own_I d)), .val (.int (own_I nd)), .val (.double (9218868437227405312 : UInt64)), .second, .unset]) (by rcases h_x5 with rfl | ⟨w5, rfl⟩ <;> rcases h_x6 with rfl | ⟨w6, rfl⟩ <;> rfl) k)
        show own_Go p e below PO (T1.setTop (mkF m 170 #[.val (.ref aG), .val (.int (own_I s0)), .val (.int (own_I t0)), .val (.int (own_I d)), .val (.int (own_I nd)), .val (.double (9218868437227405312 : UInt64)), .second, .unset] []))
        refine own_back ?_ (fun t k => XS.iconst X1.here hx rfl (hb hby d15_170) k)
        show own_Go p e below PO (T1.setTop (mkF m 171 #[.val (.ref aG), .val (.int (own_I s0)), .val (.int (own_I t0)), .val (.int (own_I d)), .val (.int (own_I nd)), .val (.double (9218868437227405312 : UInt64)), .second, .unset] [(.int (0 : Int32))]))
        refine own_back ?_ (fun t k => XS.istore X1.here hx rfl (hb hby d15_171) rfl (l' := #[.val (.ref aG), .val (.int (own_I s0)), .val (.int (own_I t0)), .val (.int (own_I d)), .val (.int (own_I nd)), .val (.double (9218868437227405312 : UInt64)), .second, .val (.int (0 : Int32))]) rfl k)
        show own_Go p e below PO (T1.setTop (mkF m 173 #[.val (.ref aG), .val (.int (own_I s0)), .val (.int (own_I t0)), .val (.int (own_I d)), .val (.int (own_I nd)), .val (.double (9218868437227405312 : UInt64)), .second, .val (.int (0 : Int32))] []))
        refine own_sub (A := Int32) (x := (0 : Int32)) (y := (own_I 0)) (fun cv => own_Go p e below PO (T1.setTop (mkF m 173 #[.val (.ref aG), .val (.int (own_I s0)), .val (.int (own_I t0)), .val (.int (own_I d)), .val (.int (own_I nd)), .val (.double (9218868437227405312 : UInt64)), .second, .val (.int cv)] []))) own_i0.symm ?_
        show own_Go p e below PO (T1.setTop (mkF m 173 #[.val (.ref aG), .val (.int (own_I s0)), .val (.int (own_I t0)), .val (.int (own_I d)), .val (.int (own_I nd)), .val (.double (9218868437227405312 : UInt64)), .second, .val (.int (own_I 0))] []))
        have pf := own_PF hG hR hD (i := 0) (by omega) (by omega)
        refine own_back ?_ (fun t k => XS.iload X1.here hx rfl (hb hby d15_173) rfl k)
        show own_Go p e below PO (T1.setTop (mkF m 175 #[.val (.ref aG), .val (.int (own_I s0)), .val (.int (own_I t0)), .val (.int (own_I d)), .val (.int (own_I nd)), .val (.double (9218868437227405312 : UInt64)), .second, .val (.int (own_I 0))] [(.int (own_I 0))]))
        refine own_back ?_ (fun t k => XS.iloadN X1.here hx rfl (hb hby d15_175) rfl k)
        show own_Go p e below PO (T1.setTop (mkF m 176 #[.val (.ref aG), .val (.int (own_I s0)), .val (.int (own_I t0)), .val (.int (own_I d)), .val (.int (own_I nd)), .val (.double (9218868437227405312 : UInt64)), .second, .val (.int (own_I 0))] [(.int (own_I d)), (.int (own_I 0))]))
        have hd176_2 : (own_I 0) < (own_I d) := (own_lt (by omega) (by omega)).mpr (by omega)
        refine own_back ?_ (fun t k => XS.icmpNo X1.here hx rfl (hb hby d15_176) rfl (tlt hd176_2).2.1 k)
        show own_Go p e below PO (T1.setTop (mkF m 179 #[.val (.ref aG), .val (.int (own_I s0)), .val (.int (own_I t0)), .val (.int (own_I d)), .val (.int (own_I nd)), .val (.double (9218868437227405312 : UInt64)), .second, .val (.int (own_I 0))] []))
        refine own_back ?_ (fun t k => XS.dload X1.here hx rfl (hb hby d15_179) rfl k)
        show own_Go p e below PO (T1.setTop (mkF m 181 #[.val (.ref aG), .val (.int (own_I s0)), .val (.int (own_I t0)), .val (.int (own_I d)), .val (.int (own_I nd)), .val (.double (9218868437227405312 : UInt64)), .second, .val (.int (own_I 0))] [(.double (9218868437227405312 : UInt64))]))
        refine own_back ?_ (fun t k => XS.aloadN X1.here hx rfl (hb hby d15_181) rfl rfl k)
        show own_Go p e below PO (T1.setTop (mkF m 182 #[.val (.ref aG), .val (.int (own_I s0)), .val (.int (own_I t0)), .val (.int (own_I d)), .val (.int (own_I nd)), .val (.double (9218868437227405312 : UInt64)), .second, .val (.int (own_I 0))] [(.ref aG), (.double (9218868437227405312 : UInt64))]))
        obtain ⟨T3, X3, e3, st3⟩ := getF X1 hx hZ hown (host := "") (Or.inl (hw _ (List.mem_of_getElem? (i := 21) rfl))) Via.refl eT1 F_room1 (g := (mkF m 182 #[.val (.ref aG), .val (.int (own_I s0)), .val (.int (own_I t0)), .val (.int (own_I d)), .val (.int (own_I nd)), .val (.double (9218868437227405312 : UInt64)), .second, .val (.int (own_I 0))] [(.ref aG), (.double (9218868437227405312 : UInt64))])) rfl rfl (hb hby d15_182)
        refine own_back ?_ st3
        show own_Go p e below PO (T3.setTop (mkF m 185 #[.val (.ref aG), .val (.int (own_I s0)), .val (.int (own_I t0)), .val (.int (own_I d)), .val (.int (own_I nd)), .val (.double (9218868437227405312 : UInt64)), .second, .val (.int (own_I 0))] [(.ref aR), (.double (9218868437227405312 : UInt64))]))
        refine own_back ?_ (fun t k => XS.aloadN X3.here hx rfl (hb hby d15_185) rfl rfl k)
        show own_Go p e below PO (T3.setTop (mkF m 186 #[.val (.ref aG), .val (.int (own_I s0)), .val (.int (own_I t0)), .val (.int (own_I d)), .val (.int (own_I nd)), .val (.double (9218868437227405312 : UInt64)), .second, .val (.int (own_I 0))] [(.ref aG), (.ref aR), (.double (9218868437227405312 : UInt64))]))
        obtain ⟨T4, X4, e4, st4⟩ := getF X3 hx hZ hown (host := "") (Or.inl (hw _ (List.mem_of_getElem? (i := 29) rfl))) Via.refl e3 F_path1 (g := (mkF m 186 #[.val (.ref aG), .val (.int (own_I s0)), .val (.int (own_I t0)), .val (.int (own_I d)), .val (.int (own_I nd)), .val (.double (9218868437227405312 : UInt64)), .second, .val (.int (own_I 0))] [(.ref aG), (.ref aR), (.double (9218868437227405312 : UInt64))])) rfl rfl (hb hby d15_186)
        refine own_back ?_ st4
        show own_Go p e below PO (T4.setTop (mkF m 189 #[.val (.ref aG), .val (.int (own_I s0)), .val (.int (own_I t0)), .val (.int (own_I d)), .val (.int (own_I nd)), .val (.double (9218868437227405312 : UInt64)), .second, .val (.int (own_I 0))] [(.ref aP), (.ref aR), (.double (9218868437227405312 : UInt64))]))
        refine own_back ?_ (fun t k => XS.iload X4.here hx rfl (hb hby d15_189) rfl k)
        show own_Go p e below PO (T4.setTop (mkF m 191 #[.val (.ref aG), .val (.int (own_I s0)), .val (.int (own_I t0)), .val (.int (own_I d)), .val (.int (own_I nd)), .val (.double (9218868437227405312 : UInt64)), .second, .val (.int (own_I 0))] [(.int (own_I 0)), (.ref aP), (.ref aR), (.double (9218868437227405312 : UInt64))]))
        refine own_back ?_ (own_ldI X4 hx hZ e4 V_P1 (j := (own_I 0)) (v := (.int (own_I (pth1 0)))) (own_inb (z := 0) (by omega)) (own_get (by omega)) (g := (mkF m 191 #[.val (.ref aG), .val (.int (own_I s0)), .val (.int (own_I t0)), .val (.int (own_I d)), .val (.int (own_I nd)), .val (.double (9218868437227405312 : UInt64)), .second, .val (.int (own_I 0))] [(.int (own_I 0)), (.ref aP), (.ref aR), (.double (9218868437227405312 : UInt64))])) rfl rfl (hb hby d15_191))
        show own_Go p e below PO (T4.setTop (mkF m 192 #[.val (.ref aG), .val (.int (own_I s0)), .val (.int (own_I t0)), .val (.int (own_I d)), .val (.int (own_I nd)), .val (.double (9218868437227405312 : UInt64)), .second, .val (.int (own_I 0))] [(.int (own_I (pth1 0))), (.ref aR), (.double (9218868437227405312 : UInt64))]))
        refine own_back ?_ (own_ldD X4 hx hZ e4 V_R1 (j := (own_I (pth1 0))) (v := (.double (own_D (rm (pth1 0))))) (own_inb (z := (pth1 0)) (by omega)) (own_getd (by omega)) (g := (mkF m 192 #[.val (.ref aG), .val (.int (own_I s0)), .val (.int (own_I t0)), .val (.int (own_I d)), .val (.int (own_I nd)), .val (.double (9218868437227405312 : UInt64)), .second, .val (.int (own_I 0))] [(.int (own_I (pth1 0))), (.ref aR), (.double (9218868437227405312 : UInt64))])) rfl rfl (hb hby d15_192))
        show own_Go p e below PO (T4.setTop (mkF m 193 #[.val (.ref aG), .val (.int (own_I s0)), .val (.int (own_I t0)), .val (.int (own_I d)), .val (.int (own_I nd)), .val (.double (9218868437227405312 : UInt64)), .second, .val (.int (own_I 0))] [(.double (own_D (rm (pth1 0)))), (.double (9218868437227405312 : UInt64))]))
        obtain ⟨T5, X5, e5, st5⟩ := natS X4 hx hZ (y := (⟨"java/lang/Math", "min", "(DD)D"⟩ : MethodName)) hown (hw _ (List.mem_of_getElem? (i := 91) rfl)) (hw _ (List.mem_of_getElem? (i := 92) rfl)) (hw _ (List.mem_of_getElem? (i := 75) rfl)) (hw _ (List.mem_of_getElem? (i := 93) rfl)) (by decide) e4 (W := 0) (F := fun a' => a' = #[.double (9218868437227405312 : UInt64), .double (own_D (rm (pth1 0)))] ∧ Jvm.Free.Fl.NoNaN64 (9218868437227405312 : UInt64) ∧ Jvm.Free.Fl.NoNaN64 (own_D (rm (pth1 0)))) (val := .double (Native.java_lang_Math.nans.pick64 false (9218868437227405312 : UInt64) (own_D (rm (pth1 0))))) (val' := .double (own_D (rm (pth1 0)))) (fun hc => Jvm.Free.Fl.Abs.minD_pays (9218868437227405312 : UInt64) (own_D (rm (pth1 0))) hc (by decide) (by decide)) (g := (mkF m 193 #[.val (.ref aG), .val (.int (own_I s0)), .val (.int (own_I t0)), .val (.int (own_I d)), .val (.int (own_I nd)), .val (.double (9218868437227405312 : UInt64)), .second, .val (.int (own_I 0))] [(.double (own_D (rm (pth1 0)))), (.double (9218868437227405312 : UInt64))])) rfl (by rw [hml]; rfl) (argsL := [.double (9218868437227405312 : UInt64), .double (own_D (rm (pth1 0)))]) (rest := []) (lenOf pd_2 rfl) rfl (by show 2 * 0 + _ ≤ _; exact Nat.le_of_eq rfl) (hb hby d15_193) (by decide) (by decide) ⟨rfl, own_nnI, own_nn _⟩ (congrArg Value.double (own_minI _))
        refine own_back ?_ st5
        show own_Go p e below PO (T5.setTop (mkF m 196 #[.val (.ref aG), .val (.int (own_I s0)), .val (.int (own_I t0)), .val (.int (own_I d)), .val (.int (own_I nd)), .val (.double (9218868437227405312 : UInt64)), .second, .val (.int (own_I 0))] [(.double (own_D (rm (pth1 0))))]))
        refine own_back ?_ (fun t k => XS.dstore X5.here hx rfl (hb hby d15_196) rfl (l' := #[.val (.ref aG), .val (.int (own_I s0)), .val (.int (own_I t0)), .val (.int (own_I d)), .val (.int (own_I nd)), .val (.double (own_D (rm (pth1 0)))), .second, .val (.int (own_I 0))]) rfl k)
        show own_Go p e below PO (T5.setTop (mkF m 198 #[.val (.ref aG), .val (.int (own_I s0)), .val (.int (own_I t0)), .val (.int (own_I d)), .val (.int (own_I nd)), .val (.double (own_D (rm (pth1 0)))), .second, .val (.int (own_I 0))] []))
        refine own_back ?_ (fun t k => XS.iinc X5.here hx rfl (hb hby d15_198) rfl (l' := #[.val (.ref aG), .val (.int (own_I s0)), .val (.int (own_I t0)), .val (.int (own_I d)), .val (.int (own_I nd)), .val (.double (own_D (rm (pth1 0)))), .second, .val (.int ((own_I 0) + (1 : Int32)))]) rfl k)
        show own_Go p e below PO (T5.setTop (mkF m 201 #[.val (.ref aG), .val (.int (own_I s0)), .val (.int (own_I t0)), .val (.int (own_I d)), .val (.int (own_I nd)), .val (.double (own_D (rm (pth1 0)))), .second, .val (.int ((own_I 0) + (1 : Int32)))] []))
        refine own_sub (A := Int32) (x := ((own_I 0) + (1 : Int32))) (y := (own_I (0 + 1))) (fun cv => own_Go p e below PO (T5.setTop (mkF m 201 #[.val (.ref aG), .val (.int (own_I s0)), .val (.int (own_I t0)), .val (.int (own_I d)), .val (.int (own_I nd)), .val (.double (own_D (rm (pth1 0)))), .second, .val (.int cv)] []))) (own_add1 _) ?_
        show own_Go p e below PO (T5.setTop (mkF m 201 #[.val (.ref aG), .val (.int (own_I s0)), .val (.int (own_I t0)), .val (.int (own_I d)), .val (.int (own_I nd)), .val (.double (own_D (rm (pth1 0)))), .second, .val (.int (own_I (0 + 1)))] []))
        refine own_back ?_ (fun t k => XS.goto X5.here hx rfl (pc0 := 201) (pc' := 173) rfl (hb hby d15_201) (by decide) (by decide) k)
        show own_Go p e below PO (T5.setTop (mkF m 173 #[.val (.ref aG), .val (.int (own_I s0)), .val (.int (own_I t0)), .val (.int (own_I d)), .val (.int (own_I nd)), .val (.double (own_D (rm (pth1 0)))), .second, .val (.int (own_I (0 + 1)))] []))
        refine own_sub (A := Int32) (x := (own_I (0 + 1))) (y := (own_I 1)) (fun cv => own_Go p e below PO (T5.setTop (mkF m 173 #[.val (.ref aG), .val (.int (own_I s0)), .val (.int (own_I t0)), .val (.int (own_I d)), .val (.int (own_I nd)), .val (.double (own_D (rm (pth1 0)))), .second, .val (.int cv)] []))) (by decide) ?_
        show own_Go p e below PO (T5.setTop (mkF m 173 #[.val (.ref aG), .val (.int (own_I s0)), .val (.int (own_I t0)), .val (.int (own_I d)), .val (.int (own_I nd)), .val (.double (own_D (rm (pth1 0)))), .second, .val (.int (own_I 1))] []))
        have LN : ∀ (k : Nat) (T3 : State) (i δ : Int), Stand p l e ({ frames := 1, cells := 0, slots := 0, locals := 15 } : Room) s m #[(.ref aG), (.int (own_I s0)), (.int (own_I t0))] below meth c T3 lc1 0 0 → T3.heap = H1 → own_MI rm pth1 d i δ → (d - i).toNat < k → own_Go p e below PO (T3.setTop (mkF m 173 #[.val (.ref aG), .val (.int (own_I s0)), .val (.int (own_I t0)), .val (.int (own_I d)), .val (.int (own_I nd)), .val (.double (own_D δ)), .second, .val (.int (own_I i))] [])) := by
          intro k
          induction k with
          | zero =>
            intro T3 i δ X3 eT3 hI hm3
            exact absurd hm3 (Nat.not_lt_zero _)
          | succ k ih_LN =>
            intro T3 i δ X3 eT3 hI hm3
            have hI' := hI
            obtain ⟨mi1, mi2, mi3⟩ := hI'
            show own_Go p e below PO (T3.setTop (mkF m 173 #[.val (.ref aG), .val (.int (own_I s0)), .val (.int (own_I t0)), .val (.int (own_I d)), .val (.int (own_I nd)), .val (.double (own_D δ)), .second, .val (.int (own_I i))] []))
            refine own_back ?_ (fun t k => XS.iload X3.here hx rfl (hb hby d15_173) rfl k)
            show own_Go p e below PO (T3.setTop (mkF m 175 #[.val (.ref aG), .val (.int (own_I s0)), .val (.int (own_I t0)), .val (.int (own_I d)), .val (.int (own_I nd)), .val (.double (own_D δ)), .second, .val (.int (own_I i))] [(.int (own_I i))]))
            refine own_back ?_ (fun t k => XS.iloadN X3.here hx rfl (hb hby d15_175) rfl k)
            show own_Go p e below PO (T3.setTop (mkF m 176 #[.val (.ref aG), .val (.int (own_I s0)), .val (.int (own_I t0)), .val (.int (own_I d)), .val (.int (own_I nd)), .val (.double (own_D δ)), .second, .val (.int (own_I i))] [(.int (own_I d)), (.int (own_I i))]))
            by_cases hc176_6 : (own_I i) < (own_I d)
            case pos =>
              refine own_back ?_ (fun t k => XS.icmpNo X3.here hx rfl (hb hby d15_176) rfl (tlt hc176_6).2.1 k)
              show own_Go p e below PO (T3.setTop (mkF m 179 #[.val (.ref aG), .val (.int (own_I s0)), .val (.int (own_I t0)), .val (.int (own_I d)), .val (.int (own_I nd)), .val (.double (own_D δ)), .second, .val (.int (own_I i))] []))
              have il : i < d := (own_lt (by omega) (by omega)).mp hc176_6
              have pf := own_PF hG hR hD (i := i) (by omega) il
              refine own_back ?_ (fun t k => XS.dload X3.here hx rfl (hb hby d15_179) rfl k)
              show own_Go p e below PO (T3.setTop (mkF m 181 #[.val (.ref aG), .val (.int (own_I s0)), .val (.int (own_I t0)), .val (.int (own_I d)), .val (.int (own_I nd)), .val (.double (own_D δ)), .second, .val (.int (own_I i))] [(.double (own_D δ))]))
              refine own_back ?_ (fun t k => XS.aloadN X3.here hx rfl (hb hby d15_181) rfl rfl k)
              show own_Go p e below PO (T3.setTop (mkF m 182 #[.val (.ref aG), .val (.int (own_I s0)), .val (.int (own_I t0)), .val (.int (own_I d)), .val (.int (own_I nd)), .val (.double (own_D δ)), .second, .val (.int (own_I i))] [(.ref aG), (.double (own_D δ))]))
              obtain ⟨T7, X7, e7, st7⟩ := getF X3 hx hZ hown (host := "") (Or.inl (hw _ (List.mem_of_getElem? (i := 21) rfl))) Via.refl eT3 F_room1 (g := (mkF m 182 #[.val (.ref aG), .val (.int (own_I s0)), .val (.int (own_I t0)), .val (.int (own_I d)), .val (.int (own_I nd)), .val (.double (own_D δ)), .second, .val (.int (own_I i))] [(.ref aG), (.double (own_D δ))])) rfl rfl (hb hby d15_182)
              refine own_back ?_ st7
              show own_Go p e below PO (T7.setTop (mkF m 185 #[.val (.ref aG), .val (.int (own_I s0)), .val (.int (own_I t0)), .val (.int (own_I d)), .val (.int (own_I nd)), .val (.double (own_D δ)), .second, .val (.int (own_I i))] [(.ref aR), (.double (own_D δ))]))
              refine own_back ?_ (fun t k => XS.aloadN X7.here hx rfl (hb hby d15_185) rfl rfl k)
              show own_Go p e below PO (T7.setTop (mkF m 186 #[.val (.ref aG), .val (.int (own_I s0)), .val (.int (own_I t0)), .val (.int (own_I d)), .val (.int (own_I nd)), .val (.double (own_D δ)), .second, .val (.int (own_I i))] [(.ref aG), (.ref aR), (.double (own_D δ))]))
              obtain ⟨T8, X8, e8, st8⟩ := getF X7 hx hZ hown (host := "") (Or.inl (hw _ (List.mem_of_getElem? (i := 29) rfl))) Via.refl e7 F_path1 (g := (mkF m 186 #[.val (.ref aG), .val (.int (own_I s0)), .val (.int (own_I t0)), .val (.int (own_I d)), .val (.int (own_I nd)), .val (.double (own_D δ)), .second, .val (.int (own_I i))] [(.ref aG), (.ref aR), (.double (own_D δ))])) rfl rfl (hb hby d15_186)
              refine own_back ?_ st8
              show own_Go p e below PO (T8.setTop (mkF m 189 #[.val (.ref aG), .val (.int (own_I s0)), .val (.int (own_I t0)), .val (.int (own_I d)), .val (.int (own_I nd)), .val (.double (own_D δ)), .second, .val (.int (own_I i))] [(.ref aP), (.ref aR), (.double (own_D δ))]))
              refine own_back ?_ (fun t k => XS.iload X8.here hx rfl (hb hby d15_189) rfl k)
              show own_Go p e below PO (T8.setTop (mkF m 191 #[.val (.ref aG), .val (.int (own_I s0)), .val (.int (own_I t0)), .val (.int (own_I d)), .val (.int (own_I nd)), .val (.double (own_D δ)), .second, .val (.int (own_I i))] [(.int (own_I i)), (.ref aP), (.ref aR), (.double (own_D δ))]))
              refine own_back ?_ (own_ldI X8 hx hZ e8 V_P1 (j := (own_I i)) (v := (.int (own_I (pth1 i)))) (own_inb (z := i) (by omega)) (own_get (by omega)) (g := (mkF m 191 #[.val (.ref aG), .val (.int (own_I s0)), .val (.int (own_I t0)), .val (.int (own_I d)), .val (.int (own_I nd)), .val (.double (own_D δ)), .second, .val (.int (own_I i))] [(.int (own_I i)), (.ref aP), (.ref aR), (.double (own_D δ))])) rfl rfl (hb hby d15_191))
              show own_Go p e below PO (T8.setTop (mkF m 192 #[.val (.ref aG), .val (.int (own_I s0)), .val (.int (own_I t0)), .val (.int (own_I d)), .val (.int (own_I nd)), .val (.double (own_D δ)), .second, .val (.int (own_I i))] [(.int (own_I (pth1 i))), (.ref aR), (.double (own_D δ))]))
              refine own_back ?_ (own_ldD X8 hx hZ e8 V_R1 (j := (own_I (pth1 i))) (v := (.double (own_D (rm (pth1 i))))) (own_inb (z := (pth1 i)) (by omega)) (own_getd (by omega)) (g := (mkF m 192 #[.val (.ref aG), .val (.int (own_I s0)), .val (.int (own_I t0)), .val (.int (own_I d)), .val (.int (own_I nd)), .val (.double (own_D δ)), .second, .val (.int (own_I i))] [(.int (own_I (pth1 i))), (.ref aR), (.double (own_D δ))])) rfl rfl (hb hby d15_192))
              show own_Go p e below PO (T8.setTop (mkF m 193 #[.val (.ref aG), .val (.int (own_I s0)), .val (.int (own_I t0)), .val (.int (own_I d)), .val (.int (own_I nd)), .val (.double (own_D δ)), .second, .val (.int (own_I i))] [(.double (own_D (rm (pth1 i)))), (.double (own_D δ))]))
              obtain ⟨T9, X9, e9, st9⟩ := natS X8 hx hZ (y := (⟨"java/lang/Math", "min", "(DD)D"⟩ : MethodName)) hown (hw _ (List.mem_of_getElem? (i := 91) rfl)) (hw _ (List.mem_of_getElem? (i := 92) rfl)) (hw _ (List.mem_of_getElem? (i := 75) rfl)) (hw _ (List.mem_of_getElem? (i := 93) rfl)) (by decide) e8 (W := 0) (F := fun a' => a' = #[.double (own_D δ), .double (own_D (rm (pth1 i)))] ∧ Jvm.Free.Fl.NoNaN64 (own_D δ) ∧ Jvm.Free.Fl.NoNaN64 (own_D (rm (pth1 i)))) (val := .double (Native.java_lang_Math.nans.pick64 false (own_D δ) (own_D (rm (pth1 i))))) (val' := .double (own_D (own_mn δ (rm (pth1 i))))) (fun hc => Jvm.Free.Fl.Abs.minD_pays (own_D δ) (own_D (rm (pth1 i))) hc (by decide) (by decide)) (g := (mkF m 193 #[.val (.ref aG), .val (.int (own_I s0)), .val (.int (own_I t0)), .val (.int (own_I d)), .val (.int (own_I nd)), .val (.double (own_D δ)), .second, .val (.int (own_I i))] [(.double (own_D (rm (pth1 i)))), (.double (own_D δ))])) rfl (by rw [hml]; rfl) (argsL := [.double (own_D δ), .double (own_D (rm (pth1 i)))]) (rest := []) (lenOf pd_2 rfl) rfl (by show 2 * 0 + _ ≤ _; exact Nat.le_of_eq rfl) (hb hby d15_193) (by decide) (by decide) ⟨rfl, (own_nn _), own_nn _⟩ (congrArg Value.double (own_min (x := δ) (y := (rm (pth1 i))) (by omega) (by omega)))
              refine own_back ?_ st9
              show own_Go p e below PO (T9.setTop (mkF m 196 #[.val (.ref aG), .val (.int (own_I s0)), .val (.int (own_I t0)), .val (.int (own_I d)), .val (.int (own_I nd)), .val (.double (own_D δ)), .second, .val (.int (own_I i))] [(.double (own_D (own_mn δ (rm (pth1 i)))))]))
              refine own_back ?_ (fun t k => XS.dstore X9.here hx rfl (hb hby d15_196) rfl (l' := #[.val (.ref aG), .val (.int (own_I s0)), .val (.int (own_I t0)), .val (.int (own_I d)), .val (.int (own_I nd)), .val (.double (own_D (own_mn δ (rm (pth1 i))))), .second, .val (.int (own_I i))]) rfl k)
              show own_Go p e below PO (T9.setTop (mkF m 198 #[.val (.ref aG), .val (.int (own_I s0)), .val (.int (own_I t0)), .val (.int (own_I d)), .val (.int (own_I nd)), .val (.double (own_D (own_mn δ (rm (pth1 i))))), .second, .val (.int (own_I i))] []))
              refine own_back ?_ (fun t k => XS.iinc X9.here hx rfl (hb hby d15_198) rfl (l' := #[.val (.ref aG), .val (.int (own_I s0)), .val (.int (own_I t0)), .val (.int (own_I d)), .val (.int (own_I nd)), .val (.double (own_D (own_mn δ (rm (pth1 i))))), .second, .val (.int ((own_I i) + (1 : Int32)))]) rfl k)
              show own_Go p e below PO (T9.setTop (mkF m 201 #[.val (.ref aG), .val (.int (own_I s0)), .val (.int (own_I t0)), .val (.int (own_I d)), .val (.int (own_I nd)), .val (.double (own_D (own_mn δ (rm (pth1 i))))), .second, .val (.int ((own_I i) + (1 : Int32)))] []))
              refine own_sub (A := Int32) (x := ((own_I i) + (1 : Int32))) (y := (own_I (i + 1))) (fun cv => own_Go p e below PO (T9.setTop (mkF m 201 #[.val (.ref aG), .val (.int (own_I s0)), .val (.int (own_I t0)), .val (.int (own_I d)), .val (.int (own_I nd)), .val (.double (own_D (own_mn δ (rm (pth1 i))))), .second, .val (.int cv)] []))) (own_add1 _) ?_
              show own_Go p e below PO (T9.setTop (mkF m 201 #[.val (.ref aG), .val (.int (own_I s0)), .val (.int (own_I t0)), .val (.int (own_I d)), .val (.int (own_I nd)), .val (.double (own_D (own_mn δ (rm (pth1 i))))), .second, .val (.int (own_I (i + 1)))] []))
              refine own_back ?_ (fun t k => XS.goto X9.here hx rfl (pc0 := 201) (pc' := 173) rfl (hb hby d15_201) (by decide) (by decide) k)
              show own_Go p e below PO (T9.setTop (mkF m 173 #[.val (.ref aG), .val (.int (own_I s0)), .val (.int (own_I t0)), .val (.int (own_I d)), .val (.int (own_I nd)), .val (.double (own_D (own_mn δ (rm (pth1 i))))), .second, .val (.int (own_I (i + 1)))] []))
              exact ih_LN _ _ _ X9 e9 (own_MI_step hI il pf.2.1) (by omega)
            refine own_back ?_ (fun t k => XS.icmpYes X3.here hx rfl (pc0 := 176) (pc' := 204) rfl (hb hby d15_176) rfl (flt hc176_6).2.1 (by decide) (by decide) k)
            show own_Go p e below PO (T3.setTop (mkF m 204 #[.val (.ref aG), .val (.int (own_I s0)), .val (.int (own_I t0)), .val (.int (own_I d)), .val (.int (own_I nd)), .val (.double (own_D δ)), .second, .val (.int (own_I i))] []))
            have ie : i = d := by have := mt (own_lt (by omega) (by omega)).mpr hc176_6; omega
            rw [ie] at hI
            refine own_back ?_ (fun t k => XS.iconst X3.here hx rfl (hb hby d15_204) k)
            show own_Go p e below PO (T3.setTop (mkF m 205 #[.val (.ref aG), .val (.int (own_I s0)), .val (.int (own_I t0)), .val (.int (own_I d)), .val (.int (own_I nd)), .val (.double (own_D δ)), .second, .val (.int (own_I i))] [(.int (0 : Int32))]))
            refine own_back ?_ (fun t k => XS.istore X3.here hx rfl (hb hby d15_205) rfl (l' := #[.val (.ref aG), .val (.int (own_I s0)), .val (.int (own_I t0)), .val (.int (own_I d)), .val (.int (own_I nd)), .val (.double (own_D δ)), .second, .val (.int (0 : Int32))]) rfl k)
            show own_Go p e below PO (T3.setTop (mkF m 207 #[.val (.ref aG), .val (.int (own_I s0)), .val (.int (own_I t0)), .val (.int (own_I d)), .val (.int (own_I nd)), .val (.double (own_D δ)), .second, .val (.int (0 : Int32))] []))
            refine own_sub (A := Int32) (x := (0 : Int32)) (y := (own_I 0)) (fun cv => own_Go p e below PO (T3.setTop (mkF m 207 #[.val (.ref aG), .val (.int (own_I s0)), .val (.int (own_I t0)), .val (.int (own_I d)), .val (.int (own_I nd)), .val (.double (own_D δ)), .second, .val (.int cv)] []))) own_i0.symm ?_
            show own_Go p e below PO (T3.setTop (mkF m 207 #[.val (.ref aG), .val (.int (own_I s0)), .val (.int (own_I t0)), .val (.int (own_I d)), .val (.int (own_I nd)), .val (.double (own_D δ)), .second, .val (.int (own_I 0))] []))
            have LU : ∀ (k4 : Nat) (T4 : State) (H4 : Heap) (lc4 : List Loc) (ρ : Int → Int) (j : Int), Stand p l e ({ frames := 1, cells := 0, slots := 0, locals := 15 } : Room) s m #[(.ref aG), (.int (own_I s0)), (.int (own_I t0))] below meth c T4 lc4 0 0 → T4.heap = H4 → Fr n0 lc4 → Keep h0 H4 [aG, aF, aN, aH, aR, aL, aA, aQ, aP] → own_S Z H4 aG aF aN aH aR aL aA aQ aP kF kN kH kR kL kA kQ kP (4 : Int32) ec fst nxt hd ρ lev1 arc1 que pth1 → own_UI E tl hd rm s0 pth1 d δ ρ j → (d - j).toNat < k4 → own_Go p e below PO (T4.setTop (mkF m 207 #[.val (.ref aG), .val (.int (own_I s0)), .val (.int (own_I t0)), .val (.int (own_I d)), .val (.int (own_I nd)), .val (.double (own_D δ)), .second, .val (.int (own_I j))] [])) := by
              intro k4
              induction k4 with
              | zero =>
                intro T4 H4 lc4 ρ j X4 eT4 N4 K4 hS4 hU hm4
                exact absurd hm4 (Nat.not_lt_zero _)
              | succ k4 ih_LU =>
                intro T4 H4 lc4 ρ j X4 eT4 N4 K4 hS4 hU hm4
                have Zh4 : n0 ≤ H4.size := Nat.le_trans Z0 K4.1
                obtain ⟨E_G4, F_nodeCount4, F_edgeCount4, F_first4, F_next4, F_head4, F_room4, F_level4, F_arc4, F_queue4, F_path4, V_F4, V_N4, V_H4, V_R4, V_L4, V_A4, V_Q4, V_P4⟩ := hS4
                have hU' := hU
                obtain ⟨u1, u2, u3, u4⟩ := hU'
                show own_Go p e below PO (T4.setTop (mkF m 207 #[.val (.ref aG), .val (.int (own_I s0)), .val (.int (own_I t0)), .val (.int (own_I d)), .val (.int (own_I nd)), .val (.double (own_D δ)), .second, .val (.int (own_I j))] []))
                refine own_back ?_ (fun t k => XS.iload X4.here hx rfl (hb hby d15_207) rfl k)
                show own_Go p e below PO (T4.setTop (mkF m 209 #[.val (.ref aG), .val (.int (own_I s0)), .val (.int (own_I t0)), .val (.int (own_I d)), .val (.int (own_I nd)), .val (.double (own_D δ)), .second, .val (.int (own_I j))] [(.int (own_I j))]))
                refine own_back ?_ (fun t k => XS.iloadN X4.here hx rfl (hb hby d15_209) rfl k)
                show own_Go p e below PO (T4.setTop (mkF m 210 #[.val (.ref aG), .val (.int (own_I s0)), .val (.int (own_I t0)), .val (.int (own_I d)), .val (.int (own_I nd)), .val (.double (own_D δ)), .second, .val (.int (own_I j))] [(.int (own_I d)), (.int (own_I j))]))
                by_cases hc210_10 : (own_I j) < (own_I d)
                case pos =>
                  refine own_back ?_ (fun t k => XS.icmpNo X4.here hx rfl (hb hby d15_210) rfl (tlt hc210_10).2.1 k)
                  show own_Go p e below PO (T4.setTop (mkF m 213 #[.val (.ref aG), .val (.int (own_I s0)), .val (.int (own_I t0)), .val (.int (own_I d)), .val (.int (own_I nd)), .val (.double (own_D δ)), .second, .val (.int (own_I j))] []))
                  have jl : j < d := (own_lt (by omega) (by omega)).mp hc210_10
                  have pf4 := own_PF hG hR hD (i := j) u1.1 jl
                  have rb4 := own_R_b u2 hG.2.1 pf4.1.1 pf4.1.2
                  have fb4 := own_f_b pf4.1.1 pf4.1.2 hG.2.1
                  have rf4 := own_R_b u2 hG.2.1 fb4.1 fb4.2
                  have uo4 : own_up ρ (pth1 j) (ρ (pth1 j) - δ) (own_f (pth1 j)) = ρ (own_f (pth1 j)) := own_up_o (own_f_n _)
                  refine own_back ?_ (fun t k => XS.aloadN X4.here hx rfl (hb hby d15_213) rfl rfl k)
                  show own_Go p e below PO (T4.setTop (mkF m 214 #[.val (.ref aG), .val (.int (own_I s0)), .val (.int (own_I t0)), .val (.int (own_I d)), .val (.int (own_I nd)), .val (.double (own_D δ)), .second, .val (.int (own_I j))] [(.ref aG)]))
                  obtain ⟨T11, X11, e11, st11⟩ := getF X4 hx hZ hown (host := "") (Or.inl (hw _ (List.mem_of_getElem? (i := 21) rfl))) Via.refl eT4 F_room4 (g := (mkF m 214 #[.val (.ref aG), .val (.int (own_I s0)), .val (.int (own_I t0)), .val (.int (own_I d)), .val (.int (own_I nd)), .val (.double (own_D δ)), .second, .val (.int (own_I j))] [(.ref aG)])) rfl rfl (hb hby d15_214)
                  refine own_back ?_ st11
                  show own_Go p e below PO (T11.setTop (mkF m 217 #[.val (.ref aG), .val (.int (own_I s0)), .val (.int (own_I t0)), .val (.int (own_I d)), .val (.int (own_I nd)), .val (.double (own_D δ)), .second, .val (.int (own_I j))] [(.ref aR)]))
                  refine own_back ?_ (fun t k => XS.aloadN X11.here hx rfl (hb hby d15_217) rfl rfl k)
                  show own_Go p e below PO (T11.setTop (mkF m 218 #[.val (.ref aG), .val (.int (own_I s0)), .val (.int (own_I t0)), .val (.int (own_I d)), .val (.int (own_I nd)), .val (.double (own_D δ)), .second, .val (.int (own_I j))] [(.ref aG), (.ref aR)]))
                  obtain ⟨T12, X12, e12, st12⟩ := getF X11 hx hZ hown (host := "") (Or.inl (hw _ (List.mem_of_getElem? (i := 29) rfl))) Via.refl e11 F_path4 (g := (mkF m 218 #[.val (.ref aG), .val (.int (own_I s0)), .val (.int (own_I t0)), .val (.int (own_I d)), .val (.int (own_I nd)), .val (.double (own_D δ)), .second, .val (.int (own_I j))] [(.ref aG), (.ref aR)])) rfl rfl (hb hby d15_218)
                  refine own_back ?_ st12
                  show own_Go p e below PO (T12.setTop (mkF m 221 #[.val (.ref aG), .val (.int (own_I s0)), .val (.int (own_I t0)), .val (.int (own_I d)), .val (.int (own_I nd)), .val (.double (own_D δ)), .second, .val (.int (own_I j))] [(.ref aP), (.ref aR)]))
                  refine own_back ?_ (fun t k => XS.iload X12.here hx rfl (hb hby d15_221) rfl k)
                  show own_Go p e below PO (T12.setTop (mkF m 223 #[.val (.ref aG), .val (.int (own_I s0)), .val (.int (own_I t0)), .val (.int (own_I d)), .val (.int (own_I nd)), .val (.double (own_D δ)), .second, .val (.int (own_I j))] [(.int (own_I j)), (.ref aP), (.ref aR)]))
                  refine own_back ?_ (own_ldI X12 hx hZ e12 V_P4 (j := (own_I j)) (v := (.int (own_I (pth1 j)))) (own_inb (z := j) (by omega)) (own_get (by omega)) (g := (mkF m 223 #[.val (.ref aG), .val (.int (own_I s0)), .val (.int (own_I t0)), .val (.int (own_I d)), .val (.int (own_I nd)), .val (.double (own_D δ)), .second, .val (.int (own_I j))] [(.int (own_I j)), (.ref aP), (.ref aR)])) rfl rfl (hb hby d15_223))
                  show own_Go p e below PO (T12.setTop (mkF m 224 #[.val (.ref aG), .val (.int (own_I s0)), .val (.int (own_I t0)), .val (.int (own_I d)), .val (.int (own_I nd)), .val (.double (own_D δ)), .second, .val (.int (own_I j))] [(.int (own_I (pth1 j))), (.ref aR)]))
                  refine own_back ?_ (fun t k => Jvm.Free.XT.dup2 X12.here hx rfl (hb hby d15_224) rfl rfl rfl k)
                  show own_Go p e below PO (T12.setTop (mkF m 225 #[.val (.ref aG), .val (.int (own_I s0)), .val (.int (own_I t0)), .val (.int (own_I d)), .val (.int (own_I nd)), .val (.double (own_D δ)), .second, .val (.int (own_I j))] [(.int (own_I (pth1 j))), (.ref aR), (.int (own_I (pth1 j))), (.ref aR)]))
                  refine own_back ?_ (own_ldD X12 hx hZ e12 V_R4 (j := (own_I (pth1 j))) (v := (.double (own_D (ρ (pth1 j))))) (own_inb (z := (pth1 j)) (by omega)) (own_getd (by omega)) (g := (mkF m 225 #[.val (.ref aG), .val (.int (own_I s0)), .val (.int (own_I t0)), .val (.int (own_I d)), .val (.int (own_I nd)), .val (.double (own_D δ)), .second, .val (.int (own_I j))] [(.int (own_I (pth1 j))), (.ref aR), (.int (own_I (pth1 j))), (.ref aR)])) rfl rfl (hb hby d15_225))
                  show own_Go p e below PO (T12.setTop (mkF m 226 #[.val (.ref aG), .val (.int (own_I s0)), .val (.int (own_I t0)), .val (.int (own_I d)), .val (.int (own_I nd)), .val (.double (own_D δ)), .second, .val (.int (own_I j))] [(.double (own_D (ρ (pth1 j)))), (.int (own_I (pth1 j))), (.ref aR)]))
                  refine own_back ?_ (fun t k => XS.dload X12.here hx rfl (hb hby d15_226) rfl k)
                  show own_Go p e below PO (T12.setTop (mkF m 228 #[.val (.ref aG), .val (.int (own_I s0)), .val (.int (own_I t0)), .val (.int (own_I d)), .val (.int (own_I nd)), .val (.double (own_D δ)), .second, .val (.int (own_I j))] [(.double (own_D δ)), (.double (own_D (ρ (pth1 j)))), (.int (own_I (pth1 j))), (.ref aR)]))
                  refine own_back ?_ (fun t k => XS.dsubS X12.here hx rfl (v := (own_D ((ρ (pth1 j)) - δ))) (hb hby d15_228) rfl (by rw [own_dsub (x := (ρ (pth1 j))) (y := δ) (by omega) (by omega)]; exact own_nn _) (own_dsub (x := (ρ (pth1 j))) (y := δ) (by omega) (by omega)) k)
                  show own_Go p e below PO (T12.setTop (mkF m 229 #[.val (.ref aG), .val (.int (own_I s0)), .val (.int (own_I t0)), .val (.int (own_I d)), .val (.int (own_I nd)), .val (.double (own_D δ)), .second, .val (.int (own_I j))] [(.double (own_D ((ρ (pth1 j)) - δ))), (.int (own_I (pth1 j))), (.ref aR)]))
                  obtain ⟨T13, h13, X13, e13, W13, V13, st13⟩ := own_stD X12 hx hZ e12 V_R4 (j := (own_I (pth1 j))) (own_inb (z := (pth1 j)) (by omega)) (i := (own_I (pth1 j)).toNatClampNeg) rfl (own_ixd (z := (pth1 j)) _ (by omega)) (g := (mkF m 229 #[.val (.ref aG), .val (.int (own_I s0)), .val (.int (own_I t0)), .val (.int (own_I d)), .val (.int (own_I nd)), .val (.double (own_D δ)), .second, .val (.int (own_I j))] [(.double (own_D ((ρ (pth1 j)) - δ))), (.int (own_I (pth1 j))), (.ref aR)])) rfl rfl (hb hby d15_229)
                  rw [own_setd (z := (pth1 j)) (x := ((ρ (pth1 j)) - δ)) (by omega) rfl] at V13
                  have f13_14 := E_G4.wr W13
                  have f13_15 := F_nodeCount4.other W13 (Or.inl (own_ne_aG_aR hNE))
                  have f13_16 := F_edgeCount4.other W13 (Or.inl (own_ne_aG_aR hNE))
                  have f13_17 := F_first4.other W13 (Or.inl (own_ne_aG_aR hNE))
                  have f13_18 := F_next4.other W13 (Or.inl (own_ne_aG_aR hNE))
                  have f13_19 := F_head4.other W13 (Or.inl (own_ne_aG_aR hNE))
                  have f13_20 := F_room4.other W13 (Or.inl (own_ne_aG_aR hNE))
                  have f13_21 := F_level4.other W13 (Or.inl (own_ne_aG_aR hNE))
                  have f13_22 := F_arc4.other W13 (Or.inl (own_ne_aG_aR hNE))
                  have f13_23 := F_queue4.other W13 (Or.inl (own_ne_aG_aR hNE))
                  have f13_24 := F_path4.other W13 (Or.inl (own_ne_aG_aR hNE))
                  have f13_25 := V_F4.other W13 (own_ne_aF_aR hNE)
                  have f13_26 := V_N4.other W13 (own_ne_aN_aR hNE)
                  have f13_27 := V_H4.other W13 (own_ne_aH_aR hNE)
                  have f13_28 := V_L4.other W13 (Ne.symm (own_ne_aR_aL hNE))
                  have f13_29 := V_A4.other W13 (Ne.symm (own_ne_aR_aA hNE))
                  have f13_30 := V_Q4.other W13 (Ne.symm (own_ne_aR_aQ hNE))
                  have f13_31 := V_P4.other W13 (Ne.symm (own_ne_aR_aP hNE))
                  have K13 : Keep h0 h13 [aG, aF, aN, aH, aR, aL, aA, aQ, aP] := (K4).wr W13 (Or.inl (by simp))
                  have N13 := Fr.snoc X13 N4 gn_aR
                  have Zh13 : n0 ≤ h13.size := Nat.le_trans Z0 K13.1
                  refine own_back ?_ st13
                  show own_Go p e below PO (T13.setTop (mkF m 230 #[.val (.ref aG), .val (.int (own_I s0)), .val (.int (own_I t0)), .val (.int (own_I d)), .val (.int (own_I nd)), .val (.double (own_D δ)), .second, .val (.int (own_I j))] []))
                  refine own_back ?_ (fun t k => XS.aloadN X13.here hx rfl (hb hby d15_230) rfl rfl k)
                  show own_Go p e below PO (T13.setTop (mkF m 231 #[.val (.ref aG), .val (.int (own_I s0)), .val (.int (own_I t0)), .val (.int (own_I d)), .val (.int (own_I nd)), .val (.double (own_D δ)), .second, .val (.int (own_I j))] [(.ref aG)]))
                  obtain ⟨T32, X32, e32, st32⟩ := getF X13 hx hZ hown (host := "") (Or.inl (hw _ (List.mem_of_getElem? (i := 21) rfl))) Via.refl e13 f13_20 (g := (mkF m 231 #[.val (.ref aG), .val (.int (own_I s0)), .val (.int (own_I t0)), .val (.int (own_I d)), .val (.int (own_I nd)), .val (.double (own_D δ)), .second, .val (.int (own_I j))] [(.ref aG)])) rfl rfl (hb hby d15_231)
                  refine own_back ?_ st32
                  show own_Go p e below PO (T32.setTop (mkF m 234 #[.val (.ref aG), .val (.int (own_I s0)), .val (.int (own_I t0)), .val (.int (own_I d)), .val (.int (own_I nd)), .val (.double (own_D δ)), .second, .val (.int (own_I j))] [(.ref aR)]))
                  refine own_back ?_ (fun t k => XS.aloadN X32.here hx rfl (hb hby d15_234) rfl rfl k)
                  show own_Go p e below PO (T32.setTop (mkF m 235 #[.val (.ref aG), .val (.int (own_I s0)), .val (.int (own_I t0)), .val (.int (own_I d)), .val (.int (own_I nd)), .val (.double (own_D δ)), .second, .val (.int (own_I j))] [(.ref aG), (.ref aR)]))
                  obtain ⟨T33, X33, e33, st33⟩ := getF X32 hx hZ hown (host := "") (Or.inl (hw _ (List.mem_of_getElem? (i := 29) rfl))) Via.refl e32 f13_24 (g := (mkF m 235 #[.val (.ref aG), .val (.int (own_I s0)), .val (.int (own_I t0)), .val (.int (own_I d)), .val (.int (own_I nd)), .val (.double (own_D δ)), .second, .val (.int (own_I j))] [(.ref aG), (.ref aR)])) rfl rfl (hb hby d15_235)
                  refine own_back ?_ st33
                  show own_Go p e below PO (T33.setTop (mkF m 238 #[.val (.ref aG), .val (.int (own_I s0)), .val (.int (own_I t0)), .val (.int (own_I d)), .val (.int (own_I nd)), .val (.double (own_D δ)), .second, .val (.int (own_I j))] [(.ref aP), (.ref aR)]))
                  refine own_back ?_ (fun t k => XS.iload X33.here hx rfl (hb hby d15_238) rfl k)
                  show own_Go p e below PO (T33.setTop (mkF m 240 #[.val (.ref aG), .val (.int (own_I s0)), .val (.int (own_I t0)), .val (.int (own_I d)), .val (.int (own_I nd)), .val (.double (own_D δ)), .second, .val (.int (own_I j))] [(.int (own_I j)), (.ref aP), (.ref aR)]))
                  refine own_back ?_ (own_ldI X33 hx hZ e33 f13_31 (j := (own_I j)) (v := (.int (own_I (pth1 j)))) (own_inb (z := j) (by omega)) (own_get (by omega)) (g := (mkF m 240 #[.val (.ref aG), .val (.int (own_I s0)), .val (.int (own_I t0)), .val (.int (own_I d)), .val (.int (own_I nd)), .val (.double (own_D δ)), .second, .val (.int (own_I j))] [(.int (own_I j)), (.ref aP), (.ref aR)])) rfl rfl (hb hby d15_240))
                  show own_Go p e below PO (T33.setTop (mkF m 241 #[.val (.ref aG), .val (.int (own_I s0)), .val (.int (own_I t0)), .val (.int (own_I d)), .val (.int (own_I nd)), .val (.double (own_D δ)), .second, .val (.int (own_I j))] [(.int (own_I (pth1 j))), (.ref aR)]))
                  refine own_back ?_ (fun t k => XS.iconst X33.here hx rfl (hb hby d15_241) k)
                  show own_Go p e below PO (T33.setTop (mkF m 242 #[.val (.ref aG), .val (.int (own_I s0)), .val (.int (own_I t0)), .val (.int (own_I d)), .val (.int (own_I nd)), .val (.double (own_D δ)), .second, .val (.int (own_I j))] [(.int (1 : Int32)), (.int (own_I (pth1 j))), (.ref aR)]))
                  refine own_back ?_ (fun t k => XS.ixor X33.here hx rfl (hb hby d15_242) rfl k)
                  show own_Go p e below PO (T33.setTop (mkF m 243 #[.val (.ref aG), .val (.int (own_I s0)), .val (.int (own_I t0)), .val (.int (own_I d)), .val (.int (own_I nd)), .val (.double (own_D δ)), .second, .val (.int (own_I j))] [(.int ((own_I (pth1 j)) ^^^ (1 : Int32))), (.ref aR)]))
                  refine own_sub (A := Int32) (x := ((own_I (pth1 j)) ^^^ (1 : Int32))) (y := (own_I (own_f (pth1 j)))) (fun cv => own_Go p e below PO (T33.setTop (mkF m 243 #[.val (.ref aG), .val (.int (own_I s0)), .val (.int (own_I t0)), .val (.int (own_I d)), .val (.int (own_I nd)), .val (.double (own_D δ)), .second, .val (.int (own_I j))] [(.int cv), (.ref aR)]))) (own_xor (by omega)) ?_
                  show own_Go p e below PO (T33.setTop (mkF m 243 #[.val (.ref aG), .val (.int (own_I s0)), .val (.int (own_I t0)), .val (.int (own_I d)), .val (.int (own_I nd)), .val (.double (own_D δ)), .second, .val (.int (own_I j))] [(.int (own_I (own_f (pth1 j)))), (.ref aR)]))
                  refine own_back ?_ (fun t k => Jvm.Free.XT.dup2 X33.here hx rfl (hb hby d15_243) rfl rfl rfl k)
                  show own_Go p e below PO (T33.setTop (mkF m 244 #[.val (.ref aG), .val (.int (own_I s0)), .val (.int (own_I t0)), .val (.int (own_I d)), .val (.int (own_I nd)), .val (.double (own_D δ)), .second, .val (.int (own_I j))] [(.int (own_I (own_f (pth1 j)))), (.ref aR), (.int (own_I (own_f (pth1 j)))), (.ref aR)]))
                  refine own_back ?_ (own_ldD X33 hx hZ e33 V13 (j := (own_I (own_f (pth1 j)))) (v := (.double (own_D ((own_up ρ (pth1 j) ((ρ (pth1 j)) - δ)) (own_f (pth1 j)))))) (own_inb (z := (own_f (pth1 j))) (by omega)) (own_getd (by omega)) (g := (mkF m 244 #[.val (.ref aG), .val (.int (own_I s0)), .val (.int (own_I t0)), .val (.int (own_I d)), .val (.int (own_I nd)), .val (.double (own_D δ)), .second, .val (.int (own_I j))] [(.int (own_I (own_f (pth1 j)))), (.ref aR), (.int (own_I (own_f (pth1 j)))), (.ref aR)])) rfl rfl (hb hby d15_244))
                  show own_Go p e below PO (T33.setTop (mkF m 245 #[.val (.ref aG), .val (.int (own_I s0)), .val (.int (own_I t0)), .val (.int (own_I d)), .val (.int (own_I nd)), .val (.double (own_D δ)), .second, .val (.int (own_I j))] [(.double (own_D ((own_up ρ (pth1 j) ((ρ (pth1 j)) - δ)) (own_f (pth1 j))))), (.int (own_I (own_f (pth1 j)))), (.ref aR)]))
                  refine own_back ?_ (fun t k => XS.dload X33.here hx rfl (hb hby d15_245) rfl k)
                  show own_Go p e below PO (T33.setTop (mkF m 247 #[.val (.ref aG), .val (.int (own_I s0)), .val (.int (own_I t0)), .val (.int (own_I d)), .val (.int (own_I nd)), .val (.double (own_D δ)), .second, .val (.int (own_I j))] [(.double (own_D δ)), (.double (own_D ((own_up ρ (pth1 j) ((ρ (pth1 j)) - δ)) (own_f (pth1 j))))), (.int (own_I (own_f (pth1 j)))), (.ref aR)]))
                  refine own_back ?_ (fun t k => XS.daddS X33.here hx rfl (v := (own_D (((own_up ρ (pth1 j) ((ρ (pth1 j)) - δ)) (own_f (pth1 j))) + δ))) (hb hby d15_247) rfl (by rw [own_dadd (x := ((own_up ρ (pth1 j) ((ρ (pth1 j)) - δ)) (own_f (pth1 j)))) (y := δ) (by omega) (by omega)]; exact own_nn _) (own_dadd (x := ((own_up ρ (pth1 j) ((ρ (pth1 j)) - δ)) (own_f (pth1 j)))) (y := δ) (by omega) (by omega)) k)
                  show own_Go p e below PO (T33.setTop (mkF m 248 #[.val (.ref aG), .val (.int (own_I s0)), .val (.int (own_I t0)), .val (.int (own_I d)), .val (.int (own_I nd)), .val (.double (own_D δ)), .second, .val (.int (own_I j))] [(.double (own_D (((own_up ρ (pth1 j) ((ρ (pth1 j)) - δ)) (own_f (pth1 j))) + δ))), (.int (own_I (own_f (pth1 j)))), (.ref aR)]))
                  obtain ⟨T34, h34, X34, e34, W34, V34, st34⟩ := own_stD X33 hx hZ e33 V13 (j := (own_I (own_f (pth1 j)))) (own_inb (z := (own_f (pth1 j))) (by omega)) (i := (own_I (own_f (pth1 j))).toNatClampNeg) rfl (own_ixd (z := (own_f (pth1 j))) _ (by omega)) (g := (mkF m 248 #[.val (.ref aG), .val (.int (own_I s0)), .val (.int (own_I t0)), .val (.int (own_I d)), .val (.int (own_I nd)), .val (.double (own_D δ)), .second, .val (.int (own_I j))] [(.double (own_D (((own_up ρ (pth1 j) ((ρ (pth1 j)) - δ)) (own_f (pth1 j))) + δ))), (.int (own_I (own_f (pth1 j)))), (.ref aR)])) rfl rfl (hb hby d15_248)
                  rw [own_setd (z := (own_f (pth1 j))) (x := (((own_up ρ (pth1 j) ((ρ (pth1 j)) - δ)) (own_f (pth1 j))) + δ)) (by omega) rfl] at V34
                  have f34_35 := f13_14.wr W34
                  have f34_36 := f13_15.other W34 (Or.inl (own_ne_aG_aR hNE))
                  have f34_37 := f13_16.other W34 (Or.inl (own_ne_aG_aR hNE))
                  have f34_38 := f13_17.other W34 (Or.inl (own_ne_aG_aR hNE))
                  have f34_39 := f13_18.other W34 (Or.inl (own_ne_aG_aR hNE))
                  have f34_40 := f13_19.other W34 (Or.inl (own_ne_aG_aR hNE))
                  have f34_41 := f13_20.other W34 (Or.inl (own_ne_aG_aR hNE))
                  have f34_42 := f13_21.other W34 (Or.inl (own_ne_aG_aR hNE))
                  have f34_43 := f13_22.other W34 (Or.inl (own_ne_aG_aR hNE))
                  have f34_44 := f13_23.other W34 (Or.inl (own_ne_aG_aR hNE))
                  have f34_45 := f13_24.other W34 (Or.inl (own_ne_aG_aR hNE))
                  have f34_46 := f13_25.other W34 (own_ne_aF_aR hNE)
                  have f34_47 := f13_26.other W34 (own_ne_aN_aR hNE)
                  have f34_48 := f13_27.other W34 (own_ne_aH_aR hNE)
                  have f34_49 := f13_28.other W34 (Ne.symm (own_ne_aR_aL hNE))
                  have f34_50 := f13_29.other W34 (Ne.symm (own_ne_aR_aA hNE))
                  have f34_51 := f13_30.other W34 (Ne.symm (own_ne_aR_aQ hNE))
                  have f34_52 := f13_31.other W34 (Ne.symm (own_ne_aR_aP hNE))
                  have K34 : Keep h0 h34 [aG, aF, aN, aH, aR, aL, aA, aQ, aP] := (K13).wr W34 (Or.inl (by simp))
                  have N34 := Fr.snoc X34 N13 gn_aR
                  have Zh34 : n0 ≤ h34.size := Nat.le_trans Z0 K34.1
                  refine own_back ?_ st34
                  show own_Go p e below PO (T34.setTop (mkF m 249 #[.val (.ref aG), .val (.int (own_I s0)), .val (.int (own_I t0)), .val (.int (own_I d)), .val (.int (own_I nd)), .val (.double (own_D δ)), .second, .val (.int (own_I j))] []))
                  refine own_back ?_ (fun t k => XS.iinc X34.here hx rfl (hb hby d15_249) rfl (l' := #[.val (.ref aG), .val (.int (own_I s0)), .val (.int (own_I t0)), .val (.int (own_I d)), .val (.int (own_I nd)), .val (.double (own_D δ)), .second, .val (.int ((own_I j) + (1 : Int32)))]) rfl k)
                  show own_Go p e below PO (T34.setTop (mkF m 252 #[.val (.ref aG), .val (.int (own_I s0)), .val (.int (own_I t0)), .val (.int (own_I d)), .val (.int (own_I nd)), .val (.double (own_D δ)), .second, .val (.int ((own_I j) + (1 : Int32)))] []))
                  refine own_sub (A := Int32) (x := ((own_I j) + (1 : Int32))) (y := (own_I (j + 1))) (fun cv => own_Go p e below PO (T34.setTop (mkF m 252 #[.val (.ref aG), .val (.int (own_I s0)), .val (.int (own_I t0)), .val (.int (own_I d)), .val (.int (own_I nd)), .val (.double (own_D δ)), .second, .val (.int cv)] []))) (own_add1 _) ?_
                  show own_Go p e below PO (T34.setTop (mkF m 252 #[.val (.ref aG), .val (.int (own_I s0)), .val (.int (own_I t0)), .val (.int (own_I d)), .val (.int (own_I nd)), .val (.double (own_D δ)), .second, .val (.int (own_I (j + 1)))] []))
                  refine own_back ?_ (fun t k => XS.goto X34.here hx rfl (pc0 := 252) (pc' := 207) rfl (hb hby d15_252) (by decide) (by decide) k)
                  show own_Go p e below PO (T34.setTop (mkF m 207 #[.val (.ref aG), .val (.int (own_I s0)), .val (.int (own_I t0)), .val (.int (own_I d)), .val (.int (own_I nd)), .val (.double (own_D δ)), .second, .val (.int (own_I (j + 1)))] []))
                  exact ih_LU _ _ _ (own_stp ρ (pth1 j) δ) _ X34 e34 N34 K34 ⟨f34_35, f34_36, f34_37, f34_38, f34_39, f34_40, f34_41, f34_42, f34_43, f34_44, f34_45, f34_46, f34_47, f34_48, V34, f34_49, f34_50, f34_51, f34_52⟩ (own_UI_step hG hD (by omega) hU jl) (by omega)
                refine own_back ?_ (fun t k => XS.icmpYes X4.here hx rfl (pc0 := 210) (pc' := 255) rfl (hb hby d15_210) rfl (flt hc210_10).2.1 (by decide) (by decide) k)
                show own_Go p e below PO (T4.setTop (mkF m 255 #[.val (.ref aG), .val (.int (own_I s0)), .val (.int (own_I t0)), .val (.int (own_I d)), .val (.int (own_I nd)), .val (.double (own_D δ)), .second, .val (.int (own_I j))] []))
                refine own_back ?_ (fun t k => XS.iconst X4.here hx rfl (hb hby d15_255) k)
                show own_Go p e below PO (T4.setTop (mkF m 256 #[.val (.ref aG), .val (.int (own_I s0)), .val (.int (own_I t0)), .val (.int (own_I d)), .val (.int (own_I nd)), .val (.double (own_D δ)), .second, .val (.int (own_I j))] [(.int (1 : Int32))]))
                refine own_retN X4 hx (t := .boolean) (rest := []) Bd.returns (by decide) (by simp) (hb hby d15_256) eT4 (Bd.notSynchronized) ?_ (by decide) (by decide)
                exact ⟨_, _, _, _, _, rfl, N4, K4, ⟨E_G4, F_nodeCount4, F_edgeCount4, F_first4, F_next4, F_head4, F_room4, F_level4, F_arc4, F_queue4, F_path4, V_F4, V_N4, V_H4, V_R4, V_L4, V_A4, V_Q4, V_P4⟩, Or.inr ⟨rfl, own_UI_end hD nt mi2.1 hU (fun h => hc210_10 ((own_lt (by omega) (by omega)).mpr h)), hD.1⟩⟩
            exact LU 100 _ _ _ _ 0 X3 eT3 N1 K1 ⟨E_G1, F_nodeCount1, F_edgeCount1, F_first1, F_next1, F_head1, F_room1, F_level1, F_arc1, F_queue1, F_path1, V_F1, V_N1, V_H1, V_R1, V_L1, V_A1, V_Q1, V_P1⟩ (own_UI_init hR hI) (by omega)
        exact LN 100 _ 1 (rm (pth1 0)) X5 e5 (own_MI_init d1 pf.2) (by omega)
      refine own_back ?_ (fun t k => XS.icmpNo X1.here hx rfl (hb hby d15_8) rfl (feq hc8_1).1 k)
      show own_Go p e below PO (T1.setTop (mkF m 11 #[.val (.ref aG), .val (.int (own_I s0)), .val (.int (own_I t0)), .val (.int (own_I d)), .val (.int (own_I nd)), x5, x6, .unset] []))
      have nt : nd ≠ t0 := fun z => hc8_1 (by rw [z])
      have ab := (hD.1.1 nd nb.1 nb.2).2
      refine own_back ?_ (fun t k => XS.aloadN X1.here hx rfl (hb hby d15_11) rfl rfl k)
      show own_Go p e below PO (T1.setTop (mkF m 12 #[.val (.ref aG), .val (.int (own_I s0)), .val (.int (own_I t0)), .val (.int (own_I d)), .val (.int (own_I nd)), x5, x6, .unset] [(.ref aG)]))
      obtain ⟨T53, X53, e53, st53⟩ := getF X1 hx hZ hown (host := "") (Or.inl (hw _ (List.mem_of_getElem? (i := 25) rfl))) Via.refl eT1 F_arc1 (g := (mkF m 12 #[.val (.ref aG), .val (.int (own_I s0)), .val (.int (own_I t0)), .val (.int (own_I d)), .val (.int (own_I nd)), x5, x6, .unset] [(.ref aG)])) rfl rfl (hb hby d15_12)
      refine own_back ?_ st53
      show own_Go p e below PO (T53.setTop (mkF m 15 #[.val (.ref aG), .val (.int (own_I s0)), .val (.int (own_I t0)), .val (.int (own_I d)), .val (.int (own_I nd)), x5, x6, .unset] [(.ref aA)]))
      refine own_back ?_ (fun t k => XS.iload X53.here hx rfl (hb hby d15_15) rfl k)
      show own_Go p e below PO (T53.setTop (mkF m 17 #[.val (.ref aG), .val (.int (own_I s0)), .val (.int (own_I t0)), .val (.int (own_I d)), .val (.int (own_I nd)), x5, x6, .unset] [(.int (own_I nd)), (.ref aA)]))
      refine own_back ?_ (own_ldI X53 hx hZ e53 V_A1 (j := (own_I nd)) (v := (.int (own_I (arc1 nd)))) (own_inb (z := nd) (by omega)) (own_get (by omega)) (g := (mkF m 17 #[.val (.ref aG), .val (.int (own_I s0)), .val (.int (own_I t0)), .val (.int (own_I d)), .val (.int (own_I nd)), x5, x6, .unset] [(.int (own_I nd)), (.ref aA)])) rfl rfl (hb hby d15_17))
      show own_Go p e below PO (T53.setTop (mkF m 18 #[.val (.ref aG), .val (.int (own_I s0)), .val (.int (own_I t0)), .val (.int (own_I d)), .val (.int (own_I nd)), x5, x6, .unset] [(.int (own_I (arc1 nd)))]))
      refine own_back ?_ (fun t k => XS.istore X53.here hx rfl (hb hby d15_18) rfl (l' := #[.val (.ref aG), .val (.int (own_I s0)), .val (.int (own_I t0)), .val (.int (own_I d)), .val (.int (own_I nd)), .val (.int (own_I (arc1 nd))), x6, .unset]) (by rcases h_x5 with rfl | ⟨w5, rfl⟩ <;> rfl) k)
      show own_Go p e below PO (T53.setTop (mkF m 20 #[.val (.ref aG), .val (.int (own_I s0)), .val (.int (own_I t0)), .val (.int (own_I d)), .val (.int (own_I nd)), .val (.int (own_I (arc1 nd))), x6, .unset] []))
      have LS : ∀ (k : Nat) (T2 : State) (z : Int), Stand p l e ({ frames := 1, cells := 0, slots := 0, locals := 15 } : Room) s m #[(.ref aG), (.int (own_I s0)), (.int (own_I t0))] below meth c T2 lc1 0 0 → T2.heap = H1 → own_SC E tl hd rm lev1 Gd nd z → (z + 1).toNat < k → own_Go p e below PO (T2.setTop (mkF m 20 #[.val (.ref aG), .val (.int (own_I s0)), .val (.int (own_I t0)), .val (.int (own_I d)), .val (.int (own_I nd)), .val (.int (own_I z)), x6, .unset] [])) := by
        intro k
        induction k with
        | zero =>
          intro T2 z X2 eT2 hC hm2
          exact absurd hm2 (Nat.not_lt_zero _)
        | succ k ih_LS =>
          intro T2 z X2 eT2 hC hm2
          have s1 := hC.1
          have s2 := hC.2.1
          show own_Go p e below PO (T2.setTop (mkF m 20 #[.val (.ref aG), .val (.int (own_I s0)), .val (.int (own_I t0)), .val (.int (own_I d)), .val (.int (own_I nd)), .val (.int (own_I z)), x6, .unset] []))
          refine own_back ?_ (fun t k => XS.iload X2.here hx rfl (hb hby d15_20) rfl k)
          show own_Go p e below PO (T2.setTop (mkF m 22 #[.val (.ref aG), .val (.int (own_I s0)), .val (.int (own_I t0)), .val (.int (own_I d)), .val (.int (own_I nd)), .val (.int (own_I z)), x6, .unset] [(.int (own_I z))]))
          by_cases hc22_54 : (own_I z) < (0 : Int32)
          case pos =>
            refine own_back ?_ (fun t k => XS.ifYes X2.here hx rfl (pc0 := 22) (pc' := 73) rfl (hb hby d15_22) rfl ((if0 _ _).trans (tlt hc22_54).1) (by decide) (by decide) k)
            show own_Go p e below PO (T2.setTop (mkF m 73 #[.val (.ref aG), .val (.int (own_I s0)), .val (.int (own_I t0)), .val (.int (own_I d)), .val (.int (own_I nd)), .val (.int (own_I z)), x6, .unset] []))
            have zn : z < 0 := (own_lt0 (by omega)).mp hc22_54
            refine own_back ?_ (fun t k => XS.aloadN X2.here hx rfl (hb hby d15_73) rfl rfl k)
            show own_Go p e below PO (T2.setTop (mkF m 74 #[.val (.ref aG), .val (.int (own_I s0)), .val (.int (own_I t0)), .val (.int (own_I d)), .val (.int (own_I nd)), .val (.int (own_I z)), x6, .unset] [(.ref aG)]))
            obtain ⟨T55, X55, e55, st55⟩ := getF X2 hx hZ hown (host := "") (Or.inl (hw _ (List.mem_of_getElem? (i := 25) rfl))) Via.refl eT2 F_arc1 (g := (mkF m 74 #[.val (.ref aG), .val (.int (own_I s0)), .val (.int (own_I t0)), .val (.int (own_I d)), .val (.int (own_I nd)), .val (.int (own_I z)), x6, .unset] [(.ref aG)])) rfl rfl (hb hby d15_74)
            refine own_back ?_ st55
            show own_Go p e below PO (T55.setTop (mkF m 77 #[.val (.ref aG), .val (.int (own_I s0)), .val (.int (own_I t0)), .val (.int (own_I d)), .val (.int (own_I nd)), .val (.int (own_I z)), x6, .unset] [(.ref aA)]))
            refine own_back ?_ (fun t k => XS.iload X55.here hx rfl (hb hby d15_77) rfl k)
            show own_Go p e below PO (T55.setTop (mkF m 79 #[.val (.ref aG), .val (.int (own_I s0)), .val (.int (own_I t0)), .val (.int (own_I d)), .val (.int (own_I nd)), .val (.int (own_I z)), x6, .unset] [(.int (own_I nd)), (.ref aA)]))
            refine own_back ?_ (fun t k => XS.iload X55.here hx rfl (hb hby d15_79) rfl k)
            show own_Go p e below PO (T55.setTop (mkF m 81 #[.val (.ref aG), .val (.int (own_I s0)), .val (.int (own_I t0)), .val (.int (own_I d)), .val (.int (own_I nd)), .val (.int (own_I z)), x6, .unset] [(.int (own_I z)), (.int (own_I nd)), (.ref aA)]))
            obtain ⟨T56, h56, X56, e56, W56, V56, st56⟩ := own_stI X55 hx hZ e55 V_A1 (j := (own_I nd)) (own_inb (z := nd) (by omega)) (i := (own_I nd).toNatClampNeg) rfl (own_ixi (z := nd) _ (by omega)) (g := (mkF m 81 #[.val (.ref aG), .val (.int (own_I s0)), .val (.int (own_I t0)), .val (.int (own_I d)), .val (.int (own_I nd)), .val (.int (own_I z)), x6, .unset] [(.int (own_I z)), (.int (own_I nd)), (.ref aA)])) rfl rfl (hb hby d15_81)
            rw [own_set (z := nd) (x := z) (by omega) rfl] at V56
            have f56_57 := E_G1.wr W56
            have f56_58 := F_nodeCount1.other W56 (Or.inl (own_ne_aG_aA hNE))
            have f56_59 := F_edgeCount1.other W56 (Or.inl (own_ne_aG_aA hNE))
            have f56_60 := F_first1.other W56 (Or.inl (own_ne_aG_aA hNE))
            have f56_61 := F_next1.other W56 (Or.inl (own_ne_aG_aA hNE))
            have f56_62 := F_head1.other W56 (Or.inl (own_ne_aG_aA hNE))
            have f56_63 := F_room1.other W56 (Or.inl (own_ne_aG_aA hNE))
            have f56_64 := F_level1.other W56 (Or.inl (own_ne_aG_aA hNE))
            have f56_65 := F_arc1.other W56 (Or.inl (own_ne_aG_aA hNE))
            have f56_66 := F_queue1.other W56 (Or.inl (own_ne_aG_aA hNE))
            have f56_67 := F_path1.other W56 (Or.inl (own_ne_aG_aA hNE))
            have f56_68 := V_F1.other W56 (own_ne_aF_aA hNE)
            have f56_69 := V_N1.other W56 (own_ne_aN_aA hNE)
            have f56_70 := V_H1.other W56 (own_ne_aH_aA hNE)
            have f56_71 := V_R1.other W56 (own_ne_aR_aA hNE)
            have f56_72 := V_L1.other W56 (own_ne_aL_aA hNE)
            have f56_73 := V_Q1.other W56 (Ne.symm (own_ne_aA_aQ hNE))
            have f56_74 := V_P1.other W56 (Ne.symm (own_ne_aA_aP hNE))
            have K56 : Keep h0 h56 [aG, aF, aN, aH, aR, aL, aA, aQ, aP] := (K1).wr W56 (Or.inl (by simp))
            have N56 := Fr.snoc X56 N1 gn_aA
            have Zh56 : n0 ≤ h56.size := Nat.le_trans Z0 K56.1
            refine own_back ?_ st56
            show own_Go p e below PO (T56.setTop (mkF m 82 #[.val (.ref aG), .val (.int (own_I s0)), .val (.int (own_I t0)), .val (.int (own_I d)), .val (.int (own_I nd)), .val (.int (own_I z)), x6, .unset] []))
            refine own_back ?_ (fun t k => XS.iload X56.here hx rfl (hb hby d15_82) rfl k)
            show own_Go p e below PO (T56.setTop (mkF m 84 #[.val (.ref aG), .val (.int (own_I s0)), .val (.int (own_I t0)), .val (.int (own_I d)), .val (.int (own_I nd)), .val (.int (own_I z)), x6, .unset] [(.int (own_I z))]))
            refine own_back ?_ (fun t k => XS.ifYes X56.here hx rfl (pc0 := 84) (pc' := 110) rfl (hb hby d15_84) rfl ((if0 _ _).trans (tlt hc22_54).1) (by decide) (by decide) k)
            show own_Go p e below PO (T56.setTop (mkF m 110 #[.val (.ref aG), .val (.int (own_I s0)), .val (.int (own_I t0)), .val (.int (own_I d)), .val (.int (own_I nd)), .val (.int (own_I z)), x6, .unset] []))
            refine own_back ?_ (fun t k => XS.iload X56.here hx rfl (hb hby d15_110) rfl k)
            show own_Go p e below PO (T56.setTop (mkF m 112 #[.val (.ref aG), .val (.int (own_I s0)), .val (.int (own_I t0)), .val (.int (own_I d)), .val (.int (own_I nd)), .val (.int (own_I z)), x6, .unset] [(.int (own_I nd))]))
            refine own_back ?_ (fun t k => XS.iloadN X56.here hx rfl (hb hby d15_112) rfl k)
            show own_Go p e below PO (T56.setTop (mkF m 113 #[.val (.ref aG), .val (.int (own_I s0)), .val (.int (own_I t0)), .val (.int (own_I d)), .val (.int (own_I nd)), .val (.int (own_I z)), x6, .unset] [(.int (own_I s0)), (.int (own_I nd))]))
            by_cases hc113_75 : (own_I nd) = (own_I s0)
            case pos =>
              refine own_back ?_ (fun t k => XS.icmpNo X56.here hx rfl (hb hby d15_113) rfl (teq hc113_75).2 k)
              show own_Go p e below PO (T56.setTop (mkF m 116 #[.val (.ref aG), .val (.int (own_I s0)), .val (.int (own_I t0)), .val (.int (own_I d)), .val (.int (own_I nd)), .val (.int (own_I z)), x6, .unset] []))
              refine own_back ?_ (fun t k => XS.iconst X56.here hx rfl (hb hby d15_116) k)
              show own_Go p e below PO (T56.setTop (mkF m 117 #[.val (.ref aG), .val (.int (own_I s0)), .val (.int (own_I t0)), .val (.int (own_I d)), .val (.int (own_I nd)), .val (.int (own_I z)), x6, .unset] [(.int (0 : Int32))]))
              refine own_retN X56 hx (t := .boolean) (rest := []) Bd.returns (by decide) (by simp) (hb hby d15_117) e56 (Bd.notSynchronized) ?_ (by decide) (by decide)
              have ns : nd = s0 := (own_eq (by omega) (by omega)).mp hc113_75
              exact ⟨_, _, _, _, _, rfl, N56, K56, ⟨f56_57, f56_58, f56_59, f56_60, f56_61, f56_62, f56_63, f56_64, f56_65, f56_66, f56_67, f56_68, f56_69, f56_70, f56_71, f56_72, V56, f56_73, f56_74⟩, Or.inl ⟨rfl, rfl, by rw [← ns]; exact own_SC_none hC zn⟩⟩
            refine own_back ?_ (fun t k => XS.icmpYes X56.here hx rfl (pc0 := 113) (pc' := 118) rfl (hb hby d15_113) rfl (feq hc113_75).2 (by decide) (by decide) k)
            show own_Go p e below PO (T56.setTop (mkF m 118 #[.val (.ref aG), .val (.int (own_I s0)), .val (.int (own_I t0)), .val (.int (own_I d)), .val (.int (own_I nd)), .val (.int (own_I z)), x6, .unset] []))
            have ns : nd ≠ s0 := fun z => hc113_75 (by rw [z])
            obtain ⟨bk1, bk2, bk3, bk4, bk5⟩ := own_DF_back hG hs hD hC zn ns
            have fb := own_f_b bk2.1 bk2.2 hG.2.1
            have hfb := (hG.1.1 _ fb.1 fb.2).2.1
            refine own_back ?_ (fun t k => XS.aloadN X56.here hx rfl (hb hby d15_118) rfl rfl k)
            show own_Go p e below PO (T56.setTop (mkF m 119 #[.val (.ref aG), .val (.int (own_I s0)), .val (.int (own_I t0)), .val (.int (own_I d)), .val (.int (own_I nd)), .val (.int (own_I z)), x6, .unset] [(.ref aG)]))
            obtain ⟨T76, X76, e76, st76⟩ := getF X56 hx hZ hown (host := "") (Or.inl (hw _ (List.mem_of_getElem? (i := 23) rfl))) Via.refl e56 f56_64 (g := (mkF m 119 #[.val (.ref aG), .val (.int (own_I s0)), .val (.int (own_I t0)), .val (.int (own_I d)), .val (.int (own_I nd)), .val (.int (own_I z)), x6, .unset] [(.ref aG)])) rfl rfl (hb hby d15_119)
            refine own_back ?_ st76
            show own_Go p e below PO (T76.setTop (mkF m 122 #[.val (.ref aG), .val (.int (own_I s0)), .val (.int (own_I t0)), .val (.int (own_I d)), .val (.int (own_I nd)), .val (.int (own_I z)), x6, .unset] [(.ref aL)]))
            refine own_back ?_ (fun t k => XS.iload X76.here hx rfl (hb hby d15_122) rfl k)
            show own_Go p e below PO (T76.setTop (mkF m 124 #[.val (.ref aG), .val (.int (own_I s0)), .val (.int (own_I t0)), .val (.int (own_I d)), .val (.int (own_I nd)), .val (.int (own_I z)), x6, .unset] [(.int (own_I nd)), (.ref aL)]))
            refine own_back ?_ (fun t k => XS.iconst X76.here hx rfl (hb hby d15_124) k)
            show own_Go p e below PO (T76.setTop (mkF m 125 #[.val (.ref aG), .val (.int (own_I s0)), .val (.int (own_I t0)), .val (.int (own_I d)), .val (.int (own_I nd)), .val (.int (own_I z)), x6, .unset] [(.int (-1 : Int32)), (.int (own_I nd)), (.ref aL)]))
            obtain ⟨T77, h77, X77, e77, W77, V77, st77⟩ := own_stI X76 hx hZ e76 f56_72 (j := (own_I nd)) (own_inb (z := nd) (by omega)) (i := (own_I nd).toNatClampNeg) rfl (own_ixi (z := nd) _ (by omega)) (g := (mkF m 125 #[.val (.ref aG), .val (.int (own_I s0)), .val (.int (own_I t0)), .val (.int (own_I d)), .val (.int (own_I nd)), .val (.int (own_I z)), x6, .unset] [(.int (-1 : Int32)), (.int (own_I nd)), (.ref aL)])) rfl rfl (hb hby d15_125)
            rw [own_set (z := nd) (x := (-1)) (by omega) own_im1.symm] at V77
            have f77_78 := f56_57.wr W77
            have f77_79 := f56_58.other W77 (Or.inl (own_ne_aG_aL hNE))
            have f77_80 := f56_59.other W77 (Or.inl (own_ne_aG_aL hNE))
            have f77_81 := f56_60.other W77 (Or.inl (own_ne_aG_aL hNE))
            have f77_82 := f56_61.other W77 (Or.inl (own_ne_aG_aL hNE))
            have f77_83 := f56_62.other W77 (Or.inl (own_ne_aG_aL hNE))
            have f77_84 := f56_63.other W77 (Or.inl (own_ne_aG_aL hNE))
            have f77_85 := f56_64.other W77 (Or.inl (own_ne_aG_aL hNE))
            have f77_86 := f56_65.other W77 (Or.inl (own_ne_aG_aL hNE))
            have f77_87 := f56_66.other W77 (Or.inl (own_ne_aG_aL hNE))
            have f77_88 := f56_67.other W77 (Or.inl (own_ne_aG_aL hNE))
            have f77_89 := f56_68.other W77 (own_ne_aF_aL hNE)
            have f77_90 := f56_69.other W77 (own_ne_aN_aL hNE)
            have f77_91 := f56_70.other W77 (own_ne_aH_aL hNE)
            have f77_92 := f56_71.other W77 (own_ne_aR_aL hNE)
            have f77_93 := V56.other W77 (Ne.symm (own_ne_aL_aA hNE))
            have f77_94 := f56_73.other W77 (Ne.symm (own_ne_aL_aQ hNE))
            have f77_95 := f56_74.other W77 (Ne.symm (own_ne_aL_aP hNE))
            have K77 : Keep h0 h77 [aG, aF, aN, aH, aR, aL, aA, aQ, aP] := (K56).wr W77 (Or.inl (by simp))
            have N77 := Fr.snoc X77 N56 gn_aL
            have Zh77 : n0 ≤ h77.size := Nat.le_trans Z0 K77.1
            refine own_back ?_ st77
            show own_Go p e below PO (T77.setTop (mkF m 126 #[.val (.ref aG), .val (.int (own_I s0)), .val (.int (own_I t0)), .val (.int (own_I d)), .val (.int (own_I nd)), .val (.int (own_I z)), x6, .unset] []))
            refine own_back ?_ (fun t k => XS.aloadN X77.here hx rfl (hb hby d15_126) rfl rfl k)
            show own_Go p e below PO (T77.setTop (mkF m 127 #[.val (.ref aG), .val (.int (own_I s0)), .val (.int (own_I t0)), .val (.int (own_I d)), .val (.int (own_I nd)), .val (.int (own_I z)), x6, .unset] [(.ref aG)]))
            obtain ⟨T96, X96, e96, st96⟩ := getF X77 hx hZ hown (host := "") (Or.inl (hw _ (List.mem_of_getElem? (i := 29) rfl))) Via.refl e77 f77_88 (g := (mkF m 127 #[.val (.ref aG), .val (.int (own_I s0)), .val (.int (own_I t0)), .val (.int (own_I d)), .val (.int (own_I nd)), .val (.int (own_I z)), x6, .unset] [(.ref aG)])) rfl rfl (hb hby d15_127)
            refine own_back ?_ st96
            show own_Go p e below PO (T96.setTop (mkF m 130 #[.val (.ref aG), .val (.int (own_I s0)), .val (.int (own_I t0)), .val (.int (own_I d)), .val (.int (own_I nd)), .val (.int (own_I z)), x6, .unset] [(.ref aP)]))
            refine own_back ?_ (fun t k => XS.iinc X96.here hx rfl (hb hby d15_130) rfl (l' := #[.val (.ref aG), .val (.int (own_I s0)), .val (.int (own_I t0)), .val (.int ((own_I d) + (-1 : Int32))), .val (.int (own_I nd)), .val (.int (own_I z)), x6, .unset]) rfl k)
            show own_Go p e below PO (T96.setTop (mkF m 133 #[.val (.ref aG), .val (.int (own_I s0)), .val (.int (own_I t0)), .val (.int ((own_I d) + (-1 : Int32))), .val (.int (own_I nd)), .val (.int (own_I z)), x6, .unset] [(.ref aP)]))
            refine own_sub (A := Int32) (x := ((own_I d) + (-1 : Int32))) (y := (own_I (d - 1))) (fun cv => own_Go p e below PO (T96.setTop (mkF m 133 #[.val (.ref aG), .val (.int (own_I s0)), .val (.int (own_I t0)), .val (.int cv), .val (.int (own_I nd)), .val (.int (own_I z)), x6, .unset] [(.ref aP)]))) (own_addm1 _) ?_
            show own_Go p e below PO (T96.setTop (mkF m 133 #[.val (.ref aG), .val (.int (own_I s0)), .val (.int (own_I t0)), .val (.int (own_I (d - 1))), .val (.int (own_I nd)), .val (.int (own_I z)), x6, .unset] [(.ref aP)]))
            refine own_back ?_ (fun t k => XS.iloadN X96.here hx rfl (hb hby d15_133) rfl k)
            show own_Go p e below PO (T96.setTop (mkF m 134 #[.val (.ref aG), .val (.int (own_I s0)), .val (.int (own_I t0)), .val (.int (own_I (d - 1))), .val (.int (own_I nd)), .val (.int (own_I z)), x6, .unset] [(.int (own_I (d - 1))), (.ref aP)]))
            refine own_back ?_ (own_ldI X96 hx hZ e96 f77_95 (j := (own_I (d - 1))) (v := (.int (own_I (pth1 (d - 1))))) (own_inb (z := (d - 1)) (by omega)) (own_get (by omega)) (g := (mkF m 134 #[.val (.ref aG), .val (.int (own_I s0)), .val (.int (own_I t0)), .val (.int (own_I (d - 1))), .val (.int (own_I nd)), .val (.int (own_I z)), x6, .unset] [(.int (own_I (d - 1))), (.ref aP)])) rfl rfl (hb hby d15_134))
            show own_Go p e below PO (T96.setTop (mkF m 135 #[.val (.ref aG), .val (.int (own_I s0)), .val (.int (own_I t0)), .val (.int (own_I (d - 1))), .val (.int (own_I nd)), .val (.int (own_I z)), x6, .unset] [(.int (own_I (pth1 (d - 1))))]))
            refine own_back ?_ (fun t k => XS.istore X96.here hx rfl (hb hby d15_135) rfl (l' := #[.val (.ref aG), .val (.int (own_I s0)), .val (.int (own_I t0)), .val (.int (own_I (d - 1))), .val (.int (own_I nd)), .val (.int (own_I z)), .val (.int (own_I (pth1 (d - 1)))), .unset]) (by rcases h_x6 with rfl | ⟨w6, rfl⟩ <;> rfl) k)
            show own_Go p e below PO (T96.setTop (mkF m 137 #[.val (.ref aG), .val (.int (own_I s0)), .val (.int (own_I t0)), .val (.int (own_I (d - 1))), .val (.int (own_I nd)), .val (.int (own_I z)), .val (.int (own_I (pth1 (d - 1)))), .unset] []))
            refine own_back ?_ (fun t k => XS.aloadN X96.here hx rfl (hb hby d15_137) rfl rfl k)
            show own_Go p e below PO (T96.setTop (mkF m 138 #[.val (.ref aG), .val (.int (own_I s0)), .val (.int (own_I t0)), .val (.int (own_I (d - 1))), .val (.int (own_I nd)), .val (.int (own_I z)), .val (.int (own_I (pth1 (d - 1)))), .unset] [(.ref aG)]))
            obtain ⟨T97, X97, e97, st97⟩ := getF X96 hx hZ hown (host := "") (Or.inl (hw _ (List.mem_of_getElem? (i := 18) rfl))) Via.refl e96 f77_83 (g := (mkF m 138 #[.val (.ref aG), .val (.int (own_I s0)), .val (.int (own_I t0)), .val (.int (own_I (d - 1))), .val (.int (own_I nd)), .val (.int (own_I z)), .val (.int (own_I (pth1 (d - 1)))), .unset] [(.ref aG)])) rfl rfl (hb hby d15_138)
            refine own_back ?_ st97
            show own_Go p e below PO (T97.setTop (mkF m 141 #[.val (.ref aG), .val (.int (own_I s0)), .val (.int (own_I t0)), .val (.int (own_I (d - 1))), .val (.int (own_I nd)), .val (.int (own_I z)), .val (.int (own_I (pth1 (d - 1)))), .unset] [(.ref aH)]))
            refine own_back ?_ (fun t k => XS.iload X97.here hx rfl (hb hby d15_141) rfl k)
            show own_Go p e below PO (T97.setTop (mkF m 143 #[.val (.ref aG), .val (.int (own_I s0)), .val (.int (own_I t0)), .val (.int (own_I (d - 1))), .val (.int (own_I nd)), .val (.int (own_I z)), .val (.int (own_I (pth1 (d - 1)))), .unset] [(.int (own_I (pth1 (d - 1)))), (.ref aH)]))
            refine own_back ?_ (fun t k => XS.iconst X97.here hx rfl (hb hby d15_143) k)
            show own_Go p e below PO (T97.setTop (mkF m 144 #[.val (.ref aG), .val (.int (own_I s0)), .val (.int (own_I t0)), .val (.int (own_I (d - 1))), .val (.int (own_I nd)), .val (.int (own_I z)), .val (.int (own_I (pth1 (d - 1)))), .unset] [(.int (1 : Int32)), (.int (own_I (pth1 (d - 1)))), (.ref aH)]))
            refine own_back ?_ (fun t k => XS.ixor X97.here hx rfl (hb hby d15_144) rfl k)
            show own_Go p e below PO (T97.setTop (mkF m 145 #[.val (.ref aG), .val (.int (own_I s0)), .val (.int (own_I t0)), .val (.int (own_I (d - 1))), .val (.int (own_I nd)), .val (.int (own_I z)), .val (.int (own_I (pth1 (d - 1)))), .unset] [(.int ((own_I (pth1 (d - 1))) ^^^ (1 : Int32))), (.ref aH)]))
            refine own_sub (A := Int32) (x := ((own_I (pth1 (d - 1))) ^^^ (1 : Int32))) (y := (own_I (own_f (pth1 (d - 1))))) (fun cv => own_Go p e below PO (T97.setTop (mkF m 145 #[.val (.ref aG), .val (.int (own_I s0)), .val (.int (own_I t0)), .val (.int (own_I (d - 1))), .val (.int (own_I nd)), .val (.int (own_I z)), .val (.int (own_I (pth1 (d - 1)))), .unset] [(.int cv), (.ref aH)]))) (own_xor (by omega)) ?_
            show own_Go p e below PO (T97.setTop (mkF m 145 #[.val (.ref aG), .val (.int (own_I s0)), .val (.int (own_I t0)), .val (.int (own_I (d - 1))), .val (.int (own_I nd)), .val (.int (own_I z)), .val (.int (own_I (pth1 (d - 1)))), .unset] [(.int (own_I (own_f (pth1 (d - 1))))), (.ref aH)]))
            refine own_back ?_ (own_ldI X97 hx hZ e97 f77_91 (j := (own_I (own_f (pth1 (d - 1))))) (v := (.int (own_I (hd (own_f (pth1 (d - 1))))))) (own_inb (z := (own_f (pth1 (d - 1)))) (by omega)) (own_get (by omega)) (g := (mkF m 145 #[.val (.ref aG), .val (.int (own_I s0)), .val (.int (own_I t0)), .val (.int (own_I (d - 1))), .val (.int (own_I nd)), .val (.int (own_I z)), .val (.int (own_I (pth1 (d - 1)))), .unset] [(.int (own_I (own_f (pth1 (d - 1))))), (.ref aH)])) rfl rfl (hb hby d15_145))
            show own_Go p e below PO (T97.setTop (mkF m 146 #[.val (.ref aG), .val (.int (own_I s0)), .val (.int (own_I t0)), .val (.int (own_I (d - 1))), .val (.int (own_I nd)), .val (.int (own_I z)), .val (.int (own_I (pth1 (d - 1)))), .unset] [(.int (own_I (hd (own_f (pth1 (d - 1))))))]))
            refine own_back ?_ (fun t k => XS.istore X97.here hx rfl (hb hby d15_146) rfl (l' := #[.val (.ref aG), .val (.int (own_I s0)), .val (.int (own_I t0)), .val (.int (own_I (d - 1))), .val (.int (own_I (hd (own_f (pth1 (d - 1)))))), .val (.int (own_I z)), .val (.int (own_I (pth1 (d - 1)))), .unset]) rfl k)
            show own_Go p e below PO (T97.setTop (mkF m 148 #[.val (.ref aG), .val (.int (own_I s0)), .val (.int (own_I t0)), .val (.int (own_I (d - 1))), .val (.int (own_I (hd (own_f (pth1 (d - 1)))))), .val (.int (own_I z)), .val (.int (own_I (pth1 (d - 1)))), .unset] []))
            refine own_back ?_ (fun t k => XS.aloadN X97.here hx rfl (hb hby d15_148) rfl rfl k)
            show own_Go p e below PO (T97.setTop (mkF m 149 #[.val (.ref aG), .val (.int (own_I s0)), .val (.int (own_I t0)), .val (.int (own_I (d - 1))), .val (.int (own_I (hd (own_f (pth1 (d - 1)))))), .val (.int (own_I z)), .val (.int (own_I (pth1 (d - 1)))), .unset] [(.ref aG)]))
            obtain ⟨T98, X98, e98, st98⟩ := getF X97 hx hZ hown (host := "") (Or.inl (hw _ (List.mem_of_getElem? (i := 25) rfl))) Via.refl e97 f77_86 (g := (mkF m 149 #[.val (.ref aG), .val (.int (own_I s0)), .val (.int (own_I t0)), .val (.int (own_I (d - 1))), .val (.int (own_I (hd (own_f (pth1 (d - 1)))))), .val (.int (own_I z)), .val (.int (own_I (pth1 (d - 1)))), .unset] [(.ref aG)])) rfl rfl (hb hby d15_149)
            refine own_back ?_ st98
            show own_Go p e below PO (T98.setTop (mkF m 152 #[.val (.ref aG), .val (.int (own_I s0)), .val (.int (own_I t0)), .val (.int (own_I (d - 1))), .val (.int (own_I (hd (own_f (pth1 (d - 1)))))), .val (.int (own_I z)), .val (.int (own_I (pth1 (d - 1)))), .unset] [(.ref aA)]))
            refine own_back ?_ (fun t k => XS.iload X98.here hx rfl (hb hby d15_152) rfl k)
            show own_Go p e below PO (T98.setTop (mkF m 154 #[.val (.ref aG), .val (.int (own_I s0)), .val (.int (own_I t0)), .val (.int (own_I (d - 1))), .val (.int (own_I (hd (own_f (pth1 (d - 1)))))), .val (.int (own_I z)), .val (.int (own_I (pth1 (d - 1)))), .unset] [(.int (own_I (hd (own_f (pth1 (d - 1)))))), (.ref aA)]))
            refine own_back ?_ (fun t k => XS.aloadN X98.here hx rfl (hb hby d15_154) rfl rfl k)
            show own_Go p e below PO (T98.setTop (mkF m 155 #[.val (.ref aG), .val (.int (own_I s0)), .val (.int (own_I t0)), .val (.int (own_I (d - 1))), .val (.int (own_I (hd (own_f (pth1 (d - 1)))))), .val (.int (own_I z)), .val (.int (own_I (pth1 (d - 1)))), .unset] [(.ref aG), (.int (own_I (hd (own_f (pth1 (d - 1)))))), (.ref aA)]))
            obtain ⟨T99, X99, e99, st99⟩ := getF X98 hx hZ hown (host := "") (Or.inl (hw _ (List.mem_of_getElem? (i := 16) rfl))) Via.refl e98 f77_82 (g := (mkF m 155 #[.val (.ref aG), .val (.int (own_I s0)), .val (.int (own_I t0)), .val (.int (own_I (d - 1))), .val (.int (own_I (hd (own_f (pth1 (d - 1)))))), .val (.int (own_I z)), .val (.int (own_I (pth1 (d - 1)))), .unset] [(.ref aG), (.int (own_I (hd (own_f (pth1 (d - 1)))))), (.ref aA)])) rfl rfl (hb hby d15_155)
            refine own_back ?_ st99
            show own_Go p e below PO (T99.setTop (mkF m 158 #[.val (.ref aG), .val (.int (own_I s0)), .val (.int (own_I t0)), .val (.int (own_I (d - 1))), .val (.int (own_I (hd (own_f (pth1 (d - 1)))))), .val (.int (own_I z)), .val (.int (own_I (pth1 (d - 1)))), .unset] [(.ref aN), (.int (own_I (hd (own_f (pth1 (d - 1)))))), (.ref aA)]))
            refine own_back ?_ (fun t k => XS.iload X99.here hx rfl (hb hby d15_158) rfl k)
            show own_Go p e below PO (T99.setTop (mkF m 160 #[.val (.ref aG), .val (.int (own_I s0)), .val (.int (own_I t0)), .val (.int (own_I (d - 1))), .val (.int (own_I (hd (own_f (pth1 (d - 1)))))), .val (.int (own_I z)), .val (.int (own_I (pth1 (d - 1)))), .unset] [(.int (own_I (pth1 (d - 1)))), (.ref aN), (.int (own_I (hd (own_f (pth1 (d - 1)))))), (.ref aA)]))
            refine own_back ?_ (own_ldI X99 hx hZ e99 f77_90 (j := (own_I (pth1 (d - 1)))) (v := (.int (own_I (nxt (pth1 (d - 1)))))) (own_inb (z := (pth1 (d - 1))) (by omega)) (own_get (by omega)) (g := (mkF m 160 #[.val (.ref aG), .val (.int (own_I s0)), .val (.int (own_I t0)), .val (.int (own_I (d - 1))), .val (.int (own_I (hd (own_f (pth1 (d - 1)))))), .val (.int (own_I z)), .val (.int (own_I (pth1 (d - 1)))), .unset] [(.int (own_I (pth1 (d - 1)))), (.ref aN), (.int (own_I (hd (own_f (pth1 (d - 1)))))), (.ref aA)])) rfl rfl (hb hby d15_160))
            show own_Go p e below PO (T99.setTop (mkF m 161 #[.val (.ref aG), .val (.int (own_I s0)), .val (.int (own_I t0)), .val (.int (own_I (d - 1))), .val (.int (own_I (hd (own_f (pth1 (d - 1)))))), .val (.int (own_I z)), .val (.int (own_I (pth1 (d - 1)))), .unset] [(.int (own_I (nxt (pth1 (d - 1))))), (.int (own_I (hd (own_f (pth1 (d - 1)))))), (.ref aA)]))
            obtain ⟨T100, h100, X100, e100, W100, V100, st100⟩ := own_stI X99 hx hZ e99 f77_93 (j := (own_I (hd (own_f (pth1 (d - 1)))))) (own_inb (z := (hd (own_f (pth1 (d - 1))))) (by omega)) (i := (own_I (hd (own_f (pth1 (d - 1))))).toNatClampNeg) rfl (own_ixi (z := (hd (own_f (pth1 (d - 1))))) _ (by omega)) (g := (mkF m 161 #[.val (.ref aG), .val (.int (own_I s0)), .val (.int (own_I t0)), .val (.int (own_I (d - 1))), .val (.int (own_I (hd (own_f (pth1 (d - 1)))))), .val (.int (own_I z)), .val (.int (own_I (pth1 (d - 1)))), .unset] [(.int (own_I (nxt (pth1 (d - 1))))), (.int (own_I (hd (own_f (pth1 (d - 1)))))), (.ref aA)])) rfl rfl (hb hby d15_161)
            rw [own_set (z := (hd (own_f (pth1 (d - 1))))) (x := (nxt (pth1 (d - 1)))) (by omega) rfl] at V100
            have f100_101 := f77_78.wr W100
            have f100_102 := f77_79.other W100 (Or.inl (own_ne_aG_aA hNE))
            have f100_103 := f77_80.other W100 (Or.inl (own_ne_aG_aA hNE))
            have f100_104 := f77_81.other W100 (Or.inl (own_ne_aG_aA hNE))
            have f100_105 := f77_82.other W100 (Or.inl (own_ne_aG_aA hNE))
            have f100_106 := f77_83.other W100 (Or.inl (own_ne_aG_aA hNE))
            have f100_107 := f77_84.other W100 (Or.inl (own_ne_aG_aA hNE))
            have f100_108 := f77_85.other W100 (Or.inl (own_ne_aG_aA hNE))
            have f100_109 := f77_86.other W100 (Or.inl (own_ne_aG_aA hNE))
            have f100_110 := f77_87.other W100 (Or.inl (own_ne_aG_aA hNE))
            have f100_111 := f77_88.other W100 (Or.inl (own_ne_aG_aA hNE))
            have f100_112 := f77_89.other W100 (own_ne_aF_aA hNE)
            have f100_113 := f77_90.other W100 (own_ne_aN_aA hNE)
            have f100_114 := f77_91.other W100 (own_ne_aH_aA hNE)
            have f100_115 := f77_92.other W100 (own_ne_aR_aA hNE)
            have f100_116 := V77.other W100 (own_ne_aL_aA hNE)
            have f100_117 := f77_94.other W100 (Ne.symm (own_ne_aA_aQ hNE))
            have f100_118 := f77_95.other W100 (Ne.symm (own_ne_aA_aP hNE))
            have K100 : Keep h0 h100 [aG, aF, aN, aH, aR, aL, aA, aQ, aP] := (K77).wr W100 (Or.inl (by simp))
            have N100 := Fr.snoc X100 N77 gn_aA
            have Zh100 : n0 ≤ h100.size := Nat.le_trans Z0 K100.1
            refine own_back ?_ st100
            show own_Go p e below PO (T100.setTop (mkF m 162 #[.val (.ref aG), .val (.int (own_I s0)), .val (.int (own_I t0)), .val (.int (own_I (d - 1))), .val (.int (own_I (hd (own_f (pth1 (d - 1)))))), .val (.int (own_I z)), .val (.int (own_I (pth1 (d - 1)))), .unset] []))
            refine own_back ?_ (fun t k => XS.goto X100.here hx rfl (pc0 := 162) (pc' := 5) rfl (hb hby d15_162) (by decide) (by decide) k)
            show own_Go p e below PO (T100.setTop (mkF m 5 #[.val (.ref aG), .val (.int (own_I s0)), .val (.int (own_I t0)), .val (.int (own_I (d - 1))), .val (.int (own_I (hd (own_f (pth1 (d - 1)))))), .val (.int (own_I z)), .val (.int (own_I (pth1 (d - 1)))), .unset] []))
            exact ih_LM _ _ _ _ _ _ _ _ _ _ X100 e100 N100 K100 ⟨f100_101, f100_102, f100_103, f100_104, f100_105, f100_106, f100_107, f100_108, f100_109, f100_110, f100_111, f100_112, f100_113, f100_114, f100_115, f100_116, V100, f100_117, f100_118⟩ bk5 (Or.inr ⟨_, rfl⟩) (Or.inr ⟨_, rfl⟩) (by omega)
          refine own_back ?_ (fun t k => XS.ifNo X2.here hx rfl (hb hby d15_22) rfl ((if0 _ _).trans (flt hc22_54).1) k)
          show own_Go p e below PO (T2.setTop (mkF m 25 #[.val (.ref aG), .val (.int (own_I s0)), .val (.int (own_I t0)), .val (.int (own_I d)), .val (.int (own_I nd)), .val (.int (own_I z)), x6, .unset] []))
          have z0 : 0 ≤ z := Int.not_lt.mp (fun h => hc22_54 ((own_lt0 (by omega)).mpr h))
          have rb := own_R_b hR hG.2.1 z0 s2
          obtain ⟨gt, gb, nx⟩ := hG.1.1 z z0 s2
          have nx1 := nx.1
          have nx2 := nx.2.1
          have lb := (hD.1.1 (hd z) gb.1 gb.2).1
          have ln := (hD.1.1 nd nb.1 nb.2).1
          refine own_back ?_ (fun t k => XS.aloadN X2.here hx rfl (hb hby d15_25) rfl rfl k)
          show own_Go p e below PO (T2.setTop (mkF m 26 #[.val (.ref aG), .val (.int (own_I s0)), .val (.int (own_I t0)), .val (.int (own_I d)), .val (.int (own_I nd)), .val (.int (own_I z)), x6, .unset] [(.ref aG)]))
          obtain ⟨T119, X119, e119, st119⟩ := getF X2 hx hZ hown (host := "") (Or.inl (hw _ (List.mem_of_getElem? (i := 21) rfl))) Via.refl eT2 F_room1 (g := (mkF m 26 #[.val (.ref aG), .val (.int (own_I s0)), .val (.int (own_I t0)), .val (.int (own_I d)), .val (.int (own_I nd)), .val (.int (own_I z)), x6, .unset] [(.ref aG)])) rfl rfl (hb hby d15_26)
          refine own_back ?_ st119
          show own_Go p e below PO (T119.setTop (mkF m 29 #[.val (.ref aG), .val (.int (own_I s0)), .val (.int (own_I t0)), .val (.int (own_I d)), .val (.int (own_I nd)), .val (.int (own_I z)), x6, .unset] [(.ref aR)]))
          refine own_back ?_ (fun t k => XS.iload X119.here hx rfl (hb hby d15_29) rfl k)
          show own_Go p e below PO (T119.setTop (mkF m 31 #[.val (.ref aG), .val (.int (own_I s0)), .val (.int (own_I t0)), .val (.int (own_I d)), .val (.int (own_I nd)), .val (.int (own_I z)), x6, .unset] [(.int (own_I z)), (.ref aR)]))
          refine own_back ?_ (own_ldD X119 hx hZ e119 V_R1 (j := (own_I z)) (v := (.double (own_D (rm z)))) (own_inb (z := z) (by omega)) (own_getd (by omega)) (g := (mkF m 31 #[.val (.ref aG), .val (.int (own_I s0)), .val (.int (own_I t0)), .val (.int (own_I d)), .val (.int (own_I nd)), .val (.int (own_I z)), x6, .unset] [(.int (own_I z)), (.ref aR)])) rfl rfl (hb hby d15_31))
          show own_Go p e below PO (T119.setTop (mkF m 32 #[.val (.ref aG), .val (.int (own_I s0)), .val (.int (own_I t0)), .val (.int (own_I d)), .val (.int (own_I nd)), .val (.int (own_I z)), x6, .unset] [(.double (own_D (rm z)))]))
          refine own_back ?_ (fun t k => XS.dconst0 X119.here hx rfl (v := (0 : UInt64)) (hb hby d15_32) (by decide +kernel) k)
          show own_Go p e below PO (T119.setTop (mkF m 33 #[.val (.ref aG), .val (.int (own_I s0)), .val (.int (own_I t0)), .val (.int (own_I d)), .val (.int (own_I nd)), .val (.int (own_I z)), x6, .unset] [(.double (0 : UInt64)), (.double (own_D (rm z)))]))
          refine own_back ?_ (fun t k => XS.dcmpS X119.here hx rfl (v := (own_cz (rm z))) (hb hby d15_33) rfl (own_dcmp (by omega)) k)
          show own_Go p e below PO (T119.setTop (mkF m 34 #[.val (.ref aG), .val (.int (own_I s0)), .val (.int (own_I t0)), .val (.int (own_I d)), .val (.int (own_I nd)), .val (.int (own_I z)), x6, .unset] [(.int (own_cz (rm z)))]))
          by_cases hc34_120 : (0 : Int32) < (own_cz (rm z))
          case pos =>
            refine own_back ?_ (fun t k => XS.ifNo X119.here hx rfl (hb hby d15_34) rfl ((if0 _ _).trans (tlt hc34_120).2.2.2) k)
            show own_Go p e below PO (T119.setTop (mkF m 37 #[.val (.ref aG), .val (.int (own_I s0)), .val (.int (own_I t0)), .val (.int (own_I d)), .val (.int (own_I nd)), .val (.int (own_I z)), x6, .unset] []))
            refine own_back ?_ (fun t k => XS.aloadN X119.here hx rfl (hb hby d15_37) rfl rfl k)
            show own_Go p e below PO (T119.setTop (mkF m 38 #[.val (.ref aG), .val (.int (own_I s0)), .val (.int (own_I t0)), .val (.int (own_I d)), .val (.int (own_I nd)), .val (.int (own_I z)), x6, .unset] [(.ref aG)]))
            obtain ⟨T121, X121, e121, st121⟩ := getF X119 hx hZ hown (host := "") (Or.inl (hw _ (List.mem_of_getElem? (i := 23) rfl))) Via.refl e119 F_level1 (g := (mkF m 38 #[.val (.ref aG), .val (.int (own_I s0)), .val (.int (own_I t0)), .val (.int (own_I d)), .val (.int (own_I nd)), .val (.int (own_I z)), x6, .unset] [(.ref aG)])) rfl rfl (hb hby d15_38)
            refine own_back ?_ st121
            show own_Go p e below PO (T121.setTop (mkF m 41 #[.val (.ref aG), .val (.int (own_I s0)), .val (.int (own_I t0)), .val (.int (own_I d)), .val (.int (own_I nd)), .val (.int (own_I z)), x6, .unset] [(.ref aL)]))
            refine own_back ?_ (fun t k => XS.aloadN X121.here hx rfl (hb hby d15_41) rfl rfl k)
            show own_Go p e below PO (T121.setTop (mkF m 42 #[.val (.ref aG), .val (.int (own_I s0)), .val (.int (own_I t0)), .val (.int (own_I d)), .val (.int (own_I nd)), .val (.int (own_I z)), x6, .unset] [(.ref aG), (.ref aL)]))
            obtain ⟨T122, X122, e122, st122⟩ := getF X121 hx hZ hown (host := "") (Or.inl (hw _ (List.mem_of_getElem? (i := 18) rfl))) Via.refl e121 F_head1 (g := (mkF m 42 #[.val (.ref aG), .val (.int (own_I s0)), .val (.int (own_I t0)), .val (.int (own_I d)), .val (.int (own_I nd)), .val (.int (own_I z)), x6, .unset] [(.ref aG), (.ref aL)])) rfl rfl (hb hby d15_42)
            refine own_back ?_ st122
            show own_Go p e below PO (T122.setTop (mkF m 45 #[.val (.ref aG), .val (.int (own_I s0)), .val (.int (own_I t0)), .val (.int (own_I d)), .val (.int (own_I nd)), .val (.int (own_I z)), x6, .unset] [(.ref aH), (.ref aL)]))
            refine own_back ?_ (fun t k => XS.iload X122.here hx rfl (hb hby d15_45) rfl k)
            show own_Go p e below PO (T122.setTop (mkF m 47 #[.val (.ref aG), .val (.int (own_I s0)), .val (.int (own_I t0)), .val (.int (own_I d)), .val (.int (own_I nd)), .val (.int (own_I z)), x6, .unset] [(.int (own_I z)), (.ref aH), (.ref aL)]))
            refine own_back ?_ (own_ldI X122 hx hZ e122 V_H1 (j := (own_I z)) (v := (.int (own_I (hd z)))) (own_inb (z := z) (by omega)) (own_get (by omega)) (g := (mkF m 47 #[.val (.ref aG), .val (.int (own_I s0)), .val (.int (own_I t0)), .val (.int (own_I d)), .val (.int (own_I nd)), .val (.int (own_I z)), x6, .unset] [(.int (own_I z)), (.ref aH), (.ref aL)])) rfl rfl (hb hby d15_47))
            show own_Go p e below PO (T122.setTop (mkF m 48 #[.val (.ref aG), .val (.int (own_I s0)), .val (.int (own_I t0)), .val (.int (own_I d)), .val (.int (own_I nd)), .val (.int (own_I z)), x6, .unset] [(.int (own_I (hd z))), (.ref aL)]))
            refine own_back ?_ (own_ldI X122 hx hZ e122 V_L1 (j := (own_I (hd z))) (v := (.int (own_I (lev1 (hd z))))) (own_inb (z := (hd z)) (by omega)) (own_get (by omega)) (g := (mkF m 48 #[.val (.ref aG), .val (.int (own_I s0)), .val (.int (own_I t0)), .val (.int (own_I d)), .val (.int (own_I nd)), .val (.int (own_I z)), x6, .unset] [(.int (own_I (hd z))), (.ref aL)])) rfl rfl (hb hby d15_48))
            show own_Go p e below PO (T122.setTop (mkF m 49 #[.val (.ref aG), .val (.int (own_I s0)), .val (.int (own_I t0)), .val (.int (own_I d)), .val (.int (own_I nd)), .val (.int (own_I z)), x6, .unset] [(.int (own_I (lev1 (hd z))))]))
            refine own_back ?_ (fun t k => XS.aloadN X122.here hx rfl (hb hby d15_49) rfl rfl k)
            show own_Go p e below PO (T122.setTop (mkF m 50 #[.val (.ref aG), .val (.int (own_I s0)), .val (.int (own_I t0)), .val (.int (own_I d)), .val (.int (own_I nd)), .val (.int (own_I z)), x6, .unset] [(.ref aG), (.int (own_I (lev1 (hd z))))]))
            obtain ⟨T123, X123, e123, st123⟩ := getF X122 hx hZ hown (host := "") (Or.inl (hw _ (List.mem_of_getElem? (i := 23) rfl))) Via.refl e122 F_level1 (g := (mkF m 50 #[.val (.ref aG), .val (.int (own_I s0)), .val (.int (own_I t0)), .val (.int (own_I d)), .val (.int (own_I nd)), .val (.int (own_I z)), x6, .unset] [(.ref aG), (.int (own_I (lev1 (hd z))))])) rfl rfl (hb hby d15_50)
            refine own_back ?_ st123
            show own_Go p e below PO (T123.setTop (mkF m 53 #[.val (.ref aG), .val (.int (own_I s0)), .val (.int (own_I t0)), .val (.int (own_I d)), .val (.int (own_I nd)), .val (.int (own_I z)), x6, .unset] [(.ref aL), (.int (own_I (lev1 (hd z))))]))
            refine own_back ?_ (fun t k => XS.iload X123.here hx rfl (hb hby d15_53) rfl k)
            show own_Go p e below PO (T123.setTop (mkF m 55 #[.val (.ref aG), .val (.int (own_I s0)), .val (.int (own_I t0)), .val (.int (own_I d)), .val (.int (own_I nd)), .val (.int (own_I z)), x6, .unset] [(.int (own_I nd)), (.ref aL), (.int (own_I (lev1 (hd z))))]))
            refine own_back ?_ (own_ldI X123 hx hZ e123 V_L1 (j := (own_I nd)) (v := (.int (own_I (lev1 nd)))) (own_inb (z := nd) (by omega)) (own_get (by omega)) (g := (mkF m 55 #[.val (.ref aG), .val (.int (own_I s0)), .val (.int (own_I t0)), .val (.int (own_I d)), .val (.int (own_I nd)), .val (.int (own_I z)), x6, .unset] [(.int (own_I nd)), (.ref aL), (.int (own_I (lev1 (hd z))))])) rfl rfl (hb hby d15_55))
            show own_Go p e below PO (T123.setTop (mkF m 56 #[.val (.ref aG), .val (.int (own_I s0)), .val (.int (own_I t0)), .val (.int (own_I d)), .val (.int (own_I nd)), .val (.int (own_I z)), x6, .unset] [(.int (own_I (lev1 nd))), (.int (own_I (lev1 (hd z))))]))
            refine own_back ?_ (fun t k => XS.iconst X123.here hx rfl (hb hby d15_56) k)
            show own_Go p e below PO (T123.setTop (mkF m 57 #[.val (.ref aG), .val (.int (own_I s0)), .val (.int (own_I t0)), .val (.int (own_I d)), .val (.int (own_I nd)), .val (.int (own_I z)), x6, .unset] [(.int (1 : Int32)), (.int (own_I (lev1 nd))), (.int (own_I (lev1 (hd z))))]))
            refine own_back ?_ (fun t k => XS.iadd X123.here hx rfl (hb hby d15_57) rfl k)
            show own_Go p e below PO (T123.setTop (mkF m 58 #[.val (.ref aG), .val (.int (own_I s0)), .val (.int (own_I t0)), .val (.int (own_I d)), .val (.int (own_I nd)), .val (.int (own_I z)), x6, .unset] [(.int ((own_I (lev1 nd)) + (1 : Int32))), (.int (own_I (lev1 (hd z))))]))
            refine own_sub (A := Int32) (x := ((own_I (lev1 nd)) + (1 : Int32))) (y := (own_I ((lev1 nd) + 1))) (fun cv => own_Go p e below PO (T123.setTop (mkF m 58 #[.val (.ref aG), .val (.int (own_I s0)), .val (.int (own_I t0)), .val (.int (own_I d)), .val (.int (own_I nd)), .val (.int (own_I z)), x6, .unset] [(.int cv), (.int (own_I (lev1 (hd z))))]))) (own_add1 _) ?_
            show own_Go p e below PO (T123.setTop (mkF m 58 #[.val (.ref aG), .val (.int (own_I s0)), .val (.int (own_I t0)), .val (.int (own_I d)), .val (.int (own_I nd)), .val (.int (own_I z)), x6, .unset] [(.int (own_I ((lev1 nd) + 1))), (.int (own_I (lev1 (hd z))))]))
            by_cases hc58_124 : (own_I (lev1 (hd z))) = (own_I ((lev1 nd) + 1))
            case pos =>
              refine own_back ?_ (fun t k => XS.icmpYes X123.here hx rfl (pc0 := 58) (pc' := 73) rfl (hb hby d15_58) rfl (teq hc58_124).1 (by decide) (by decide) k)
              show own_Go p e below PO (T123.setTop (mkF m 73 #[.val (.ref aG), .val (.int (own_I s0)), .val (.int (own_I t0)), .val (.int (own_I d)), .val (.int (own_I nd)), .val (.int (own_I z)), x6, .unset] []))
              have hDn := own_DF_desc hG hs hD hC z0 (own_cz_p hc34_120) ((own_eq (by omega) (by omega)).mp hc58_124)
              have hDd := hDn.2
              refine own_back ?_ (fun t k => XS.aloadN X123.here hx rfl (hb hby d15_73) rfl rfl k)
              show own_Go p e below PO (T123.setTop (mkF m 74 #[.val (.ref aG), .val (.int (own_I s0)), .val (.int (own_I t0)), .val (.int (own_I d)), .val (.int (own_I nd)), .val (.int (own_I z)), x6, .unset] [(.ref aG)]))
              obtain ⟨T125, X125, e125, st125⟩ := getF X123 hx hZ hown (host := "") (Or.inl (hw _ (List.mem_of_getElem? (i := 25) rfl))) Via.refl e123 F_arc1 (g := (mkF m 74 #[.val (.ref aG), .val (.int (own_I s0)), .val (.int (own_I t0)), .val (.int (own_I d)), .val (.int (own_I nd)), .val (.int (own_I z)), x6, .unset] [(.ref aG)])) rfl rfl (hb hby d15_74)
              refine own_back ?_ st125
              show own_Go p e below PO (T125.setTop (mkF m 77 #[.val (.ref aG), .val (.int (own_I s0)), .val (.int (own_I t0)), .val (.int (own_I d)), .val (.int (own_I nd)), .val (.int (own_I z)), x6, .unset] [(.ref aA)]))
              refine own_back ?_ (fun t k => XS.iload X125.here hx rfl (hb hby d15_77) rfl k)
              show own_Go p e below PO (T125.setTop (mkF m 79 #[.val (.ref aG), .val (.int (own_I s0)), .val (.int (own_I t0)), .val (.int (own_I d)), .val (.int (own_I nd)), .val (.int (own_I z)), x6, .unset] [(.int (own_I nd)), (.ref aA)]))
              refine own_back ?_ (fun t k => XS.iload X125.here hx rfl (hb hby d15_79) rfl k)
              show own_Go p e below PO (T125.setTop (mkF m 81 #[.val (.ref aG), .val (.int (own_I s0)), .val (.int (own_I t0)), .val (.int (own_I d)), .val (.int (own_I nd)), .val (.int (own_I z)), x6, .unset] [(.int (own_I z)), (.int (own_I nd)), (.ref aA)]))
              obtain ⟨T126, h126, X126, e126, W126, V126, st126⟩ := own_stI X125 hx hZ e125 V_A1 (j := (own_I nd)) (own_inb (z := nd) (by omega)) (i := (own_I nd).toNatClampNeg) rfl (own_ixi (z := nd) _ (by omega)) (g := (mkF m 81 #[.val (.ref aG), .val (.int (own_I s0)), .val (.int (own_I t0)), .val (.int (own_I d)), .val (.int (own_I nd)), .val (.int (own_I z)), x6, .unset] [(.int (own_I z)), (.int (own_I nd)), (.ref aA)])) rfl rfl (hb hby d15_81)
              rw [own_set (z := nd) (x := z) (by omega) rfl] at V126
              have f126_127 := E_G1.wr W126
              have f126_128 := F_nodeCount1.other W126 (Or.inl (own_ne_aG_aA hNE))
              have f126_129 := F_edgeCount1.other W126 (Or.inl (own_ne_aG_aA hNE))
              have f126_130 := F_first1.other W126 (Or.inl (own_ne_aG_aA hNE))
              have f126_131 := F_next1.other W126 (Or.inl (own_ne_aG_aA hNE))
              have f126_132 := F_head1.other W126 (Or.inl (own_ne_aG_aA hNE))
              have f126_133 := F_room1.other W126 (Or.inl (own_ne_aG_aA hNE))
              have f126_134 := F_level1.other W126 (Or.inl (own_ne_aG_aA hNE))
              have f126_135 := F_arc1.other W126 (Or.inl (own_ne_aG_aA hNE))
              have f126_136 := F_queue1.other W126 (Or.inl (own_ne_aG_aA hNE))
              have f126_137 := F_path1.other W126 (Or.inl (own_ne_aG_aA hNE))
              have f126_138 := V_F1.other W126 (own_ne_aF_aA hNE)
              have f126_139 := V_N1.other W126 (own_ne_aN_aA hNE)
              have f126_140 := V_H1.other W126 (own_ne_aH_aA hNE)
              have f126_141 := V_R1.other W126 (own_ne_aR_aA hNE)
              have f126_142 := V_L1.other W126 (own_ne_aL_aA hNE)
              have f126_143 := V_Q1.other W126 (Ne.symm (own_ne_aA_aQ hNE))
              have f126_144 := V_P1.other W126 (Ne.symm (own_ne_aA_aP hNE))
              have K126 : Keep h0 h126 [aG, aF, aN, aH, aR, aL, aA, aQ, aP] := (K1).wr W126 (Or.inl (by simp))
              have N126 := Fr.snoc X126 N1 gn_aA
              have Zh126 : n0 ≤ h126.size := Nat.le_trans Z0 K126.1
              refine own_back ?_ st126
              show own_Go p e below PO (T126.setTop (mkF m 82 #[.val (.ref aG), .val (.int (own_I s0)), .val (.int (own_I t0)), .val (.int (own_I d)), .val (.int (own_I nd)), .val (.int (own_I z)), x6, .unset] []))
              refine own_back ?_ (fun t k => XS.iload X126.here hx rfl (hb hby d15_82) rfl k)
              show own_Go p e below PO (T126.setTop (mkF m 84 #[.val (.ref aG), .val (.int (own_I s0)), .val (.int (own_I t0)), .val (.int (own_I d)), .val (.int (own_I nd)), .val (.int (own_I z)), x6, .unset] [(.int (own_I z))]))
              refine own_back ?_ (fun t k => XS.ifNo X126.here hx rfl (hb hby d15_84) rfl ((if0 _ _).trans (flt hc22_54).1) k)
              show own_Go p e below PO (T126.setTop (mkF m 87 #[.val (.ref aG), .val (.int (own_I s0)), .val (.int (own_I t0)), .val (.int (own_I d)), .val (.int (own_I nd)), .val (.int (own_I z)), x6, .unset] []))
              refine own_back ?_ (fun t k => XS.aloadN X126.here hx rfl (hb hby d15_87) rfl rfl k)
              show own_Go p e below PO (T126.setTop (mkF m 88 #[.val (.ref aG), .val (.int (own_I s0)), .val (.int (own_I t0)), .val (.int (own_I d)), .val (.int (own_I nd)), .val (.int (own_I z)), x6, .unset] [(.ref aG)]))
              obtain ⟨T145, X145, e145, st145⟩ := getF X126 hx hZ hown (host := "") (Or.inl (hw _ (List.mem_of_getElem? (i := 29) rfl))) Via.refl e126 f126_137 (g := (mkF m 88 #[.val (.ref aG), .val (.int (own_I s0)), .val (.int (own_I t0)), .val (.int (own_I d)), .val (.int (own_I nd)), .val (.int (own_I z)), x6, .unset] [(.ref aG)])) rfl rfl (hb hby d15_88)
              refine own_back ?_ st145
              show own_Go p e below PO (T145.setTop (mkF m 91 #[.val (.ref aG), .val (.int (own_I s0)), .val (.int (own_I t0)), .val (.int (own_I d)), .val (.int (own_I nd)), .val (.int (own_I z)), x6, .unset] [(.ref aP)]))
              refine own_back ?_ (fun t k => XS.iloadN X145.here hx rfl (hb hby d15_91) rfl k)
              show own_Go p e below PO (T145.setTop (mkF m 92 #[.val (.ref aG), .val (.int (own_I s0)), .val (.int (own_I t0)), .val (.int (own_I d)), .val (.int (own_I nd)), .val (.int (own_I z)), x6, .unset] [(.int (own_I d)), (.ref aP)]))
              refine own_back ?_ (fun t k => XS.iinc X145.here hx rfl (hb hby d15_92) rfl (l' := #[.val (.ref aG), .val (.int (own_I s0)), .val (.int (own_I t0)), .val (.int ((own_I d) + (1 : Int32))), .val (.int (own_I nd)), .val (.int (own_I z)), x6, .unset]) rfl k)
              show own_Go p e below PO (T145.setTop (mkF m 95 #[.val (.ref aG), .val (.int (own_I s0)), .val (.int (own_I t0)), .val (.int ((own_I d) + (1 : Int32))), .val (.int (own_I nd)), .val (.int (own_I z)), x6, .unset] [(.int (own_I d)), (.ref aP)]))
              refine own_sub (A := Int32) (x := ((own_I d) + (1 : Int32))) (y := (own_I (d + 1))) (fun cv => own_Go p e below PO (T145.setTop (mkF m 95 #[.val (.ref aG), .val (.int (own_I s0)), .val (.int (own_I t0)), .val (.int cv), .val (.int (own_I nd)), .val (.int (own_I z)), x6, .unset] [(.int (own_I d)), (.ref aP)]))) (own_add1 _) ?_
              show own_Go p e below PO (T145.setTop (mkF m 95 #[.val (.ref aG), .val (.int (own_I s0)), .val (.int (own_I t0)), .val (.int (own_I (d + 1))), .val (.int (own_I nd)), .val (.int (own_I z)), x6, .unset] [(.int (own_I d)), (.ref aP)]))
              refine own_back ?_ (fun t k => XS.iload X145.here hx rfl (hb hby d15_95) rfl k)
              show own_Go p e below PO (T145.setTop (mkF m 97 #[.val (.ref aG), .val (.int (own_I s0)), .val (.int (own_I t0)), .val (.int (own_I (d + 1))), .val (.int (own_I nd)), .val (.int (own_I z)), x6, .unset] [(.int (own_I z)), (.int (own_I d)), (.ref aP)]))
              obtain ⟨T146, h146, X146, e146, W146, V146, st146⟩ := own_stI X145 hx hZ e145 f126_144 (j := (own_I d)) (own_inb (z := d) (by omega)) (i := (own_I d).toNatClampNeg) rfl (own_ixi (z := d) _ (by omega)) (g := (mkF m 97 #[.val (.ref aG), .val (.int (own_I s0)), .val (.int (own_I t0)), .val (.int (own_I (d + 1))), .val (.int (own_I nd)), .val (.int (own_I z)), x6, .unset] [(.int (own_I z)), (.int (own_I d)), (.ref aP)])) rfl rfl (hb hby d15_97)
              rw [own_set (z := d) (x := z) (by omega) rfl] at V146
              have f146_147 := f126_127.wr W146
              have f146_148 := f126_128.other W146 (Or.inl (own_ne_aG_aP hNE))
              have f146_149 := f126_129.other W146 (Or.inl (own_ne_aG_aP hNE))
              have f146_150 := f126_130.other W146 (Or.inl (own_ne_aG_aP hNE))
              have f146_151 := f126_131.other W146 (Or.inl (own_ne_aG_aP hNE))
              have f146_152 := f126_132.other W146 (Or.inl (own_ne_aG_aP hNE))
              have f146_153 := f126_133.other W146 (Or.inl (own_ne_aG_aP hNE))
              have f146_154 := f126_134.other W146 (Or.inl (own_ne_aG_aP hNE))
              have f146_155 := f126_135.other W146 (Or.inl (own_ne_aG_aP hNE))
              have f146_156 := f126_136.other W146 (Or.inl (own_ne_aG_aP hNE))
              have f146_157 := f126_137.other W146 (Or.inl (own_ne_aG_aP hNE))
              have f146_158 := f126_138.other W146 (own_ne_aF_aP hNE)
              have f146_159 := f126_139.other W146 (own_ne_aN_aP hNE)
              have f146_160 := f126_140.other W146 (own_ne_aH_aP hNE)
              have f146_161 := f126_141.other W146 (own_ne_aR_aP hNE)
              have f146_162 := f126_142.other W146 (own_ne_aL_aP hNE)
              have f146_163 := V126.other W146 (own_ne_aA_aP hNE)
              have f146_164 := f126_143.other W146 (own_ne_aQ_aP hNE)
              have K146 : Keep h0 h146 [aG, aF, aN, aH, aR, aL, aA, aQ, aP] := (K126).wr W146 (Or.inl (by simp))
              have N146 := Fr.snoc X146 N126 gn_aP
              have Zh146 : n0 ≤ h146.size := Nat.le_trans Z0 K146.1
              refine own_back ?_ st146
              show own_Go p e below PO (T146.setTop (mkF m 98 #[.val (.ref aG), .val (.int (own_I s0)), .val (.int (own_I t0)), .val (.int (own_I (d + 1))), .val (.int (own_I nd)), .val (.int (own_I z)), x6, .unset] []))
              refine own_back ?_ (fun t k => XS.aloadN X146.here hx rfl (hb hby d15_98) rfl rfl k)
              show own_Go p e below PO (T146.setTop (mkF m 99 #[.val (.ref aG), .val (.int (own_I s0)), .val (.int (own_I t0)), .val (.int (own_I (d + 1))), .val (.int (own_I nd)), .val (.int (own_I z)), x6, .unset] [(.ref aG)]))
              obtain ⟨T165, X165, e165, st165⟩ := getF X146 hx hZ hown (host := "") (Or.inl (hw _ (List.mem_of_getElem? (i := 18) rfl))) Via.refl e146 f146_152 (g := (mkF m 99 #[.val (.ref aG), .val (.int (own_I s0)), .val (.int (own_I t0)), .val (.int (own_I (d + 1))), .val (.int (own_I nd)), .val (.int (own_I z)), x6, .unset] [(.ref aG)])) rfl rfl (hb hby d15_99)
              refine own_back ?_ st165
              show own_Go p e below PO (T165.setTop (mkF m 102 #[.val (.ref aG), .val (.int (own_I s0)), .val (.int (own_I t0)), .val (.int (own_I (d + 1))), .val (.int (own_I nd)), .val (.int (own_I z)), x6, .unset] [(.ref aH)]))
              refine own_back ?_ (fun t k => XS.iload X165.here hx rfl (hb hby d15_102) rfl k)
              show own_Go p e below PO (T165.setTop (mkF m 104 #[.val (.ref aG), .val (.int (own_I s0)), .val (.int (own_I t0)), .val (.int (own_I (d + 1))), .val (.int (own_I nd)), .val (.int (own_I z)), x6, .unset] [(.int (own_I z)), (.ref aH)]))
              refine own_back ?_ (own_ldI X165 hx hZ e165 f146_160 (j := (own_I z)) (v := (.int (own_I (hd z)))) (own_inb (z := z) (by omega)) (own_get (by omega)) (g := (mkF m 104 #[.val (.ref aG), .val (.int (own_I s0)), .val (.int (own_I t0)), .val (.int (own_I (d + 1))), .val (.int (own_I nd)), .val (.int (own_I z)), x6, .unset] [(.int (own_I z)), (.ref aH)])) rfl rfl (hb hby d15_104))
              show own_Go p e below PO (T165.setTop (mkF m 105 #[.val (.ref aG), .val (.int (own_I s0)), .val (.int (own_I t0)), .val (.int (own_I (d + 1))), .val (.int (own_I nd)), .val (.int (own_I z)), x6, .unset] [(.int (own_I (hd z)))]))
              refine own_back ?_ (fun t k => XS.istore X165.here hx rfl (hb hby d15_105) rfl (l' := #[.val (.ref aG), .val (.int (own_I s0)), .val (.int (own_I t0)), .val (.int (own_I (d + 1))), .val (.int (own_I (hd z))), .val (.int (own_I z)), x6, .unset]) rfl k)
              show own_Go p e below PO (T165.setTop (mkF m 107 #[.val (.ref aG), .val (.int (own_I s0)), .val (.int (own_I t0)), .val (.int (own_I (d + 1))), .val (.int (own_I (hd z))), .val (.int (own_I z)), x6, .unset] []))
              refine own_back ?_ (fun t k => XS.goto X165.here hx rfl (pc0 := 107) (pc' := 5) rfl (hb hby d15_107) (by decide) (by decide) k)
              show own_Go p e below PO (T165.setTop (mkF m 5 #[.val (.ref aG), .val (.int (own_I s0)), .val (.int (own_I t0)), .val (.int (own_I (d + 1))), .val (.int (own_I (hd z))), .val (.int (own_I z)), x6, .unset] []))
              exact ih_LM _ _ _ _ _ _ _ _ _ _ X165 e165 N146 K146 ⟨f146_147, f146_148, f146_149, f146_150, f146_151, f146_152, f146_153, f146_154, f146_155, f146_156, f146_157, f146_158, f146_159, f146_160, f146_161, f146_162, f146_163, f146_164, V146⟩ hDn.1 (Or.inr ⟨_, rfl⟩) h_x6 (by omega)
            refine own_back ?_ (fun t k => XS.icmpNo X123.here hx rfl (hb hby d15_58) rfl (feq hc58_124).1 k)
            show own_Go p e below PO (T123.setTop (mkF m 61 #[.val (.ref aG), .val (.int (own_I s0)), .val (.int (own_I t0)), .val (.int (own_I d)), .val (.int (own_I nd)), .val (.int (own_I z)), x6, .unset] []))
            refine own_back ?_ (fun t k => XS.aloadN X123.here hx rfl (hb hby d15_61) rfl rfl k)
            show own_Go p e below PO (T123.setTop (mkF m 62 #[.val (.ref aG), .val (.int (own_I s0)), .val (.int (own_I t0)), .val (.int (own_I d)), .val (.int (own_I nd)), .val (.int (own_I z)), x6, .unset] [(.ref aG)]))
            obtain ⟨T166, X166, e166, st166⟩ := getF X123 hx hZ hown (host := "") (Or.inl (hw _ (List.mem_of_getElem? (i := 16) rfl))) Via.refl e123 F_next1 (g := (mkF m 62 #[.val (.ref aG), .val (.int (own_I s0)), .val (.int (own_I t0)), .val (.int (own_I d)), .val (.int (own_I nd)), .val (.int (own_I z)), x6, .unset] [(.ref aG)])) rfl rfl (hb hby d15_62)
            refine own_back ?_ st166
            show own_Go p e below PO (T166.setTop (mkF m 65 #[.val (.ref aG), .val (.int (own_I s0)), .val (.int (own_I t0)), .val (.int (own_I d)), .val (.int (own_I nd)), .val (.int (own_I z)), x6, .unset] [(.ref aN)]))
            refine own_back ?_ (fun t k => XS.iload X166.here hx rfl (hb hby d15_65) rfl k)
            show own_Go p e below PO (T166.setTop (mkF m 67 #[.val (.ref aG), .val (.int (own_I s0)), .val (.int (own_I t0)), .val (.int (own_I d)), .val (.int (own_I nd)), .val (.int (own_I z)), x6, .unset] [(.int (own_I z)), (.ref aN)]))
            refine own_back ?_ (own_ldI X166 hx hZ e166 V_N1 (j := (own_I z)) (v := (.int (own_I (nxt z)))) (own_inb (z := z) (by omega)) (own_get (by omega)) (g := (mkF m 67 #[.val (.ref aG), .val (.int (own_I s0)), .val (.int (own_I t0)), .val (.int (own_I d)), .val (.int (own_I nd)), .val (.int (own_I z)), x6, .unset] [(.int (own_I z)), (.ref aN)])) rfl rfl (hb hby d15_67))
            show own_Go p e below PO (T166.setTop (mkF m 68 #[.val (.ref aG), .val (.int (own_I s0)), .val (.int (own_I t0)), .val (.int (own_I d)), .val (.int (own_I nd)), .val (.int (own_I z)), x6, .unset] [(.int (own_I (nxt z)))]))
            refine own_back ?_ (fun t k => XS.istore X166.here hx rfl (hb hby d15_68) rfl (l' := #[.val (.ref aG), .val (.int (own_I s0)), .val (.int (own_I t0)), .val (.int (own_I d)), .val (.int (own_I nd)), .val (.int (own_I (nxt z))), x6, .unset]) rfl k)
            show own_Go p e below PO (T166.setTop (mkF m 70 #[.val (.ref aG), .val (.int (own_I s0)), .val (.int (own_I t0)), .val (.int (own_I d)), .val (.int (own_I nd)), .val (.int (own_I (nxt z))), x6, .unset] []))
            refine own_back ?_ (fun t k => XS.goto X166.here hx rfl (pc0 := 70) (pc' := 20) rfl (hb hby d15_70) (by decide) (by decide) k)
            show own_Go p e below PO (T166.setTop (mkF m 20 #[.val (.ref aG), .val (.int (own_I s0)), .val (.int (own_I t0)), .val (.int (own_I d)), .val (.int (own_I nd)), .val (.int (own_I (nxt z))), x6, .unset] []))
            exact ih_LS _ _ X166 e166 (own_SC_skip hG hC z0 (fun _ h => hc58_124 ((own_eq (by omega) (by omega)).mpr h))) (by omega)
          refine own_back ?_ (fun t k => XS.ifYes X119.here hx rfl (pc0 := 34) (pc' := 61) rfl (hb hby d15_34) rfl ((if0 _ _).trans (flt hc34_120).2.2.2) (by decide) (by decide) k)
          show own_Go p e below PO (T119.setTop (mkF m 61 #[.val (.ref aG), .val (.int (own_I s0)), .val (.int (own_I t0)), .val (.int (own_I d)), .val (.int (own_I nd)), .val (.int (own_I z)), x6, .unset] []))
          refine own_back ?_ (fun t k => XS.aloadN X119.here hx rfl (hb hby d15_61) rfl rfl k)
          show own_Go p e below PO (T119.setTop (mkF m 62 #[.val (.ref aG), .val (.int (own_I s0)), .val (.int (own_I t0)), .val (.int (own_I d)), .val (.int (own_I nd)), .val (.int (own_I z)), x6, .unset] [(.ref aG)]))
          obtain ⟨T167, X167, e167, st167⟩ := getF X119 hx hZ hown (host := "") (Or.inl (hw _ (List.mem_of_getElem? (i := 16) rfl))) Via.refl e119 F_next1 (g := (mkF m 62 #[.val (.ref aG), .val (.int (own_I s0)), .val (.int (own_I t0)), .val (.int (own_I d)), .val (.int (own_I nd)), .val (.int (own_I z)), x6, .unset] [(.ref aG)])) rfl rfl (hb hby d15_62)
          refine own_back ?_ st167
          show own_Go p e below PO (T167.setTop (mkF m 65 #[.val (.ref aG), .val (.int (own_I s0)), .val (.int (own_I t0)), .val (.int (own_I d)), .val (.int (own_I nd)), .val (.int (own_I z)), x6, .unset] [(.ref aN)]))
          refine own_back ?_ (fun t k => XS.iload X167.here hx rfl (hb hby d15_65) rfl k)
          show own_Go p e below PO (T167.setTop (mkF m 67 #[.val (.ref aG), .val (.int (own_I s0)), .val (.int (own_I t0)), .val (.int (own_I d)), .val (.int (own_I nd)), .val (.int (own_I z)), x6, .unset] [(.int (own_I z)), (.ref aN)]))
          refine own_back ?_ (own_ldI X167 hx hZ e167 V_N1 (j := (own_I z)) (v := (.int (own_I (nxt z)))) (own_inb (z := z) (by omega)) (own_get (by omega)) (g := (mkF m 67 #[.val (.ref aG), .val (.int (own_I s0)), .val (.int (own_I t0)), .val (.int (own_I d)), .val (.int (own_I nd)), .val (.int (own_I z)), x6, .unset] [(.int (own_I z)), (.ref aN)])) rfl rfl (hb hby d15_67))
          show own_Go p e below PO (T167.setTop (mkF m 68 #[.val (.ref aG), .val (.int (own_I s0)), .val (.int (own_I t0)), .val (.int (own_I d)), .val (.int (own_I nd)), .val (.int (own_I z)), x6, .unset] [(.int (own_I (nxt z)))]))
          refine own_back ?_ (fun t k => XS.istore X167.here hx rfl (hb hby d15_68) rfl (l' := #[.val (.ref aG), .val (.int (own_I s0)), .val (.int (own_I t0)), .val (.int (own_I d)), .val (.int (own_I nd)), .val (.int (own_I (nxt z))), x6, .unset]) rfl k)
          show own_Go p e below PO (T167.setTop (mkF m 70 #[.val (.ref aG), .val (.int (own_I s0)), .val (.int (own_I t0)), .val (.int (own_I d)), .val (.int (own_I nd)), .val (.int (own_I (nxt z))), x6, .unset] []))
          refine own_back ?_ (fun t k => XS.goto X167.here hx rfl (pc0 := 70) (pc' := 20) rfl (hb hby d15_70) (by decide) (by decide) k)
          show own_Go p e below PO (T167.setTop (mkF m 20 #[.val (.ref aG), .val (.int (own_I s0)), .val (.int (own_I t0)), .val (.int (own_I d)), .val (.int (own_I nd)), .val (.int (own_I (nxt z))), x6, .unset] []))
          exact ih_LS _ _ X167 e167 (own_SC_skip hG hC z0 (fun h => absurd h (own_cz_n hc34_120))) (by omega)
      exact LS 100 _ (arc1 nd) X53 e53 (own_SC_init hD nb nt) (by omega)
  exact LM 100 _ _ _ _ _ _ _ _ 0 s0 X0 e0 N0 K0 ⟨E_G, F_nodeCount, F_edgeCount, F_first, F_next, F_head, F_room, F_level, F_arc, F_queue, F_path, V_F, V_N, V_H, V_R, V_L, V_A, V_Q, V_P⟩ (own_DF_init hA hW) (Or.inl rfl) (Or.inl rfl) (by have := own_cnt_b lev; omega)
theorem pd_3 : parseMethodDescriptor "(II)Z" = some ⟨[.int, .int], some .boolean⟩ := by decide +kernel
theorem d9_0 : decode prog_25_method_6_code 0 = .ok (.aload_n 0, 1) := by decide +kernel
theorem d9_1 : decode prog_25_method_6_code 1 = .ok (.iload_n 1, 1) := by decide +kernel
theorem d9_2 : decode prog_25_method_6_code 2 = .ok (.iload_n 2, 1) := by decide +kernel
theorem d9_3 : decode prog_25_method_6_code 3 = .ok (.invokevirtual 68, 3) := by decide +kernel
theorem d9_6 : decode prog_25_method_6_code 6 = .ok (.ifCond .eq 32, 3) := by decide +kernel
theorem d9_9 : decode prog_25_method_6_code 9 = .ok (.aload_n 0, 1) := by decide +kernel
theorem d9_10 : decode prog_25_method_6_code 10 = .ok (.getfield 7, 3) := by decide +kernel
theorem d9_13 : decode prog_25_method_6_code 13 = .ok (.iconst 0, 1) := by decide +kernel
theorem d9_14 : decode prog_25_method_6_code 14 = .ok (.aload_n 0, 1) := by decide +kernel
theorem d9_15 : decode prog_25_method_6_code 15 = .ok (.getfield 26, 3) := by decide +kernel
theorem d9_18 : decode prog_25_method_6_code 18 = .ok (.iconst 0, 1) := by decide +kernel
theorem d9_19 : decode prog_25_method_6_code 19 = .ok (.aload_n 0, 1) := by decide +kernel
theorem d9_20 : decode prog_25_method_6_code 20 = .ok (.getfield 35, 3) := by decide +kernel
theorem d9_23 : decode prog_25_method_6_code 23 = .ok (.invokestatic 72, 3) := by decide +kernel
theorem d9_26 : decode prog_25_method_6_code 26 = .ok (.aload_n 0, 1) := by decide +kernel
theorem d9_27 : decode prog_25_method_6_code 27 = .ok (.iload_n 1, 1) := by decide +kernel
theorem d9_28 : decode prog_25_method_6_code 28 = .ok (.iload_n 2, 1) := by decide +kernel
theorem d9_29 : decode prog_25_method_6_code 29 = .ok (.invokevirtual 78, 3) := by decide +kernel
theorem d9_32 : decode prog_25_method_6_code 32 = .ok (.ifCond .eq (-32), 3) := by decide +kernel
theorem d9_35 : decode prog_25_method_6_code 35 = .ok (.goto (-9), 3) := by decide +kernel
theorem d9_38 : decode prog_25_method_6_code 38 = .ok (.return_, 1) := by decide +kernel
theorem ef_rmCut (m : MethodId) (x0 : Addr) (x1 : Int32) (x2 : Int32) : entryFrame m #[(.ref x0), (.int x1), (.int x2)] 3 = mkF m 0 #[.val (.ref x0), .val (.int x1), .val (.int x2)] [] := by first | (simp [entryFrame, mkF, argsToLocals, Value.category]; done) | rfl
def Q_rmCut (Z : State) (aG aF aN aH aR aL aA aQ aP : Addr) (kF kN kH kR kL kA kQ kP : ClassId) (E : Nat) (tl fst nxt hd rm lev arc que pth : Int → Int) (ec : Int32) (s0 t0 : Int) (h0 : Heap) (n0 : Nat) (v : Option Value) (h : Heap) (L : List Loc) : Prop := v = none ∧ Fr n0 L ∧ Keep h0 h [aG, aF, aN, aH, aR, aL, aA, aQ, aP] ∧ ∃ (rm' lev' arc' que' pth' : Int → Int), own_S Z h aG aF aN aH aR aL aA aQ aP kF kN kH kR kL kA kQ kP (4 : Int32) ec fst nxt hd rm' lev' arc' que' pth' ∧ own_CI E tl hd s0 t0 rm rm' ∧ own_LV E tl hd rm' s0 lev' ∧ lev' t0 < 0
set_option maxRecDepth 65536 in
set_option maxHeartbeats 40000000 in
theorem rmCut (l : Launch) (Z : State) (a0 : Array Value) (hw : ∀ d ∈ tables_1, d.before a0 Z = true) (ws : List Jvm.Cond) (aG : Addr) (aF aN aH aR aL aA aQ aP : Addr) (kF kN kH kR kL kA kQ kP : ClassId) (E : Nat) (tl fst nxt hd rm lev arc que pth : Int → Int) (ec : Int32) (s0 t0 : Int) (h0 : Heap) (n0 : Nat) (Z0 : n0 ≤ h0.size) (hNE : own_NE n0 aG aF aN aH aR aL aA aQ aP) (hS : own_S Z h0 aG aF aN aH aR aL aA aQ aP kF kN kH kR kL kA kQ kP (4 : Int32) ec fst nxt hd rm lev arc que pth) (hG : own_G E tl hd fst nxt) (hR : own_R E rm) (hs : 0 ≤ s0 ∧ s0 < 4) (ht : 0 ≤ t0 ∧ t0 < 4) (hst : s0 ≠ t0) :
    MetFree l (⟨"com/example/nearbound/nearbound/graph/MinCut", "cut", "(II)V"⟩ : MethodName) (head1 (Jvm.Cond.code (⟨"com/example/nearbound/nearbound/graph/MinCut", "cut", "(II)V"⟩ : MethodName) prog_25_method_6_code 3 none :: ws) ({ frames := 3, cells := 0, slots := 0, locals := 48 } : Room)) (fun a U => a = #[(.ref aG), (.int (own_I s0)), (.int (own_I t0))] ∧ Z.Warmed39 U.vm ∧ U.heap = h0) (fun _ _ _ _ _ => True) (fun _ U o U' => ∃ v L, o = .returned v ∧ Q_rmCut Z aG aF aN aH aR aL aA aQ aP kF kN kH kR kL kA kQ kP E tl fst nxt hd rm lev arc que pth ec s0 t0 h0 n0 v U'.heap L ∧ FrameEnd U o U' L ({ frames := 3, cells := 0, slots := 0, locals := 48 } : Room).cells ({ frames := 3, cells := 0, slots := 0, locals := 48 } : Room).slots) := by
  refine MetFree.of_bodySF (plainFor_of_name pn_2) hisR ?_
  intro p e s m args below meth c s₁ Bd hml0 hP hK
  obtain ⟨rfl, hZ, hh⟩ := hP
  have hx := Bd.exec
  have hby := Bd.bytes
  have hml : c.maxLocals = 3 := hml0
  have hown : s.vm.findClass "com/example/nearbound/nearbound/graph/MinCut" = some m.cls := findClass_of_methodNamed Bd.named
  have hnm := (name_of_methodNamed Bd.named Bd.method).1
  have X0 : Stand p l e ({ frames := 3, cells := 0, slots := 0, locals := 48 } : Room) s m #[(.ref aG), (.int (own_I s0)), (.int (own_I t0))] below meth c s₁ [] 0 0 := Stand.of_body Bd
  have e0 : s₁.heap = h0 := by rw [← hh, Bd.state]; rfl
  have N0 := Fr.nil n0
  let PO : Outcome → State → Prop := own_PO s (Q_rmCut Z aG aF aN aH aR aL aA aQ aP kF kN kH kR kL kA kQ kP E tl fst nxt hd rm lev arc que pth ec s0 t0 h0 n0) 0 0
  show own_Go p e below PO (s₁.setTop (entryFrame m #[(.ref aG), (.int (own_I s0)), (.int (own_I t0))] 3))
  rw [ef_rmCut]
  obtain ⟨gn_aG, gn_aF, gn_aN, gn_aH, gn_aR, gn_aL, gn_aA, gn_aQ, gn_aP⟩ := hNE.1
  have hS' := hS
  obtain ⟨E_G, F_nodeCount, F_edgeCount, F_first, F_next, F_head, F_room, F_level, F_arc, F_queue, F_path, V_F, V_N, V_H, V_R, V_L, V_A, V_Q, V_P⟩ := hS'
  have K0 : Keep h0 h0 [aG, aF, aN, aH, aR, aL, aA, aQ, aP] := Keep.refl h0 _
  show own_Go p e below PO (s₁.setTop (mkF m 0 #[.val (.ref aG), .val (.int (own_I s0)), .val (.int (own_I t0))] []))
  have LO : ∀ (n : Nat) (T1 : State) (H1 : Heap) (lc1 : List Loc) (rm1 lev1 arc1 que1 pth1 : Int → Int), Stand p l e ({ frames := 3, cells := 0, slots := 0, locals := 48 } : Room) s m #[(.ref aG), (.int (own_I s0)), (.int (own_I t0))] below meth c T1 lc1 0 0 → T1.heap = H1 → Fr n0 lc1 → Keep h0 H1 [aG, aF, aN, aH, aR, aL, aA, aQ, aP] → own_S Z H1 aG aF aN aH aR aL aA aQ aP kF kN kH kR kL kA kQ kP (4 : Int32) ec fst nxt hd rm1 lev1 arc1 que1 pth1 → own_CI E tl hd s0 t0 rm rm1 → (own_ms E tl hd s0 rm1).toNat < n → own_Go p e below PO (T1.setTop (mkF m 0 #[.val (.ref aG), .val (.int (own_I s0)), .val (.int (own_I t0))] [])) := by
    intro n
    induction n with
    | zero =>
      intro T1 H1 lc1 rm1 lev1 arc1 que1 pth1 X1 eT1 N1 K1 hS1 hCI hm
      exact absurd hm (Nat.not_lt_zero _)
    | succ n ih_LO =>
      intro T1 H1 lc1 rm1 lev1 arc1 que1 pth1 X1 eT1 N1 K1 hS1 hCI hm
      have Zh1 : n0 ≤ H1.size := Nat.le_trans Z0 K1.1
      obtain ⟨E_G1, F_nodeCount1, F_edgeCount1, F_first1, F_next1, F_head1, F_room1, F_level1, F_arc1, F_queue1, F_path1, V_F1, V_N1, V_H1, V_R1, V_L1, V_A1, V_Q1, V_P1⟩ := hS1
      show own_Go p e below PO (T1.setTop (mkF m 0 #[.val (.ref aG), .val (.int (own_I s0)), .val (.int (own_I t0))] []))
      refine own_back ?_ (fun t k => XS.aloadN X1.here hx rfl (hb hby d9_0) rfl rfl k)
      show own_Go p e below PO (T1.setTop (mkF m 1 #[.val (.ref aG), .val (.int (own_I s0)), .val (.int (own_I t0))] [(.ref aG)]))
      refine own_back ?_ (fun t k => XS.iloadN X1.here hx rfl (hb hby d9_1) rfl k)
      show own_Go p e below PO (T1.setTop (mkF m 2 #[.val (.ref aG), .val (.int (own_I s0)), .val (.int (own_I t0))] [(.int (own_I s0)), (.ref aG)]))
      refine own_back ?_ (fun t k => XS.iloadN X1.here hx rfl (hb hby d9_2) rfl k)
      show own_Go p e below PO (T1.setTop (mkF m 3 #[.val (.ref aG), .val (.int (own_I s0)), .val (.int (own_I t0))] [(.int (own_I t0)), (.int (own_I s0)), (.ref aG)]))
      obtain ⟨cq1, q1, q1'⟩ := E_G1.cell
      obtain ⟨_, _, ⟨T1, L1, k1, n1⟩, -, X1, ⟨Lc1, hQ1, l1, y1, z1⟩, st1⟩ := X1.privateBack hx (y := (⟨"com/example/nearbound/nearbound/graph/MinCut", "levels", "(II)Z"⟩ : MethodName)) hown (mvT hZ (hw _ (List.mem_of_getElem? (i := 62) rfl))) (mvT hZ (hw _ (List.mem_of_getElem? (i := 63) rfl))) (own_selpriv (args' := #[]) (mvT hZ (hw _ (List.mem_of_getElem? (i := 34) rfl))) (Cond.privateMethod_at (mvP hZ (hw _ (List.mem_of_getElem? (i := 64) rfl)) (args := #[]))) (mvT hZ (hw _ (List.mem_of_getElem? (i := 63) rfl))) (by decide)) (Cond.privateMethod_at (mvP hZ (hw _ (List.mem_of_getElem? (i := 64) rfl)) (args := #[]))) (mvT hZ (hw _ (List.mem_of_getElem? (i := 65) rfl))) (by decide) (backOf (W := 0) (rmLev l Z a0 hw [] aG aF aN aH aR aL aA aQ aP kF kN kH kR kL kA kQ kP E tl fst nxt hd rm1 lev1 arc1 que1 pth1 ec s0 t0 H1 n0 Zh1 hNE ⟨E_G1, F_nodeCount1, F_edgeCount1, F_first1, F_next1, F_head1, F_room1, F_level1, F_arc1, F_queue1, F_path1, V_F1, V_N1, V_H1, V_R1, V_L1, V_A1, V_Q1, V_P1⟩ hG hCI.1 hs ht) hZ (hw _ (List.mem_of_getElem? (i := 65) rfl)) (hw _ (List.mem_of_getElem? (i := 6) rfl)) (by decide) (by decide)) (g := (mkF m 3 #[.val (.ref aG), .val (.int (own_I s0)), .val (.int (own_I t0))] [(.int (own_I t0)), (.int (own_I s0)), (.ref aG)])) rfl (by rw [hml]; rfl) (Steps.refl _) (a := aG) (by rw [eT1]; exact q1) q1' (argsL := [(.int (own_I s0)), (.int (own_I t0))]) (rest := []) (lenOf pd_3 rfl) rfl (by show 2 * 0 + _ ≤ _; exact Nat.le_of_eq rfl) (hb hby d9_3) (fun _ _ => ⟨rfl, eT1, (by decide : 0 + 0 ≤ _), (by decide : 0 + 0 ≤ _)⟩)
      dsimp only [Pt.U, Pt.locs, Pt.cells, Pt.slots] at X1 l1 y1 z1 st1 hQ1
      subst l1 y1 z1
      obtain ⟨r1, lev_1, que_1, rfl, N1q, Kc1, hS1, hLV, hor1⟩ := hQ1
      have N1 := Fr.app N1 N1q
      have K1 : Keep h0 T1.heap [aG, aF, aN, aH, aR, aL, aA, aQ, aP] := (K1).trans Kc1 (fun x hx => Or.inl hx)
      have Zh1 : n0 ≤ T1.heap.size := Nat.le_trans Z0 K1.1
      obtain ⟨E_G1, F_nodeCount1, F_edgeCount1, F_first1, F_next1, F_head1, F_room1, F_level1, F_arc1, F_queue1, F_path1, V_F1, V_N1, V_H1, V_R1, V_L1, V_A1, V_Q1, V_P1⟩ := hS1
      refine own_back ?_ (fun t k => st1.trans k)
      show own_Go p e below PO (T1.setTop (mkF m 6 #[.val (.ref aG), .val (.int (own_I s0)), .val (.int (own_I t0))] [(.int r1)]))
      by_cases hc6_2 : r1 = (0 : Int32)
      case pos =>
        refine own_back ?_ (fun t k => XS.ifYes X1.here hx rfl (pc0 := 6) (pc' := 38) rfl (hb hby d9_6) rfl ((if0 _ _).trans (teq hc6_2).1) (by decide) (by decide) k)
        show own_Go p e below PO (T1.setTop (mkF m 38 #[.val (.ref aG), .val (.int (own_I s0)), .val (.int (own_I t0))] []))
        refine own_retV X1 hx Bd.returns (hb hby d9_38) rfl (Bd.notSynchronized) ?_ (by decide) (by decide)
        exact ⟨rfl, N1, K1, _, _, _, _, _, ⟨E_G1, F_nodeCount1, F_edgeCount1, F_first1, F_next1, F_head1, F_room1, F_level1, F_arc1, F_queue1, F_path1, V_F1, V_N1, V_H1, V_R1, V_L1, V_A1, V_Q1, V_P1⟩, hCI, hLV, own_or0 hor1 hc6_2⟩
      refine own_back ?_ (fun t k => XS.ifNo X1.here hx rfl (hb hby d9_6) rfl ((if0 _ _).trans (feq hc6_2).1) k)
      show own_Go p e below PO (T1.setTop (mkF m 9 #[.val (.ref aG), .val (.int (own_I s0)), .val (.int (own_I t0))] []))
      refine own_back ?_ (fun t k => XS.aloadN X1.here hx rfl (hb hby d9_9) rfl rfl k)
      show own_Go p e below PO (T1.setTop (mkF m 10 #[.val (.ref aG), .val (.int (own_I s0)), .val (.int (own_I t0))] [(.ref aG)]))
      obtain ⟨T3, X3, e3, st3⟩ := getF X1 hx hZ hown (host := "") (Or.inl (hw _ (List.mem_of_getElem? (i := 14) rfl))) Via.refl rfl F_first1 (g := (mkF m 10 #[.val (.ref aG), .val (.int (own_I s0)), .val (.int (own_I t0))] [(.ref aG)])) rfl rfl (hb hby d9_10)
      refine own_back ?_ st3
      show own_Go p e below PO (T3.setTop (mkF m 13 #[.val (.ref aG), .val (.int (own_I s0)), .val (.int (own_I t0))] [(.ref aF)]))
      refine own_back ?_ (fun t k => XS.iconst X3.here hx rfl (hb hby d9_13) k)
      show own_Go p e below PO (T3.setTop (mkF m 14 #[.val (.ref aG), .val (.int (own_I s0)), .val (.int (own_I t0))] [(.int (0 : Int32)), (.ref aF)]))
      refine own_back ?_ (fun t k => XS.aloadN X3.here hx rfl (hb hby d9_14) rfl rfl k)
      show own_Go p e below PO (T3.setTop (mkF m 15 #[.val (.ref aG), .val (.int (own_I s0)), .val (.int (own_I t0))] [(.ref aG), (.int (0 : Int32)), (.ref aF)]))
      obtain ⟨T4, X4, e4, st4⟩ := getF X3 hx hZ hown (host := "") (Or.inl (hw _ (List.mem_of_getElem? (i := 25) rfl))) Via.refl e3 F_arc1 (g := (mkF m 15 #[.val (.ref aG), .val (.int (own_I s0)), .val (.int (own_I t0))] [(.ref aG), (.int (0 : Int32)), (.ref aF)])) rfl rfl (hb hby d9_15)
      refine own_back ?_ st4
      show own_Go p e below PO (T4.setTop (mkF m 18 #[.val (.ref aG), .val (.int (own_I s0)), .val (.int (own_I t0))] [(.ref aA), (.int (0 : Int32)), (.ref aF)]))
      refine own_back ?_ (fun t k => XS.iconst X4.here hx rfl (hb hby d9_18) k)
      show own_Go p e below PO (T4.setTop (mkF m 19 #[.val (.ref aG), .val (.int (own_I s0)), .val (.int (own_I t0))] [(.int (0 : Int32)), (.ref aA), (.int (0 : Int32)), (.ref aF)]))
      refine own_back ?_ (fun t k => XS.aloadN X4.here hx rfl (hb hby d9_19) rfl rfl k)
      show own_Go p e below PO (T4.setTop (mkF m 20 #[.val (.ref aG), .val (.int (own_I s0)), .val (.int (own_I t0))] [(.ref aG), (.int (0 : Int32)), (.ref aA), (.int (0 : Int32)), (.ref aF)]))
      obtain ⟨T5, X5, e5, st5⟩ := getF X4 hx hZ hown (host := "") (Or.inl (hw _ (List.mem_of_getElem? (i := 36) rfl))) Via.refl e4 F_nodeCount1 (g := (mkF m 20 #[.val (.ref aG), .val (.int (own_I s0)), .val (.int (own_I t0))] [(.ref aG), (.int (0 : Int32)), (.ref aA), (.int (0 : Int32)), (.ref aF)])) rfl rfl (hb hby d9_20)
      refine own_back ?_ st5
      show own_Go p e below PO (T5.setTop (mkF m 23 #[.val (.ref aG), .val (.int (own_I s0)), .val (.int (own_I t0))] [(.int (4 : Int32)), (.int (0 : Int32)), (.ref aA), (.int (0 : Int32)), (.ref aF)]))
      obtain ⟨T6, h6, L6, X6, e6, N6, Kc6, V6, st6⟩ := cpA X5 hx hZ hown (hw _ (List.mem_of_getElem? (i := 82) rfl)) (hw _ (List.mem_of_getElem? (i := 85) rfl)) (hw _ (List.mem_of_getElem? (i := 83) rfl)) (hw _ (List.mem_of_getElem? (i := 84) rfl)) e5 V_F1 V_A1 (Or.inl ⟨rfl, rfl⟩) (by decide) (by decide) (by decide) (by decide) (by decide) rfl (by rw [own_vl]; decide) N1 gn_aA (g := (mkF m 23 #[.val (.ref aG), .val (.int (own_I s0)), .val (.int (own_I t0))] [(.int (4 : Int32)), (.int (0 : Int32)), (.ref aA), (.int (0 : Int32)), (.ref aF)])) rfl (by rw [hml]; rfl) rfl (hb hby d9_23) (by decide) (W := 0) (by show 2 * 0 + _ ≤ _; exact Nat.le_of_eq rfl) (by decide)
      have f6_7 := E_G1.keep Kc6
      have f6_8 := F_nodeCount1.keep Kc6 (ninS (own_ne_aG_aA hNE) nin0)
      have f6_9 := F_edgeCount1.keep Kc6 (ninS (own_ne_aG_aA hNE) nin0)
      have f6_10 := F_first1.keep Kc6 (ninS (own_ne_aG_aA hNE) nin0)
      have f6_11 := F_next1.keep Kc6 (ninS (own_ne_aG_aA hNE) nin0)
      have f6_12 := F_head1.keep Kc6 (ninS (own_ne_aG_aA hNE) nin0)
      have f6_13 := F_room1.keep Kc6 (ninS (own_ne_aG_aA hNE) nin0)
      have f6_14 := F_level1.keep Kc6 (ninS (own_ne_aG_aA hNE) nin0)
      have f6_15 := F_arc1.keep Kc6 (ninS (own_ne_aG_aA hNE) nin0)
      have f6_16 := F_queue1.keep Kc6 (ninS (own_ne_aG_aA hNE) nin0)
      have f6_17 := F_path1.keep Kc6 (ninS (own_ne_aG_aA hNE) nin0)
      have f6_18 := V_F1.keep Kc6 (ninS (own_ne_aF_aA hNE) nin0)
      have f6_19 := V_N1.keep Kc6 (ninS (own_ne_aN_aA hNE) nin0)
      have f6_20 := V_H1.keep Kc6 (ninS (own_ne_aH_aA hNE) nin0)
      have f6_21 := V_R1.keep Kc6 (ninS (own_ne_aR_aA hNE) nin0)
      have f6_22 := V_L1.keep Kc6 (ninS (own_ne_aL_aA hNE) nin0)
      have f6_23 := V_Q1.keep Kc6 (ninS (Ne.symm (own_ne_aA_aQ hNE)) nin0)
      have f6_24 := V_P1.keep Kc6 (ninS (Ne.symm (own_ne_aA_aP hNE)) nin0)
      have K6 : Keep h0 h6 [aG, aF, aN, aH, aR, aL, aA, aQ, aP] := (K1).trans Kc6 (allS (Or.inl (by simp)) all0)
      have Zh6 : n0 ≤ h6.size := Nat.le_trans Z0 K6.1
      refine own_back ?_ st6
      show own_Go p e below PO (T6.setTop (mkF m 26 #[.val (.ref aG), .val (.int (own_I s0)), .val (.int (own_I t0))] []))
      have V_A25 : Arv Z h6 aA kA .int (16 : Int32) (own_vi (own_cp fst arc1)) (.int (0 : Int32)) := V6.pad (own_cp_l fst arc1)
      have hac : ∀ n : Int, 0 ≤ n → n < 4 → (own_cp fst arc1) n = fst n := fun n _ h => own_cp4 h
      have LI : ∀ (k : Nat) (T2 : State) (H2 : Heap) (lc2 : List Loc) (rm2 lev2 arc2 pth2 : Int → Int), Stand p l e ({ frames := 3, cells := 0, slots := 0, locals := 48 } : Room) s m #[(.ref aG), (.int (own_I s0)), (.int (own_I t0))] below meth c T2 lc2 0 0 → T2.heap = H2 → Fr n0 lc2 → Keep h0 H2 [aG, aF, aN, aH, aR, aL, aA, aQ, aP] → own_S Z H2 aG aF aN aH aR aL aA aQ aP kF kN kH kR kL kA kQ kP (4 : Int32) ec fst nxt hd rm2 lev2 arc2 que_1 pth2 → own_CI E tl hd s0 t0 rm rm2 → own_A E tl s0 lev2 arc2 → (own_ms E tl hd s0 rm2).toNat < n → (own_ms E tl hd s0 rm2).toNat < k → own_Go p e below PO (T2.setTop (mkF m 26 #[.val (.ref aG), .val (.int (own_I s0)), .val (.int (own_I t0))] [])) := by
        intro k
        induction k with
        | zero =>
          intro T2 H2 lc2 rm2 lev2 arc2 pth2 X2 eT2 N2 K2 hS2 hCI2 hA2 hn2 hm2
          exact absurd hm2 (Nat.not_lt_zero _)
        | succ k ih_LI =>
          intro T2 H2 lc2 rm2 lev2 arc2 pth2 X2 eT2 N2 K2 hS2 hCI2 hA2 hn2 hm2
          have Zh2 : n0 ≤ H2.size := Nat.le_trans Z0 K2.1
          obtain ⟨E_G2, F_nodeCount2, F_edgeCount2, F_first2, F_next2, F_head2, F_room2, F_level2, F_arc2, F_queue2, F_path2, V_F2, V_N2, V_H2, V_R2, V_L2, V_A2, V_Q2, V_P2⟩ := hS2
          show own_Go p e below PO (T2.setTop (mkF m 26 #[.val (.ref aG), .val (.int (own_I s0)), .val (.int (own_I t0))] []))
          refine own_back ?_ (fun t k => XS.aloadN X2.here hx rfl (hb hby d9_26) rfl rfl k)
          show own_Go p e below PO (T2.setTop (mkF m 27 #[.val (.ref aG), .val (.int (own_I s0)), .val (.int (own_I t0))] [(.ref aG)]))
          refine own_back ?_ (fun t k => XS.iloadN X2.here hx rfl (hb hby d9_27) rfl k)
          show own_Go p e below PO (T2.setTop (mkF m 28 #[.val (.ref aG), .val (.int (own_I s0)), .val (.int (own_I t0))] [(.int (own_I s0)), (.ref aG)]))
          refine own_back ?_ (fun t k => XS.iloadN X2.here hx rfl (hb hby d9_28) rfl k)
          show own_Go p e below PO (T2.setTop (mkF m 29 #[.val (.ref aG), .val (.int (own_I s0)), .val (.int (own_I t0))] [(.int (own_I t0)), (.int (own_I s0)), (.ref aG)]))
          obtain ⟨cq26, q26, q26'⟩ := E_G2.cell
          obtain ⟨_, _, ⟨T26, L26, k26, n26⟩, -, X26, ⟨Lc26, hQ26, l26, y26, z26⟩, st26⟩ := X2.privateBack hx (y := (⟨"com/example/nearbound/nearbound/graph/MinCut", "augment", "(II)Z"⟩ : MethodName)) hown (mvT hZ (hw _ (List.mem_of_getElem? (i := 86) rfl))) (mvT hZ (hw _ (List.mem_of_getElem? (i := 87) rfl))) (own_selpriv (args' := #[]) (mvT hZ (hw _ (List.mem_of_getElem? (i := 34) rfl))) (Cond.privateMethod_at (mvP hZ (hw _ (List.mem_of_getElem? (i := 88) rfl)) (args := #[]))) (mvT hZ (hw _ (List.mem_of_getElem? (i := 87) rfl))) (by decide)) (Cond.privateMethod_at (mvP hZ (hw _ (List.mem_of_getElem? (i := 88) rfl)) (args := #[]))) (mvT hZ (hw _ (List.mem_of_getElem? (i := 89) rfl))) (by decide) (backOf (W := 0) (rmAug l Z a0 hw [] aG aF aN aH aR aL aA aQ aP kF kN kH kR kL kA kQ kP E tl fst nxt hd rm2 lev2 arc2 que_1 pth2 ec s0 t0 (fun _ => False) H2 n0 Zh2 hNE ⟨E_G2, F_nodeCount2, F_edgeCount2, F_first2, F_next2, F_head2, F_room2, F_level2, F_arc2, F_queue2, F_path2, V_F2, V_N2, V_H2, V_R2, V_L2, V_A2, V_Q2, V_P2⟩ hG hCI2.1 hs ht hst hA2 own_W_no) hZ (hw _ (List.mem_of_getElem? (i := 89) rfl)) (hw _ (List.mem_of_getElem? (i := 6) rfl)) (by decide) (by decide)) (g := (mkF m 29 #[.val (.ref aG), .val (.int (own_I s0)), .val (.int (own_I t0))] [(.int (own_I t0)), (.int (own_I s0)), (.ref aG)])) rfl (by rw [hml]; rfl) (Steps.refl _) (a := aG) (by rw [eT2]; exact q26) q26' (argsL := [(.int (own_I s0)), (.int (own_I t0))]) (rest := []) (lenOf pd_3 rfl) rfl (by show 2 * 0 + _ ≤ _; exact Nat.le_of_eq rfl) (hb hby d9_29) (fun _ _ => ⟨rfl, eT2, (by decide : 0 + 0 ≤ _), (by decide : 0 + 0 ≤ _)⟩)
          dsimp only [Pt.U, Pt.locs, Pt.cells, Pt.slots] at X26 l26 y26 z26 st26 hQ26
          subst l26 y26 z26
          obtain ⟨r26, rm_26, lev_26, arc_26, pth_26, rfl, N26q, Kc26, hS26, hor26⟩ := hQ26
          have N26 := Fr.app N2 N26q
          have K26 : Keep h0 T26.heap [aG, aF, aN, aH, aR, aL, aA, aQ, aP] := (K2).trans Kc26 (fun x hx => Or.inl hx)
          have Zh26 : n0 ≤ T26.heap.size := Nat.le_trans Z0 K26.1
          obtain ⟨E_G26, F_nodeCount26, F_edgeCount26, F_first26, F_next26, F_head26, F_room26, F_level26, F_arc26, F_queue26, F_path26, V_F26, V_N26, V_H26, V_R26, V_L26, V_A26, V_Q26, V_P26⟩ := hS26
          refine own_back ?_ (fun t k => st26.trans k)
          show own_Go p e below PO (T26.setTop (mkF m 32 #[.val (.ref aG), .val (.int (own_I s0)), .val (.int (own_I t0))] [(.int r26)]))
          by_cases hc32_27 : r26 = (0 : Int32)
          case pos =>
            refine own_back ?_ (fun t k => XS.ifYes X26.here hx rfl (pc0 := 32) (pc' := 0) rfl (hb hby d9_32) rfl ((if0 _ _).trans (teq hc32_27).1) (by decide) (by decide) k)
            show own_Go p e below PO (T26.setTop (mkF m 0 #[.val (.ref aG), .val (.int (own_I s0)), .val (.int (own_I t0))] []))
            have re := (own_or0 hor26 hc32_27).1
            exact ih_LO _ _ _ _ _ _ _ _ X26 rfl N26 K26 ⟨E_G26, F_nodeCount26, F_edgeCount26, F_first26, F_next26, F_head26, F_room26, F_level26, F_arc26, F_queue26, F_path26, V_F26, V_N26, V_H26, V_R26, V_L26, V_A26, V_Q26, V_P26⟩ (by rw [re]; exact hCI2) (by rw [re]; exact hn2)
          refine own_back ?_ (fun t k => XS.ifNo X26.here hx rfl (hb hby d9_32) rfl ((if0 _ _).trans (feq hc32_27).1) k)
          show own_Go p e below PO (T26.setTop (mkF m 35 #[.val (.ref aG), .val (.int (own_I s0)), .val (.int (own_I t0))] []))
          refine own_back ?_ (fun t k => XS.goto X26.here hx rfl (pc0 := 35) (pc' := 26) rfl (hb hby d9_35) (by decide) (by decide) k)
          show own_Go p e below PO (T26.setTop (mkF m 26 #[.val (.ref aG), .val (.int (own_I s0)), .val (.int (own_I t0))] []))
          have au := own_or1 hor26 hc32_27
          have lt := own_ms_lt hst au.1
          have nn := own_ms_nn (tl := tl) (hd := hd) (s0 := s0) au.1.1
          exact ih_LI _ _ _ _ _ _ _ X26 rfl N26 K26 ⟨E_G26, F_nodeCount26, F_edgeCount26, F_first26, F_next26, F_head26, F_room26, F_level26, F_arc26, F_queue26, F_path26, V_F26, V_N26, V_H26, V_R26, V_L26, V_A26, V_Q26, V_P26⟩ (own_CI_step hCI2 au.1) au.2 (by omega) (by omega)
      show own_Go p e below PO (T6.setTop (mkF m 26 #[.val (.ref aG), .val (.int (own_I s0)), .val (.int (own_I t0))] []))
      refine own_back ?_ (fun t k => XS.aloadN X6.here hx rfl (hb hby d9_26) rfl rfl k)
      show own_Go p e below PO (T6.setTop (mkF m 27 #[.val (.ref aG), .val (.int (own_I s0)), .val (.int (own_I t0))] [(.ref aG)]))
      refine own_back ?_ (fun t k => XS.iloadN X6.here hx rfl (hb hby d9_27) rfl k)
      show own_Go p e below PO (T6.setTop (mkF m 28 #[.val (.ref aG), .val (.int (own_I s0)), .val (.int (own_I t0))] [(.int (own_I s0)), (.ref aG)]))
      refine own_back ?_ (fun t k => XS.iloadN X6.here hx rfl (hb hby d9_28) rfl k)
      show own_Go p e below PO (T6.setTop (mkF m 29 #[.val (.ref aG), .val (.int (own_I s0)), .val (.int (own_I t0))] [(.int (own_I t0)), (.int (own_I s0)), (.ref aG)]))
      obtain ⟨cq28, q28, q28'⟩ := f6_7.cell
      obtain ⟨_, _, ⟨T28, L28, k28, n28⟩, -, X28, ⟨Lc28, hQ28, l28, y28, z28⟩, st28⟩ := X6.privateBack hx (y := (⟨"com/example/nearbound/nearbound/graph/MinCut", "augment", "(II)Z"⟩ : MethodName)) hown (mvT hZ (hw _ (List.mem_of_getElem? (i := 86) rfl))) (mvT hZ (hw _ (List.mem_of_getElem? (i := 87) rfl))) (own_selpriv (args' := #[]) (mvT hZ (hw _ (List.mem_of_getElem? (i := 34) rfl))) (Cond.privateMethod_at (mvP hZ (hw _ (List.mem_of_getElem? (i := 88) rfl)) (args := #[]))) (mvT hZ (hw _ (List.mem_of_getElem? (i := 87) rfl))) (by decide)) (Cond.privateMethod_at (mvP hZ (hw _ (List.mem_of_getElem? (i := 88) rfl)) (args := #[]))) (mvT hZ (hw _ (List.mem_of_getElem? (i := 89) rfl))) (by decide) (backOf (W := 0) (rmAug l Z a0 hw [] aG aF aN aH aR aL aA aQ aP kF kN kH kR kL kA kQ kP E tl fst nxt hd rm1 lev_1 (own_cp fst arc1) que_1 pth1 ec s0 t0 (own_Gd E tl hd rm1 lev_1 t0) h6 n0 Zh6 hNE ⟨f6_7, f6_8, f6_9, f6_10, f6_11, f6_12, f6_13, f6_14, f6_15, f6_16, f6_17, f6_18, f6_19, f6_20, f6_21, f6_22, V_A25, f6_23, f6_24⟩ hG hCI.1 hs ht hst (own_LV_A hG hLV hac) (own_Gd_W hG hac)) hZ (hw _ (List.mem_of_getElem? (i := 89) rfl)) (hw _ (List.mem_of_getElem? (i := 6) rfl)) (by decide) (by decide)) (g := (mkF m 29 #[.val (.ref aG), .val (.int (own_I s0)), .val (.int (own_I t0))] [(.int (own_I t0)), (.int (own_I s0)), (.ref aG)])) rfl (by rw [hml]; rfl) (Steps.refl _) (a := aG) (by rw [e6]; exact q28) q28' (argsL := [(.int (own_I s0)), (.int (own_I t0))]) (rest := []) (lenOf pd_3 rfl) rfl (by show 2 * 0 + _ ≤ _; exact Nat.le_of_eq rfl) (hb hby d9_29) (fun _ _ => ⟨rfl, e6, (by decide : 0 + 0 ≤ _), (by decide : 0 + 0 ≤ _)⟩)
      dsimp only [Pt.U, Pt.locs, Pt.cells, Pt.slots] at X28 l28 y28 z28 st28 hQ28
      subst l28 y28 z28
      obtain ⟨r28, rm_28, lev_28, arc_28, pth_28, rfl, N28q, Kc28, hS28, hor28⟩ := hQ28
      have N28 := Fr.app N6 N28q
      have K28 : Keep h0 T28.heap [aG, aF, aN, aH, aR, aL, aA, aQ, aP] := (K6).trans Kc28 (fun x hx => Or.inl hx)
      have Zh28 : n0 ≤ T28.heap.size := Nat.le_trans Z0 K28.1
      obtain ⟨E_G28, F_nodeCount28, F_edgeCount28, F_first28, F_next28, F_head28, F_room28, F_level28, F_arc28, F_queue28, F_path28, V_F28, V_N28, V_H28, V_R28, V_L28, V_A28, V_Q28, V_P28⟩ := hS28
      refine own_back ?_ (fun t k => st28.trans k)
      show own_Go p e below PO (T28.setTop (mkF m 32 #[.val (.ref aG), .val (.int (own_I s0)), .val (.int (own_I t0))] [(.int r28)]))
      by_cases hc32_29 : r28 = (0 : Int32)
      case pos =>
        exact absurd (own_Gd_ok hG hLV ht (own_or1 hor1 hc6_2)) (own_or0 hor28 hc32_29).2
      refine own_back ?_ (fun t k => XS.ifNo X28.here hx rfl (hb hby d9_32) rfl ((if0 _ _).trans (feq hc32_29).1) k)
      show own_Go p e below PO (T28.setTop (mkF m 35 #[.val (.ref aG), .val (.int (own_I s0)), .val (.int (own_I t0))] []))
      refine own_back ?_ (fun t k => XS.goto X28.here hx rfl (pc0 := 35) (pc' := 26) rfl (hb hby d9_35) (by decide) (by decide) k)
      show own_Go p e below PO (T28.setTop (mkF m 26 #[.val (.ref aG), .val (.int (own_I s0)), .val (.int (own_I t0))] []))
      have au := own_or1 hor28 hc32_29
      have lt := own_ms_lt hst au.1
      have nn := own_ms_nn (tl := tl) (hd := hd) (s0 := s0) au.1.1
      exact LI _ _ _ _ _ _ _ _ X28 rfl N28 K28 ⟨E_G28, F_nodeCount28, F_edgeCount28, F_first28, F_next28, F_head28, F_room28, F_level28, F_arc28, F_queue28, F_path28, V_F28, V_N28, V_H28, V_R28, V_L28, V_A28, V_Q28, V_P28⟩ (own_CI_step hCI au.1) au.2 (by omega) (Nat.lt_succ_self _)
  exact LO _ _ _ _ _ _ _ _ _ X0 e0 N0 K0 ⟨E_G, F_nodeCount, F_edgeCount, F_first, F_next, F_head, F_room, F_level, F_arc, F_queue, F_path, V_F, V_N, V_H, V_R, V_L, V_A, V_Q, V_P⟩ (own_CI_init hR) (Nat.lt_succ_self _)
theorem d8_0 : decode prog_25_method_5_code 0 = .ok (.aload_n 0, 1) := by decide +kernel
theorem d8_1 : decode prog_25_method_5_code 1 = .ok (.getfield 16, 3) := by decide +kernel
theorem d8_4 : decode prog_25_method_5_code 4 = .ok (.aload_n 0, 1) := by decide +kernel
theorem d8_5 : decode prog_25_method_5_code 5 = .ok (.getfield 39, 3) := by decide +kernel
theorem d8_8 : decode prog_25_method_5_code 8 = .ok (.iload_n 2, 1) := by decide +kernel
theorem d8_9 : decode prog_25_method_5_code 9 = .ok (.iastore, 1) := by decide +kernel
theorem d8_10 : decode prog_25_method_5_code 10 = .ok (.aload_n 0, 1) := by decide +kernel
theorem d8_11 : decode prog_25_method_5_code 11 = .ok (.getfield 19, 3) := by decide +kernel
theorem d8_14 : decode prog_25_method_5_code 14 = .ok (.aload_n 0, 1) := by decide +kernel
theorem d8_15 : decode prog_25_method_5_code 15 = .ok (.getfield 39, 3) := by decide +kernel
theorem d8_18 : decode prog_25_method_5_code 18 = .ok (.dload_n 3, 1) := by decide +kernel
theorem d8_19 : decode prog_25_method_5_code 19 = .ok (.dastore, 1) := by decide +kernel
theorem d8_20 : decode prog_25_method_5_code 20 = .ok (.aload_n 0, 1) := by decide +kernel
theorem d8_21 : decode prog_25_method_5_code 21 = .ok (.getfield 13, 3) := by decide +kernel
theorem d8_24 : decode prog_25_method_5_code 24 = .ok (.aload_n 0, 1) := by decide +kernel
theorem d8_25 : decode prog_25_method_5_code 25 = .ok (.getfield 39, 3) := by decide +kernel
theorem d8_28 : decode prog_25_method_5_code 28 = .ok (.aload_n 0, 1) := by decide +kernel
theorem d8_29 : decode prog_25_method_5_code 29 = .ok (.getfield 7, 3) := by decide +kernel
theorem d8_32 : decode prog_25_method_5_code 32 = .ok (.iload_n 1, 1) := by decide +kernel
theorem d8_33 : decode prog_25_method_5_code 33 = .ok (.iaload, 1) := by decide +kernel
theorem d8_34 : decode prog_25_method_5_code 34 = .ok (.iastore, 1) := by decide +kernel
theorem d8_35 : decode prog_25_method_5_code 35 = .ok (.aload_n 0, 1) := by decide +kernel
theorem d8_36 : decode prog_25_method_5_code 36 = .ok (.getfield 7, 3) := by decide +kernel
theorem d8_39 : decode prog_25_method_5_code 39 = .ok (.iload_n 1, 1) := by decide +kernel
theorem d8_40 : decode prog_25_method_5_code 40 = .ok (.aload_n 0, 1) := by decide +kernel
theorem d8_41 : decode prog_25_method_5_code 41 = .ok (.dup, 1) := by decide +kernel
theorem d8_42 : decode prog_25_method_5_code 42 = .ok (.getfield 39, 3) := by decide +kernel
theorem d8_45 : decode prog_25_method_5_code 45 = .ok (.dup_x1, 1) := by decide +kernel
theorem d8_46 : decode prog_25_method_5_code 46 = .ok (.iconst 1, 1) := by decide +kernel
theorem d8_47 : decode prog_25_method_5_code 47 = .ok (.iadd, 1) := by decide +kernel
theorem d8_48 : decode prog_25_method_5_code 48 = .ok (.putfield 39, 3) := by decide +kernel
theorem d8_51 : decode prog_25_method_5_code 51 = .ok (.iastore, 1) := by decide +kernel
theorem d8_52 : decode prog_25_method_5_code 52 = .ok (.return_, 1) := by decide +kernel
theorem ef_rmLink (m : MethodId) (x0 : Addr) (x1 : Int32) (x2 : Int32) (x3 : UInt64) : entryFrame m #[(.ref x0), (.int x1), (.int x2), (.double x3)] 5 = mkF m 0 #[.val (.ref x0), .val (.int x1), .val (.int x2), .val (.double x3), .second] [] := by first | (simp [entryFrame, mkF, argsToLocals, Value.category]; done) | rfl
def Q_rmLink (Z : State) (aG aF aN aH aR aL aA aQ aP : Addr) (kF kN kH kR kL kA kQ kP : ClassId) (E : Nat) (fst nxt hd rm lev arc que pth : Int → Int) (u y x : Int) (h0 : Heap) (n0 : Nat) (v : Option Value) (h : Heap) (L : List Loc) : Prop := v = none ∧ Fr n0 L ∧ Keep h0 h [aG, aF, aN, aH, aR, aL, aA, aQ, aP] ∧ own_S Z h aG aF aN aH aR aL aA aQ aP kF kN kH kR kL kA kQ kP (4 : Int32) (own_I ((E + 1 : Nat) : Int)) (own_up fst u (E : Int)) (own_up nxt (E : Int) (fst u)) (own_up hd (E : Int) y) (own_up rm (E : Int) x) lev arc que pth
set_option maxRecDepth 65536 in
set_option maxHeartbeats 40000000 in
theorem rmLink (l : Launch) (Z : State) (a0 : Array Value) (hw : ∀ d ∈ tables_1, d.before a0 Z = true) (ws : List Jvm.Cond) (aG : Addr) (aF aN aH aR aL aA aQ aP : Addr) (kF kN kH kR kL kA kQ kP : ClassId) (E : Nat) (fst nxt hd rm lev arc que pth : Int → Int) (u y x : Int) (h0 : Heap) (n0 : Nat) (Z0 : n0 ≤ h0.size) (hNE : own_NE n0 aG aF aN aH aR aL aA aQ aP) (hS : own_S Z h0 aG aF aN aH aR aL aA aQ aP kF kN kH kR kL kA kQ kP (4 : Int32) (own_I (E : Int)) fst nxt hd rm lev arc que pth) (hu : 0 ≤ u ∧ u < 4) (hy : 0 ≤ y ∧ y < 4) (hE : E ≤ 13) :
    MetFree l (⟨"com/example/nearbound/nearbound/graph/MinCut", "link", "(IID)V"⟩ : MethodName) (head1 (Jvm.Cond.code (⟨"com/example/nearbound/nearbound/graph/MinCut", "link", "(IID)V"⟩ : MethodName) prog_25_method_5_code 5 none :: ws) ({ frames := 0, cells := 0, slots := 0, locals := 0 } : Room)) (fun a U => a = #[(.ref aG), (.int (own_I u)), (.int (own_I y)), (.double (own_D x))] ∧ Z.Warmed39 U.vm ∧ U.heap = h0) (fun _ _ _ _ _ => True) (fun _ U o U' => ∃ v L, o = .returned v ∧ Q_rmLink Z aG aF aN aH aR aL aA aQ aP kF kN kH kR kL kA kQ kP E fst nxt hd rm lev arc que pth u y x h0 n0 v U'.heap L ∧ FrameEnd U o U' L ({ frames := 0, cells := 0, slots := 0, locals := 0 } : Room).cells ({ frames := 0, cells := 0, slots := 0, locals := 0 } : Room).slots) := by
  refine MetFree.of_bodySF (plainFor_of_name pn_2) hisR ?_
  intro p e s m args below meth c s₁ Bd hml0 hP hK
  obtain ⟨rfl, hZ, hh⟩ := hP
  have hx := Bd.exec
  have hby := Bd.bytes
  have hml : c.maxLocals = 5 := hml0
  have hown : s.vm.findClass "com/example/nearbound/nearbound/graph/MinCut" = some m.cls := findClass_of_methodNamed Bd.named
  have hnm := (name_of_methodNamed Bd.named Bd.method).1
  have X0 : Stand p l e ({ frames := 0, cells := 0, slots := 0, locals := 0 } : Room) s m #[(.ref aG), (.int (own_I u)), (.int (own_I y)), (.double (own_D x))] below meth c s₁ [] 0 0 := Stand.of_body Bd
  have e0 : s₁.heap = h0 := by rw [← hh, Bd.state]; rfl
  have N0 := Fr.nil n0
  let PO : Outcome → State → Prop := own_PO s (Q_rmLink Z aG aF aN aH aR aL aA aQ aP kF kN kH kR kL kA kQ kP E fst nxt hd rm lev arc que pth u y x h0 n0) 0 0
  show own_Go p e below PO (s₁.setTop (entryFrame m #[(.ref aG), (.int (own_I u)), (.int (own_I y)), (.double (own_D x))] 5))
  rw [ef_rmLink]
  obtain ⟨gn_aG, gn_aF, gn_aN, gn_aH, gn_aR, gn_aL, gn_aA, gn_aQ, gn_aP⟩ := hNE.1
  have hS' := hS
  obtain ⟨E_G, F_nodeCount, F_edgeCount, F_first, F_next, F_head, F_room, F_level, F_arc, F_queue, F_path, V_F, V_N, V_H, V_R, V_L, V_A, V_Q, V_P⟩ := hS'
  have K0 : Keep h0 h0 [aG, aF, aN, aH, aR, aL, aA, aQ, aP] := Keep.refl h0 _
  show own_Go p e below PO (s₁.setTop (mkF m 0 #[.val (.ref aG), .val (.int (own_I u)), .val (.int (own_I y)), .val (.double (own_D x)), .second] []))
  refine own_back ?_ (fun t k => XS.aloadN X0.here hx rfl (hb hby d8_0) rfl rfl k)
  show own_Go p e below PO (s₁.setTop (mkF m 1 #[.val (.ref aG), .val (.int (own_I u)), .val (.int (own_I y)), .val (.double (own_D x)), .second] [(.ref aG)]))
  obtain ⟨T1, X1, e1, st1⟩ := getF X0 hx hZ hown (host := "") (Or.inl (hw _ (List.mem_of_getElem? (i := 18) rfl))) Via.refl e0 F_head (g := (mkF m 1 #[.val (.ref aG), .val (.int (own_I u)), .val (.int (own_I y)), .val (.double (own_D x)), .second] [(.ref aG)])) rfl rfl (hb hby d8_1)
  refine own_back ?_ st1
  show own_Go p e below PO (T1.setTop (mkF m 4 #[.val (.ref aG), .val (.int (own_I u)), .val (.int (own_I y)), .val (.double (own_D x)), .second] [(.ref aH)]))
  refine own_back ?_ (fun t k => XS.aloadN X1.here hx rfl (hb hby d8_4) rfl rfl k)
  show own_Go p e below PO (T1.setTop (mkF m 5 #[.val (.ref aG), .val (.int (own_I u)), .val (.int (own_I y)), .val (.double (own_D x)), .second] [(.ref aG), (.ref aH)]))
  obtain ⟨T2, X2, e2, st2⟩ := getF X1 hx hZ hown (host := "") (Or.inl (hw _ (List.mem_of_getElem? (i := 38) rfl))) Via.refl e1 F_edgeCount (g := (mkF m 5 #[.val (.ref aG), .val (.int (own_I u)), .val (.int (own_I y)), .val (.double (own_D x)), .second] [(.ref aG), (.ref aH)])) rfl rfl (hb hby d8_5)
  refine own_back ?_ st2
  show own_Go p e below PO (T2.setTop (mkF m 8 #[.val (.ref aG), .val (.int (own_I u)), .val (.int (own_I y)), .val (.double (own_D x)), .second] [(.int (own_I (E : Int))), (.ref aH)]))
  refine own_back ?_ (fun t k => XS.iloadN X2.here hx rfl (hb hby d8_8) rfl k)
  show own_Go p e below PO (T2.setTop (mkF m 9 #[.val (.ref aG), .val (.int (own_I u)), .val (.int (own_I y)), .val (.double (own_D x)), .second] [(.int (own_I y)), (.int (own_I (E : Int))), (.ref aH)]))
  obtain ⟨T3, h3, X3, e3, W3, V3, st3⟩ := own_stI X2 hx hZ e2 V_H (j := (own_I (E : Int))) (own_inb (z := (E : Int)) (by omega)) (i := (own_I (E : Int)).toNatClampNeg) rfl (own_ixi (z := (E : Int)) _ (by omega)) (g := (mkF m 9 #[.val (.ref aG), .val (.int (own_I u)), .val (.int (own_I y)), .val (.double (own_D x)), .second] [(.int (own_I y)), (.int (own_I (E : Int))), (.ref aH)])) rfl rfl (hb hby d8_9)
  rw [own_set (z := (E : Int)) (x := y) (by omega) rfl] at V3
  have f3_4 := E_G.wr W3
  have f3_5 := F_nodeCount.other W3 (Or.inl (own_ne_aG_aH hNE))
  have f3_6 := F_edgeCount.other W3 (Or.inl (own_ne_aG_aH hNE))
  have f3_7 := F_first.other W3 (Or.inl (own_ne_aG_aH hNE))
  have f3_8 := F_next.other W3 (Or.inl (own_ne_aG_aH hNE))
  have f3_9 := F_head.other W3 (Or.inl (own_ne_aG_aH hNE))
  have f3_10 := F_room.other W3 (Or.inl (own_ne_aG_aH hNE))
  have f3_11 := F_level.other W3 (Or.inl (own_ne_aG_aH hNE))
  have f3_12 := F_arc.other W3 (Or.inl (own_ne_aG_aH hNE))
  have f3_13 := F_queue.other W3 (Or.inl (own_ne_aG_aH hNE))
  have f3_14 := F_path.other W3 (Or.inl (own_ne_aG_aH hNE))
  have f3_15 := V_F.other W3 (own_ne_aF_aH hNE)
  have f3_16 := V_N.other W3 (own_ne_aN_aH hNE)
  have f3_17 := V_R.other W3 (Ne.symm (own_ne_aH_aR hNE))
  have f3_18 := V_L.other W3 (Ne.symm (own_ne_aH_aL hNE))
  have f3_19 := V_A.other W3 (Ne.symm (own_ne_aH_aA hNE))
  have f3_20 := V_Q.other W3 (Ne.symm (own_ne_aH_aQ hNE))
  have f3_21 := V_P.other W3 (Ne.symm (own_ne_aH_aP hNE))
  have K3 : Keep h0 h3 [aG, aF, aN, aH, aR, aL, aA, aQ, aP] := (K0).wr W3 (Or.inl (by simp))
  have N3 := Fr.snoc X3 N0 gn_aH
  have Zh3 : n0 ≤ h3.size := Nat.le_trans Z0 K3.1
  refine own_back ?_ st3
  show own_Go p e below PO (T3.setTop (mkF m 10 #[.val (.ref aG), .val (.int (own_I u)), .val (.int (own_I y)), .val (.double (own_D x)), .second] []))
  refine own_back ?_ (fun t k => XS.aloadN X3.here hx rfl (hb hby d8_10) rfl rfl k)
  show own_Go p e below PO (T3.setTop (mkF m 11 #[.val (.ref aG), .val (.int (own_I u)), .val (.int (own_I y)), .val (.double (own_D x)), .second] [(.ref aG)]))
  obtain ⟨T22, X22, e22, st22⟩ := getF X3 hx hZ hown (host := "") (Or.inl (hw _ (List.mem_of_getElem? (i := 21) rfl))) Via.refl e3 f3_10 (g := (mkF m 11 #[.val (.ref aG), .val (.int (own_I u)), .val (.int (own_I y)), .val (.double (own_D x)), .second] [(.ref aG)])) rfl rfl (hb hby d8_11)
  refine own_back ?_ st22
  show own_Go p e below PO (T22.setTop (mkF m 14 #[.val (.ref aG), .val (.int (own_I u)), .val (.int (own_I y)), .val (.double (own_D x)), .second] [(.ref aR)]))
  refine own_back ?_ (fun t k => XS.aloadN X22.here hx rfl (hb hby d8_14) rfl rfl k)
  show own_Go p e below PO (T22.setTop (mkF m 15 #[.val (.ref aG), .val (.int (own_I u)), .val (.int (own_I y)), .val (.double (own_D x)), .second] [(.ref aG), (.ref aR)]))
  obtain ⟨T23, X23, e23, st23⟩ := getF X22 hx hZ hown (host := "") (Or.inl (hw _ (List.mem_of_getElem? (i := 38) rfl))) Via.refl e22 f3_6 (g := (mkF m 15 #[.val (.ref aG), .val (.int (own_I u)), .val (.int (own_I y)), .val (.double (own_D x)), .second] [(.ref aG), (.ref aR)])) rfl rfl (hb hby d8_15)
  refine own_back ?_ st23
  show own_Go p e below PO (T23.setTop (mkF m 18 #[.val (.ref aG), .val (.int (own_I u)), .val (.int (own_I y)), .val (.double (own_D x)), .second] [(.int (own_I (E : Int))), (.ref aR)]))
  refine own_back ?_ (fun t k => XS.dloadN X23.here hx rfl (hb hby d8_18) rfl k)
  show own_Go p e below PO (T23.setTop (mkF m 19 #[.val (.ref aG), .val (.int (own_I u)), .val (.int (own_I y)), .val (.double (own_D x)), .second] [(.double (own_D x)), (.int (own_I (E : Int))), (.ref aR)]))
  obtain ⟨T24, h24, X24, e24, W24, V24, st24⟩ := own_stD X23 hx hZ e23 f3_17 (j := (own_I (E : Int))) (own_inb (z := (E : Int)) (by omega)) (i := (own_I (E : Int)).toNatClampNeg) rfl (own_ixd (z := (E : Int)) _ (by omega)) (g := (mkF m 19 #[.val (.ref aG), .val (.int (own_I u)), .val (.int (own_I y)), .val (.double (own_D x)), .second] [(.double (own_D x)), (.int (own_I (E : Int))), (.ref aR)])) rfl rfl (hb hby d8_19)
  rw [own_setd (z := (E : Int)) (x := x) (by omega) rfl] at V24
  have f24_25 := f3_4.wr W24
  have f24_26 := f3_5.other W24 (Or.inl (own_ne_aG_aR hNE))
  have f24_27 := f3_6.other W24 (Or.inl (own_ne_aG_aR hNE))
  have f24_28 := f3_7.other W24 (Or.inl (own_ne_aG_aR hNE))
  have f24_29 := f3_8.other W24 (Or.inl (own_ne_aG_aR hNE))
  have f24_30 := f3_9.other W24 (Or.inl (own_ne_aG_aR hNE))
  have f24_31 := f3_10.other W24 (Or.inl (own_ne_aG_aR hNE))
  have f24_32 := f3_11.other W24 (Or.inl (own_ne_aG_aR hNE))
  have f24_33 := f3_12.other W24 (Or.inl (own_ne_aG_aR hNE))
  have f24_34 := f3_13.other W24 (Or.inl (own_ne_aG_aR hNE))
  have f24_35 := f3_14.other W24 (Or.inl (own_ne_aG_aR hNE))
  have f24_36 := f3_15.other W24 (own_ne_aF_aR hNE)
  have f24_37 := f3_16.other W24 (own_ne_aN_aR hNE)
  have f24_38 := V3.other W24 (own_ne_aH_aR hNE)
  have f24_39 := f3_18.other W24 (Ne.symm (own_ne_aR_aL hNE))
  have f24_40 := f3_19.other W24 (Ne.symm (own_ne_aR_aA hNE))
  have f24_41 := f3_20.other W24 (Ne.symm (own_ne_aR_aQ hNE))
  have f24_42 := f3_21.other W24 (Ne.symm (own_ne_aR_aP hNE))
  have K24 : Keep h0 h24 [aG, aF, aN, aH, aR, aL, aA, aQ, aP] := (K3).wr W24 (Or.inl (by simp))
  have N24 := Fr.snoc X24 N3 gn_aR
  have Zh24 : n0 ≤ h24.size := Nat.le_trans Z0 K24.1
  refine own_back ?_ st24
  show own_Go p e below PO (T24.setTop (mkF m 20 #[.val (.ref aG), .val (.int (own_I u)), .val (.int (own_I y)), .val (.double (own_D x)), .second] []))
  refine own_back ?_ (fun t k => XS.aloadN X24.here hx rfl (hb hby d8_20) rfl rfl k)
  show own_Go p e below PO (T24.setTop (mkF m 21 #[.val (.ref aG), .val (.int (own_I u)), .val (.int (own_I y)), .val (.double (own_D x)), .second] [(.ref aG)]))
  obtain ⟨T43, X43, e43, st43⟩ := getF X24 hx hZ hown (host := "") (Or.inl (hw _ (List.mem_of_getElem? (i := 16) rfl))) Via.refl e24 f24_29 (g := (mkF m 21 #[.val (.ref aG), .val (.int (own_I u)), .val (.int (own_I y)), .val (.double (own_D x)), .second] [(.ref aG)])) rfl rfl (hb hby d8_21)
  refine own_back ?_ st43
  show own_Go p e below PO (T43.setTop (mkF m 24 #[.val (.ref aG), .val (.int (own_I u)), .val (.int (own_I y)), .val (.double (own_D x)), .second] [(.ref aN)]))
  refine own_back ?_ (fun t k => XS.aloadN X43.here hx rfl (hb hby d8_24) rfl rfl k)
  show own_Go p e below PO (T43.setTop (mkF m 25 #[.val (.ref aG), .val (.int (own_I u)), .val (.int (own_I y)), .val (.double (own_D x)), .second] [(.ref aG), (.ref aN)]))
  obtain ⟨T44, X44, e44, st44⟩ := getF X43 hx hZ hown (host := "") (Or.inl (hw _ (List.mem_of_getElem? (i := 38) rfl))) Via.refl e43 f24_27 (g := (mkF m 25 #[.val (.ref aG), .val (.int (own_I u)), .val (.int (own_I y)), .val (.double (own_D x)), .second] [(.ref aG), (.ref aN)])) rfl rfl (hb hby d8_25)
  refine own_back ?_ st44
  show own_Go p e below PO (T44.setTop (mkF m 28 #[.val (.ref aG), .val (.int (own_I u)), .val (.int (own_I y)), .val (.double (own_D x)), .second] [(.int (own_I (E : Int))), (.ref aN)]))
  refine own_back ?_ (fun t k => XS.aloadN X44.here hx rfl (hb hby d8_28) rfl rfl k)
  show own_Go p e below PO (T44.setTop (mkF m 29 #[.val (.ref aG), .val (.int (own_I u)), .val (.int (own_I y)), .val (.double (own_D x)), .second] [(.ref aG), (.int (own_I (E : Int))), (.ref aN)]))
  obtain ⟨T45, X45, e45, st45⟩ := getF X44 hx hZ hown (host := "") (Or.inl (hw _ (List.mem_of_getElem? (i := 14) rfl))) Via.refl e44 f24_28 (g := (mkF m 29 #[.val (.ref aG), .val (.int (own_I u)), .val (.int (own_I y)), .val (.double (own_D x)), .second] [(.ref aG), (.int (own_I (E : Int))), (.ref aN)])) rfl rfl (hb hby d8_29)
  refine own_back ?_ st45
  show own_Go p e below PO (T45.setTop (mkF m 32 #[.val (.ref aG), .val (.int (own_I u)), .val (.int (own_I y)), .val (.double (own_D x)), .second] [(.ref aF), (.int (own_I (E : Int))), (.ref aN)]))
  refine own_back ?_ (fun t k => XS.iloadN X45.here hx rfl (hb hby d8_32) rfl k)
  show own_Go p e below PO (T45.setTop (mkF m 33 #[.val (.ref aG), .val (.int (own_I u)), .val (.int (own_I y)), .val (.double (own_D x)), .second] [(.int (own_I u)), (.ref aF), (.int (own_I (E : Int))), (.ref aN)]))
  refine own_back ?_ (own_ldI X45 hx hZ e45 f24_36 (j := (own_I u)) (v := (.int (own_I (fst u)))) (own_inb (z := u) (by omega)) (own_get (by omega)) (g := (mkF m 33 #[.val (.ref aG), .val (.int (own_I u)), .val (.int (own_I y)), .val (.double (own_D x)), .second] [(.int (own_I u)), (.ref aF), (.int (own_I (E : Int))), (.ref aN)])) rfl rfl (hb hby d8_33))
  show own_Go p e below PO (T45.setTop (mkF m 34 #[.val (.ref aG), .val (.int (own_I u)), .val (.int (own_I y)), .val (.double (own_D x)), .second] [(.int (own_I (fst u))), (.int (own_I (E : Int))), (.ref aN)]))
  obtain ⟨T46, h46, X46, e46, W46, V46, st46⟩ := own_stI X45 hx hZ e45 f24_37 (j := (own_I (E : Int))) (own_inb (z := (E : Int)) (by omega)) (i := (own_I (E : Int)).toNatClampNeg) rfl (own_ixi (z := (E : Int)) _ (by omega)) (g := (mkF m 34 #[.val (.ref aG), .val (.int (own_I u)), .val (.int (own_I y)), .val (.double (own_D x)), .second] [(.int (own_I (fst u))), (.int (own_I (E : Int))), (.ref aN)])) rfl rfl (hb hby d8_34)
  rw [own_set (z := (E : Int)) (x := (fst u)) (by omega) rfl] at V46
  have f46_47 := f24_25.wr W46
  have f46_48 := f24_26.other W46 (Or.inl (own_ne_aG_aN hNE))
  have f46_49 := f24_27.other W46 (Or.inl (own_ne_aG_aN hNE))
  have f46_50 := f24_28.other W46 (Or.inl (own_ne_aG_aN hNE))
  have f46_51 := f24_29.other W46 (Or.inl (own_ne_aG_aN hNE))
  have f46_52 := f24_30.other W46 (Or.inl (own_ne_aG_aN hNE))
  have f46_53 := f24_31.other W46 (Or.inl (own_ne_aG_aN hNE))
  have f46_54 := f24_32.other W46 (Or.inl (own_ne_aG_aN hNE))
  have f46_55 := f24_33.other W46 (Or.inl (own_ne_aG_aN hNE))
  have f46_56 := f24_34.other W46 (Or.inl (own_ne_aG_aN hNE))
  have f46_57 := f24_35.other W46 (Or.inl (own_ne_aG_aN hNE))
  have f46_58 := f24_36.other W46 (own_ne_aF_aN hNE)
  have f46_59 := f24_38.other W46 (Ne.symm (own_ne_aN_aH hNE))
  have f46_60 := V24.other W46 (Ne.symm (own_ne_aN_aR hNE))
  have f46_61 := f24_39.other W46 (Ne.symm (own_ne_aN_aL hNE))
  have f46_62 := f24_40.other W46 (Ne.symm (own_ne_aN_aA hNE))
  have f46_63 := f24_41.other W46 (Ne.symm (own_ne_aN_aQ hNE))
  have f46_64 := f24_42.other W46 (Ne.symm (own_ne_aN_aP hNE))
  have K46 : Keep h0 h46 [aG, aF, aN, aH, aR, aL, aA, aQ, aP] := (K24).wr W46 (Or.inl (by simp))
  have N46 := Fr.snoc X46 N24 gn_aN
  have Zh46 : n0 ≤ h46.size := Nat.le_trans Z0 K46.1
  refine own_back ?_ st46
  show own_Go p e below PO (T46.setTop (mkF m 35 #[.val (.ref aG), .val (.int (own_I u)), .val (.int (own_I y)), .val (.double (own_D x)), .second] []))
  refine own_back ?_ (fun t k => XS.aloadN X46.here hx rfl (hb hby d8_35) rfl rfl k)
  show own_Go p e below PO (T46.setTop (mkF m 36 #[.val (.ref aG), .val (.int (own_I u)), .val (.int (own_I y)), .val (.double (own_D x)), .second] [(.ref aG)]))
  obtain ⟨T65, X65, e65, st65⟩ := getF X46 hx hZ hown (host := "") (Or.inl (hw _ (List.mem_of_getElem? (i := 14) rfl))) Via.refl e46 f46_50 (g := (mkF m 36 #[.val (.ref aG), .val (.int (own_I u)), .val (.int (own_I y)), .val (.double (own_D x)), .second] [(.ref aG)])) rfl rfl (hb hby d8_36)
  refine own_back ?_ st65
  show own_Go p e below PO (T65.setTop (mkF m 39 #[.val (.ref aG), .val (.int (own_I u)), .val (.int (own_I y)), .val (.double (own_D x)), .second] [(.ref aF)]))
  refine own_back ?_ (fun t k => XS.iloadN X65.here hx rfl (hb hby d8_39) rfl k)
  show own_Go p e below PO (T65.setTop (mkF m 40 #[.val (.ref aG), .val (.int (own_I u)), .val (.int (own_I y)), .val (.double (own_D x)), .second] [(.int (own_I u)), (.ref aF)]))
  refine own_back ?_ (fun t k => XS.aloadN X65.here hx rfl (hb hby d8_40) rfl rfl k)
  show own_Go p e below PO (T65.setTop (mkF m 41 #[.val (.ref aG), .val (.int (own_I u)), .val (.int (own_I y)), .val (.double (own_D x)), .second] [(.ref aG), (.int (own_I u)), (.ref aF)]))
  refine own_back ?_ (fun t k => XS.dup X65.here hx rfl (hb hby d8_41) rfl rfl k)
  show own_Go p e below PO (T65.setTop (mkF m 42 #[.val (.ref aG), .val (.int (own_I u)), .val (.int (own_I y)), .val (.double (own_D x)), .second] [(.ref aG), (.ref aG), (.int (own_I u)), (.ref aF)]))
  obtain ⟨T66, X66, e66, st66⟩ := getF X65 hx hZ hown (host := "") (Or.inl (hw _ (List.mem_of_getElem? (i := 38) rfl))) Via.refl e65 f46_49 (g := (mkF m 42 #[.val (.ref aG), .val (.int (own_I u)), .val (.int (own_I y)), .val (.double (own_D x)), .second] [(.ref aG), (.ref aG), (.int (own_I u)), (.ref aF)])) rfl rfl (hb hby d8_42)
  refine own_back ?_ st66
  show own_Go p e below PO (T66.setTop (mkF m 45 #[.val (.ref aG), .val (.int (own_I u)), .val (.int (own_I y)), .val (.double (own_D x)), .second] [(.int (own_I (E : Int))), (.ref aG), (.int (own_I u)), (.ref aF)]))
  refine own_back ?_ (fun t k => XS.dupX1 X66.here hx rfl (hb hby d8_45) rfl rfl rfl k)
  show own_Go p e below PO (T66.setTop (mkF m 46 #[.val (.ref aG), .val (.int (own_I u)), .val (.int (own_I y)), .val (.double (own_D x)), .second] [(.int (own_I (E : Int))), (.ref aG), (.int (own_I (E : Int))), (.int (own_I u)), (.ref aF)]))
  refine own_back ?_ (fun t k => XS.iconst X66.here hx rfl (hb hby d8_46) k)
  show own_Go p e below PO (T66.setTop (mkF m 47 #[.val (.ref aG), .val (.int (own_I u)), .val (.int (own_I y)), .val (.double (own_D x)), .second] [(.int (1 : Int32)), (.int (own_I (E : Int))), (.ref aG), (.int (own_I (E : Int))), (.int (own_I u)), (.ref aF)]))
  refine own_back ?_ (fun t k => XS.iadd X66.here hx rfl (hb hby d8_47) rfl k)
  show own_Go p e below PO (T66.setTop (mkF m 48 #[.val (.ref aG), .val (.int (own_I u)), .val (.int (own_I y)), .val (.double (own_D x)), .second] [(.int ((own_I (E : Int)) + (1 : Int32))), (.ref aG), (.int (own_I (E : Int))), (.int (own_I u)), (.ref aF)]))
  refine own_sub (A := Int32) (x := ((own_I (E : Int)) + (1 : Int32))) (y := (own_I ((E + 1 : Nat) : Int))) (fun cv => own_Go p e below PO (T66.setTop (mkF m 48 #[.val (.ref aG), .val (.int (own_I u)), .val (.int (own_I y)), .val (.double (own_D x)), .second] [(.int cv), (.ref aG), (.int (own_I (E : Int))), (.int (own_I u)), (.ref aF)]))) ((own_add1 _).trans (congrArg own_I (by omega))) ?_
  show own_Go p e below PO (T66.setTop (mkF m 48 #[.val (.ref aG), .val (.int (own_I u)), .val (.int (own_I y)), .val (.double (own_D x)), .second] [(.int (own_I ((E + 1 : Nat) : Int))), (.ref aG), (.int (own_I (E : Int))), (.int (own_I u)), (.ref aF)]))
  obtain ⟨T67, h67, X67, e67, W67, st67⟩ := putF X66 hx hZ hown (host := "") (Or.inl (hw _ (List.mem_of_getElem? (i := 38) rfl))) Via.refl e66 f46_49 f46_47 (Or.inl (hw _ (List.mem_of_getElem? (i := 39) rfl))) (hw _ (List.mem_of_getElem? (i := 5) rfl)) (ty := .int) (by decide) rfl rfl (g := (mkF m 48 #[.val (.ref aG), .val (.int (own_I u)), .val (.int (own_I y)), .val (.double (own_D x)), .second] [(.int (own_I ((E + 1 : Nat) : Int))), (.ref aG), (.int (own_I (E : Int))), (.int (own_I u)), (.ref aF)])) rfl rfl (hb hby d8_48)
  have Fw67 := f46_49.same W67
  have f67_68 := f46_47.wr W67
  have f67_69 := f46_48.other W67 (Or.inr (slot_ne (Or.inl (hw _ (List.mem_of_getElem? (i := 37) rfl))) (Or.inl (hw _ (List.mem_of_getElem? (i := 39) rfl))) (by decide) (t := .int) (t' := .int) (by decide) (by decide)))
  have f67_70 := f46_50.other W67 (Or.inr (slot_ne (Or.inl (hw _ (List.mem_of_getElem? (i := 15) rfl))) (Or.inl (hw _ (List.mem_of_getElem? (i := 39) rfl))) (by decide) (t := (.array .int)) (t' := .int) (by decide) (by decide)))
  have f67_71 := f46_51.other W67 (Or.inr (slot_ne (Or.inl (hw _ (List.mem_of_getElem? (i := 17) rfl))) (Or.inl (hw _ (List.mem_of_getElem? (i := 39) rfl))) (by decide) (t := (.array .int)) (t' := .int) (by decide) (by decide)))
  have f67_72 := f46_52.other W67 (Or.inr (slot_ne (Or.inl (hw _ (List.mem_of_getElem? (i := 19) rfl))) (Or.inl (hw _ (List.mem_of_getElem? (i := 39) rfl))) (by decide) (t := (.array .int)) (t' := .int) (by decide) (by decide)))
  have f67_73 := f46_53.other W67 (Or.inr (slot_ne (Or.inl (hw _ (List.mem_of_getElem? (i := 22) rfl))) (Or.inl (hw _ (List.mem_of_getElem? (i := 39) rfl))) (by decide) (t := (.array .double)) (t' := .int) (by decide) (by decide)))
  have f67_74 := f46_54.other W67 (Or.inr (slot_ne (Or.inl (hw _ (List.mem_of_getElem? (i := 24) rfl))) (Or.inl (hw _ (List.mem_of_getElem? (i := 39) rfl))) (by decide) (t := (.array .int)) (t' := .int) (by decide) (by decide)))
  have f67_75 := f46_55.other W67 (Or.inr (slot_ne (Or.inl (hw _ (List.mem_of_getElem? (i := 26) rfl))) (Or.inl (hw _ (List.mem_of_getElem? (i := 39) rfl))) (by decide) (t := (.array .int)) (t' := .int) (by decide) (by decide)))
  have f67_76 := f46_56.other W67 (Or.inr (slot_ne (Or.inl (hw _ (List.mem_of_getElem? (i := 28) rfl))) (Or.inl (hw _ (List.mem_of_getElem? (i := 39) rfl))) (by decide) (t := (.array .int)) (t' := .int) (by decide) (by decide)))
  have f67_77 := f46_57.other W67 (Or.inr (slot_ne (Or.inl (hw _ (List.mem_of_getElem? (i := 30) rfl))) (Or.inl (hw _ (List.mem_of_getElem? (i := 39) rfl))) (by decide) (t := (.array .int)) (t' := .int) (by decide) (by decide)))
  have f67_78 := f46_58.other W67 (Ne.symm (own_ne_aG_aF hNE))
  have f67_79 := V46.other W67 (Ne.symm (own_ne_aG_aN hNE))
  have f67_80 := f46_59.other W67 (Ne.symm (own_ne_aG_aH hNE))
  have f67_81 := f46_60.other W67 (Ne.symm (own_ne_aG_aR hNE))
  have f67_82 := f46_61.other W67 (Ne.symm (own_ne_aG_aL hNE))
  have f67_83 := f46_62.other W67 (Ne.symm (own_ne_aG_aA hNE))
  have f67_84 := f46_63.other W67 (Ne.symm (own_ne_aG_aQ hNE))
  have f67_85 := f46_64.other W67 (Ne.symm (own_ne_aG_aP hNE))
  have K67 : Keep h0 h67 [aG, aF, aN, aH, aR, aL, aA, aQ, aP] := (K46).wr W67 (Or.inl (by simp))
  have N67 := Fr.snoc X67 N46 gn_aG
  have Zh67 : n0 ≤ h67.size := Nat.le_trans Z0 K67.1
  refine own_back ?_ st67
  show own_Go p e below PO (T67.setTop (mkF m 51 #[.val (.ref aG), .val (.int (own_I u)), .val (.int (own_I y)), .val (.double (own_D x)), .second] [(.int (own_I (E : Int))), (.int (own_I u)), (.ref aF)]))
  obtain ⟨T86, h86, X86, e86, W86, V86, st86⟩ := own_stI X67 hx hZ e67 f67_78 (j := (own_I u)) (own_inb (z := u) (by omega)) (i := (own_I u).toNatClampNeg) rfl (own_ixi (z := u) _ (by omega)) (g := (mkF m 51 #[.val (.ref aG), .val (.int (own_I u)), .val (.int (own_I y)), .val (.double (own_D x)), .second] [(.int (own_I (E : Int))), (.int (own_I u)), (.ref aF)])) rfl rfl (hb hby d8_51)
  rw [own_set (z := u) (x := (E : Int)) (by omega) rfl] at V86
  have f86_87 := f67_68.wr W86
  have f86_88 := f67_69.other W86 (Or.inl (own_ne_aG_aF hNE))
  have f86_89 := Fw67.other W86 (Or.inl (own_ne_aG_aF hNE))
  have f86_90 := f67_70.other W86 (Or.inl (own_ne_aG_aF hNE))
  have f86_91 := f67_71.other W86 (Or.inl (own_ne_aG_aF hNE))
  have f86_92 := f67_72.other W86 (Or.inl (own_ne_aG_aF hNE))
  have f86_93 := f67_73.other W86 (Or.inl (own_ne_aG_aF hNE))
  have f86_94 := f67_74.other W86 (Or.inl (own_ne_aG_aF hNE))
  have f86_95 := f67_75.other W86 (Or.inl (own_ne_aG_aF hNE))
  have f86_96 := f67_76.other W86 (Or.inl (own_ne_aG_aF hNE))
  have f86_97 := f67_77.other W86 (Or.inl (own_ne_aG_aF hNE))
  have f86_98 := f67_79.other W86 (Ne.symm (own_ne_aF_aN hNE))
  have f86_99 := f67_80.other W86 (Ne.symm (own_ne_aF_aH hNE))
  have f86_100 := f67_81.other W86 (Ne.symm (own_ne_aF_aR hNE))
  have f86_101 := f67_82.other W86 (Ne.symm (own_ne_aF_aL hNE))
  have f86_102 := f67_83.other W86 (Ne.symm (own_ne_aF_aA hNE))
  have f86_103 := f67_84.other W86 (Ne.symm (own_ne_aF_aQ hNE))
  have f86_104 := f67_85.other W86 (Ne.symm (own_ne_aF_aP hNE))
  have K86 : Keep h0 h86 [aG, aF, aN, aH, aR, aL, aA, aQ, aP] := (K67).wr W86 (Or.inl (by simp))
  have N86 := Fr.snoc X86 N67 gn_aF
  have Zh86 : n0 ≤ h86.size := Nat.le_trans Z0 K86.1
  refine own_back ?_ st86
  show own_Go p e below PO (T86.setTop (mkF m 52 #[.val (.ref aG), .val (.int (own_I u)), .val (.int (own_I y)), .val (.double (own_D x)), .second] []))
  refine own_retV X86 hx Bd.returns (hb hby d8_52) e86 (Bd.notSynchronized) ?_ (by decide) (by decide)
  exact ⟨rfl, N86, K86, ⟨f86_87, f86_88, f86_89, f86_90, f86_91, f86_92, f86_93, f86_94, f86_95, f86_96, f86_97, V86, f86_98, f86_99, f86_100, f86_101, f86_102, f86_103, f86_104⟩⟩
theorem pd_4 : parseMethodDescriptor "(IID)V" = some ⟨[.int, .int, .double], none⟩ := by decide +kernel
theorem d7_0 : decode prog_25_method_4_code 0 = .ok (.dload_n 3, 1) := by decide +kernel
theorem d7_1 : decode prog_25_method_4_code 1 = .ok (.dconst 0, 1) := by decide +kernel
theorem d7_2 : decode prog_25_method_4_code 2 = .ok (.dcmp .l, 1) := by decide +kernel
theorem d7_3 : decode prog_25_method_4_code 3 = .ok (.ifCond .gt 17, 3) := by decide +kernel
theorem d7_20 : decode prog_25_method_4_code 20 = .ok (.aload_n 0, 1) := by decide +kernel
theorem d7_21 : decode prog_25_method_4_code 21 = .ok (.getfield 39, 3) := by decide +kernel
theorem d7_24 : decode prog_25_method_4_code 24 = .ok (.iconst 2, 1) := by decide +kernel
theorem d7_25 : decode prog_25_method_4_code 25 = .ok (.iadd, 1) := by decide +kernel
theorem d7_26 : decode prog_25_method_4_code 26 = .ok (.aload_n 0, 1) := by decide +kernel
theorem d7_27 : decode prog_25_method_4_code 27 = .ok (.getfield 16, 3) := by decide +kernel
theorem d7_30 : decode prog_25_method_4_code 30 = .ok (.arraylength, 1) := by decide +kernel
theorem d7_31 : decode prog_25_method_4_code 31 = .ok (.if_icmp .le 51, 3) := by decide +kernel
theorem d7_82 : decode prog_25_method_4_code 82 = .ok (.aload_n 0, 1) := by decide +kernel
theorem d7_83 : decode prog_25_method_4_code 83 = .ok (.iload_n 1, 1) := by decide +kernel
theorem d7_84 : decode prog_25_method_4_code 84 = .ok (.iload_n 2, 1) := by decide +kernel
theorem d7_85 : decode prog_25_method_4_code 85 = .ok (.dload_n 3, 1) := by decide +kernel
theorem d7_86 : decode prog_25_method_4_code 86 = .ok (.invokevirtual 64, 3) := by decide +kernel
theorem d7_89 : decode prog_25_method_4_code 89 = .ok (.aload_n 0, 1) := by decide +kernel
theorem d7_90 : decode prog_25_method_4_code 90 = .ok (.iload_n 2, 1) := by decide +kernel
theorem d7_91 : decode prog_25_method_4_code 91 = .ok (.iload_n 1, 1) := by decide +kernel
theorem d7_92 : decode prog_25_method_4_code 92 = .ok (.dconst 0, 1) := by decide +kernel
theorem d7_93 : decode prog_25_method_4_code 93 = .ok (.invokevirtual 64, 3) := by decide +kernel
theorem d7_96 : decode prog_25_method_4_code 96 = .ok (.return_, 1) := by decide +kernel
theorem ef_rmAdd (m : MethodId) (x0 : Addr) (x1 : Int32) (x2 : Int32) (x3 : UInt64) : entryFrame m #[(.ref x0), (.int x1), (.int x2), (.double x3)] 6 = mkF m 0 #[.val (.ref x0), .val (.int x1), .val (.int x2), .val (.double x3), .second, .unset] [] := by first | (simp [entryFrame, mkF, argsToLocals, Value.category]; done) | rfl
def Q_rmAdd (Z : State) (aG aF aN aH aR aL aA aQ aP : Addr) (kF kN kH kR kL kA kQ kP : ClassId) (E : Nat) (fst nxt hd rm lev arc que pth : Int → Int) (u y x : Int) (h0 : Heap) (n0 : Nat) (v : Option Value) (h : Heap) (L : List Loc) : Prop := v = none ∧ Fr n0 L ∧ Keep h0 h [aG, aF, aN, aH, aR, aL, aA, aQ, aP] ∧ own_S Z h aG aF aN aH aR aL aA aQ aP kF kN kH kR kL kA kQ kP (4 : Int32) (own_I ((E + 1 + 1 : Nat) : Int)) (own_up (own_up fst u (E : Int)) y ((E + 1 : Nat) : Int)) (own_up (own_up nxt (E : Int) (fst u)) ((E + 1 : Nat) : Int) (own_up fst u (E : Int) y)) (own_up (own_up hd (E : Int) y) ((E + 1 : Nat) : Int) u) (own_up (own_up rm (E : Int) x) ((E + 1 : Nat) : Int) 0) lev arc que pth
set_option maxRecDepth 65536 in
set_option maxHeartbeats 40000000 in
theorem rmAdd (l : Launch) (Z : State) (a0 : Array Value) (hw : ∀ d ∈ tables_1, d.before a0 Z = true) (ws : List Jvm.Cond) (aG : Addr) (aF aN aH aR aL aA aQ aP : Addr) (kF kN kH kR kL kA kQ kP : ClassId) (E : Nat) (fst nxt hd rm lev arc que pth : Int → Int) (u y x : Int) (h0 : Heap) (n0 : Nat) (Z0 : n0 ≤ h0.size) (hNE : own_NE n0 aG aF aN aH aR aL aA aQ aP) (hS : own_S Z h0 aG aF aN aH aR aL aA aQ aP kF kN kH kR kL kA kQ kP (4 : Int32) (own_I (E : Int)) fst nxt hd rm lev arc que pth) (hu : 0 ≤ u ∧ u < 4) (hy : 0 ≤ y ∧ y < 4) (hE : E ≤ 10) (hx1 : 1 ≤ x ∧ x ≤ 15) :
    MetFree l (⟨"com/example/nearbound/nearbound/graph/MinCut", "addEdge", "(IID)V"⟩ : MethodName) (head1 (Jvm.Cond.code (⟨"com/example/nearbound/nearbound/graph/MinCut", "addEdge", "(IID)V"⟩ : MethodName) prog_25_method_4_code 6 none :: ws) ({ frames := 1, cells := 0, slots := 0, locals := 16 } : Room)) (fun a U => a = #[(.ref aG), (.int (own_I u)), (.int (own_I y)), (.double (own_D x))] ∧ Z.Warmed39 U.vm ∧ U.heap = h0) (fun _ _ _ _ _ => True) (fun _ U o U' => ∃ v L, o = .returned v ∧ Q_rmAdd Z aG aF aN aH aR aL aA aQ aP kF kN kH kR kL kA kQ kP E fst nxt hd rm lev arc que pth u y x h0 n0 v U'.heap L ∧ FrameEnd U o U' L ({ frames := 1, cells := 0, slots := 0, locals := 16 } : Room).cells ({ frames := 1, cells := 0, slots := 0, locals := 16 } : Room).slots) := by
  refine MetFree.of_bodySF (plainFor_of_name pn_2) hisR ?_
  intro p e s m args below meth c s₁ Bd hml0 hP hK
  obtain ⟨rfl, hZ, hh⟩ := hP
  have hx := Bd.exec
  have hby := Bd.bytes
  have hml : c.maxLocals = 6 := hml0
  have hown : s.vm.findClass "com/example/nearbound/nearbound/graph/MinCut" = some m.cls := findClass_of_methodNamed Bd.named
  have hnm := (name_of_methodNamed Bd.named Bd.method).1
  have X0 : Stand p l e ({ frames := 1, cells := 0, slots := 0, locals := 16 } : Room) s m #[(.ref aG), (.int (own_I u)), (.int (own_I y)), (.double (own_D x))] below meth c s₁ [] 0 0 := Stand.of_body Bd
  have e0 : s₁.heap = h0 := by rw [← hh, Bd.state]; rfl
  have N0 := Fr.nil n0
  let PO : Outcome → State → Prop := own_PO s (Q_rmAdd Z aG aF aN aH aR aL aA aQ aP kF kN kH kR kL kA kQ kP E fst nxt hd rm lev arc que pth u y x h0 n0) 0 0
  show own_Go p e below PO (s₁.setTop (entryFrame m #[(.ref aG), (.int (own_I u)), (.int (own_I y)), (.double (own_D x))] 6))
  rw [ef_rmAdd]
  obtain ⟨gn_aG, gn_aF, gn_aN, gn_aH, gn_aR, gn_aL, gn_aA, gn_aQ, gn_aP⟩ := hNE.1
  have hS' := hS
  obtain ⟨E_G, F_nodeCount, F_edgeCount, F_first, F_next, F_head, F_room, F_level, F_arc, F_queue, F_path, V_F, V_N, V_H, V_R, V_L, V_A, V_Q, V_P⟩ := hS'
  have K0 : Keep h0 h0 [aG, aF, aN, aH, aR, aL, aA, aQ, aP] := Keep.refl h0 _
  show own_Go p e below PO (s₁.setTop (mkF m 0 #[.val (.ref aG), .val (.int (own_I u)), .val (.int (own_I y)), .val (.double (own_D x)), .second, .unset] []))
  refine own_back ?_ (fun t k => XS.dloadN X0.here hx rfl (hb hby d7_0) rfl k)
  show own_Go p e below PO (s₁.setTop (mkF m 1 #[.val (.ref aG), .val (.int (own_I u)), .val (.int (own_I y)), .val (.double (own_D x)), .second, .unset] [(.double (own_D x))]))
  refine own_back ?_ (fun t k => XS.dconst0 X0.here hx rfl (v := (0 : UInt64)) (hb hby d7_1) (by decide +kernel) k)
  show own_Go p e below PO (s₁.setTop (mkF m 2 #[.val (.ref aG), .val (.int (own_I u)), .val (.int (own_I y)), .val (.double (own_D x)), .second, .unset] [(.double (0 : UInt64)), (.double (own_D x))]))
  refine own_back ?_ (fun t k => XS.dcmpS X0.here hx rfl (v := (own_cz x)) (hb hby d7_2) rfl (own_dcmp (by omega)) k)
  show own_Go p e below PO (s₁.setTop (mkF m 3 #[.val (.ref aG), .val (.int (own_I u)), .val (.int (own_I y)), .val (.double (own_D x)), .second, .unset] [(.int (own_cz x))]))
  have hd3_1 : (0 : Int32) < (own_cz x) := own_czt (by omega)
  refine own_back ?_ (fun t k => XS.ifYes X0.here hx rfl (pc0 := 3) (pc' := 20) rfl (hb hby d7_3) rfl ((if0 _ _).trans (tlt hd3_1).2.2.1) (by decide) (by decide) k)
  show own_Go p e below PO (s₁.setTop (mkF m 20 #[.val (.ref aG), .val (.int (own_I u)), .val (.int (own_I y)), .val (.double (own_D x)), .second, .unset] []))
  refine own_back ?_ (fun t k => XS.aloadN X0.here hx rfl (hb hby d7_20) rfl rfl k)
  show own_Go p e below PO (s₁.setTop (mkF m 21 #[.val (.ref aG), .val (.int (own_I u)), .val (.int (own_I y)), .val (.double (own_D x)), .second, .unset] [(.ref aG)]))
  obtain ⟨T2, X2, e2, st2⟩ := getF X0 hx hZ hown (host := "") (Or.inl (hw _ (List.mem_of_getElem? (i := 38) rfl))) Via.refl e0 F_edgeCount (g := (mkF m 21 #[.val (.ref aG), .val (.int (own_I u)), .val (.int (own_I y)), .val (.double (own_D x)), .second, .unset] [(.ref aG)])) rfl rfl (hb hby d7_21)
  refine own_back ?_ st2
  show own_Go p e below PO (T2.setTop (mkF m 24 #[.val (.ref aG), .val (.int (own_I u)), .val (.int (own_I y)), .val (.double (own_D x)), .second, .unset] [(.int (own_I (E : Int)))]))
  refine own_back ?_ (fun t k => XS.iconst X2.here hx rfl (hb hby d7_24) k)
  show own_Go p e below PO (T2.setTop (mkF m 25 #[.val (.ref aG), .val (.int (own_I u)), .val (.int (own_I y)), .val (.double (own_D x)), .second, .unset] [(.int (2 : Int32)), (.int (own_I (E : Int)))]))
  refine own_back ?_ (fun t k => XS.iadd X2.here hx rfl (hb hby d7_25) rfl k)
  show own_Go p e below PO (T2.setTop (mkF m 26 #[.val (.ref aG), .val (.int (own_I u)), .val (.int (own_I y)), .val (.double (own_D x)), .second, .unset] [(.int ((own_I (E : Int)) + (2 : Int32)))]))
  refine own_sub (A := Int32) (x := ((own_I (E : Int)) + (2 : Int32))) (y := (own_I ((E : Int) + 2))) (fun cv => own_Go p e below PO (T2.setTop (mkF m 26 #[.val (.ref aG), .val (.int (own_I u)), .val (.int (own_I y)), .val (.double (own_D x)), .second, .unset] [(.int cv)]))) (own_add2 _) ?_
  show own_Go p e below PO (T2.setTop (mkF m 26 #[.val (.ref aG), .val (.int (own_I u)), .val (.int (own_I y)), .val (.double (own_D x)), .second, .unset] [(.int (own_I ((E : Int) + 2)))]))
  refine own_back ?_ (fun t k => XS.aloadN X2.here hx rfl (hb hby d7_26) rfl rfl k)
  show own_Go p e below PO (T2.setTop (mkF m 27 #[.val (.ref aG), .val (.int (own_I u)), .val (.int (own_I y)), .val (.double (own_D x)), .second, .unset] [(.ref aG), (.int (own_I ((E : Int) + 2)))]))
  obtain ⟨T3, X3, e3, st3⟩ := getF X2 hx hZ hown (host := "") (Or.inl (hw _ (List.mem_of_getElem? (i := 18) rfl))) Via.refl e2 F_head (g := (mkF m 27 #[.val (.ref aG), .val (.int (own_I u)), .val (.int (own_I y)), .val (.double (own_D x)), .second, .unset] [(.ref aG), (.int (own_I ((E : Int) + 2)))])) rfl rfl (hb hby d7_27)
  refine own_back ?_ st3
  show own_Go p e below PO (T3.setTop (mkF m 30 #[.val (.ref aG), .val (.int (own_I u)), .val (.int (own_I y)), .val (.double (own_D x)), .second, .unset] [(.ref aH), (.int (own_I ((E : Int) + 2)))]))
  refine own_back ?_ (own_len X3 hx hZ e3 V_H (g := (mkF m 30 #[.val (.ref aG), .val (.int (own_I u)), .val (.int (own_I y)), .val (.double (own_D x)), .second, .unset] [(.ref aH), (.int (own_I ((E : Int) + 2)))])) rfl rfl (hb hby d7_30))
  show own_Go p e below PO (T3.setTop (mkF m 31 #[.val (.ref aG), .val (.int (own_I u)), .val (.int (own_I y)), .val (.double (own_D x)), .second, .unset] [(.int (16 : Int32)), (.int (own_I ((E : Int) + 2)))]))
  have hd31_4 : ¬ ((16 : Int32) < (own_I ((E : Int) + 2))) := fun z => by rw [← own_i16] at z; have := (own_lt (by omega) (by omega)).mp z; omega
  refine own_back ?_ (fun t k => XS.icmpYes X3.here hx rfl (pc0 := 31) (pc' := 82) rfl (hb hby d7_31) rfl (flt hd31_4).2.2.2 (by decide) (by decide) k)
  show own_Go p e below PO (T3.setTop (mkF m 82 #[.val (.ref aG), .val (.int (own_I u)), .val (.int (own_I y)), .val (.double (own_D x)), .second, .unset] []))
  refine own_back ?_ (fun t k => XS.aloadN X3.here hx rfl (hb hby d7_82) rfl rfl k)
  show own_Go p e below PO (T3.setTop (mkF m 83 #[.val (.ref aG), .val (.int (own_I u)), .val (.int (own_I y)), .val (.double (own_D x)), .second, .unset] [(.ref aG)]))
  refine own_back ?_ (fun t k => XS.iloadN X3.here hx rfl (hb hby d7_83) rfl k)
  show own_Go p e below PO (T3.setTop (mkF m 84 #[.val (.ref aG), .val (.int (own_I u)), .val (.int (own_I y)), .val (.double (own_D x)), .second, .unset] [(.int (own_I u)), (.ref aG)]))
  refine own_back ?_ (fun t k => XS.iloadN X3.here hx rfl (hb hby d7_84) rfl k)
  show own_Go p e below PO (T3.setTop (mkF m 85 #[.val (.ref aG), .val (.int (own_I u)), .val (.int (own_I y)), .val (.double (own_D x)), .second, .unset] [(.int (own_I y)), (.int (own_I u)), (.ref aG)]))
  refine own_back ?_ (fun t k => XS.dloadN X3.here hx rfl (hb hby d7_85) rfl k)
  show own_Go p e below PO (T3.setTop (mkF m 86 #[.val (.ref aG), .val (.int (own_I u)), .val (.int (own_I y)), .val (.double (own_D x)), .second, .unset] [(.double (own_D x)), (.int (own_I y)), (.int (own_I u)), (.ref aG)]))
  obtain ⟨cq5, q5, q5'⟩ := E_G.cell
  obtain ⟨_, _, ⟨T5, L5, k5, n5⟩, -, X5, ⟨Lc5, hQ5, l5, y5, z5⟩, st5⟩ := X3.privateBack hx (y := (⟨"com/example/nearbound/nearbound/graph/MinCut", "link", "(IID)V"⟩ : MethodName)) hown (mvT hZ (hw _ (List.mem_of_getElem? (i := 53) rfl))) (mvT hZ (hw _ (List.mem_of_getElem? (i := 54) rfl))) (own_selpriv (args' := #[]) (mvT hZ (hw _ (List.mem_of_getElem? (i := 34) rfl))) (Cond.privateMethod_at (mvP hZ (hw _ (List.mem_of_getElem? (i := 55) rfl)) (args := #[]))) (mvT hZ (hw _ (List.mem_of_getElem? (i := 54) rfl))) (by decide)) (Cond.privateMethod_at (mvP hZ (hw _ (List.mem_of_getElem? (i := 55) rfl)) (args := #[]))) (mvT hZ (hw _ (List.mem_of_getElem? (i := 56) rfl))) (by decide) (backOf (W := 0) (rmLink l Z a0 hw [] aG aF aN aH aR aL aA aQ aP kF kN kH kR kL kA kQ kP E fst nxt hd rm lev arc que pth u y x h0 n0 Z0 hNE ⟨E_G, F_nodeCount, F_edgeCount, F_first, F_next, F_head, F_room, F_level, F_arc, F_queue, F_path, V_F, V_N, V_H, V_R, V_L, V_A, V_Q, V_P⟩ hu hy (by omega)) hZ (hw _ (List.mem_of_getElem? (i := 56) rfl)) (hw _ (List.mem_of_getElem? (i := 6) rfl)) (by decide) (by decide)) (g := (mkF m 86 #[.val (.ref aG), .val (.int (own_I u)), .val (.int (own_I y)), .val (.double (own_D x)), .second, .unset] [(.double (own_D x)), (.int (own_I y)), (.int (own_I u)), (.ref aG)])) rfl (by rw [hml]; rfl) (Steps.refl _) (a := aG) (by rw [e3]; exact q5) q5' (argsL := [(.int (own_I u)), (.int (own_I y)), (.double (own_D x))]) (rest := []) (lenOf pd_4 rfl) rfl (by show 2 * 0 + _ ≤ _; exact Nat.le_of_eq rfl) (hb hby d7_86) (fun _ _ => ⟨rfl, e3, (by decide : 0 + 0 ≤ _), (by decide : 0 + 0 ≤ _)⟩)
  dsimp only [Pt.U, Pt.locs, Pt.cells, Pt.slots] at X5 l5 y5 z5 st5 hQ5
  subst l5 y5 z5
  obtain ⟨rfl, N5q, Kc5, hS5⟩ := hQ5
  have N5 := Fr.app N0 N5q
  have K5 : Keep h0 T5.heap [aG, aF, aN, aH, aR, aL, aA, aQ, aP] := (K0).trans Kc5 (fun x hx => Or.inl hx)
  have Zh5 : n0 ≤ T5.heap.size := Nat.le_trans Z0 K5.1
  obtain ⟨E_G5, F_nodeCount5, F_edgeCount5, F_first5, F_next5, F_head5, F_room5, F_level5, F_arc5, F_queue5, F_path5, V_F5, V_N5, V_H5, V_R5, V_L5, V_A5, V_Q5, V_P5⟩ := hS5
  refine own_back ?_ (fun t k => st5.trans k)
  show own_Go p e below PO (T5.setTop (mkF m 89 #[.val (.ref aG), .val (.int (own_I u)), .val (.int (own_I y)), .val (.double (own_D x)), .second, .unset] []))
  refine own_back ?_ (fun t k => XS.aloadN X5.here hx rfl (hb hby d7_89) rfl rfl k)
  show own_Go p e below PO (T5.setTop (mkF m 90 #[.val (.ref aG), .val (.int (own_I u)), .val (.int (own_I y)), .val (.double (own_D x)), .second, .unset] [(.ref aG)]))
  refine own_back ?_ (fun t k => XS.iloadN X5.here hx rfl (hb hby d7_90) rfl k)
  show own_Go p e below PO (T5.setTop (mkF m 91 #[.val (.ref aG), .val (.int (own_I u)), .val (.int (own_I y)), .val (.double (own_D x)), .second, .unset] [(.int (own_I y)), (.ref aG)]))
  refine own_back ?_ (fun t k => XS.iloadN X5.here hx rfl (hb hby d7_91) rfl k)
  show own_Go p e below PO (T5.setTop (mkF m 92 #[.val (.ref aG), .val (.int (own_I u)), .val (.int (own_I y)), .val (.double (own_D x)), .second, .unset] [(.int (own_I u)), (.int (own_I y)), (.ref aG)]))
  refine own_back ?_ (fun t k => XS.dconst0 X5.here hx rfl (v := (0 : UInt64)) (hb hby d7_92) (by decide +kernel) k)
  show own_Go p e below PO (T5.setTop (mkF m 93 #[.val (.ref aG), .val (.int (own_I u)), .val (.int (own_I y)), .val (.double (own_D x)), .second, .unset] [(.double (0 : UInt64)), (.int (own_I u)), (.int (own_I y)), (.ref aG)]))
  refine own_sub (A := UInt64) (x := (0 : UInt64)) (y := (own_D 0)) (fun cv => own_Go p e below PO (T5.setTop (mkF m 93 #[.val (.ref aG), .val (.int (own_I u)), .val (.int (own_I y)), .val (.double (own_D x)), .second, .unset] [(.double cv), (.int (own_I u)), (.int (own_I y)), (.ref aG)]))) own_D0.symm ?_
  show own_Go p e below PO (T5.setTop (mkF m 93 #[.val (.ref aG), .val (.int (own_I u)), .val (.int (own_I y)), .val (.double (own_D x)), .second, .unset] [(.double (own_D 0)), (.int (own_I u)), (.int (own_I y)), (.ref aG)]))
  obtain ⟨cq6, q6, q6'⟩ := E_G5.cell
  obtain ⟨_, _, ⟨T6, L6, k6, n6⟩, -, X6, ⟨Lc6, hQ6, l6, y6, z6⟩, st6⟩ := X5.privateBack hx (y := (⟨"com/example/nearbound/nearbound/graph/MinCut", "link", "(IID)V"⟩ : MethodName)) hown (mvT hZ (hw _ (List.mem_of_getElem? (i := 53) rfl))) (mvT hZ (hw _ (List.mem_of_getElem? (i := 54) rfl))) (own_selpriv (args' := #[]) (mvT hZ (hw _ (List.mem_of_getElem? (i := 34) rfl))) (Cond.privateMethod_at (mvP hZ (hw _ (List.mem_of_getElem? (i := 55) rfl)) (args := #[]))) (mvT hZ (hw _ (List.mem_of_getElem? (i := 54) rfl))) (by decide)) (Cond.privateMethod_at (mvP hZ (hw _ (List.mem_of_getElem? (i := 55) rfl)) (args := #[]))) (mvT hZ (hw _ (List.mem_of_getElem? (i := 56) rfl))) (by decide) (backOf (W := 0) (rmLink l Z a0 hw [] aG aF aN aH aR aL aA aQ aP kF kN kH kR kL kA kQ kP (E + 1) (own_up fst u (E : Int)) (own_up nxt (E : Int) (fst u)) (own_up hd (E : Int) y) (own_up rm (E : Int) x) lev arc que pth y u 0 T5.heap n0 Zh5 hNE ⟨E_G5, F_nodeCount5, F_edgeCount5, F_first5, F_next5, F_head5, F_room5, F_level5, F_arc5, F_queue5, F_path5, V_F5, V_N5, V_H5, V_R5, V_L5, V_A5, V_Q5, V_P5⟩ hy hu (by omega)) hZ (hw _ (List.mem_of_getElem? (i := 56) rfl)) (hw _ (List.mem_of_getElem? (i := 6) rfl)) (by decide) (by decide)) (g := (mkF m 93 #[.val (.ref aG), .val (.int (own_I u)), .val (.int (own_I y)), .val (.double (own_D x)), .second, .unset] [(.double (own_D 0)), (.int (own_I u)), (.int (own_I y)), (.ref aG)])) rfl (by rw [hml]; rfl) (Steps.refl _) (a := aG) q6 q6' (argsL := [(.int (own_I y)), (.int (own_I u)), (.double (own_D 0))]) (rest := []) (lenOf pd_4 rfl) rfl (by show 2 * 0 + _ ≤ _; exact Nat.le_of_eq rfl) (hb hby d7_93) (fun _ _ => ⟨rfl, rfl, (by decide : 0 + 0 ≤ _), (by decide : 0 + 0 ≤ _)⟩)
  dsimp only [Pt.U, Pt.locs, Pt.cells, Pt.slots] at X6 l6 y6 z6 st6 hQ6
  subst l6 y6 z6
  obtain ⟨rfl, N6q, Kc6, hS6⟩ := hQ6
  have N6 := Fr.app N5 N6q
  have K6 : Keep h0 T6.heap [aG, aF, aN, aH, aR, aL, aA, aQ, aP] := (K5).trans Kc6 (fun x hx => Or.inl hx)
  have Zh6 : n0 ≤ T6.heap.size := Nat.le_trans Z0 K6.1
  obtain ⟨E_G6, F_nodeCount6, F_edgeCount6, F_first6, F_next6, F_head6, F_room6, F_level6, F_arc6, F_queue6, F_path6, V_F6, V_N6, V_H6, V_R6, V_L6, V_A6, V_Q6, V_P6⟩ := hS6
  refine own_back ?_ (fun t k => st6.trans k)
  show own_Go p e below PO (T6.setTop (mkF m 96 #[.val (.ref aG), .val (.int (own_I u)), .val (.int (own_I y)), .val (.double (own_D x)), .second, .unset] []))
  refine own_retV X6 hx Bd.returns (hb hby d7_96) rfl (Bd.notSynchronized) ?_ (by decide) (by decide)
  exact ⟨rfl, N6, K6, ⟨E_G6, F_nodeCount6, F_edgeCount6, F_first6, F_next6, F_head6, F_room6, F_level6, F_arc6, F_queue6, F_path6, V_F6, V_N6, V_H6, V_R6, V_L6, V_A6, V_Q6, V_P6⟩⟩
theorem d6_0 : decode method_4_code 0 = .ok (.iload_n 3, 1) := by decide +kernel
theorem d6_1 : decode method_4_code 1 = .ok (.ifCond .le 11, 3) := by decide +kernel
theorem d6_4 : decode method_4_code 4 = .ok (.aload_n 0, 1) := by decide +kernel
theorem d6_5 : decode method_4_code 5 = .ok (.iload_n 1, 1) := by decide +kernel
theorem d6_6 : decode method_4_code 6 = .ok (.iload_n 2, 1) := by decide +kernel
theorem d6_7 : decode method_4_code 7 = .ok (.iload_n 3, 1) := by decide +kernel
theorem d6_8 : decode method_4_code 8 = .ok (.i2d, 1) := by decide +kernel
theorem d6_9 : decode method_4_code 9 = .ok (.invokevirtual 38, 3) := by decide +kernel
theorem d6_12 : decode method_4_code 12 = .ok (.return_, 1) := by decide +kernel
theorem ef_rmEdge (m : MethodId) (x0 : Addr) (x1 : Int32) (x2 : Int32) (x3 : Int32) : entryFrame m #[(.ref x0), (.int x1), (.int x2), (.int x3)] 4 = mkF m 0 #[.val (.ref x0), .val (.int x1), .val (.int x2), .val (.int x3)] [] := by first | (simp [entryFrame, mkF, argsToLocals, Value.category]; done) | rfl
def Q_rmEdge (Z : State) (aG aF aN aH aR aL aA aQ aP : Addr) (kF kN kH kR kL kA kQ kP : ClassId) (E : Nat) (tl fst nxt hd rm lev arc que pth : Int → Int) (u y x : Int) (h0 : Heap) (n0 : Nat) (v : Option Value) (h : Heap) (L : List Loc) : Prop := v = none ∧ Fr n0 L ∧ Keep h0 h [aG, aF, aN, aH, aR, aL, aA, aQ, aP] ∧ ∃ (E' : Nat) (tl' fst' nxt' hd' rm' : Int → Int), own_S Z h aG aF aN aH aR aL aA aQ aP kF kN kH kR kL kA kQ kP (4 : Int32) (own_I (E' : Int)) fst' nxt' hd' rm' lev arc que pth ∧ own_G E' tl' hd' fst' nxt' ∧ own_R E' rm' ∧ E' ≤ E + 2 ∧ ∀ S : Int → Bool, own_O tl' hd' S rm' E' = own_O tl hd S rm E + own_d (S u && !S y) x
set_option maxRecDepth 65536 in
set_option maxHeartbeats 40000000 in
theorem rmEdge (l : Launch) (Z : State) (a0 : Array Value) (hw : ∀ d ∈ tables_1, d.before a0 Z = true) (ws : List Jvm.Cond) (aG : Addr) (aF aN aH aR aL aA aQ aP : Addr) (kF kN kH kR kL kA kQ kP : ClassId) (E : Nat) (tl fst nxt hd rm lev arc que pth : Int → Int) (u y x : Int) (h0 : Heap) (n0 : Nat) (Z0 : n0 ≤ h0.size) (hNE : own_NE n0 aG aF aN aH aR aL aA aQ aP) (hS : own_S Z h0 aG aF aN aH aR aL aA aQ aP kF kN kH kR kL kA kQ kP (4 : Int32) (own_I (E : Int)) fst nxt hd rm lev arc que pth) (hu : 0 ≤ u ∧ u < 4) (hy : 0 ≤ y ∧ y < 4) (hG : own_G E tl hd fst nxt) (hR : own_R E rm) (hE : E ≤ 10) (hx1 : 0 ≤ x ∧ x ≤ 15) :
    MetFree l (⟨"com/example/nearbound/nearbound/graph/MinCutOnSourceSidePinLaw", "edge", "(Lcom/example/nearbound/nearbound/graph/MinCut;III)V"⟩ : MethodName) (head1 (Jvm.Cond.code (⟨"com/example/nearbound/nearbound/graph/MinCutOnSourceSidePinLaw", "edge", "(Lcom/example/nearbound/nearbound/graph/MinCut;III)V"⟩ : MethodName) method_4_code 4 none :: ws) ({ frames := 2, cells := 0, slots := 0, locals := 33 } : Room)) (fun a U => a = #[(.ref aG), (.int (own_I u)), (.int (own_I y)), (.int (own_I x))] ∧ Z.Warmed39 U.vm ∧ U.heap = h0) (fun _ _ _ _ _ => True) (fun _ U o U' => ∃ v L, o = .returned v ∧ Q_rmEdge Z aG aF aN aH aR aL aA aQ aP kF kN kH kR kL kA kQ kP E tl fst nxt hd rm lev arc que pth u y x h0 n0 v U'.heap L ∧ FrameEnd U o U' L ({ frames := 2, cells := 0, slots := 0, locals := 33 } : Room).cells ({ frames := 2, cells := 0, slots := 0, locals := 33 } : Room).slots) := by
  refine MetFree.of_bodySF (plainFor_of_name pn_0) hisR ?_
  intro p e s m args below meth c s₁ Bd hml0 hP hK
  obtain ⟨rfl, hZ, hh⟩ := hP
  have hx := Bd.exec
  have hby := Bd.bytes
  have hml : c.maxLocals = 4 := hml0
  have hown : s.vm.findClass "com/example/nearbound/nearbound/graph/MinCutOnSourceSidePinLaw" = some m.cls := findClass_of_methodNamed Bd.named
  have hnm := (name_of_methodNamed Bd.named Bd.method).1
  have X0 : Stand p l e ({ frames := 2, cells := 0, slots := 0, locals := 33 } : Room) s m #[(.ref aG), (.int (own_I u)), (.int (own_I y)), (.int (own_I x))] below meth c s₁ [] 0 0 := Stand.of_body Bd
  have e0 : s₁.heap = h0 := by rw [← hh, Bd.state]; rfl
  have N0 := Fr.nil n0
  let PO : Outcome → State → Prop := own_PO s (Q_rmEdge Z aG aF aN aH aR aL aA aQ aP kF kN kH kR kL kA kQ kP E tl fst nxt hd rm lev arc que pth u y x h0 n0) 0 0
  show own_Go p e below PO (s₁.setTop (entryFrame m #[(.ref aG), (.int (own_I u)), (.int (own_I y)), (.int (own_I x))] 4))
  rw [ef_rmEdge]
  obtain ⟨gn_aG, gn_aF, gn_aN, gn_aH, gn_aR, gn_aL, gn_aA, gn_aQ, gn_aP⟩ := hNE.1
  have hS' := hS
  obtain ⟨E_G, F_nodeCount, F_edgeCount, F_first, F_next, F_head, F_room, F_level, F_arc, F_queue, F_path, V_F, V_N, V_H, V_R, V_L, V_A, V_Q, V_P⟩ := hS'
  have K0 : Keep h0 h0 [aG, aF, aN, aH, aR, aL, aA, aQ, aP] := Keep.refl h0 _
  show own_Go p e below PO (s₁.setTop (mkF m 0 #[.val (.ref aG), .val (.int (own_I u)), .val (.int (own_I y)), .val (.int (own_I x))] []))
  refine own_back ?_ (fun t k => XS.iloadN X0.here hx rfl (hb hby d6_0) rfl k)
  show own_Go p e below PO (s₁.setTop (mkF m 1 #[.val (.ref aG), .val (.int (own_I u)), .val (.int (own_I y)), .val (.int (own_I x))] [(.int (own_I x))]))
  by_cases hc1_1 : (0 : Int32) < (own_I x)
  case pos =>
    refine own_back ?_ (fun t k => XS.ifNo X0.here hx rfl (hb hby d6_1) rfl ((if0 _ _).trans (tlt hc1_1).2.2.2) k)
    show own_Go p e below PO (s₁.setTop (mkF m 4 #[.val (.ref aG), .val (.int (own_I u)), .val (.int (own_I y)), .val (.int (own_I x))] []))
    have x1 : 0 < x := by have := hc1_1; rw [← own_i0] at this; exact (own_lt (by omega) (by omega)).mp this
    refine own_back ?_ (fun t k => XS.aloadN X0.here hx rfl (hb hby d6_4) rfl rfl k)
    show own_Go p e below PO (s₁.setTop (mkF m 5 #[.val (.ref aG), .val (.int (own_I u)), .val (.int (own_I y)), .val (.int (own_I x))] [(.ref aG)]))
    refine own_back ?_ (fun t k => XS.iloadN X0.here hx rfl (hb hby d6_5) rfl k)
    show own_Go p e below PO (s₁.setTop (mkF m 6 #[.val (.ref aG), .val (.int (own_I u)), .val (.int (own_I y)), .val (.int (own_I x))] [(.int (own_I u)), (.ref aG)]))
    refine own_back ?_ (fun t k => XS.iloadN X0.here hx rfl (hb hby d6_6) rfl k)
    show own_Go p e below PO (s₁.setTop (mkF m 7 #[.val (.ref aG), .val (.int (own_I u)), .val (.int (own_I y)), .val (.int (own_I x))] [(.int (own_I y)), (.int (own_I u)), (.ref aG)]))
    refine own_back ?_ (fun t k => XS.iloadN X0.here hx rfl (hb hby d6_7) rfl k)
    show own_Go p e below PO (s₁.setTop (mkF m 8 #[.val (.ref aG), .val (.int (own_I u)), .val (.int (own_I y)), .val (.int (own_I x))] [(.int (own_I x)), (.int (own_I y)), (.int (own_I u)), (.ref aG)]))
    refine own_back ?_ (fun t k => XS.i2dS X0.here hx rfl (v := (own_D x)) (hb hby d6_8) rfl (own_i2d (by omega)) k)
    show own_Go p e below PO (s₁.setTop (mkF m 9 #[.val (.ref aG), .val (.int (own_I u)), .val (.int (own_I y)), .val (.int (own_I x))] [(.double (own_D x)), (.int (own_I y)), (.int (own_I u)), (.ref aG)]))
    obtain ⟨cq2, kq2, q2a, q2b, q2c⟩ := isOf hZ e0 E_G
    obtain ⟨_, _, ⟨T2, L2, k2, n2⟩, -, X2, ⟨Lc2, hQ2, l2, y2, z2⟩, st2⟩ := X0.virtualBack hx (y := (⟨"com/example/nearbound/nearbound/graph/MinCut", "addEdge", "(IID)V"⟩ : MethodName)) (z := (⟨"com/example/nearbound/nearbound/graph/MinCut", "addEdge", "(IID)V"⟩ : MethodName)) hown (mvT hZ (hw _ (List.mem_of_getElem? (i := 48) rfl))) (mvT hZ (hw _ (List.mem_of_getElem? (i := 49) rfl))) (notFace_of_selects (args := #[]) (mvT hZ (hw _ (List.mem_of_getElem? (i := 51) rfl)))) (mvT hZ (hw _ (List.mem_of_getElem? (i := 51) rfl))) (mvT hZ (hw _ (List.mem_of_getElem? (i := 50) rfl))) (by decide) (backOf (W := 0) (rmAdd l Z a0 hw [] aG aF aN aH aR aL aA aQ aP kF kN kH kR kL kA kQ kP E fst nxt hd rm lev arc que pth u y x h0 n0 Z0 hNE ⟨E_G, F_nodeCount, F_edgeCount, F_first, F_next, F_head, F_room, F_level, F_arc, F_queue, F_path, V_F, V_N, V_H, V_R, V_L, V_A, V_Q, V_P⟩ hu hy hE (by omega)) hZ (hw _ (List.mem_of_getElem? (i := 52) rfl)) (hw _ (List.mem_of_getElem? (i := 6) rfl)) (by decide) (by decide)) q2a q2c (g := (mkF m 9 #[.val (.ref aG), .val (.int (own_I u)), .val (.int (own_I y)), .val (.int (own_I x))] [(.double (own_D x)), (.int (own_I y)), (.int (own_I u)), (.ref aG)])) rfl (by rw [hml]; rfl) (Steps.refl _) (argsL := [(.int (own_I u)), (.int (own_I y)), (.double (own_D x))]) (rest := []) (lenOf pd_4 rfl) rfl (by show 2 * 0 + _ ≤ _; exact Nat.le_of_eq rfl) (hb hby d6_9) (fun _ _ => ⟨rfl, e0, (by decide : 0 + 0 ≤ _), (by decide : 0 + 0 ≤ _)⟩)
    dsimp only [Pt.U, Pt.locs, Pt.cells, Pt.slots] at X2 l2 y2 z2 st2 hQ2
    subst l2 y2 z2
    obtain ⟨rfl, N2q, Kc2, hS2⟩ := hQ2
    have N2 := Fr.app N0 N2q
    have K2 : Keep h0 T2.heap [aG, aF, aN, aH, aR, aL, aA, aQ, aP] := (K0).trans Kc2 (fun x hx => Or.inl hx)
    have Zh2 : n0 ≤ T2.heap.size := Nat.le_trans Z0 K2.1
    obtain ⟨E_G2, F_nodeCount2, F_edgeCount2, F_first2, F_next2, F_head2, F_room2, F_level2, F_arc2, F_queue2, F_path2, V_F2, V_N2, V_H2, V_R2, V_L2, V_A2, V_Q2, V_P2⟩ := hS2
    refine own_back ?_ (fun t k => st2.trans k)
    show own_Go p e below PO (T2.setTop (mkF m 12 #[.val (.ref aG), .val (.int (own_I u)), .val (.int (own_I y)), .val (.int (own_I x))] []))
    refine own_retV X2 hx Bd.returns (hb hby d6_12) rfl (Bd.notSynchronized) ?_ (by decide) (by decide)
    exact ⟨rfl, N2, K2, E + 1 + 1, _, _, _, _, _, ⟨E_G2, F_nodeCount2, F_edgeCount2, F_first2, F_next2, F_head2, F_room2, F_level2, F_arc2, F_queue2, F_path2, V_F2, V_N2, V_H2, V_R2, V_L2, V_A2, V_Q2, V_P2⟩, own_G_add hu hy hG hE, own_R_add hR hG.2.1 (by omega), by omega, fun S => own_O_add S⟩
  refine own_back ?_ (fun t k => XS.ifYes X0.here hx rfl (pc0 := 1) (pc' := 12) rfl (hb hby d6_1) rfl ((if0 _ _).trans (flt hc1_1).2.2.2) (by decide) (by decide) k)
  show own_Go p e below PO (s₁.setTop (mkF m 12 #[.val (.ref aG), .val (.int (own_I u)), .val (.int (own_I y)), .val (.int (own_I x))] []))
  refine own_retV X0 hx Bd.returns (hb hby d6_12) e0 (Bd.notSynchronized) ?_ (by decide) (by decide)
  have x0 : x = 0 := by have z := hc1_1; rw [← own_i0] at z; have := mt (own_lt (by omega) (by omega)).mpr z; omega
  exact ⟨rfl, N0, K0, E, tl, _, _, _, _, ⟨E_G, F_nodeCount, F_edgeCount, F_first, F_next, F_head, F_room, F_level, F_arc, F_queue, F_path, V_F, V_N, V_H, V_R, V_L, V_A, V_Q, V_P⟩, hG, hR, by omega, fun S => by rw [x0, own_d0]; omega⟩
theorem d2_0 : decode prog_25_method_1_code 0 = .ok (.aload_n 0, 1) := by decide +kernel
theorem d2_1 : decode prog_25_method_1_code 1 = .ok (.invokespecial 1, 3) := by decide +kernel
theorem d2_4 : decode prog_25_method_1_code 4 = .ok (.aload_n 0, 1) := by decide +kernel
theorem d2_5 : decode prog_25_method_1_code 5 = .ok (.bipush 16, 2) := by decide +kernel
theorem d2_7 : decode prog_25_method_1_code 7 = .ok (.newarray .int, 2) := by decide +kernel
theorem d2_9 : decode prog_25_method_1_code 9 = .ok (.putfield 7, 3) := by decide +kernel
theorem d2_12 : decode prog_25_method_1_code 12 = .ok (.aload_n 0, 1) := by decide +kernel
theorem d2_13 : decode prog_25_method_1_code 13 = .ok (.bipush 16, 2) := by decide +kernel
theorem d2_15 : decode prog_25_method_1_code 15 = .ok (.newarray .int, 2) := by decide +kernel
theorem d2_17 : decode prog_25_method_1_code 17 = .ok (.putfield 13, 3) := by decide +kernel
theorem d2_20 : decode prog_25_method_1_code 20 = .ok (.aload_n 0, 1) := by decide +kernel
theorem d2_21 : decode prog_25_method_1_code 21 = .ok (.bipush 16, 2) := by decide +kernel
theorem d2_23 : decode prog_25_method_1_code 23 = .ok (.newarray .int, 2) := by decide +kernel
theorem d2_25 : decode prog_25_method_1_code 25 = .ok (.putfield 16, 3) := by decide +kernel
theorem d2_28 : decode prog_25_method_1_code 28 = .ok (.aload_n 0, 1) := by decide +kernel
theorem d2_29 : decode prog_25_method_1_code 29 = .ok (.bipush 16, 2) := by decide +kernel
theorem d2_31 : decode prog_25_method_1_code 31 = .ok (.newarray .double, 2) := by decide +kernel
theorem d2_33 : decode prog_25_method_1_code 33 = .ok (.putfield 19, 3) := by decide +kernel
theorem d2_36 : decode prog_25_method_1_code 36 = .ok (.aload_n 0, 1) := by decide +kernel
theorem d2_37 : decode prog_25_method_1_code 37 = .ok (.bipush 16, 2) := by decide +kernel
theorem d2_39 : decode prog_25_method_1_code 39 = .ok (.newarray .int, 2) := by decide +kernel
theorem d2_41 : decode prog_25_method_1_code 41 = .ok (.putfield 23, 3) := by decide +kernel
theorem d2_44 : decode prog_25_method_1_code 44 = .ok (.aload_n 0, 1) := by decide +kernel
theorem d2_45 : decode prog_25_method_1_code 45 = .ok (.bipush 16, 2) := by decide +kernel
theorem d2_47 : decode prog_25_method_1_code 47 = .ok (.newarray .int, 2) := by decide +kernel
theorem d2_49 : decode prog_25_method_1_code 49 = .ok (.putfield 26, 3) := by decide +kernel
theorem d2_52 : decode prog_25_method_1_code 52 = .ok (.aload_n 0, 1) := by decide +kernel
theorem d2_53 : decode prog_25_method_1_code 53 = .ok (.bipush 16, 2) := by decide +kernel
theorem d2_55 : decode prog_25_method_1_code 55 = .ok (.newarray .int, 2) := by decide +kernel
theorem d2_57 : decode prog_25_method_1_code 57 = .ok (.putfield 29, 3) := by decide +kernel
theorem d2_60 : decode prog_25_method_1_code 60 = .ok (.aload_n 0, 1) := by decide +kernel
theorem d2_61 : decode prog_25_method_1_code 61 = .ok (.bipush 16, 2) := by decide +kernel
theorem d2_63 : decode prog_25_method_1_code 63 = .ok (.newarray .int, 2) := by decide +kernel
theorem d2_65 : decode prog_25_method_1_code 65 = .ok (.putfield 32, 3) := by decide +kernel
theorem d2_68 : decode prog_25_method_1_code 68 = .ok (.return_, 1) := by decide +kernel
theorem ef_rmIni (m : MethodId) (x0 : Addr) : entryFrame m #[(.ref x0)] 1 = mkF m 0 #[.val (.ref x0)] [] := by first | (simp [entryFrame, mkF, argsToLocals, Value.category]; done) | rfl
def Q_rmIni (Z : State) (aG : Addr) (h0 : Heap) (n0 : Nat) (v : Option Value) (h : Heap) (L : List Loc) : Prop := v = none ∧ Fr n0 L ∧ Keep h0 h [aG] ∧ ∃ (aF aN aH aR aL aA aQ aP : Addr) (kF kN kH kR kL kA kQ kP : ClassId), own_NE n0 aG aF aN aH aR aL aA aQ aP ∧ own_S Z h aG aF aN aH aR aL aA aQ aP kF kN kH kR kL kA kQ kP (0 : Int32) (0 : Int32) (fun _ => 0) (fun _ => 0) (fun _ => 0) (fun _ => 0) (fun _ => 0) (fun _ => 0) (fun _ => 0) (fun _ => 0)
set_option maxRecDepth 65536 in
set_option maxHeartbeats 40000000 in
theorem rmIni (l : Launch) (Z : State) (a0 : Array Value) (hw : ∀ d ∈ tables_1, d.before a0 Z = true) (ws : List Jvm.Cond) (aG : Addr)  (h0 : Heap) (n0 : Nat) (Z0 : n0 ≤ h0.size) (E_G : Exa Z h0 aG "com/example/nearbound/nearbound/graph/MinCut") (F_nodeCount : Fld Z h0 aG "com/example/nearbound/nearbound/graph/MinCut" "nodeCount" "I" (.int (0 : Int32))) (F_edgeCount : Fld Z h0 aG "com/example/nearbound/nearbound/graph/MinCut" "edgeCount" "I" (.int (0 : Int32))) (F_first : Fld Z h0 aG "com/example/nearbound/nearbound/graph/MinCut" "first" "[I" .null) (F_next : Fld Z h0 aG "com/example/nearbound/nearbound/graph/MinCut" "next" "[I" .null) (F_head : Fld Z h0 aG "com/example/nearbound/nearbound/graph/MinCut" "head" "[I" .null) (F_room : Fld Z h0 aG "com/example/nearbound/nearbound/graph/MinCut" "room" "[D" .null) (F_level : Fld Z h0 aG "com/example/nearbound/nearbound/graph/MinCut" "level" "[I" .null) (F_arc : Fld Z h0 aG "com/example/nearbound/nearbound/graph/MinCut" "arc" "[I" .null) (F_queue : Fld Z h0 aG "com/example/nearbound/nearbound/graph/MinCut" "queue" "[I" .null) (F_path : Fld Z h0 aG "com/example/nearbound/nearbound/graph/MinCut" "path" "[I" .null) (gn_aG : n0 ≤ aG) :
    MetFree l (⟨"com/example/nearbound/nearbound/graph/MinCut", "<init>", "()V"⟩ : MethodName) (head1 (Jvm.Cond.code (⟨"com/example/nearbound/nearbound/graph/MinCut", "<init>", "()V"⟩ : MethodName) prog_25_method_1_code 1 none :: ws) ({ frames := 1, cells := 8, slots := 128, locals := 12 } : Room)) (fun a U => a = #[(.ref aG)] ∧ Z.Warmed39 U.vm ∧ U.heap = h0) (fun _ _ _ _ _ => True) (fun _ U o U' => ∃ v L, o = .returned v ∧ Q_rmIni Z aG h0 n0 v U'.heap L ∧ FrameEnd U o U' L ({ frames := 1, cells := 8, slots := 128, locals := 12 } : Room).cells ({ frames := 1, cells := 8, slots := 128, locals := 12 } : Room).slots) := by
  refine MetFree.of_bodySF (plainFor_of_name pn_2) hisR ?_
  intro p e s m args below meth c s₁ Bd hml0 hP hK
  obtain ⟨rfl, hZ, hh⟩ := hP
  have hx := Bd.exec
  have hby := Bd.bytes
  have hml : c.maxLocals = 1 := hml0
  have hown : s.vm.findClass "com/example/nearbound/nearbound/graph/MinCut" = some m.cls := findClass_of_methodNamed Bd.named
  have hnm := (name_of_methodNamed Bd.named Bd.method).1
  have X0 : Stand p l e ({ frames := 1, cells := 8, slots := 128, locals := 12 } : Room) s m #[(.ref aG)] below meth c s₁ [] 0 0 := Stand.of_body Bd
  have e0 : s₁.heap = h0 := by rw [← hh, Bd.state]; rfl
  have N0 := Fr.nil n0
  let PO : Outcome → State → Prop := own_PO s (Q_rmIni Z aG h0 n0) 8 128
  show own_Go p e below PO (s₁.setTop (entryFrame m #[(.ref aG)] 1))
  rw [ef_rmIni]
  show own_Go p e below PO (s₁.setTop (mkF m 0 #[.val (.ref aG)] []))
  refine own_back ?_ (fun t k => XS.aloadN X0.here hx rfl (hb hby d2_0) rfl rfl k)
  show own_Go p e below PO (s₁.setTop (mkF m 1 #[.val (.ref aG)] [(.ref aG)]))
  obtain ⟨T1, X1, e1, st1⟩ := initO X0 hx hZ hown (hw _ (List.mem_of_getElem? (i := 10) rfl)) (hw _ (List.mem_of_getElem? (i := 11) rfl)) (hw _ (List.mem_of_getElem? (i := 12) rfl)) e0 (g := (mkF m 1 #[.val (.ref aG)] [(.ref aG)])) rfl (by rw [hml]; rfl) rfl (hb hby d2_1) (by decide) (W := 0) (by show 2 * 0 + _ ≤ _; exact Nat.le_of_eq rfl) (by decide)
  refine own_back ?_ st1
  show own_Go p e below PO (T1.setTop (mkF m 4 #[.val (.ref aG)] []))
  refine own_back ?_ (fun t k => XS.aloadN X1.here hx rfl (hb hby d2_4) rfl rfl k)
  show own_Go p e below PO (T1.setTop (mkF m 5 #[.val (.ref aG)] [(.ref aG)]))
  refine own_back ?_ (fun t k => XS.bipush X1.here hx rfl (hb hby d2_5) k)
  show own_Go p e below PO (T1.setTop (mkF m 7 #[.val (.ref aG)] [(.int (16 : Int32)), (.ref aG)]))
  obtain ⟨T2, h2, k2, X2, e2, E2, A2, Ex2, st2⟩ := newPE X1 hx hZ (hw _ (List.mem_of_getElem? (i := 13) rfl)) e1 (g := (mkF m 7 #[.val (.ref aG)] [(.int (16 : Int32)), (.ref aG)])) rfl (hb hby d2_7) rfl (by decide) (cap := 16) (by decide) (by decide) (by decide) (by decide) (ad := "[I") (by decide)
  obtain ⟨b2, g2⟩ : ∃ z, z = h0.size := ⟨_, rfl⟩
  rw [← g2] at A2 Ex2 st2
  have ne_aG_b2 : aG ≠ b2 := Nat.ne_of_lt (Nat.lt_of_lt_of_le E_G.lt (Nat.le_of_eq g2.symm))
  have sz_b2 : h0.size ≤ b2 := Nat.le_of_eq g2.symm
  have gn_b2 : n0 ≤ b2 := Nat.le_trans Z0 sz_b2
  have K2 : Keep h0 h2 [] := (Keep.refl h0 []).ext E2
  have Zh2 : n0 ≤ h2.size := Nat.le_trans Z0 K2.1
  have V2 : Arv Z h2 b2 k2 .int (16 : Int32) [] (.int (0 : Int32)) := (Arv.new A2 (by decide))
  refine own_back ?_ st2
  show own_Go p e below PO (T2.setTop (mkF m 9 #[.val (.ref aG)] [(.ref b2), (.ref aG)]))
  obtain ⟨T3, h3, X3, e3, W3, st3⟩ := putF X2 hx hZ hown (host := "") (Or.inl (hw _ (List.mem_of_getElem? (i := 14) rfl))) Via.refl e2 (F_first.keep K2 nin0) (E_G.keep K2) (Or.inl (hw _ (List.mem_of_getElem? (i := 15) rfl))) (hw _ (List.mem_of_getElem? (i := 5) rfl)) (ty := (.array .int)) (by decide) rfl rfl (g := (mkF m 9 #[.val (.ref aG)] [(.ref b2), (.ref aG)])) rfl rfl (hb hby d2_9)
  have Fw3 := (F_first.keep K2 nin0).same W3
  have f3_4 := Ex2.wr W3
  have f3_5 := V2.other W3 (Ne.symm ne_aG_b2)
  have f3_6 := (E_G.keep K2).wr W3
  have f3_7 := (F_nodeCount.keep K2 nin0).other W3 (Or.inr (slot_ne (Or.inl (hw _ (List.mem_of_getElem? (i := 37) rfl))) (Or.inl (hw _ (List.mem_of_getElem? (i := 15) rfl))) (by decide) (t := .int) (t' := (.array .int)) (by decide) (by decide)))
  have f3_8 := (F_edgeCount.keep K2 nin0).other W3 (Or.inr (slot_ne (Or.inl (hw _ (List.mem_of_getElem? (i := 39) rfl))) (Or.inl (hw _ (List.mem_of_getElem? (i := 15) rfl))) (by decide) (t := .int) (t' := (.array .int)) (by decide) (by decide)))
  have f3_9 := (F_next.keep K2 nin0).other W3 (Or.inr (slot_ne (Or.inl (hw _ (List.mem_of_getElem? (i := 17) rfl))) (Or.inl (hw _ (List.mem_of_getElem? (i := 15) rfl))) (by decide) (t := (.array .int)) (t' := (.array .int)) (by decide) (by decide)))
  have f3_10 := (F_head.keep K2 nin0).other W3 (Or.inr (slot_ne (Or.inl (hw _ (List.mem_of_getElem? (i := 19) rfl))) (Or.inl (hw _ (List.mem_of_getElem? (i := 15) rfl))) (by decide) (t := (.array .int)) (t' := (.array .int)) (by decide) (by decide)))
  have f3_11 := (F_room.keep K2 nin0).other W3 (Or.inr (slot_ne (Or.inl (hw _ (List.mem_of_getElem? (i := 22) rfl))) (Or.inl (hw _ (List.mem_of_getElem? (i := 15) rfl))) (by decide) (t := (.array .double)) (t' := (.array .int)) (by decide) (by decide)))
  have f3_12 := (F_level.keep K2 nin0).other W3 (Or.inr (slot_ne (Or.inl (hw _ (List.mem_of_getElem? (i := 24) rfl))) (Or.inl (hw _ (List.mem_of_getElem? (i := 15) rfl))) (by decide) (t := (.array .int)) (t' := (.array .int)) (by decide) (by decide)))
  have f3_13 := (F_arc.keep K2 nin0).other W3 (Or.inr (slot_ne (Or.inl (hw _ (List.mem_of_getElem? (i := 26) rfl))) (Or.inl (hw _ (List.mem_of_getElem? (i := 15) rfl))) (by decide) (t := (.array .int)) (t' := (.array .int)) (by decide) (by decide)))
  have f3_14 := (F_queue.keep K2 nin0).other W3 (Or.inr (slot_ne (Or.inl (hw _ (List.mem_of_getElem? (i := 28) rfl))) (Or.inl (hw _ (List.mem_of_getElem? (i := 15) rfl))) (by decide) (t := (.array .int)) (t' := (.array .int)) (by decide) (by decide)))
  have f3_15 := (F_path.keep K2 nin0).other W3 (Or.inr (slot_ne (Or.inl (hw _ (List.mem_of_getElem? (i := 30) rfl))) (Or.inl (hw _ (List.mem_of_getElem? (i := 15) rfl))) (by decide) (t := (.array .int)) (t' := (.array .int)) (by decide) (by decide)))
  have K3w : Keep h0 h2 [aG] := own_keep_more K2 (by simp)
  have K3 : Keep h0 h3 [aG] := (K3w).wr W3 (Or.inl (by simp))
  have N3 := Fr.snoc X3 N0 gn_aG
  have Zh3 : n0 ≤ h3.size := Nat.le_trans Z0 K3.1
  refine own_back ?_ st3
  show own_Go p e below PO (T3.setTop (mkF m 12 #[.val (.ref aG)] []))
  refine own_back ?_ (fun t k => XS.aloadN X3.here hx rfl (hb hby d2_12) rfl rfl k)
  show own_Go p e below PO (T3.setTop (mkF m 13 #[.val (.ref aG)] [(.ref aG)]))
  refine own_back ?_ (fun t k => XS.bipush X3.here hx rfl (hb hby d2_13) k)
  show own_Go p e below PO (T3.setTop (mkF m 15 #[.val (.ref aG)] [(.int (16 : Int32)), (.ref aG)]))
  obtain ⟨T16, h16, k16, X16, e16, E16, A16, Ex16, st16⟩ := newPE X3 hx hZ (hw _ (List.mem_of_getElem? (i := 13) rfl)) e3 (g := (mkF m 15 #[.val (.ref aG)] [(.int (16 : Int32)), (.ref aG)])) rfl (hb hby d2_15) rfl (by decide) (cap := 16) (by decide) (by decide) (by decide) (by decide) (ad := "[I") (by decide)
  obtain ⟨b16, g16⟩ : ∃ z, z = h3.size := ⟨_, rfl⟩
  rw [← g16] at A16 Ex16 st16
  have ne_aG_b16 : aG ≠ b16 := Nat.ne_of_lt (Nat.lt_of_lt_of_le f3_6.lt (Nat.le_of_eq g16.symm))
  have ne_b2_b16 : b2 ≠ b16 := Nat.ne_of_lt (Nat.lt_of_lt_of_le f3_4.lt (Nat.le_of_eq g16.symm))
  have sz_b16 : h0.size ≤ b16 := Nat.le_trans K3.1 (Nat.le_of_eq g16.symm)
  have gn_b16 : n0 ≤ b16 := Nat.le_trans Z0 sz_b16
  have f16_17 := f3_4.ext E16
  have f16_18 := f3_5.ext E16
  have f16_19 := f3_6.ext E16
  have f16_20 := f3_7.ext E16
  have f16_21 := f3_8.ext E16
  have f16_22 := Fw3.ext E16
  have f16_23 := f3_9.ext E16
  have f16_24 := f3_10.ext E16
  have f16_25 := f3_11.ext E16
  have f16_26 := f3_12.ext E16
  have f16_27 := f3_13.ext E16
  have f16_28 := f3_14.ext E16
  have f16_29 := f3_15.ext E16
  have K16 : Keep h0 h16 [aG] := (K3).ext E16
  have Zh16 : n0 ≤ h16.size := Nat.le_trans Z0 K16.1
  have V16 : Arv Z h16 b16 k16 .int (16 : Int32) [] (.int (0 : Int32)) := (Arv.new A16 (by decide))
  refine own_back ?_ st16
  show own_Go p e below PO (T16.setTop (mkF m 17 #[.val (.ref aG)] [(.ref b16), (.ref aG)]))
  obtain ⟨T30, h30, X30, e30, W30, st30⟩ := putF X16 hx hZ hown (host := "") (Or.inl (hw _ (List.mem_of_getElem? (i := 16) rfl))) Via.refl e16 f16_23 f16_19 (Or.inl (hw _ (List.mem_of_getElem? (i := 17) rfl))) (hw _ (List.mem_of_getElem? (i := 5) rfl)) (ty := (.array .int)) (by decide) rfl rfl (g := (mkF m 17 #[.val (.ref aG)] [(.ref b16), (.ref aG)])) rfl rfl (hb hby d2_17)
  have Fw30 := f16_23.same W30
  have f30_31 := f16_17.wr W30
  have f30_32 := f16_18.other W30 (Ne.symm ne_aG_b2)
  have f30_33 := f16_19.wr W30
  have f30_34 := f16_20.other W30 (Or.inr (slot_ne (Or.inl (hw _ (List.mem_of_getElem? (i := 37) rfl))) (Or.inl (hw _ (List.mem_of_getElem? (i := 17) rfl))) (by decide) (t := .int) (t' := (.array .int)) (by decide) (by decide)))
  have f30_35 := f16_21.other W30 (Or.inr (slot_ne (Or.inl (hw _ (List.mem_of_getElem? (i := 39) rfl))) (Or.inl (hw _ (List.mem_of_getElem? (i := 17) rfl))) (by decide) (t := .int) (t' := (.array .int)) (by decide) (by decide)))
  have f30_36 := f16_22.other W30 (Or.inr (slot_ne (Or.inl (hw _ (List.mem_of_getElem? (i := 15) rfl))) (Or.inl (hw _ (List.mem_of_getElem? (i := 17) rfl))) (by decide) (t := (.array .int)) (t' := (.array .int)) (by decide) (by decide)))
  have f30_37 := f16_24.other W30 (Or.inr (slot_ne (Or.inl (hw _ (List.mem_of_getElem? (i := 19) rfl))) (Or.inl (hw _ (List.mem_of_getElem? (i := 17) rfl))) (by decide) (t := (.array .int)) (t' := (.array .int)) (by decide) (by decide)))
  have f30_38 := f16_25.other W30 (Or.inr (slot_ne (Or.inl (hw _ (List.mem_of_getElem? (i := 22) rfl))) (Or.inl (hw _ (List.mem_of_getElem? (i := 17) rfl))) (by decide) (t := (.array .double)) (t' := (.array .int)) (by decide) (by decide)))
  have f30_39 := f16_26.other W30 (Or.inr (slot_ne (Or.inl (hw _ (List.mem_of_getElem? (i := 24) rfl))) (Or.inl (hw _ (List.mem_of_getElem? (i := 17) rfl))) (by decide) (t := (.array .int)) (t' := (.array .int)) (by decide) (by decide)))
  have f30_40 := f16_27.other W30 (Or.inr (slot_ne (Or.inl (hw _ (List.mem_of_getElem? (i := 26) rfl))) (Or.inl (hw _ (List.mem_of_getElem? (i := 17) rfl))) (by decide) (t := (.array .int)) (t' := (.array .int)) (by decide) (by decide)))
  have f30_41 := f16_28.other W30 (Or.inr (slot_ne (Or.inl (hw _ (List.mem_of_getElem? (i := 28) rfl))) (Or.inl (hw _ (List.mem_of_getElem? (i := 17) rfl))) (by decide) (t := (.array .int)) (t' := (.array .int)) (by decide) (by decide)))
  have f30_42 := f16_29.other W30 (Or.inr (slot_ne (Or.inl (hw _ (List.mem_of_getElem? (i := 30) rfl))) (Or.inl (hw _ (List.mem_of_getElem? (i := 17) rfl))) (by decide) (t := (.array .int)) (t' := (.array .int)) (by decide) (by decide)))
  have f30_43 := Ex16.wr W30
  have f30_44 := V16.other W30 (Ne.symm ne_aG_b16)
  have K30 : Keep h0 h30 [aG] := (K16).wr W30 (Or.inl (by simp))
  have N30 := Fr.snoc X30 N3 gn_aG
  have Zh30 : n0 ≤ h30.size := Nat.le_trans Z0 K30.1
  refine own_back ?_ st30
  show own_Go p e below PO (T30.setTop (mkF m 20 #[.val (.ref aG)] []))
  refine own_back ?_ (fun t k => XS.aloadN X30.here hx rfl (hb hby d2_20) rfl rfl k)
  show own_Go p e below PO (T30.setTop (mkF m 21 #[.val (.ref aG)] [(.ref aG)]))
  refine own_back ?_ (fun t k => XS.bipush X30.here hx rfl (hb hby d2_21) k)
  show own_Go p e below PO (T30.setTop (mkF m 23 #[.val (.ref aG)] [(.int (16 : Int32)), (.ref aG)]))
  obtain ⟨T45, h45, k45, X45, e45, E45, A45, Ex45, st45⟩ := newPE X30 hx hZ (hw _ (List.mem_of_getElem? (i := 13) rfl)) e30 (g := (mkF m 23 #[.val (.ref aG)] [(.int (16 : Int32)), (.ref aG)])) rfl (hb hby d2_23) rfl (by decide) (cap := 16) (by decide) (by decide) (by decide) (by decide) (ad := "[I") (by decide)
  obtain ⟨b45, g45⟩ : ∃ z, z = h30.size := ⟨_, rfl⟩
  rw [← g45] at A45 Ex45 st45
  have ne_aG_b45 : aG ≠ b45 := Nat.ne_of_lt (Nat.lt_of_lt_of_le f30_33.lt (Nat.le_of_eq g45.symm))
  have ne_b16_b45 : b16 ≠ b45 := Nat.ne_of_lt (Nat.lt_of_lt_of_le f30_43.lt (Nat.le_of_eq g45.symm))
  have ne_b2_b45 : b2 ≠ b45 := Nat.ne_of_lt (Nat.lt_of_lt_of_le f30_31.lt (Nat.le_of_eq g45.symm))
  have sz_b45 : h0.size ≤ b45 := Nat.le_trans K30.1 (Nat.le_of_eq g45.symm)
  have gn_b45 : n0 ≤ b45 := Nat.le_trans Z0 sz_b45
  have f45_46 := f30_31.ext E45
  have f45_47 := f30_32.ext E45
  have f45_48 := f30_33.ext E45
  have f45_49 := f30_34.ext E45
  have f45_50 := f30_35.ext E45
  have f45_51 := f30_36.ext E45
  have f45_52 := Fw30.ext E45
  have f45_53 := f30_37.ext E45
  have f45_54 := f30_38.ext E45
  have f45_55 := f30_39.ext E45
  have f45_56 := f30_40.ext E45
  have f45_57 := f30_41.ext E45
  have f45_58 := f30_42.ext E45
  have f45_59 := f30_43.ext E45
  have f45_60 := f30_44.ext E45
  have K45 : Keep h0 h45 [aG] := (K30).ext E45
  have Zh45 : n0 ≤ h45.size := Nat.le_trans Z0 K45.1
  have V45 : Arv Z h45 b45 k45 .int (16 : Int32) [] (.int (0 : Int32)) := (Arv.new A45 (by decide))
  refine own_back ?_ st45
  show own_Go p e below PO (T45.setTop (mkF m 25 #[.val (.ref aG)] [(.ref b45), (.ref aG)]))
  obtain ⟨T61, h61, X61, e61, W61, st61⟩ := putF X45 hx hZ hown (host := "") (Or.inl (hw _ (List.mem_of_getElem? (i := 18) rfl))) Via.refl e45 f45_53 f45_48 (Or.inl (hw _ (List.mem_of_getElem? (i := 19) rfl))) (hw _ (List.mem_of_getElem? (i := 5) rfl)) (ty := (.array .int)) (by decide) rfl rfl (g := (mkF m 25 #[.val (.ref aG)] [(.ref b45), (.ref aG)])) rfl rfl (hb hby d2_25)
  have Fw61 := f45_53.same W61
  have f61_62 := f45_46.wr W61
  have f61_63 := f45_47.other W61 (Ne.symm ne_aG_b2)
  have f61_64 := f45_48.wr W61
  have f61_65 := f45_49.other W61 (Or.inr (slot_ne (Or.inl (hw _ (List.mem_of_getElem? (i := 37) rfl))) (Or.inl (hw _ (List.mem_of_getElem? (i := 19) rfl))) (by decide) (t := .int) (t' := (.array .int)) (by decide) (by decide)))
  have f61_66 := f45_50.other W61 (Or.inr (slot_ne (Or.inl (hw _ (List.mem_of_getElem? (i := 39) rfl))) (Or.inl (hw _ (List.mem_of_getElem? (i := 19) rfl))) (by decide) (t := .int) (t' := (.array .int)) (by decide) (by decide)))
  have f61_67 := f45_51.other W61 (Or.inr (slot_ne (Or.inl (hw _ (List.mem_of_getElem? (i := 15) rfl))) (Or.inl (hw _ (List.mem_of_getElem? (i := 19) rfl))) (by decide) (t := (.array .int)) (t' := (.array .int)) (by decide) (by decide)))
  have f61_68 := f45_52.other W61 (Or.inr (slot_ne (Or.inl (hw _ (List.mem_of_getElem? (i := 17) rfl))) (Or.inl (hw _ (List.mem_of_getElem? (i := 19) rfl))) (by decide) (t := (.array .int)) (t' := (.array .int)) (by decide) (by decide)))
  have f61_69 := f45_54.other W61 (Or.inr (slot_ne (Or.inl (hw _ (List.mem_of_getElem? (i := 22) rfl))) (Or.inl (hw _ (List.mem_of_getElem? (i := 19) rfl))) (by decide) (t := (.array .double)) (t' := (.array .int)) (by decide) (by decide)))
  have f61_70 := f45_55.other W61 (Or.inr (slot_ne (Or.inl (hw _ (List.mem_of_getElem? (i := 24) rfl))) (Or.inl (hw _ (List.mem_of_getElem? (i := 19) rfl))) (by decide) (t := (.array .int)) (t' := (.array .int)) (by decide) (by decide)))
  have f61_71 := f45_56.other W61 (Or.inr (slot_ne (Or.inl (hw _ (List.mem_of_getElem? (i := 26) rfl))) (Or.inl (hw _ (List.mem_of_getElem? (i := 19) rfl))) (by decide) (t := (.array .int)) (t' := (.array .int)) (by decide) (by decide)))
  have f61_72 := f45_57.other W61 (Or.inr (slot_ne (Or.inl (hw _ (List.mem_of_getElem? (i := 28) rfl))) (Or.inl (hw _ (List.mem_of_getElem? (i := 19) rfl))) (by decide) (t := (.array .int)) (t' := (.array .int)) (by decide) (by decide)))
  have f61_73 := f45_58.other W61 (Or.inr (slot_ne (Or.inl (hw _ (List.mem_of_getElem? (i := 30) rfl))) (Or.inl (hw _ (List.mem_of_getElem? (i := 19) rfl))) (by decide) (t := (.array .int)) (t' := (.array .int)) (by decide) (by decide)))
  have f61_74 := f45_59.wr W61
  have f61_75 := f45_60.other W61 (Ne.symm ne_aG_b16)
  have f61_76 := Ex45.wr W61
  have f61_77 := V45.other W61 (Ne.symm ne_aG_b45)
  have K61 : Keep h0 h61 [aG] := (K45).wr W61 (Or.inl (by simp))
  have N61 := Fr.snoc X61 N30 gn_aG
  have Zh61 : n0 ≤ h61.size := Nat.le_trans Z0 K61.1
  refine own_back ?_ st61
  show own_Go p e below PO (T61.setTop (mkF m 28 #[.val (.ref aG)] []))
  refine own_back ?_ (fun t k => XS.aloadN X61.here hx rfl (hb hby d2_28) rfl rfl k)
  show own_Go p e below PO (T61.setTop (mkF m 29 #[.val (.ref aG)] [(.ref aG)]))
  refine own_back ?_ (fun t k => XS.bipush X61.here hx rfl (hb hby d2_29) k)
  show own_Go p e below PO (T61.setTop (mkF m 31 #[.val (.ref aG)] [(.int (16 : Int32)), (.ref aG)]))
  obtain ⟨T78, h78, k78, X78, e78, E78, A78, Ex78, st78⟩ := newPE X61 hx hZ (hw _ (List.mem_of_getElem? (i := 20) rfl)) e61 (g := (mkF m 31 #[.val (.ref aG)] [(.int (16 : Int32)), (.ref aG)])) rfl (hb hby d2_31) rfl (by decide) (cap := 16) (by decide) (by decide) (by decide) (by decide) (ad := "[D") (by decide)
  obtain ⟨b78, g78⟩ : ∃ z, z = h61.size := ⟨_, rfl⟩
  rw [← g78] at A78 Ex78 st78
  have ne_aG_b78 : aG ≠ b78 := Nat.ne_of_lt (Nat.lt_of_lt_of_le f61_64.lt (Nat.le_of_eq g78.symm))
  have ne_b16_b78 : b16 ≠ b78 := Nat.ne_of_lt (Nat.lt_of_lt_of_le f61_74.lt (Nat.le_of_eq g78.symm))
  have ne_b2_b78 : b2 ≠ b78 := Nat.ne_of_lt (Nat.lt_of_lt_of_le f61_62.lt (Nat.le_of_eq g78.symm))
  have ne_b45_b78 : b45 ≠ b78 := Nat.ne_of_lt (Nat.lt_of_lt_of_le f61_76.lt (Nat.le_of_eq g78.symm))
  have sz_b78 : h0.size ≤ b78 := Nat.le_trans K61.1 (Nat.le_of_eq g78.symm)
  have gn_b78 : n0 ≤ b78 := Nat.le_trans Z0 sz_b78
  have f78_79 := f61_62.ext E78
  have f78_80 := f61_63.ext E78
  have f78_81 := f61_64.ext E78
  have f78_82 := f61_65.ext E78
  have f78_83 := f61_66.ext E78
  have f78_84 := f61_67.ext E78
  have f78_85 := f61_68.ext E78
  have f78_86 := Fw61.ext E78
  have f78_87 := f61_69.ext E78
  have f78_88 := f61_70.ext E78
  have f78_89 := f61_71.ext E78
  have f78_90 := f61_72.ext E78
  have f78_91 := f61_73.ext E78
  have f78_92 := f61_74.ext E78
  have f78_93 := f61_75.ext E78
  have f78_94 := f61_76.ext E78
  have f78_95 := f61_77.ext E78
  have K78 : Keep h0 h78 [aG] := (K61).ext E78
  have Zh78 : n0 ≤ h78.size := Nat.le_trans Z0 K78.1
  have V78 : Arv Z h78 b78 k78 .double (16 : Int32) [] (.double (0 : UInt64)) := (Arv.new A78 (by decide))
  refine own_back ?_ st78
  show own_Go p e below PO (T78.setTop (mkF m 33 #[.val (.ref aG)] [(.ref b78), (.ref aG)]))
  obtain ⟨T96, h96, X96, e96, W96, st96⟩ := putF X78 hx hZ hown (host := "") (Or.inl (hw _ (List.mem_of_getElem? (i := 21) rfl))) Via.refl e78 f78_87 f78_81 (Or.inl (hw _ (List.mem_of_getElem? (i := 22) rfl))) (hw _ (List.mem_of_getElem? (i := 5) rfl)) (ty := (.array .double)) (by decide) rfl rfl (g := (mkF m 33 #[.val (.ref aG)] [(.ref b78), (.ref aG)])) rfl rfl (hb hby d2_33)
  have Fw96 := f78_87.same W96
  have f96_97 := f78_79.wr W96
  have f96_98 := f78_80.other W96 (Ne.symm ne_aG_b2)
  have f96_99 := f78_81.wr W96
  have f96_100 := f78_82.other W96 (Or.inr (slot_ne (Or.inl (hw _ (List.mem_of_getElem? (i := 37) rfl))) (Or.inl (hw _ (List.mem_of_getElem? (i := 22) rfl))) (by decide) (t := .int) (t' := (.array .double)) (by decide) (by decide)))
  have f96_101 := f78_83.other W96 (Or.inr (slot_ne (Or.inl (hw _ (List.mem_of_getElem? (i := 39) rfl))) (Or.inl (hw _ (List.mem_of_getElem? (i := 22) rfl))) (by decide) (t := .int) (t' := (.array .double)) (by decide) (by decide)))
  have f96_102 := f78_84.other W96 (Or.inr (slot_ne (Or.inl (hw _ (List.mem_of_getElem? (i := 15) rfl))) (Or.inl (hw _ (List.mem_of_getElem? (i := 22) rfl))) (by decide) (t := (.array .int)) (t' := (.array .double)) (by decide) (by decide)))
  have f96_103 := f78_85.other W96 (Or.inr (slot_ne (Or.inl (hw _ (List.mem_of_getElem? (i := 17) rfl))) (Or.inl (hw _ (List.mem_of_getElem? (i := 22) rfl))) (by decide) (t := (.array .int)) (t' := (.array .double)) (by decide) (by decide)))
  have f96_104 := f78_86.other W96 (Or.inr (slot_ne (Or.inl (hw _ (List.mem_of_getElem? (i := 19) rfl))) (Or.inl (hw _ (List.mem_of_getElem? (i := 22) rfl))) (by decide) (t := (.array .int)) (t' := (.array .double)) (by decide) (by decide)))
  have f96_105 := f78_88.other W96 (Or.inr (slot_ne (Or.inl (hw _ (List.mem_of_getElem? (i := 24) rfl))) (Or.inl (hw _ (List.mem_of_getElem? (i := 22) rfl))) (by decide) (t := (.array .int)) (t' := (.array .double)) (by decide) (by decide)))
  have f96_106 := f78_89.other W96 (Or.inr (slot_ne (Or.inl (hw _ (List.mem_of_getElem? (i := 26) rfl))) (Or.inl (hw _ (List.mem_of_getElem? (i := 22) rfl))) (by decide) (t := (.array .int)) (t' := (.array .double)) (by decide) (by decide)))
  have f96_107 := f78_90.other W96 (Or.inr (slot_ne (Or.inl (hw _ (List.mem_of_getElem? (i := 28) rfl))) (Or.inl (hw _ (List.mem_of_getElem? (i := 22) rfl))) (by decide) (t := (.array .int)) (t' := (.array .double)) (by decide) (by decide)))
  have f96_108 := f78_91.other W96 (Or.inr (slot_ne (Or.inl (hw _ (List.mem_of_getElem? (i := 30) rfl))) (Or.inl (hw _ (List.mem_of_getElem? (i := 22) rfl))) (by decide) (t := (.array .int)) (t' := (.array .double)) (by decide) (by decide)))
  have f96_109 := f78_92.wr W96
  have f96_110 := f78_93.other W96 (Ne.symm ne_aG_b16)
  have f96_111 := f78_94.wr W96
  have f96_112 := f78_95.other W96 (Ne.symm ne_aG_b45)
  have f96_113 := Ex78.wr W96
  have f96_114 := V78.other W96 (Ne.symm ne_aG_b78)
  have K96 : Keep h0 h96 [aG] := (K78).wr W96 (Or.inl (by simp))
  have N96 := Fr.snoc X96 N61 gn_aG
  have Zh96 : n0 ≤ h96.size := Nat.le_trans Z0 K96.1
  refine own_back ?_ st96
  show own_Go p e below PO (T96.setTop (mkF m 36 #[.val (.ref aG)] []))
  refine own_back ?_ (fun t k => XS.aloadN X96.here hx rfl (hb hby d2_36) rfl rfl k)
  show own_Go p e below PO (T96.setTop (mkF m 37 #[.val (.ref aG)] [(.ref aG)]))
  refine own_back ?_ (fun t k => XS.bipush X96.here hx rfl (hb hby d2_37) k)
  show own_Go p e below PO (T96.setTop (mkF m 39 #[.val (.ref aG)] [(.int (16 : Int32)), (.ref aG)]))
  obtain ⟨T115, h115, k115, X115, e115, E115, A115, Ex115, st115⟩ := newPE X96 hx hZ (hw _ (List.mem_of_getElem? (i := 13) rfl)) e96 (g := (mkF m 39 #[.val (.ref aG)] [(.int (16 : Int32)), (.ref aG)])) rfl (hb hby d2_39) rfl (by decide) (cap := 16) (by decide) (by decide) (by decide) (by decide) (ad := "[I") (by decide)
  obtain ⟨b115, g115⟩ : ∃ z, z = h96.size := ⟨_, rfl⟩
  rw [← g115] at A115 Ex115 st115
  have ne_aG_b115 : aG ≠ b115 := Nat.ne_of_lt (Nat.lt_of_lt_of_le f96_99.lt (Nat.le_of_eq g115.symm))
  have ne_b16_b115 : b16 ≠ b115 := Nat.ne_of_lt (Nat.lt_of_lt_of_le f96_109.lt (Nat.le_of_eq g115.symm))
  have ne_b2_b115 : b2 ≠ b115 := Nat.ne_of_lt (Nat.lt_of_lt_of_le f96_97.lt (Nat.le_of_eq g115.symm))
  have ne_b45_b115 : b45 ≠ b115 := Nat.ne_of_lt (Nat.lt_of_lt_of_le f96_111.lt (Nat.le_of_eq g115.symm))
  have ne_b78_b115 : b78 ≠ b115 := Nat.ne_of_lt (Nat.lt_of_lt_of_le f96_113.lt (Nat.le_of_eq g115.symm))
  have sz_b115 : h0.size ≤ b115 := Nat.le_trans K96.1 (Nat.le_of_eq g115.symm)
  have gn_b115 : n0 ≤ b115 := Nat.le_trans Z0 sz_b115
  have f115_116 := f96_97.ext E115
  have f115_117 := f96_98.ext E115
  have f115_118 := f96_99.ext E115
  have f115_119 := f96_100.ext E115
  have f115_120 := f96_101.ext E115
  have f115_121 := f96_102.ext E115
  have f115_122 := f96_103.ext E115
  have f115_123 := f96_104.ext E115
  have f115_124 := Fw96.ext E115
  have f115_125 := f96_105.ext E115
  have f115_126 := f96_106.ext E115
  have f115_127 := f96_107.ext E115
  have f115_128 := f96_108.ext E115
  have f115_129 := f96_109.ext E115
  have f115_130 := f96_110.ext E115
  have f115_131 := f96_111.ext E115
  have f115_132 := f96_112.ext E115
  have f115_133 := f96_113.ext E115
  have f115_134 := f96_114.ext E115
  have K115 : Keep h0 h115 [aG] := (K96).ext E115
  have Zh115 : n0 ≤ h115.size := Nat.le_trans Z0 K115.1
  have V115 : Arv Z h115 b115 k115 .int (16 : Int32) [] (.int (0 : Int32)) := (Arv.new A115 (by decide))
  refine own_back ?_ st115
  show own_Go p e below PO (T115.setTop (mkF m 41 #[.val (.ref aG)] [(.ref b115), (.ref aG)]))
  obtain ⟨T135, h135, X135, e135, W135, st135⟩ := putF X115 hx hZ hown (host := "") (Or.inl (hw _ (List.mem_of_getElem? (i := 23) rfl))) Via.refl e115 f115_125 f115_118 (Or.inl (hw _ (List.mem_of_getElem? (i := 24) rfl))) (hw _ (List.mem_of_getElem? (i := 5) rfl)) (ty := (.array .int)) (by decide) rfl rfl (g := (mkF m 41 #[.val (.ref aG)] [(.ref b115), (.ref aG)])) rfl rfl (hb hby d2_41)
  have Fw135 := f115_125.same W135
  have f135_136 := f115_116.wr W135
  have f135_137 := f115_117.other W135 (Ne.symm ne_aG_b2)
  have f135_138 := f115_118.wr W135
  have f135_139 := f115_119.other W135 (Or.inr (slot_ne (Or.inl (hw _ (List.mem_of_getElem? (i := 37) rfl))) (Or.inl (hw _ (List.mem_of_getElem? (i := 24) rfl))) (by decide) (t := .int) (t' := (.array .int)) (by decide) (by decide)))
  have f135_140 := f115_120.other W135 (Or.inr (slot_ne (Or.inl (hw _ (List.mem_of_getElem? (i := 39) rfl))) (Or.inl (hw _ (List.mem_of_getElem? (i := 24) rfl))) (by decide) (t := .int) (t' := (.array .int)) (by decide) (by decide)))
  have f135_141 := f115_121.other W135 (Or.inr (slot_ne (Or.inl (hw _ (List.mem_of_getElem? (i := 15) rfl))) (Or.inl (hw _ (List.mem_of_getElem? (i := 24) rfl))) (by decide) (t := (.array .int)) (t' := (.array .int)) (by decide) (by decide)))
  have f135_142 := f115_122.other W135 (Or.inr (slot_ne (Or.inl (hw _ (List.mem_of_getElem? (i := 17) rfl))) (Or.inl (hw _ (List.mem_of_getElem? (i := 24) rfl))) (by decide) (t := (.array .int)) (t' := (.array .int)) (by decide) (by decide)))
  have f135_143 := f115_123.other W135 (Or.inr (slot_ne (Or.inl (hw _ (List.mem_of_getElem? (i := 19) rfl))) (Or.inl (hw _ (List.mem_of_getElem? (i := 24) rfl))) (by decide) (t := (.array .int)) (t' := (.array .int)) (by decide) (by decide)))
  have f135_144 := f115_124.other W135 (Or.inr (slot_ne (Or.inl (hw _ (List.mem_of_getElem? (i := 22) rfl))) (Or.inl (hw _ (List.mem_of_getElem? (i := 24) rfl))) (by decide) (t := (.array .double)) (t' := (.array .int)) (by decide) (by decide)))
  have f135_145 := f115_126.other W135 (Or.inr (slot_ne (Or.inl (hw _ (List.mem_of_getElem? (i := 26) rfl))) (Or.inl (hw _ (List.mem_of_getElem? (i := 24) rfl))) (by decide) (t := (.array .int)) (t' := (.array .int)) (by decide) (by decide)))
  have f135_146 := f115_127.other W135 (Or.inr (slot_ne (Or.inl (hw _ (List.mem_of_getElem? (i := 28) rfl))) (Or.inl (hw _ (List.mem_of_getElem? (i := 24) rfl))) (by decide) (t := (.array .int)) (t' := (.array .int)) (by decide) (by decide)))
  have f135_147 := f115_128.other W135 (Or.inr (slot_ne (Or.inl (hw _ (List.mem_of_getElem? (i := 30) rfl))) (Or.inl (hw _ (List.mem_of_getElem? (i := 24) rfl))) (by decide) (t := (.array .int)) (t' := (.array .int)) (by decide) (by decide)))
  have f135_148 := f115_129.wr W135
  have f135_149 := f115_130.other W135 (Ne.symm ne_aG_b16)
  have f135_150 := f115_131.wr W135
  have f135_151 := f115_132.other W135 (Ne.symm ne_aG_b45)
  have f135_152 := f115_133.wr W135
  have f135_153 := f115_134.other W135 (Ne.symm ne_aG_b78)
  have f135_154 := Ex115.wr W135
  have f135_155 := V115.other W135 (Ne.symm ne_aG_b115)
  have K135 : Keep h0 h135 [aG] := (K115).wr W135 (Or.inl (by simp))
  have N135 := Fr.snoc X135 N96 gn_aG
  have Zh135 : n0 ≤ h135.size := Nat.le_trans Z0 K135.1
  refine own_back ?_ st135
  show own_Go p e below PO (T135.setTop (mkF m 44 #[.val (.ref aG)] []))
  refine own_back ?_ (fun t k => XS.aloadN X135.here hx rfl (hb hby d2_44) rfl rfl k)
  show own_Go p e below PO (T135.setTop (mkF m 45 #[.val (.ref aG)] [(.ref aG)]))
  refine own_back ?_ (fun t k => XS.bipush X135.here hx rfl (hb hby d2_45) k)
  show own_Go p e below PO (T135.setTop (mkF m 47 #[.val (.ref aG)] [(.int (16 : Int32)), (.ref aG)]))
  obtain ⟨T156, h156, k156, X156, e156, E156, A156, Ex156, st156⟩ := newPE X135 hx hZ (hw _ (List.mem_of_getElem? (i := 13) rfl)) e135 (g := (mkF m 47 #[.val (.ref aG)] [(.int (16 : Int32)), (.ref aG)])) rfl (hb hby d2_47) rfl (by decide) (cap := 16) (by decide) (by decide) (by decide) (by decide) (ad := "[I") (by decide)
  obtain ⟨b156, g156⟩ : ∃ z, z = h135.size := ⟨_, rfl⟩
  rw [← g156] at A156 Ex156 st156
  have ne_aG_b156 : aG ≠ b156 := Nat.ne_of_lt (Nat.lt_of_lt_of_le f135_138.lt (Nat.le_of_eq g156.symm))
  have ne_b115_b156 : b115 ≠ b156 := Nat.ne_of_lt (Nat.lt_of_lt_of_le f135_154.lt (Nat.le_of_eq g156.symm))
  have ne_b16_b156 : b16 ≠ b156 := Nat.ne_of_lt (Nat.lt_of_lt_of_le f135_148.lt (Nat.le_of_eq g156.symm))
  have ne_b2_b156 : b2 ≠ b156 := Nat.ne_of_lt (Nat.lt_of_lt_of_le f135_136.lt (Nat.le_of_eq g156.symm))
  have ne_b45_b156 : b45 ≠ b156 := Nat.ne_of_lt (Nat.lt_of_lt_of_le f135_150.lt (Nat.le_of_eq g156.symm))
  have ne_b78_b156 : b78 ≠ b156 := Nat.ne_of_lt (Nat.lt_of_lt_of_le f135_152.lt (Nat.le_of_eq g156.symm))
  have sz_b156 : h0.size ≤ b156 := Nat.le_trans K135.1 (Nat.le_of_eq g156.symm)
  have gn_b156 : n0 ≤ b156 := Nat.le_trans Z0 sz_b156
  have f156_157 := f135_136.ext E156
  have f156_158 := f135_137.ext E156
  have f156_159 := f135_138.ext E156
  have f156_160 := f135_139.ext E156
  have f156_161 := f135_140.ext E156
  have f156_162 := f135_141.ext E156
  have f156_163 := f135_142.ext E156
  have f156_164 := f135_143.ext E156
  have f156_165 := f135_144.ext E156
  have f156_166 := Fw135.ext E156
  have f156_167 := f135_145.ext E156
  have f156_168 := f135_146.ext E156
  have f156_169 := f135_147.ext E156
  have f156_170 := f135_148.ext E156
  have f156_171 := f135_149.ext E156
  have f156_172 := f135_150.ext E156
  have f156_173 := f135_151.ext E156
  have f156_174 := f135_152.ext E156
  have f156_175 := f135_153.ext E156
  have f156_176 := f135_154.ext E156
  have f156_177 := f135_155.ext E156
  have K156 : Keep h0 h156 [aG] := (K135).ext E156
  have Zh156 : n0 ≤ h156.size := Nat.le_trans Z0 K156.1
  have V156 : Arv Z h156 b156 k156 .int (16 : Int32) [] (.int (0 : Int32)) := (Arv.new A156 (by decide))
  refine own_back ?_ st156
  show own_Go p e below PO (T156.setTop (mkF m 49 #[.val (.ref aG)] [(.ref b156), (.ref aG)]))
  obtain ⟨T178, h178, X178, e178, W178, st178⟩ := putF X156 hx hZ hown (host := "") (Or.inl (hw _ (List.mem_of_getElem? (i := 25) rfl))) Via.refl e156 f156_167 f156_159 (Or.inl (hw _ (List.mem_of_getElem? (i := 26) rfl))) (hw _ (List.mem_of_getElem? (i := 5) rfl)) (ty := (.array .int)) (by decide) rfl rfl (g := (mkF m 49 #[.val (.ref aG)] [(.ref b156), (.ref aG)])) rfl rfl (hb hby d2_49)
  have Fw178 := f156_167.same W178
  have f178_179 := f156_157.wr W178
  have f178_180 := f156_158.other W178 (Ne.symm ne_aG_b2)
  have f178_181 := f156_159.wr W178
  have f178_182 := f156_160.other W178 (Or.inr (slot_ne (Or.inl (hw _ (List.mem_of_getElem? (i := 37) rfl))) (Or.inl (hw _ (List.mem_of_getElem? (i := 26) rfl))) (by decide) (t := .int) (t' := (.array .int)) (by decide) (by decide)))
  have f178_183 := f156_161.other W178 (Or.inr (slot_ne (Or.inl (hw _ (List.mem_of_getElem? (i := 39) rfl))) (Or.inl (hw _ (List.mem_of_getElem? (i := 26) rfl))) (by decide) (t := .int) (t' := (.array .int)) (by decide) (by decide)))
  have f178_184 := f156_162.other W178 (Or.inr (slot_ne (Or.inl (hw _ (List.mem_of_getElem? (i := 15) rfl))) (Or.inl (hw _ (List.mem_of_getElem? (i := 26) rfl))) (by decide) (t := (.array .int)) (t' := (.array .int)) (by decide) (by decide)))
  have f178_185 := f156_163.other W178 (Or.inr (slot_ne (Or.inl (hw _ (List.mem_of_getElem? (i := 17) rfl))) (Or.inl (hw _ (List.mem_of_getElem? (i := 26) rfl))) (by decide) (t := (.array .int)) (t' := (.array .int)) (by decide) (by decide)))
  have f178_186 := f156_164.other W178 (Or.inr (slot_ne (Or.inl (hw _ (List.mem_of_getElem? (i := 19) rfl))) (Or.inl (hw _ (List.mem_of_getElem? (i := 26) rfl))) (by decide) (t := (.array .int)) (t' := (.array .int)) (by decide) (by decide)))
  have f178_187 := f156_165.other W178 (Or.inr (slot_ne (Or.inl (hw _ (List.mem_of_getElem? (i := 22) rfl))) (Or.inl (hw _ (List.mem_of_getElem? (i := 26) rfl))) (by decide) (t := (.array .double)) (t' := (.array .int)) (by decide) (by decide)))
  have f178_188 := f156_166.other W178 (Or.inr (slot_ne (Or.inl (hw _ (List.mem_of_getElem? (i := 24) rfl))) (Or.inl (hw _ (List.mem_of_getElem? (i := 26) rfl))) (by decide) (t := (.array .int)) (t' := (.array .int)) (by decide) (by decide)))
  have f178_189 := f156_168.other W178 (Or.inr (slot_ne (Or.inl (hw _ (List.mem_of_getElem? (i := 28) rfl))) (Or.inl (hw _ (List.mem_of_getElem? (i := 26) rfl))) (by decide) (t := (.array .int)) (t' := (.array .int)) (by decide) (by decide)))
  have f178_190 := f156_169.other W178 (Or.inr (slot_ne (Or.inl (hw _ (List.mem_of_getElem? (i := 30) rfl))) (Or.inl (hw _ (List.mem_of_getElem? (i := 26) rfl))) (by decide) (t := (.array .int)) (t' := (.array .int)) (by decide) (by decide)))
  have f178_191 := f156_170.wr W178
  have f178_192 := f156_171.other W178 (Ne.symm ne_aG_b16)
  have f178_193 := f156_172.wr W178
  have f178_194 := f156_173.other W178 (Ne.symm ne_aG_b45)
  have f178_195 := f156_174.wr W178
  have f178_196 := f156_175.other W178 (Ne.symm ne_aG_b78)
  have f178_197 := f156_176.wr W178
  have f178_198 := f156_177.other W178 (Ne.symm ne_aG_b115)
  have f178_199 := Ex156.wr W178
  have f178_200 := V156.other W178 (Ne.symm ne_aG_b156)
  have K178 : Keep h0 h178 [aG] := (K156).wr W178 (Or.inl (by simp))
  have N178 := Fr.snoc X178 N135 gn_aG
  have Zh178 : n0 ≤ h178.size := Nat.le_trans Z0 K178.1
  refine own_back ?_ st178
  show own_Go p e below PO (T178.setTop (mkF m 52 #[.val (.ref aG)] []))
  refine own_back ?_ (fun t k => XS.aloadN X178.here hx rfl (hb hby d2_52) rfl rfl k)
  show own_Go p e below PO (T178.setTop (mkF m 53 #[.val (.ref aG)] [(.ref aG)]))
  refine own_back ?_ (fun t k => XS.bipush X178.here hx rfl (hb hby d2_53) k)
  show own_Go p e below PO (T178.setTop (mkF m 55 #[.val (.ref aG)] [(.int (16 : Int32)), (.ref aG)]))
  obtain ⟨T201, h201, k201, X201, e201, E201, A201, Ex201, st201⟩ := newPE X178 hx hZ (hw _ (List.mem_of_getElem? (i := 13) rfl)) e178 (g := (mkF m 55 #[.val (.ref aG)] [(.int (16 : Int32)), (.ref aG)])) rfl (hb hby d2_55) rfl (by decide) (cap := 16) (by decide) (by decide) (by decide) (by decide) (ad := "[I") (by decide)
  obtain ⟨b201, g201⟩ : ∃ z, z = h178.size := ⟨_, rfl⟩
  rw [← g201] at A201 Ex201 st201
  have ne_aG_b201 : aG ≠ b201 := Nat.ne_of_lt (Nat.lt_of_lt_of_le f178_181.lt (Nat.le_of_eq g201.symm))
  have ne_b115_b201 : b115 ≠ b201 := Nat.ne_of_lt (Nat.lt_of_lt_of_le f178_197.lt (Nat.le_of_eq g201.symm))
  have ne_b156_b201 : b156 ≠ b201 := Nat.ne_of_lt (Nat.lt_of_lt_of_le f178_199.lt (Nat.le_of_eq g201.symm))
  have ne_b16_b201 : b16 ≠ b201 := Nat.ne_of_lt (Nat.lt_of_lt_of_le f178_191.lt (Nat.le_of_eq g201.symm))
  have ne_b2_b201 : b2 ≠ b201 := Nat.ne_of_lt (Nat.lt_of_lt_of_le f178_179.lt (Nat.le_of_eq g201.symm))
  have ne_b45_b201 : b45 ≠ b201 := Nat.ne_of_lt (Nat.lt_of_lt_of_le f178_193.lt (Nat.le_of_eq g201.symm))
  have ne_b78_b201 : b78 ≠ b201 := Nat.ne_of_lt (Nat.lt_of_lt_of_le f178_195.lt (Nat.le_of_eq g201.symm))
  have sz_b201 : h0.size ≤ b201 := Nat.le_trans K178.1 (Nat.le_of_eq g201.symm)
  have gn_b201 : n0 ≤ b201 := Nat.le_trans Z0 sz_b201
  have f201_202 := f178_179.ext E201
  have f201_203 := f178_180.ext E201
  have f201_204 := f178_181.ext E201
  have f201_205 := f178_182.ext E201
  have f201_206 := f178_183.ext E201
  have f201_207 := f178_184.ext E201
  have f201_208 := f178_185.ext E201
  have f201_209 := f178_186.ext E201
  have f201_210 := f178_187.ext E201
  have f201_211 := f178_188.ext E201
  have f201_212 := Fw178.ext E201
  have f201_213 := f178_189.ext E201
  have f201_214 := f178_190.ext E201
  have f201_215 := f178_191.ext E201
  have f201_216 := f178_192.ext E201
  have f201_217 := f178_193.ext E201
  have f201_218 := f178_194.ext E201
  have f201_219 := f178_195.ext E201
  have f201_220 := f178_196.ext E201
  have f201_221 := f178_197.ext E201
  have f201_222 := f178_198.ext E201
  have f201_223 := f178_199.ext E201
  have f201_224 := f178_200.ext E201
  have K201 : Keep h0 h201 [aG] := (K178).ext E201
  have Zh201 : n0 ≤ h201.size := Nat.le_trans Z0 K201.1
  have V201 : Arv Z h201 b201 k201 .int (16 : Int32) [] (.int (0 : Int32)) := (Arv.new A201 (by decide))
  refine own_back ?_ st201
  show own_Go p e below PO (T201.setTop (mkF m 57 #[.val (.ref aG)] [(.ref b201), (.ref aG)]))
  obtain ⟨T225, h225, X225, e225, W225, st225⟩ := putF X201 hx hZ hown (host := "") (Or.inl (hw _ (List.mem_of_getElem? (i := 27) rfl))) Via.refl e201 f201_213 f201_204 (Or.inl (hw _ (List.mem_of_getElem? (i := 28) rfl))) (hw _ (List.mem_of_getElem? (i := 5) rfl)) (ty := (.array .int)) (by decide) rfl rfl (g := (mkF m 57 #[.val (.ref aG)] [(.ref b201), (.ref aG)])) rfl rfl (hb hby d2_57)
  have Fw225 := f201_213.same W225
  have f225_226 := f201_202.wr W225
  have f225_227 := f201_203.other W225 (Ne.symm ne_aG_b2)
  have f225_228 := f201_204.wr W225
  have f225_229 := f201_205.other W225 (Or.inr (slot_ne (Or.inl (hw _ (List.mem_of_getElem? (i := 37) rfl))) (Or.inl (hw _ (List.mem_of_getElem? (i := 28) rfl))) (by decide) (t := .int) (t' := (.array .int)) (by decide) (by decide)))
  have f225_230 := f201_206.other W225 (Or.inr (slot_ne (Or.inl (hw _ (List.mem_of_getElem? (i := 39) rfl))) (Or.inl (hw _ (List.mem_of_getElem? (i := 28) rfl))) (by decide) (t := .int) (t' := (.array .int)) (by decide) (by decide)))
  have f225_231 := f201_207.other W225 (Or.inr (slot_ne (Or.inl (hw _ (List.mem_of_getElem? (i := 15) rfl))) (Or.inl (hw _ (List.mem_of_getElem? (i := 28) rfl))) (by decide) (t := (.array .int)) (t' := (.array .int)) (by decide) (by decide)))
  have f225_232 := f201_208.other W225 (Or.inr (slot_ne (Or.inl (hw _ (List.mem_of_getElem? (i := 17) rfl))) (Or.inl (hw _ (List.mem_of_getElem? (i := 28) rfl))) (by decide) (t := (.array .int)) (t' := (.array .int)) (by decide) (by decide)))
  have f225_233 := f201_209.other W225 (Or.inr (slot_ne (Or.inl (hw _ (List.mem_of_getElem? (i := 19) rfl))) (Or.inl (hw _ (List.mem_of_getElem? (i := 28) rfl))) (by decide) (t := (.array .int)) (t' := (.array .int)) (by decide) (by decide)))
  have f225_234 := f201_210.other W225 (Or.inr (slot_ne (Or.inl (hw _ (List.mem_of_getElem? (i := 22) rfl))) (Or.inl (hw _ (List.mem_of_getElem? (i := 28) rfl))) (by decide) (t := (.array .double)) (t' := (.array .int)) (by decide) (by decide)))
  have f225_235 := f201_211.other W225 (Or.inr (slot_ne (Or.inl (hw _ (List.mem_of_getElem? (i := 24) rfl))) (Or.inl (hw _ (List.mem_of_getElem? (i := 28) rfl))) (by decide) (t := (.array .int)) (t' := (.array .int)) (by decide) (by decide)))
  have f225_236 := f201_212.other W225 (Or.inr (slot_ne (Or.inl (hw _ (List.mem_of_getElem? (i := 26) rfl))) (Or.inl (hw _ (List.mem_of_getElem? (i := 28) rfl))) (by decide) (t := (.array .int)) (t' := (.array .int)) (by decide) (by decide)))
  have f225_237 := f201_214.other W225 (Or.inr (slot_ne (Or.inl (hw _ (List.mem_of_getElem? (i := 30) rfl))) (Or.inl (hw _ (List.mem_of_getElem? (i := 28) rfl))) (by decide) (t := (.array .int)) (t' := (.array .int)) (by decide) (by decide)))
  have f225_238 := f201_215.wr W225
  have f225_239 := f201_216.other W225 (Ne.symm ne_aG_b16)
  have f225_240 := f201_217.wr W225
  have f225_241 := f201_218.other W225 (Ne.symm ne_aG_b45)
  have f225_242 := f201_219.wr W225
  have f225_243 := f201_220.other W225 (Ne.symm ne_aG_b78)
  have f225_244 := f201_221.wr W225
  have f225_245 := f201_222.other W225 (Ne.symm ne_aG_b115)
  have f225_246 := f201_223.wr W225
  have f225_247 := f201_224.other W225 (Ne.symm ne_aG_b156)
  have f225_248 := Ex201.wr W225
  have f225_249 := V201.other W225 (Ne.symm ne_aG_b201)
  have K225 : Keep h0 h225 [aG] := (K201).wr W225 (Or.inl (by simp))
  have N225 := Fr.snoc X225 N178 gn_aG
  have Zh225 : n0 ≤ h225.size := Nat.le_trans Z0 K225.1
  refine own_back ?_ st225
  show own_Go p e below PO (T225.setTop (mkF m 60 #[.val (.ref aG)] []))
  refine own_back ?_ (fun t k => XS.aloadN X225.here hx rfl (hb hby d2_60) rfl rfl k)
  show own_Go p e below PO (T225.setTop (mkF m 61 #[.val (.ref aG)] [(.ref aG)]))
  refine own_back ?_ (fun t k => XS.bipush X225.here hx rfl (hb hby d2_61) k)
  show own_Go p e below PO (T225.setTop (mkF m 63 #[.val (.ref aG)] [(.int (16 : Int32)), (.ref aG)]))
  obtain ⟨T250, h250, k250, X250, e250, E250, A250, Ex250, st250⟩ := newPE X225 hx hZ (hw _ (List.mem_of_getElem? (i := 13) rfl)) e225 (g := (mkF m 63 #[.val (.ref aG)] [(.int (16 : Int32)), (.ref aG)])) rfl (hb hby d2_63) rfl (by decide) (cap := 16) (by decide) (by decide) (by decide) (by decide) (ad := "[I") (by decide)
  obtain ⟨b250, g250⟩ : ∃ z, z = h225.size := ⟨_, rfl⟩
  rw [← g250] at A250 Ex250 st250
  have ne_aG_b250 : aG ≠ b250 := Nat.ne_of_lt (Nat.lt_of_lt_of_le f225_228.lt (Nat.le_of_eq g250.symm))
  have ne_b115_b250 : b115 ≠ b250 := Nat.ne_of_lt (Nat.lt_of_lt_of_le f225_244.lt (Nat.le_of_eq g250.symm))
  have ne_b156_b250 : b156 ≠ b250 := Nat.ne_of_lt (Nat.lt_of_lt_of_le f225_246.lt (Nat.le_of_eq g250.symm))
  have ne_b16_b250 : b16 ≠ b250 := Nat.ne_of_lt (Nat.lt_of_lt_of_le f225_238.lt (Nat.le_of_eq g250.symm))
  have ne_b2_b250 : b2 ≠ b250 := Nat.ne_of_lt (Nat.lt_of_lt_of_le f225_226.lt (Nat.le_of_eq g250.symm))
  have ne_b201_b250 : b201 ≠ b250 := Nat.ne_of_lt (Nat.lt_of_lt_of_le f225_248.lt (Nat.le_of_eq g250.symm))
  have ne_b45_b250 : b45 ≠ b250 := Nat.ne_of_lt (Nat.lt_of_lt_of_le f225_240.lt (Nat.le_of_eq g250.symm))
  have ne_b78_b250 : b78 ≠ b250 := Nat.ne_of_lt (Nat.lt_of_lt_of_le f225_242.lt (Nat.le_of_eq g250.symm))
  have sz_b250 : h0.size ≤ b250 := Nat.le_trans K225.1 (Nat.le_of_eq g250.symm)
  have gn_b250 : n0 ≤ b250 := Nat.le_trans Z0 sz_b250
  have f250_251 := f225_226.ext E250
  have f250_252 := f225_227.ext E250
  have f250_253 := f225_228.ext E250
  have f250_254 := f225_229.ext E250
  have f250_255 := f225_230.ext E250
  have f250_256 := f225_231.ext E250
  have f250_257 := f225_232.ext E250
  have f250_258 := f225_233.ext E250
  have f250_259 := f225_234.ext E250
  have f250_260 := f225_235.ext E250
  have f250_261 := f225_236.ext E250
  have f250_262 := Fw225.ext E250
  have f250_263 := f225_237.ext E250
  have f250_264 := f225_238.ext E250
  have f250_265 := f225_239.ext E250
  have f250_266 := f225_240.ext E250
  have f250_267 := f225_241.ext E250
  have f250_268 := f225_242.ext E250
  have f250_269 := f225_243.ext E250
  have f250_270 := f225_244.ext E250
  have f250_271 := f225_245.ext E250
  have f250_272 := f225_246.ext E250
  have f250_273 := f225_247.ext E250
  have f250_274 := f225_248.ext E250
  have f250_275 := f225_249.ext E250
  have K250 : Keep h0 h250 [aG] := (K225).ext E250
  have Zh250 : n0 ≤ h250.size := Nat.le_trans Z0 K250.1
  have V250 : Arv Z h250 b250 k250 .int (16 : Int32) [] (.int (0 : Int32)) := (Arv.new A250 (by decide))
  refine own_back ?_ st250
  show own_Go p e below PO (T250.setTop (mkF m 65 #[.val (.ref aG)] [(.ref b250), (.ref aG)]))
  obtain ⟨T276, h276, X276, e276, W276, st276⟩ := putF X250 hx hZ hown (host := "") (Or.inl (hw _ (List.mem_of_getElem? (i := 29) rfl))) Via.refl e250 f250_263 f250_253 (Or.inl (hw _ (List.mem_of_getElem? (i := 30) rfl))) (hw _ (List.mem_of_getElem? (i := 5) rfl)) (ty := (.array .int)) (by decide) rfl rfl (g := (mkF m 65 #[.val (.ref aG)] [(.ref b250), (.ref aG)])) rfl rfl (hb hby d2_65)
  have Fw276 := f250_263.same W276
  have f276_277 := f250_251.wr W276
  have f276_278 := f250_252.other W276 (Ne.symm ne_aG_b2)
  have f276_279 := f250_253.wr W276
  have f276_280 := f250_254.other W276 (Or.inr (slot_ne (Or.inl (hw _ (List.mem_of_getElem? (i := 37) rfl))) (Or.inl (hw _ (List.mem_of_getElem? (i := 30) rfl))) (by decide) (t := .int) (t' := (.array .int)) (by decide) (by decide)))
  have f276_281 := f250_255.other W276 (Or.inr (slot_ne (Or.inl (hw _ (List.mem_of_getElem? (i := 39) rfl))) (Or.inl (hw _ (List.mem_of_getElem? (i := 30) rfl))) (by decide) (t := .int) (t' := (.array .int)) (by decide) (by decide)))
  have f276_282 := f250_256.other W276 (Or.inr (slot_ne (Or.inl (hw _ (List.mem_of_getElem? (i := 15) rfl))) (Or.inl (hw _ (List.mem_of_getElem? (i := 30) rfl))) (by decide) (t := (.array .int)) (t' := (.array .int)) (by decide) (by decide)))
  have f276_283 := f250_257.other W276 (Or.inr (slot_ne (Or.inl (hw _ (List.mem_of_getElem? (i := 17) rfl))) (Or.inl (hw _ (List.mem_of_getElem? (i := 30) rfl))) (by decide) (t := (.array .int)) (t' := (.array .int)) (by decide) (by decide)))
  have f276_284 := f250_258.other W276 (Or.inr (slot_ne (Or.inl (hw _ (List.mem_of_getElem? (i := 19) rfl))) (Or.inl (hw _ (List.mem_of_getElem? (i := 30) rfl))) (by decide) (t := (.array .int)) (t' := (.array .int)) (by decide) (by decide)))
  have f276_285 := f250_259.other W276 (Or.inr (slot_ne (Or.inl (hw _ (List.mem_of_getElem? (i := 22) rfl))) (Or.inl (hw _ (List.mem_of_getElem? (i := 30) rfl))) (by decide) (t := (.array .double)) (t' := (.array .int)) (by decide) (by decide)))
  have f276_286 := f250_260.other W276 (Or.inr (slot_ne (Or.inl (hw _ (List.mem_of_getElem? (i := 24) rfl))) (Or.inl (hw _ (List.mem_of_getElem? (i := 30) rfl))) (by decide) (t := (.array .int)) (t' := (.array .int)) (by decide) (by decide)))
  have f276_287 := f250_261.other W276 (Or.inr (slot_ne (Or.inl (hw _ (List.mem_of_getElem? (i := 26) rfl))) (Or.inl (hw _ (List.mem_of_getElem? (i := 30) rfl))) (by decide) (t := (.array .int)) (t' := (.array .int)) (by decide) (by decide)))
  have f276_288 := f250_262.other W276 (Or.inr (slot_ne (Or.inl (hw _ (List.mem_of_getElem? (i := 28) rfl))) (Or.inl (hw _ (List.mem_of_getElem? (i := 30) rfl))) (by decide) (t := (.array .int)) (t' := (.array .int)) (by decide) (by decide)))
  have f276_289 := f250_264.wr W276
  have f276_290 := f250_265.other W276 (Ne.symm ne_aG_b16)
  have f276_291 := f250_266.wr W276
  have f276_292 := f250_267.other W276 (Ne.symm ne_aG_b45)
  have f276_293 := f250_268.wr W276
  have f276_294 := f250_269.other W276 (Ne.symm ne_aG_b78)
  have f276_295 := f250_270.wr W276
  have f276_296 := f250_271.other W276 (Ne.symm ne_aG_b115)
  have f276_297 := f250_272.wr W276
  have f276_298 := f250_273.other W276 (Ne.symm ne_aG_b156)
  have f276_299 := f250_274.wr W276
  have f276_300 := f250_275.other W276 (Ne.symm ne_aG_b201)
  have f276_301 := Ex250.wr W276
  have f276_302 := V250.other W276 (Ne.symm ne_aG_b250)
  have K276 : Keep h0 h276 [aG] := (K250).wr W276 (Or.inl (by simp))
  have N276 := Fr.snoc X276 N225 gn_aG
  have Zh276 : n0 ≤ h276.size := Nat.le_trans Z0 K276.1
  refine own_back ?_ st276
  show own_Go p e below PO (T276.setTop (mkF m 68 #[.val (.ref aG)] []))
  refine own_retV X276 hx Bd.returns (hb hby d2_68) e276 (Bd.notSynchronized) ?_ (by decide) (by decide)
  exact ⟨rfl, N276, K276, b2, b16, b45, b78, b115, b156, b201, b250, k2, k16, k45, k78, k115, k156, k201, k250, ⟨⟨gn_aG, gn_b2, gn_b16, gn_b45, gn_b78, gn_b115, gn_b156, gn_b201, gn_b250⟩, ne_aG_b2, ne_aG_b16, ne_aG_b45, ne_aG_b78, ne_aG_b115, ne_aG_b156, ne_aG_b201, ne_aG_b250, ne_b2_b16, ne_b2_b45, ne_b2_b78, ne_b2_b115, ne_b2_b156, ne_b2_b201, ne_b2_b250, ne_b16_b45, ne_b16_b78, ne_b16_b115, ne_b16_b156, ne_b16_b201, ne_b16_b250, ne_b45_b78, ne_b45_b115, ne_b45_b156, ne_b45_b201, ne_b45_b250, ne_b78_b115, ne_b78_b156, ne_b78_b201, ne_b78_b250, ne_b115_b156, ne_b115_b201, ne_b115_b250, ne_b156_b201, ne_b156_b250, ne_b201_b250⟩, ⟨f276_279, f276_280, f276_281, f276_282, f276_283, f276_284, f276_285, f276_286, f276_287, f276_288, Fw276, f276_278.pad own_pi0, f276_290.pad own_pi0, f276_292.pad own_pi0, f276_294.pad own_pd0, f276_296.pad own_pi0, f276_298.pad own_pi0, f276_300.pad own_pi0, f276_302.pad own_pi0⟩⟩
theorem d5_0 : decode prog_25_method_3_code 0 = .ok (.aload_n 0, 1) := by decide +kernel
theorem d5_1 : decode prog_25_method_3_code 1 = .ok (.getfield 35, 3) := by decide +kernel
theorem d5_4 : decode prog_25_method_3_code 4 = .ok (.aload_n 0, 1) := by decide +kernel
theorem d5_5 : decode prog_25_method_3_code 5 = .ok (.getfield 7, 3) := by decide +kernel
theorem d5_8 : decode prog_25_method_3_code 8 = .ok (.arraylength, 1) := by decide +kernel
theorem d5_9 : decode prog_25_method_3_code 9 = .ok (.if_icmp .ne 70, 3) := by decide +kernel
theorem d5_79 : decode prog_25_method_3_code 79 = .ok (.aload_n 0, 1) := by decide +kernel
theorem d5_80 : decode prog_25_method_3_code 80 = .ok (.getfield 7, 3) := by decide +kernel
theorem d5_83 : decode prog_25_method_3_code 83 = .ok (.aload_n 0, 1) := by decide +kernel
theorem d5_84 : decode prog_25_method_3_code 84 = .ok (.getfield 35, 3) := by decide +kernel
theorem d5_87 : decode prog_25_method_3_code 87 = .ok (.iconst (-1), 1) := by decide +kernel
theorem d5_88 : decode prog_25_method_3_code 88 = .ok (.iastore, 1) := by decide +kernel
theorem d5_89 : decode prog_25_method_3_code 89 = .ok (.aload_n 0, 1) := by decide +kernel
theorem d5_90 : decode prog_25_method_3_code 90 = .ok (.dup, 1) := by decide +kernel
theorem d5_91 : decode prog_25_method_3_code 91 = .ok (.getfield 35, 3) := by decide +kernel
theorem d5_94 : decode prog_25_method_3_code 94 = .ok (.dup_x1, 1) := by decide +kernel
theorem d5_95 : decode prog_25_method_3_code 95 = .ok (.iconst 1, 1) := by decide +kernel
theorem d5_96 : decode prog_25_method_3_code 96 = .ok (.iadd, 1) := by decide +kernel
theorem d5_97 : decode prog_25_method_3_code 97 = .ok (.putfield 35, 3) := by decide +kernel
theorem d5_100 : decode prog_25_method_3_code 100 = .ok (.ireturn, 1) := by decide +kernel
theorem ef_rmNode_0 (m : MethodId) (x0 : Addr) : entryFrame m #[(.ref x0)] 2 = mkF m 0 #[.val (.ref x0), .unset] [] := by first | (simp [entryFrame, mkF, argsToLocals, Value.category]; done) | rfl
def Q_rmNode_0 (Z : State) (aG aF aN aH aR aL aA aQ aP : Addr) (kF kN kH kR kL kA kQ kP : ClassId) (fst nxt hd rm lev arc que pth : Int → Int) (h0 : Heap) (n0 : Nat) (v : Option Value) (h : Heap) (L : List Loc) : Prop := v = some (.int (0 : Int32)) ∧ Fr n0 L ∧ Keep h0 h [aG, aF, aN, aH, aR, aL, aA, aQ, aP] ∧ own_S Z h aG aF aN aH aR aL aA aQ aP kF kN kH kR kL kA kQ kP (1 : Int32) (0 : Int32) (own_up fst 0 (-1)) nxt hd rm lev arc que pth
set_option maxRecDepth 65536 in
set_option maxHeartbeats 40000000 in
theorem rmNode_0 (l : Launch) (Z : State) (a0 : Array Value) (hw : ∀ d ∈ tables_1, d.before a0 Z = true) (ws : List Jvm.Cond) (aG : Addr) (aF aN aH aR aL aA aQ aP : Addr) (kF kN kH kR kL kA kQ kP : ClassId) (fst nxt hd rm lev arc que pth : Int → Int) (h0 : Heap) (n0 : Nat) (Z0 : n0 ≤ h0.size) (hNE : own_NE n0 aG aF aN aH aR aL aA aQ aP) (hS : own_S Z h0 aG aF aN aH aR aL aA aQ aP kF kN kH kR kL kA kQ kP (0 : Int32) (0 : Int32) fst nxt hd rm lev arc que pth) :
    MetFree l (⟨"com/example/nearbound/nearbound/graph/MinCut", "addNode", "()I"⟩ : MethodName) (head1 (Jvm.Cond.code (⟨"com/example/nearbound/nearbound/graph/MinCut", "addNode", "()I"⟩ : MethodName) prog_25_method_3_code 2 (some .int) :: ws) ({ frames := 0, cells := 0, slots := 0, locals := 0 } : Room)) (fun a U => a = #[(.ref aG)] ∧ Z.Warmed39 U.vm ∧ U.heap = h0) (fun _ _ _ _ _ => True) (fun _ U o U' => ∃ v L, o = .returned v ∧ Q_rmNode_0 Z aG aF aN aH aR aL aA aQ aP kF kN kH kR kL kA kQ kP fst nxt hd rm lev arc que pth h0 n0 v U'.heap L ∧ FrameEnd U o U' L ({ frames := 0, cells := 0, slots := 0, locals := 0 } : Room).cells ({ frames := 0, cells := 0, slots := 0, locals := 0 } : Room).slots) := by
  refine MetFree.of_bodySF (plainFor_of_name pn_2) hisR ?_
  intro p e s m args below meth c s₁ Bd hml0 hP hK
  obtain ⟨rfl, hZ, hh⟩ := hP
  have hx := Bd.exec
  have hby := Bd.bytes
  have hml : c.maxLocals = 2 := hml0
  have hown : s.vm.findClass "com/example/nearbound/nearbound/graph/MinCut" = some m.cls := findClass_of_methodNamed Bd.named
  have hnm := (name_of_methodNamed Bd.named Bd.method).1
  have X0 : Stand p l e ({ frames := 0, cells := 0, slots := 0, locals := 0 } : Room) s m #[(.ref aG)] below meth c s₁ [] 0 0 := Stand.of_body Bd
  have e0 : s₁.heap = h0 := by rw [← hh, Bd.state]; rfl
  have N0 := Fr.nil n0
  let PO : Outcome → State → Prop := own_PO s (Q_rmNode_0 Z aG aF aN aH aR aL aA aQ aP kF kN kH kR kL kA kQ kP fst nxt hd rm lev arc que pth h0 n0) 0 0
  show own_Go p e below PO (s₁.setTop (entryFrame m #[(.ref aG)] 2))
  rw [ef_rmNode_0]
  obtain ⟨gn_aG, gn_aF, gn_aN, gn_aH, gn_aR, gn_aL, gn_aA, gn_aQ, gn_aP⟩ := hNE.1
  have hS' := hS
  obtain ⟨E_G, F_nodeCount, F_edgeCount, F_first, F_next, F_head, F_room, F_level, F_arc, F_queue, F_path, V_F, V_N, V_H, V_R, V_L, V_A, V_Q, V_P⟩ := hS'
  have K0 : Keep h0 h0 [aG, aF, aN, aH, aR, aL, aA, aQ, aP] := Keep.refl h0 _
  show own_Go p e below PO (s₁.setTop (mkF m 0 #[.val (.ref aG), .unset] []))
  refine own_back ?_ (fun t k => XS.aloadN X0.here hx rfl (hb hby d5_0) rfl rfl k)
  show own_Go p e below PO (s₁.setTop (mkF m 1 #[.val (.ref aG), .unset] [(.ref aG)]))
  obtain ⟨T1, X1, e1, st1⟩ := getF X0 hx hZ hown (host := "") (Or.inl (hw _ (List.mem_of_getElem? (i := 36) rfl))) Via.refl e0 F_nodeCount (g := (mkF m 1 #[.val (.ref aG), .unset] [(.ref aG)])) rfl rfl (hb hby d5_1)
  refine own_back ?_ st1
  show own_Go p e below PO (T1.setTop (mkF m 4 #[.val (.ref aG), .unset] [(.int (0 : Int32))]))
  refine own_back ?_ (fun t k => XS.aloadN X1.here hx rfl (hb hby d5_4) rfl rfl k)
  show own_Go p e below PO (T1.setTop (mkF m 5 #[.val (.ref aG), .unset] [(.ref aG), (.int (0 : Int32))]))
  obtain ⟨T2, X2, e2, st2⟩ := getF X1 hx hZ hown (host := "") (Or.inl (hw _ (List.mem_of_getElem? (i := 14) rfl))) Via.refl e1 F_first (g := (mkF m 5 #[.val (.ref aG), .unset] [(.ref aG), (.int (0 : Int32))])) rfl rfl (hb hby d5_5)
  refine own_back ?_ st2
  show own_Go p e below PO (T2.setTop (mkF m 8 #[.val (.ref aG), .unset] [(.ref aF), (.int (0 : Int32))]))
  refine own_back ?_ (own_len X2 hx hZ e2 V_F (g := (mkF m 8 #[.val (.ref aG), .unset] [(.ref aF), (.int (0 : Int32))])) rfl rfl (hb hby d5_8))
  show own_Go p e below PO (T2.setTop (mkF m 9 #[.val (.ref aG), .unset] [(.int (16 : Int32)), (.int (0 : Int32))]))
  have hd9_3 : ¬ ((0 : Int32) = (16 : Int32)) := (by decide)
  refine own_back ?_ (fun t k => XS.icmpYes X2.here hx rfl (pc0 := 9) (pc' := 79) rfl (hb hby d5_9) rfl (feq hd9_3).2 (by decide) (by decide) k)
  show own_Go p e below PO (T2.setTop (mkF m 79 #[.val (.ref aG), .unset] []))
  refine own_back ?_ (fun t k => XS.aloadN X2.here hx rfl (hb hby d5_79) rfl rfl k)
  show own_Go p e below PO (T2.setTop (mkF m 80 #[.val (.ref aG), .unset] [(.ref aG)]))
  obtain ⟨T4, X4, e4, st4⟩ := getF X2 hx hZ hown (host := "") (Or.inl (hw _ (List.mem_of_getElem? (i := 14) rfl))) Via.refl e2 F_first (g := (mkF m 80 #[.val (.ref aG), .unset] [(.ref aG)])) rfl rfl (hb hby d5_80)
  refine own_back ?_ st4
  show own_Go p e below PO (T4.setTop (mkF m 83 #[.val (.ref aG), .unset] [(.ref aF)]))
  refine own_back ?_ (fun t k => XS.aloadN X4.here hx rfl (hb hby d5_83) rfl rfl k)
  show own_Go p e below PO (T4.setTop (mkF m 84 #[.val (.ref aG), .unset] [(.ref aG), (.ref aF)]))
  obtain ⟨T5, X5, e5, st5⟩ := getF X4 hx hZ hown (host := "") (Or.inl (hw _ (List.mem_of_getElem? (i := 36) rfl))) Via.refl e4 F_nodeCount (g := (mkF m 84 #[.val (.ref aG), .unset] [(.ref aG), (.ref aF)])) rfl rfl (hb hby d5_84)
  refine own_back ?_ st5
  show own_Go p e below PO (T5.setTop (mkF m 87 #[.val (.ref aG), .unset] [(.int (0 : Int32)), (.ref aF)]))
  refine own_back ?_ (fun t k => XS.iconst X5.here hx rfl (hb hby d5_87) k)
  show own_Go p e below PO (T5.setTop (mkF m 88 #[.val (.ref aG), .unset] [(.int (-1 : Int32)), (.int (0 : Int32)), (.ref aF)]))
  obtain ⟨T6, h6, X6, e6, W6, V6, st6⟩ := own_stI X5 hx hZ e5 V_F (j := (0 : Int32)) ⟨by decide, by decide⟩ (i := 0) rfl (own_ixk _ (by decide)) (g := (mkF m 88 #[.val (.ref aG), .unset] [(.int (-1 : Int32)), (.int (0 : Int32)), (.ref aF)])) rfl rfl (hb hby d5_88)
  rw [own_setk (x := (-1)) 0 0 (by omega) (by decide) own_im1.symm] at V6
  have f6_7 := E_G.wr W6
  have f6_8 := F_nodeCount.other W6 (Or.inl (own_ne_aG_aF hNE))
  have f6_9 := F_edgeCount.other W6 (Or.inl (own_ne_aG_aF hNE))
  have f6_10 := F_first.other W6 (Or.inl (own_ne_aG_aF hNE))
  have f6_11 := F_next.other W6 (Or.inl (own_ne_aG_aF hNE))
  have f6_12 := F_head.other W6 (Or.inl (own_ne_aG_aF hNE))
  have f6_13 := F_room.other W6 (Or.inl (own_ne_aG_aF hNE))
  have f6_14 := F_level.other W6 (Or.inl (own_ne_aG_aF hNE))
  have f6_15 := F_arc.other W6 (Or.inl (own_ne_aG_aF hNE))
  have f6_16 := F_queue.other W6 (Or.inl (own_ne_aG_aF hNE))
  have f6_17 := F_path.other W6 (Or.inl (own_ne_aG_aF hNE))
  have f6_18 := V_N.other W6 (Ne.symm (own_ne_aF_aN hNE))
  have f6_19 := V_H.other W6 (Ne.symm (own_ne_aF_aH hNE))
  have f6_20 := V_R.other W6 (Ne.symm (own_ne_aF_aR hNE))
  have f6_21 := V_L.other W6 (Ne.symm (own_ne_aF_aL hNE))
  have f6_22 := V_A.other W6 (Ne.symm (own_ne_aF_aA hNE))
  have f6_23 := V_Q.other W6 (Ne.symm (own_ne_aF_aQ hNE))
  have f6_24 := V_P.other W6 (Ne.symm (own_ne_aF_aP hNE))
  have K6 : Keep h0 h6 [aG, aF, aN, aH, aR, aL, aA, aQ, aP] := (K0).wr W6 (Or.inl (by simp))
  have N6 := Fr.snoc X6 N0 gn_aF
  have Zh6 : n0 ≤ h6.size := Nat.le_trans Z0 K6.1
  refine own_back ?_ st6
  show own_Go p e below PO (T6.setTop (mkF m 89 #[.val (.ref aG), .unset] []))
  refine own_back ?_ (fun t k => XS.aloadN X6.here hx rfl (hb hby d5_89) rfl rfl k)
  show own_Go p e below PO (T6.setTop (mkF m 90 #[.val (.ref aG), .unset] [(.ref aG)]))
  refine own_back ?_ (fun t k => XS.dup X6.here hx rfl (hb hby d5_90) rfl rfl k)
  show own_Go p e below PO (T6.setTop (mkF m 91 #[.val (.ref aG), .unset] [(.ref aG), (.ref aG)]))
  obtain ⟨T25, X25, e25, st25⟩ := getF X6 hx hZ hown (host := "") (Or.inl (hw _ (List.mem_of_getElem? (i := 36) rfl))) Via.refl e6 f6_8 (g := (mkF m 91 #[.val (.ref aG), .unset] [(.ref aG), (.ref aG)])) rfl rfl (hb hby d5_91)
  refine own_back ?_ st25
  show own_Go p e below PO (T25.setTop (mkF m 94 #[.val (.ref aG), .unset] [(.int (0 : Int32)), (.ref aG)]))
  refine own_back ?_ (fun t k => XS.dupX1 X25.here hx rfl (hb hby d5_94) rfl rfl rfl k)
  show own_Go p e below PO (T25.setTop (mkF m 95 #[.val (.ref aG), .unset] [(.int (0 : Int32)), (.ref aG), (.int (0 : Int32))]))
  refine own_back ?_ (fun t k => XS.iconst X25.here hx rfl (hb hby d5_95) k)
  show own_Go p e below PO (T25.setTop (mkF m 96 #[.val (.ref aG), .unset] [(.int (1 : Int32)), (.int (0 : Int32)), (.ref aG), (.int (0 : Int32))]))
  refine own_back ?_ (fun t k => XS.iadd X25.here hx rfl (hb hby d5_96) rfl k)
  show own_Go p e below PO (T25.setTop (mkF m 97 #[.val (.ref aG), .unset] [(.int (1 : Int32)), (.ref aG), (.int (0 : Int32))]))
  obtain ⟨T26, h26, X26, e26, W26, st26⟩ := putF X25 hx hZ hown (host := "") (Or.inl (hw _ (List.mem_of_getElem? (i := 36) rfl))) Via.refl e25 f6_8 f6_7 (Or.inl (hw _ (List.mem_of_getElem? (i := 37) rfl))) (hw _ (List.mem_of_getElem? (i := 5) rfl)) (ty := .int) (by decide) rfl rfl (g := (mkF m 97 #[.val (.ref aG), .unset] [(.int (1 : Int32)), (.ref aG), (.int (0 : Int32))])) rfl rfl (hb hby d5_97)
  have Fw26 := f6_8.same W26
  have f26_27 := f6_7.wr W26
  have f26_28 := f6_9.other W26 (Or.inr (slot_ne (Or.inl (hw _ (List.mem_of_getElem? (i := 39) rfl))) (Or.inl (hw _ (List.mem_of_getElem? (i := 37) rfl))) (by decide) (t := .int) (t' := .int) (by decide) (by decide)))
  have f26_29 := f6_10.other W26 (Or.inr (slot_ne (Or.inl (hw _ (List.mem_of_getElem? (i := 15) rfl))) (Or.inl (hw _ (List.mem_of_getElem? (i := 37) rfl))) (by decide) (t := (.array .int)) (t' := .int) (by decide) (by decide)))
  have f26_30 := f6_11.other W26 (Or.inr (slot_ne (Or.inl (hw _ (List.mem_of_getElem? (i := 17) rfl))) (Or.inl (hw _ (List.mem_of_getElem? (i := 37) rfl))) (by decide) (t := (.array .int)) (t' := .int) (by decide) (by decide)))
  have f26_31 := f6_12.other W26 (Or.inr (slot_ne (Or.inl (hw _ (List.mem_of_getElem? (i := 19) rfl))) (Or.inl (hw _ (List.mem_of_getElem? (i := 37) rfl))) (by decide) (t := (.array .int)) (t' := .int) (by decide) (by decide)))
  have f26_32 := f6_13.other W26 (Or.inr (slot_ne (Or.inl (hw _ (List.mem_of_getElem? (i := 22) rfl))) (Or.inl (hw _ (List.mem_of_getElem? (i := 37) rfl))) (by decide) (t := (.array .double)) (t' := .int) (by decide) (by decide)))
  have f26_33 := f6_14.other W26 (Or.inr (slot_ne (Or.inl (hw _ (List.mem_of_getElem? (i := 24) rfl))) (Or.inl (hw _ (List.mem_of_getElem? (i := 37) rfl))) (by decide) (t := (.array .int)) (t' := .int) (by decide) (by decide)))
  have f26_34 := f6_15.other W26 (Or.inr (slot_ne (Or.inl (hw _ (List.mem_of_getElem? (i := 26) rfl))) (Or.inl (hw _ (List.mem_of_getElem? (i := 37) rfl))) (by decide) (t := (.array .int)) (t' := .int) (by decide) (by decide)))
  have f26_35 := f6_16.other W26 (Or.inr (slot_ne (Or.inl (hw _ (List.mem_of_getElem? (i := 28) rfl))) (Or.inl (hw _ (List.mem_of_getElem? (i := 37) rfl))) (by decide) (t := (.array .int)) (t' := .int) (by decide) (by decide)))
  have f26_36 := f6_17.other W26 (Or.inr (slot_ne (Or.inl (hw _ (List.mem_of_getElem? (i := 30) rfl))) (Or.inl (hw _ (List.mem_of_getElem? (i := 37) rfl))) (by decide) (t := (.array .int)) (t' := .int) (by decide) (by decide)))
  have f26_37 := V6.other W26 (Ne.symm (own_ne_aG_aF hNE))
  have f26_38 := f6_18.other W26 (Ne.symm (own_ne_aG_aN hNE))
  have f26_39 := f6_19.other W26 (Ne.symm (own_ne_aG_aH hNE))
  have f26_40 := f6_20.other W26 (Ne.symm (own_ne_aG_aR hNE))
  have f26_41 := f6_21.other W26 (Ne.symm (own_ne_aG_aL hNE))
  have f26_42 := f6_22.other W26 (Ne.symm (own_ne_aG_aA hNE))
  have f26_43 := f6_23.other W26 (Ne.symm (own_ne_aG_aQ hNE))
  have f26_44 := f6_24.other W26 (Ne.symm (own_ne_aG_aP hNE))
  have K26 : Keep h0 h26 [aG, aF, aN, aH, aR, aL, aA, aQ, aP] := (K6).wr W26 (Or.inl (by simp))
  have N26 := Fr.snoc X26 N6 gn_aG
  have Zh26 : n0 ≤ h26.size := Nat.le_trans Z0 K26.1
  refine own_back ?_ st26
  show own_Go p e below PO (T26.setTop (mkF m 100 #[.val (.ref aG), .unset] [(.int (0 : Int32))]))
  refine own_retI X26 hx (rest := []) Bd.returns (hb hby d5_100) e26 (Bd.notSynchronized) ?_ (by decide) (by decide)
  exact ⟨rfl, N26, K26, ⟨f26_27, Fw26, f26_28, f26_29, f26_30, f26_31, f26_32, f26_33, f26_34, f26_35, f26_36, f26_37, f26_38, f26_39, f26_40, f26_41, f26_42, f26_43, f26_44⟩⟩
theorem ef_rmNode_1 (m : MethodId) (x0 : Addr) : entryFrame m #[(.ref x0)] 2 = mkF m 0 #[.val (.ref x0), .unset] [] := by first | (simp [entryFrame, mkF, argsToLocals, Value.category]; done) | rfl
def Q_rmNode_1 (Z : State) (aG aF aN aH aR aL aA aQ aP : Addr) (kF kN kH kR kL kA kQ kP : ClassId) (fst nxt hd rm lev arc que pth : Int → Int) (h0 : Heap) (n0 : Nat) (v : Option Value) (h : Heap) (L : List Loc) : Prop := v = some (.int (1 : Int32)) ∧ Fr n0 L ∧ Keep h0 h [aG, aF, aN, aH, aR, aL, aA, aQ, aP] ∧ own_S Z h aG aF aN aH aR aL aA aQ aP kF kN kH kR kL kA kQ kP (2 : Int32) (0 : Int32) (own_up fst 1 (-1)) nxt hd rm lev arc que pth
set_option maxRecDepth 65536 in
set_option maxHeartbeats 40000000 in
theorem rmNode_1 (l : Launch) (Z : State) (a0 : Array Value) (hw : ∀ d ∈ tables_1, d.before a0 Z = true) (ws : List Jvm.Cond) (aG : Addr) (aF aN aH aR aL aA aQ aP : Addr) (kF kN kH kR kL kA kQ kP : ClassId) (fst nxt hd rm lev arc que pth : Int → Int) (h0 : Heap) (n0 : Nat) (Z0 : n0 ≤ h0.size) (hNE : own_NE n0 aG aF aN aH aR aL aA aQ aP) (hS : own_S Z h0 aG aF aN aH aR aL aA aQ aP kF kN kH kR kL kA kQ kP (1 : Int32) (0 : Int32) fst nxt hd rm lev arc que pth) :
    MetFree l (⟨"com/example/nearbound/nearbound/graph/MinCut", "addNode", "()I"⟩ : MethodName) (head1 (Jvm.Cond.code (⟨"com/example/nearbound/nearbound/graph/MinCut", "addNode", "()I"⟩ : MethodName) prog_25_method_3_code 2 (some .int) :: ws) ({ frames := 0, cells := 0, slots := 0, locals := 0 } : Room)) (fun a U => a = #[(.ref aG)] ∧ Z.Warmed39 U.vm ∧ U.heap = h0) (fun _ _ _ _ _ => True) (fun _ U o U' => ∃ v L, o = .returned v ∧ Q_rmNode_1 Z aG aF aN aH aR aL aA aQ aP kF kN kH kR kL kA kQ kP fst nxt hd rm lev arc que pth h0 n0 v U'.heap L ∧ FrameEnd U o U' L ({ frames := 0, cells := 0, slots := 0, locals := 0 } : Room).cells ({ frames := 0, cells := 0, slots := 0, locals := 0 } : Room).slots) := by
  refine MetFree.of_bodySF (plainFor_of_name pn_2) hisR ?_
  intro p e s m args below meth c s₁ Bd hml0 hP hK
  obtain ⟨rfl, hZ, hh⟩ := hP
  have hx := Bd.exec
  have hby := Bd.bytes
  have hml : c.maxLocals = 2 := hml0
  have hown : s.vm.findClass "com/example/nearbound/nearbound/graph/MinCut" = some m.cls := findClass_of_methodNamed Bd.named
  have hnm := (name_of_methodNamed Bd.named Bd.method).1
  have X0 : Stand p l e ({ frames := 0, cells := 0, slots := 0, locals := 0 } : Room) s m #[(.ref aG)] below meth c s₁ [] 0 0 := Stand.of_body Bd
  have e0 : s₁.heap = h0 := by rw [← hh, Bd.state]; rfl
  have N0 := Fr.nil n0
  let PO : Outcome → State → Prop := own_PO s (Q_rmNode_1 Z aG aF aN aH aR aL aA aQ aP kF kN kH kR kL kA kQ kP fst nxt hd rm lev arc que pth h0 n0) 0 0
  show own_Go p e below PO (s₁.setTop (entryFrame m #[(.ref aG)] 2))
  rw [ef_rmNode_1]
  obtain ⟨gn_aG, gn_aF, gn_aN, gn_aH, gn_aR, gn_aL, gn_aA, gn_aQ, gn_aP⟩ := hNE.1
  have hS' := hS
  obtain ⟨E_G, F_nodeCount, F_edgeCount, F_first, F_next, F_head, F_room, F_level, F_arc, F_queue, F_path, V_F, V_N, V_H, V_R, V_L, V_A, V_Q, V_P⟩ := hS'
  have K0 : Keep h0 h0 [aG, aF, aN, aH, aR, aL, aA, aQ, aP] := Keep.refl h0 _
  show own_Go p e below PO (s₁.setTop (mkF m 0 #[.val (.ref aG), .unset] []))
  refine own_back ?_ (fun t k => XS.aloadN X0.here hx rfl (hb hby d5_0) rfl rfl k)
  show own_Go p e below PO (s₁.setTop (mkF m 1 #[.val (.ref aG), .unset] [(.ref aG)]))
  obtain ⟨T1, X1, e1, st1⟩ := getF X0 hx hZ hown (host := "") (Or.inl (hw _ (List.mem_of_getElem? (i := 36) rfl))) Via.refl e0 F_nodeCount (g := (mkF m 1 #[.val (.ref aG), .unset] [(.ref aG)])) rfl rfl (hb hby d5_1)
  refine own_back ?_ st1
  show own_Go p e below PO (T1.setTop (mkF m 4 #[.val (.ref aG), .unset] [(.int (1 : Int32))]))
  refine own_back ?_ (fun t k => XS.aloadN X1.here hx rfl (hb hby d5_4) rfl rfl k)
  show own_Go p e below PO (T1.setTop (mkF m 5 #[.val (.ref aG), .unset] [(.ref aG), (.int (1 : Int32))]))
  obtain ⟨T2, X2, e2, st2⟩ := getF X1 hx hZ hown (host := "") (Or.inl (hw _ (List.mem_of_getElem? (i := 14) rfl))) Via.refl e1 F_first (g := (mkF m 5 #[.val (.ref aG), .unset] [(.ref aG), (.int (1 : Int32))])) rfl rfl (hb hby d5_5)
  refine own_back ?_ st2
  show own_Go p e below PO (T2.setTop (mkF m 8 #[.val (.ref aG), .unset] [(.ref aF), (.int (1 : Int32))]))
  refine own_back ?_ (own_len X2 hx hZ e2 V_F (g := (mkF m 8 #[.val (.ref aG), .unset] [(.ref aF), (.int (1 : Int32))])) rfl rfl (hb hby d5_8))
  show own_Go p e below PO (T2.setTop (mkF m 9 #[.val (.ref aG), .unset] [(.int (16 : Int32)), (.int (1 : Int32))]))
  have hd9_3 : ¬ ((1 : Int32) = (16 : Int32)) := (by decide)
  refine own_back ?_ (fun t k => XS.icmpYes X2.here hx rfl (pc0 := 9) (pc' := 79) rfl (hb hby d5_9) rfl (feq hd9_3).2 (by decide) (by decide) k)
  show own_Go p e below PO (T2.setTop (mkF m 79 #[.val (.ref aG), .unset] []))
  refine own_back ?_ (fun t k => XS.aloadN X2.here hx rfl (hb hby d5_79) rfl rfl k)
  show own_Go p e below PO (T2.setTop (mkF m 80 #[.val (.ref aG), .unset] [(.ref aG)]))
  obtain ⟨T4, X4, e4, st4⟩ := getF X2 hx hZ hown (host := "") (Or.inl (hw _ (List.mem_of_getElem? (i := 14) rfl))) Via.refl e2 F_first (g := (mkF m 80 #[.val (.ref aG), .unset] [(.ref aG)])) rfl rfl (hb hby d5_80)
  refine own_back ?_ st4
  show own_Go p e below PO (T4.setTop (mkF m 83 #[.val (.ref aG), .unset] [(.ref aF)]))
  refine own_back ?_ (fun t k => XS.aloadN X4.here hx rfl (hb hby d5_83) rfl rfl k)
  show own_Go p e below PO (T4.setTop (mkF m 84 #[.val (.ref aG), .unset] [(.ref aG), (.ref aF)]))
  obtain ⟨T5, X5, e5, st5⟩ := getF X4 hx hZ hown (host := "") (Or.inl (hw _ (List.mem_of_getElem? (i := 36) rfl))) Via.refl e4 F_nodeCount (g := (mkF m 84 #[.val (.ref aG), .unset] [(.ref aG), (.ref aF)])) rfl rfl (hb hby d5_84)
  refine own_back ?_ st5
  show own_Go p e below PO (T5.setTop (mkF m 87 #[.val (.ref aG), .unset] [(.int (1 : Int32)), (.ref aF)]))
  refine own_back ?_ (fun t k => XS.iconst X5.here hx rfl (hb hby d5_87) k)
  show own_Go p e below PO (T5.setTop (mkF m 88 #[.val (.ref aG), .unset] [(.int (-1 : Int32)), (.int (1 : Int32)), (.ref aF)]))
  obtain ⟨T6, h6, X6, e6, W6, V6, st6⟩ := own_stI X5 hx hZ e5 V_F (j := (1 : Int32)) ⟨by decide, by decide⟩ (i := 1) rfl (own_ixk _ (by decide)) (g := (mkF m 88 #[.val (.ref aG), .unset] [(.int (-1 : Int32)), (.int (1 : Int32)), (.ref aF)])) rfl rfl (hb hby d5_88)
  rw [own_setk (x := (-1)) 1 1 (by omega) (by decide) own_im1.symm] at V6
  have f6_7 := E_G.wr W6
  have f6_8 := F_nodeCount.other W6 (Or.inl (own_ne_aG_aF hNE))
  have f6_9 := F_edgeCount.other W6 (Or.inl (own_ne_aG_aF hNE))
  have f6_10 := F_first.other W6 (Or.inl (own_ne_aG_aF hNE))
  have f6_11 := F_next.other W6 (Or.inl (own_ne_aG_aF hNE))
  have f6_12 := F_head.other W6 (Or.inl (own_ne_aG_aF hNE))
  have f6_13 := F_room.other W6 (Or.inl (own_ne_aG_aF hNE))
  have f6_14 := F_level.other W6 (Or.inl (own_ne_aG_aF hNE))
  have f6_15 := F_arc.other W6 (Or.inl (own_ne_aG_aF hNE))
  have f6_16 := F_queue.other W6 (Or.inl (own_ne_aG_aF hNE))
  have f6_17 := F_path.other W6 (Or.inl (own_ne_aG_aF hNE))
  have f6_18 := V_N.other W6 (Ne.symm (own_ne_aF_aN hNE))
  have f6_19 := V_H.other W6 (Ne.symm (own_ne_aF_aH hNE))
  have f6_20 := V_R.other W6 (Ne.symm (own_ne_aF_aR hNE))
  have f6_21 := V_L.other W6 (Ne.symm (own_ne_aF_aL hNE))
  have f6_22 := V_A.other W6 (Ne.symm (own_ne_aF_aA hNE))
  have f6_23 := V_Q.other W6 (Ne.symm (own_ne_aF_aQ hNE))
  have f6_24 := V_P.other W6 (Ne.symm (own_ne_aF_aP hNE))
  have K6 : Keep h0 h6 [aG, aF, aN, aH, aR, aL, aA, aQ, aP] := (K0).wr W6 (Or.inl (by simp))
  have N6 := Fr.snoc X6 N0 gn_aF
  have Zh6 : n0 ≤ h6.size := Nat.le_trans Z0 K6.1
  refine own_back ?_ st6
  show own_Go p e below PO (T6.setTop (mkF m 89 #[.val (.ref aG), .unset] []))
  refine own_back ?_ (fun t k => XS.aloadN X6.here hx rfl (hb hby d5_89) rfl rfl k)
  show own_Go p e below PO (T6.setTop (mkF m 90 #[.val (.ref aG), .unset] [(.ref aG)]))
  refine own_back ?_ (fun t k => XS.dup X6.here hx rfl (hb hby d5_90) rfl rfl k)
  show own_Go p e below PO (T6.setTop (mkF m 91 #[.val (.ref aG), .unset] [(.ref aG), (.ref aG)]))
  obtain ⟨T25, X25, e25, st25⟩ := getF X6 hx hZ hown (host := "") (Or.inl (hw _ (List.mem_of_getElem? (i := 36) rfl))) Via.refl e6 f6_8 (g := (mkF m 91 #[.val (.ref aG), .unset] [(.ref aG), (.ref aG)])) rfl rfl (hb hby d5_91)
  refine own_back ?_ st25
  show own_Go p e below PO (T25.setTop (mkF m 94 #[.val (.ref aG), .unset] [(.int (1 : Int32)), (.ref aG)]))
  refine own_back ?_ (fun t k => XS.dupX1 X25.here hx rfl (hb hby d5_94) rfl rfl rfl k)
  show own_Go p e below PO (T25.setTop (mkF m 95 #[.val (.ref aG), .unset] [(.int (1 : Int32)), (.ref aG), (.int (1 : Int32))]))
  refine own_back ?_ (fun t k => XS.iconst X25.here hx rfl (hb hby d5_95) k)
  show own_Go p e below PO (T25.setTop (mkF m 96 #[.val (.ref aG), .unset] [(.int (1 : Int32)), (.int (1 : Int32)), (.ref aG), (.int (1 : Int32))]))
  refine own_back ?_ (fun t k => XS.iadd X25.here hx rfl (hb hby d5_96) rfl k)
  show own_Go p e below PO (T25.setTop (mkF m 97 #[.val (.ref aG), .unset] [(.int (2 : Int32)), (.ref aG), (.int (1 : Int32))]))
  obtain ⟨T26, h26, X26, e26, W26, st26⟩ := putF X25 hx hZ hown (host := "") (Or.inl (hw _ (List.mem_of_getElem? (i := 36) rfl))) Via.refl e25 f6_8 f6_7 (Or.inl (hw _ (List.mem_of_getElem? (i := 37) rfl))) (hw _ (List.mem_of_getElem? (i := 5) rfl)) (ty := .int) (by decide) rfl rfl (g := (mkF m 97 #[.val (.ref aG), .unset] [(.int (2 : Int32)), (.ref aG), (.int (1 : Int32))])) rfl rfl (hb hby d5_97)
  have Fw26 := f6_8.same W26
  have f26_27 := f6_7.wr W26
  have f26_28 := f6_9.other W26 (Or.inr (slot_ne (Or.inl (hw _ (List.mem_of_getElem? (i := 39) rfl))) (Or.inl (hw _ (List.mem_of_getElem? (i := 37) rfl))) (by decide) (t := .int) (t' := .int) (by decide) (by decide)))
  have f26_29 := f6_10.other W26 (Or.inr (slot_ne (Or.inl (hw _ (List.mem_of_getElem? (i := 15) rfl))) (Or.inl (hw _ (List.mem_of_getElem? (i := 37) rfl))) (by decide) (t := (.array .int)) (t' := .int) (by decide) (by decide)))
  have f26_30 := f6_11.other W26 (Or.inr (slot_ne (Or.inl (hw _ (List.mem_of_getElem? (i := 17) rfl))) (Or.inl (hw _ (List.mem_of_getElem? (i := 37) rfl))) (by decide) (t := (.array .int)) (t' := .int) (by decide) (by decide)))
  have f26_31 := f6_12.other W26 (Or.inr (slot_ne (Or.inl (hw _ (List.mem_of_getElem? (i := 19) rfl))) (Or.inl (hw _ (List.mem_of_getElem? (i := 37) rfl))) (by decide) (t := (.array .int)) (t' := .int) (by decide) (by decide)))
  have f26_32 := f6_13.other W26 (Or.inr (slot_ne (Or.inl (hw _ (List.mem_of_getElem? (i := 22) rfl))) (Or.inl (hw _ (List.mem_of_getElem? (i := 37) rfl))) (by decide) (t := (.array .double)) (t' := .int) (by decide) (by decide)))
  have f26_33 := f6_14.other W26 (Or.inr (slot_ne (Or.inl (hw _ (List.mem_of_getElem? (i := 24) rfl))) (Or.inl (hw _ (List.mem_of_getElem? (i := 37) rfl))) (by decide) (t := (.array .int)) (t' := .int) (by decide) (by decide)))
  have f26_34 := f6_15.other W26 (Or.inr (slot_ne (Or.inl (hw _ (List.mem_of_getElem? (i := 26) rfl))) (Or.inl (hw _ (List.mem_of_getElem? (i := 37) rfl))) (by decide) (t := (.array .int)) (t' := .int) (by decide) (by decide)))
  have f26_35 := f6_16.other W26 (Or.inr (slot_ne (Or.inl (hw _ (List.mem_of_getElem? (i := 28) rfl))) (Or.inl (hw _ (List.mem_of_getElem? (i := 37) rfl))) (by decide) (t := (.array .int)) (t' := .int) (by decide) (by decide)))
  have f26_36 := f6_17.other W26 (Or.inr (slot_ne (Or.inl (hw _ (List.mem_of_getElem? (i := 30) rfl))) (Or.inl (hw _ (List.mem_of_getElem? (i := 37) rfl))) (by decide) (t := (.array .int)) (t' := .int) (by decide) (by decide)))
  have f26_37 := V6.other W26 (Ne.symm (own_ne_aG_aF hNE))
  have f26_38 := f6_18.other W26 (Ne.symm (own_ne_aG_aN hNE))
  have f26_39 := f6_19.other W26 (Ne.symm (own_ne_aG_aH hNE))
  have f26_40 := f6_20.other W26 (Ne.symm (own_ne_aG_aR hNE))
  have f26_41 := f6_21.other W26 (Ne.symm (own_ne_aG_aL hNE))
  have f26_42 := f6_22.other W26 (Ne.symm (own_ne_aG_aA hNE))
  have f26_43 := f6_23.other W26 (Ne.symm (own_ne_aG_aQ hNE))
  have f26_44 := f6_24.other W26 (Ne.symm (own_ne_aG_aP hNE))
  have K26 : Keep h0 h26 [aG, aF, aN, aH, aR, aL, aA, aQ, aP] := (K6).wr W26 (Or.inl (by simp))
  have N26 := Fr.snoc X26 N6 gn_aG
  have Zh26 : n0 ≤ h26.size := Nat.le_trans Z0 K26.1
  refine own_back ?_ st26
  show own_Go p e below PO (T26.setTop (mkF m 100 #[.val (.ref aG), .unset] [(.int (1 : Int32))]))
  refine own_retI X26 hx (rest := []) Bd.returns (hb hby d5_100) e26 (Bd.notSynchronized) ?_ (by decide) (by decide)
  exact ⟨rfl, N26, K26, ⟨f26_27, Fw26, f26_28, f26_29, f26_30, f26_31, f26_32, f26_33, f26_34, f26_35, f26_36, f26_37, f26_38, f26_39, f26_40, f26_41, f26_42, f26_43, f26_44⟩⟩
theorem ef_rmNode_2 (m : MethodId) (x0 : Addr) : entryFrame m #[(.ref x0)] 2 = mkF m 0 #[.val (.ref x0), .unset] [] := by first | (simp [entryFrame, mkF, argsToLocals, Value.category]; done) | rfl
def Q_rmNode_2 (Z : State) (aG aF aN aH aR aL aA aQ aP : Addr) (kF kN kH kR kL kA kQ kP : ClassId) (fst nxt hd rm lev arc que pth : Int → Int) (h0 : Heap) (n0 : Nat) (v : Option Value) (h : Heap) (L : List Loc) : Prop := v = some (.int (2 : Int32)) ∧ Fr n0 L ∧ Keep h0 h [aG, aF, aN, aH, aR, aL, aA, aQ, aP] ∧ own_S Z h aG aF aN aH aR aL aA aQ aP kF kN kH kR kL kA kQ kP (3 : Int32) (0 : Int32) (own_up fst 2 (-1)) nxt hd rm lev arc que pth
set_option maxRecDepth 65536 in
set_option maxHeartbeats 40000000 in
theorem rmNode_2 (l : Launch) (Z : State) (a0 : Array Value) (hw : ∀ d ∈ tables_1, d.before a0 Z = true) (ws : List Jvm.Cond) (aG : Addr) (aF aN aH aR aL aA aQ aP : Addr) (kF kN kH kR kL kA kQ kP : ClassId) (fst nxt hd rm lev arc que pth : Int → Int) (h0 : Heap) (n0 : Nat) (Z0 : n0 ≤ h0.size) (hNE : own_NE n0 aG aF aN aH aR aL aA aQ aP) (hS : own_S Z h0 aG aF aN aH aR aL aA aQ aP kF kN kH kR kL kA kQ kP (2 : Int32) (0 : Int32) fst nxt hd rm lev arc que pth) :
    MetFree l (⟨"com/example/nearbound/nearbound/graph/MinCut", "addNode", "()I"⟩ : MethodName) (head1 (Jvm.Cond.code (⟨"com/example/nearbound/nearbound/graph/MinCut", "addNode", "()I"⟩ : MethodName) prog_25_method_3_code 2 (some .int) :: ws) ({ frames := 0, cells := 0, slots := 0, locals := 0 } : Room)) (fun a U => a = #[(.ref aG)] ∧ Z.Warmed39 U.vm ∧ U.heap = h0) (fun _ _ _ _ _ => True) (fun _ U o U' => ∃ v L, o = .returned v ∧ Q_rmNode_2 Z aG aF aN aH aR aL aA aQ aP kF kN kH kR kL kA kQ kP fst nxt hd rm lev arc que pth h0 n0 v U'.heap L ∧ FrameEnd U o U' L ({ frames := 0, cells := 0, slots := 0, locals := 0 } : Room).cells ({ frames := 0, cells := 0, slots := 0, locals := 0 } : Room).slots) := by
  refine MetFree.of_bodySF (plainFor_of_name pn_2) hisR ?_
  intro p e s m args below meth c s₁ Bd hml0 hP hK
  obtain ⟨rfl, hZ, hh⟩ := hP
  have hx := Bd.exec
  have hby := Bd.bytes
  have hml : c.maxLocals = 2 := hml0
  have hown : s.vm.findClass "com/example/nearbound/nearbound/graph/MinCut" = some m.cls := findClass_of_methodNamed Bd.named
  have hnm := (name_of_methodNamed Bd.named Bd.method).1
  have X0 : Stand p l e ({ frames := 0, cells := 0, slots := 0, locals := 0 } : Room) s m #[(.ref aG)] below meth c s₁ [] 0 0 := Stand.of_body Bd
  have e0 : s₁.heap = h0 := by rw [← hh, Bd.state]; rfl
  have N0 := Fr.nil n0
  let PO : Outcome → State → Prop := own_PO s (Q_rmNode_2 Z aG aF aN aH aR aL aA aQ aP kF kN kH kR kL kA kQ kP fst nxt hd rm lev arc que pth h0 n0) 0 0
  show own_Go p e below PO (s₁.setTop (entryFrame m #[(.ref aG)] 2))
  rw [ef_rmNode_2]
  obtain ⟨gn_aG, gn_aF, gn_aN, gn_aH, gn_aR, gn_aL, gn_aA, gn_aQ, gn_aP⟩ := hNE.1
  have hS' := hS
  obtain ⟨E_G, F_nodeCount, F_edgeCount, F_first, F_next, F_head, F_room, F_level, F_arc, F_queue, F_path, V_F, V_N, V_H, V_R, V_L, V_A, V_Q, V_P⟩ := hS'
  have K0 : Keep h0 h0 [aG, aF, aN, aH, aR, aL, aA, aQ, aP] := Keep.refl h0 _
  show own_Go p e below PO (s₁.setTop (mkF m 0 #[.val (.ref aG), .unset] []))
  refine own_back ?_ (fun t k => XS.aloadN X0.here hx rfl (hb hby d5_0) rfl rfl k)
  show own_Go p e below PO (s₁.setTop (mkF m 1 #[.val (.ref aG), .unset] [(.ref aG)]))
  obtain ⟨T1, X1, e1, st1⟩ := getF X0 hx hZ hown (host := "") (Or.inl (hw _ (List.mem_of_getElem? (i := 36) rfl))) Via.refl e0 F_nodeCount (g := (mkF m 1 #[.val (.ref aG), .unset] [(.ref aG)])) rfl rfl (hb hby d5_1)
  refine own_back ?_ st1
  show own_Go p e below PO (T1.setTop (mkF m 4 #[.val (.ref aG), .unset] [(.int (2 : Int32))]))
  refine own_back ?_ (fun t k => XS.aloadN X1.here hx rfl (hb hby d5_4) rfl rfl k)
  show own_Go p e below PO (T1.setTop (mkF m 5 #[.val (.ref aG), .unset] [(.ref aG), (.int (2 : Int32))]))
  obtain ⟨T2, X2, e2, st2⟩ := getF X1 hx hZ hown (host := "") (Or.inl (hw _ (List.mem_of_getElem? (i := 14) rfl))) Via.refl e1 F_first (g := (mkF m 5 #[.val (.ref aG), .unset] [(.ref aG), (.int (2 : Int32))])) rfl rfl (hb hby d5_5)
  refine own_back ?_ st2
  show own_Go p e below PO (T2.setTop (mkF m 8 #[.val (.ref aG), .unset] [(.ref aF), (.int (2 : Int32))]))
  refine own_back ?_ (own_len X2 hx hZ e2 V_F (g := (mkF m 8 #[.val (.ref aG), .unset] [(.ref aF), (.int (2 : Int32))])) rfl rfl (hb hby d5_8))
  show own_Go p e below PO (T2.setTop (mkF m 9 #[.val (.ref aG), .unset] [(.int (16 : Int32)), (.int (2 : Int32))]))
  have hd9_3 : ¬ ((2 : Int32) = (16 : Int32)) := (by decide)
  refine own_back ?_ (fun t k => XS.icmpYes X2.here hx rfl (pc0 := 9) (pc' := 79) rfl (hb hby d5_9) rfl (feq hd9_3).2 (by decide) (by decide) k)
  show own_Go p e below PO (T2.setTop (mkF m 79 #[.val (.ref aG), .unset] []))
  refine own_back ?_ (fun t k => XS.aloadN X2.here hx rfl (hb hby d5_79) rfl rfl k)
  show own_Go p e below PO (T2.setTop (mkF m 80 #[.val (.ref aG), .unset] [(.ref aG)]))
  obtain ⟨T4, X4, e4, st4⟩ := getF X2 hx hZ hown (host := "") (Or.inl (hw _ (List.mem_of_getElem? (i := 14) rfl))) Via.refl e2 F_first (g := (mkF m 80 #[.val (.ref aG), .unset] [(.ref aG)])) rfl rfl (hb hby d5_80)
  refine own_back ?_ st4
  show own_Go p e below PO (T4.setTop (mkF m 83 #[.val (.ref aG), .unset] [(.ref aF)]))
  refine own_back ?_ (fun t k => XS.aloadN X4.here hx rfl (hb hby d5_83) rfl rfl k)
  show own_Go p e below PO (T4.setTop (mkF m 84 #[.val (.ref aG), .unset] [(.ref aG), (.ref aF)]))
  obtain ⟨T5, X5, e5, st5⟩ := getF X4 hx hZ hown (host := "") (Or.inl (hw _ (List.mem_of_getElem? (i := 36) rfl))) Via.refl e4 F_nodeCount (g := (mkF m 84 #[.val (.ref aG), .unset] [(.ref aG), (.ref aF)])) rfl rfl (hb hby d5_84)
  refine own_back ?_ st5
  show own_Go p e below PO (T5.setTop (mkF m 87 #[.val (.ref aG), .unset] [(.int (2 : Int32)), (.ref aF)]))
  refine own_back ?_ (fun t k => XS.iconst X5.here hx rfl (hb hby d5_87) k)
  show own_Go p e below PO (T5.setTop (mkF m 88 #[.val (.ref aG), .unset] [(.int (-1 : Int32)), (.int (2 : Int32)), (.ref aF)]))
  obtain ⟨T6, h6, X6, e6, W6, V6, st6⟩ := own_stI X5 hx hZ e5 V_F (j := (2 : Int32)) ⟨by decide, by decide⟩ (i := 2) rfl (own_ixk _ (by decide)) (g := (mkF m 88 #[.val (.ref aG), .unset] [(.int (-1 : Int32)), (.int (2 : Int32)), (.ref aF)])) rfl rfl (hb hby d5_88)
  rw [own_setk (x := (-1)) 2 2 (by omega) (by decide) own_im1.symm] at V6
  have f6_7 := E_G.wr W6
  have f6_8 := F_nodeCount.other W6 (Or.inl (own_ne_aG_aF hNE))
  have f6_9 := F_edgeCount.other W6 (Or.inl (own_ne_aG_aF hNE))
  have f6_10 := F_first.other W6 (Or.inl (own_ne_aG_aF hNE))
  have f6_11 := F_next.other W6 (Or.inl (own_ne_aG_aF hNE))
  have f6_12 := F_head.other W6 (Or.inl (own_ne_aG_aF hNE))
  have f6_13 := F_room.other W6 (Or.inl (own_ne_aG_aF hNE))
  have f6_14 := F_level.other W6 (Or.inl (own_ne_aG_aF hNE))
  have f6_15 := F_arc.other W6 (Or.inl (own_ne_aG_aF hNE))
  have f6_16 := F_queue.other W6 (Or.inl (own_ne_aG_aF hNE))
  have f6_17 := F_path.other W6 (Or.inl (own_ne_aG_aF hNE))
  have f6_18 := V_N.other W6 (Ne.symm (own_ne_aF_aN hNE))
  have f6_19 := V_H.other W6 (Ne.symm (own_ne_aF_aH hNE))
  have f6_20 := V_R.other W6 (Ne.symm (own_ne_aF_aR hNE))
  have f6_21 := V_L.other W6 (Ne.symm (own_ne_aF_aL hNE))
  have f6_22 := V_A.other W6 (Ne.symm (own_ne_aF_aA hNE))
  have f6_23 := V_Q.other W6 (Ne.symm (own_ne_aF_aQ hNE))
  have f6_24 := V_P.other W6 (Ne.symm (own_ne_aF_aP hNE))
  have K6 : Keep h0 h6 [aG, aF, aN, aH, aR, aL, aA, aQ, aP] := (K0).wr W6 (Or.inl (by simp))
  have N6 := Fr.snoc X6 N0 gn_aF
  have Zh6 : n0 ≤ h6.size := Nat.le_trans Z0 K6.1
  refine own_back ?_ st6
  show own_Go p e below PO (T6.setTop (mkF m 89 #[.val (.ref aG), .unset] []))
  refine own_back ?_ (fun t k => XS.aloadN X6.here hx rfl (hb hby d5_89) rfl rfl k)
  show own_Go p e below PO (T6.setTop (mkF m 90 #[.val (.ref aG), .unset] [(.ref aG)]))
  refine own_back ?_ (fun t k => XS.dup X6.here hx rfl (hb hby d5_90) rfl rfl k)
  show own_Go p e below PO (T6.setTop (mkF m 91 #[.val (.ref aG), .unset] [(.ref aG), (.ref aG)]))
  obtain ⟨T25, X25, e25, st25⟩ := getF X6 hx hZ hown (host := "") (Or.inl (hw _ (List.mem_of_getElem? (i := 36) rfl))) Via.refl e6 f6_8 (g := (mkF m 91 #[.val (.ref aG), .unset] [(.ref aG), (.ref aG)])) rfl rfl (hb hby d5_91)
  refine own_back ?_ st25
  show own_Go p e below PO (T25.setTop (mkF m 94 #[.val (.ref aG), .unset] [(.int (2 : Int32)), (.ref aG)]))
  refine own_back ?_ (fun t k => XS.dupX1 X25.here hx rfl (hb hby d5_94) rfl rfl rfl k)
  show own_Go p e below PO (T25.setTop (mkF m 95 #[.val (.ref aG), .unset] [(.int (2 : Int32)), (.ref aG), (.int (2 : Int32))]))
  refine own_back ?_ (fun t k => XS.iconst X25.here hx rfl (hb hby d5_95) k)
  show own_Go p e below PO (T25.setTop (mkF m 96 #[.val (.ref aG), .unset] [(.int (1 : Int32)), (.int (2 : Int32)), (.ref aG), (.int (2 : Int32))]))
  refine own_back ?_ (fun t k => XS.iadd X25.here hx rfl (hb hby d5_96) rfl k)
  show own_Go p e below PO (T25.setTop (mkF m 97 #[.val (.ref aG), .unset] [(.int (3 : Int32)), (.ref aG), (.int (2 : Int32))]))
  obtain ⟨T26, h26, X26, e26, W26, st26⟩ := putF X25 hx hZ hown (host := "") (Or.inl (hw _ (List.mem_of_getElem? (i := 36) rfl))) Via.refl e25 f6_8 f6_7 (Or.inl (hw _ (List.mem_of_getElem? (i := 37) rfl))) (hw _ (List.mem_of_getElem? (i := 5) rfl)) (ty := .int) (by decide) rfl rfl (g := (mkF m 97 #[.val (.ref aG), .unset] [(.int (3 : Int32)), (.ref aG), (.int (2 : Int32))])) rfl rfl (hb hby d5_97)
  have Fw26 := f6_8.same W26
  have f26_27 := f6_7.wr W26
  have f26_28 := f6_9.other W26 (Or.inr (slot_ne (Or.inl (hw _ (List.mem_of_getElem? (i := 39) rfl))) (Or.inl (hw _ (List.mem_of_getElem? (i := 37) rfl))) (by decide) (t := .int) (t' := .int) (by decide) (by decide)))
  have f26_29 := f6_10.other W26 (Or.inr (slot_ne (Or.inl (hw _ (List.mem_of_getElem? (i := 15) rfl))) (Or.inl (hw _ (List.mem_of_getElem? (i := 37) rfl))) (by decide) (t := (.array .int)) (t' := .int) (by decide) (by decide)))
  have f26_30 := f6_11.other W26 (Or.inr (slot_ne (Or.inl (hw _ (List.mem_of_getElem? (i := 17) rfl))) (Or.inl (hw _ (List.mem_of_getElem? (i := 37) rfl))) (by decide) (t := (.array .int)) (t' := .int) (by decide) (by decide)))
  have f26_31 := f6_12.other W26 (Or.inr (slot_ne (Or.inl (hw _ (List.mem_of_getElem? (i := 19) rfl))) (Or.inl (hw _ (List.mem_of_getElem? (i := 37) rfl))) (by decide) (t := (.array .int)) (t' := .int) (by decide) (by decide)))
  have f26_32 := f6_13.other W26 (Or.inr (slot_ne (Or.inl (hw _ (List.mem_of_getElem? (i := 22) rfl))) (Or.inl (hw _ (List.mem_of_getElem? (i := 37) rfl))) (by decide) (t := (.array .double)) (t' := .int) (by decide) (by decide)))
  have f26_33 := f6_14.other W26 (Or.inr (slot_ne (Or.inl (hw _ (List.mem_of_getElem? (i := 24) rfl))) (Or.inl (hw _ (List.mem_of_getElem? (i := 37) rfl))) (by decide) (t := (.array .int)) (t' := .int) (by decide) (by decide)))
  have f26_34 := f6_15.other W26 (Or.inr (slot_ne (Or.inl (hw _ (List.mem_of_getElem? (i := 26) rfl))) (Or.inl (hw _ (List.mem_of_getElem? (i := 37) rfl))) (by decide) (t := (.array .int)) (t' := .int) (by decide) (by decide)))
  have f26_35 := f6_16.other W26 (Or.inr (slot_ne (Or.inl (hw _ (List.mem_of_getElem? (i := 28) rfl))) (Or.inl (hw _ (List.mem_of_getElem? (i := 37) rfl))) (by decide) (t := (.array .int)) (t' := .int) (by decide) (by decide)))
  have f26_36 := f6_17.other W26 (Or.inr (slot_ne (Or.inl (hw _ (List.mem_of_getElem? (i := 30) rfl))) (Or.inl (hw _ (List.mem_of_getElem? (i := 37) rfl))) (by decide) (t := (.array .int)) (t' := .int) (by decide) (by decide)))
  have f26_37 := V6.other W26 (Ne.symm (own_ne_aG_aF hNE))
  have f26_38 := f6_18.other W26 (Ne.symm (own_ne_aG_aN hNE))
  have f26_39 := f6_19.other W26 (Ne.symm (own_ne_aG_aH hNE))
  have f26_40 := f6_20.other W26 (Ne.symm (own_ne_aG_aR hNE))
  have f26_41 := f6_21.other W26 (Ne.symm (own_ne_aG_aL hNE))
  have f26_42 := f6_22.other W26 (Ne.symm (own_ne_aG_aA hNE))
  have f26_43 := f6_23.other W26 (Ne.symm (own_ne_aG_aQ hNE))
  have f26_44 := f6_24.other W26 (Ne.symm (own_ne_aG_aP hNE))
  have K26 : Keep h0 h26 [aG, aF, aN, aH, aR, aL, aA, aQ, aP] := (K6).wr W26 (Or.inl (by simp))
  have N26 := Fr.snoc X26 N6 gn_aG
  have Zh26 : n0 ≤ h26.size := Nat.le_trans Z0 K26.1
  refine own_back ?_ st26
  show own_Go p e below PO (T26.setTop (mkF m 100 #[.val (.ref aG), .unset] [(.int (2 : Int32))]))
  refine own_retI X26 hx (rest := []) Bd.returns (hb hby d5_100) e26 (Bd.notSynchronized) ?_ (by decide) (by decide)
  exact ⟨rfl, N26, K26, ⟨f26_27, Fw26, f26_28, f26_29, f26_30, f26_31, f26_32, f26_33, f26_34, f26_35, f26_36, f26_37, f26_38, f26_39, f26_40, f26_41, f26_42, f26_43, f26_44⟩⟩
theorem ef_rmNode_3 (m : MethodId) (x0 : Addr) : entryFrame m #[(.ref x0)] 2 = mkF m 0 #[.val (.ref x0), .unset] [] := by first | (simp [entryFrame, mkF, argsToLocals, Value.category]; done) | rfl
def Q_rmNode_3 (Z : State) (aG aF aN aH aR aL aA aQ aP : Addr) (kF kN kH kR kL kA kQ kP : ClassId) (fst nxt hd rm lev arc que pth : Int → Int) (h0 : Heap) (n0 : Nat) (v : Option Value) (h : Heap) (L : List Loc) : Prop := v = some (.int (3 : Int32)) ∧ Fr n0 L ∧ Keep h0 h [aG, aF, aN, aH, aR, aL, aA, aQ, aP] ∧ own_S Z h aG aF aN aH aR aL aA aQ aP kF kN kH kR kL kA kQ kP (4 : Int32) (0 : Int32) (own_up fst 3 (-1)) nxt hd rm lev arc que pth
set_option maxRecDepth 65536 in
set_option maxHeartbeats 40000000 in
theorem rmNode_3 (l : Launch) (Z : State) (a0 : Array Value) (hw : ∀ d ∈ tables_1, d.before a0 Z = true) (ws : List Jvm.Cond) (aG : Addr) (aF aN aH aR aL aA aQ aP : Addr) (kF kN kH kR kL kA kQ kP : ClassId) (fst nxt hd rm lev arc que pth : Int → Int) (h0 : Heap) (n0 : Nat) (Z0 : n0 ≤ h0.size) (hNE : own_NE n0 aG aF aN aH aR aL aA aQ aP) (hS : own_S Z h0 aG aF aN aH aR aL aA aQ aP kF kN kH kR kL kA kQ kP (3 : Int32) (0 : Int32) fst nxt hd rm lev arc que pth) :
    MetFree l (⟨"com/example/nearbound/nearbound/graph/MinCut", "addNode", "()I"⟩ : MethodName) (head1 (Jvm.Cond.code (⟨"com/example/nearbound/nearbound/graph/MinCut", "addNode", "()I"⟩ : MethodName) prog_25_method_3_code 2 (some .int) :: ws) ({ frames := 0, cells := 0, slots := 0, locals := 0 } : Room)) (fun a U => a = #[(.ref aG)] ∧ Z.Warmed39 U.vm ∧ U.heap = h0) (fun _ _ _ _ _ => True) (fun _ U o U' => ∃ v L, o = .returned v ∧ Q_rmNode_3 Z aG aF aN aH aR aL aA aQ aP kF kN kH kR kL kA kQ kP fst nxt hd rm lev arc que pth h0 n0 v U'.heap L ∧ FrameEnd U o U' L ({ frames := 0, cells := 0, slots := 0, locals := 0 } : Room).cells ({ frames := 0, cells := 0, slots := 0, locals := 0 } : Room).slots) := by
  refine MetFree.of_bodySF (plainFor_of_name pn_2) hisR ?_
  intro p e s m args below meth c s₁ Bd hml0 hP hK
  obtain ⟨rfl, hZ, hh⟩ := hP
  have hx := Bd.exec
  have hby := Bd.bytes
  have hml : c.maxLocals = 2 := hml0
  have hown : s.vm.findClass "com/example/nearbound/nearbound/graph/MinCut" = some m.cls := findClass_of_methodNamed Bd.named
  have hnm := (name_of_methodNamed Bd.named Bd.method).1
  have X0 : Stand p l e ({ frames := 0, cells := 0, slots := 0, locals := 0 } : Room) s m #[(.ref aG)] below meth c s₁ [] 0 0 := Stand.of_body Bd
  have e0 : s₁.heap = h0 := by rw [← hh, Bd.state]; rfl
  have N0 := Fr.nil n0
  let PO : Outcome → State → Prop := own_PO s (Q_rmNode_3 Z aG aF aN aH aR aL aA aQ aP kF kN kH kR kL kA kQ kP fst nxt hd rm lev arc que pth h0 n0) 0 0
  show own_Go p e below PO (s₁.setTop (entryFrame m #[(.ref aG)] 2))
  rw [ef_rmNode_3]
  obtain ⟨gn_aG, gn_aF, gn_aN, gn_aH, gn_aR, gn_aL, gn_aA, gn_aQ, gn_aP⟩ := hNE.1
  have hS' := hS
  obtain ⟨E_G, F_nodeCount, F_edgeCount, F_first, F_next, F_head, F_room, F_level, F_arc, F_queue, F_path, V_F, V_N, V_H, V_R, V_L, V_A, V_Q, V_P⟩ := hS'
  have K0 : Keep h0 h0 [aG, aF, aN, aH, aR, aL, aA, aQ, aP] := Keep.refl h0 _
  show own_Go p e below PO (s₁.setTop (mkF m 0 #[.val (.ref aG), .unset] []))
  refine own_back ?_ (fun t k => XS.aloadN X0.here hx rfl (hb hby d5_0) rfl rfl k)
  show own_Go p e below PO (s₁.setTop (mkF m 1 #[.val (.ref aG), .unset] [(.ref aG)]))
  obtain ⟨T1, X1, e1, st1⟩ := getF X0 hx hZ hown (host := "") (Or.inl (hw _ (List.mem_of_getElem? (i := 36) rfl))) Via.refl e0 F_nodeCount (g := (mkF m 1 #[.val (.ref aG), .unset] [(.ref aG)])) rfl rfl (hb hby d5_1)
  refine own_back ?_ st1
  show own_Go p e below PO (T1.setTop (mkF m 4 #[.val (.ref aG), .unset] [(.int (3 : Int32))]))
  refine own_back ?_ (fun t k => XS.aloadN X1.here hx rfl (hb hby d5_4) rfl rfl k)
  show own_Go p e below PO (T1.setTop (mkF m 5 #[.val (.ref aG), .unset] [(.ref aG), (.int (3 : Int32))]))
  obtain ⟨T2, X2, e2, st2⟩ := getF X1 hx hZ hown (host := "") (Or.inl (hw _ (List.mem_of_getElem? (i := 14) rfl))) Via.refl e1 F_first (g := (mkF m 5 #[.val (.ref aG), .unset] [(.ref aG), (.int (3 : Int32))])) rfl rfl (hb hby d5_5)
  refine own_back ?_ st2
  show own_Go p e below PO (T2.setTop (mkF m 8 #[.val (.ref aG), .unset] [(.ref aF), (.int (3 : Int32))]))
  refine own_back ?_ (own_len X2 hx hZ e2 V_F (g := (mkF m 8 #[.val (.ref aG), .unset] [(.ref aF), (.int (3 : Int32))])) rfl rfl (hb hby d5_8))
  show own_Go p e below PO (T2.setTop (mkF m 9 #[.val (.ref aG), .unset] [(.int (16 : Int32)), (.int (3 : Int32))]))
  have hd9_3 : ¬ ((3 : Int32) = (16 : Int32)) := (by decide)
  refine own_back ?_ (fun t k => XS.icmpYes X2.here hx rfl (pc0 := 9) (pc' := 79) rfl (hb hby d5_9) rfl (feq hd9_3).2 (by decide) (by decide) k)
  show own_Go p e below PO (T2.setTop (mkF m 79 #[.val (.ref aG), .unset] []))
  refine own_back ?_ (fun t k => XS.aloadN X2.here hx rfl (hb hby d5_79) rfl rfl k)
  show own_Go p e below PO (T2.setTop (mkF m 80 #[.val (.ref aG), .unset] [(.ref aG)]))
  obtain ⟨T4, X4, e4, st4⟩ := getF X2 hx hZ hown (host := "") (Or.inl (hw _ (List.mem_of_getElem? (i := 14) rfl))) Via.refl e2 F_first (g := (mkF m 80 #[.val (.ref aG), .unset] [(.ref aG)])) rfl rfl (hb hby d5_80)
  refine own_back ?_ st4
  show own_Go p e below PO (T4.setTop (mkF m 83 #[.val (.ref aG), .unset] [(.ref aF)]))
  refine own_back ?_ (fun t k => XS.aloadN X4.here hx rfl (hb hby d5_83) rfl rfl k)
  show own_Go p e below PO (T4.setTop (mkF m 84 #[.val (.ref aG), .unset] [(.ref aG), (.ref aF)]))
  obtain ⟨T5, X5, e5, st5⟩ := getF X4 hx hZ hown (host := "") (Or.inl (hw _ (List.mem_of_getElem? (i := 36) rfl))) Via.refl e4 F_nodeCount (g := (mkF m 84 #[.val (.ref aG), .unset] [(.ref aG), (.ref aF)])) rfl rfl (hb hby d5_84)
  refine own_back ?_ st5
  show own_Go p e below PO (T5.setTop (mkF m 87 #[.val (.ref aG), .unset] [(.int (3 : Int32)), (.ref aF)]))
  refine own_back ?_ (fun t k => XS.iconst X5.here hx rfl (hb hby d5_87) k)
  show own_Go p e below PO (T5.setTop (mkF m 88 #[.val (.ref aG), .unset] [(.int (-1 : Int32)), (.int (3 : Int32)), (.ref aF)]))
  obtain ⟨T6, h6, X6, e6, W6, V6, st6⟩ := own_stI X5 hx hZ e5 V_F (j := (3 : Int32)) ⟨by decide, by decide⟩ (i := 3) rfl (own_ixk _ (by decide)) (g := (mkF m 88 #[.val (.ref aG), .unset] [(.int (-1 : Int32)), (.int (3 : Int32)), (.ref aF)])) rfl rfl (hb hby d5_88)
  rw [own_setk (x := (-1)) 3 3 (by omega) (by decide) own_im1.symm] at V6
  have f6_7 := E_G.wr W6
  have f6_8 := F_nodeCount.other W6 (Or.inl (own_ne_aG_aF hNE))
  have f6_9 := F_edgeCount.other W6 (Or.inl (own_ne_aG_aF hNE))
  have f6_10 := F_first.other W6 (Or.inl (own_ne_aG_aF hNE))
  have f6_11 := F_next.other W6 (Or.inl (own_ne_aG_aF hNE))
  have f6_12 := F_head.other W6 (Or.inl (own_ne_aG_aF hNE))
  have f6_13 := F_room.other W6 (Or.inl (own_ne_aG_aF hNE))
  have f6_14 := F_level.other W6 (Or.inl (own_ne_aG_aF hNE))
  have f6_15 := F_arc.other W6 (Or.inl (own_ne_aG_aF hNE))
  have f6_16 := F_queue.other W6 (Or.inl (own_ne_aG_aF hNE))
  have f6_17 := F_path.other W6 (Or.inl (own_ne_aG_aF hNE))
  have f6_18 := V_N.other W6 (Ne.symm (own_ne_aF_aN hNE))
  have f6_19 := V_H.other W6 (Ne.symm (own_ne_aF_aH hNE))
  have f6_20 := V_R.other W6 (Ne.symm (own_ne_aF_aR hNE))
  have f6_21 := V_L.other W6 (Ne.symm (own_ne_aF_aL hNE))
  have f6_22 := V_A.other W6 (Ne.symm (own_ne_aF_aA hNE))
  have f6_23 := V_Q.other W6 (Ne.symm (own_ne_aF_aQ hNE))
  have f6_24 := V_P.other W6 (Ne.symm (own_ne_aF_aP hNE))
  have K6 : Keep h0 h6 [aG, aF, aN, aH, aR, aL, aA, aQ, aP] := (K0).wr W6 (Or.inl (by simp))
  have N6 := Fr.snoc X6 N0 gn_aF
  have Zh6 : n0 ≤ h6.size := Nat.le_trans Z0 K6.1
  refine own_back ?_ st6
  show own_Go p e below PO (T6.setTop (mkF m 89 #[.val (.ref aG), .unset] []))
  refine own_back ?_ (fun t k => XS.aloadN X6.here hx rfl (hb hby d5_89) rfl rfl k)
  show own_Go p e below PO (T6.setTop (mkF m 90 #[.val (.ref aG), .unset] [(.ref aG)]))
  refine own_back ?_ (fun t k => XS.dup X6.here hx rfl (hb hby d5_90) rfl rfl k)
  show own_Go p e below PO (T6.setTop (mkF m 91 #[.val (.ref aG), .unset] [(.ref aG), (.ref aG)]))
  obtain ⟨T25, X25, e25, st25⟩ := getF X6 hx hZ hown (host := "") (Or.inl (hw _ (List.mem_of_getElem? (i := 36) rfl))) Via.refl e6 f6_8 (g := (mkF m 91 #[.val (.ref aG), .unset] [(.ref aG), (.ref aG)])) rfl rfl (hb hby d5_91)
  refine own_back ?_ st25
  show own_Go p e below PO (T25.setTop (mkF m 94 #[.val (.ref aG), .unset] [(.int (3 : Int32)), (.ref aG)]))
  refine own_back ?_ (fun t k => XS.dupX1 X25.here hx rfl (hb hby d5_94) rfl rfl rfl k)
  show own_Go p e below PO (T25.setTop (mkF m 95 #[.val (.ref aG), .unset] [(.int (3 : Int32)), (.ref aG), (.int (3 : Int32))]))
  refine own_back ?_ (fun t k => XS.iconst X25.here hx rfl (hb hby d5_95) k)
  show own_Go p e below PO (T25.setTop (mkF m 96 #[.val (.ref aG), .unset] [(.int (1 : Int32)), (.int (3 : Int32)), (.ref aG), (.int (3 : Int32))]))
  refine own_back ?_ (fun t k => XS.iadd X25.here hx rfl (hb hby d5_96) rfl k)
  show own_Go p e below PO (T25.setTop (mkF m 97 #[.val (.ref aG), .unset] [(.int (4 : Int32)), (.ref aG), (.int (3 : Int32))]))
  obtain ⟨T26, h26, X26, e26, W26, st26⟩ := putF X25 hx hZ hown (host := "") (Or.inl (hw _ (List.mem_of_getElem? (i := 36) rfl))) Via.refl e25 f6_8 f6_7 (Or.inl (hw _ (List.mem_of_getElem? (i := 37) rfl))) (hw _ (List.mem_of_getElem? (i := 5) rfl)) (ty := .int) (by decide) rfl rfl (g := (mkF m 97 #[.val (.ref aG), .unset] [(.int (4 : Int32)), (.ref aG), (.int (3 : Int32))])) rfl rfl (hb hby d5_97)
  have Fw26 := f6_8.same W26
  have f26_27 := f6_7.wr W26
  have f26_28 := f6_9.other W26 (Or.inr (slot_ne (Or.inl (hw _ (List.mem_of_getElem? (i := 39) rfl))) (Or.inl (hw _ (List.mem_of_getElem? (i := 37) rfl))) (by decide) (t := .int) (t' := .int) (by decide) (by decide)))
  have f26_29 := f6_10.other W26 (Or.inr (slot_ne (Or.inl (hw _ (List.mem_of_getElem? (i := 15) rfl))) (Or.inl (hw _ (List.mem_of_getElem? (i := 37) rfl))) (by decide) (t := (.array .int)) (t' := .int) (by decide) (by decide)))
  have f26_30 := f6_11.other W26 (Or.inr (slot_ne (Or.inl (hw _ (List.mem_of_getElem? (i := 17) rfl))) (Or.inl (hw _ (List.mem_of_getElem? (i := 37) rfl))) (by decide) (t := (.array .int)) (t' := .int) (by decide) (by decide)))
  have f26_31 := f6_12.other W26 (Or.inr (slot_ne (Or.inl (hw _ (List.mem_of_getElem? (i := 19) rfl))) (Or.inl (hw _ (List.mem_of_getElem? (i := 37) rfl))) (by decide) (t := (.array .int)) (t' := .int) (by decide) (by decide)))
  have f26_32 := f6_13.other W26 (Or.inr (slot_ne (Or.inl (hw _ (List.mem_of_getElem? (i := 22) rfl))) (Or.inl (hw _ (List.mem_of_getElem? (i := 37) rfl))) (by decide) (t := (.array .double)) (t' := .int) (by decide) (by decide)))
  have f26_33 := f6_14.other W26 (Or.inr (slot_ne (Or.inl (hw _ (List.mem_of_getElem? (i := 24) rfl))) (Or.inl (hw _ (List.mem_of_getElem? (i := 37) rfl))) (by decide) (t := (.array .int)) (t' := .int) (by decide) (by decide)))
  have f26_34 := f6_15.other W26 (Or.inr (slot_ne (Or.inl (hw _ (List.mem_of_getElem? (i := 26) rfl))) (Or.inl (hw _ (List.mem_of_getElem? (i := 37) rfl))) (by decide) (t := (.array .int)) (t' := .int) (by decide) (by decide)))
  have f26_35 := f6_16.other W26 (Or.inr (slot_ne (Or.inl (hw _ (List.mem_of_getElem? (i := 28) rfl))) (Or.inl (hw _ (List.mem_of_getElem? (i := 37) rfl))) (by decide) (t := (.array .int)) (t' := .int) (by decide) (by decide)))
  have f26_36 := f6_17.other W26 (Or.inr (slot_ne (Or.inl (hw _ (List.mem_of_getElem? (i := 30) rfl))) (Or.inl (hw _ (List.mem_of_getElem? (i := 37) rfl))) (by decide) (t := (.array .int)) (t' := .int) (by decide) (by decide)))
  have f26_37 := V6.other W26 (Ne.symm (own_ne_aG_aF hNE))
  have f26_38 := f6_18.other W26 (Ne.symm (own_ne_aG_aN hNE))
  have f26_39 := f6_19.other W26 (Ne.symm (own_ne_aG_aH hNE))
  have f26_40 := f6_20.other W26 (Ne.symm (own_ne_aG_aR hNE))
  have f26_41 := f6_21.other W26 (Ne.symm (own_ne_aG_aL hNE))
  have f26_42 := f6_22.other W26 (Ne.symm (own_ne_aG_aA hNE))
  have f26_43 := f6_23.other W26 (Ne.symm (own_ne_aG_aQ hNE))
  have f26_44 := f6_24.other W26 (Ne.symm (own_ne_aG_aP hNE))
  have K26 : Keep h0 h26 [aG, aF, aN, aH, aR, aL, aA, aQ, aP] := (K6).wr W26 (Or.inl (by simp))
  have N26 := Fr.snoc X26 N6 gn_aG
  have Zh26 : n0 ≤ h26.size := Nat.le_trans Z0 K26.1
  refine own_back ?_ st26
  show own_Go p e below PO (T26.setTop (mkF m 100 #[.val (.ref aG), .unset] [(.int (3 : Int32))]))
  refine own_retI X26 hx (rest := []) Bd.returns (hb hby d5_100) e26 (Bd.notSynchronized) ?_ (by decide) (by decide)
  exact ⟨rfl, N26, K26, ⟨f26_27, Fw26, f26_28, f26_29, f26_30, f26_31, f26_32, f26_33, f26_34, f26_35, f26_36, f26_37, f26_38, f26_39, f26_40, f26_41, f26_42, f26_43, f26_44⟩⟩
theorem pd_5 : parseMethodDescriptor "()I" = some ⟨[], some .int⟩ := by decide +kernel
theorem d4_0 : decode prog_25_method_2_code 0 = .ok (.aload_n 0, 1) := by decide +kernel
theorem d4_1 : decode prog_25_method_2_code 1 = .ok (.iconst 0, 1) := by decide +kernel
theorem d4_2 : decode prog_25_method_2_code 2 = .ok (.putfield 35, 3) := by decide +kernel
theorem d4_5 : decode prog_25_method_2_code 5 = .ok (.aload_n 0, 1) := by decide +kernel
theorem d4_6 : decode prog_25_method_2_code 6 = .ok (.iconst 0, 1) := by decide +kernel
theorem d4_7 : decode prog_25_method_2_code 7 = .ok (.putfield 39, 3) := by decide +kernel
theorem d4_10 : decode prog_25_method_2_code 10 = .ok (.iconst 0, 1) := by decide +kernel
theorem d4_11 : decode prog_25_method_2_code 11 = .ok (.istore_n 2, 1) := by decide +kernel
theorem d4_12 : decode prog_25_method_2_code 12 = .ok (.iload_n 2, 1) := by decide +kernel
theorem d4_13 : decode prog_25_method_2_code 13 = .ok (.iload_n 1, 1) := by decide +kernel
theorem d4_14 : decode prog_25_method_2_code 14 = .ok (.if_icmp .ge 14, 3) := by decide +kernel
theorem d4_17 : decode prog_25_method_2_code 17 = .ok (.aload_n 0, 1) := by decide +kernel
theorem d4_18 : decode prog_25_method_2_code 18 = .ok (.invokevirtual 42, 3) := by decide +kernel
theorem d4_21 : decode prog_25_method_2_code 21 = .ok (.pop, 1) := by decide +kernel
theorem d4_22 : decode prog_25_method_2_code 22 = .ok (.iinc 2 1, 3) := by decide +kernel
theorem d4_25 : decode prog_25_method_2_code 25 = .ok (.goto (-13), 3) := by decide +kernel
theorem d4_28 : decode prog_25_method_2_code 28 = .ok (.return_, 1) := by decide +kernel
theorem ef_rmReset (m : MethodId) (x0 : Addr) (x1 : Int32) : entryFrame m #[(.ref x0), (.int x1)] 3 = mkF m 0 #[.val (.ref x0), .val (.int x1), .unset] [] := by first | (simp [entryFrame, mkF, argsToLocals, Value.category]; done) | rfl
def Q_rmReset (Z : State) (aG aF aN aH aR aL aA aQ aP : Addr) (kF kN kH kR kL kA kQ kP : ClassId) (fst nxt hd rm lev arc que pth : Int → Int) (h0 : Heap) (n0 : Nat) (v : Option Value) (h : Heap) (L : List Loc) : Prop := v = none ∧ Fr n0 L ∧ Keep h0 h [aG, aF, aN, aH, aR, aL, aA, aQ, aP] ∧ own_S Z h aG aF aN aH aR aL aA aQ aP kF kN kH kR kL kA kQ kP (4 : Int32) (0 : Int32) (own_up (own_up (own_up (own_up fst 0 (-1)) 1 (-1)) 2 (-1)) 3 (-1)) nxt hd rm lev arc que pth
set_option maxRecDepth 65536 in
set_option maxHeartbeats 40000000 in
theorem rmReset (l : Launch) (Z : State) (a0 : Array Value) (hw : ∀ d ∈ tables_1, d.before a0 Z = true) (ws : List Jvm.Cond) (aG : Addr) (aF aN aH aR aL aA aQ aP : Addr) (kF kN kH kR kL kA kQ kP : ClassId) (fst nxt hd rm lev arc que pth : Int → Int) (h0 : Heap) (n0 : Nat) (Z0 : n0 ≤ h0.size) (hNE : own_NE n0 aG aF aN aH aR aL aA aQ aP) (hS : own_S Z h0 aG aF aN aH aR aL aA aQ aP kF kN kH kR kL kA kQ kP (0 : Int32) (0 : Int32) fst nxt hd rm lev arc que pth) :
    MetFree l (⟨"com/example/nearbound/nearbound/graph/MinCut", "reset", "(I)V"⟩ : MethodName) (head1 (Jvm.Cond.code (⟨"com/example/nearbound/nearbound/graph/MinCut", "reset", "(I)V"⟩ : MethodName) prog_25_method_2_code 3 none :: ws) ({ frames := 1, cells := 0, slots := 0, locals := 13 } : Room)) (fun a U => a = #[(.ref aG), (.int (4 : Int32))] ∧ Z.Warmed39 U.vm ∧ U.heap = h0) (fun _ _ _ _ _ => True) (fun _ U o U' => ∃ v L, o = .returned v ∧ Q_rmReset Z aG aF aN aH aR aL aA aQ aP kF kN kH kR kL kA kQ kP fst nxt hd rm lev arc que pth h0 n0 v U'.heap L ∧ FrameEnd U o U' L ({ frames := 1, cells := 0, slots := 0, locals := 13 } : Room).cells ({ frames := 1, cells := 0, slots := 0, locals := 13 } : Room).slots) := by
  refine MetFree.of_bodySF (plainFor_of_name pn_2) hisR ?_
  intro p e s m args below meth c s₁ Bd hml0 hP hK
  obtain ⟨rfl, hZ, hh⟩ := hP
  have hx := Bd.exec
  have hby := Bd.bytes
  have hml : c.maxLocals = 3 := hml0
  have hown : s.vm.findClass "com/example/nearbound/nearbound/graph/MinCut" = some m.cls := findClass_of_methodNamed Bd.named
  have hnm := (name_of_methodNamed Bd.named Bd.method).1
  have X0 : Stand p l e ({ frames := 1, cells := 0, slots := 0, locals := 13 } : Room) s m #[(.ref aG), (.int (4 : Int32))] below meth c s₁ [] 0 0 := Stand.of_body Bd
  have e0 : s₁.heap = h0 := by rw [← hh, Bd.state]; rfl
  have N0 := Fr.nil n0
  let PO : Outcome → State → Prop := own_PO s (Q_rmReset Z aG aF aN aH aR aL aA aQ aP kF kN kH kR kL kA kQ kP fst nxt hd rm lev arc que pth h0 n0) 0 0
  show own_Go p e below PO (s₁.setTop (entryFrame m #[(.ref aG), (.int (4 : Int32))] 3))
  rw [ef_rmReset]
  obtain ⟨gn_aG, gn_aF, gn_aN, gn_aH, gn_aR, gn_aL, gn_aA, gn_aQ, gn_aP⟩ := hNE.1
  have hS' := hS
  obtain ⟨E_G, F_nodeCount, F_edgeCount, F_first, F_next, F_head, F_room, F_level, F_arc, F_queue, F_path, V_F, V_N, V_H, V_R, V_L, V_A, V_Q, V_P⟩ := hS'
  have K0 : Keep h0 h0 [aG, aF, aN, aH, aR, aL, aA, aQ, aP] := Keep.refl h0 _
  show own_Go p e below PO (s₁.setTop (mkF m 0 #[.val (.ref aG), .val (.int (4 : Int32)), .unset] []))
  refine own_back ?_ (fun t k => XS.aloadN X0.here hx rfl (hb hby d4_0) rfl rfl k)
  show own_Go p e below PO (s₁.setTop (mkF m 1 #[.val (.ref aG), .val (.int (4 : Int32)), .unset] [(.ref aG)]))
  refine own_back ?_ (fun t k => XS.iconst X0.here hx rfl (hb hby d4_1) k)
  show own_Go p e below PO (s₁.setTop (mkF m 2 #[.val (.ref aG), .val (.int (4 : Int32)), .unset] [(.int (0 : Int32)), (.ref aG)]))
  obtain ⟨T1, h1, X1, e1, W1, st1⟩ := putF X0 hx hZ hown (host := "") (Or.inl (hw _ (List.mem_of_getElem? (i := 36) rfl))) Via.refl e0 F_nodeCount E_G (Or.inl (hw _ (List.mem_of_getElem? (i := 37) rfl))) (hw _ (List.mem_of_getElem? (i := 5) rfl)) (ty := .int) (by decide) rfl rfl (g := (mkF m 2 #[.val (.ref aG), .val (.int (4 : Int32)), .unset] [(.int (0 : Int32)), (.ref aG)])) rfl rfl (hb hby d4_2)
  have Fw1 := F_nodeCount.same W1
  have f1_2 := E_G.wr W1
  have f1_3 := F_edgeCount.other W1 (Or.inr (slot_ne (Or.inl (hw _ (List.mem_of_getElem? (i := 39) rfl))) (Or.inl (hw _ (List.mem_of_getElem? (i := 37) rfl))) (by decide) (t := .int) (t' := .int) (by decide) (by decide)))
  have f1_4 := F_first.other W1 (Or.inr (slot_ne (Or.inl (hw _ (List.mem_of_getElem? (i := 15) rfl))) (Or.inl (hw _ (List.mem_of_getElem? (i := 37) rfl))) (by decide) (t := (.array .int)) (t' := .int) (by decide) (by decide)))
  have f1_5 := F_next.other W1 (Or.inr (slot_ne (Or.inl (hw _ (List.mem_of_getElem? (i := 17) rfl))) (Or.inl (hw _ (List.mem_of_getElem? (i := 37) rfl))) (by decide) (t := (.array .int)) (t' := .int) (by decide) (by decide)))
  have f1_6 := F_head.other W1 (Or.inr (slot_ne (Or.inl (hw _ (List.mem_of_getElem? (i := 19) rfl))) (Or.inl (hw _ (List.mem_of_getElem? (i := 37) rfl))) (by decide) (t := (.array .int)) (t' := .int) (by decide) (by decide)))
  have f1_7 := F_room.other W1 (Or.inr (slot_ne (Or.inl (hw _ (List.mem_of_getElem? (i := 22) rfl))) (Or.inl (hw _ (List.mem_of_getElem? (i := 37) rfl))) (by decide) (t := (.array .double)) (t' := .int) (by decide) (by decide)))
  have f1_8 := F_level.other W1 (Or.inr (slot_ne (Or.inl (hw _ (List.mem_of_getElem? (i := 24) rfl))) (Or.inl (hw _ (List.mem_of_getElem? (i := 37) rfl))) (by decide) (t := (.array .int)) (t' := .int) (by decide) (by decide)))
  have f1_9 := F_arc.other W1 (Or.inr (slot_ne (Or.inl (hw _ (List.mem_of_getElem? (i := 26) rfl))) (Or.inl (hw _ (List.mem_of_getElem? (i := 37) rfl))) (by decide) (t := (.array .int)) (t' := .int) (by decide) (by decide)))
  have f1_10 := F_queue.other W1 (Or.inr (slot_ne (Or.inl (hw _ (List.mem_of_getElem? (i := 28) rfl))) (Or.inl (hw _ (List.mem_of_getElem? (i := 37) rfl))) (by decide) (t := (.array .int)) (t' := .int) (by decide) (by decide)))
  have f1_11 := F_path.other W1 (Or.inr (slot_ne (Or.inl (hw _ (List.mem_of_getElem? (i := 30) rfl))) (Or.inl (hw _ (List.mem_of_getElem? (i := 37) rfl))) (by decide) (t := (.array .int)) (t' := .int) (by decide) (by decide)))
  have f1_12 := V_F.other W1 (Ne.symm (own_ne_aG_aF hNE))
  have f1_13 := V_N.other W1 (Ne.symm (own_ne_aG_aN hNE))
  have f1_14 := V_H.other W1 (Ne.symm (own_ne_aG_aH hNE))
  have f1_15 := V_R.other W1 (Ne.symm (own_ne_aG_aR hNE))
  have f1_16 := V_L.other W1 (Ne.symm (own_ne_aG_aL hNE))
  have f1_17 := V_A.other W1 (Ne.symm (own_ne_aG_aA hNE))
  have f1_18 := V_Q.other W1 (Ne.symm (own_ne_aG_aQ hNE))
  have f1_19 := V_P.other W1 (Ne.symm (own_ne_aG_aP hNE))
  have K1 : Keep h0 h1 [aG, aF, aN, aH, aR, aL, aA, aQ, aP] := (K0).wr W1 (Or.inl (by simp))
  have N1 := Fr.snoc X1 N0 gn_aG
  have Zh1 : n0 ≤ h1.size := Nat.le_trans Z0 K1.1
  refine own_back ?_ st1
  show own_Go p e below PO (T1.setTop (mkF m 5 #[.val (.ref aG), .val (.int (4 : Int32)), .unset] []))
  refine own_back ?_ (fun t k => XS.aloadN X1.here hx rfl (hb hby d4_5) rfl rfl k)
  show own_Go p e below PO (T1.setTop (mkF m 6 #[.val (.ref aG), .val (.int (4 : Int32)), .unset] [(.ref aG)]))
  refine own_back ?_ (fun t k => XS.iconst X1.here hx rfl (hb hby d4_6) k)
  show own_Go p e below PO (T1.setTop (mkF m 7 #[.val (.ref aG), .val (.int (4 : Int32)), .unset] [(.int (0 : Int32)), (.ref aG)]))
  obtain ⟨T20, h20, X20, e20, W20, st20⟩ := putF X1 hx hZ hown (host := "") (Or.inl (hw _ (List.mem_of_getElem? (i := 38) rfl))) Via.refl e1 f1_3 f1_2 (Or.inl (hw _ (List.mem_of_getElem? (i := 39) rfl))) (hw _ (List.mem_of_getElem? (i := 5) rfl)) (ty := .int) (by decide) rfl rfl (g := (mkF m 7 #[.val (.ref aG), .val (.int (4 : Int32)), .unset] [(.int (0 : Int32)), (.ref aG)])) rfl rfl (hb hby d4_7)
  have Fw20 := f1_3.same W20
  have f20_21 := f1_2.wr W20
  have f20_22 := Fw1.other W20 (Or.inr (slot_ne (Or.inl (hw _ (List.mem_of_getElem? (i := 37) rfl))) (Or.inl (hw _ (List.mem_of_getElem? (i := 39) rfl))) (by decide) (t := .int) (t' := .int) (by decide) (by decide)))
  have f20_23 := f1_4.other W20 (Or.inr (slot_ne (Or.inl (hw _ (List.mem_of_getElem? (i := 15) rfl))) (Or.inl (hw _ (List.mem_of_getElem? (i := 39) rfl))) (by decide) (t := (.array .int)) (t' := .int) (by decide) (by decide)))
  have f20_24 := f1_5.other W20 (Or.inr (slot_ne (Or.inl (hw _ (List.mem_of_getElem? (i := 17) rfl))) (Or.inl (hw _ (List.mem_of_getElem? (i := 39) rfl))) (by decide) (t := (.array .int)) (t' := .int) (by decide) (by decide)))
  have f20_25 := f1_6.other W20 (Or.inr (slot_ne (Or.inl (hw _ (List.mem_of_getElem? (i := 19) rfl))) (Or.inl (hw _ (List.mem_of_getElem? (i := 39) rfl))) (by decide) (t := (.array .int)) (t' := .int) (by decide) (by decide)))
  have f20_26 := f1_7.other W20 (Or.inr (slot_ne (Or.inl (hw _ (List.mem_of_getElem? (i := 22) rfl))) (Or.inl (hw _ (List.mem_of_getElem? (i := 39) rfl))) (by decide) (t := (.array .double)) (t' := .int) (by decide) (by decide)))
  have f20_27 := f1_8.other W20 (Or.inr (slot_ne (Or.inl (hw _ (List.mem_of_getElem? (i := 24) rfl))) (Or.inl (hw _ (List.mem_of_getElem? (i := 39) rfl))) (by decide) (t := (.array .int)) (t' := .int) (by decide) (by decide)))
  have f20_28 := f1_9.other W20 (Or.inr (slot_ne (Or.inl (hw _ (List.mem_of_getElem? (i := 26) rfl))) (Or.inl (hw _ (List.mem_of_getElem? (i := 39) rfl))) (by decide) (t := (.array .int)) (t' := .int) (by decide) (by decide)))
  have f20_29 := f1_10.other W20 (Or.inr (slot_ne (Or.inl (hw _ (List.mem_of_getElem? (i := 28) rfl))) (Or.inl (hw _ (List.mem_of_getElem? (i := 39) rfl))) (by decide) (t := (.array .int)) (t' := .int) (by decide) (by decide)))
  have f20_30 := f1_11.other W20 (Or.inr (slot_ne (Or.inl (hw _ (List.mem_of_getElem? (i := 30) rfl))) (Or.inl (hw _ (List.mem_of_getElem? (i := 39) rfl))) (by decide) (t := (.array .int)) (t' := .int) (by decide) (by decide)))
  have f20_31 := f1_12.other W20 (Ne.symm (own_ne_aG_aF hNE))
  have f20_32 := f1_13.other W20 (Ne.symm (own_ne_aG_aN hNE))
  have f20_33 := f1_14.other W20 (Ne.symm (own_ne_aG_aH hNE))
  have f20_34 := f1_15.other W20 (Ne.symm (own_ne_aG_aR hNE))
  have f20_35 := f1_16.other W20 (Ne.symm (own_ne_aG_aL hNE))
  have f20_36 := f1_17.other W20 (Ne.symm (own_ne_aG_aA hNE))
  have f20_37 := f1_18.other W20 (Ne.symm (own_ne_aG_aQ hNE))
  have f20_38 := f1_19.other W20 (Ne.symm (own_ne_aG_aP hNE))
  have K20 : Keep h0 h20 [aG, aF, aN, aH, aR, aL, aA, aQ, aP] := (K1).wr W20 (Or.inl (by simp))
  have N20 := Fr.snoc X20 N1 gn_aG
  have Zh20 : n0 ≤ h20.size := Nat.le_trans Z0 K20.1
  refine own_back ?_ st20
  show own_Go p e below PO (T20.setTop (mkF m 10 #[.val (.ref aG), .val (.int (4 : Int32)), .unset] []))
  refine own_back ?_ (fun t k => XS.iconst X20.here hx rfl (hb hby d4_10) k)
  show own_Go p e below PO (T20.setTop (mkF m 11 #[.val (.ref aG), .val (.int (4 : Int32)), .unset] [(.int (0 : Int32))]))
  refine own_back ?_ (fun t k => XS.istoreN X20.here hx rfl (hb hby d4_11) rfl (l' := #[.val (.ref aG), .val (.int (4 : Int32)), .val (.int (0 : Int32))]) rfl k)
  show own_Go p e below PO (T20.setTop (mkF m 12 #[.val (.ref aG), .val (.int (4 : Int32)), .val (.int (0 : Int32))] []))
  refine own_back ?_ (fun t k => XS.iloadN X20.here hx rfl (hb hby d4_12) rfl k)
  show own_Go p e below PO (T20.setTop (mkF m 13 #[.val (.ref aG), .val (.int (4 : Int32)), .val (.int (0 : Int32))] [(.int (0 : Int32))]))
  refine own_back ?_ (fun t k => XS.iloadN X20.here hx rfl (hb hby d4_13) rfl k)
  show own_Go p e below PO (T20.setTop (mkF m 14 #[.val (.ref aG), .val (.int (4 : Int32)), .val (.int (0 : Int32))] [(.int (4 : Int32)), (.int (0 : Int32))]))
  have hd14_39 : (0 : Int32) < (4 : Int32) := (by decide)
  refine own_back ?_ (fun t k => XS.icmpNo X20.here hx rfl (hb hby d4_14) rfl (tlt hd14_39).2.1 k)
  show own_Go p e below PO (T20.setTop (mkF m 17 #[.val (.ref aG), .val (.int (4 : Int32)), .val (.int (0 : Int32))] []))
  refine own_back ?_ (fun t k => XS.aloadN X20.here hx rfl (hb hby d4_17) rfl rfl k)
  show own_Go p e below PO (T20.setTop (mkF m 18 #[.val (.ref aG), .val (.int (4 : Int32)), .val (.int (0 : Int32))] [(.ref aG)]))
  obtain ⟨cq40, kq40, q40a, q40b, q40c⟩ := isOf hZ e20 f20_21
  obtain ⟨_, _, ⟨T40, L40, k40, n40⟩, -, X40, ⟨Lc40, hQ40, l40, y40, z40⟩, st40⟩ := X20.virtualBack hx (y := (⟨"com/example/nearbound/nearbound/graph/MinCut", "addNode", "()I"⟩ : MethodName)) (z := (⟨"com/example/nearbound/nearbound/graph/MinCut", "addNode", "()I"⟩ : MethodName)) hown (mvT hZ (hw _ (List.mem_of_getElem? (i := 40) rfl))) (mvT hZ (hw _ (List.mem_of_getElem? (i := 41) rfl))) (notFace_of_selects (args := #[]) (mvT hZ (hw _ (List.mem_of_getElem? (i := 43) rfl)))) (mvT hZ (hw _ (List.mem_of_getElem? (i := 43) rfl))) (mvT hZ (hw _ (List.mem_of_getElem? (i := 42) rfl))) (by decide) (backOf (W := 0) (rmNode_0 l Z a0 hw [] aG aF aN aH aR aL aA aQ aP kF kN kH kR kL kA kQ kP fst nxt hd rm lev arc que pth h20 n0 Zh20 hNE ⟨f20_21, f20_22, Fw20, f20_23, f20_24, f20_25, f20_26, f20_27, f20_28, f20_29, f20_30, f20_31, f20_32, f20_33, f20_34, f20_35, f20_36, f20_37, f20_38⟩) hZ (hw _ (List.mem_of_getElem? (i := 44) rfl)) (hw _ (List.mem_of_getElem? (i := 6) rfl)) (by decide) (by decide)) q40a q40c (g := (mkF m 18 #[.val (.ref aG), .val (.int (4 : Int32)), .val (.int (0 : Int32))] [(.ref aG)])) rfl (by rw [hml]; rfl) (Steps.refl _) (argsL := []) (rest := []) (lenOf pd_5 rfl) rfl (by show 2 * 0 + _ ≤ _; exact Nat.le_of_eq rfl) (hb hby d4_18) (fun _ _ => ⟨rfl, e20, (by decide : 0 + 0 ≤ _), (by decide : 0 + 0 ≤ _)⟩)
  dsimp only [Pt.U, Pt.locs, Pt.cells, Pt.slots] at X40 l40 y40 z40 st40 hQ40
  subst l40 y40 z40
  obtain ⟨rfl, N40q, Kc40, hS40⟩ := hQ40
  have N40 := Fr.app N20 N40q
  have K40 : Keep h0 T40.heap [aG, aF, aN, aH, aR, aL, aA, aQ, aP] := (K20).trans Kc40 (fun x hx => Or.inl hx)
  have Zh40 : n0 ≤ T40.heap.size := Nat.le_trans Z0 K40.1
  obtain ⟨E_G40, F_nodeCount40, F_edgeCount40, F_first40, F_next40, F_head40, F_room40, F_level40, F_arc40, F_queue40, F_path40, V_F40, V_N40, V_H40, V_R40, V_L40, V_A40, V_Q40, V_P40⟩ := hS40
  refine own_back ?_ (fun t k => st40.trans k)
  show own_Go p e below PO (T40.setTop (mkF m 21 #[.val (.ref aG), .val (.int (4 : Int32)), .val (.int (0 : Int32))] [(.int (0 : Int32))]))
  refine own_back ?_ (fun t k => XS.pop X40.here hx rfl (hb hby d4_21) rfl rfl k)
  show own_Go p e below PO (T40.setTop (mkF m 22 #[.val (.ref aG), .val (.int (4 : Int32)), .val (.int (0 : Int32))] []))
  refine own_back ?_ (fun t k => XS.iinc X40.here hx rfl (hb hby d4_22) rfl (l' := #[.val (.ref aG), .val (.int (4 : Int32)), .val (.int (1 : Int32))]) rfl k)
  show own_Go p e below PO (T40.setTop (mkF m 25 #[.val (.ref aG), .val (.int (4 : Int32)), .val (.int (1 : Int32))] []))
  refine own_back ?_ (fun t k => XS.goto X40.here hx rfl (pc0 := 25) (pc' := 12) rfl (hb hby d4_25) (by decide) (by decide) k)
  show own_Go p e below PO (T40.setTop (mkF m 12 #[.val (.ref aG), .val (.int (4 : Int32)), .val (.int (1 : Int32))] []))
  refine own_back ?_ (fun t k => XS.iloadN X40.here hx rfl (hb hby d4_12) rfl k)
  show own_Go p e below PO (T40.setTop (mkF m 13 #[.val (.ref aG), .val (.int (4 : Int32)), .val (.int (1 : Int32))] [(.int (1 : Int32))]))
  refine own_back ?_ (fun t k => XS.iloadN X40.here hx rfl (hb hby d4_13) rfl k)
  show own_Go p e below PO (T40.setTop (mkF m 14 #[.val (.ref aG), .val (.int (4 : Int32)), .val (.int (1 : Int32))] [(.int (4 : Int32)), (.int (1 : Int32))]))
  have hd14_41 : (1 : Int32) < (4 : Int32) := (by decide)
  refine own_back ?_ (fun t k => XS.icmpNo X40.here hx rfl (hb hby d4_14) rfl (tlt hd14_41).2.1 k)
  show own_Go p e below PO (T40.setTop (mkF m 17 #[.val (.ref aG), .val (.int (4 : Int32)), .val (.int (1 : Int32))] []))
  refine own_back ?_ (fun t k => XS.aloadN X40.here hx rfl (hb hby d4_17) rfl rfl k)
  show own_Go p e below PO (T40.setTop (mkF m 18 #[.val (.ref aG), .val (.int (4 : Int32)), .val (.int (1 : Int32))] [(.ref aG)]))
  obtain ⟨cq42, kq42, q42a, q42b, q42c⟩ := isOf hZ rfl E_G40
  obtain ⟨_, _, ⟨T42, L42, k42, n42⟩, -, X42, ⟨Lc42, hQ42, l42, y42, z42⟩, st42⟩ := X40.virtualBack hx (y := (⟨"com/example/nearbound/nearbound/graph/MinCut", "addNode", "()I"⟩ : MethodName)) (z := (⟨"com/example/nearbound/nearbound/graph/MinCut", "addNode", "()I"⟩ : MethodName)) hown (mvT hZ (hw _ (List.mem_of_getElem? (i := 40) rfl))) (mvT hZ (hw _ (List.mem_of_getElem? (i := 41) rfl))) (notFace_of_selects (args := #[]) (mvT hZ (hw _ (List.mem_of_getElem? (i := 43) rfl)))) (mvT hZ (hw _ (List.mem_of_getElem? (i := 43) rfl))) (mvT hZ (hw _ (List.mem_of_getElem? (i := 42) rfl))) (by decide) (backOf (W := 0) (rmNode_1 l Z a0 hw [] aG aF aN aH aR aL aA aQ aP kF kN kH kR kL kA kQ kP (own_up fst 0 (-1)) nxt hd rm lev arc que pth T40.heap n0 Zh40 hNE ⟨E_G40, F_nodeCount40, F_edgeCount40, F_first40, F_next40, F_head40, F_room40, F_level40, F_arc40, F_queue40, F_path40, V_F40, V_N40, V_H40, V_R40, V_L40, V_A40, V_Q40, V_P40⟩) hZ (hw _ (List.mem_of_getElem? (i := 44) rfl)) (hw _ (List.mem_of_getElem? (i := 6) rfl)) (by decide) (by decide)) q42a q42c (g := (mkF m 18 #[.val (.ref aG), .val (.int (4 : Int32)), .val (.int (1 : Int32))] [(.ref aG)])) rfl (by rw [hml]; rfl) (Steps.refl _) (argsL := []) (rest := []) (lenOf pd_5 rfl) rfl (by show 2 * 0 + _ ≤ _; exact Nat.le_of_eq rfl) (hb hby d4_18) (fun _ _ => ⟨rfl, rfl, (by decide : 0 + 0 ≤ _), (by decide : 0 + 0 ≤ _)⟩)
  dsimp only [Pt.U, Pt.locs, Pt.cells, Pt.slots] at X42 l42 y42 z42 st42 hQ42
  subst l42 y42 z42
  obtain ⟨rfl, N42q, Kc42, hS42⟩ := hQ42
  have N42 := Fr.app N40 N42q
  have K42 : Keep h0 T42.heap [aG, aF, aN, aH, aR, aL, aA, aQ, aP] := (K40).trans Kc42 (fun x hx => Or.inl hx)
  have Zh42 : n0 ≤ T42.heap.size := Nat.le_trans Z0 K42.1
  obtain ⟨E_G42, F_nodeCount42, F_edgeCount42, F_first42, F_next42, F_head42, F_room42, F_level42, F_arc42, F_queue42, F_path42, V_F42, V_N42, V_H42, V_R42, V_L42, V_A42, V_Q42, V_P42⟩ := hS42
  refine own_back ?_ (fun t k => st42.trans k)
  show own_Go p e below PO (T42.setTop (mkF m 21 #[.val (.ref aG), .val (.int (4 : Int32)), .val (.int (1 : Int32))] [(.int (1 : Int32))]))
  refine own_back ?_ (fun t k => XS.pop X42.here hx rfl (hb hby d4_21) rfl rfl k)
  show own_Go p e below PO (T42.setTop (mkF m 22 #[.val (.ref aG), .val (.int (4 : Int32)), .val (.int (1 : Int32))] []))
  refine own_back ?_ (fun t k => XS.iinc X42.here hx rfl (hb hby d4_22) rfl (l' := #[.val (.ref aG), .val (.int (4 : Int32)), .val (.int (2 : Int32))]) rfl k)
  show own_Go p e below PO (T42.setTop (mkF m 25 #[.val (.ref aG), .val (.int (4 : Int32)), .val (.int (2 : Int32))] []))
  refine own_back ?_ (fun t k => XS.goto X42.here hx rfl (pc0 := 25) (pc' := 12) rfl (hb hby d4_25) (by decide) (by decide) k)
  show own_Go p e below PO (T42.setTop (mkF m 12 #[.val (.ref aG), .val (.int (4 : Int32)), .val (.int (2 : Int32))] []))
  refine own_back ?_ (fun t k => XS.iloadN X42.here hx rfl (hb hby d4_12) rfl k)
  show own_Go p e below PO (T42.setTop (mkF m 13 #[.val (.ref aG), .val (.int (4 : Int32)), .val (.int (2 : Int32))] [(.int (2 : Int32))]))
  refine own_back ?_ (fun t k => XS.iloadN X42.here hx rfl (hb hby d4_13) rfl k)
  show own_Go p e below PO (T42.setTop (mkF m 14 #[.val (.ref aG), .val (.int (4 : Int32)), .val (.int (2 : Int32))] [(.int (4 : Int32)), (.int (2 : Int32))]))
  have hd14_43 : (2 : Int32) < (4 : Int32) := (by decide)
  refine own_back ?_ (fun t k => XS.icmpNo X42.here hx rfl (hb hby d4_14) rfl (tlt hd14_43).2.1 k)
  show own_Go p e below PO (T42.setTop (mkF m 17 #[.val (.ref aG), .val (.int (4 : Int32)), .val (.int (2 : Int32))] []))
  refine own_back ?_ (fun t k => XS.aloadN X42.here hx rfl (hb hby d4_17) rfl rfl k)
  show own_Go p e below PO (T42.setTop (mkF m 18 #[.val (.ref aG), .val (.int (4 : Int32)), .val (.int (2 : Int32))] [(.ref aG)]))
  obtain ⟨cq44, kq44, q44a, q44b, q44c⟩ := isOf hZ rfl E_G42
  obtain ⟨_, _, ⟨T44, L44, k44, n44⟩, -, X44, ⟨Lc44, hQ44, l44, y44, z44⟩, st44⟩ := X42.virtualBack hx (y := (⟨"com/example/nearbound/nearbound/graph/MinCut", "addNode", "()I"⟩ : MethodName)) (z := (⟨"com/example/nearbound/nearbound/graph/MinCut", "addNode", "()I"⟩ : MethodName)) hown (mvT hZ (hw _ (List.mem_of_getElem? (i := 40) rfl))) (mvT hZ (hw _ (List.mem_of_getElem? (i := 41) rfl))) (notFace_of_selects (args := #[]) (mvT hZ (hw _ (List.mem_of_getElem? (i := 43) rfl)))) (mvT hZ (hw _ (List.mem_of_getElem? (i := 43) rfl))) (mvT hZ (hw _ (List.mem_of_getElem? (i := 42) rfl))) (by decide) (backOf (W := 0) (rmNode_2 l Z a0 hw [] aG aF aN aH aR aL aA aQ aP kF kN kH kR kL kA kQ kP (own_up (own_up fst 0 (-1)) 1 (-1)) nxt hd rm lev arc que pth T42.heap n0 Zh42 hNE ⟨E_G42, F_nodeCount42, F_edgeCount42, F_first42, F_next42, F_head42, F_room42, F_level42, F_arc42, F_queue42, F_path42, V_F42, V_N42, V_H42, V_R42, V_L42, V_A42, V_Q42, V_P42⟩) hZ (hw _ (List.mem_of_getElem? (i := 44) rfl)) (hw _ (List.mem_of_getElem? (i := 6) rfl)) (by decide) (by decide)) q44a q44c (g := (mkF m 18 #[.val (.ref aG), .val (.int (4 : Int32)), .val (.int (2 : Int32))] [(.ref aG)])) rfl (by rw [hml]; rfl) (Steps.refl _) (argsL := []) (rest := []) (lenOf pd_5 rfl) rfl (by show 2 * 0 + _ ≤ _; exact Nat.le_of_eq rfl) (hb hby d4_18) (fun _ _ => ⟨rfl, rfl, (by decide : 0 + 0 ≤ _), (by decide : 0 + 0 ≤ _)⟩)
  dsimp only [Pt.U, Pt.locs, Pt.cells, Pt.slots] at X44 l44 y44 z44 st44 hQ44
  subst l44 y44 z44
  obtain ⟨rfl, N44q, Kc44, hS44⟩ := hQ44
  have N44 := Fr.app N42 N44q
  have K44 : Keep h0 T44.heap [aG, aF, aN, aH, aR, aL, aA, aQ, aP] := (K42).trans Kc44 (fun x hx => Or.inl hx)
  have Zh44 : n0 ≤ T44.heap.size := Nat.le_trans Z0 K44.1
  obtain ⟨E_G44, F_nodeCount44, F_edgeCount44, F_first44, F_next44, F_head44, F_room44, F_level44, F_arc44, F_queue44, F_path44, V_F44, V_N44, V_H44, V_R44, V_L44, V_A44, V_Q44, V_P44⟩ := hS44
  refine own_back ?_ (fun t k => st44.trans k)
  show own_Go p e below PO (T44.setTop (mkF m 21 #[.val (.ref aG), .val (.int (4 : Int32)), .val (.int (2 : Int32))] [(.int (2 : Int32))]))
  refine own_back ?_ (fun t k => XS.pop X44.here hx rfl (hb hby d4_21) rfl rfl k)
  show own_Go p e below PO (T44.setTop (mkF m 22 #[.val (.ref aG), .val (.int (4 : Int32)), .val (.int (2 : Int32))] []))
  refine own_back ?_ (fun t k => XS.iinc X44.here hx rfl (hb hby d4_22) rfl (l' := #[.val (.ref aG), .val (.int (4 : Int32)), .val (.int (3 : Int32))]) rfl k)
  show own_Go p e below PO (T44.setTop (mkF m 25 #[.val (.ref aG), .val (.int (4 : Int32)), .val (.int (3 : Int32))] []))
  refine own_back ?_ (fun t k => XS.goto X44.here hx rfl (pc0 := 25) (pc' := 12) rfl (hb hby d4_25) (by decide) (by decide) k)
  show own_Go p e below PO (T44.setTop (mkF m 12 #[.val (.ref aG), .val (.int (4 : Int32)), .val (.int (3 : Int32))] []))
  refine own_back ?_ (fun t k => XS.iloadN X44.here hx rfl (hb hby d4_12) rfl k)
  show own_Go p e below PO (T44.setTop (mkF m 13 #[.val (.ref aG), .val (.int (4 : Int32)), .val (.int (3 : Int32))] [(.int (3 : Int32))]))
  refine own_back ?_ (fun t k => XS.iloadN X44.here hx rfl (hb hby d4_13) rfl k)
  show own_Go p e below PO (T44.setTop (mkF m 14 #[.val (.ref aG), .val (.int (4 : Int32)), .val (.int (3 : Int32))] [(.int (4 : Int32)), (.int (3 : Int32))]))
  have hd14_45 : (3 : Int32) < (4 : Int32) := (by decide)
  refine own_back ?_ (fun t k => XS.icmpNo X44.here hx rfl (hb hby d4_14) rfl (tlt hd14_45).2.1 k)
  show own_Go p e below PO (T44.setTop (mkF m 17 #[.val (.ref aG), .val (.int (4 : Int32)), .val (.int (3 : Int32))] []))
  refine own_back ?_ (fun t k => XS.aloadN X44.here hx rfl (hb hby d4_17) rfl rfl k)
  show own_Go p e below PO (T44.setTop (mkF m 18 #[.val (.ref aG), .val (.int (4 : Int32)), .val (.int (3 : Int32))] [(.ref aG)]))
  obtain ⟨cq46, kq46, q46a, q46b, q46c⟩ := isOf hZ rfl E_G44
  obtain ⟨_, _, ⟨T46, L46, k46, n46⟩, -, X46, ⟨Lc46, hQ46, l46, y46, z46⟩, st46⟩ := X44.virtualBack hx (y := (⟨"com/example/nearbound/nearbound/graph/MinCut", "addNode", "()I"⟩ : MethodName)) (z := (⟨"com/example/nearbound/nearbound/graph/MinCut", "addNode", "()I"⟩ : MethodName)) hown (mvT hZ (hw _ (List.mem_of_getElem? (i := 40) rfl))) (mvT hZ (hw _ (List.mem_of_getElem? (i := 41) rfl))) (notFace_of_selects (args := #[]) (mvT hZ (hw _ (List.mem_of_getElem? (i := 43) rfl)))) (mvT hZ (hw _ (List.mem_of_getElem? (i := 43) rfl))) (mvT hZ (hw _ (List.mem_of_getElem? (i := 42) rfl))) (by decide) (backOf (W := 0) (rmNode_3 l Z a0 hw [] aG aF aN aH aR aL aA aQ aP kF kN kH kR kL kA kQ kP (own_up (own_up (own_up fst 0 (-1)) 1 (-1)) 2 (-1)) nxt hd rm lev arc que pth T44.heap n0 Zh44 hNE ⟨E_G44, F_nodeCount44, F_edgeCount44, F_first44, F_next44, F_head44, F_room44, F_level44, F_arc44, F_queue44, F_path44, V_F44, V_N44, V_H44, V_R44, V_L44, V_A44, V_Q44, V_P44⟩) hZ (hw _ (List.mem_of_getElem? (i := 44) rfl)) (hw _ (List.mem_of_getElem? (i := 6) rfl)) (by decide) (by decide)) q46a q46c (g := (mkF m 18 #[.val (.ref aG), .val (.int (4 : Int32)), .val (.int (3 : Int32))] [(.ref aG)])) rfl (by rw [hml]; rfl) (Steps.refl _) (argsL := []) (rest := []) (lenOf pd_5 rfl) rfl (by show 2 * 0 + _ ≤ _; exact Nat.le_of_eq rfl) (hb hby d4_18) (fun _ _ => ⟨rfl, rfl, (by decide : 0 + 0 ≤ _), (by decide : 0 + 0 ≤ _)⟩)
  dsimp only [Pt.U, Pt.locs, Pt.cells, Pt.slots] at X46 l46 y46 z46 st46 hQ46
  subst l46 y46 z46
  obtain ⟨rfl, N46q, Kc46, hS46⟩ := hQ46
  have N46 := Fr.app N44 N46q
  have K46 : Keep h0 T46.heap [aG, aF, aN, aH, aR, aL, aA, aQ, aP] := (K44).trans Kc46 (fun x hx => Or.inl hx)
  have Zh46 : n0 ≤ T46.heap.size := Nat.le_trans Z0 K46.1
  obtain ⟨E_G46, F_nodeCount46, F_edgeCount46, F_first46, F_next46, F_head46, F_room46, F_level46, F_arc46, F_queue46, F_path46, V_F46, V_N46, V_H46, V_R46, V_L46, V_A46, V_Q46, V_P46⟩ := hS46
  refine own_back ?_ (fun t k => st46.trans k)
  show own_Go p e below PO (T46.setTop (mkF m 21 #[.val (.ref aG), .val (.int (4 : Int32)), .val (.int (3 : Int32))] [(.int (3 : Int32))]))
  refine own_back ?_ (fun t k => XS.pop X46.here hx rfl (hb hby d4_21) rfl rfl k)
  show own_Go p e below PO (T46.setTop (mkF m 22 #[.val (.ref aG), .val (.int (4 : Int32)), .val (.int (3 : Int32))] []))
  refine own_back ?_ (fun t k => XS.iinc X46.here hx rfl (hb hby d4_22) rfl (l' := #[.val (.ref aG), .val (.int (4 : Int32)), .val (.int (4 : Int32))]) rfl k)
  show own_Go p e below PO (T46.setTop (mkF m 25 #[.val (.ref aG), .val (.int (4 : Int32)), .val (.int (4 : Int32))] []))
  refine own_back ?_ (fun t k => XS.goto X46.here hx rfl (pc0 := 25) (pc' := 12) rfl (hb hby d4_25) (by decide) (by decide) k)
  show own_Go p e below PO (T46.setTop (mkF m 12 #[.val (.ref aG), .val (.int (4 : Int32)), .val (.int (4 : Int32))] []))
  refine own_back ?_ (fun t k => XS.iloadN X46.here hx rfl (hb hby d4_12) rfl k)
  show own_Go p e below PO (T46.setTop (mkF m 13 #[.val (.ref aG), .val (.int (4 : Int32)), .val (.int (4 : Int32))] [(.int (4 : Int32))]))
  refine own_back ?_ (fun t k => XS.iloadN X46.here hx rfl (hb hby d4_13) rfl k)
  show own_Go p e below PO (T46.setTop (mkF m 14 #[.val (.ref aG), .val (.int (4 : Int32)), .val (.int (4 : Int32))] [(.int (4 : Int32)), (.int (4 : Int32))]))
  refine own_back ?_ (fun t k => XS.icmpYes X46.here hx rfl (pc0 := 14) (pc' := 28) rfl (hb hby d4_14) rfl (flt Int32.lt_irrefl).2.1 (by decide) (by decide) k)
  show own_Go p e below PO (T46.setTop (mkF m 28 #[.val (.ref aG), .val (.int (4 : Int32)), .val (.int (4 : Int32))] []))
  refine own_retV X46 hx Bd.returns (hb hby d4_28) rfl (Bd.notSynchronized) ?_ (by decide) (by decide)
  exact ⟨rfl, N46, K46, ⟨E_G46, F_nodeCount46, F_edgeCount46, F_first46, F_next46, F_head46, F_room46, F_level46, F_arc46, F_queue46, F_path46, V_F46, V_N46, V_H46, V_R46, V_L46, V_A46, V_Q46, V_P46⟩⟩
theorem d14_0 : decode prog_25_method_7_code 0 = .ok (.aload_n 0, 1) := by decide +kernel
theorem d14_1 : decode prog_25_method_7_code 1 = .ok (.getfield 23, 3) := by decide +kernel
theorem d14_4 : decode prog_25_method_7_code 4 = .ok (.iload_n 1, 1) := by decide +kernel
theorem d14_5 : decode prog_25_method_7_code 5 = .ok (.iaload, 1) := by decide +kernel
theorem d14_6 : decode prog_25_method_7_code 6 = .ok (.ifCond .lt 7, 3) := by decide +kernel
theorem d14_9 : decode prog_25_method_7_code 9 = .ok (.iconst 1, 1) := by decide +kernel
theorem d14_10 : decode prog_25_method_7_code 10 = .ok (.goto 4, 3) := by decide +kernel
theorem d14_13 : decode prog_25_method_7_code 13 = .ok (.iconst 0, 1) := by decide +kernel
theorem d14_14 : decode prog_25_method_7_code 14 = .ok (.ireturn, 1) := by decide +kernel
theorem ef_rmOn (m : MethodId) (x0 : Addr) (x1 : Int32) : entryFrame m #[(.ref x0), (.int x1)] 2 = mkF m 0 #[.val (.ref x0), .val (.int x1)] [] := by first | (simp [entryFrame, mkF, argsToLocals, Value.category]; done) | rfl
def Q_rmOn (lev : Int → Int) (z : Int) (h0 : Heap) (n0 : Nat) (v : Option Value) (h : Heap) (L : List Loc) : Prop := v = some (.int (own_os (lev z))) ∧ Fr n0 L ∧ h = h0
set_option maxRecDepth 65536 in
set_option maxHeartbeats 40000000 in
theorem rmOn (l : Launch) (Z : State) (a0 : Array Value) (hw : ∀ d ∈ tables_1, d.before a0 Z = true) (ws : List Jvm.Cond) (aG : Addr) (aF aN aH aR aL aA aQ aP : Addr) (kF kN kH kR kL kA kQ kP : ClassId) (fst nxt hd rm lev arc que pth : Int → Int) (ec : Int32) (z : Int) (h0 : Heap) (n0 : Nat) (Z0 : n0 ≤ h0.size) (hNE : own_NE n0 aG aF aN aH aR aL aA aQ aP) (hS : own_S Z h0 aG aF aN aH aR aL aA aQ aP kF kN kH kR kL kA kQ kP (4 : Int32) ec fst nxt hd rm lev arc que pth) (hz : 0 ≤ z ∧ z < 4) (hl : -1 ≤ lev z ∧ lev z < 4) :
    MetFree l (⟨"com/example/nearbound/nearbound/graph/MinCut", "onSourceSide", "(I)Z"⟩ : MethodName) (head1 (Jvm.Cond.code (⟨"com/example/nearbound/nearbound/graph/MinCut", "onSourceSide", "(I)Z"⟩ : MethodName) prog_25_method_7_code 2 (some .boolean) :: ws) ({ frames := 0, cells := 0, slots := 0, locals := 0 } : Room)) (fun a U => a = #[(.ref aG), (.int (own_I z))] ∧ Z.Warmed39 U.vm ∧ U.heap = h0) (fun _ _ _ _ _ => True) (fun _ U o U' => ∃ v L, o = .returned v ∧ Q_rmOn lev z h0 n0 v U'.heap L ∧ FrameEnd U o U' L ({ frames := 0, cells := 0, slots := 0, locals := 0 } : Room).cells ({ frames := 0, cells := 0, slots := 0, locals := 0 } : Room).slots) := by
  refine MetFree.of_bodySF (plainFor_of_name pn_2) hisR ?_
  intro p e s m args below meth c s₁ Bd hml0 hP hK
  obtain ⟨rfl, hZ, hh⟩ := hP
  have hx := Bd.exec
  have hby := Bd.bytes
  have hml : c.maxLocals = 2 := hml0
  have hown : s.vm.findClass "com/example/nearbound/nearbound/graph/MinCut" = some m.cls := findClass_of_methodNamed Bd.named
  have hnm := (name_of_methodNamed Bd.named Bd.method).1
  have X0 : Stand p l e ({ frames := 0, cells := 0, slots := 0, locals := 0 } : Room) s m #[(.ref aG), (.int (own_I z))] below meth c s₁ [] 0 0 := Stand.of_body Bd
  have e0 : s₁.heap = h0 := by rw [← hh, Bd.state]; rfl
  have N0 := Fr.nil n0
  let PO : Outcome → State → Prop := own_PO s (Q_rmOn lev z h0 n0) 0 0
  show own_Go p e below PO (s₁.setTop (entryFrame m #[(.ref aG), (.int (own_I z))] 2))
  rw [ef_rmOn]
  obtain ⟨gn_aG, gn_aF, gn_aN, gn_aH, gn_aR, gn_aL, gn_aA, gn_aQ, gn_aP⟩ := hNE.1
  have hS' := hS
  obtain ⟨E_G, F_nodeCount, F_edgeCount, F_first, F_next, F_head, F_room, F_level, F_arc, F_queue, F_path, V_F, V_N, V_H, V_R, V_L, V_A, V_Q, V_P⟩ := hS'
  have K0 : Keep h0 h0 [aG, aF, aN, aH, aR, aL, aA, aQ, aP] := Keep.refl h0 _
  show own_Go p e below PO (s₁.setTop (mkF m 0 #[.val (.ref aG), .val (.int (own_I z))] []))
  refine own_back ?_ (fun t k => XS.aloadN X0.here hx rfl (hb hby d14_0) rfl rfl k)
  show own_Go p e below PO (s₁.setTop (mkF m 1 #[.val (.ref aG), .val (.int (own_I z))] [(.ref aG)]))
  obtain ⟨T1, X1, e1, st1⟩ := getF X0 hx hZ hown (host := "") (Or.inl (hw _ (List.mem_of_getElem? (i := 23) rfl))) Via.refl e0 F_level (g := (mkF m 1 #[.val (.ref aG), .val (.int (own_I z))] [(.ref aG)])) rfl rfl (hb hby d14_1)
  refine own_back ?_ st1
  show own_Go p e below PO (T1.setTop (mkF m 4 #[.val (.ref aG), .val (.int (own_I z))] [(.ref aL)]))
  refine own_back ?_ (fun t k => XS.iloadN X1.here hx rfl (hb hby d14_4) rfl k)
  show own_Go p e below PO (T1.setTop (mkF m 5 #[.val (.ref aG), .val (.int (own_I z))] [(.int (own_I z)), (.ref aL)]))
  refine own_back ?_ (own_ldI X1 hx hZ e1 V_L (j := (own_I z)) (v := (.int (own_I (lev z)))) (own_inb (z := z) (by omega)) (own_get (by omega)) (g := (mkF m 5 #[.val (.ref aG), .val (.int (own_I z))] [(.int (own_I z)), (.ref aL)])) rfl rfl (hb hby d14_5))
  show own_Go p e below PO (T1.setTop (mkF m 6 #[.val (.ref aG), .val (.int (own_I z))] [(.int (own_I (lev z)))]))
  by_cases hc6_2 : (own_I (lev z)) < (0 : Int32)
  case pos =>
    refine own_back ?_ (fun t k => XS.ifYes X1.here hx rfl (pc0 := 6) (pc' := 13) rfl (hb hby d14_6) rfl ((if0 _ _).trans (tlt hc6_2).1) (by decide) (by decide) k)
    show own_Go p e below PO (T1.setTop (mkF m 13 #[.val (.ref aG), .val (.int (own_I z))] []))
    refine own_back ?_ (fun t k => XS.iconst X1.here hx rfl (hb hby d14_13) k)
    show own_Go p e below PO (T1.setTop (mkF m 14 #[.val (.ref aG), .val (.int (own_I z))] [(.int (0 : Int32))]))
    refine own_retN X1 hx (t := .boolean) (rest := []) Bd.returns (by decide) (by simp) (hb hby d14_14) e1 (Bd.notSynchronized) ?_ (by decide) (by decide)
    exact ⟨by rw [own_os0 ((own_lt0 (by omega)).mp hc6_2)], N0, rfl⟩
  refine own_back ?_ (fun t k => XS.ifNo X1.here hx rfl (hb hby d14_6) rfl ((if0 _ _).trans (flt hc6_2).1) k)
  show own_Go p e below PO (T1.setTop (mkF m 9 #[.val (.ref aG), .val (.int (own_I z))] []))
  refine own_back ?_ (fun t k => XS.iconst X1.here hx rfl (hb hby d14_9) k)
  show own_Go p e below PO (T1.setTop (mkF m 10 #[.val (.ref aG), .val (.int (own_I z))] [(.int (1 : Int32))]))
  refine own_back ?_ (fun t k => XS.goto X1.here hx rfl (pc0 := 10) (pc' := 14) rfl (hb hby d14_10) (by decide) (by decide) k)
  show own_Go p e below PO (T1.setTop (mkF m 14 #[.val (.ref aG), .val (.int (own_I z))] [(.int (1 : Int32))]))
  refine own_retN X1 hx (t := .boolean) (rest := []) Bd.returns (by decide) (by simp) (hb hby d14_14) e1 (Bd.notSynchronized) ?_ (by decide) (by decide)
  exact ⟨by rw [own_os1 (Int.not_lt.mp (fun z => hc6_2 ((own_lt0 (by omega)).mpr z)))], N0, rfl⟩
theorem pd_6 : parseMethodDescriptor "(III)I" = some ⟨[.int, .int, .int], some .int⟩ := by decide +kernel
theorem pd_7 : parseMethodDescriptor "()V" = some ⟨[], none⟩ := by decide +kernel
theorem pd_8 : parseMethodDescriptor "(I)V" = some ⟨[.int], none⟩ := by decide +kernel
theorem pd_9 : parseMethodDescriptor "(Lcom/example/nearbound/nearbound/graph/MinCut;III)V" = some ⟨[(.object "com/example/nearbound/nearbound/graph/MinCut"), .int, .int, .int], none⟩ := by decide +kernel
theorem pd_10 : parseMethodDescriptor "(II)V" = some ⟨[.int, .int], none⟩ := by decide +kernel
theorem pd_11 : parseMethodDescriptor "(II)I" = some ⟨[.int, .int], some .int⟩ := by decide +kernel
theorem pd_12 : parseMethodDescriptor "(I)Z" = some ⟨[.int], some .boolean⟩ := by decide +kernel
theorem ef_rm0 (m : MethodId) (x0 : Int32) (x1 : Int32) (x2 : Int32) (x3 : Int32) : entryFrame m #[(.int x0), (.int x1), (.int x2), (.int x3)] maxLocals = mkF m 0 #[.val (.int x0), .val (.int x1), .val (.int x2), .val (.int x3), .unset, .unset, .unset, .unset, .unset, .unset, .unset, .unset, .unset, .unset, .unset, .unset, .unset, .unset, .unset, .unset, .unset, .unset, .unset, .unset, .unset, .unset, .unset, .unset] [] := by first | (simp [entryFrame, mkF, argsToLocals, Value.category, maxLocals]; done) | rfl
def Q_rm0 (n0 : Nat) (v : Option Value) (h : Heap) (L : List Loc) : Prop := v = some (.int 1) ∧ Fr n0 L
set_option maxRecDepth 65536 in
set_option maxHeartbeats 40000000 in
theorem rm0 (l : Launch) (Z : State) (a0 : Array Value) (hw : ∀ d ∈ tables_1, d.before a0 Z = true) (ws : List Jvm.Cond) (pA : Int32) (pB : Int32) (pC : Int32) (pD : Int32)  (h0 : Heap) (n0 : Nat) (Z0 : n0 ≤ h0.size)  :
    MetFree l x (head1 (Jvm.Cond.code x code maxLocals ret :: ws) room_1) (fun a U => a = #[(.int pA), (.int pB), (.int pC), (.int pD)] ∧ Z.Warmed39 U.vm ∧ U.heap = h0) (fun _ _ _ _ _ => True) (fun _ U o U' => ∃ v L, o = .returned v ∧ Q_rm0 n0 v U'.heap L ∧ FrameEnd U o U' L room_1.cells room_1.slots) := by
  refine MetFree.of_bodySF (plainFor_of_name pn_0) hisR ?_
  intro p e s m args below meth c s₁ Bd hml0 hP hK
  obtain ⟨rfl, hZ, hh⟩ := hP
  have hx := Bd.exec
  have hby := Bd.bytes
  have hml : c.maxLocals = 28 := hml0
  have hown : s.vm.findClass "com/example/nearbound/nearbound/graph/MinCutOnSourceSidePinLaw" = some m.cls := findClass_of_methodNamed Bd.named
  have hnm := (name_of_methodNamed Bd.named Bd.method).1
  have X0 : Stand p l e room_1 s m #[(.int pA), (.int pB), (.int pC), (.int pD)] below meth c s₁ [] 0 0 := Stand.of_body Bd
  have e0 : s₁.heap = h0 := by rw [← hh, Bd.state]; rfl
  have N0 := Fr.nil n0
  let PO : Outcome → State → Prop := own_PO s (Q_rm0 n0) 32 384
  show own_Go p e below PO (s₁.setTop (entryFrame m #[(.int pA), (.int pB), (.int pC), (.int pD)] maxLocals))
  rw [ef_rm0]
  show own_Go p e below PO (s₁.setTop (mkF m 0 #[.val (.int pA), .val (.int pB), .val (.int pC), .val (.int pD), .unset, .unset, .unset, .unset, .unset, .unset, .unset, .unset, .unset, .unset, .unset, .unset, .unset, .unset, .unset, .unset, .unset, .unset, .unset, .unset, .unset, .unset, .unset, .unset] []))
  refine own_back ?_ (fun t k => XS.iloadN X0.here hx rfl (hb hby at_0) rfl k)
  show own_Go p e below PO (s₁.setTop (mkF m 1 #[.val (.int pA), .val (.int pB), .val (.int pC), .val (.int pD), .unset, .unset, .unset, .unset, .unset, .unset, .unset, .unset, .unset, .unset, .unset, .unset, .unset, .unset, .unset, .unset, .unset, .unset, .unset, .unset, .unset, .unset, .unset, .unset] [(.int pA)]))
  refine own_back ?_ (fun t k => XS.bipush X0.here hx rfl (hb hby at_1) k)
  show own_Go p e below PO (s₁.setTop (mkF m 3 #[.val (.int pA), .val (.int pB), .val (.int pC), .val (.int pD), .unset, .unset, .unset, .unset, .unset, .unset, .unset, .unset, .unset, .unset, .unset, .unset, .unset, .unset, .unset, .unset, .unset, .unset, .unset, .unset, .unset, .unset, .unset, .unset] [(.int (15 : Int32)), (.int pA)]))
  refine own_back ?_ (fun t k => XS.iand X0.here hx rfl (hb hby at_3) rfl k)
  show own_Go p e below PO (s₁.setTop (mkF m 4 #[.val (.int pA), .val (.int pB), .val (.int pC), .val (.int pD), .unset, .unset, .unset, .unset, .unset, .unset, .unset, .unset, .unset, .unset, .unset, .unset, .unset, .unset, .unset, .unset, .unset, .unset, .unset, .unset, .unset, .unset, .unset, .unset] [(.int (pA &&& (15 : Int32)))]))
  obtain ⟨za, hza, eza⟩ := own_m15 pA
  refine own_sub (A := Int32) (x := (pA &&& (15 : Int32))) (y := (own_I za)) (fun cv => own_Go p e below PO (s₁.setTop (mkF m 4 #[.val (.int pA), .val (.int pB), .val (.int pC), .val (.int pD), .unset, .unset, .unset, .unset, .unset, .unset, .unset, .unset, .unset, .unset, .unset, .unset, .unset, .unset, .unset, .unset, .unset, .unset, .unset, .unset, .unset, .unset, .unset, .unset] [(.int cv)]))) eza ?_
  show own_Go p e below PO (s₁.setTop (mkF m 4 #[.val (.int pA), .val (.int pB), .val (.int pC), .val (.int pD), .unset, .unset, .unset, .unset, .unset, .unset, .unset, .unset, .unset, .unset, .unset, .unset, .unset, .unset, .unset, .unset, .unset, .unset, .unset, .unset, .unset, .unset, .unset, .unset] [(.int (own_I za))]))
  refine own_back ?_ (fun t k => XS.istore X0.here hx rfl (hb hby at_4) rfl (l' := #[.val (.int pA), .val (.int pB), .val (.int pC), .val (.int pD), .val (.int (own_I za)), .unset, .unset, .unset, .unset, .unset, .unset, .unset, .unset, .unset, .unset, .unset, .unset, .unset, .unset, .unset, .unset, .unset, .unset, .unset, .unset, .unset, .unset, .unset]) rfl k)
  show own_Go p e below PO (s₁.setTop (mkF m 6 #[.val (.int pA), .val (.int pB), .val (.int pC), .val (.int pD), .val (.int (own_I za)), .unset, .unset, .unset, .unset, .unset, .unset, .unset, .unset, .unset, .unset, .unset, .unset, .unset, .unset, .unset, .unset, .unset, .unset, .unset, .unset, .unset, .unset, .unset] []))
  refine own_back ?_ (fun t k => XS.iloadN X0.here hx rfl (hb hby at_6) rfl k)
  show own_Go p e below PO (s₁.setTop (mkF m 7 #[.val (.int pA), .val (.int pB), .val (.int pC), .val (.int pD), .val (.int (own_I za)), .unset, .unset, .unset, .unset, .unset, .unset, .unset, .unset, .unset, .unset, .unset, .unset, .unset, .unset, .unset, .unset, .unset, .unset, .unset, .unset, .unset, .unset, .unset] [(.int pA)]))
  refine own_back ?_ (fun t k => XS.iconst X0.here hx rfl (hb hby at_7) k)
  show own_Go p e below PO (s₁.setTop (mkF m 8 #[.val (.int pA), .val (.int pB), .val (.int pC), .val (.int pD), .val (.int (own_I za)), .unset, .unset, .unset, .unset, .unset, .unset, .unset, .unset, .unset, .unset, .unset, .unset, .unset, .unset, .unset, .unset, .unset, .unset, .unset, .unset, .unset, .unset, .unset] [(.int (4 : Int32)), (.int pA)]))
  refine own_back ?_ (fun t k => XS.iushr X0.here hx rfl (hb hby at_8) rfl k)
  show own_Go p e below PO (s₁.setTop (mkF m 9 #[.val (.int pA), .val (.int pB), .val (.int pC), .val (.int pD), .val (.int (own_I za)), .unset, .unset, .unset, .unset, .unset, .unset, .unset, .unset, .unset, .unset, .unset, .unset, .unset, .unset, .unset, .unset, .unset, .unset, .unset, .unset, .unset, .unset, .unset] [(.int ((pA.toUInt32 >>> ((4 : Int32) &&& 31).toUInt32).toInt32))]))
  refine own_back ?_ (fun t k => XS.bipush X0.here hx rfl (hb hby at_9) k)
  show own_Go p e below PO (s₁.setTop (mkF m 11 #[.val (.int pA), .val (.int pB), .val (.int pC), .val (.int pD), .val (.int (own_I za)), .unset, .unset, .unset, .unset, .unset, .unset, .unset, .unset, .unset, .unset, .unset, .unset, .unset, .unset, .unset, .unset, .unset, .unset, .unset, .unset, .unset, .unset, .unset] [(.int (15 : Int32)), (.int ((pA.toUInt32 >>> ((4 : Int32) &&& 31).toUInt32).toInt32))]))
  refine own_back ?_ (fun t k => XS.iand X0.here hx rfl (hb hby at_11) rfl k)
  show own_Go p e below PO (s₁.setTop (mkF m 12 #[.val (.int pA), .val (.int pB), .val (.int pC), .val (.int pD), .val (.int (own_I za)), .unset, .unset, .unset, .unset, .unset, .unset, .unset, .unset, .unset, .unset, .unset, .unset, .unset, .unset, .unset, .unset, .unset, .unset, .unset, .unset, .unset, .unset, .unset] [(.int (((pA.toUInt32 >>> ((4 : Int32) &&& 31).toUInt32).toInt32) &&& (15 : Int32)))]))
  obtain ⟨zb, hzb, ezb⟩ := own_m15 ((pA.toUInt32 >>> ((4 : Int32) &&& 31).toUInt32).toInt32)
  refine own_sub (A := Int32) (x := (((pA.toUInt32 >>> ((4 : Int32) &&& 31).toUInt32).toInt32) &&& (15 : Int32))) (y := (own_I zb)) (fun cv => own_Go p e below PO (s₁.setTop (mkF m 12 #[.val (.int pA), .val (.int pB), .val (.int pC), .val (.int pD), .val (.int (own_I za)), .unset, .unset, .unset, .unset, .unset, .unset, .unset, .unset, .unset, .unset, .unset, .unset, .unset, .unset, .unset, .unset, .unset, .unset, .unset, .unset, .unset, .unset, .unset] [(.int cv)]))) ezb ?_
  show own_Go p e below PO (s₁.setTop (mkF m 12 #[.val (.int pA), .val (.int pB), .val (.int pC), .val (.int pD), .val (.int (own_I za)), .unset, .unset, .unset, .unset, .unset, .unset, .unset, .unset, .unset, .unset, .unset, .unset, .unset, .unset, .unset, .unset, .unset, .unset, .unset, .unset, .unset, .unset, .unset] [(.int (own_I zb))]))
  refine own_back ?_ (fun t k => XS.istore X0.here hx rfl (hb hby at_12) rfl (l' := #[.val (.int pA), .val (.int pB), .val (.int pC), .val (.int pD), .val (.int (own_I za)), .val (.int (own_I zb)), .unset, .unset, .unset, .unset, .unset, .unset, .unset, .unset, .unset, .unset, .unset, .unset, .unset, .unset, .unset, .unset, .unset, .unset, .unset, .unset, .unset, .unset]) rfl k)
  show own_Go p e below PO (s₁.setTop (mkF m 14 #[.val (.int pA), .val (.int pB), .val (.int pC), .val (.int pD), .val (.int (own_I za)), .val (.int (own_I zb)), .unset, .unset, .unset, .unset, .unset, .unset, .unset, .unset, .unset, .unset, .unset, .unset, .unset, .unset, .unset, .unset, .unset, .unset, .unset, .unset, .unset, .unset] []))
  refine own_back ?_ (fun t k => XS.iloadN X0.here hx rfl (hb hby at_14) rfl k)
  show own_Go p e below PO (s₁.setTop (mkF m 15 #[.val (.int pA), .val (.int pB), .val (.int pC), .val (.int pD), .val (.int (own_I za)), .val (.int (own_I zb)), .unset, .unset, .unset, .unset, .unset, .unset, .unset, .unset, .unset, .unset, .unset, .unset, .unset, .unset, .unset, .unset, .unset, .unset, .unset, .unset, .unset, .unset] [(.int pB)]))
  refine own_back ?_ (fun t k => XS.bipush X0.here hx rfl (hb hby at_15) k)
  show own_Go p e below PO (s₁.setTop (mkF m 17 #[.val (.int pA), .val (.int pB), .val (.int pC), .val (.int pD), .val (.int (own_I za)), .val (.int (own_I zb)), .unset, .unset, .unset, .unset, .unset, .unset, .unset, .unset, .unset, .unset, .unset, .unset, .unset, .unset, .unset, .unset, .unset, .unset, .unset, .unset, .unset, .unset] [(.int (15 : Int32)), (.int pB)]))
  refine own_back ?_ (fun t k => XS.iand X0.here hx rfl (hb hby at_17) rfl k)
  show own_Go p e below PO (s₁.setTop (mkF m 18 #[.val (.int pA), .val (.int pB), .val (.int pC), .val (.int pD), .val (.int (own_I za)), .val (.int (own_I zb)), .unset, .unset, .unset, .unset, .unset, .unset, .unset, .unset, .unset, .unset, .unset, .unset, .unset, .unset, .unset, .unset, .unset, .unset, .unset, .unset, .unset, .unset] [(.int (pB &&& (15 : Int32)))]))
  obtain ⟨zc, hzc, ezc⟩ := own_m15 pB
  refine own_sub (A := Int32) (x := (pB &&& (15 : Int32))) (y := (own_I zc)) (fun cv => own_Go p e below PO (s₁.setTop (mkF m 18 #[.val (.int pA), .val (.int pB), .val (.int pC), .val (.int pD), .val (.int (own_I za)), .val (.int (own_I zb)), .unset, .unset, .unset, .unset, .unset, .unset, .unset, .unset, .unset, .unset, .unset, .unset, .unset, .unset, .unset, .unset, .unset, .unset, .unset, .unset, .unset, .unset] [(.int cv)]))) ezc ?_
  show own_Go p e below PO (s₁.setTop (mkF m 18 #[.val (.int pA), .val (.int pB), .val (.int pC), .val (.int pD), .val (.int (own_I za)), .val (.int (own_I zb)), .unset, .unset, .unset, .unset, .unset, .unset, .unset, .unset, .unset, .unset, .unset, .unset, .unset, .unset, .unset, .unset, .unset, .unset, .unset, .unset, .unset, .unset] [(.int (own_I zc))]))
  refine own_back ?_ (fun t k => XS.istore X0.here hx rfl (hb hby at_18) rfl (l' := #[.val (.int pA), .val (.int pB), .val (.int pC), .val (.int pD), .val (.int (own_I za)), .val (.int (own_I zb)), .val (.int (own_I zc)), .unset, .unset, .unset, .unset, .unset, .unset, .unset, .unset, .unset, .unset, .unset, .unset, .unset, .unset, .unset, .unset, .unset, .unset, .unset, .unset, .unset]) rfl k)
  show own_Go p e below PO (s₁.setTop (mkF m 20 #[.val (.int pA), .val (.int pB), .val (.int pC), .val (.int pD), .val (.int (own_I za)), .val (.int (own_I zb)), .val (.int (own_I zc)), .unset, .unset, .unset, .unset, .unset, .unset, .unset, .unset, .unset, .unset, .unset, .unset, .unset, .unset, .unset, .unset, .unset, .unset, .unset, .unset, .unset] []))
  refine own_back ?_ (fun t k => XS.iloadN X0.here hx rfl (hb hby at_20) rfl k)
  show own_Go p e below PO (s₁.setTop (mkF m 21 #[.val (.int pA), .val (.int pB), .val (.int pC), .val (.int pD), .val (.int (own_I za)), .val (.int (own_I zb)), .val (.int (own_I zc)), .unset, .unset, .unset, .unset, .unset, .unset, .unset, .unset, .unset, .unset, .unset, .unset, .unset, .unset, .unset, .unset, .unset, .unset, .unset, .unset, .unset] [(.int pB)]))
  refine own_back ?_ (fun t k => XS.iconst X0.here hx rfl (hb hby at_21) k)
  show own_Go p e below PO (s₁.setTop (mkF m 22 #[.val (.int pA), .val (.int pB), .val (.int pC), .val (.int pD), .val (.int (own_I za)), .val (.int (own_I zb)), .val (.int (own_I zc)), .unset, .unset, .unset, .unset, .unset, .unset, .unset, .unset, .unset, .unset, .unset, .unset, .unset, .unset, .unset, .unset, .unset, .unset, .unset, .unset, .unset] [(.int (4 : Int32)), (.int pB)]))
  refine own_back ?_ (fun t k => XS.iushr X0.here hx rfl (hb hby at_22) rfl k)
  show own_Go p e below PO (s₁.setTop (mkF m 23 #[.val (.int pA), .val (.int pB), .val (.int pC), .val (.int pD), .val (.int (own_I za)), .val (.int (own_I zb)), .val (.int (own_I zc)), .unset, .unset, .unset, .unset, .unset, .unset, .unset, .unset, .unset, .unset, .unset, .unset, .unset, .unset, .unset, .unset, .unset, .unset, .unset, .unset, .unset] [(.int ((pB.toUInt32 >>> ((4 : Int32) &&& 31).toUInt32).toInt32))]))
  refine own_back ?_ (fun t k => XS.bipush X0.here hx rfl (hb hby at_23) k)
  show own_Go p e below PO (s₁.setTop (mkF m 25 #[.val (.int pA), .val (.int pB), .val (.int pC), .val (.int pD), .val (.int (own_I za)), .val (.int (own_I zb)), .val (.int (own_I zc)), .unset, .unset, .unset, .unset, .unset, .unset, .unset, .unset, .unset, .unset, .unset, .unset, .unset, .unset, .unset, .unset, .unset, .unset, .unset, .unset, .unset] [(.int (15 : Int32)), (.int ((pB.toUInt32 >>> ((4 : Int32) &&& 31).toUInt32).toInt32))]))
  refine own_back ?_ (fun t k => XS.iand X0.here hx rfl (hb hby at_25) rfl k)
  show own_Go p e below PO (s₁.setTop (mkF m 26 #[.val (.int pA), .val (.int pB), .val (.int pC), .val (.int pD), .val (.int (own_I za)), .val (.int (own_I zb)), .val (.int (own_I zc)), .unset, .unset, .unset, .unset, .unset, .unset, .unset, .unset, .unset, .unset, .unset, .unset, .unset, .unset, .unset, .unset, .unset, .unset, .unset, .unset, .unset] [(.int (((pB.toUInt32 >>> ((4 : Int32) &&& 31).toUInt32).toInt32) &&& (15 : Int32)))]))
  obtain ⟨zd, hzd, ezd⟩ := own_m15 ((pB.toUInt32 >>> ((4 : Int32) &&& 31).toUInt32).toInt32)
  refine own_sub (A := Int32) (x := (((pB.toUInt32 >>> ((4 : Int32) &&& 31).toUInt32).toInt32) &&& (15 : Int32))) (y := (own_I zd)) (fun cv => own_Go p e below PO (s₁.setTop (mkF m 26 #[.val (.int pA), .val (.int pB), .val (.int pC), .val (.int pD), .val (.int (own_I za)), .val (.int (own_I zb)), .val (.int (own_I zc)), .unset, .unset, .unset, .unset, .unset, .unset, .unset, .unset, .unset, .unset, .unset, .unset, .unset, .unset, .unset, .unset, .unset, .unset, .unset, .unset, .unset] [(.int cv)]))) ezd ?_
  show own_Go p e below PO (s₁.setTop (mkF m 26 #[.val (.int pA), .val (.int pB), .val (.int pC), .val (.int pD), .val (.int (own_I za)), .val (.int (own_I zb)), .val (.int (own_I zc)), .unset, .unset, .unset, .unset, .unset, .unset, .unset, .unset, .unset, .unset, .unset, .unset, .unset, .unset, .unset, .unset, .unset, .unset, .unset, .unset, .unset] [(.int (own_I zd))]))
  refine own_back ?_ (fun t k => XS.istore X0.here hx rfl (hb hby at_26) rfl (l' := #[.val (.int pA), .val (.int pB), .val (.int pC), .val (.int pD), .val (.int (own_I za)), .val (.int (own_I zb)), .val (.int (own_I zc)), .val (.int (own_I zd)), .unset, .unset, .unset, .unset, .unset, .unset, .unset, .unset, .unset, .unset, .unset, .unset, .unset, .unset, .unset, .unset, .unset, .unset, .unset, .unset]) rfl k)
  show own_Go p e below PO (s₁.setTop (mkF m 28 #[.val (.int pA), .val (.int pB), .val (.int pC), .val (.int pD), .val (.int (own_I za)), .val (.int (own_I zb)), .val (.int (own_I zc)), .val (.int (own_I zd)), .unset, .unset, .unset, .unset, .unset, .unset, .unset, .unset, .unset, .unset, .unset, .unset, .unset, .unset, .unset, .unset, .unset, .unset, .unset, .unset] []))
  refine own_back ?_ (fun t k => XS.iloadN X0.here hx rfl (hb hby at_28) rfl k)
  show own_Go p e below PO (s₁.setTop (mkF m 29 #[.val (.int pA), .val (.int pB), .val (.int pC), .val (.int pD), .val (.int (own_I za)), .val (.int (own_I zb)), .val (.int (own_I zc)), .val (.int (own_I zd)), .unset, .unset, .unset, .unset, .unset, .unset, .unset, .unset, .unset, .unset, .unset, .unset, .unset, .unset, .unset, .unset, .unset, .unset, .unset, .unset] [(.int pC)]))
  refine own_back ?_ (fun t k => XS.bipush X0.here hx rfl (hb hby at_29) k)
  show own_Go p e below PO (s₁.setTop (mkF m 31 #[.val (.int pA), .val (.int pB), .val (.int pC), .val (.int pD), .val (.int (own_I za)), .val (.int (own_I zb)), .val (.int (own_I zc)), .val (.int (own_I zd)), .unset, .unset, .unset, .unset, .unset, .unset, .unset, .unset, .unset, .unset, .unset, .unset, .unset, .unset, .unset, .unset, .unset, .unset, .unset, .unset] [(.int (15 : Int32)), (.int pC)]))
  refine own_back ?_ (fun t k => XS.iand X0.here hx rfl (hb hby at_31) rfl k)
  show own_Go p e below PO (s₁.setTop (mkF m 32 #[.val (.int pA), .val (.int pB), .val (.int pC), .val (.int pD), .val (.int (own_I za)), .val (.int (own_I zb)), .val (.int (own_I zc)), .val (.int (own_I zd)), .unset, .unset, .unset, .unset, .unset, .unset, .unset, .unset, .unset, .unset, .unset, .unset, .unset, .unset, .unset, .unset, .unset, .unset, .unset, .unset] [(.int (pC &&& (15 : Int32)))]))
  obtain ⟨ze, hze, eze⟩ := own_m15 pC
  refine own_sub (A := Int32) (x := (pC &&& (15 : Int32))) (y := (own_I ze)) (fun cv => own_Go p e below PO (s₁.setTop (mkF m 32 #[.val (.int pA), .val (.int pB), .val (.int pC), .val (.int pD), .val (.int (own_I za)), .val (.int (own_I zb)), .val (.int (own_I zc)), .val (.int (own_I zd)), .unset, .unset, .unset, .unset, .unset, .unset, .unset, .unset, .unset, .unset, .unset, .unset, .unset, .unset, .unset, .unset, .unset, .unset, .unset, .unset] [(.int cv)]))) eze ?_
  show own_Go p e below PO (s₁.setTop (mkF m 32 #[.val (.int pA), .val (.int pB), .val (.int pC), .val (.int pD), .val (.int (own_I za)), .val (.int (own_I zb)), .val (.int (own_I zc)), .val (.int (own_I zd)), .unset, .unset, .unset, .unset, .unset, .unset, .unset, .unset, .unset, .unset, .unset, .unset, .unset, .unset, .unset, .unset, .unset, .unset, .unset, .unset] [(.int (own_I ze))]))
  refine own_back ?_ (fun t k => XS.istore X0.here hx rfl (hb hby at_32) rfl (l' := #[.val (.int pA), .val (.int pB), .val (.int pC), .val (.int pD), .val (.int (own_I za)), .val (.int (own_I zb)), .val (.int (own_I zc)), .val (.int (own_I zd)), .val (.int (own_I ze)), .unset, .unset, .unset, .unset, .unset, .unset, .unset, .unset, .unset, .unset, .unset, .unset, .unset, .unset, .unset, .unset, .unset, .unset, .unset]) rfl k)
  show own_Go p e below PO (s₁.setTop (mkF m 34 #[.val (.int pA), .val (.int pB), .val (.int pC), .val (.int pD), .val (.int (own_I za)), .val (.int (own_I zb)), .val (.int (own_I zc)), .val (.int (own_I zd)), .val (.int (own_I ze)), .unset, .unset, .unset, .unset, .unset, .unset, .unset, .unset, .unset, .unset, .unset, .unset, .unset, .unset, .unset, .unset, .unset, .unset, .unset] []))
  refine own_back ?_ (fun t k => XS.iloadN X0.here hx rfl (hb hby at_34) rfl k)
  show own_Go p e below PO (s₁.setTop (mkF m 35 #[.val (.int pA), .val (.int pB), .val (.int pC), .val (.int pD), .val (.int (own_I za)), .val (.int (own_I zb)), .val (.int (own_I zc)), .val (.int (own_I zd)), .val (.int (own_I ze)), .unset, .unset, .unset, .unset, .unset, .unset, .unset, .unset, .unset, .unset, .unset, .unset, .unset, .unset, .unset, .unset, .unset, .unset, .unset] [(.int pC)]))
  refine own_back ?_ (fun t k => XS.iconst X0.here hx rfl (hb hby at_35) k)
  show own_Go p e below PO (s₁.setTop (mkF m 36 #[.val (.int pA), .val (.int pB), .val (.int pC), .val (.int pD), .val (.int (own_I za)), .val (.int (own_I zb)), .val (.int (own_I zc)), .val (.int (own_I zd)), .val (.int (own_I ze)), .unset, .unset, .unset, .unset, .unset, .unset, .unset, .unset, .unset, .unset, .unset, .unset, .unset, .unset, .unset, .unset, .unset, .unset, .unset] [(.int (4 : Int32)), (.int pC)]))
  refine own_back ?_ (fun t k => XS.iushr X0.here hx rfl (hb hby at_36) rfl k)
  show own_Go p e below PO (s₁.setTop (mkF m 37 #[.val (.int pA), .val (.int pB), .val (.int pC), .val (.int pD), .val (.int (own_I za)), .val (.int (own_I zb)), .val (.int (own_I zc)), .val (.int (own_I zd)), .val (.int (own_I ze)), .unset, .unset, .unset, .unset, .unset, .unset, .unset, .unset, .unset, .unset, .unset, .unset, .unset, .unset, .unset, .unset, .unset, .unset, .unset] [(.int ((pC.toUInt32 >>> ((4 : Int32) &&& 31).toUInt32).toInt32))]))
  refine own_back ?_ (fun t k => XS.bipush X0.here hx rfl (hb hby at_37) k)
  show own_Go p e below PO (s₁.setTop (mkF m 39 #[.val (.int pA), .val (.int pB), .val (.int pC), .val (.int pD), .val (.int (own_I za)), .val (.int (own_I zb)), .val (.int (own_I zc)), .val (.int (own_I zd)), .val (.int (own_I ze)), .unset, .unset, .unset, .unset, .unset, .unset, .unset, .unset, .unset, .unset, .unset, .unset, .unset, .unset, .unset, .unset, .unset, .unset, .unset] [(.int (15 : Int32)), (.int ((pC.toUInt32 >>> ((4 : Int32) &&& 31).toUInt32).toInt32))]))
  refine own_back ?_ (fun t k => XS.iand X0.here hx rfl (hb hby at_39) rfl k)
  show own_Go p e below PO (s₁.setTop (mkF m 40 #[.val (.int pA), .val (.int pB), .val (.int pC), .val (.int pD), .val (.int (own_I za)), .val (.int (own_I zb)), .val (.int (own_I zc)), .val (.int (own_I zd)), .val (.int (own_I ze)), .unset, .unset, .unset, .unset, .unset, .unset, .unset, .unset, .unset, .unset, .unset, .unset, .unset, .unset, .unset, .unset, .unset, .unset, .unset] [(.int (((pC.toUInt32 >>> ((4 : Int32) &&& 31).toUInt32).toInt32) &&& (15 : Int32)))]))
  obtain ⟨zf, hzf, ezf⟩ := own_m15 ((pC.toUInt32 >>> ((4 : Int32) &&& 31).toUInt32).toInt32)
  refine own_sub (A := Int32) (x := (((pC.toUInt32 >>> ((4 : Int32) &&& 31).toUInt32).toInt32) &&& (15 : Int32))) (y := (own_I zf)) (fun cv => own_Go p e below PO (s₁.setTop (mkF m 40 #[.val (.int pA), .val (.int pB), .val (.int pC), .val (.int pD), .val (.int (own_I za)), .val (.int (own_I zb)), .val (.int (own_I zc)), .val (.int (own_I zd)), .val (.int (own_I ze)), .unset, .unset, .unset, .unset, .unset, .unset, .unset, .unset, .unset, .unset, .unset, .unset, .unset, .unset, .unset, .unset, .unset, .unset, .unset] [(.int cv)]))) ezf ?_
  show own_Go p e below PO (s₁.setTop (mkF m 40 #[.val (.int pA), .val (.int pB), .val (.int pC), .val (.int pD), .val (.int (own_I za)), .val (.int (own_I zb)), .val (.int (own_I zc)), .val (.int (own_I zd)), .val (.int (own_I ze)), .unset, .unset, .unset, .unset, .unset, .unset, .unset, .unset, .unset, .unset, .unset, .unset, .unset, .unset, .unset, .unset, .unset, .unset, .unset] [(.int (own_I zf))]))
  refine own_back ?_ (fun t k => XS.istore X0.here hx rfl (hb hby at_40) rfl (l' := #[.val (.int pA), .val (.int pB), .val (.int pC), .val (.int pD), .val (.int (own_I za)), .val (.int (own_I zb)), .val (.int (own_I zc)), .val (.int (own_I zd)), .val (.int (own_I ze)), .val (.int (own_I zf)), .unset, .unset, .unset, .unset, .unset, .unset, .unset, .unset, .unset, .unset, .unset, .unset, .unset, .unset, .unset, .unset, .unset, .unset]) rfl k)
  show own_Go p e below PO (s₁.setTop (mkF m 42 #[.val (.int pA), .val (.int pB), .val (.int pC), .val (.int pD), .val (.int (own_I za)), .val (.int (own_I zb)), .val (.int (own_I zc)), .val (.int (own_I zd)), .val (.int (own_I ze)), .val (.int (own_I zf)), .unset, .unset, .unset, .unset, .unset, .unset, .unset, .unset, .unset, .unset, .unset, .unset, .unset, .unset, .unset, .unset, .unset, .unset] []))
  refine own_back ?_ (fun t k => XS.iloadN X0.here hx rfl (hb hby at_42) rfl k)
  show own_Go p e below PO (s₁.setTop (mkF m 43 #[.val (.int pA), .val (.int pB), .val (.int pC), .val (.int pD), .val (.int (own_I za)), .val (.int (own_I zb)), .val (.int (own_I zc)), .val (.int (own_I zd)), .val (.int (own_I ze)), .val (.int (own_I zf)), .unset, .unset, .unset, .unset, .unset, .unset, .unset, .unset, .unset, .unset, .unset, .unset, .unset, .unset, .unset, .unset, .unset, .unset] [(.int pD)]))
  refine own_back ?_ (fun t k => XS.iconst X0.here hx rfl (hb hby at_43) k)
  show own_Go p e below PO (s₁.setTop (mkF m 44 #[.val (.int pA), .val (.int pB), .val (.int pC), .val (.int pD), .val (.int (own_I za)), .val (.int (own_I zb)), .val (.int (own_I zc)), .val (.int (own_I zd)), .val (.int (own_I ze)), .val (.int (own_I zf)), .unset, .unset, .unset, .unset, .unset, .unset, .unset, .unset, .unset, .unset, .unset, .unset, .unset, .unset, .unset, .unset, .unset, .unset] [(.int (3 : Int32)), (.int pD)]))
  refine own_back ?_ (fun t k => XS.iand X0.here hx rfl (hb hby at_44) rfl k)
  show own_Go p e below PO (s₁.setTop (mkF m 45 #[.val (.int pA), .val (.int pB), .val (.int pC), .val (.int pD), .val (.int (own_I za)), .val (.int (own_I zb)), .val (.int (own_I zc)), .val (.int (own_I zd)), .val (.int (own_I ze)), .val (.int (own_I zf)), .unset, .unset, .unset, .unset, .unset, .unset, .unset, .unset, .unset, .unset, .unset, .unset, .unset, .unset, .unset, .unset, .unset, .unset] [(.int (pD &&& (3 : Int32)))]))
  obtain ⟨zx, hzx, ezx⟩ := own_m3 pD
  refine own_sub (A := Int32) (x := (pD &&& (3 : Int32))) (y := (own_I zx)) (fun cv => own_Go p e below PO (s₁.setTop (mkF m 45 #[.val (.int pA), .val (.int pB), .val (.int pC), .val (.int pD), .val (.int (own_I za)), .val (.int (own_I zb)), .val (.int (own_I zc)), .val (.int (own_I zd)), .val (.int (own_I ze)), .val (.int (own_I zf)), .unset, .unset, .unset, .unset, .unset, .unset, .unset, .unset, .unset, .unset, .unset, .unset, .unset, .unset, .unset, .unset, .unset, .unset] [(.int cv)]))) ezx ?_
  show own_Go p e below PO (s₁.setTop (mkF m 45 #[.val (.int pA), .val (.int pB), .val (.int pC), .val (.int pD), .val (.int (own_I za)), .val (.int (own_I zb)), .val (.int (own_I zc)), .val (.int (own_I zd)), .val (.int (own_I ze)), .val (.int (own_I zf)), .unset, .unset, .unset, .unset, .unset, .unset, .unset, .unset, .unset, .unset, .unset, .unset, .unset, .unset, .unset, .unset, .unset, .unset] [(.int (own_I zx))]))
  refine own_back ?_ (fun t k => XS.istore X0.here hx rfl (hb hby at_45) rfl (l' := #[.val (.int pA), .val (.int pB), .val (.int pC), .val (.int pD), .val (.int (own_I za)), .val (.int (own_I zb)), .val (.int (own_I zc)), .val (.int (own_I zd)), .val (.int (own_I ze)), .val (.int (own_I zf)), .val (.int (own_I zx)), .unset, .unset, .unset, .unset, .unset, .unset, .unset, .unset, .unset, .unset, .unset, .unset, .unset, .unset, .unset, .unset, .unset]) rfl k)
  show own_Go p e below PO (s₁.setTop (mkF m 47 #[.val (.int pA), .val (.int pB), .val (.int pC), .val (.int pD), .val (.int (own_I za)), .val (.int (own_I zb)), .val (.int (own_I zc)), .val (.int (own_I zd)), .val (.int (own_I ze)), .val (.int (own_I zf)), .val (.int (own_I zx)), .unset, .unset, .unset, .unset, .unset, .unset, .unset, .unset, .unset, .unset, .unset, .unset, .unset, .unset, .unset, .unset, .unset] []))
  refine own_back ?_ (fun t k => XS.iloadN X0.here hx rfl (hb hby at_47) rfl k)
  show own_Go p e below PO (s₁.setTop (mkF m 48 #[.val (.int pA), .val (.int pB), .val (.int pC), .val (.int pD), .val (.int (own_I za)), .val (.int (own_I zb)), .val (.int (own_I zc)), .val (.int (own_I zd)), .val (.int (own_I ze)), .val (.int (own_I zf)), .val (.int (own_I zx)), .unset, .unset, .unset, .unset, .unset, .unset, .unset, .unset, .unset, .unset, .unset, .unset, .unset, .unset, .unset, .unset, .unset] [(.int pD)]))
  refine own_back ?_ (fun t k => XS.iconst X0.here hx rfl (hb hby at_48) k)
  show own_Go p e below PO (s₁.setTop (mkF m 49 #[.val (.int pA), .val (.int pB), .val (.int pC), .val (.int pD), .val (.int (own_I za)), .val (.int (own_I zb)), .val (.int (own_I zc)), .val (.int (own_I zd)), .val (.int (own_I ze)), .val (.int (own_I zf)), .val (.int (own_I zx)), .unset, .unset, .unset, .unset, .unset, .unset, .unset, .unset, .unset, .unset, .unset, .unset, .unset, .unset, .unset, .unset, .unset] [(.int (2 : Int32)), (.int pD)]))
  refine own_back ?_ (fun t k => XS.iushr X0.here hx rfl (hb hby at_49) rfl k)
  show own_Go p e below PO (s₁.setTop (mkF m 50 #[.val (.int pA), .val (.int pB), .val (.int pC), .val (.int pD), .val (.int (own_I za)), .val (.int (own_I zb)), .val (.int (own_I zc)), .val (.int (own_I zd)), .val (.int (own_I ze)), .val (.int (own_I zf)), .val (.int (own_I zx)), .unset, .unset, .unset, .unset, .unset, .unset, .unset, .unset, .unset, .unset, .unset, .unset, .unset, .unset, .unset, .unset, .unset] [(.int ((pD.toUInt32 >>> ((2 : Int32) &&& 31).toUInt32).toInt32))]))
  refine own_back ?_ (fun t k => XS.iconst X0.here hx rfl (hb hby at_50) k)
  show own_Go p e below PO (s₁.setTop (mkF m 51 #[.val (.int pA), .val (.int pB), .val (.int pC), .val (.int pD), .val (.int (own_I za)), .val (.int (own_I zb)), .val (.int (own_I zc)), .val (.int (own_I zd)), .val (.int (own_I ze)), .val (.int (own_I zf)), .val (.int (own_I zx)), .unset, .unset, .unset, .unset, .unset, .unset, .unset, .unset, .unset, .unset, .unset, .unset, .unset, .unset, .unset, .unset, .unset] [(.int (3 : Int32)), (.int ((pD.toUInt32 >>> ((2 : Int32) &&& 31).toUInt32).toInt32))]))
  refine own_back ?_ (fun t k => XS.iand X0.here hx rfl (hb hby at_51) rfl k)
  show own_Go p e below PO (s₁.setTop (mkF m 52 #[.val (.int pA), .val (.int pB), .val (.int pC), .val (.int pD), .val (.int (own_I za)), .val (.int (own_I zb)), .val (.int (own_I zc)), .val (.int (own_I zd)), .val (.int (own_I ze)), .val (.int (own_I zf)), .val (.int (own_I zx)), .unset, .unset, .unset, .unset, .unset, .unset, .unset, .unset, .unset, .unset, .unset, .unset, .unset, .unset, .unset, .unset, .unset] [(.int (((pD.toUInt32 >>> ((2 : Int32) &&& 31).toUInt32).toInt32) &&& (3 : Int32)))]))
  obtain ⟨zk, hzk, ezk⟩ := own_m3 ((pD.toUInt32 >>> ((2 : Int32) &&& 31).toUInt32).toInt32)
  refine own_sub (A := Int32) (x := (((pD.toUInt32 >>> ((2 : Int32) &&& 31).toUInt32).toInt32) &&& (3 : Int32))) (y := (own_I zk)) (fun cv => own_Go p e below PO (s₁.setTop (mkF m 52 #[.val (.int pA), .val (.int pB), .val (.int pC), .val (.int pD), .val (.int (own_I za)), .val (.int (own_I zb)), .val (.int (own_I zc)), .val (.int (own_I zd)), .val (.int (own_I ze)), .val (.int (own_I zf)), .val (.int (own_I zx)), .unset, .unset, .unset, .unset, .unset, .unset, .unset, .unset, .unset, .unset, .unset, .unset, .unset, .unset, .unset, .unset, .unset] [(.int cv)]))) ezk ?_
  show own_Go p e below PO (s₁.setTop (mkF m 52 #[.val (.int pA), .val (.int pB), .val (.int pC), .val (.int pD), .val (.int (own_I za)), .val (.int (own_I zb)), .val (.int (own_I zc)), .val (.int (own_I zd)), .val (.int (own_I ze)), .val (.int (own_I zf)), .val (.int (own_I zx)), .unset, .unset, .unset, .unset, .unset, .unset, .unset, .unset, .unset, .unset, .unset, .unset, .unset, .unset, .unset, .unset, .unset] [(.int (own_I zk))]))
  refine own_back ?_ (fun t k => XS.istore X0.here hx rfl (hb hby at_52) rfl (l' := #[.val (.int pA), .val (.int pB), .val (.int pC), .val (.int pD), .val (.int (own_I za)), .val (.int (own_I zb)), .val (.int (own_I zc)), .val (.int (own_I zd)), .val (.int (own_I ze)), .val (.int (own_I zf)), .val (.int (own_I zx)), .val (.int (own_I zk)), .unset, .unset, .unset, .unset, .unset, .unset, .unset, .unset, .unset, .unset, .unset, .unset, .unset, .unset, .unset, .unset]) rfl k)
  show own_Go p e below PO (s₁.setTop (mkF m 54 #[.val (.int pA), .val (.int pB), .val (.int pC), .val (.int pD), .val (.int (own_I za)), .val (.int (own_I zb)), .val (.int (own_I zc)), .val (.int (own_I zd)), .val (.int (own_I ze)), .val (.int (own_I zf)), .val (.int (own_I zx)), .val (.int (own_I zk)), .unset, .unset, .unset, .unset, .unset, .unset, .unset, .unset, .unset, .unset, .unset, .unset, .unset, .unset, .unset, .unset] []))
  refine own_back ?_ (fun t k => XS.iconst X0.here hx rfl (hb hby at_54) k)
  show own_Go p e below PO (s₁.setTop (mkF m 55 #[.val (.int pA), .val (.int pB), .val (.int pC), .val (.int pD), .val (.int (own_I za)), .val (.int (own_I zb)), .val (.int (own_I zc)), .val (.int (own_I zd)), .val (.int (own_I ze)), .val (.int (own_I zf)), .val (.int (own_I zx)), .val (.int (own_I zk)), .unset, .unset, .unset, .unset, .unset, .unset, .unset, .unset, .unset, .unset, .unset, .unset, .unset, .unset, .unset, .unset] [(.int (0 : Int32))]))
  refine own_back ?_ (fun t k => XS.iload X0.here hx rfl (hb hby at_55) rfl k)
  show own_Go p e below PO (s₁.setTop (mkF m 57 #[.val (.int pA), .val (.int pB), .val (.int pC), .val (.int pD), .val (.int (own_I za)), .val (.int (own_I zb)), .val (.int (own_I zc)), .val (.int (own_I zd)), .val (.int (own_I ze)), .val (.int (own_I zf)), .val (.int (own_I zx)), .val (.int (own_I zk)), .unset, .unset, .unset, .unset, .unset, .unset, .unset, .unset, .unset, .unset, .unset, .unset, .unset, .unset, .unset, .unset] [(.int (own_I zx)), (.int (0 : Int32))]))
  refine own_back ?_ (fun t k => XS.iload X0.here hx rfl (hb hby at_57) rfl k)
  show own_Go p e below PO (s₁.setTop (mkF m 59 #[.val (.int pA), .val (.int pB), .val (.int pC), .val (.int pD), .val (.int (own_I za)), .val (.int (own_I zb)), .val (.int (own_I zc)), .val (.int (own_I zd)), .val (.int (own_I ze)), .val (.int (own_I zf)), .val (.int (own_I zx)), .val (.int (own_I zk)), .unset, .unset, .unset, .unset, .unset, .unset, .unset, .unset, .unset, .unset, .unset, .unset, .unset, .unset, .unset, .unset] [(.int (own_I zk)), (.int (own_I zx)), (.int (0 : Int32))]))
  obtain ⟨_, _, ⟨T1, L1, k1, n1⟩, -, X1, ⟨Lc1, hQ1, l1, y1, z1⟩, st1⟩ := Jvm.LawKit.callS X0 hx (y := (⟨"com/example/nearbound/nearbound/graph/MinCutOnSourceSidePinLaw", "map", "(III)I"⟩ : MethodName)) hown (mvT hZ (hw _ (List.mem_of_getElem? (i := 0) rfl))) (mvT hZ (hw _ (List.mem_of_getElem? (i := 1) rfl))) (mvT hZ (hw _ (List.mem_of_getElem? (i := 2) rfl))) (mvT hZ (hw _ (List.mem_of_getElem? (i := 3) rfl))) (by decide) (backOf (W := 0) (rmMap l Z a0 hw [] (0 : Int32) (own_I zx) (own_I zk)  h0 n0 Z0 ) hZ (hw _ (List.mem_of_getElem? (i := 3) rfl)) (hw _ (List.mem_of_getElem? (i := 2) rfl)) (by decide) (by decide)) (g := (mkF m 59 #[.val (.int pA), .val (.int pB), .val (.int pC), .val (.int pD), .val (.int (own_I za)), .val (.int (own_I zb)), .val (.int (own_I zc)), .val (.int (own_I zd)), .val (.int (own_I ze)), .val (.int (own_I zf)), .val (.int (own_I zx)), .val (.int (own_I zk)), .unset, .unset, .unset, .unset, .unset, .unset, .unset, .unset, .unset, .unset, .unset, .unset, .unset, .unset, .unset, .unset] [(.int (own_I zk)), (.int (own_I zx)), (.int (0 : Int32))])) rfl (by rw [hml]; rfl) (argsL := [(.int (0 : Int32)), (.int (own_I zx)), (.int (own_I zk))]) (rest := []) (lenOf pd_6 rfl) rfl (by show 2 * 0 + _ ≤ _; exact Nat.le_of_eq rfl) (hb hby at_59) (fun _ _ => ⟨rfl, e0, (by decide : 0 + 0 ≤ _), (by decide : 0 + 0 ≤ _)⟩)
  dsimp only [Pt.U, Pt.locs, Pt.cells, Pt.slots] at X1 l1 y1 z1 st1 hQ1
  subst l1 y1 z1
  obtain ⟨rfl, N1q, e1⟩ := hQ1
  have N1 := Fr.app N0 N1q
  refine own_back ?_ st1
  show own_Go p e below PO (T1.setTop (mkF m 62 #[.val (.int pA), .val (.int pB), .val (.int pC), .val (.int pD), .val (.int (own_I za)), .val (.int (own_I zb)), .val (.int (own_I zc)), .val (.int (own_I zd)), .val (.int (own_I ze)), .val (.int (own_I zf)), .val (.int (own_I zx)), .val (.int (own_I zk)), .unset, .unset, .unset, .unset, .unset, .unset, .unset, .unset, .unset, .unset, .unset, .unset, .unset, .unset, .unset, .unset] [(.int (own_map (0 : Int32) (own_I zx) (own_I zk)))]))
  refine own_back ?_ (fun t k => XS.istore X1.here hx rfl (hb hby at_62) rfl (l' := #[.val (.int pA), .val (.int pB), .val (.int pC), .val (.int pD), .val (.int (own_I za)), .val (.int (own_I zb)), .val (.int (own_I zc)), .val (.int (own_I zd)), .val (.int (own_I ze)), .val (.int (own_I zf)), .val (.int (own_I zx)), .val (.int (own_I zk)), .val (.int (own_map (0 : Int32) (own_I zx) (own_I zk))), .unset, .unset, .unset, .unset, .unset, .unset, .unset, .unset, .unset, .unset, .unset, .unset, .unset, .unset, .unset]) rfl k)
  show own_Go p e below PO (T1.setTop (mkF m 64 #[.val (.int pA), .val (.int pB), .val (.int pC), .val (.int pD), .val (.int (own_I za)), .val (.int (own_I zb)), .val (.int (own_I zc)), .val (.int (own_I zd)), .val (.int (own_I ze)), .val (.int (own_I zf)), .val (.int (own_I zx)), .val (.int (own_I zk)), .val (.int (own_map (0 : Int32) (own_I zx) (own_I zk))), .unset, .unset, .unset, .unset, .unset, .unset, .unset, .unset, .unset, .unset, .unset, .unset, .unset, .unset, .unset] []))
  refine own_back ?_ (fun t k => XS.iconst X1.here hx rfl (hb hby at_64) k)
  show own_Go p e below PO (T1.setTop (mkF m 65 #[.val (.int pA), .val (.int pB), .val (.int pC), .val (.int pD), .val (.int (own_I za)), .val (.int (own_I zb)), .val (.int (own_I zc)), .val (.int (own_I zd)), .val (.int (own_I ze)), .val (.int (own_I zf)), .val (.int (own_I zx)), .val (.int (own_I zk)), .val (.int (own_map (0 : Int32) (own_I zx) (own_I zk))), .unset, .unset, .unset, .unset, .unset, .unset, .unset, .unset, .unset, .unset, .unset, .unset, .unset, .unset, .unset] [(.int (1 : Int32))]))
  refine own_back ?_ (fun t k => XS.iload X1.here hx rfl (hb hby at_65) rfl k)
  show own_Go p e below PO (T1.setTop (mkF m 67 #[.val (.int pA), .val (.int pB), .val (.int pC), .val (.int pD), .val (.int (own_I za)), .val (.int (own_I zb)), .val (.int (own_I zc)), .val (.int (own_I zd)), .val (.int (own_I ze)), .val (.int (own_I zf)), .val (.int (own_I zx)), .val (.int (own_I zk)), .val (.int (own_map (0 : Int32) (own_I zx) (own_I zk))), .unset, .unset, .unset, .unset, .unset, .unset, .unset, .unset, .unset, .unset, .unset, .unset, .unset, .unset, .unset] [(.int (own_I zx)), (.int (1 : Int32))]))
  refine own_back ?_ (fun t k => XS.iload X1.here hx rfl (hb hby at_67) rfl k)
  show own_Go p e below PO (T1.setTop (mkF m 69 #[.val (.int pA), .val (.int pB), .val (.int pC), .val (.int pD), .val (.int (own_I za)), .val (.int (own_I zb)), .val (.int (own_I zc)), .val (.int (own_I zd)), .val (.int (own_I ze)), .val (.int (own_I zf)), .val (.int (own_I zx)), .val (.int (own_I zk)), .val (.int (own_map (0 : Int32) (own_I zx) (own_I zk))), .unset, .unset, .unset, .unset, .unset, .unset, .unset, .unset, .unset, .unset, .unset, .unset, .unset, .unset, .unset] [(.int (own_I zk)), (.int (own_I zx)), (.int (1 : Int32))]))
  obtain ⟨_, _, ⟨T2, L2, k2, n2⟩, -, X2, ⟨Lc2, hQ2, l2, y2, z2⟩, st2⟩ := Jvm.LawKit.callS X1 hx (y := (⟨"com/example/nearbound/nearbound/graph/MinCutOnSourceSidePinLaw", "map", "(III)I"⟩ : MethodName)) hown (mvT hZ (hw _ (List.mem_of_getElem? (i := 0) rfl))) (mvT hZ (hw _ (List.mem_of_getElem? (i := 1) rfl))) (mvT hZ (hw _ (List.mem_of_getElem? (i := 2) rfl))) (mvT hZ (hw _ (List.mem_of_getElem? (i := 3) rfl))) (by decide) (backOf (W := 0) (rmMap l Z a0 hw [] (1 : Int32) (own_I zx) (own_I zk)  h0 n0 Z0 ) hZ (hw _ (List.mem_of_getElem? (i := 3) rfl)) (hw _ (List.mem_of_getElem? (i := 2) rfl)) (by decide) (by decide)) (g := (mkF m 69 #[.val (.int pA), .val (.int pB), .val (.int pC), .val (.int pD), .val (.int (own_I za)), .val (.int (own_I zb)), .val (.int (own_I zc)), .val (.int (own_I zd)), .val (.int (own_I ze)), .val (.int (own_I zf)), .val (.int (own_I zx)), .val (.int (own_I zk)), .val (.int (own_map (0 : Int32) (own_I zx) (own_I zk))), .unset, .unset, .unset, .unset, .unset, .unset, .unset, .unset, .unset, .unset, .unset, .unset, .unset, .unset, .unset] [(.int (own_I zk)), (.int (own_I zx)), (.int (1 : Int32))])) rfl (by rw [hml]; rfl) (argsL := [(.int (1 : Int32)), (.int (own_I zx)), (.int (own_I zk))]) (rest := []) (lenOf pd_6 rfl) rfl (by show 2 * 0 + _ ≤ _; exact Nat.le_of_eq rfl) (hb hby at_69) (fun _ _ => ⟨rfl, e1, (by decide : 0 + 0 ≤ _), (by decide : 0 + 0 ≤ _)⟩)
  dsimp only [Pt.U, Pt.locs, Pt.cells, Pt.slots] at X2 l2 y2 z2 st2 hQ2
  subst l2 y2 z2
  obtain ⟨rfl, N2q, e2⟩ := hQ2
  have N2 := Fr.app N1 N2q
  refine own_back ?_ st2
  show own_Go p e below PO (T2.setTop (mkF m 72 #[.val (.int pA), .val (.int pB), .val (.int pC), .val (.int pD), .val (.int (own_I za)), .val (.int (own_I zb)), .val (.int (own_I zc)), .val (.int (own_I zd)), .val (.int (own_I ze)), .val (.int (own_I zf)), .val (.int (own_I zx)), .val (.int (own_I zk)), .val (.int (own_map (0 : Int32) (own_I zx) (own_I zk))), .unset, .unset, .unset, .unset, .unset, .unset, .unset, .unset, .unset, .unset, .unset, .unset, .unset, .unset, .unset] [(.int (own_map (1 : Int32) (own_I zx) (own_I zk)))]))
  refine own_back ?_ (fun t k => XS.istore X2.here hx rfl (hb hby at_72) rfl (l' := #[.val (.int pA), .val (.int pB), .val (.int pC), .val (.int pD), .val (.int (own_I za)), .val (.int (own_I zb)), .val (.int (own_I zc)), .val (.int (own_I zd)), .val (.int (own_I ze)), .val (.int (own_I zf)), .val (.int (own_I zx)), .val (.int (own_I zk)), .val (.int (own_map (0 : Int32) (own_I zx) (own_I zk))), .val (.int (own_map (1 : Int32) (own_I zx) (own_I zk))), .unset, .unset, .unset, .unset, .unset, .unset, .unset, .unset, .unset, .unset, .unset, .unset, .unset, .unset]) rfl k)
  show own_Go p e below PO (T2.setTop (mkF m 74 #[.val (.int pA), .val (.int pB), .val (.int pC), .val (.int pD), .val (.int (own_I za)), .val (.int (own_I zb)), .val (.int (own_I zc)), .val (.int (own_I zd)), .val (.int (own_I ze)), .val (.int (own_I zf)), .val (.int (own_I zx)), .val (.int (own_I zk)), .val (.int (own_map (0 : Int32) (own_I zx) (own_I zk))), .val (.int (own_map (1 : Int32) (own_I zx) (own_I zk))), .unset, .unset, .unset, .unset, .unset, .unset, .unset, .unset, .unset, .unset, .unset, .unset, .unset, .unset] []))
  refine own_back ?_ (fun t k => XS.iconst X2.here hx rfl (hb hby at_74) k)
  show own_Go p e below PO (T2.setTop (mkF m 75 #[.val (.int pA), .val (.int pB), .val (.int pC), .val (.int pD), .val (.int (own_I za)), .val (.int (own_I zb)), .val (.int (own_I zc)), .val (.int (own_I zd)), .val (.int (own_I ze)), .val (.int (own_I zf)), .val (.int (own_I zx)), .val (.int (own_I zk)), .val (.int (own_map (0 : Int32) (own_I zx) (own_I zk))), .val (.int (own_map (1 : Int32) (own_I zx) (own_I zk))), .unset, .unset, .unset, .unset, .unset, .unset, .unset, .unset, .unset, .unset, .unset, .unset, .unset, .unset] [(.int (2 : Int32))]))
  refine own_back ?_ (fun t k => XS.iload X2.here hx rfl (hb hby at_75) rfl k)
  show own_Go p e below PO (T2.setTop (mkF m 77 #[.val (.int pA), .val (.int pB), .val (.int pC), .val (.int pD), .val (.int (own_I za)), .val (.int (own_I zb)), .val (.int (own_I zc)), .val (.int (own_I zd)), .val (.int (own_I ze)), .val (.int (own_I zf)), .val (.int (own_I zx)), .val (.int (own_I zk)), .val (.int (own_map (0 : Int32) (own_I zx) (own_I zk))), .val (.int (own_map (1 : Int32) (own_I zx) (own_I zk))), .unset, .unset, .unset, .unset, .unset, .unset, .unset, .unset, .unset, .unset, .unset, .unset, .unset, .unset] [(.int (own_I zx)), (.int (2 : Int32))]))
  refine own_back ?_ (fun t k => XS.iload X2.here hx rfl (hb hby at_77) rfl k)
  show own_Go p e below PO (T2.setTop (mkF m 79 #[.val (.int pA), .val (.int pB), .val (.int pC), .val (.int pD), .val (.int (own_I za)), .val (.int (own_I zb)), .val (.int (own_I zc)), .val (.int (own_I zd)), .val (.int (own_I ze)), .val (.int (own_I zf)), .val (.int (own_I zx)), .val (.int (own_I zk)), .val (.int (own_map (0 : Int32) (own_I zx) (own_I zk))), .val (.int (own_map (1 : Int32) (own_I zx) (own_I zk))), .unset, .unset, .unset, .unset, .unset, .unset, .unset, .unset, .unset, .unset, .unset, .unset, .unset, .unset] [(.int (own_I zk)), (.int (own_I zx)), (.int (2 : Int32))]))
  obtain ⟨_, _, ⟨T3, L3, k3, n3⟩, -, X3, ⟨Lc3, hQ3, l3, y3, z3⟩, st3⟩ := Jvm.LawKit.callS X2 hx (y := (⟨"com/example/nearbound/nearbound/graph/MinCutOnSourceSidePinLaw", "map", "(III)I"⟩ : MethodName)) hown (mvT hZ (hw _ (List.mem_of_getElem? (i := 0) rfl))) (mvT hZ (hw _ (List.mem_of_getElem? (i := 1) rfl))) (mvT hZ (hw _ (List.mem_of_getElem? (i := 2) rfl))) (mvT hZ (hw _ (List.mem_of_getElem? (i := 3) rfl))) (by decide) (backOf (W := 0) (rmMap l Z a0 hw [] (2 : Int32) (own_I zx) (own_I zk)  h0 n0 Z0 ) hZ (hw _ (List.mem_of_getElem? (i := 3) rfl)) (hw _ (List.mem_of_getElem? (i := 2) rfl)) (by decide) (by decide)) (g := (mkF m 79 #[.val (.int pA), .val (.int pB), .val (.int pC), .val (.int pD), .val (.int (own_I za)), .val (.int (own_I zb)), .val (.int (own_I zc)), .val (.int (own_I zd)), .val (.int (own_I ze)), .val (.int (own_I zf)), .val (.int (own_I zx)), .val (.int (own_I zk)), .val (.int (own_map (0 : Int32) (own_I zx) (own_I zk))), .val (.int (own_map (1 : Int32) (own_I zx) (own_I zk))), .unset, .unset, .unset, .unset, .unset, .unset, .unset, .unset, .unset, .unset, .unset, .unset, .unset, .unset] [(.int (own_I zk)), (.int (own_I zx)), (.int (2 : Int32))])) rfl (by rw [hml]; rfl) (argsL := [(.int (2 : Int32)), (.int (own_I zx)), (.int (own_I zk))]) (rest := []) (lenOf pd_6 rfl) rfl (by show 2 * 0 + _ ≤ _; exact Nat.le_of_eq rfl) (hb hby at_79) (fun _ _ => ⟨rfl, e2, (by decide : 0 + 0 ≤ _), (by decide : 0 + 0 ≤ _)⟩)
  dsimp only [Pt.U, Pt.locs, Pt.cells, Pt.slots] at X3 l3 y3 z3 st3 hQ3
  subst l3 y3 z3
  obtain ⟨rfl, N3q, e3⟩ := hQ3
  have N3 := Fr.app N2 N3q
  refine own_back ?_ st3
  show own_Go p e below PO (T3.setTop (mkF m 82 #[.val (.int pA), .val (.int pB), .val (.int pC), .val (.int pD), .val (.int (own_I za)), .val (.int (own_I zb)), .val (.int (own_I zc)), .val (.int (own_I zd)), .val (.int (own_I ze)), .val (.int (own_I zf)), .val (.int (own_I zx)), .val (.int (own_I zk)), .val (.int (own_map (0 : Int32) (own_I zx) (own_I zk))), .val (.int (own_map (1 : Int32) (own_I zx) (own_I zk))), .unset, .unset, .unset, .unset, .unset, .unset, .unset, .unset, .unset, .unset, .unset, .unset, .unset, .unset] [(.int (own_map (2 : Int32) (own_I zx) (own_I zk)))]))
  refine own_back ?_ (fun t k => XS.istore X3.here hx rfl (hb hby at_82) rfl (l' := #[.val (.int pA), .val (.int pB), .val (.int pC), .val (.int pD), .val (.int (own_I za)), .val (.int (own_I zb)), .val (.int (own_I zc)), .val (.int (own_I zd)), .val (.int (own_I ze)), .val (.int (own_I zf)), .val (.int (own_I zx)), .val (.int (own_I zk)), .val (.int (own_map (0 : Int32) (own_I zx) (own_I zk))), .val (.int (own_map (1 : Int32) (own_I zx) (own_I zk))), .val (.int (own_map (2 : Int32) (own_I zx) (own_I zk))), .unset, .unset, .unset, .unset, .unset, .unset, .unset, .unset, .unset, .unset, .unset, .unset, .unset]) rfl k)
  show own_Go p e below PO (T3.setTop (mkF m 84 #[.val (.int pA), .val (.int pB), .val (.int pC), .val (.int pD), .val (.int (own_I za)), .val (.int (own_I zb)), .val (.int (own_I zc)), .val (.int (own_I zd)), .val (.int (own_I ze)), .val (.int (own_I zf)), .val (.int (own_I zx)), .val (.int (own_I zk)), .val (.int (own_map (0 : Int32) (own_I zx) (own_I zk))), .val (.int (own_map (1 : Int32) (own_I zx) (own_I zk))), .val (.int (own_map (2 : Int32) (own_I zx) (own_I zk))), .unset, .unset, .unset, .unset, .unset, .unset, .unset, .unset, .unset, .unset, .unset, .unset, .unset] []))
  refine own_back ?_ (fun t k => XS.iconst X3.here hx rfl (hb hby at_84) k)
  show own_Go p e below PO (T3.setTop (mkF m 85 #[.val (.int pA), .val (.int pB), .val (.int pC), .val (.int pD), .val (.int (own_I za)), .val (.int (own_I zb)), .val (.int (own_I zc)), .val (.int (own_I zd)), .val (.int (own_I ze)), .val (.int (own_I zf)), .val (.int (own_I zx)), .val (.int (own_I zk)), .val (.int (own_map (0 : Int32) (own_I zx) (own_I zk))), .val (.int (own_map (1 : Int32) (own_I zx) (own_I zk))), .val (.int (own_map (2 : Int32) (own_I zx) (own_I zk))), .unset, .unset, .unset, .unset, .unset, .unset, .unset, .unset, .unset, .unset, .unset, .unset, .unset] [(.int (3 : Int32))]))
  refine own_back ?_ (fun t k => XS.iload X3.here hx rfl (hb hby at_85) rfl k)
  show own_Go p e below PO (T3.setTop (mkF m 87 #[.val (.int pA), .val (.int pB), .val (.int pC), .val (.int pD), .val (.int (own_I za)), .val (.int (own_I zb)), .val (.int (own_I zc)), .val (.int (own_I zd)), .val (.int (own_I ze)), .val (.int (own_I zf)), .val (.int (own_I zx)), .val (.int (own_I zk)), .val (.int (own_map (0 : Int32) (own_I zx) (own_I zk))), .val (.int (own_map (1 : Int32) (own_I zx) (own_I zk))), .val (.int (own_map (2 : Int32) (own_I zx) (own_I zk))), .unset, .unset, .unset, .unset, .unset, .unset, .unset, .unset, .unset, .unset, .unset, .unset, .unset] [(.int (own_I zx)), (.int (3 : Int32))]))
  refine own_back ?_ (fun t k => XS.iload X3.here hx rfl (hb hby at_87) rfl k)
  show own_Go p e below PO (T3.setTop (mkF m 89 #[.val (.int pA), .val (.int pB), .val (.int pC), .val (.int pD), .val (.int (own_I za)), .val (.int (own_I zb)), .val (.int (own_I zc)), .val (.int (own_I zd)), .val (.int (own_I ze)), .val (.int (own_I zf)), .val (.int (own_I zx)), .val (.int (own_I zk)), .val (.int (own_map (0 : Int32) (own_I zx) (own_I zk))), .val (.int (own_map (1 : Int32) (own_I zx) (own_I zk))), .val (.int (own_map (2 : Int32) (own_I zx) (own_I zk))), .unset, .unset, .unset, .unset, .unset, .unset, .unset, .unset, .unset, .unset, .unset, .unset, .unset] [(.int (own_I zk)), (.int (own_I zx)), (.int (3 : Int32))]))
  obtain ⟨_, _, ⟨T4, L4, k4, n4⟩, -, X4, ⟨Lc4, hQ4, l4, y4, z4⟩, st4⟩ := Jvm.LawKit.callS X3 hx (y := (⟨"com/example/nearbound/nearbound/graph/MinCutOnSourceSidePinLaw", "map", "(III)I"⟩ : MethodName)) hown (mvT hZ (hw _ (List.mem_of_getElem? (i := 0) rfl))) (mvT hZ (hw _ (List.mem_of_getElem? (i := 1) rfl))) (mvT hZ (hw _ (List.mem_of_getElem? (i := 2) rfl))) (mvT hZ (hw _ (List.mem_of_getElem? (i := 3) rfl))) (by decide) (backOf (W := 0) (rmMap l Z a0 hw [] (3 : Int32) (own_I zx) (own_I zk)  h0 n0 Z0 ) hZ (hw _ (List.mem_of_getElem? (i := 3) rfl)) (hw _ (List.mem_of_getElem? (i := 2) rfl)) (by decide) (by decide)) (g := (mkF m 89 #[.val (.int pA), .val (.int pB), .val (.int pC), .val (.int pD), .val (.int (own_I za)), .val (.int (own_I zb)), .val (.int (own_I zc)), .val (.int (own_I zd)), .val (.int (own_I ze)), .val (.int (own_I zf)), .val (.int (own_I zx)), .val (.int (own_I zk)), .val (.int (own_map (0 : Int32) (own_I zx) (own_I zk))), .val (.int (own_map (1 : Int32) (own_I zx) (own_I zk))), .val (.int (own_map (2 : Int32) (own_I zx) (own_I zk))), .unset, .unset, .unset, .unset, .unset, .unset, .unset, .unset, .unset, .unset, .unset, .unset, .unset] [(.int (own_I zk)), (.int (own_I zx)), (.int (3 : Int32))])) rfl (by rw [hml]; rfl) (argsL := [(.int (3 : Int32)), (.int (own_I zx)), (.int (own_I zk))]) (rest := []) (lenOf pd_6 rfl) rfl (by show 2 * 0 + _ ≤ _; exact Nat.le_of_eq rfl) (hb hby at_89) (fun _ _ => ⟨rfl, e3, (by decide : 0 + 0 ≤ _), (by decide : 0 + 0 ≤ _)⟩)
  dsimp only [Pt.U, Pt.locs, Pt.cells, Pt.slots] at X4 l4 y4 z4 st4 hQ4
  subst l4 y4 z4
  obtain ⟨rfl, N4q, e4⟩ := hQ4
  have N4 := Fr.app N3 N4q
  refine own_back ?_ st4
  show own_Go p e below PO (T4.setTop (mkF m 92 #[.val (.int pA), .val (.int pB), .val (.int pC), .val (.int pD), .val (.int (own_I za)), .val (.int (own_I zb)), .val (.int (own_I zc)), .val (.int (own_I zd)), .val (.int (own_I ze)), .val (.int (own_I zf)), .val (.int (own_I zx)), .val (.int (own_I zk)), .val (.int (own_map (0 : Int32) (own_I zx) (own_I zk))), .val (.int (own_map (1 : Int32) (own_I zx) (own_I zk))), .val (.int (own_map (2 : Int32) (own_I zx) (own_I zk))), .unset, .unset, .unset, .unset, .unset, .unset, .unset, .unset, .unset, .unset, .unset, .unset, .unset] [(.int (own_map (3 : Int32) (own_I zx) (own_I zk)))]))
  refine own_back ?_ (fun t k => XS.istore X4.here hx rfl (hb hby at_92) rfl (l' := #[.val (.int pA), .val (.int pB), .val (.int pC), .val (.int pD), .val (.int (own_I za)), .val (.int (own_I zb)), .val (.int (own_I zc)), .val (.int (own_I zd)), .val (.int (own_I ze)), .val (.int (own_I zf)), .val (.int (own_I zx)), .val (.int (own_I zk)), .val (.int (own_map (0 : Int32) (own_I zx) (own_I zk))), .val (.int (own_map (1 : Int32) (own_I zx) (own_I zk))), .val (.int (own_map (2 : Int32) (own_I zx) (own_I zk))), .val (.int (own_map (3 : Int32) (own_I zx) (own_I zk))), .unset, .unset, .unset, .unset, .unset, .unset, .unset, .unset, .unset, .unset, .unset, .unset]) rfl k)
  show own_Go p e below PO (T4.setTop (mkF m 94 #[.val (.int pA), .val (.int pB), .val (.int pC), .val (.int pD), .val (.int (own_I za)), .val (.int (own_I zb)), .val (.int (own_I zc)), .val (.int (own_I zd)), .val (.int (own_I ze)), .val (.int (own_I zf)), .val (.int (own_I zx)), .val (.int (own_I zk)), .val (.int (own_map (0 : Int32) (own_I zx) (own_I zk))), .val (.int (own_map (1 : Int32) (own_I zx) (own_I zk))), .val (.int (own_map (2 : Int32) (own_I zx) (own_I zk))), .val (.int (own_map (3 : Int32) (own_I zx) (own_I zk))), .unset, .unset, .unset, .unset, .unset, .unset, .unset, .unset, .unset, .unset, .unset, .unset] []))
  obtain ⟨m0, m1, m2, m3, hpq, em0, em1, em2, em3⟩ := own_pe hzx hzk
  have hm0 := hpq.1.1
  have hm1 := hpq.1.2.1
  have hm2 := hpq.1.2.2.1
  have hm3 := hpq.1.2.2.2
  refine own_sub (A := Int32) (x := (own_map (0 : Int32) (own_I zx) (own_I zk))) (y := (own_I m0)) (fun cv => own_Go p e below PO (T4.setTop (mkF m 94 #[.val (.int pA), .val (.int pB), .val (.int pC), .val (.int pD), .val (.int (own_I za)), .val (.int (own_I zb)), .val (.int (own_I zc)), .val (.int (own_I zd)), .val (.int (own_I ze)), .val (.int (own_I zf)), .val (.int (own_I zx)), .val (.int (own_I zk)), .val (.int cv), .val (.int (own_map (1 : Int32) (own_I zx) (own_I zk))), .val (.int (own_map (2 : Int32) (own_I zx) (own_I zk))), .val (.int (own_map (3 : Int32) (own_I zx) (own_I zk))), .unset, .unset, .unset, .unset, .unset, .unset, .unset, .unset, .unset, .unset, .unset, .unset] []))) em0 ?_
  show own_Go p e below PO (T4.setTop (mkF m 94 #[.val (.int pA), .val (.int pB), .val (.int pC), .val (.int pD), .val (.int (own_I za)), .val (.int (own_I zb)), .val (.int (own_I zc)), .val (.int (own_I zd)), .val (.int (own_I ze)), .val (.int (own_I zf)), .val (.int (own_I zx)), .val (.int (own_I zk)), .val (.int (own_I m0)), .val (.int (own_map (1 : Int32) (own_I zx) (own_I zk))), .val (.int (own_map (2 : Int32) (own_I zx) (own_I zk))), .val (.int (own_map (3 : Int32) (own_I zx) (own_I zk))), .unset, .unset, .unset, .unset, .unset, .unset, .unset, .unset, .unset, .unset, .unset, .unset] []))
  refine own_sub (A := Int32) (x := (own_map (1 : Int32) (own_I zx) (own_I zk))) (y := (own_I m1)) (fun cv => own_Go p e below PO (T4.setTop (mkF m 94 #[.val (.int pA), .val (.int pB), .val (.int pC), .val (.int pD), .val (.int (own_I za)), .val (.int (own_I zb)), .val (.int (own_I zc)), .val (.int (own_I zd)), .val (.int (own_I ze)), .val (.int (own_I zf)), .val (.int (own_I zx)), .val (.int (own_I zk)), .val (.int (own_I m0)), .val (.int cv), .val (.int (own_map (2 : Int32) (own_I zx) (own_I zk))), .val (.int (own_map (3 : Int32) (own_I zx) (own_I zk))), .unset, .unset, .unset, .unset, .unset, .unset, .unset, .unset, .unset, .unset, .unset, .unset] []))) em1 ?_
  show own_Go p e below PO (T4.setTop (mkF m 94 #[.val (.int pA), .val (.int pB), .val (.int pC), .val (.int pD), .val (.int (own_I za)), .val (.int (own_I zb)), .val (.int (own_I zc)), .val (.int (own_I zd)), .val (.int (own_I ze)), .val (.int (own_I zf)), .val (.int (own_I zx)), .val (.int (own_I zk)), .val (.int (own_I m0)), .val (.int (own_I m1)), .val (.int (own_map (2 : Int32) (own_I zx) (own_I zk))), .val (.int (own_map (3 : Int32) (own_I zx) (own_I zk))), .unset, .unset, .unset, .unset, .unset, .unset, .unset, .unset, .unset, .unset, .unset, .unset] []))
  refine own_sub (A := Int32) (x := (own_map (2 : Int32) (own_I zx) (own_I zk))) (y := (own_I m2)) (fun cv => own_Go p e below PO (T4.setTop (mkF m 94 #[.val (.int pA), .val (.int pB), .val (.int pC), .val (.int pD), .val (.int (own_I za)), .val (.int (own_I zb)), .val (.int (own_I zc)), .val (.int (own_I zd)), .val (.int (own_I ze)), .val (.int (own_I zf)), .val (.int (own_I zx)), .val (.int (own_I zk)), .val (.int (own_I m0)), .val (.int (own_I m1)), .val (.int cv), .val (.int (own_map (3 : Int32) (own_I zx) (own_I zk))), .unset, .unset, .unset, .unset, .unset, .unset, .unset, .unset, .unset, .unset, .unset, .unset] []))) em2 ?_
  show own_Go p e below PO (T4.setTop (mkF m 94 #[.val (.int pA), .val (.int pB), .val (.int pC), .val (.int pD), .val (.int (own_I za)), .val (.int (own_I zb)), .val (.int (own_I zc)), .val (.int (own_I zd)), .val (.int (own_I ze)), .val (.int (own_I zf)), .val (.int (own_I zx)), .val (.int (own_I zk)), .val (.int (own_I m0)), .val (.int (own_I m1)), .val (.int (own_I m2)), .val (.int (own_map (3 : Int32) (own_I zx) (own_I zk))), .unset, .unset, .unset, .unset, .unset, .unset, .unset, .unset, .unset, .unset, .unset, .unset] []))
  refine own_sub (A := Int32) (x := (own_map (3 : Int32) (own_I zx) (own_I zk))) (y := (own_I m3)) (fun cv => own_Go p e below PO (T4.setTop (mkF m 94 #[.val (.int pA), .val (.int pB), .val (.int pC), .val (.int pD), .val (.int (own_I za)), .val (.int (own_I zb)), .val (.int (own_I zc)), .val (.int (own_I zd)), .val (.int (own_I ze)), .val (.int (own_I zf)), .val (.int (own_I zx)), .val (.int (own_I zk)), .val (.int (own_I m0)), .val (.int (own_I m1)), .val (.int (own_I m2)), .val (.int cv), .unset, .unset, .unset, .unset, .unset, .unset, .unset, .unset, .unset, .unset, .unset, .unset] []))) em3 ?_
  show own_Go p e below PO (T4.setTop (mkF m 94 #[.val (.int pA), .val (.int pB), .val (.int pC), .val (.int pD), .val (.int (own_I za)), .val (.int (own_I zb)), .val (.int (own_I zc)), .val (.int (own_I zd)), .val (.int (own_I ze)), .val (.int (own_I zf)), .val (.int (own_I zx)), .val (.int (own_I zk)), .val (.int (own_I m0)), .val (.int (own_I m1)), .val (.int (own_I m2)), .val (.int (own_I m3)), .unset, .unset, .unset, .unset, .unset, .unset, .unset, .unset, .unset, .unset, .unset, .unset] []))
  obtain ⟨T5, h5, X5, e5, E5, A5, D5, -, st5⟩ := newO X4 hx hZ hown (hw _ (List.mem_of_getElem? (i := 4) rfl)) (hw _ (List.mem_of_getElem? (i := 5) rfl)) (hw _ (List.mem_of_getElem? (i := 6) rfl)) e4 (g := (mkF m 94 #[.val (.int pA), .val (.int pB), .val (.int pC), .val (.int pD), .val (.int (own_I za)), .val (.int (own_I zb)), .val (.int (own_I zc)), .val (.int (own_I zd)), .val (.int (own_I ze)), .val (.int (own_I zf)), .val (.int (own_I zx)), .val (.int (own_I zk)), .val (.int (own_I m0)), .val (.int (own_I m1)), .val (.int (own_I m2)), .val (.int (own_I m3)), .unset, .unset, .unset, .unset, .unset, .unset, .unset, .unset, .unset, .unset, .unset, .unset] [])) rfl (hb hby at_94) (by decide) (by decide)
  obtain ⟨b5, g5⟩ : ∃ z, z = h0.size := ⟨_, rfl⟩
  rw [← g5] at A5 D5 st5
  have sz_b5 : h0.size ≤ b5 := Nat.le_of_eq g5.symm
  have gn_b5 : n0 ≤ b5 := Nat.le_trans Z0 sz_b5
  have K5 : Keep h0 h5 [] := (Keep.refl h0 []).ext E5
  have Zh5 : n0 ≤ h5.size := Nat.le_trans Z0 K5.1
  have F5_first : Fld Z h5 b5 "com/example/nearbound/nearbound/graph/MinCut" "first" "[I" .null := D5 (Or.inl (hw _ (List.mem_of_getElem? (i := 15) rfl))) (ty := (.array .int)) (by decide)
  have F5_next : Fld Z h5 b5 "com/example/nearbound/nearbound/graph/MinCut" "next" "[I" .null := D5 (Or.inl (hw _ (List.mem_of_getElem? (i := 17) rfl))) (ty := (.array .int)) (by decide)
  have F5_head : Fld Z h5 b5 "com/example/nearbound/nearbound/graph/MinCut" "head" "[I" .null := D5 (Or.inl (hw _ (List.mem_of_getElem? (i := 19) rfl))) (ty := (.array .int)) (by decide)
  have F5_room : Fld Z h5 b5 "com/example/nearbound/nearbound/graph/MinCut" "room" "[D" .null := D5 (Or.inl (hw _ (List.mem_of_getElem? (i := 22) rfl))) (ty := (.array .double)) (by decide)
  have F5_level : Fld Z h5 b5 "com/example/nearbound/nearbound/graph/MinCut" "level" "[I" .null := D5 (Or.inl (hw _ (List.mem_of_getElem? (i := 24) rfl))) (ty := (.array .int)) (by decide)
  have F5_arc : Fld Z h5 b5 "com/example/nearbound/nearbound/graph/MinCut" "arc" "[I" .null := D5 (Or.inl (hw _ (List.mem_of_getElem? (i := 26) rfl))) (ty := (.array .int)) (by decide)
  have F5_queue : Fld Z h5 b5 "com/example/nearbound/nearbound/graph/MinCut" "queue" "[I" .null := D5 (Or.inl (hw _ (List.mem_of_getElem? (i := 28) rfl))) (ty := (.array .int)) (by decide)
  have F5_path : Fld Z h5 b5 "com/example/nearbound/nearbound/graph/MinCut" "path" "[I" .null := D5 (Or.inl (hw _ (List.mem_of_getElem? (i := 30) rfl))) (ty := (.array .int)) (by decide)
  have F5_nodeCount : Fld Z h5 b5 "com/example/nearbound/nearbound/graph/MinCut" "nodeCount" "I" (.int (0 : Int32)) := D5 (Or.inl (hw _ (List.mem_of_getElem? (i := 37) rfl))) (ty := .int) (by decide)
  have F5_edgeCount : Fld Z h5 b5 "com/example/nearbound/nearbound/graph/MinCut" "edgeCount" "I" (.int (0 : Int32)) := D5 (Or.inl (hw _ (List.mem_of_getElem? (i := 39) rfl))) (ty := .int) (by decide)
  refine own_back ?_ st5
  show own_Go p e below PO (T5.setTop (mkF m 97 #[.val (.int pA), .val (.int pB), .val (.int pC), .val (.int pD), .val (.int (own_I za)), .val (.int (own_I zb)), .val (.int (own_I zc)), .val (.int (own_I zd)), .val (.int (own_I ze)), .val (.int (own_I zf)), .val (.int (own_I zx)), .val (.int (own_I zk)), .val (.int (own_I m0)), .val (.int (own_I m1)), .val (.int (own_I m2)), .val (.int (own_I m3)), .unset, .unset, .unset, .unset, .unset, .unset, .unset, .unset, .unset, .unset, .unset, .unset] [(.ref b5)]))
  refine own_back ?_ (fun t k => XS.dup X5.here hx rfl (hb hby at_97) rfl rfl k)
  show own_Go p e below PO (T5.setTop (mkF m 98 #[.val (.int pA), .val (.int pB), .val (.int pC), .val (.int pD), .val (.int (own_I za)), .val (.int (own_I zb)), .val (.int (own_I zc)), .val (.int (own_I zd)), .val (.int (own_I ze)), .val (.int (own_I zf)), .val (.int (own_I zx)), .val (.int (own_I zk)), .val (.int (own_I m0)), .val (.int (own_I m1)), .val (.int (own_I m2)), .val (.int (own_I m3)), .unset, .unset, .unset, .unset, .unset, .unset, .unset, .unset, .unset, .unset, .unset, .unset] [(.ref b5), (.ref b5)]))
  obtain ⟨_, _, ⟨T6, L6, k6, n6⟩, -, X6, ⟨Lc6, hQ6, l6, y6, z6⟩, st6⟩ := X5.specialBack hx (y := (⟨"com/example/nearbound/nearbound/graph/MinCut", "<init>", "()V"⟩ : MethodName)) rfl hown (mvT hZ (hw _ (List.mem_of_getElem? (i := 7) rfl))) (mvT hZ (hw _ (List.mem_of_getElem? (i := 8) rfl))) (mvT hZ (hw _ (List.mem_of_getElem? (i := 9) rfl))) (by decide) (backOf (W := 1) (rmIni l Z a0 hw [] b5  h5 n0 Zh5 A5 F5_nodeCount F5_edgeCount F5_first F5_next F5_head F5_room F5_level F5_arc F5_queue F5_path gn_b5) hZ (hw _ (List.mem_of_getElem? (i := 9) rfl)) (hw _ (List.mem_of_getElem? (i := 6) rfl)) (by decide) (by decide)) (g := (mkF m 98 #[.val (.int pA), .val (.int pB), .val (.int pC), .val (.int pD), .val (.int (own_I za)), .val (.int (own_I zb)), .val (.int (own_I zc)), .val (.int (own_I zd)), .val (.int (own_I ze)), .val (.int (own_I zf)), .val (.int (own_I zx)), .val (.int (own_I zk)), .val (.int (own_I m0)), .val (.int (own_I m1)), .val (.int (own_I m2)), .val (.int (own_I m3)), .unset, .unset, .unset, .unset, .unset, .unset, .unset, .unset, .unset, .unset, .unset, .unset] [(.ref b5), (.ref b5)])) rfl (by rw [hml]; rfl) (Steps.refl _) (a := b5) (argsL := []) (rest := [(.ref b5)]) (lenOf pd_7 rfl) rfl (by show 2 * 0 + _ ≤ _; exact Nat.le_of_eq rfl) (hb hby at_98) (fun _ _ => ⟨rfl, e5, (by decide : 1 + 8 ≤ _), (by decide : 10 + 128 ≤ _)⟩)
  dsimp only [Pt.U, Pt.locs, Pt.cells, Pt.slots] at X6 l6 y6 z6 st6 hQ6
  subst l6 y6 z6
  obtain ⟨rfl, N6q, Kc6, aF, aN, aH, aR, aL, aA, aQ, aP, kF, kN, kH, kR, kL, kA, kQ, kP, hNE, hS6⟩ := hQ6
  have N6 := Fr.app N4 N6q
  have Zh6 : n0 ≤ T6.heap.size := Nat.le_trans Zh5 Kc6.1
  refine own_back ?_ (fun t k => st6.trans k)
  show own_Go p e below PO (T6.setTop (mkF m 101 #[.val (.int pA), .val (.int pB), .val (.int pC), .val (.int pD), .val (.int (own_I za)), .val (.int (own_I zb)), .val (.int (own_I zc)), .val (.int (own_I zd)), .val (.int (own_I ze)), .val (.int (own_I zf)), .val (.int (own_I zx)), .val (.int (own_I zk)), .val (.int (own_I m0)), .val (.int (own_I m1)), .val (.int (own_I m2)), .val (.int (own_I m3)), .unset, .unset, .unset, .unset, .unset, .unset, .unset, .unset, .unset, .unset, .unset, .unset] [(.ref b5)]))
  refine own_back ?_ (fun t k => XS.astore X6.here hx rfl (hb hby at_101) rfl rfl (l' := #[.val (.int pA), .val (.int pB), .val (.int pC), .val (.int pD), .val (.int (own_I za)), .val (.int (own_I zb)), .val (.int (own_I zc)), .val (.int (own_I zd)), .val (.int (own_I ze)), .val (.int (own_I zf)), .val (.int (own_I zx)), .val (.int (own_I zk)), .val (.int (own_I m0)), .val (.int (own_I m1)), .val (.int (own_I m2)), .val (.int (own_I m3)), .val (.ref b5), .unset, .unset, .unset, .unset, .unset, .unset, .unset, .unset, .unset, .unset, .unset]) rfl k)
  show own_Go p e below PO (T6.setTop (mkF m 103 #[.val (.int pA), .val (.int pB), .val (.int pC), .val (.int pD), .val (.int (own_I za)), .val (.int (own_I zb)), .val (.int (own_I zc)), .val (.int (own_I zd)), .val (.int (own_I ze)), .val (.int (own_I zf)), .val (.int (own_I zx)), .val (.int (own_I zk)), .val (.int (own_I m0)), .val (.int (own_I m1)), .val (.int (own_I m2)), .val (.int (own_I m3)), .val (.ref b5), .unset, .unset, .unset, .unset, .unset, .unset, .unset, .unset, .unset, .unset, .unset] []))
  refine own_back ?_ (fun t k => XS.aload X6.here hx rfl (hb hby at_103) rfl rfl k)
  show own_Go p e below PO (T6.setTop (mkF m 105 #[.val (.int pA), .val (.int pB), .val (.int pC), .val (.int pD), .val (.int (own_I za)), .val (.int (own_I zb)), .val (.int (own_I zc)), .val (.int (own_I zd)), .val (.int (own_I ze)), .val (.int (own_I zf)), .val (.int (own_I zx)), .val (.int (own_I zk)), .val (.int (own_I m0)), .val (.int (own_I m1)), .val (.int (own_I m2)), .val (.int (own_I m3)), .val (.ref b5), .unset, .unset, .unset, .unset, .unset, .unset, .unset, .unset, .unset, .unset, .unset] [(.ref b5)]))
  refine own_back ?_ (fun t k => XS.iconst X6.here hx rfl (hb hby at_105) k)
  show own_Go p e below PO (T6.setTop (mkF m 106 #[.val (.int pA), .val (.int pB), .val (.int pC), .val (.int pD), .val (.int (own_I za)), .val (.int (own_I zb)), .val (.int (own_I zc)), .val (.int (own_I zd)), .val (.int (own_I ze)), .val (.int (own_I zf)), .val (.int (own_I zx)), .val (.int (own_I zk)), .val (.int (own_I m0)), .val (.int (own_I m1)), .val (.int (own_I m2)), .val (.int (own_I m3)), .val (.ref b5), .unset, .unset, .unset, .unset, .unset, .unset, .unset, .unset, .unset, .unset, .unset] [(.int (4 : Int32)), (.ref b5)]))
  obtain ⟨cq7, kq7, q7a, q7b, q7c⟩ := isOf hZ rfl hS6.1
  obtain ⟨_, _, ⟨T7, L7, k7, n7⟩, -, X7, ⟨Lc7, hQ7, l7, y7, z7⟩, st7⟩ := X6.virtualBack hx (y := (⟨"com/example/nearbound/nearbound/graph/MinCut", "reset", "(I)V"⟩ : MethodName)) (z := (⟨"com/example/nearbound/nearbound/graph/MinCut", "reset", "(I)V"⟩ : MethodName)) hown (mvT hZ (hw _ (List.mem_of_getElem? (i := 31) rfl))) (mvT hZ (hw _ (List.mem_of_getElem? (i := 32) rfl))) (notFace_of_selects (args := #[]) (mvT hZ (hw _ (List.mem_of_getElem? (i := 34) rfl)))) (mvT hZ (hw _ (List.mem_of_getElem? (i := 34) rfl))) (mvT hZ (hw _ (List.mem_of_getElem? (i := 33) rfl))) (by decide) (backOf (W := 0) (rmReset l Z a0 hw [] b5 aF aN aH aR aL aA aQ aP kF kN kH kR kL kA kQ kP (fun _ => 0) (fun _ => 0) (fun _ => 0) (fun _ => 0) (fun _ => 0) (fun _ => 0) (fun _ => 0) (fun _ => 0) T6.heap n0 Zh6 hNE hS6) hZ (hw _ (List.mem_of_getElem? (i := 35) rfl)) (hw _ (List.mem_of_getElem? (i := 6) rfl)) (by decide) (by decide)) q7a q7c (g := (mkF m 106 #[.val (.int pA), .val (.int pB), .val (.int pC), .val (.int pD), .val (.int (own_I za)), .val (.int (own_I zb)), .val (.int (own_I zc)), .val (.int (own_I zd)), .val (.int (own_I ze)), .val (.int (own_I zf)), .val (.int (own_I zx)), .val (.int (own_I zk)), .val (.int (own_I m0)), .val (.int (own_I m1)), .val (.int (own_I m2)), .val (.int (own_I m3)), .val (.ref b5), .unset, .unset, .unset, .unset, .unset, .unset, .unset, .unset, .unset, .unset, .unset] [(.int (4 : Int32)), (.ref b5)])) rfl (by rw [hml]; rfl) (Steps.refl _) (argsL := [(.int (4 : Int32))]) (rest := []) (lenOf pd_8 rfl) rfl (by show 2 * 0 + _ ≤ _; exact Nat.le_of_eq rfl) (hb hby at_106) (fun _ _ => ⟨rfl, rfl, (by decide : 9 + 0 ≤ _), (by decide : 138 + 0 ≤ _)⟩)
  dsimp only [Pt.U, Pt.locs, Pt.cells, Pt.slots] at X7 l7 y7 z7 st7 hQ7
  subst l7 y7 z7
  obtain ⟨rfl, N7q, Kc7, hS7⟩ := hQ7
  have hS7q : own_S Z T7.heap b5 aF aN aH aR aL aA aQ aP kF kN kH kR kL kA kQ kP (4 : Int32) (own_I ((0 : Nat) : Int)) (own_up (own_up (own_up (own_up (fun _ => 0) 0 (-1)) 1 (-1)) 2 (-1)) 3 (-1)) (fun _ => 0) (fun _ => 0) (fun _ => 0) (fun _ => 0) (fun _ => 0) (fun _ => 0) (fun _ => 0) := by rw [← own_i0n]; exact hS7
  have hG0 := own_G0
  have hR0 : own_R 0 (fun _ => 0) := own_R0
  have N7 := Fr.app N6 N7q
  have Zh7 : n0 ≤ T7.heap.size := Nat.le_trans Zh6 Kc7.1
  refine own_back ?_ (fun t k => st7.trans k)
  show own_Go p e below PO (T7.setTop (mkF m 109 #[.val (.int pA), .val (.int pB), .val (.int pC), .val (.int pD), .val (.int (own_I za)), .val (.int (own_I zb)), .val (.int (own_I zc)), .val (.int (own_I zd)), .val (.int (own_I ze)), .val (.int (own_I zf)), .val (.int (own_I zx)), .val (.int (own_I zk)), .val (.int (own_I m0)), .val (.int (own_I m1)), .val (.int (own_I m2)), .val (.int (own_I m3)), .val (.ref b5), .unset, .unset, .unset, .unset, .unset, .unset, .unset, .unset, .unset, .unset, .unset] []))
  refine own_back ?_ (fun t k => XS.aload X7.here hx rfl (hb hby at_109) rfl rfl k)
  show own_Go p e below PO (T7.setTop (mkF m 111 #[.val (.int pA), .val (.int pB), .val (.int pC), .val (.int pD), .val (.int (own_I za)), .val (.int (own_I zb)), .val (.int (own_I zc)), .val (.int (own_I zd)), .val (.int (own_I ze)), .val (.int (own_I zf)), .val (.int (own_I zx)), .val (.int (own_I zk)), .val (.int (own_I m0)), .val (.int (own_I m1)), .val (.int (own_I m2)), .val (.int (own_I m3)), .val (.ref b5), .unset, .unset, .unset, .unset, .unset, .unset, .unset, .unset, .unset, .unset, .unset] [(.ref b5)]))
  refine own_back ?_ (fun t k => XS.iload X7.here hx rfl (hb hby at_111) rfl k)
  show own_Go p e below PO (T7.setTop (mkF m 113 #[.val (.int pA), .val (.int pB), .val (.int pC), .val (.int pD), .val (.int (own_I za)), .val (.int (own_I zb)), .val (.int (own_I zc)), .val (.int (own_I zd)), .val (.int (own_I ze)), .val (.int (own_I zf)), .val (.int (own_I zx)), .val (.int (own_I zk)), .val (.int (own_I m0)), .val (.int (own_I m1)), .val (.int (own_I m2)), .val (.int (own_I m3)), .val (.ref b5), .unset, .unset, .unset, .unset, .unset, .unset, .unset, .unset, .unset, .unset, .unset] [(.int (own_I m0)), (.ref b5)]))
  refine own_back ?_ (fun t k => XS.iload X7.here hx rfl (hb hby at_113) rfl k)
  show own_Go p e below PO (T7.setTop (mkF m 115 #[.val (.int pA), .val (.int pB), .val (.int pC), .val (.int pD), .val (.int (own_I za)), .val (.int (own_I zb)), .val (.int (own_I zc)), .val (.int (own_I zd)), .val (.int (own_I ze)), .val (.int (own_I zf)), .val (.int (own_I zx)), .val (.int (own_I zk)), .val (.int (own_I m0)), .val (.int (own_I m1)), .val (.int (own_I m2)), .val (.int (own_I m3)), .val (.ref b5), .unset, .unset, .unset, .unset, .unset, .unset, .unset, .unset, .unset, .unset, .unset] [(.int (own_I m1)), (.int (own_I m0)), (.ref b5)]))
  refine own_back ?_ (fun t k => XS.iload X7.here hx rfl (hb hby at_115) rfl k)
  show own_Go p e below PO (T7.setTop (mkF m 117 #[.val (.int pA), .val (.int pB), .val (.int pC), .val (.int pD), .val (.int (own_I za)), .val (.int (own_I zb)), .val (.int (own_I zc)), .val (.int (own_I zd)), .val (.int (own_I ze)), .val (.int (own_I zf)), .val (.int (own_I zx)), .val (.int (own_I zk)), .val (.int (own_I m0)), .val (.int (own_I m1)), .val (.int (own_I m2)), .val (.int (own_I m3)), .val (.ref b5), .unset, .unset, .unset, .unset, .unset, .unset, .unset, .unset, .unset, .unset, .unset] [(.int (own_I za)), (.int (own_I m1)), (.int (own_I m0)), (.ref b5)]))
  obtain ⟨_, _, ⟨T8, L8, k8, n8⟩, -, X8, ⟨Lc8, hQ8, l8, y8, z8⟩, st8⟩ := Jvm.LawKit.callS X7 hx (y := (⟨"com/example/nearbound/nearbound/graph/MinCutOnSourceSidePinLaw", "edge", "(Lcom/example/nearbound/nearbound/graph/MinCut;III)V"⟩ : MethodName)) hown (mvT hZ (hw _ (List.mem_of_getElem? (i := 45) rfl))) (mvT hZ (hw _ (List.mem_of_getElem? (i := 46) rfl))) (mvT hZ (hw _ (List.mem_of_getElem? (i := 2) rfl))) (mvT hZ (hw _ (List.mem_of_getElem? (i := 47) rfl))) (by decide) (backOf (W := 0) (rmEdge l Z a0 hw [] b5 aF aN aH aR aL aA aQ aP kF kN kH kR kL kA kQ kP 0 (fun _ => 0) (own_up (own_up (own_up (own_up (fun _ => 0) 0 (-1)) 1 (-1)) 2 (-1)) 3 (-1)) (fun _ => 0) (fun _ => 0) (fun _ => 0) (fun _ => 0) (fun _ => 0) (fun _ => 0) (fun _ => 0) m0 m1 za T7.heap n0 Zh7 hNE hS7q hm0 hm1 hG0 hR0 (by omega) hza) hZ (hw _ (List.mem_of_getElem? (i := 47) rfl)) (hw _ (List.mem_of_getElem? (i := 2) rfl)) (by decide) (by decide)) (g := (mkF m 117 #[.val (.int pA), .val (.int pB), .val (.int pC), .val (.int pD), .val (.int (own_I za)), .val (.int (own_I zb)), .val (.int (own_I zc)), .val (.int (own_I zd)), .val (.int (own_I ze)), .val (.int (own_I zf)), .val (.int (own_I zx)), .val (.int (own_I zk)), .val (.int (own_I m0)), .val (.int (own_I m1)), .val (.int (own_I m2)), .val (.int (own_I m3)), .val (.ref b5), .unset, .unset, .unset, .unset, .unset, .unset, .unset, .unset, .unset, .unset, .unset] [(.int (own_I za)), (.int (own_I m1)), (.int (own_I m0)), (.ref b5)])) rfl (by rw [hml]; rfl) (argsL := [(.ref b5), (.int (own_I m0)), (.int (own_I m1)), (.int (own_I za))]) (rest := []) (lenOf pd_9 rfl) rfl (by show 2 * 0 + _ ≤ _; exact Nat.le_of_eq rfl) (hb hby at_117) (fun _ _ => ⟨rfl, rfl, (by decide : 9 + 0 ≤ _), (by decide : 138 + 0 ≤ _)⟩)
  dsimp only [Pt.U, Pt.locs, Pt.cells, Pt.slots] at X8 l8 y8 z8 st8 hQ8
  subst l8 y8 z8
  obtain ⟨rfl, N8q, Kc8, E1, tl1, fst1, nxt1, hd1, rm1, hS8, hG1, hR1, hE1, hO1⟩ := hQ8
  have N8 := Fr.app N7 N8q
  have Zh8 : n0 ≤ T8.heap.size := Nat.le_trans Zh7 Kc8.1
  refine own_back ?_ st8
  show own_Go p e below PO (T8.setTop (mkF m 120 #[.val (.int pA), .val (.int pB), .val (.int pC), .val (.int pD), .val (.int (own_I za)), .val (.int (own_I zb)), .val (.int (own_I zc)), .val (.int (own_I zd)), .val (.int (own_I ze)), .val (.int (own_I zf)), .val (.int (own_I zx)), .val (.int (own_I zk)), .val (.int (own_I m0)), .val (.int (own_I m1)), .val (.int (own_I m2)), .val (.int (own_I m3)), .val (.ref b5), .unset, .unset, .unset, .unset, .unset, .unset, .unset, .unset, .unset, .unset, .unset] []))
  refine own_back ?_ (fun t k => XS.aload X8.here hx rfl (hb hby at_120) rfl rfl k)
  show own_Go p e below PO (T8.setTop (mkF m 122 #[.val (.int pA), .val (.int pB), .val (.int pC), .val (.int pD), .val (.int (own_I za)), .val (.int (own_I zb)), .val (.int (own_I zc)), .val (.int (own_I zd)), .val (.int (own_I ze)), .val (.int (own_I zf)), .val (.int (own_I zx)), .val (.int (own_I zk)), .val (.int (own_I m0)), .val (.int (own_I m1)), .val (.int (own_I m2)), .val (.int (own_I m3)), .val (.ref b5), .unset, .unset, .unset, .unset, .unset, .unset, .unset, .unset, .unset, .unset, .unset] [(.ref b5)]))
  refine own_back ?_ (fun t k => XS.iload X8.here hx rfl (hb hby at_122) rfl k)
  show own_Go p e below PO (T8.setTop (mkF m 124 #[.val (.int pA), .val (.int pB), .val (.int pC), .val (.int pD), .val (.int (own_I za)), .val (.int (own_I zb)), .val (.int (own_I zc)), .val (.int (own_I zd)), .val (.int (own_I ze)), .val (.int (own_I zf)), .val (.int (own_I zx)), .val (.int (own_I zk)), .val (.int (own_I m0)), .val (.int (own_I m1)), .val (.int (own_I m2)), .val (.int (own_I m3)), .val (.ref b5), .unset, .unset, .unset, .unset, .unset, .unset, .unset, .unset, .unset, .unset, .unset] [(.int (own_I m0)), (.ref b5)]))
  refine own_back ?_ (fun t k => XS.iload X8.here hx rfl (hb hby at_124) rfl k)
  show own_Go p e below PO (T8.setTop (mkF m 126 #[.val (.int pA), .val (.int pB), .val (.int pC), .val (.int pD), .val (.int (own_I za)), .val (.int (own_I zb)), .val (.int (own_I zc)), .val (.int (own_I zd)), .val (.int (own_I ze)), .val (.int (own_I zf)), .val (.int (own_I zx)), .val (.int (own_I zk)), .val (.int (own_I m0)), .val (.int (own_I m1)), .val (.int (own_I m2)), .val (.int (own_I m3)), .val (.ref b5), .unset, .unset, .unset, .unset, .unset, .unset, .unset, .unset, .unset, .unset, .unset] [(.int (own_I m2)), (.int (own_I m0)), (.ref b5)]))
  refine own_back ?_ (fun t k => XS.iload X8.here hx rfl (hb hby at_126) rfl k)
  show own_Go p e below PO (T8.setTop (mkF m 128 #[.val (.int pA), .val (.int pB), .val (.int pC), .val (.int pD), .val (.int (own_I za)), .val (.int (own_I zb)), .val (.int (own_I zc)), .val (.int (own_I zd)), .val (.int (own_I ze)), .val (.int (own_I zf)), .val (.int (own_I zx)), .val (.int (own_I zk)), .val (.int (own_I m0)), .val (.int (own_I m1)), .val (.int (own_I m2)), .val (.int (own_I m3)), .val (.ref b5), .unset, .unset, .unset, .unset, .unset, .unset, .unset, .unset, .unset, .unset, .unset] [(.int (own_I zb)), (.int (own_I m2)), (.int (own_I m0)), (.ref b5)]))
  obtain ⟨_, _, ⟨T9, L9, k9, n9⟩, -, X9, ⟨Lc9, hQ9, l9, y9, z9⟩, st9⟩ := Jvm.LawKit.callS X8 hx (y := (⟨"com/example/nearbound/nearbound/graph/MinCutOnSourceSidePinLaw", "edge", "(Lcom/example/nearbound/nearbound/graph/MinCut;III)V"⟩ : MethodName)) hown (mvT hZ (hw _ (List.mem_of_getElem? (i := 45) rfl))) (mvT hZ (hw _ (List.mem_of_getElem? (i := 46) rfl))) (mvT hZ (hw _ (List.mem_of_getElem? (i := 2) rfl))) (mvT hZ (hw _ (List.mem_of_getElem? (i := 47) rfl))) (by decide) (backOf (W := 0) (rmEdge l Z a0 hw [] b5 aF aN aH aR aL aA aQ aP kF kN kH kR kL kA kQ kP E1 tl1 fst1 nxt1 hd1 rm1 (fun _ => 0) (fun _ => 0) (fun _ => 0) (fun _ => 0) m0 m2 zb T8.heap n0 Zh8 hNE hS8 hm0 hm2 hG1 hR1 (by omega) hzb) hZ (hw _ (List.mem_of_getElem? (i := 47) rfl)) (hw _ (List.mem_of_getElem? (i := 2) rfl)) (by decide) (by decide)) (g := (mkF m 128 #[.val (.int pA), .val (.int pB), .val (.int pC), .val (.int pD), .val (.int (own_I za)), .val (.int (own_I zb)), .val (.int (own_I zc)), .val (.int (own_I zd)), .val (.int (own_I ze)), .val (.int (own_I zf)), .val (.int (own_I zx)), .val (.int (own_I zk)), .val (.int (own_I m0)), .val (.int (own_I m1)), .val (.int (own_I m2)), .val (.int (own_I m3)), .val (.ref b5), .unset, .unset, .unset, .unset, .unset, .unset, .unset, .unset, .unset, .unset, .unset] [(.int (own_I zb)), (.int (own_I m2)), (.int (own_I m0)), (.ref b5)])) rfl (by rw [hml]; rfl) (argsL := [(.ref b5), (.int (own_I m0)), (.int (own_I m2)), (.int (own_I zb))]) (rest := []) (lenOf pd_9 rfl) rfl (by show 2 * 0 + _ ≤ _; exact Nat.le_of_eq rfl) (hb hby at_128) (fun _ _ => ⟨rfl, rfl, (by decide : 9 + 0 ≤ _), (by decide : 138 + 0 ≤ _)⟩)
  dsimp only [Pt.U, Pt.locs, Pt.cells, Pt.slots] at X9 l9 y9 z9 st9 hQ9
  subst l9 y9 z9
  obtain ⟨rfl, N9q, Kc9, E2, tl2, fst2, nxt2, hd2, rm2, hS9, hG2, hR2, hE2, hO2⟩ := hQ9
  have N9 := Fr.app N8 N9q
  have Zh9 : n0 ≤ T9.heap.size := Nat.le_trans Zh8 Kc9.1
  refine own_back ?_ st9
  show own_Go p e below PO (T9.setTop (mkF m 131 #[.val (.int pA), .val (.int pB), .val (.int pC), .val (.int pD), .val (.int (own_I za)), .val (.int (own_I zb)), .val (.int (own_I zc)), .val (.int (own_I zd)), .val (.int (own_I ze)), .val (.int (own_I zf)), .val (.int (own_I zx)), .val (.int (own_I zk)), .val (.int (own_I m0)), .val (.int (own_I m1)), .val (.int (own_I m2)), .val (.int (own_I m3)), .val (.ref b5), .unset, .unset, .unset, .unset, .unset, .unset, .unset, .unset, .unset, .unset, .unset] []))
  refine own_back ?_ (fun t k => XS.aload X9.here hx rfl (hb hby at_131) rfl rfl k)
  show own_Go p e below PO (T9.setTop (mkF m 133 #[.val (.int pA), .val (.int pB), .val (.int pC), .val (.int pD), .val (.int (own_I za)), .val (.int (own_I zb)), .val (.int (own_I zc)), .val (.int (own_I zd)), .val (.int (own_I ze)), .val (.int (own_I zf)), .val (.int (own_I zx)), .val (.int (own_I zk)), .val (.int (own_I m0)), .val (.int (own_I m1)), .val (.int (own_I m2)), .val (.int (own_I m3)), .val (.ref b5), .unset, .unset, .unset, .unset, .unset, .unset, .unset, .unset, .unset, .unset, .unset] [(.ref b5)]))
  refine own_back ?_ (fun t k => XS.iload X9.here hx rfl (hb hby at_133) rfl k)
  show own_Go p e below PO (T9.setTop (mkF m 135 #[.val (.int pA), .val (.int pB), .val (.int pC), .val (.int pD), .val (.int (own_I za)), .val (.int (own_I zb)), .val (.int (own_I zc)), .val (.int (own_I zd)), .val (.int (own_I ze)), .val (.int (own_I zf)), .val (.int (own_I zx)), .val (.int (own_I zk)), .val (.int (own_I m0)), .val (.int (own_I m1)), .val (.int (own_I m2)), .val (.int (own_I m3)), .val (.ref b5), .unset, .unset, .unset, .unset, .unset, .unset, .unset, .unset, .unset, .unset, .unset] [(.int (own_I m1)), (.ref b5)]))
  refine own_back ?_ (fun t k => XS.iload X9.here hx rfl (hb hby at_135) rfl k)
  show own_Go p e below PO (T9.setTop (mkF m 137 #[.val (.int pA), .val (.int pB), .val (.int pC), .val (.int pD), .val (.int (own_I za)), .val (.int (own_I zb)), .val (.int (own_I zc)), .val (.int (own_I zd)), .val (.int (own_I ze)), .val (.int (own_I zf)), .val (.int (own_I zx)), .val (.int (own_I zk)), .val (.int (own_I m0)), .val (.int (own_I m1)), .val (.int (own_I m2)), .val (.int (own_I m3)), .val (.ref b5), .unset, .unset, .unset, .unset, .unset, .unset, .unset, .unset, .unset, .unset, .unset] [(.int (own_I m2)), (.int (own_I m1)), (.ref b5)]))
  refine own_back ?_ (fun t k => XS.iload X9.here hx rfl (hb hby at_137) rfl k)
  show own_Go p e below PO (T9.setTop (mkF m 139 #[.val (.int pA), .val (.int pB), .val (.int pC), .val (.int pD), .val (.int (own_I za)), .val (.int (own_I zb)), .val (.int (own_I zc)), .val (.int (own_I zd)), .val (.int (own_I ze)), .val (.int (own_I zf)), .val (.int (own_I zx)), .val (.int (own_I zk)), .val (.int (own_I m0)), .val (.int (own_I m1)), .val (.int (own_I m2)), .val (.int (own_I m3)), .val (.ref b5), .unset, .unset, .unset, .unset, .unset, .unset, .unset, .unset, .unset, .unset, .unset] [(.int (own_I zc)), (.int (own_I m2)), (.int (own_I m1)), (.ref b5)]))
  obtain ⟨_, _, ⟨T10, L10, k10, n10⟩, -, X10, ⟨Lc10, hQ10, l10, y10, z10⟩, st10⟩ := Jvm.LawKit.callS X9 hx (y := (⟨"com/example/nearbound/nearbound/graph/MinCutOnSourceSidePinLaw", "edge", "(Lcom/example/nearbound/nearbound/graph/MinCut;III)V"⟩ : MethodName)) hown (mvT hZ (hw _ (List.mem_of_getElem? (i := 45) rfl))) (mvT hZ (hw _ (List.mem_of_getElem? (i := 46) rfl))) (mvT hZ (hw _ (List.mem_of_getElem? (i := 2) rfl))) (mvT hZ (hw _ (List.mem_of_getElem? (i := 47) rfl))) (by decide) (backOf (W := 0) (rmEdge l Z a0 hw [] b5 aF aN aH aR aL aA aQ aP kF kN kH kR kL kA kQ kP E2 tl2 fst2 nxt2 hd2 rm2 (fun _ => 0) (fun _ => 0) (fun _ => 0) (fun _ => 0) m1 m2 zc T9.heap n0 Zh9 hNE hS9 hm1 hm2 hG2 hR2 (by omega) hzc) hZ (hw _ (List.mem_of_getElem? (i := 47) rfl)) (hw _ (List.mem_of_getElem? (i := 2) rfl)) (by decide) (by decide)) (g := (mkF m 139 #[.val (.int pA), .val (.int pB), .val (.int pC), .val (.int pD), .val (.int (own_I za)), .val (.int (own_I zb)), .val (.int (own_I zc)), .val (.int (own_I zd)), .val (.int (own_I ze)), .val (.int (own_I zf)), .val (.int (own_I zx)), .val (.int (own_I zk)), .val (.int (own_I m0)), .val (.int (own_I m1)), .val (.int (own_I m2)), .val (.int (own_I m3)), .val (.ref b5), .unset, .unset, .unset, .unset, .unset, .unset, .unset, .unset, .unset, .unset, .unset] [(.int (own_I zc)), (.int (own_I m2)), (.int (own_I m1)), (.ref b5)])) rfl (by rw [hml]; rfl) (argsL := [(.ref b5), (.int (own_I m1)), (.int (own_I m2)), (.int (own_I zc))]) (rest := []) (lenOf pd_9 rfl) rfl (by show 2 * 0 + _ ≤ _; exact Nat.le_of_eq rfl) (hb hby at_139) (fun _ _ => ⟨rfl, rfl, (by decide : 9 + 0 ≤ _), (by decide : 138 + 0 ≤ _)⟩)
  dsimp only [Pt.U, Pt.locs, Pt.cells, Pt.slots] at X10 l10 y10 z10 st10 hQ10
  subst l10 y10 z10
  obtain ⟨rfl, N10q, Kc10, E3, tl3, fst3, nxt3, hd3, rm3, hS10, hG3, hR3, hE3, hO3⟩ := hQ10
  have N10 := Fr.app N9 N10q
  have Zh10 : n0 ≤ T10.heap.size := Nat.le_trans Zh9 Kc10.1
  refine own_back ?_ st10
  show own_Go p e below PO (T10.setTop (mkF m 142 #[.val (.int pA), .val (.int pB), .val (.int pC), .val (.int pD), .val (.int (own_I za)), .val (.int (own_I zb)), .val (.int (own_I zc)), .val (.int (own_I zd)), .val (.int (own_I ze)), .val (.int (own_I zf)), .val (.int (own_I zx)), .val (.int (own_I zk)), .val (.int (own_I m0)), .val (.int (own_I m1)), .val (.int (own_I m2)), .val (.int (own_I m3)), .val (.ref b5), .unset, .unset, .unset, .unset, .unset, .unset, .unset, .unset, .unset, .unset, .unset] []))
  refine own_back ?_ (fun t k => XS.aload X10.here hx rfl (hb hby at_142) rfl rfl k)
  show own_Go p e below PO (T10.setTop (mkF m 144 #[.val (.int pA), .val (.int pB), .val (.int pC), .val (.int pD), .val (.int (own_I za)), .val (.int (own_I zb)), .val (.int (own_I zc)), .val (.int (own_I zd)), .val (.int (own_I ze)), .val (.int (own_I zf)), .val (.int (own_I zx)), .val (.int (own_I zk)), .val (.int (own_I m0)), .val (.int (own_I m1)), .val (.int (own_I m2)), .val (.int (own_I m3)), .val (.ref b5), .unset, .unset, .unset, .unset, .unset, .unset, .unset, .unset, .unset, .unset, .unset] [(.ref b5)]))
  refine own_back ?_ (fun t k => XS.iload X10.here hx rfl (hb hby at_144) rfl k)
  show own_Go p e below PO (T10.setTop (mkF m 146 #[.val (.int pA), .val (.int pB), .val (.int pC), .val (.int pD), .val (.int (own_I za)), .val (.int (own_I zb)), .val (.int (own_I zc)), .val (.int (own_I zd)), .val (.int (own_I ze)), .val (.int (own_I zf)), .val (.int (own_I zx)), .val (.int (own_I zk)), .val (.int (own_I m0)), .val (.int (own_I m1)), .val (.int (own_I m2)), .val (.int (own_I m3)), .val (.ref b5), .unset, .unset, .unset, .unset, .unset, .unset, .unset, .unset, .unset, .unset, .unset] [(.int (own_I m1)), (.ref b5)]))
  refine own_back ?_ (fun t k => XS.iload X10.here hx rfl (hb hby at_146) rfl k)
  show own_Go p e below PO (T10.setTop (mkF m 148 #[.val (.int pA), .val (.int pB), .val (.int pC), .val (.int pD), .val (.int (own_I za)), .val (.int (own_I zb)), .val (.int (own_I zc)), .val (.int (own_I zd)), .val (.int (own_I ze)), .val (.int (own_I zf)), .val (.int (own_I zx)), .val (.int (own_I zk)), .val (.int (own_I m0)), .val (.int (own_I m1)), .val (.int (own_I m2)), .val (.int (own_I m3)), .val (.ref b5), .unset, .unset, .unset, .unset, .unset, .unset, .unset, .unset, .unset, .unset, .unset] [(.int (own_I m3)), (.int (own_I m1)), (.ref b5)]))
  refine own_back ?_ (fun t k => XS.iload X10.here hx rfl (hb hby at_148) rfl k)
  show own_Go p e below PO (T10.setTop (mkF m 150 #[.val (.int pA), .val (.int pB), .val (.int pC), .val (.int pD), .val (.int (own_I za)), .val (.int (own_I zb)), .val (.int (own_I zc)), .val (.int (own_I zd)), .val (.int (own_I ze)), .val (.int (own_I zf)), .val (.int (own_I zx)), .val (.int (own_I zk)), .val (.int (own_I m0)), .val (.int (own_I m1)), .val (.int (own_I m2)), .val (.int (own_I m3)), .val (.ref b5), .unset, .unset, .unset, .unset, .unset, .unset, .unset, .unset, .unset, .unset, .unset] [(.int (own_I zd)), (.int (own_I m3)), (.int (own_I m1)), (.ref b5)]))
  obtain ⟨_, _, ⟨T11, L11, k11, n11⟩, -, X11, ⟨Lc11, hQ11, l11, y11, z11⟩, st11⟩ := Jvm.LawKit.callS X10 hx (y := (⟨"com/example/nearbound/nearbound/graph/MinCutOnSourceSidePinLaw", "edge", "(Lcom/example/nearbound/nearbound/graph/MinCut;III)V"⟩ : MethodName)) hown (mvT hZ (hw _ (List.mem_of_getElem? (i := 45) rfl))) (mvT hZ (hw _ (List.mem_of_getElem? (i := 46) rfl))) (mvT hZ (hw _ (List.mem_of_getElem? (i := 2) rfl))) (mvT hZ (hw _ (List.mem_of_getElem? (i := 47) rfl))) (by decide) (backOf (W := 0) (rmEdge l Z a0 hw [] b5 aF aN aH aR aL aA aQ aP kF kN kH kR kL kA kQ kP E3 tl3 fst3 nxt3 hd3 rm3 (fun _ => 0) (fun _ => 0) (fun _ => 0) (fun _ => 0) m1 m3 zd T10.heap n0 Zh10 hNE hS10 hm1 hm3 hG3 hR3 (by omega) hzd) hZ (hw _ (List.mem_of_getElem? (i := 47) rfl)) (hw _ (List.mem_of_getElem? (i := 2) rfl)) (by decide) (by decide)) (g := (mkF m 150 #[.val (.int pA), .val (.int pB), .val (.int pC), .val (.int pD), .val (.int (own_I za)), .val (.int (own_I zb)), .val (.int (own_I zc)), .val (.int (own_I zd)), .val (.int (own_I ze)), .val (.int (own_I zf)), .val (.int (own_I zx)), .val (.int (own_I zk)), .val (.int (own_I m0)), .val (.int (own_I m1)), .val (.int (own_I m2)), .val (.int (own_I m3)), .val (.ref b5), .unset, .unset, .unset, .unset, .unset, .unset, .unset, .unset, .unset, .unset, .unset] [(.int (own_I zd)), (.int (own_I m3)), (.int (own_I m1)), (.ref b5)])) rfl (by rw [hml]; rfl) (argsL := [(.ref b5), (.int (own_I m1)), (.int (own_I m3)), (.int (own_I zd))]) (rest := []) (lenOf pd_9 rfl) rfl (by show 2 * 0 + _ ≤ _; exact Nat.le_of_eq rfl) (hb hby at_150) (fun _ _ => ⟨rfl, rfl, (by decide : 9 + 0 ≤ _), (by decide : 138 + 0 ≤ _)⟩)
  dsimp only [Pt.U, Pt.locs, Pt.cells, Pt.slots] at X11 l11 y11 z11 st11 hQ11
  subst l11 y11 z11
  obtain ⟨rfl, N11q, Kc11, E4, tl4, fst4, nxt4, hd4, rm4, hS11, hG4, hR4, hE4, hO4⟩ := hQ11
  have N11 := Fr.app N10 N11q
  have Zh11 : n0 ≤ T11.heap.size := Nat.le_trans Zh10 Kc11.1
  refine own_back ?_ st11
  show own_Go p e below PO (T11.setTop (mkF m 153 #[.val (.int pA), .val (.int pB), .val (.int pC), .val (.int pD), .val (.int (own_I za)), .val (.int (own_I zb)), .val (.int (own_I zc)), .val (.int (own_I zd)), .val (.int (own_I ze)), .val (.int (own_I zf)), .val (.int (own_I zx)), .val (.int (own_I zk)), .val (.int (own_I m0)), .val (.int (own_I m1)), .val (.int (own_I m2)), .val (.int (own_I m3)), .val (.ref b5), .unset, .unset, .unset, .unset, .unset, .unset, .unset, .unset, .unset, .unset, .unset] []))
  refine own_back ?_ (fun t k => XS.aload X11.here hx rfl (hb hby at_153) rfl rfl k)
  show own_Go p e below PO (T11.setTop (mkF m 155 #[.val (.int pA), .val (.int pB), .val (.int pC), .val (.int pD), .val (.int (own_I za)), .val (.int (own_I zb)), .val (.int (own_I zc)), .val (.int (own_I zd)), .val (.int (own_I ze)), .val (.int (own_I zf)), .val (.int (own_I zx)), .val (.int (own_I zk)), .val (.int (own_I m0)), .val (.int (own_I m1)), .val (.int (own_I m2)), .val (.int (own_I m3)), .val (.ref b5), .unset, .unset, .unset, .unset, .unset, .unset, .unset, .unset, .unset, .unset, .unset] [(.ref b5)]))
  refine own_back ?_ (fun t k => XS.iload X11.here hx rfl (hb hby at_155) rfl k)
  show own_Go p e below PO (T11.setTop (mkF m 157 #[.val (.int pA), .val (.int pB), .val (.int pC), .val (.int pD), .val (.int (own_I za)), .val (.int (own_I zb)), .val (.int (own_I zc)), .val (.int (own_I zd)), .val (.int (own_I ze)), .val (.int (own_I zf)), .val (.int (own_I zx)), .val (.int (own_I zk)), .val (.int (own_I m0)), .val (.int (own_I m1)), .val (.int (own_I m2)), .val (.int (own_I m3)), .val (.ref b5), .unset, .unset, .unset, .unset, .unset, .unset, .unset, .unset, .unset, .unset, .unset] [(.int (own_I m2)), (.ref b5)]))
  refine own_back ?_ (fun t k => XS.iload X11.here hx rfl (hb hby at_157) rfl k)
  show own_Go p e below PO (T11.setTop (mkF m 159 #[.val (.int pA), .val (.int pB), .val (.int pC), .val (.int pD), .val (.int (own_I za)), .val (.int (own_I zb)), .val (.int (own_I zc)), .val (.int (own_I zd)), .val (.int (own_I ze)), .val (.int (own_I zf)), .val (.int (own_I zx)), .val (.int (own_I zk)), .val (.int (own_I m0)), .val (.int (own_I m1)), .val (.int (own_I m2)), .val (.int (own_I m3)), .val (.ref b5), .unset, .unset, .unset, .unset, .unset, .unset, .unset, .unset, .unset, .unset, .unset] [(.int (own_I m3)), (.int (own_I m2)), (.ref b5)]))
  refine own_back ?_ (fun t k => XS.iload X11.here hx rfl (hb hby at_159) rfl k)
  show own_Go p e below PO (T11.setTop (mkF m 161 #[.val (.int pA), .val (.int pB), .val (.int pC), .val (.int pD), .val (.int (own_I za)), .val (.int (own_I zb)), .val (.int (own_I zc)), .val (.int (own_I zd)), .val (.int (own_I ze)), .val (.int (own_I zf)), .val (.int (own_I zx)), .val (.int (own_I zk)), .val (.int (own_I m0)), .val (.int (own_I m1)), .val (.int (own_I m2)), .val (.int (own_I m3)), .val (.ref b5), .unset, .unset, .unset, .unset, .unset, .unset, .unset, .unset, .unset, .unset, .unset] [(.int (own_I ze)), (.int (own_I m3)), (.int (own_I m2)), (.ref b5)]))
  obtain ⟨_, _, ⟨T12, L12, k12, n12⟩, -, X12, ⟨Lc12, hQ12, l12, y12, z12⟩, st12⟩ := Jvm.LawKit.callS X11 hx (y := (⟨"com/example/nearbound/nearbound/graph/MinCutOnSourceSidePinLaw", "edge", "(Lcom/example/nearbound/nearbound/graph/MinCut;III)V"⟩ : MethodName)) hown (mvT hZ (hw _ (List.mem_of_getElem? (i := 45) rfl))) (mvT hZ (hw _ (List.mem_of_getElem? (i := 46) rfl))) (mvT hZ (hw _ (List.mem_of_getElem? (i := 2) rfl))) (mvT hZ (hw _ (List.mem_of_getElem? (i := 47) rfl))) (by decide) (backOf (W := 0) (rmEdge l Z a0 hw [] b5 aF aN aH aR aL aA aQ aP kF kN kH kR kL kA kQ kP E4 tl4 fst4 nxt4 hd4 rm4 (fun _ => 0) (fun _ => 0) (fun _ => 0) (fun _ => 0) m2 m3 ze T11.heap n0 Zh11 hNE hS11 hm2 hm3 hG4 hR4 (by omega) hze) hZ (hw _ (List.mem_of_getElem? (i := 47) rfl)) (hw _ (List.mem_of_getElem? (i := 2) rfl)) (by decide) (by decide)) (g := (mkF m 161 #[.val (.int pA), .val (.int pB), .val (.int pC), .val (.int pD), .val (.int (own_I za)), .val (.int (own_I zb)), .val (.int (own_I zc)), .val (.int (own_I zd)), .val (.int (own_I ze)), .val (.int (own_I zf)), .val (.int (own_I zx)), .val (.int (own_I zk)), .val (.int (own_I m0)), .val (.int (own_I m1)), .val (.int (own_I m2)), .val (.int (own_I m3)), .val (.ref b5), .unset, .unset, .unset, .unset, .unset, .unset, .unset, .unset, .unset, .unset, .unset] [(.int (own_I ze)), (.int (own_I m3)), (.int (own_I m2)), (.ref b5)])) rfl (by rw [hml]; rfl) (argsL := [(.ref b5), (.int (own_I m2)), (.int (own_I m3)), (.int (own_I ze))]) (rest := []) (lenOf pd_9 rfl) rfl (by show 2 * 0 + _ ≤ _; exact Nat.le_of_eq rfl) (hb hby at_161) (fun _ _ => ⟨rfl, rfl, (by decide : 9 + 0 ≤ _), (by decide : 138 + 0 ≤ _)⟩)
  dsimp only [Pt.U, Pt.locs, Pt.cells, Pt.slots] at X12 l12 y12 z12 st12 hQ12
  subst l12 y12 z12
  obtain ⟨rfl, N12q, Kc12, E5, tl5, fst5, nxt5, hd5, rm5, hS12, hG5, hR5, hE5, hO5⟩ := hQ12
  have N12 := Fr.app N11 N12q
  have Zh12 : n0 ≤ T12.heap.size := Nat.le_trans Zh11 Kc12.1
  refine own_back ?_ st12
  show own_Go p e below PO (T12.setTop (mkF m 164 #[.val (.int pA), .val (.int pB), .val (.int pC), .val (.int pD), .val (.int (own_I za)), .val (.int (own_I zb)), .val (.int (own_I zc)), .val (.int (own_I zd)), .val (.int (own_I ze)), .val (.int (own_I zf)), .val (.int (own_I zx)), .val (.int (own_I zk)), .val (.int (own_I m0)), .val (.int (own_I m1)), .val (.int (own_I m2)), .val (.int (own_I m3)), .val (.ref b5), .unset, .unset, .unset, .unset, .unset, .unset, .unset, .unset, .unset, .unset, .unset] []))
  refine own_back ?_ (fun t k => XS.aload X12.here hx rfl (hb hby at_164) rfl rfl k)
  show own_Go p e below PO (T12.setTop (mkF m 166 #[.val (.int pA), .val (.int pB), .val (.int pC), .val (.int pD), .val (.int (own_I za)), .val (.int (own_I zb)), .val (.int (own_I zc)), .val (.int (own_I zd)), .val (.int (own_I ze)), .val (.int (own_I zf)), .val (.int (own_I zx)), .val (.int (own_I zk)), .val (.int (own_I m0)), .val (.int (own_I m1)), .val (.int (own_I m2)), .val (.int (own_I m3)), .val (.ref b5), .unset, .unset, .unset, .unset, .unset, .unset, .unset, .unset, .unset, .unset, .unset] [(.ref b5)]))
  refine own_back ?_ (fun t k => XS.iload X12.here hx rfl (hb hby at_166) rfl k)
  show own_Go p e below PO (T12.setTop (mkF m 168 #[.val (.int pA), .val (.int pB), .val (.int pC), .val (.int pD), .val (.int (own_I za)), .val (.int (own_I zb)), .val (.int (own_I zc)), .val (.int (own_I zd)), .val (.int (own_I ze)), .val (.int (own_I zf)), .val (.int (own_I zx)), .val (.int (own_I zk)), .val (.int (own_I m0)), .val (.int (own_I m1)), .val (.int (own_I m2)), .val (.int (own_I m3)), .val (.ref b5), .unset, .unset, .unset, .unset, .unset, .unset, .unset, .unset, .unset, .unset, .unset] [(.int (own_I m2)), (.ref b5)]))
  refine own_back ?_ (fun t k => XS.iload X12.here hx rfl (hb hby at_168) rfl k)
  show own_Go p e below PO (T12.setTop (mkF m 170 #[.val (.int pA), .val (.int pB), .val (.int pC), .val (.int pD), .val (.int (own_I za)), .val (.int (own_I zb)), .val (.int (own_I zc)), .val (.int (own_I zd)), .val (.int (own_I ze)), .val (.int (own_I zf)), .val (.int (own_I zx)), .val (.int (own_I zk)), .val (.int (own_I m0)), .val (.int (own_I m1)), .val (.int (own_I m2)), .val (.int (own_I m3)), .val (.ref b5), .unset, .unset, .unset, .unset, .unset, .unset, .unset, .unset, .unset, .unset, .unset] [(.int (own_I m1)), (.int (own_I m2)), (.ref b5)]))
  refine own_back ?_ (fun t k => XS.iload X12.here hx rfl (hb hby at_170) rfl k)
  show own_Go p e below PO (T12.setTop (mkF m 172 #[.val (.int pA), .val (.int pB), .val (.int pC), .val (.int pD), .val (.int (own_I za)), .val (.int (own_I zb)), .val (.int (own_I zc)), .val (.int (own_I zd)), .val (.int (own_I ze)), .val (.int (own_I zf)), .val (.int (own_I zx)), .val (.int (own_I zk)), .val (.int (own_I m0)), .val (.int (own_I m1)), .val (.int (own_I m2)), .val (.int (own_I m3)), .val (.ref b5), .unset, .unset, .unset, .unset, .unset, .unset, .unset, .unset, .unset, .unset, .unset] [(.int (own_I zf)), (.int (own_I m1)), (.int (own_I m2)), (.ref b5)]))
  obtain ⟨_, _, ⟨T13, L13, k13, n13⟩, -, X13, ⟨Lc13, hQ13, l13, y13, z13⟩, st13⟩ := Jvm.LawKit.callS X12 hx (y := (⟨"com/example/nearbound/nearbound/graph/MinCutOnSourceSidePinLaw", "edge", "(Lcom/example/nearbound/nearbound/graph/MinCut;III)V"⟩ : MethodName)) hown (mvT hZ (hw _ (List.mem_of_getElem? (i := 45) rfl))) (mvT hZ (hw _ (List.mem_of_getElem? (i := 46) rfl))) (mvT hZ (hw _ (List.mem_of_getElem? (i := 2) rfl))) (mvT hZ (hw _ (List.mem_of_getElem? (i := 47) rfl))) (by decide) (backOf (W := 0) (rmEdge l Z a0 hw [] b5 aF aN aH aR aL aA aQ aP kF kN kH kR kL kA kQ kP E5 tl5 fst5 nxt5 hd5 rm5 (fun _ => 0) (fun _ => 0) (fun _ => 0) (fun _ => 0) m2 m1 zf T12.heap n0 Zh12 hNE hS12 hm2 hm1 hG5 hR5 (by omega) hzf) hZ (hw _ (List.mem_of_getElem? (i := 47) rfl)) (hw _ (List.mem_of_getElem? (i := 2) rfl)) (by decide) (by decide)) (g := (mkF m 172 #[.val (.int pA), .val (.int pB), .val (.int pC), .val (.int pD), .val (.int (own_I za)), .val (.int (own_I zb)), .val (.int (own_I zc)), .val (.int (own_I zd)), .val (.int (own_I ze)), .val (.int (own_I zf)), .val (.int (own_I zx)), .val (.int (own_I zk)), .val (.int (own_I m0)), .val (.int (own_I m1)), .val (.int (own_I m2)), .val (.int (own_I m3)), .val (.ref b5), .unset, .unset, .unset, .unset, .unset, .unset, .unset, .unset, .unset, .unset, .unset] [(.int (own_I zf)), (.int (own_I m1)), (.int (own_I m2)), (.ref b5)])) rfl (by rw [hml]; rfl) (argsL := [(.ref b5), (.int (own_I m2)), (.int (own_I m1)), (.int (own_I zf))]) (rest := []) (lenOf pd_9 rfl) rfl (by show 2 * 0 + _ ≤ _; exact Nat.le_of_eq rfl) (hb hby at_172) (fun _ _ => ⟨rfl, rfl, (by decide : 9 + 0 ≤ _), (by decide : 138 + 0 ≤ _)⟩)
  dsimp only [Pt.U, Pt.locs, Pt.cells, Pt.slots] at X13 l13 y13 z13 st13 hQ13
  subst l13 y13 z13
  obtain ⟨rfl, N13q, Kc13, E6, tl6, fst6, nxt6, hd6, rm6, hS13, hG6, hR6, hE6, hO6⟩ := hQ13
  have N13 := Fr.app N12 N13q
  have Zh13 : n0 ≤ T13.heap.size := Nat.le_trans Zh12 Kc13.1
  have six : own_six E6 tl6 hd6 rm6 m0 m1 m2 m3 za zb zc zd ze zf := fun S => by
    rw [hO6 S, hO5 S, hO4 S, hO3 S, hO2 S, hO1 S, own_O0]
    omega
  refine own_back ?_ st13
  show own_Go p e below PO (T13.setTop (mkF m 175 #[.val (.int pA), .val (.int pB), .val (.int pC), .val (.int pD), .val (.int (own_I za)), .val (.int (own_I zb)), .val (.int (own_I zc)), .val (.int (own_I zd)), .val (.int (own_I ze)), .val (.int (own_I zf)), .val (.int (own_I zx)), .val (.int (own_I zk)), .val (.int (own_I m0)), .val (.int (own_I m1)), .val (.int (own_I m2)), .val (.int (own_I m3)), .val (.ref b5), .unset, .unset, .unset, .unset, .unset, .unset, .unset, .unset, .unset, .unset, .unset] []))
  refine own_back ?_ (fun t k => XS.aload X13.here hx rfl (hb hby at_175) rfl rfl k)
  show own_Go p e below PO (T13.setTop (mkF m 177 #[.val (.int pA), .val (.int pB), .val (.int pC), .val (.int pD), .val (.int (own_I za)), .val (.int (own_I zb)), .val (.int (own_I zc)), .val (.int (own_I zd)), .val (.int (own_I ze)), .val (.int (own_I zf)), .val (.int (own_I zx)), .val (.int (own_I zk)), .val (.int (own_I m0)), .val (.int (own_I m1)), .val (.int (own_I m2)), .val (.int (own_I m3)), .val (.ref b5), .unset, .unset, .unset, .unset, .unset, .unset, .unset, .unset, .unset, .unset, .unset] [(.ref b5)]))
  refine own_back ?_ (fun t k => XS.iload X13.here hx rfl (hb hby at_177) rfl k)
  show own_Go p e below PO (T13.setTop (mkF m 179 #[.val (.int pA), .val (.int pB), .val (.int pC), .val (.int pD), .val (.int (own_I za)), .val (.int (own_I zb)), .val (.int (own_I zc)), .val (.int (own_I zd)), .val (.int (own_I ze)), .val (.int (own_I zf)), .val (.int (own_I zx)), .val (.int (own_I zk)), .val (.int (own_I m0)), .val (.int (own_I m1)), .val (.int (own_I m2)), .val (.int (own_I m3)), .val (.ref b5), .unset, .unset, .unset, .unset, .unset, .unset, .unset, .unset, .unset, .unset, .unset] [(.int (own_I m0)), (.ref b5)]))
  refine own_back ?_ (fun t k => XS.iload X13.here hx rfl (hb hby at_179) rfl k)
  show own_Go p e below PO (T13.setTop (mkF m 181 #[.val (.int pA), .val (.int pB), .val (.int pC), .val (.int pD), .val (.int (own_I za)), .val (.int (own_I zb)), .val (.int (own_I zc)), .val (.int (own_I zd)), .val (.int (own_I ze)), .val (.int (own_I zf)), .val (.int (own_I zx)), .val (.int (own_I zk)), .val (.int (own_I m0)), .val (.int (own_I m1)), .val (.int (own_I m2)), .val (.int (own_I m3)), .val (.ref b5), .unset, .unset, .unset, .unset, .unset, .unset, .unset, .unset, .unset, .unset, .unset] [(.int (own_I m3)), (.int (own_I m0)), (.ref b5)]))
  obtain ⟨cq14, kq14, q14a, q14b, q14c⟩ := isOf hZ rfl hS13.1
  obtain ⟨_, _, ⟨T14, L14, k14, n14⟩, -, X14, ⟨Lc14, hQ14, l14, y14, z14⟩, st14⟩ := X13.virtualBack hx (y := (⟨"com/example/nearbound/nearbound/graph/MinCut", "cut", "(II)V"⟩ : MethodName)) (z := (⟨"com/example/nearbound/nearbound/graph/MinCut", "cut", "(II)V"⟩ : MethodName)) hown (mvT hZ (hw _ (List.mem_of_getElem? (i := 57) rfl))) (mvT hZ (hw _ (List.mem_of_getElem? (i := 58) rfl))) (notFace_of_selects (args := #[]) (mvT hZ (hw _ (List.mem_of_getElem? (i := 60) rfl)))) (mvT hZ (hw _ (List.mem_of_getElem? (i := 60) rfl))) (mvT hZ (hw _ (List.mem_of_getElem? (i := 59) rfl))) (by decide) (backOf (W := 0) (rmCut l Z a0 hw [] b5 aF aN aH aR aL aA aQ aP kF kN kH kR kL kA kQ kP E6 tl6 fst6 nxt6 hd6 rm6 (fun _ => 0) (fun _ => 0) (fun _ => 0) (fun _ => 0) (own_I (E6 : Int)) m0 m3 T13.heap n0 Zh13 hNE hS13 hG6 hR6 hm0 hm3 hpq.2.2.2.1) hZ (hw _ (List.mem_of_getElem? (i := 61) rfl)) (hw _ (List.mem_of_getElem? (i := 6) rfl)) (by decide) (by decide)) q14a q14c (g := (mkF m 181 #[.val (.int pA), .val (.int pB), .val (.int pC), .val (.int pD), .val (.int (own_I za)), .val (.int (own_I zb)), .val (.int (own_I zc)), .val (.int (own_I zd)), .val (.int (own_I ze)), .val (.int (own_I zf)), .val (.int (own_I zx)), .val (.int (own_I zk)), .val (.int (own_I m0)), .val (.int (own_I m1)), .val (.int (own_I m2)), .val (.int (own_I m3)), .val (.ref b5), .unset, .unset, .unset, .unset, .unset, .unset, .unset, .unset, .unset, .unset, .unset] [(.int (own_I m3)), (.int (own_I m0)), (.ref b5)])) rfl (by rw [hml]; rfl) (Steps.refl _) (argsL := [(.int (own_I m0)), (.int (own_I m3))]) (rest := []) (lenOf pd_10 rfl) rfl (by show 2 * 0 + _ ≤ _; exact Nat.le_of_eq rfl) (hb hby at_181) (fun _ _ => ⟨rfl, rfl, (by decide : 9 + 0 ≤ _), (by decide : 138 + 0 ≤ _)⟩)
  dsimp only [Pt.U, Pt.locs, Pt.cells, Pt.slots] at X14 l14 y14 z14 st14 hQ14
  subst l14 y14 z14
  obtain ⟨rfl, N14q, Kc14, rmC, levC, arcC, queC, pthC, hS14, hCI, hLV, hl3⟩ := hQ14
  have N14 := Fr.app N13 N14q
  have Zh14 : n0 ≤ T14.heap.size := Nat.le_trans Zh13 Kc14.1
  refine own_back ?_ (fun t k => st14.trans k)
  show own_Go p e below PO (T14.setTop (mkF m 184 #[.val (.int pA), .val (.int pB), .val (.int pC), .val (.int pD), .val (.int (own_I za)), .val (.int (own_I zb)), .val (.int (own_I zc)), .val (.int (own_I zd)), .val (.int (own_I ze)), .val (.int (own_I zf)), .val (.int (own_I zx)), .val (.int (own_I zk)), .val (.int (own_I m0)), .val (.int (own_I m1)), .val (.int (own_I m2)), .val (.int (own_I m3)), .val (.ref b5), .unset, .unset, .unset, .unset, .unset, .unset, .unset, .unset, .unset, .unset, .unset] []))
  refine own_back ?_ (fun t k => XS.iload X14.here hx rfl (hb hby at_184) rfl k)
  show own_Go p e below PO (T14.setTop (mkF m 186 #[.val (.int pA), .val (.int pB), .val (.int pC), .val (.int pD), .val (.int (own_I za)), .val (.int (own_I zb)), .val (.int (own_I zc)), .val (.int (own_I zd)), .val (.int (own_I ze)), .val (.int (own_I zf)), .val (.int (own_I zx)), .val (.int (own_I zk)), .val (.int (own_I m0)), .val (.int (own_I m1)), .val (.int (own_I m2)), .val (.int (own_I m3)), .val (.ref b5), .unset, .unset, .unset, .unset, .unset, .unset, .unset, .unset, .unset, .unset, .unset] [(.int (own_I za))]))
  refine own_back ?_ (fun t k => XS.iload X14.here hx rfl (hb hby at_186) rfl k)
  show own_Go p e below PO (T14.setTop (mkF m 188 #[.val (.int pA), .val (.int pB), .val (.int pC), .val (.int pD), .val (.int (own_I za)), .val (.int (own_I zb)), .val (.int (own_I zc)), .val (.int (own_I zd)), .val (.int (own_I ze)), .val (.int (own_I zf)), .val (.int (own_I zx)), .val (.int (own_I zk)), .val (.int (own_I m0)), .val (.int (own_I m1)), .val (.int (own_I m2)), .val (.int (own_I m3)), .val (.ref b5), .unset, .unset, .unset, .unset, .unset, .unset, .unset, .unset, .unset, .unset, .unset] [(.int (own_I zb)), (.int (own_I za))]))
  refine own_back ?_ (fun t k => XS.iadd X14.here hx rfl (hb hby at_188) rfl k)
  show own_Go p e below PO (T14.setTop (mkF m 189 #[.val (.int pA), .val (.int pB), .val (.int pC), .val (.int pD), .val (.int (own_I za)), .val (.int (own_I zb)), .val (.int (own_I zc)), .val (.int (own_I zd)), .val (.int (own_I ze)), .val (.int (own_I zf)), .val (.int (own_I zx)), .val (.int (own_I zk)), .val (.int (own_I m0)), .val (.int (own_I m1)), .val (.int (own_I m2)), .val (.int (own_I m3)), .val (.ref b5), .unset, .unset, .unset, .unset, .unset, .unset, .unset, .unset, .unset, .unset, .unset] [(.int ((own_I za) + (own_I zb)))]))
  refine own_sub (A := Int32) (x := ((own_I za) + (own_I zb))) (y := (own_I (za + zb))) (fun cv => own_Go p e below PO (T14.setTop (mkF m 189 #[.val (.int pA), .val (.int pB), .val (.int pC), .val (.int pD), .val (.int (own_I za)), .val (.int (own_I zb)), .val (.int (own_I zc)), .val (.int (own_I zd)), .val (.int (own_I ze)), .val (.int (own_I zf)), .val (.int (own_I zx)), .val (.int (own_I zk)), .val (.int (own_I m0)), .val (.int (own_I m1)), .val (.int (own_I m2)), .val (.int (own_I m3)), .val (.ref b5), .unset, .unset, .unset, .unset, .unset, .unset, .unset, .unset, .unset, .unset, .unset] [(.int cv)]))) (own_add _ _) ?_
  show own_Go p e below PO (T14.setTop (mkF m 189 #[.val (.int pA), .val (.int pB), .val (.int pC), .val (.int pD), .val (.int (own_I za)), .val (.int (own_I zb)), .val (.int (own_I zc)), .val (.int (own_I zd)), .val (.int (own_I ze)), .val (.int (own_I zf)), .val (.int (own_I zx)), .val (.int (own_I zk)), .val (.int (own_I m0)), .val (.int (own_I m1)), .val (.int (own_I m2)), .val (.int (own_I m3)), .val (.ref b5), .unset, .unset, .unset, .unset, .unset, .unset, .unset, .unset, .unset, .unset, .unset] [(.int (own_I (za + zb)))]))
  refine own_back ?_ (fun t k => XS.istore X14.here hx rfl (hb hby at_189) rfl (l' := #[.val (.int pA), .val (.int pB), .val (.int pC), .val (.int pD), .val (.int (own_I za)), .val (.int (own_I zb)), .val (.int (own_I zc)), .val (.int (own_I zd)), .val (.int (own_I ze)), .val (.int (own_I zf)), .val (.int (own_I zx)), .val (.int (own_I zk)), .val (.int (own_I m0)), .val (.int (own_I m1)), .val (.int (own_I m2)), .val (.int (own_I m3)), .val (.ref b5), .val (.int (own_I (za + zb))), .unset, .unset, .unset, .unset, .unset, .unset, .unset, .unset, .unset, .unset]) rfl k)
  show own_Go p e below PO (T14.setTop (mkF m 191 #[.val (.int pA), .val (.int pB), .val (.int pC), .val (.int pD), .val (.int (own_I za)), .val (.int (own_I zb)), .val (.int (own_I zc)), .val (.int (own_I zd)), .val (.int (own_I ze)), .val (.int (own_I zf)), .val (.int (own_I zx)), .val (.int (own_I zk)), .val (.int (own_I m0)), .val (.int (own_I m1)), .val (.int (own_I m2)), .val (.int (own_I m3)), .val (.ref b5), .val (.int (own_I (za + zb))), .unset, .unset, .unset, .unset, .unset, .unset, .unset, .unset, .unset, .unset] []))
  refine own_back ?_ (fun t k => XS.iload X14.here hx rfl (hb hby at_191) rfl k)
  show own_Go p e below PO (T14.setTop (mkF m 193 #[.val (.int pA), .val (.int pB), .val (.int pC), .val (.int pD), .val (.int (own_I za)), .val (.int (own_I zb)), .val (.int (own_I zc)), .val (.int (own_I zd)), .val (.int (own_I ze)), .val (.int (own_I zf)), .val (.int (own_I zx)), .val (.int (own_I zk)), .val (.int (own_I m0)), .val (.int (own_I m1)), .val (.int (own_I m2)), .val (.int (own_I m3)), .val (.ref b5), .val (.int (own_I (za + zb))), .unset, .unset, .unset, .unset, .unset, .unset, .unset, .unset, .unset, .unset] [(.int (own_I zb))]))
  refine own_back ?_ (fun t k => XS.iload X14.here hx rfl (hb hby at_193) rfl k)
  show own_Go p e below PO (T14.setTop (mkF m 195 #[.val (.int pA), .val (.int pB), .val (.int pC), .val (.int pD), .val (.int (own_I za)), .val (.int (own_I zb)), .val (.int (own_I zc)), .val (.int (own_I zd)), .val (.int (own_I ze)), .val (.int (own_I zf)), .val (.int (own_I zx)), .val (.int (own_I zk)), .val (.int (own_I m0)), .val (.int (own_I m1)), .val (.int (own_I m2)), .val (.int (own_I m3)), .val (.ref b5), .val (.int (own_I (za + zb))), .unset, .unset, .unset, .unset, .unset, .unset, .unset, .unset, .unset, .unset] [(.int (own_I zc)), (.int (own_I zb))]))
  refine own_back ?_ (fun t k => XS.iadd X14.here hx rfl (hb hby at_195) rfl k)
  show own_Go p e below PO (T14.setTop (mkF m 196 #[.val (.int pA), .val (.int pB), .val (.int pC), .val (.int pD), .val (.int (own_I za)), .val (.int (own_I zb)), .val (.int (own_I zc)), .val (.int (own_I zd)), .val (.int (own_I ze)), .val (.int (own_I zf)), .val (.int (own_I zx)), .val (.int (own_I zk)), .val (.int (own_I m0)), .val (.int (own_I m1)), .val (.int (own_I m2)), .val (.int (own_I m3)), .val (.ref b5), .val (.int (own_I (za + zb))), .unset, .unset, .unset, .unset, .unset, .unset, .unset, .unset, .unset, .unset] [(.int ((own_I zb) + (own_I zc)))]))
  refine own_sub (A := Int32) (x := ((own_I zb) + (own_I zc))) (y := (own_I (zb + zc))) (fun cv => own_Go p e below PO (T14.setTop (mkF m 196 #[.val (.int pA), .val (.int pB), .val (.int pC), .val (.int pD), .val (.int (own_I za)), .val (.int (own_I zb)), .val (.int (own_I zc)), .val (.int (own_I zd)), .val (.int (own_I ze)), .val (.int (own_I zf)), .val (.int (own_I zx)), .val (.int (own_I zk)), .val (.int (own_I m0)), .val (.int (own_I m1)), .val (.int (own_I m2)), .val (.int (own_I m3)), .val (.ref b5), .val (.int (own_I (za + zb))), .unset, .unset, .unset, .unset, .unset, .unset, .unset, .unset, .unset, .unset] [(.int cv)]))) (own_add _ _) ?_
  show own_Go p e below PO (T14.setTop (mkF m 196 #[.val (.int pA), .val (.int pB), .val (.int pC), .val (.int pD), .val (.int (own_I za)), .val (.int (own_I zb)), .val (.int (own_I zc)), .val (.int (own_I zd)), .val (.int (own_I ze)), .val (.int (own_I zf)), .val (.int (own_I zx)), .val (.int (own_I zk)), .val (.int (own_I m0)), .val (.int (own_I m1)), .val (.int (own_I m2)), .val (.int (own_I m3)), .val (.ref b5), .val (.int (own_I (za + zb))), .unset, .unset, .unset, .unset, .unset, .unset, .unset, .unset, .unset, .unset] [(.int (own_I (zb + zc)))]))
  refine own_back ?_ (fun t k => XS.iload X14.here hx rfl (hb hby at_196) rfl k)
  show own_Go p e below PO (T14.setTop (mkF m 198 #[.val (.int pA), .val (.int pB), .val (.int pC), .val (.int pD), .val (.int (own_I za)), .val (.int (own_I zb)), .val (.int (own_I zc)), .val (.int (own_I zd)), .val (.int (own_I ze)), .val (.int (own_I zf)), .val (.int (own_I zx)), .val (.int (own_I zk)), .val (.int (own_I m0)), .val (.int (own_I m1)), .val (.int (own_I m2)), .val (.int (own_I m3)), .val (.ref b5), .val (.int (own_I (za + zb))), .unset, .unset, .unset, .unset, .unset, .unset, .unset, .unset, .unset, .unset] [(.int (own_I zd)), (.int (own_I (zb + zc)))]))
  refine own_back ?_ (fun t k => XS.iadd X14.here hx rfl (hb hby at_198) rfl k)
  show own_Go p e below PO (T14.setTop (mkF m 199 #[.val (.int pA), .val (.int pB), .val (.int pC), .val (.int pD), .val (.int (own_I za)), .val (.int (own_I zb)), .val (.int (own_I zc)), .val (.int (own_I zd)), .val (.int (own_I ze)), .val (.int (own_I zf)), .val (.int (own_I zx)), .val (.int (own_I zk)), .val (.int (own_I m0)), .val (.int (own_I m1)), .val (.int (own_I m2)), .val (.int (own_I m3)), .val (.ref b5), .val (.int (own_I (za + zb))), .unset, .unset, .unset, .unset, .unset, .unset, .unset, .unset, .unset, .unset] [(.int ((own_I (zb + zc)) + (own_I zd)))]))
  refine own_sub (A := Int32) (x := ((own_I (zb + zc)) + (own_I zd))) (y := (own_I ((zb + zc) + zd))) (fun cv => own_Go p e below PO (T14.setTop (mkF m 199 #[.val (.int pA), .val (.int pB), .val (.int pC), .val (.int pD), .val (.int (own_I za)), .val (.int (own_I zb)), .val (.int (own_I zc)), .val (.int (own_I zd)), .val (.int (own_I ze)), .val (.int (own_I zf)), .val (.int (own_I zx)), .val (.int (own_I zk)), .val (.int (own_I m0)), .val (.int (own_I m1)), .val (.int (own_I m2)), .val (.int (own_I m3)), .val (.ref b5), .val (.int (own_I (za + zb))), .unset, .unset, .unset, .unset, .unset, .unset, .unset, .unset, .unset, .unset] [(.int cv)]))) (own_add _ _) ?_
  show own_Go p e below PO (T14.setTop (mkF m 199 #[.val (.int pA), .val (.int pB), .val (.int pC), .val (.int pD), .val (.int (own_I za)), .val (.int (own_I zb)), .val (.int (own_I zc)), .val (.int (own_I zd)), .val (.int (own_I ze)), .val (.int (own_I zf)), .val (.int (own_I zx)), .val (.int (own_I zk)), .val (.int (own_I m0)), .val (.int (own_I m1)), .val (.int (own_I m2)), .val (.int (own_I m3)), .val (.ref b5), .val (.int (own_I (za + zb))), .unset, .unset, .unset, .unset, .unset, .unset, .unset, .unset, .unset, .unset] [(.int (own_I ((zb + zc) + zd)))]))
  refine own_back ?_ (fun t k => XS.istore X14.here hx rfl (hb hby at_199) rfl (l' := #[.val (.int pA), .val (.int pB), .val (.int pC), .val (.int pD), .val (.int (own_I za)), .val (.int (own_I zb)), .val (.int (own_I zc)), .val (.int (own_I zd)), .val (.int (own_I ze)), .val (.int (own_I zf)), .val (.int (own_I zx)), .val (.int (own_I zk)), .val (.int (own_I m0)), .val (.int (own_I m1)), .val (.int (own_I m2)), .val (.int (own_I m3)), .val (.ref b5), .val (.int (own_I (za + zb))), .val (.int (own_I ((zb + zc) + zd))), .unset, .unset, .unset, .unset, .unset, .unset, .unset, .unset, .unset]) rfl k)
  show own_Go p e below PO (T14.setTop (mkF m 201 #[.val (.int pA), .val (.int pB), .val (.int pC), .val (.int pD), .val (.int (own_I za)), .val (.int (own_I zb)), .val (.int (own_I zc)), .val (.int (own_I zd)), .val (.int (own_I ze)), .val (.int (own_I zf)), .val (.int (own_I zx)), .val (.int (own_I zk)), .val (.int (own_I m0)), .val (.int (own_I m1)), .val (.int (own_I m2)), .val (.int (own_I m3)), .val (.ref b5), .val (.int (own_I (za + zb))), .val (.int (own_I ((zb + zc) + zd))), .unset, .unset, .unset, .unset, .unset, .unset, .unset, .unset, .unset] []))
  refine own_back ?_ (fun t k => XS.iload X14.here hx rfl (hb hby at_201) rfl k)
  show own_Go p e below PO (T14.setTop (mkF m 203 #[.val (.int pA), .val (.int pB), .val (.int pC), .val (.int pD), .val (.int (own_I za)), .val (.int (own_I zb)), .val (.int (own_I zc)), .val (.int (own_I zd)), .val (.int (own_I ze)), .val (.int (own_I zf)), .val (.int (own_I zx)), .val (.int (own_I zk)), .val (.int (own_I m0)), .val (.int (own_I m1)), .val (.int (own_I m2)), .val (.int (own_I m3)), .val (.ref b5), .val (.int (own_I (za + zb))), .val (.int (own_I ((zb + zc) + zd))), .unset, .unset, .unset, .unset, .unset, .unset, .unset, .unset, .unset] [(.int (own_I za))]))
  refine own_back ?_ (fun t k => XS.iload X14.here hx rfl (hb hby at_203) rfl k)
  show own_Go p e below PO (T14.setTop (mkF m 205 #[.val (.int pA), .val (.int pB), .val (.int pC), .val (.int pD), .val (.int (own_I za)), .val (.int (own_I zb)), .val (.int (own_I zc)), .val (.int (own_I zd)), .val (.int (own_I ze)), .val (.int (own_I zf)), .val (.int (own_I zx)), .val (.int (own_I zk)), .val (.int (own_I m0)), .val (.int (own_I m1)), .val (.int (own_I m2)), .val (.int (own_I m3)), .val (.ref b5), .val (.int (own_I (za + zb))), .val (.int (own_I ((zb + zc) + zd))), .unset, .unset, .unset, .unset, .unset, .unset, .unset, .unset, .unset] [(.int (own_I ze)), (.int (own_I za))]))
  refine own_back ?_ (fun t k => XS.iadd X14.here hx rfl (hb hby at_205) rfl k)
  show own_Go p e below PO (T14.setTop (mkF m 206 #[.val (.int pA), .val (.int pB), .val (.int pC), .val (.int pD), .val (.int (own_I za)), .val (.int (own_I zb)), .val (.int (own_I zc)), .val (.int (own_I zd)), .val (.int (own_I ze)), .val (.int (own_I zf)), .val (.int (own_I zx)), .val (.int (own_I zk)), .val (.int (own_I m0)), .val (.int (own_I m1)), .val (.int (own_I m2)), .val (.int (own_I m3)), .val (.ref b5), .val (.int (own_I (za + zb))), .val (.int (own_I ((zb + zc) + zd))), .unset, .unset, .unset, .unset, .unset, .unset, .unset, .unset, .unset] [(.int ((own_I za) + (own_I ze)))]))
  refine own_sub (A := Int32) (x := ((own_I za) + (own_I ze))) (y := (own_I (za + ze))) (fun cv => own_Go p e below PO (T14.setTop (mkF m 206 #[.val (.int pA), .val (.int pB), .val (.int pC), .val (.int pD), .val (.int (own_I za)), .val (.int (own_I zb)), .val (.int (own_I zc)), .val (.int (own_I zd)), .val (.int (own_I ze)), .val (.int (own_I zf)), .val (.int (own_I zx)), .val (.int (own_I zk)), .val (.int (own_I m0)), .val (.int (own_I m1)), .val (.int (own_I m2)), .val (.int (own_I m3)), .val (.ref b5), .val (.int (own_I (za + zb))), .val (.int (own_I ((zb + zc) + zd))), .unset, .unset, .unset, .unset, .unset, .unset, .unset, .unset, .unset] [(.int cv)]))) (own_add _ _) ?_
  show own_Go p e below PO (T14.setTop (mkF m 206 #[.val (.int pA), .val (.int pB), .val (.int pC), .val (.int pD), .val (.int (own_I za)), .val (.int (own_I zb)), .val (.int (own_I zc)), .val (.int (own_I zd)), .val (.int (own_I ze)), .val (.int (own_I zf)), .val (.int (own_I zx)), .val (.int (own_I zk)), .val (.int (own_I m0)), .val (.int (own_I m1)), .val (.int (own_I m2)), .val (.int (own_I m3)), .val (.ref b5), .val (.int (own_I (za + zb))), .val (.int (own_I ((zb + zc) + zd))), .unset, .unset, .unset, .unset, .unset, .unset, .unset, .unset, .unset] [(.int (own_I (za + ze)))]))
  refine own_back ?_ (fun t k => XS.iload X14.here hx rfl (hb hby at_206) rfl k)
  show own_Go p e below PO (T14.setTop (mkF m 208 #[.val (.int pA), .val (.int pB), .val (.int pC), .val (.int pD), .val (.int (own_I za)), .val (.int (own_I zb)), .val (.int (own_I zc)), .val (.int (own_I zd)), .val (.int (own_I ze)), .val (.int (own_I zf)), .val (.int (own_I zx)), .val (.int (own_I zk)), .val (.int (own_I m0)), .val (.int (own_I m1)), .val (.int (own_I m2)), .val (.int (own_I m3)), .val (.ref b5), .val (.int (own_I (za + zb))), .val (.int (own_I ((zb + zc) + zd))), .unset, .unset, .unset, .unset, .unset, .unset, .unset, .unset, .unset] [(.int (own_I zf)), (.int (own_I (za + ze)))]))
  refine own_back ?_ (fun t k => XS.iadd X14.here hx rfl (hb hby at_208) rfl k)
  show own_Go p e below PO (T14.setTop (mkF m 209 #[.val (.int pA), .val (.int pB), .val (.int pC), .val (.int pD), .val (.int (own_I za)), .val (.int (own_I zb)), .val (.int (own_I zc)), .val (.int (own_I zd)), .val (.int (own_I ze)), .val (.int (own_I zf)), .val (.int (own_I zx)), .val (.int (own_I zk)), .val (.int (own_I m0)), .val (.int (own_I m1)), .val (.int (own_I m2)), .val (.int (own_I m3)), .val (.ref b5), .val (.int (own_I (za + zb))), .val (.int (own_I ((zb + zc) + zd))), .unset, .unset, .unset, .unset, .unset, .unset, .unset, .unset, .unset] [(.int ((own_I (za + ze)) + (own_I zf)))]))
  refine own_sub (A := Int32) (x := ((own_I (za + ze)) + (own_I zf))) (y := (own_I ((za + ze) + zf))) (fun cv => own_Go p e below PO (T14.setTop (mkF m 209 #[.val (.int pA), .val (.int pB), .val (.int pC), .val (.int pD), .val (.int (own_I za)), .val (.int (own_I zb)), .val (.int (own_I zc)), .val (.int (own_I zd)), .val (.int (own_I ze)), .val (.int (own_I zf)), .val (.int (own_I zx)), .val (.int (own_I zk)), .val (.int (own_I m0)), .val (.int (own_I m1)), .val (.int (own_I m2)), .val (.int (own_I m3)), .val (.ref b5), .val (.int (own_I (za + zb))), .val (.int (own_I ((zb + zc) + zd))), .unset, .unset, .unset, .unset, .unset, .unset, .unset, .unset, .unset] [(.int cv)]))) (own_add _ _) ?_
  show own_Go p e below PO (T14.setTop (mkF m 209 #[.val (.int pA), .val (.int pB), .val (.int pC), .val (.int pD), .val (.int (own_I za)), .val (.int (own_I zb)), .val (.int (own_I zc)), .val (.int (own_I zd)), .val (.int (own_I ze)), .val (.int (own_I zf)), .val (.int (own_I zx)), .val (.int (own_I zk)), .val (.int (own_I m0)), .val (.int (own_I m1)), .val (.int (own_I m2)), .val (.int (own_I m3)), .val (.ref b5), .val (.int (own_I (za + zb))), .val (.int (own_I ((zb + zc) + zd))), .unset, .unset, .unset, .unset, .unset, .unset, .unset, .unset, .unset] [(.int (own_I ((za + ze) + zf)))]))
  refine own_back ?_ (fun t k => XS.istore X14.here hx rfl (hb hby at_209) rfl (l' := #[.val (.int pA), .val (.int pB), .val (.int pC), .val (.int pD), .val (.int (own_I za)), .val (.int (own_I zb)), .val (.int (own_I zc)), .val (.int (own_I zd)), .val (.int (own_I ze)), .val (.int (own_I zf)), .val (.int (own_I zx)), .val (.int (own_I zk)), .val (.int (own_I m0)), .val (.int (own_I m1)), .val (.int (own_I m2)), .val (.int (own_I m3)), .val (.ref b5), .val (.int (own_I (za + zb))), .val (.int (own_I ((zb + zc) + zd))), .val (.int (own_I ((za + ze) + zf))), .unset, .unset, .unset, .unset, .unset, .unset, .unset, .unset]) rfl k)
  show own_Go p e below PO (T14.setTop (mkF m 211 #[.val (.int pA), .val (.int pB), .val (.int pC), .val (.int pD), .val (.int (own_I za)), .val (.int (own_I zb)), .val (.int (own_I zc)), .val (.int (own_I zd)), .val (.int (own_I ze)), .val (.int (own_I zf)), .val (.int (own_I zx)), .val (.int (own_I zk)), .val (.int (own_I m0)), .val (.int (own_I m1)), .val (.int (own_I m2)), .val (.int (own_I m3)), .val (.ref b5), .val (.int (own_I (za + zb))), .val (.int (own_I ((zb + zc) + zd))), .val (.int (own_I ((za + ze) + zf))), .unset, .unset, .unset, .unset, .unset, .unset, .unset, .unset] []))
  refine own_back ?_ (fun t k => XS.iload X14.here hx rfl (hb hby at_211) rfl k)
  show own_Go p e below PO (T14.setTop (mkF m 213 #[.val (.int pA), .val (.int pB), .val (.int pC), .val (.int pD), .val (.int (own_I za)), .val (.int (own_I zb)), .val (.int (own_I zc)), .val (.int (own_I zd)), .val (.int (own_I ze)), .val (.int (own_I zf)), .val (.int (own_I zx)), .val (.int (own_I zk)), .val (.int (own_I m0)), .val (.int (own_I m1)), .val (.int (own_I m2)), .val (.int (own_I m3)), .val (.ref b5), .val (.int (own_I (za + zb))), .val (.int (own_I ((zb + zc) + zd))), .val (.int (own_I ((za + ze) + zf))), .unset, .unset, .unset, .unset, .unset, .unset, .unset, .unset] [(.int (own_I zd))]))
  refine own_back ?_ (fun t k => XS.iload X14.here hx rfl (hb hby at_213) rfl k)
  show own_Go p e below PO (T14.setTop (mkF m 215 #[.val (.int pA), .val (.int pB), .val (.int pC), .val (.int pD), .val (.int (own_I za)), .val (.int (own_I zb)), .val (.int (own_I zc)), .val (.int (own_I zd)), .val (.int (own_I ze)), .val (.int (own_I zf)), .val (.int (own_I zx)), .val (.int (own_I zk)), .val (.int (own_I m0)), .val (.int (own_I m1)), .val (.int (own_I m2)), .val (.int (own_I m3)), .val (.ref b5), .val (.int (own_I (za + zb))), .val (.int (own_I ((zb + zc) + zd))), .val (.int (own_I ((za + ze) + zf))), .unset, .unset, .unset, .unset, .unset, .unset, .unset, .unset] [(.int (own_I ze)), (.int (own_I zd))]))
  refine own_back ?_ (fun t k => XS.iadd X14.here hx rfl (hb hby at_215) rfl k)
  show own_Go p e below PO (T14.setTop (mkF m 216 #[.val (.int pA), .val (.int pB), .val (.int pC), .val (.int pD), .val (.int (own_I za)), .val (.int (own_I zb)), .val (.int (own_I zc)), .val (.int (own_I zd)), .val (.int (own_I ze)), .val (.int (own_I zf)), .val (.int (own_I zx)), .val (.int (own_I zk)), .val (.int (own_I m0)), .val (.int (own_I m1)), .val (.int (own_I m2)), .val (.int (own_I m3)), .val (.ref b5), .val (.int (own_I (za + zb))), .val (.int (own_I ((zb + zc) + zd))), .val (.int (own_I ((za + ze) + zf))), .unset, .unset, .unset, .unset, .unset, .unset, .unset, .unset] [(.int ((own_I zd) + (own_I ze)))]))
  refine own_sub (A := Int32) (x := ((own_I zd) + (own_I ze))) (y := (own_I (zd + ze))) (fun cv => own_Go p e below PO (T14.setTop (mkF m 216 #[.val (.int pA), .val (.int pB), .val (.int pC), .val (.int pD), .val (.int (own_I za)), .val (.int (own_I zb)), .val (.int (own_I zc)), .val (.int (own_I zd)), .val (.int (own_I ze)), .val (.int (own_I zf)), .val (.int (own_I zx)), .val (.int (own_I zk)), .val (.int (own_I m0)), .val (.int (own_I m1)), .val (.int (own_I m2)), .val (.int (own_I m3)), .val (.ref b5), .val (.int (own_I (za + zb))), .val (.int (own_I ((zb + zc) + zd))), .val (.int (own_I ((za + ze) + zf))), .unset, .unset, .unset, .unset, .unset, .unset, .unset, .unset] [(.int cv)]))) (own_add _ _) ?_
  show own_Go p e below PO (T14.setTop (mkF m 216 #[.val (.int pA), .val (.int pB), .val (.int pC), .val (.int pD), .val (.int (own_I za)), .val (.int (own_I zb)), .val (.int (own_I zc)), .val (.int (own_I zd)), .val (.int (own_I ze)), .val (.int (own_I zf)), .val (.int (own_I zx)), .val (.int (own_I zk)), .val (.int (own_I m0)), .val (.int (own_I m1)), .val (.int (own_I m2)), .val (.int (own_I m3)), .val (.ref b5), .val (.int (own_I (za + zb))), .val (.int (own_I ((zb + zc) + zd))), .val (.int (own_I ((za + ze) + zf))), .unset, .unset, .unset, .unset, .unset, .unset, .unset, .unset] [(.int (own_I (zd + ze)))]))
  refine own_back ?_ (fun t k => XS.istore X14.here hx rfl (hb hby at_216) rfl (l' := #[.val (.int pA), .val (.int pB), .val (.int pC), .val (.int pD), .val (.int (own_I za)), .val (.int (own_I zb)), .val (.int (own_I zc)), .val (.int (own_I zd)), .val (.int (own_I ze)), .val (.int (own_I zf)), .val (.int (own_I zx)), .val (.int (own_I zk)), .val (.int (own_I m0)), .val (.int (own_I m1)), .val (.int (own_I m2)), .val (.int (own_I m3)), .val (.ref b5), .val (.int (own_I (za + zb))), .val (.int (own_I ((zb + zc) + zd))), .val (.int (own_I ((za + ze) + zf))), .val (.int (own_I (zd + ze))), .unset, .unset, .unset, .unset, .unset, .unset, .unset]) rfl k)
  show own_Go p e below PO (T14.setTop (mkF m 218 #[.val (.int pA), .val (.int pB), .val (.int pC), .val (.int pD), .val (.int (own_I za)), .val (.int (own_I zb)), .val (.int (own_I zc)), .val (.int (own_I zd)), .val (.int (own_I ze)), .val (.int (own_I zf)), .val (.int (own_I zx)), .val (.int (own_I zk)), .val (.int (own_I m0)), .val (.int (own_I m1)), .val (.int (own_I m2)), .val (.int (own_I m3)), .val (.ref b5), .val (.int (own_I (za + zb))), .val (.int (own_I ((zb + zc) + zd))), .val (.int (own_I ((za + ze) + zf))), .val (.int (own_I (zd + ze))), .unset, .unset, .unset, .unset, .unset, .unset, .unset] []))
  refine own_back ?_ (fun t k => XS.iload X14.here hx rfl (hb hby at_218) rfl k)
  show own_Go p e below PO (T14.setTop (mkF m 220 #[.val (.int pA), .val (.int pB), .val (.int pC), .val (.int pD), .val (.int (own_I za)), .val (.int (own_I zb)), .val (.int (own_I zc)), .val (.int (own_I zd)), .val (.int (own_I ze)), .val (.int (own_I zf)), .val (.int (own_I zx)), .val (.int (own_I zk)), .val (.int (own_I m0)), .val (.int (own_I m1)), .val (.int (own_I m2)), .val (.int (own_I m3)), .val (.ref b5), .val (.int (own_I (za + zb))), .val (.int (own_I ((zb + zc) + zd))), .val (.int (own_I ((za + ze) + zf))), .val (.int (own_I (zd + ze))), .unset, .unset, .unset, .unset, .unset, .unset, .unset] [(.int (own_I (za + zb)))]))
  refine own_back ?_ (fun t k => XS.iload X14.here hx rfl (hb hby at_220) rfl k)
  show own_Go p e below PO (T14.setTop (mkF m 222 #[.val (.int pA), .val (.int pB), .val (.int pC), .val (.int pD), .val (.int (own_I za)), .val (.int (own_I zb)), .val (.int (own_I zc)), .val (.int (own_I zd)), .val (.int (own_I ze)), .val (.int (own_I zf)), .val (.int (own_I zx)), .val (.int (own_I zk)), .val (.int (own_I m0)), .val (.int (own_I m1)), .val (.int (own_I m2)), .val (.int (own_I m3)), .val (.ref b5), .val (.int (own_I (za + zb))), .val (.int (own_I ((zb + zc) + zd))), .val (.int (own_I ((za + ze) + zf))), .val (.int (own_I (zd + ze))), .unset, .unset, .unset, .unset, .unset, .unset, .unset] [(.int (own_I ((zb + zc) + zd))), (.int (own_I (za + zb)))]))
  have s1 := own_mI_s (za + zb) ((zb + zc) + zd)
  have s2 := own_mI_s ((za + ze) + zf) (zd + ze)
  have s3 := own_mI_s (own_mI (za + zb) ((zb + zc) + zd)) (own_mI ((za + ze) + zf) (zd + ze))
  obtain ⟨_, _, ⟨T15, L15, k15, n15⟩, -, X15, ⟨Lc15, hQ15, l15, y15, z15⟩, st15⟩ := Jvm.LawKit.callS X14 hx (y := (⟨"java/lang/Math", "min", "(II)I"⟩ : MethodName)) hown (mvT hZ (hw _ (List.mem_of_getElem? (i := 73) rfl))) (mvT hZ (hw _ (List.mem_of_getElem? (i := 74) rfl))) (mvT hZ (hw _ (List.mem_of_getElem? (i := 75) rfl))) (mvT hZ (hw _ (List.mem_of_getElem? (i := 76) rfl))) (by decide) (backOf (W := 0) (rmMin l Z a0 hw []  (za + zb) ((zb + zc) + zd) T14.heap n0 Zh14 (by omega) (by omega)) hZ (hw _ (List.mem_of_getElem? (i := 76) rfl)) (hw _ (List.mem_of_getElem? (i := 75) rfl)) (by decide) (by decide)) (g := (mkF m 222 #[.val (.int pA), .val (.int pB), .val (.int pC), .val (.int pD), .val (.int (own_I za)), .val (.int (own_I zb)), .val (.int (own_I zc)), .val (.int (own_I zd)), .val (.int (own_I ze)), .val (.int (own_I zf)), .val (.int (own_I zx)), .val (.int (own_I zk)), .val (.int (own_I m0)), .val (.int (own_I m1)), .val (.int (own_I m2)), .val (.int (own_I m3)), .val (.ref b5), .val (.int (own_I (za + zb))), .val (.int (own_I ((zb + zc) + zd))), .val (.int (own_I ((za + ze) + zf))), .val (.int (own_I (zd + ze))), .unset, .unset, .unset, .unset, .unset, .unset, .unset] [(.int (own_I ((zb + zc) + zd))), (.int (own_I (za + zb)))])) rfl (by rw [hml]; rfl) (argsL := [(.int (own_I (za + zb))), (.int (own_I ((zb + zc) + zd)))]) (rest := []) (lenOf pd_11 rfl) rfl (by show 2 * 0 + _ ≤ _; exact Nat.le_of_eq rfl) (hb hby at_222) (fun _ _ => ⟨rfl, rfl, (by decide : 9 + 0 ≤ _), (by decide : 138 + 0 ≤ _)⟩)
  dsimp only [Pt.U, Pt.locs, Pt.cells, Pt.slots] at X15 l15 y15 z15 st15 hQ15
  subst l15 y15 z15
  obtain ⟨rfl, N15q, e15⟩ := hQ15
  have N15 := Fr.app N14 N15q
  refine own_back ?_ st15
  show own_Go p e below PO (T15.setTop (mkF m 225 #[.val (.int pA), .val (.int pB), .val (.int pC), .val (.int pD), .val (.int (own_I za)), .val (.int (own_I zb)), .val (.int (own_I zc)), .val (.int (own_I zd)), .val (.int (own_I ze)), .val (.int (own_I zf)), .val (.int (own_I zx)), .val (.int (own_I zk)), .val (.int (own_I m0)), .val (.int (own_I m1)), .val (.int (own_I m2)), .val (.int (own_I m3)), .val (.ref b5), .val (.int (own_I (za + zb))), .val (.int (own_I ((zb + zc) + zd))), .val (.int (own_I ((za + ze) + zf))), .val (.int (own_I (zd + ze))), .unset, .unset, .unset, .unset, .unset, .unset, .unset] [(.int (own_I (own_mI (za + zb) ((zb + zc) + zd))))]))
  refine own_back ?_ (fun t k => XS.iload X15.here hx rfl (hb hby at_225) rfl k)
  show own_Go p e below PO (T15.setTop (mkF m 227 #[.val (.int pA), .val (.int pB), .val (.int pC), .val (.int pD), .val (.int (own_I za)), .val (.int (own_I zb)), .val (.int (own_I zc)), .val (.int (own_I zd)), .val (.int (own_I ze)), .val (.int (own_I zf)), .val (.int (own_I zx)), .val (.int (own_I zk)), .val (.int (own_I m0)), .val (.int (own_I m1)), .val (.int (own_I m2)), .val (.int (own_I m3)), .val (.ref b5), .val (.int (own_I (za + zb))), .val (.int (own_I ((zb + zc) + zd))), .val (.int (own_I ((za + ze) + zf))), .val (.int (own_I (zd + ze))), .unset, .unset, .unset, .unset, .unset, .unset, .unset] [(.int (own_I ((za + ze) + zf))), (.int (own_I (own_mI (za + zb) ((zb + zc) + zd))))]))
  refine own_back ?_ (fun t k => XS.iload X15.here hx rfl (hb hby at_227) rfl k)
  show own_Go p e below PO (T15.setTop (mkF m 229 #[.val (.int pA), .val (.int pB), .val (.int pC), .val (.int pD), .val (.int (own_I za)), .val (.int (own_I zb)), .val (.int (own_I zc)), .val (.int (own_I zd)), .val (.int (own_I ze)), .val (.int (own_I zf)), .val (.int (own_I zx)), .val (.int (own_I zk)), .val (.int (own_I m0)), .val (.int (own_I m1)), .val (.int (own_I m2)), .val (.int (own_I m3)), .val (.ref b5), .val (.int (own_I (za + zb))), .val (.int (own_I ((zb + zc) + zd))), .val (.int (own_I ((za + ze) + zf))), .val (.int (own_I (zd + ze))), .unset, .unset, .unset, .unset, .unset, .unset, .unset] [(.int (own_I (zd + ze))), (.int (own_I ((za + ze) + zf))), (.int (own_I (own_mI (za + zb) ((zb + zc) + zd))))]))
  obtain ⟨_, _, ⟨T16, L16, k16, n16⟩, -, X16, ⟨Lc16, hQ16, l16, y16, z16⟩, st16⟩ := Jvm.LawKit.callS X15 hx (y := (⟨"java/lang/Math", "min", "(II)I"⟩ : MethodName)) hown (mvT hZ (hw _ (List.mem_of_getElem? (i := 73) rfl))) (mvT hZ (hw _ (List.mem_of_getElem? (i := 74) rfl))) (mvT hZ (hw _ (List.mem_of_getElem? (i := 75) rfl))) (mvT hZ (hw _ (List.mem_of_getElem? (i := 76) rfl))) (by decide) (backOf (W := 1) (rmMin l Z a0 hw []  ((za + ze) + zf) (zd + ze) T14.heap n0 Zh14 (by omega) (by omega)) hZ (hw _ (List.mem_of_getElem? (i := 76) rfl)) (hw _ (List.mem_of_getElem? (i := 75) rfl)) (by decide) (by decide)) (g := (mkF m 229 #[.val (.int pA), .val (.int pB), .val (.int pC), .val (.int pD), .val (.int (own_I za)), .val (.int (own_I zb)), .val (.int (own_I zc)), .val (.int (own_I zd)), .val (.int (own_I ze)), .val (.int (own_I zf)), .val (.int (own_I zx)), .val (.int (own_I zk)), .val (.int (own_I m0)), .val (.int (own_I m1)), .val (.int (own_I m2)), .val (.int (own_I m3)), .val (.ref b5), .val (.int (own_I (za + zb))), .val (.int (own_I ((zb + zc) + zd))), .val (.int (own_I ((za + ze) + zf))), .val (.int (own_I (zd + ze))), .unset, .unset, .unset, .unset, .unset, .unset, .unset] [(.int (own_I (zd + ze))), (.int (own_I ((za + ze) + zf))), (.int (own_I (own_mI (za + zb) ((zb + zc) + zd))))])) rfl (by rw [hml]; rfl) (argsL := [(.int (own_I ((za + ze) + zf))), (.int (own_I (zd + ze)))]) (rest := [(.int (own_I (own_mI (za + zb) ((zb + zc) + zd))))]) (lenOf pd_11 rfl) rfl (by show 2 * 0 + _ ≤ _; exact Nat.le_of_eq rfl) (hb hby at_229) (fun _ _ => ⟨rfl, e15, (by decide : 9 + 0 ≤ _), (by decide : 138 + 0 ≤ _)⟩)
  dsimp only [Pt.U, Pt.locs, Pt.cells, Pt.slots] at X16 l16 y16 z16 st16 hQ16
  subst l16 y16 z16
  obtain ⟨rfl, N16q, e16⟩ := hQ16
  have N16 := Fr.app N15 N16q
  refine own_back ?_ st16
  show own_Go p e below PO (T16.setTop (mkF m 232 #[.val (.int pA), .val (.int pB), .val (.int pC), .val (.int pD), .val (.int (own_I za)), .val (.int (own_I zb)), .val (.int (own_I zc)), .val (.int (own_I zd)), .val (.int (own_I ze)), .val (.int (own_I zf)), .val (.int (own_I zx)), .val (.int (own_I zk)), .val (.int (own_I m0)), .val (.int (own_I m1)), .val (.int (own_I m2)), .val (.int (own_I m3)), .val (.ref b5), .val (.int (own_I (za + zb))), .val (.int (own_I ((zb + zc) + zd))), .val (.int (own_I ((za + ze) + zf))), .val (.int (own_I (zd + ze))), .unset, .unset, .unset, .unset, .unset, .unset, .unset] [(.int (own_I (own_mI ((za + ze) + zf) (zd + ze)))), (.int (own_I (own_mI (za + zb) ((zb + zc) + zd))))]))
  obtain ⟨_, _, ⟨T17, L17, k17, n17⟩, -, X17, ⟨Lc17, hQ17, l17, y17, z17⟩, st17⟩ := Jvm.LawKit.callS X16 hx (y := (⟨"java/lang/Math", "min", "(II)I"⟩ : MethodName)) hown (mvT hZ (hw _ (List.mem_of_getElem? (i := 73) rfl))) (mvT hZ (hw _ (List.mem_of_getElem? (i := 74) rfl))) (mvT hZ (hw _ (List.mem_of_getElem? (i := 75) rfl))) (mvT hZ (hw _ (List.mem_of_getElem? (i := 76) rfl))) (by decide) (backOf (W := 0) (rmMin l Z a0 hw []  (own_mI (za + zb) ((zb + zc) + zd)) (own_mI ((za + ze) + zf) (zd + ze)) T14.heap n0 Zh14 (by omega) (by omega)) hZ (hw _ (List.mem_of_getElem? (i := 76) rfl)) (hw _ (List.mem_of_getElem? (i := 75) rfl)) (by decide) (by decide)) (g := (mkF m 232 #[.val (.int pA), .val (.int pB), .val (.int pC), .val (.int pD), .val (.int (own_I za)), .val (.int (own_I zb)), .val (.int (own_I zc)), .val (.int (own_I zd)), .val (.int (own_I ze)), .val (.int (own_I zf)), .val (.int (own_I zx)), .val (.int (own_I zk)), .val (.int (own_I m0)), .val (.int (own_I m1)), .val (.int (own_I m2)), .val (.int (own_I m3)), .val (.ref b5), .val (.int (own_I (za + zb))), .val (.int (own_I ((zb + zc) + zd))), .val (.int (own_I ((za + ze) + zf))), .val (.int (own_I (zd + ze))), .unset, .unset, .unset, .unset, .unset, .unset, .unset] [(.int (own_I (own_mI ((za + ze) + zf) (zd + ze)))), (.int (own_I (own_mI (za + zb) ((zb + zc) + zd))))])) rfl (by rw [hml]; rfl) (argsL := [(.int (own_I (own_mI (za + zb) ((zb + zc) + zd)))), (.int (own_I (own_mI ((za + ze) + zf) (zd + ze))))]) (rest := []) (lenOf pd_11 rfl) rfl (by show 2 * 0 + _ ≤ _; exact Nat.le_of_eq rfl) (hb hby at_232) (fun _ _ => ⟨rfl, e16, (by decide : 9 + 0 ≤ _), (by decide : 138 + 0 ≤ _)⟩)
  dsimp only [Pt.U, Pt.locs, Pt.cells, Pt.slots] at X17 l17 y17 z17 st17 hQ17
  subst l17 y17 z17
  obtain ⟨rfl, N17q, e17⟩ := hQ17
  have N17 := Fr.app N16 N17q
  refine own_back ?_ st17
  show own_Go p e below PO (T17.setTop (mkF m 235 #[.val (.int pA), .val (.int pB), .val (.int pC), .val (.int pD), .val (.int (own_I za)), .val (.int (own_I zb)), .val (.int (own_I zc)), .val (.int (own_I zd)), .val (.int (own_I ze)), .val (.int (own_I zf)), .val (.int (own_I zx)), .val (.int (own_I zk)), .val (.int (own_I m0)), .val (.int (own_I m1)), .val (.int (own_I m2)), .val (.int (own_I m3)), .val (.ref b5), .val (.int (own_I (za + zb))), .val (.int (own_I ((zb + zc) + zd))), .val (.int (own_I ((za + ze) + zf))), .val (.int (own_I (zd + ze))), .unset, .unset, .unset, .unset, .unset, .unset, .unset] [(.int (own_I (own_mI (own_mI (za + zb) ((zb + zc) + zd)) (own_mI ((za + ze) + zf) (zd + ze)))))]))
  refine own_back ?_ (fun t k => XS.istore X17.here hx rfl (hb hby at_235) rfl (l' := #[.val (.int pA), .val (.int pB), .val (.int pC), .val (.int pD), .val (.int (own_I za)), .val (.int (own_I zb)), .val (.int (own_I zc)), .val (.int (own_I zd)), .val (.int (own_I ze)), .val (.int (own_I zf)), .val (.int (own_I zx)), .val (.int (own_I zk)), .val (.int (own_I m0)), .val (.int (own_I m1)), .val (.int (own_I m2)), .val (.int (own_I m3)), .val (.ref b5), .val (.int (own_I (za + zb))), .val (.int (own_I ((zb + zc) + zd))), .val (.int (own_I ((za + ze) + zf))), .val (.int (own_I (zd + ze))), .val (.int (own_I (own_mI (own_mI (za + zb) ((zb + zc) + zd)) (own_mI ((za + ze) + zf) (zd + ze))))), .unset, .unset, .unset, .unset, .unset, .unset]) rfl k)
  show own_Go p e below PO (T17.setTop (mkF m 237 #[.val (.int pA), .val (.int pB), .val (.int pC), .val (.int pD), .val (.int (own_I za)), .val (.int (own_I zb)), .val (.int (own_I zc)), .val (.int (own_I zd)), .val (.int (own_I ze)), .val (.int (own_I zf)), .val (.int (own_I zx)), .val (.int (own_I zk)), .val (.int (own_I m0)), .val (.int (own_I m1)), .val (.int (own_I m2)), .val (.int (own_I m3)), .val (.ref b5), .val (.int (own_I (za + zb))), .val (.int (own_I ((zb + zc) + zd))), .val (.int (own_I ((za + ze) + zf))), .val (.int (own_I (zd + ze))), .val (.int (own_I (own_mI (own_mI (za + zb) ((zb + zc) + zd)) (own_mI ((za + ze) + zf) (zd + ze))))), .unset, .unset, .unset, .unset, .unset, .unset] []))
  have hF := own_fin hG6 hpq.1 hpq.2 six hCI hLV hl3 rfl
  have J : ∀ (i1 i2 : Int32), own_os (levC m1) = i1 → own_os (levC m2) = i2 → own_Go p e below PO (T17.setTop (mkF m 279 #[.val (.int pA), .val (.int pB), .val (.int pC), .val (.int pD), .val (.int (own_I za)), .val (.int (own_I zb)), .val (.int (own_I zc)), .val (.int (own_I zd)), .val (.int (own_I ze)), .val (.int (own_I zf)), .val (.int (own_I zx)), .val (.int (own_I zk)), .val (.int (own_I m0)), .val (.int (own_I m1)), .val (.int (own_I m2)), .val (.int (own_I m3)), .val (.ref b5), .val (.int (own_I (za + zb))), .val (.int (own_I ((zb + zc) + zd))), .val (.int (own_I ((za + ze) + zf))), .val (.int (own_I (zd + ze))), .val (.int (own_I (own_mI (own_mI (za + zb) ((zb + zc) + zd)) (own_mI ((za + ze) + zf) (zd + ze))))), .val (.int i1), .val (.int i2), .unset, .unset, .unset, .unset] [])) := by
    intro i1 i2 hi1 hi2
    show own_Go p e below PO (T17.setTop (mkF m 279 #[.val (.int pA), .val (.int pB), .val (.int pC), .val (.int pD), .val (.int (own_I za)), .val (.int (own_I zb)), .val (.int (own_I zc)), .val (.int (own_I zd)), .val (.int (own_I ze)), .val (.int (own_I zf)), .val (.int (own_I zx)), .val (.int (own_I zk)), .val (.int (own_I m0)), .val (.int (own_I m1)), .val (.int (own_I m2)), .val (.int (own_I m3)), .val (.ref b5), .val (.int (own_I (za + zb))), .val (.int (own_I ((zb + zc) + zd))), .val (.int (own_I ((za + ze) + zf))), .val (.int (own_I (zd + ze))), .val (.int (own_I (own_mI (own_mI (za + zb) ((zb + zc) + zd)) (own_mI ((za + ze) + zf) (zd + ze))))), .val (.int i1), .val (.int i2), .unset, .unset, .unset, .unset] []))
    refine own_back ?_ (fun t k => XS.aload X17.here hx rfl (hb hby at_279) rfl rfl k)
    show own_Go p e below PO (T17.setTop (mkF m 281 #[.val (.int pA), .val (.int pB), .val (.int pC), .val (.int pD), .val (.int (own_I za)), .val (.int (own_I zb)), .val (.int (own_I zc)), .val (.int (own_I zd)), .val (.int (own_I ze)), .val (.int (own_I zf)), .val (.int (own_I zx)), .val (.int (own_I zk)), .val (.int (own_I m0)), .val (.int (own_I m1)), .val (.int (own_I m2)), .val (.int (own_I m3)), .val (.ref b5), .val (.int (own_I (za + zb))), .val (.int (own_I ((zb + zc) + zd))), .val (.int (own_I ((za + ze) + zf))), .val (.int (own_I (zd + ze))), .val (.int (own_I (own_mI (own_mI (za + zb) ((zb + zc) + zd)) (own_mI ((za + ze) + zf) (zd + ze))))), .val (.int i1), .val (.int i2), .unset, .unset, .unset, .unset] [(.ref b5)]))
    refine own_back ?_ (fun t k => XS.iload X17.here hx rfl (hb hby at_281) rfl k)
    show own_Go p e below PO (T17.setTop (mkF m 283 #[.val (.int pA), .val (.int pB), .val (.int pC), .val (.int pD), .val (.int (own_I za)), .val (.int (own_I zb)), .val (.int (own_I zc)), .val (.int (own_I zd)), .val (.int (own_I ze)), .val (.int (own_I zf)), .val (.int (own_I zx)), .val (.int (own_I zk)), .val (.int (own_I m0)), .val (.int (own_I m1)), .val (.int (own_I m2)), .val (.int (own_I m3)), .val (.ref b5), .val (.int (own_I (za + zb))), .val (.int (own_I ((zb + zc) + zd))), .val (.int (own_I ((za + ze) + zf))), .val (.int (own_I (zd + ze))), .val (.int (own_I (own_mI (own_mI (za + zb) ((zb + zc) + zd)) (own_mI ((za + ze) + zf) (zd + ze))))), .val (.int i1), .val (.int i2), .unset, .unset, .unset, .unset] [(.int (own_I m0)), (.ref b5)]))
    obtain ⟨cq18, kq18, q18a, q18b, q18c⟩ := isOf hZ e17 hS14.1
    obtain ⟨_, _, ⟨T18, L18, k18, n18⟩, -, X18, ⟨Lc18, hQ18, l18, y18, z18⟩, st18⟩ := X17.virtualBack hx (y := (⟨"com/example/nearbound/nearbound/graph/MinCut", "onSourceSide", "(I)Z"⟩ : MethodName)) (z := (⟨"com/example/nearbound/nearbound/graph/MinCut", "onSourceSide", "(I)Z"⟩ : MethodName)) hown (mvT hZ (hw _ (List.mem_of_getElem? (i := 77) rfl))) (mvT hZ (hw _ (List.mem_of_getElem? (i := 78) rfl))) (notFace_of_selects (args := #[]) (mvT hZ (hw _ (List.mem_of_getElem? (i := 80) rfl)))) (mvT hZ (hw _ (List.mem_of_getElem? (i := 80) rfl))) (mvT hZ (hw _ (List.mem_of_getElem? (i := 79) rfl))) (by decide) (backOf (W := 0) (rmOn l Z a0 hw [] b5 aF aN aH aR aL aA aQ aP kF kN kH kR kL kA kQ kP fst6 nxt6 hd6 rmC levC arcC queC pthC (own_I (E6 : Int)) m0 T14.heap n0 Zh14 hNE hS14 hm0 (hLV.1 m0 hm0.1 hm0.2)) hZ (hw _ (List.mem_of_getElem? (i := 81) rfl)) (hw _ (List.mem_of_getElem? (i := 6) rfl)) (by decide) (by decide)) q18a q18c (g := (mkF m 283 #[.val (.int pA), .val (.int pB), .val (.int pC), .val (.int pD), .val (.int (own_I za)), .val (.int (own_I zb)), .val (.int (own_I zc)), .val (.int (own_I zd)), .val (.int (own_I ze)), .val (.int (own_I zf)), .val (.int (own_I zx)), .val (.int (own_I zk)), .val (.int (own_I m0)), .val (.int (own_I m1)), .val (.int (own_I m2)), .val (.int (own_I m3)), .val (.ref b5), .val (.int (own_I (za + zb))), .val (.int (own_I ((zb + zc) + zd))), .val (.int (own_I ((za + ze) + zf))), .val (.int (own_I (zd + ze))), .val (.int (own_I (own_mI (own_mI (za + zb) ((zb + zc) + zd)) (own_mI ((za + ze) + zf) (zd + ze))))), .val (.int i1), .val (.int i2), .unset, .unset, .unset, .unset] [(.int (own_I m0)), (.ref b5)])) rfl (by rw [hml]; rfl) (Steps.refl _) (argsL := [(.int (own_I m0))]) (rest := []) (lenOf pd_12 rfl) rfl (by show 2 * 0 + _ ≤ _; exact Nat.le_of_eq rfl) (hb hby at_283) (fun _ _ => ⟨rfl, e17, (by decide : 9 + 0 ≤ _), (by decide : 138 + 0 ≤ _)⟩)
    dsimp only [Pt.U, Pt.locs, Pt.cells, Pt.slots] at X18 l18 y18 z18 st18 hQ18
    subst l18 y18 z18
    obtain ⟨rfl, N18q, e18⟩ := hQ18
    have N18 := Fr.app N17 N18q
    refine own_back ?_ (fun t k => st18.trans k)
    show own_Go p e below PO (T18.setTop (mkF m 286 #[.val (.int pA), .val (.int pB), .val (.int pC), .val (.int pD), .val (.int (own_I za)), .val (.int (own_I zb)), .val (.int (own_I zc)), .val (.int (own_I zd)), .val (.int (own_I ze)), .val (.int (own_I zf)), .val (.int (own_I zx)), .val (.int (own_I zk)), .val (.int (own_I m0)), .val (.int (own_I m1)), .val (.int (own_I m2)), .val (.int (own_I m3)), .val (.ref b5), .val (.int (own_I (za + zb))), .val (.int (own_I ((zb + zc) + zd))), .val (.int (own_I ((za + ze) + zf))), .val (.int (own_I (zd + ze))), .val (.int (own_I (own_mI (own_mI (za + zb) ((zb + zc) + zd)) (own_mI ((za + ze) + zf) (zd + ze))))), .val (.int i1), .val (.int i2), .unset, .unset, .unset, .unset] [(.int (own_os (levC m0)))]))
    refine own_back ?_ (fun t k => XS.istore X18.here hx rfl (hb hby at_286) rfl (l' := #[.val (.int pA), .val (.int pB), .val (.int pC), .val (.int pD), .val (.int (own_I za)), .val (.int (own_I zb)), .val (.int (own_I zc)), .val (.int (own_I zd)), .val (.int (own_I ze)), .val (.int (own_I zf)), .val (.int (own_I zx)), .val (.int (own_I zk)), .val (.int (own_I m0)), .val (.int (own_I m1)), .val (.int (own_I m2)), .val (.int (own_I m3)), .val (.ref b5), .val (.int (own_I (za + zb))), .val (.int (own_I ((zb + zc) + zd))), .val (.int (own_I ((za + ze) + zf))), .val (.int (own_I (zd + ze))), .val (.int (own_I (own_mI (own_mI (za + zb) ((zb + zc) + zd)) (own_mI ((za + ze) + zf) (zd + ze))))), .val (.int i1), .val (.int i2), .val (.int (own_os (levC m0))), .unset, .unset, .unset]) rfl k)
    show own_Go p e below PO (T18.setTop (mkF m 288 #[.val (.int pA), .val (.int pB), .val (.int pC), .val (.int pD), .val (.int (own_I za)), .val (.int (own_I zb)), .val (.int (own_I zc)), .val (.int (own_I zd)), .val (.int (own_I ze)), .val (.int (own_I zf)), .val (.int (own_I zx)), .val (.int (own_I zk)), .val (.int (own_I m0)), .val (.int (own_I m1)), .val (.int (own_I m2)), .val (.int (own_I m3)), .val (.ref b5), .val (.int (own_I (za + zb))), .val (.int (own_I ((zb + zc) + zd))), .val (.int (own_I ((za + ze) + zf))), .val (.int (own_I (zd + ze))), .val (.int (own_I (own_mI (own_mI (za + zb) ((zb + zc) + zd)) (own_mI ((za + ze) + zf) (zd + ze))))), .val (.int i1), .val (.int i2), .val (.int (own_os (levC m0))), .unset, .unset, .unset] []))
    refine own_back ?_ (fun t k => XS.aload X18.here hx rfl (hb hby at_288) rfl rfl k)
    show own_Go p e below PO (T18.setTop (mkF m 290 #[.val (.int pA), .val (.int pB), .val (.int pC), .val (.int pD), .val (.int (own_I za)), .val (.int (own_I zb)), .val (.int (own_I zc)), .val (.int (own_I zd)), .val (.int (own_I ze)), .val (.int (own_I zf)), .val (.int (own_I zx)), .val (.int (own_I zk)), .val (.int (own_I m0)), .val (.int (own_I m1)), .val (.int (own_I m2)), .val (.int (own_I m3)), .val (.ref b5), .val (.int (own_I (za + zb))), .val (.int (own_I ((zb + zc) + zd))), .val (.int (own_I ((za + ze) + zf))), .val (.int (own_I (zd + ze))), .val (.int (own_I (own_mI (own_mI (za + zb) ((zb + zc) + zd)) (own_mI ((za + ze) + zf) (zd + ze))))), .val (.int i1), .val (.int i2), .val (.int (own_os (levC m0))), .unset, .unset, .unset] [(.ref b5)]))
    refine own_back ?_ (fun t k => XS.iload X18.here hx rfl (hb hby at_290) rfl k)
    show own_Go p e below PO (T18.setTop (mkF m 292 #[.val (.int pA), .val (.int pB), .val (.int pC), .val (.int pD), .val (.int (own_I za)), .val (.int (own_I zb)), .val (.int (own_I zc)), .val (.int (own_I zd)), .val (.int (own_I ze)), .val (.int (own_I zf)), .val (.int (own_I zx)), .val (.int (own_I zk)), .val (.int (own_I m0)), .val (.int (own_I m1)), .val (.int (own_I m2)), .val (.int (own_I m3)), .val (.ref b5), .val (.int (own_I (za + zb))), .val (.int (own_I ((zb + zc) + zd))), .val (.int (own_I ((za + ze) + zf))), .val (.int (own_I (zd + ze))), .val (.int (own_I (own_mI (own_mI (za + zb) ((zb + zc) + zd)) (own_mI ((za + ze) + zf) (zd + ze))))), .val (.int i1), .val (.int i2), .val (.int (own_os (levC m0))), .unset, .unset, .unset] [(.int (own_I m1)), (.ref b5)]))
    obtain ⟨cq19, kq19, q19a, q19b, q19c⟩ := isOf hZ e18 hS14.1
    obtain ⟨_, _, ⟨T19, L19, k19, n19⟩, -, X19, ⟨Lc19, hQ19, l19, y19, z19⟩, st19⟩ := X18.virtualBack hx (y := (⟨"com/example/nearbound/nearbound/graph/MinCut", "onSourceSide", "(I)Z"⟩ : MethodName)) (z := (⟨"com/example/nearbound/nearbound/graph/MinCut", "onSourceSide", "(I)Z"⟩ : MethodName)) hown (mvT hZ (hw _ (List.mem_of_getElem? (i := 77) rfl))) (mvT hZ (hw _ (List.mem_of_getElem? (i := 78) rfl))) (notFace_of_selects (args := #[]) (mvT hZ (hw _ (List.mem_of_getElem? (i := 80) rfl)))) (mvT hZ (hw _ (List.mem_of_getElem? (i := 80) rfl))) (mvT hZ (hw _ (List.mem_of_getElem? (i := 79) rfl))) (by decide) (backOf (W := 0) (rmOn l Z a0 hw [] b5 aF aN aH aR aL aA aQ aP kF kN kH kR kL kA kQ kP fst6 nxt6 hd6 rmC levC arcC queC pthC (own_I (E6 : Int)) m1 T14.heap n0 Zh14 hNE hS14 hm1 (hLV.1 m1 hm1.1 hm1.2)) hZ (hw _ (List.mem_of_getElem? (i := 81) rfl)) (hw _ (List.mem_of_getElem? (i := 6) rfl)) (by decide) (by decide)) q19a q19c (g := (mkF m 292 #[.val (.int pA), .val (.int pB), .val (.int pC), .val (.int pD), .val (.int (own_I za)), .val (.int (own_I zb)), .val (.int (own_I zc)), .val (.int (own_I zd)), .val (.int (own_I ze)), .val (.int (own_I zf)), .val (.int (own_I zx)), .val (.int (own_I zk)), .val (.int (own_I m0)), .val (.int (own_I m1)), .val (.int (own_I m2)), .val (.int (own_I m3)), .val (.ref b5), .val (.int (own_I (za + zb))), .val (.int (own_I ((zb + zc) + zd))), .val (.int (own_I ((za + ze) + zf))), .val (.int (own_I (zd + ze))), .val (.int (own_I (own_mI (own_mI (za + zb) ((zb + zc) + zd)) (own_mI ((za + ze) + zf) (zd + ze))))), .val (.int i1), .val (.int i2), .val (.int (own_os (levC m0))), .unset, .unset, .unset] [(.int (own_I m1)), (.ref b5)])) rfl (by rw [hml]; rfl) (Steps.refl _) (argsL := [(.int (own_I m1))]) (rest := []) (lenOf pd_12 rfl) rfl (by show 2 * 0 + _ ≤ _; exact Nat.le_of_eq rfl) (hb hby at_292) (fun _ _ => ⟨rfl, e18, (by decide : 9 + 0 ≤ _), (by decide : 138 + 0 ≤ _)⟩)
    dsimp only [Pt.U, Pt.locs, Pt.cells, Pt.slots] at X19 l19 y19 z19 st19 hQ19
    subst l19 y19 z19
    obtain ⟨rfl, N19q, e19⟩ := hQ19
    have N19 := Fr.app N18 N19q
    refine own_back ?_ (fun t k => st19.trans k)
    show own_Go p e below PO (T19.setTop (mkF m 295 #[.val (.int pA), .val (.int pB), .val (.int pC), .val (.int pD), .val (.int (own_I za)), .val (.int (own_I zb)), .val (.int (own_I zc)), .val (.int (own_I zd)), .val (.int (own_I ze)), .val (.int (own_I zf)), .val (.int (own_I zx)), .val (.int (own_I zk)), .val (.int (own_I m0)), .val (.int (own_I m1)), .val (.int (own_I m2)), .val (.int (own_I m3)), .val (.ref b5), .val (.int (own_I (za + zb))), .val (.int (own_I ((zb + zc) + zd))), .val (.int (own_I ((za + ze) + zf))), .val (.int (own_I (zd + ze))), .val (.int (own_I (own_mI (own_mI (za + zb) ((zb + zc) + zd)) (own_mI ((za + ze) + zf) (zd + ze))))), .val (.int i1), .val (.int i2), .val (.int (own_os (levC m0))), .unset, .unset, .unset] [(.int (own_os (levC m1)))]))
    refine own_back ?_ (fun t k => XS.istore X19.here hx rfl (hb hby at_295) rfl (l' := #[.val (.int pA), .val (.int pB), .val (.int pC), .val (.int pD), .val (.int (own_I za)), .val (.int (own_I zb)), .val (.int (own_I zc)), .val (.int (own_I zd)), .val (.int (own_I ze)), .val (.int (own_I zf)), .val (.int (own_I zx)), .val (.int (own_I zk)), .val (.int (own_I m0)), .val (.int (own_I m1)), .val (.int (own_I m2)), .val (.int (own_I m3)), .val (.ref b5), .val (.int (own_I (za + zb))), .val (.int (own_I ((zb + zc) + zd))), .val (.int (own_I ((za + ze) + zf))), .val (.int (own_I (zd + ze))), .val (.int (own_I (own_mI (own_mI (za + zb) ((zb + zc) + zd)) (own_mI ((za + ze) + zf) (zd + ze))))), .val (.int i1), .val (.int i2), .val (.int (own_os (levC m0))), .val (.int (own_os (levC m1))), .unset, .unset]) rfl k)
    show own_Go p e below PO (T19.setTop (mkF m 297 #[.val (.int pA), .val (.int pB), .val (.int pC), .val (.int pD), .val (.int (own_I za)), .val (.int (own_I zb)), .val (.int (own_I zc)), .val (.int (own_I zd)), .val (.int (own_I ze)), .val (.int (own_I zf)), .val (.int (own_I zx)), .val (.int (own_I zk)), .val (.int (own_I m0)), .val (.int (own_I m1)), .val (.int (own_I m2)), .val (.int (own_I m3)), .val (.ref b5), .val (.int (own_I (za + zb))), .val (.int (own_I ((zb + zc) + zd))), .val (.int (own_I ((za + ze) + zf))), .val (.int (own_I (zd + ze))), .val (.int (own_I (own_mI (own_mI (za + zb) ((zb + zc) + zd)) (own_mI ((za + ze) + zf) (zd + ze))))), .val (.int i1), .val (.int i2), .val (.int (own_os (levC m0))), .val (.int (own_os (levC m1))), .unset, .unset] []))
    refine own_back ?_ (fun t k => XS.aload X19.here hx rfl (hb hby at_297) rfl rfl k)
    show own_Go p e below PO (T19.setTop (mkF m 299 #[.val (.int pA), .val (.int pB), .val (.int pC), .val (.int pD), .val (.int (own_I za)), .val (.int (own_I zb)), .val (.int (own_I zc)), .val (.int (own_I zd)), .val (.int (own_I ze)), .val (.int (own_I zf)), .val (.int (own_I zx)), .val (.int (own_I zk)), .val (.int (own_I m0)), .val (.int (own_I m1)), .val (.int (own_I m2)), .val (.int (own_I m3)), .val (.ref b5), .val (.int (own_I (za + zb))), .val (.int (own_I ((zb + zc) + zd))), .val (.int (own_I ((za + ze) + zf))), .val (.int (own_I (zd + ze))), .val (.int (own_I (own_mI (own_mI (za + zb) ((zb + zc) + zd)) (own_mI ((za + ze) + zf) (zd + ze))))), .val (.int i1), .val (.int i2), .val (.int (own_os (levC m0))), .val (.int (own_os (levC m1))), .unset, .unset] [(.ref b5)]))
    refine own_back ?_ (fun t k => XS.iload X19.here hx rfl (hb hby at_299) rfl k)
    show own_Go p e below PO (T19.setTop (mkF m 301 #[.val (.int pA), .val (.int pB), .val (.int pC), .val (.int pD), .val (.int (own_I za)), .val (.int (own_I zb)), .val (.int (own_I zc)), .val (.int (own_I zd)), .val (.int (own_I ze)), .val (.int (own_I zf)), .val (.int (own_I zx)), .val (.int (own_I zk)), .val (.int (own_I m0)), .val (.int (own_I m1)), .val (.int (own_I m2)), .val (.int (own_I m3)), .val (.ref b5), .val (.int (own_I (za + zb))), .val (.int (own_I ((zb + zc) + zd))), .val (.int (own_I ((za + ze) + zf))), .val (.int (own_I (zd + ze))), .val (.int (own_I (own_mI (own_mI (za + zb) ((zb + zc) + zd)) (own_mI ((za + ze) + zf) (zd + ze))))), .val (.int i1), .val (.int i2), .val (.int (own_os (levC m0))), .val (.int (own_os (levC m1))), .unset, .unset] [(.int (own_I m2)), (.ref b5)]))
    obtain ⟨cq20, kq20, q20a, q20b, q20c⟩ := isOf hZ e19 hS14.1
    obtain ⟨_, _, ⟨T20, L20, k20, n20⟩, -, X20, ⟨Lc20, hQ20, l20, y20, z20⟩, st20⟩ := X19.virtualBack hx (y := (⟨"com/example/nearbound/nearbound/graph/MinCut", "onSourceSide", "(I)Z"⟩ : MethodName)) (z := (⟨"com/example/nearbound/nearbound/graph/MinCut", "onSourceSide", "(I)Z"⟩ : MethodName)) hown (mvT hZ (hw _ (List.mem_of_getElem? (i := 77) rfl))) (mvT hZ (hw _ (List.mem_of_getElem? (i := 78) rfl))) (notFace_of_selects (args := #[]) (mvT hZ (hw _ (List.mem_of_getElem? (i := 80) rfl)))) (mvT hZ (hw _ (List.mem_of_getElem? (i := 80) rfl))) (mvT hZ (hw _ (List.mem_of_getElem? (i := 79) rfl))) (by decide) (backOf (W := 0) (rmOn l Z a0 hw [] b5 aF aN aH aR aL aA aQ aP kF kN kH kR kL kA kQ kP fst6 nxt6 hd6 rmC levC arcC queC pthC (own_I (E6 : Int)) m2 T14.heap n0 Zh14 hNE hS14 hm2 (hLV.1 m2 hm2.1 hm2.2)) hZ (hw _ (List.mem_of_getElem? (i := 81) rfl)) (hw _ (List.mem_of_getElem? (i := 6) rfl)) (by decide) (by decide)) q20a q20c (g := (mkF m 301 #[.val (.int pA), .val (.int pB), .val (.int pC), .val (.int pD), .val (.int (own_I za)), .val (.int (own_I zb)), .val (.int (own_I zc)), .val (.int (own_I zd)), .val (.int (own_I ze)), .val (.int (own_I zf)), .val (.int (own_I zx)), .val (.int (own_I zk)), .val (.int (own_I m0)), .val (.int (own_I m1)), .val (.int (own_I m2)), .val (.int (own_I m3)), .val (.ref b5), .val (.int (own_I (za + zb))), .val (.int (own_I ((zb + zc) + zd))), .val (.int (own_I ((za + ze) + zf))), .val (.int (own_I (zd + ze))), .val (.int (own_I (own_mI (own_mI (za + zb) ((zb + zc) + zd)) (own_mI ((za + ze) + zf) (zd + ze))))), .val (.int i1), .val (.int i2), .val (.int (own_os (levC m0))), .val (.int (own_os (levC m1))), .unset, .unset] [(.int (own_I m2)), (.ref b5)])) rfl (by rw [hml]; rfl) (Steps.refl _) (argsL := [(.int (own_I m2))]) (rest := []) (lenOf pd_12 rfl) rfl (by show 2 * 0 + _ ≤ _; exact Nat.le_of_eq rfl) (hb hby at_301) (fun _ _ => ⟨rfl, e19, (by decide : 9 + 0 ≤ _), (by decide : 138 + 0 ≤ _)⟩)
    dsimp only [Pt.U, Pt.locs, Pt.cells, Pt.slots] at X20 l20 y20 z20 st20 hQ20
    subst l20 y20 z20
    obtain ⟨rfl, N20q, e20⟩ := hQ20
    have N20 := Fr.app N19 N20q
    refine own_back ?_ (fun t k => st20.trans k)
    show own_Go p e below PO (T20.setTop (mkF m 304 #[.val (.int pA), .val (.int pB), .val (.int pC), .val (.int pD), .val (.int (own_I za)), .val (.int (own_I zb)), .val (.int (own_I zc)), .val (.int (own_I zd)), .val (.int (own_I ze)), .val (.int (own_I zf)), .val (.int (own_I zx)), .val (.int (own_I zk)), .val (.int (own_I m0)), .val (.int (own_I m1)), .val (.int (own_I m2)), .val (.int (own_I m3)), .val (.ref b5), .val (.int (own_I (za + zb))), .val (.int (own_I ((zb + zc) + zd))), .val (.int (own_I ((za + ze) + zf))), .val (.int (own_I (zd + ze))), .val (.int (own_I (own_mI (own_mI (za + zb) ((zb + zc) + zd)) (own_mI ((za + ze) + zf) (zd + ze))))), .val (.int i1), .val (.int i2), .val (.int (own_os (levC m0))), .val (.int (own_os (levC m1))), .unset, .unset] [(.int (own_os (levC m2)))]))
    refine own_back ?_ (fun t k => XS.istore X20.here hx rfl (hb hby at_304) rfl (l' := #[.val (.int pA), .val (.int pB), .val (.int pC), .val (.int pD), .val (.int (own_I za)), .val (.int (own_I zb)), .val (.int (own_I zc)), .val (.int (own_I zd)), .val (.int (own_I ze)), .val (.int (own_I zf)), .val (.int (own_I zx)), .val (.int (own_I zk)), .val (.int (own_I m0)), .val (.int (own_I m1)), .val (.int (own_I m2)), .val (.int (own_I m3)), .val (.ref b5), .val (.int (own_I (za + zb))), .val (.int (own_I ((zb + zc) + zd))), .val (.int (own_I ((za + ze) + zf))), .val (.int (own_I (zd + ze))), .val (.int (own_I (own_mI (own_mI (za + zb) ((zb + zc) + zd)) (own_mI ((za + ze) + zf) (zd + ze))))), .val (.int i1), .val (.int i2), .val (.int (own_os (levC m0))), .val (.int (own_os (levC m1))), .val (.int (own_os (levC m2))), .unset]) rfl k)
    show own_Go p e below PO (T20.setTop (mkF m 306 #[.val (.int pA), .val (.int pB), .val (.int pC), .val (.int pD), .val (.int (own_I za)), .val (.int (own_I zb)), .val (.int (own_I zc)), .val (.int (own_I zd)), .val (.int (own_I ze)), .val (.int (own_I zf)), .val (.int (own_I zx)), .val (.int (own_I zk)), .val (.int (own_I m0)), .val (.int (own_I m1)), .val (.int (own_I m2)), .val (.int (own_I m3)), .val (.ref b5), .val (.int (own_I (za + zb))), .val (.int (own_I ((zb + zc) + zd))), .val (.int (own_I ((za + ze) + zf))), .val (.int (own_I (zd + ze))), .val (.int (own_I (own_mI (own_mI (za + zb) ((zb + zc) + zd)) (own_mI ((za + ze) + zf) (zd + ze))))), .val (.int i1), .val (.int i2), .val (.int (own_os (levC m0))), .val (.int (own_os (levC m1))), .val (.int (own_os (levC m2))), .unset] []))
    refine own_back ?_ (fun t k => XS.aload X20.here hx rfl (hb hby at_306) rfl rfl k)
    show own_Go p e below PO (T20.setTop (mkF m 308 #[.val (.int pA), .val (.int pB), .val (.int pC), .val (.int pD), .val (.int (own_I za)), .val (.int (own_I zb)), .val (.int (own_I zc)), .val (.int (own_I zd)), .val (.int (own_I ze)), .val (.int (own_I zf)), .val (.int (own_I zx)), .val (.int (own_I zk)), .val (.int (own_I m0)), .val (.int (own_I m1)), .val (.int (own_I m2)), .val (.int (own_I m3)), .val (.ref b5), .val (.int (own_I (za + zb))), .val (.int (own_I ((zb + zc) + zd))), .val (.int (own_I ((za + ze) + zf))), .val (.int (own_I (zd + ze))), .val (.int (own_I (own_mI (own_mI (za + zb) ((zb + zc) + zd)) (own_mI ((za + ze) + zf) (zd + ze))))), .val (.int i1), .val (.int i2), .val (.int (own_os (levC m0))), .val (.int (own_os (levC m1))), .val (.int (own_os (levC m2))), .unset] [(.ref b5)]))
    refine own_back ?_ (fun t k => XS.iload X20.here hx rfl (hb hby at_308) rfl k)
    show own_Go p e below PO (T20.setTop (mkF m 310 #[.val (.int pA), .val (.int pB), .val (.int pC), .val (.int pD), .val (.int (own_I za)), .val (.int (own_I zb)), .val (.int (own_I zc)), .val (.int (own_I zd)), .val (.int (own_I ze)), .val (.int (own_I zf)), .val (.int (own_I zx)), .val (.int (own_I zk)), .val (.int (own_I m0)), .val (.int (own_I m1)), .val (.int (own_I m2)), .val (.int (own_I m3)), .val (.ref b5), .val (.int (own_I (za + zb))), .val (.int (own_I ((zb + zc) + zd))), .val (.int (own_I ((za + ze) + zf))), .val (.int (own_I (zd + ze))), .val (.int (own_I (own_mI (own_mI (za + zb) ((zb + zc) + zd)) (own_mI ((za + ze) + zf) (zd + ze))))), .val (.int i1), .val (.int i2), .val (.int (own_os (levC m0))), .val (.int (own_os (levC m1))), .val (.int (own_os (levC m2))), .unset] [(.int (own_I m3)), (.ref b5)]))
    obtain ⟨cq21, kq21, q21a, q21b, q21c⟩ := isOf hZ e20 hS14.1
    obtain ⟨_, _, ⟨T21, L21, k21, n21⟩, -, X21, ⟨Lc21, hQ21, l21, y21, z21⟩, st21⟩ := X20.virtualBack hx (y := (⟨"com/example/nearbound/nearbound/graph/MinCut", "onSourceSide", "(I)Z"⟩ : MethodName)) (z := (⟨"com/example/nearbound/nearbound/graph/MinCut", "onSourceSide", "(I)Z"⟩ : MethodName)) hown (mvT hZ (hw _ (List.mem_of_getElem? (i := 77) rfl))) (mvT hZ (hw _ (List.mem_of_getElem? (i := 78) rfl))) (notFace_of_selects (args := #[]) (mvT hZ (hw _ (List.mem_of_getElem? (i := 80) rfl)))) (mvT hZ (hw _ (List.mem_of_getElem? (i := 80) rfl))) (mvT hZ (hw _ (List.mem_of_getElem? (i := 79) rfl))) (by decide) (backOf (W := 0) (rmOn l Z a0 hw [] b5 aF aN aH aR aL aA aQ aP kF kN kH kR kL kA kQ kP fst6 nxt6 hd6 rmC levC arcC queC pthC (own_I (E6 : Int)) m3 T14.heap n0 Zh14 hNE hS14 hm3 (hLV.1 m3 hm3.1 hm3.2)) hZ (hw _ (List.mem_of_getElem? (i := 81) rfl)) (hw _ (List.mem_of_getElem? (i := 6) rfl)) (by decide) (by decide)) q21a q21c (g := (mkF m 310 #[.val (.int pA), .val (.int pB), .val (.int pC), .val (.int pD), .val (.int (own_I za)), .val (.int (own_I zb)), .val (.int (own_I zc)), .val (.int (own_I zd)), .val (.int (own_I ze)), .val (.int (own_I zf)), .val (.int (own_I zx)), .val (.int (own_I zk)), .val (.int (own_I m0)), .val (.int (own_I m1)), .val (.int (own_I m2)), .val (.int (own_I m3)), .val (.ref b5), .val (.int (own_I (za + zb))), .val (.int (own_I ((zb + zc) + zd))), .val (.int (own_I ((za + ze) + zf))), .val (.int (own_I (zd + ze))), .val (.int (own_I (own_mI (own_mI (za + zb) ((zb + zc) + zd)) (own_mI ((za + ze) + zf) (zd + ze))))), .val (.int i1), .val (.int i2), .val (.int (own_os (levC m0))), .val (.int (own_os (levC m1))), .val (.int (own_os (levC m2))), .unset] [(.int (own_I m3)), (.ref b5)])) rfl (by rw [hml]; rfl) (Steps.refl _) (argsL := [(.int (own_I m3))]) (rest := []) (lenOf pd_12 rfl) rfl (by show 2 * 0 + _ ≤ _; exact Nat.le_of_eq rfl) (hb hby at_310) (fun _ _ => ⟨rfl, e20, (by decide : 9 + 0 ≤ _), (by decide : 138 + 0 ≤ _)⟩)
    dsimp only [Pt.U, Pt.locs, Pt.cells, Pt.slots] at X21 l21 y21 z21 st21 hQ21
    subst l21 y21 z21
    obtain ⟨rfl, N21q, e21⟩ := hQ21
    have N21 := Fr.app N20 N21q
    refine own_back ?_ (fun t k => st21.trans k)
    show own_Go p e below PO (T21.setTop (mkF m 313 #[.val (.int pA), .val (.int pB), .val (.int pC), .val (.int pD), .val (.int (own_I za)), .val (.int (own_I zb)), .val (.int (own_I zc)), .val (.int (own_I zd)), .val (.int (own_I ze)), .val (.int (own_I zf)), .val (.int (own_I zx)), .val (.int (own_I zk)), .val (.int (own_I m0)), .val (.int (own_I m1)), .val (.int (own_I m2)), .val (.int (own_I m3)), .val (.ref b5), .val (.int (own_I (za + zb))), .val (.int (own_I ((zb + zc) + zd))), .val (.int (own_I ((za + ze) + zf))), .val (.int (own_I (zd + ze))), .val (.int (own_I (own_mI (own_mI (za + zb) ((zb + zc) + zd)) (own_mI ((za + ze) + zf) (zd + ze))))), .val (.int i1), .val (.int i2), .val (.int (own_os (levC m0))), .val (.int (own_os (levC m1))), .val (.int (own_os (levC m2))), .unset] [(.int (own_os (levC m3)))]))
    refine own_back ?_ (fun t k => XS.istore X21.here hx rfl (hb hby at_313) rfl (l' := #[.val (.int pA), .val (.int pB), .val (.int pC), .val (.int pD), .val (.int (own_I za)), .val (.int (own_I zb)), .val (.int (own_I zc)), .val (.int (own_I zd)), .val (.int (own_I ze)), .val (.int (own_I zf)), .val (.int (own_I zx)), .val (.int (own_I zk)), .val (.int (own_I m0)), .val (.int (own_I m1)), .val (.int (own_I m2)), .val (.int (own_I m3)), .val (.ref b5), .val (.int (own_I (za + zb))), .val (.int (own_I ((zb + zc) + zd))), .val (.int (own_I ((za + ze) + zf))), .val (.int (own_I (zd + ze))), .val (.int (own_I (own_mI (own_mI (za + zb) ((zb + zc) + zd)) (own_mI ((za + ze) + zf) (zd + ze))))), .val (.int i1), .val (.int i2), .val (.int (own_os (levC m0))), .val (.int (own_os (levC m1))), .val (.int (own_os (levC m2))), .val (.int (own_os (levC m3)))]) rfl k)
    show own_Go p e below PO (T21.setTop (mkF m 315 #[.val (.int pA), .val (.int pB), .val (.int pC), .val (.int pD), .val (.int (own_I za)), .val (.int (own_I zb)), .val (.int (own_I zc)), .val (.int (own_I zd)), .val (.int (own_I ze)), .val (.int (own_I zf)), .val (.int (own_I zx)), .val (.int (own_I zk)), .val (.int (own_I m0)), .val (.int (own_I m1)), .val (.int (own_I m2)), .val (.int (own_I m3)), .val (.ref b5), .val (.int (own_I (za + zb))), .val (.int (own_I ((zb + zc) + zd))), .val (.int (own_I ((za + ze) + zf))), .val (.int (own_I (zd + ze))), .val (.int (own_I (own_mI (own_mI (za + zb) ((zb + zc) + zd)) (own_mI ((za + ze) + zf) (zd + ze))))), .val (.int i1), .val (.int i2), .val (.int (own_os (levC m0))), .val (.int (own_os (levC m1))), .val (.int (own_os (levC m2))), .val (.int (own_os (levC m3)))] []))
    refine own_back ?_ (fun t k => XS.iload X21.here hx rfl (hb hby at_315) rfl k)
    show own_Go p e below PO (T21.setTop (mkF m 317 #[.val (.int pA), .val (.int pB), .val (.int pC), .val (.int pD), .val (.int (own_I za)), .val (.int (own_I zb)), .val (.int (own_I zc)), .val (.int (own_I zd)), .val (.int (own_I ze)), .val (.int (own_I zf)), .val (.int (own_I zx)), .val (.int (own_I zk)), .val (.int (own_I m0)), .val (.int (own_I m1)), .val (.int (own_I m2)), .val (.int (own_I m3)), .val (.ref b5), .val (.int (own_I (za + zb))), .val (.int (own_I ((zb + zc) + zd))), .val (.int (own_I ((za + ze) + zf))), .val (.int (own_I (zd + ze))), .val (.int (own_I (own_mI (own_mI (za + zb) ((zb + zc) + zd)) (own_mI ((za + ze) + zf) (zd + ze))))), .val (.int i1), .val (.int i2), .val (.int (own_os (levC m0))), .val (.int (own_os (levC m1))), .val (.int (own_os (levC m2))), .val (.int (own_os (levC m3)))] [(.int (own_os (levC m0)))]))
    have hd317_22 : ¬ ((own_os (levC m0)) = (0 : Int32)) := by rw [own_os1 (by have := hLV.2.1; omega)]; decide
    refine own_back ?_ (fun t k => XS.ifNo X21.here hx rfl (hb hby at_317) rfl ((if0 _ _).trans (feq hd317_22).1) k)
    show own_Go p e below PO (T21.setTop (mkF m 320 #[.val (.int pA), .val (.int pB), .val (.int pC), .val (.int pD), .val (.int (own_I za)), .val (.int (own_I zb)), .val (.int (own_I zc)), .val (.int (own_I zd)), .val (.int (own_I ze)), .val (.int (own_I zf)), .val (.int (own_I zx)), .val (.int (own_I zk)), .val (.int (own_I m0)), .val (.int (own_I m1)), .val (.int (own_I m2)), .val (.int (own_I m3)), .val (.ref b5), .val (.int (own_I (za + zb))), .val (.int (own_I ((zb + zc) + zd))), .val (.int (own_I ((za + ze) + zf))), .val (.int (own_I (zd + ze))), .val (.int (own_I (own_mI (own_mI (za + zb) ((zb + zc) + zd)) (own_mI ((za + ze) + zf) (zd + ze))))), .val (.int i1), .val (.int i2), .val (.int (own_os (levC m0))), .val (.int (own_os (levC m1))), .val (.int (own_os (levC m2))), .val (.int (own_os (levC m3)))] []))
    refine own_back ?_ (fun t k => XS.iload X21.here hx rfl (hb hby at_320) rfl k)
    show own_Go p e below PO (T21.setTop (mkF m 322 #[.val (.int pA), .val (.int pB), .val (.int pC), .val (.int pD), .val (.int (own_I za)), .val (.int (own_I zb)), .val (.int (own_I zc)), .val (.int (own_I zd)), .val (.int (own_I ze)), .val (.int (own_I zf)), .val (.int (own_I zx)), .val (.int (own_I zk)), .val (.int (own_I m0)), .val (.int (own_I m1)), .val (.int (own_I m2)), .val (.int (own_I m3)), .val (.ref b5), .val (.int (own_I (za + zb))), .val (.int (own_I ((zb + zc) + zd))), .val (.int (own_I ((za + ze) + zf))), .val (.int (own_I (zd + ze))), .val (.int (own_I (own_mI (own_mI (za + zb) ((zb + zc) + zd)) (own_mI ((za + ze) + zf) (zd + ze))))), .val (.int i1), .val (.int i2), .val (.int (own_os (levC m0))), .val (.int (own_os (levC m1))), .val (.int (own_os (levC m2))), .val (.int (own_os (levC m3)))] [(.int (own_os (levC m3)))]))
    have hd322_23 : (own_os (levC m3)) = (0 : Int32) := own_os0 hl3
    refine own_back ?_ (fun t k => XS.ifNo X21.here hx rfl (hb hby at_322) rfl ((if0 _ _).trans (teq hd322_23).2) k)
    show own_Go p e below PO (T21.setTop (mkF m 325 #[.val (.int pA), .val (.int pB), .val (.int pC), .val (.int pD), .val (.int (own_I za)), .val (.int (own_I zb)), .val (.int (own_I zc)), .val (.int (own_I zd)), .val (.int (own_I ze)), .val (.int (own_I zf)), .val (.int (own_I zx)), .val (.int (own_I zk)), .val (.int (own_I m0)), .val (.int (own_I m1)), .val (.int (own_I m2)), .val (.int (own_I m3)), .val (.ref b5), .val (.int (own_I (za + zb))), .val (.int (own_I ((zb + zc) + zd))), .val (.int (own_I ((za + ze) + zf))), .val (.int (own_I (zd + ze))), .val (.int (own_I (own_mI (own_mI (za + zb) ((zb + zc) + zd)) (own_mI ((za + ze) + zf) (zd + ze))))), .val (.int i1), .val (.int i2), .val (.int (own_os (levC m0))), .val (.int (own_os (levC m1))), .val (.int (own_os (levC m2))), .val (.int (own_os (levC m3)))] []))
    refine own_back ?_ (fun t k => XS.iload X21.here hx rfl (hb hby at_325) rfl k)
    show own_Go p e below PO (T21.setTop (mkF m 327 #[.val (.int pA), .val (.int pB), .val (.int pC), .val (.int pD), .val (.int (own_I za)), .val (.int (own_I zb)), .val (.int (own_I zc)), .val (.int (own_I zd)), .val (.int (own_I ze)), .val (.int (own_I zf)), .val (.int (own_I zx)), .val (.int (own_I zk)), .val (.int (own_I m0)), .val (.int (own_I m1)), .val (.int (own_I m2)), .val (.int (own_I m3)), .val (.ref b5), .val (.int (own_I (za + zb))), .val (.int (own_I ((zb + zc) + zd))), .val (.int (own_I ((za + ze) + zf))), .val (.int (own_I (zd + ze))), .val (.int (own_I (own_mI (own_mI (za + zb) ((zb + zc) + zd)) (own_mI ((za + ze) + zf) (zd + ze))))), .val (.int i1), .val (.int i2), .val (.int (own_os (levC m0))), .val (.int (own_os (levC m1))), .val (.int (own_os (levC m2))), .val (.int (own_os (levC m3)))] [(.int (own_os (levC m1)))]))
    refine own_back ?_ (fun t k => XS.iload X21.here hx rfl (hb hby at_327) rfl k)
    show own_Go p e below PO (T21.setTop (mkF m 329 #[.val (.int pA), .val (.int pB), .val (.int pC), .val (.int pD), .val (.int (own_I za)), .val (.int (own_I zb)), .val (.int (own_I zc)), .val (.int (own_I zd)), .val (.int (own_I ze)), .val (.int (own_I zf)), .val (.int (own_I zx)), .val (.int (own_I zk)), .val (.int (own_I m0)), .val (.int (own_I m1)), .val (.int (own_I m2)), .val (.int (own_I m3)), .val (.ref b5), .val (.int (own_I (za + zb))), .val (.int (own_I ((zb + zc) + zd))), .val (.int (own_I ((za + ze) + zf))), .val (.int (own_I (zd + ze))), .val (.int (own_I (own_mI (own_mI (za + zb) ((zb + zc) + zd)) (own_mI ((za + ze) + zf) (zd + ze))))), .val (.int i1), .val (.int i2), .val (.int (own_os (levC m0))), .val (.int (own_os (levC m1))), .val (.int (own_os (levC m2))), .val (.int (own_os (levC m3)))] [(.int i1), (.int (own_os (levC m1)))]))
    refine own_back ?_ (fun t k => XS.icmpNo X21.here hx rfl (hb hby at_329) rfl (teq hi1).2 k)
    show own_Go p e below PO (T21.setTop (mkF m 332 #[.val (.int pA), .val (.int pB), .val (.int pC), .val (.int pD), .val (.int (own_I za)), .val (.int (own_I zb)), .val (.int (own_I zc)), .val (.int (own_I zd)), .val (.int (own_I ze)), .val (.int (own_I zf)), .val (.int (own_I zx)), .val (.int (own_I zk)), .val (.int (own_I m0)), .val (.int (own_I m1)), .val (.int (own_I m2)), .val (.int (own_I m3)), .val (.ref b5), .val (.int (own_I (za + zb))), .val (.int (own_I ((zb + zc) + zd))), .val (.int (own_I ((za + ze) + zf))), .val (.int (own_I (zd + ze))), .val (.int (own_I (own_mI (own_mI (za + zb) ((zb + zc) + zd)) (own_mI ((za + ze) + zf) (zd + ze))))), .val (.int i1), .val (.int i2), .val (.int (own_os (levC m0))), .val (.int (own_os (levC m1))), .val (.int (own_os (levC m2))), .val (.int (own_os (levC m3)))] []))
    refine own_back ?_ (fun t k => XS.iload X21.here hx rfl (hb hby at_332) rfl k)
    show own_Go p e below PO (T21.setTop (mkF m 334 #[.val (.int pA), .val (.int pB), .val (.int pC), .val (.int pD), .val (.int (own_I za)), .val (.int (own_I zb)), .val (.int (own_I zc)), .val (.int (own_I zd)), .val (.int (own_I ze)), .val (.int (own_I zf)), .val (.int (own_I zx)), .val (.int (own_I zk)), .val (.int (own_I m0)), .val (.int (own_I m1)), .val (.int (own_I m2)), .val (.int (own_I m3)), .val (.ref b5), .val (.int (own_I (za + zb))), .val (.int (own_I ((zb + zc) + zd))), .val (.int (own_I ((za + ze) + zf))), .val (.int (own_I (zd + ze))), .val (.int (own_I (own_mI (own_mI (za + zb) ((zb + zc) + zd)) (own_mI ((za + ze) + zf) (zd + ze))))), .val (.int i1), .val (.int i2), .val (.int (own_os (levC m0))), .val (.int (own_os (levC m1))), .val (.int (own_os (levC m2))), .val (.int (own_os (levC m3)))] [(.int (own_os (levC m2)))]))
    refine own_back ?_ (fun t k => XS.iload X21.here hx rfl (hb hby at_334) rfl k)
    show own_Go p e below PO (T21.setTop (mkF m 336 #[.val (.int pA), .val (.int pB), .val (.int pC), .val (.int pD), .val (.int (own_I za)), .val (.int (own_I zb)), .val (.int (own_I zc)), .val (.int (own_I zd)), .val (.int (own_I ze)), .val (.int (own_I zf)), .val (.int (own_I zx)), .val (.int (own_I zk)), .val (.int (own_I m0)), .val (.int (own_I m1)), .val (.int (own_I m2)), .val (.int (own_I m3)), .val (.ref b5), .val (.int (own_I (za + zb))), .val (.int (own_I ((zb + zc) + zd))), .val (.int (own_I ((za + ze) + zf))), .val (.int (own_I (zd + ze))), .val (.int (own_I (own_mI (own_mI (za + zb) ((zb + zc) + zd)) (own_mI ((za + ze) + zf) (zd + ze))))), .val (.int i1), .val (.int i2), .val (.int (own_os (levC m0))), .val (.int (own_os (levC m1))), .val (.int (own_os (levC m2))), .val (.int (own_os (levC m3)))] [(.int i2), (.int (own_os (levC m2)))]))
    refine own_back ?_ (fun t k => XS.icmpNo X21.here hx rfl (hb hby at_336) rfl (teq hi2).2 k)
    show own_Go p e below PO (T21.setTop (mkF m 339 #[.val (.int pA), .val (.int pB), .val (.int pC), .val (.int pD), .val (.int (own_I za)), .val (.int (own_I zb)), .val (.int (own_I zc)), .val (.int (own_I zd)), .val (.int (own_I ze)), .val (.int (own_I zf)), .val (.int (own_I zx)), .val (.int (own_I zk)), .val (.int (own_I m0)), .val (.int (own_I m1)), .val (.int (own_I m2)), .val (.int (own_I m3)), .val (.ref b5), .val (.int (own_I (za + zb))), .val (.int (own_I ((zb + zc) + zd))), .val (.int (own_I ((za + ze) + zf))), .val (.int (own_I (zd + ze))), .val (.int (own_I (own_mI (own_mI (za + zb) ((zb + zc) + zd)) (own_mI ((za + ze) + zf) (zd + ze))))), .val (.int i1), .val (.int i2), .val (.int (own_os (levC m0))), .val (.int (own_os (levC m1))), .val (.int (own_os (levC m2))), .val (.int (own_os (levC m3)))] []))
    refine own_back ?_ (fun t k => XS.iconst X21.here hx rfl (hb hby at_339) k)
    show own_Go p e below PO (T21.setTop (mkF m 340 #[.val (.int pA), .val (.int pB), .val (.int pC), .val (.int pD), .val (.int (own_I za)), .val (.int (own_I zb)), .val (.int (own_I zc)), .val (.int (own_I zd)), .val (.int (own_I ze)), .val (.int (own_I zf)), .val (.int (own_I zx)), .val (.int (own_I zk)), .val (.int (own_I m0)), .val (.int (own_I m1)), .val (.int (own_I m2)), .val (.int (own_I m3)), .val (.ref b5), .val (.int (own_I (za + zb))), .val (.int (own_I ((zb + zc) + zd))), .val (.int (own_I ((za + ze) + zf))), .val (.int (own_I (zd + ze))), .val (.int (own_I (own_mI (own_mI (za + zb) ((zb + zc) + zd)) (own_mI ((za + ze) + zf) (zd + ze))))), .val (.int i1), .val (.int i2), .val (.int (own_os (levC m0))), .val (.int (own_os (levC m1))), .val (.int (own_os (levC m2))), .val (.int (own_os (levC m3)))] [(.int (1 : Int32))]))
    refine own_back ?_ (fun t k => XS.goto X21.here hx rfl (pc0 := 340) (pc' := 344) rfl (hb hby at_340) (by decide) (by decide) k)
    show own_Go p e below PO (T21.setTop (mkF m 344 #[.val (.int pA), .val (.int pB), .val (.int pC), .val (.int pD), .val (.int (own_I za)), .val (.int (own_I zb)), .val (.int (own_I zc)), .val (.int (own_I zd)), .val (.int (own_I ze)), .val (.int (own_I zf)), .val (.int (own_I zx)), .val (.int (own_I zk)), .val (.int (own_I m0)), .val (.int (own_I m1)), .val (.int (own_I m2)), .val (.int (own_I m3)), .val (.ref b5), .val (.int (own_I (za + zb))), .val (.int (own_I ((zb + zc) + zd))), .val (.int (own_I ((za + ze) + zf))), .val (.int (own_I (zd + ze))), .val (.int (own_I (own_mI (own_mI (za + zb) ((zb + zc) + zd)) (own_mI ((za + ze) + zf) (zd + ze))))), .val (.int i1), .val (.int i2), .val (.int (own_os (levC m0))), .val (.int (own_os (levC m1))), .val (.int (own_os (levC m2))), .val (.int (own_os (levC m3)))] [(.int (1 : Int32))]))
    refine own_retN X21 hx (t := .boolean) (rest := []) Bd.returns (by decide) (by simp) (hb hby at_344) e21 (Bd.notSynchronized) ?_ (by decide) (by decide)
    exact ⟨rfl, N21⟩
  show own_Go p e below PO (T17.setTop (mkF m 237 #[.val (.int pA), .val (.int pB), .val (.int pC), .val (.int pD), .val (.int (own_I za)), .val (.int (own_I zb)), .val (.int (own_I zc)), .val (.int (own_I zd)), .val (.int (own_I ze)), .val (.int (own_I zf)), .val (.int (own_I zx)), .val (.int (own_I zk)), .val (.int (own_I m0)), .val (.int (own_I m1)), .val (.int (own_I m2)), .val (.int (own_I m3)), .val (.ref b5), .val (.int (own_I (za + zb))), .val (.int (own_I ((zb + zc) + zd))), .val (.int (own_I ((za + ze) + zf))), .val (.int (own_I (zd + ze))), .val (.int (own_I (own_mI (own_mI (za + zb) ((zb + zc) + zd)) (own_mI ((za + ze) + zf) (zd + ze))))), .unset, .unset, .unset, .unset, .unset, .unset] []))
  refine own_back ?_ (fun t k => XS.iload X17.here hx rfl (hb hby at_237) rfl k)
  show own_Go p e below PO (T17.setTop (mkF m 239 #[.val (.int pA), .val (.int pB), .val (.int pC), .val (.int pD), .val (.int (own_I za)), .val (.int (own_I zb)), .val (.int (own_I zc)), .val (.int (own_I zd)), .val (.int (own_I ze)), .val (.int (own_I zf)), .val (.int (own_I zx)), .val (.int (own_I zk)), .val (.int (own_I m0)), .val (.int (own_I m1)), .val (.int (own_I m2)), .val (.int (own_I m3)), .val (.ref b5), .val (.int (own_I (za + zb))), .val (.int (own_I ((zb + zc) + zd))), .val (.int (own_I ((za + ze) + zf))), .val (.int (own_I (zd + ze))), .val (.int (own_I (own_mI (own_mI (za + zb) ((zb + zc) + zd)) (own_mI ((za + ze) + zf) (zd + ze))))), .unset, .unset, .unset, .unset, .unset, .unset] [(.int (own_I (za + zb)))]))
  refine own_back ?_ (fun t k => XS.iload X17.here hx rfl (hb hby at_239) rfl k)
  show own_Go p e below PO (T17.setTop (mkF m 241 #[.val (.int pA), .val (.int pB), .val (.int pC), .val (.int pD), .val (.int (own_I za)), .val (.int (own_I zb)), .val (.int (own_I zc)), .val (.int (own_I zd)), .val (.int (own_I ze)), .val (.int (own_I zf)), .val (.int (own_I zx)), .val (.int (own_I zk)), .val (.int (own_I m0)), .val (.int (own_I m1)), .val (.int (own_I m2)), .val (.int (own_I m3)), .val (.ref b5), .val (.int (own_I (za + zb))), .val (.int (own_I ((zb + zc) + zd))), .val (.int (own_I ((za + ze) + zf))), .val (.int (own_I (zd + ze))), .val (.int (own_I (own_mI (own_mI (za + zb) ((zb + zc) + zd)) (own_mI ((za + ze) + zf) (zd + ze))))), .unset, .unset, .unset, .unset, .unset, .unset] [(.int (own_I (own_mI (own_mI (za + zb) ((zb + zc) + zd)) (own_mI ((za + ze) + zf) (zd + ze))))), (.int (own_I (za + zb)))]))
  by_cases hc241_24 : (own_I (own_mI (own_mI (za + zb) ((zb + zc) + zd)) (own_mI ((za + ze) + zf) (zd + ze)))) < (own_I (za + zb))
  case pos =>
    refine own_back ?_ (fun t k => XS.icmpNo X17.here hx rfl (hb hby at_241) rfl (tlt hc241_24).2.2.2 k)
    show own_Go p e below PO (T17.setTop (mkF m 244 #[.val (.int pA), .val (.int pB), .val (.int pC), .val (.int pD), .val (.int (own_I za)), .val (.int (own_I zb)), .val (.int (own_I zc)), .val (.int (own_I zd)), .val (.int (own_I ze)), .val (.int (own_I zf)), .val (.int (own_I zx)), .val (.int (own_I zk)), .val (.int (own_I m0)), .val (.int (own_I m1)), .val (.int (own_I m2)), .val (.int (own_I m3)), .val (.ref b5), .val (.int (own_I (za + zb))), .val (.int (own_I ((zb + zc) + zd))), .val (.int (own_I ((za + ze) + zf))), .val (.int (own_I (zd + ze))), .val (.int (own_I (own_mI (own_mI (za + zb) ((zb + zc) + zd)) (own_mI ((za + ze) + zf) (zd + ze))))), .unset, .unset, .unset, .unset, .unset, .unset] []))
    refine own_back ?_ (fun t k => XS.iload X17.here hx rfl (hb hby at_244) rfl k)
    show own_Go p e below PO (T17.setTop (mkF m 246 #[.val (.int pA), .val (.int pB), .val (.int pC), .val (.int pD), .val (.int (own_I za)), .val (.int (own_I zb)), .val (.int (own_I zc)), .val (.int (own_I zd)), .val (.int (own_I ze)), .val (.int (own_I zf)), .val (.int (own_I zx)), .val (.int (own_I zk)), .val (.int (own_I m0)), .val (.int (own_I m1)), .val (.int (own_I m2)), .val (.int (own_I m3)), .val (.ref b5), .val (.int (own_I (za + zb))), .val (.int (own_I ((zb + zc) + zd))), .val (.int (own_I ((za + ze) + zf))), .val (.int (own_I (zd + ze))), .val (.int (own_I (own_mI (own_mI (za + zb) ((zb + zc) + zd)) (own_mI ((za + ze) + zf) (zd + ze))))), .unset, .unset, .unset, .unset, .unset, .unset] [(.int (own_I ((za + ze) + zf)))]))
    refine own_back ?_ (fun t k => XS.iload X17.here hx rfl (hb hby at_246) rfl k)
    show own_Go p e below PO (T17.setTop (mkF m 248 #[.val (.int pA), .val (.int pB), .val (.int pC), .val (.int pD), .val (.int (own_I za)), .val (.int (own_I zb)), .val (.int (own_I zc)), .val (.int (own_I zd)), .val (.int (own_I ze)), .val (.int (own_I zf)), .val (.int (own_I zx)), .val (.int (own_I zk)), .val (.int (own_I m0)), .val (.int (own_I m1)), .val (.int (own_I m2)), .val (.int (own_I m3)), .val (.ref b5), .val (.int (own_I (za + zb))), .val (.int (own_I ((zb + zc) + zd))), .val (.int (own_I ((za + ze) + zf))), .val (.int (own_I (zd + ze))), .val (.int (own_I (own_mI (own_mI (za + zb) ((zb + zc) + zd)) (own_mI ((za + ze) + zf) (zd + ze))))), .unset, .unset, .unset, .unset, .unset, .unset] [(.int (own_I (own_mI (own_mI (za + zb) ((zb + zc) + zd)) (own_mI ((za + ze) + zf) (zd + ze))))), (.int (own_I ((za + ze) + zf)))]))
    by_cases hc248_25 : (own_I (own_mI (own_mI (za + zb) ((zb + zc) + zd)) (own_mI ((za + ze) + zf) (zd + ze)))) < (own_I ((za + ze) + zf))
    case pos =>
      refine own_back ?_ (fun t k => XS.icmpNo X17.here hx rfl (hb hby at_248) rfl (tlt hc248_25).2.2.2 k)
      show own_Go p e below PO (T17.setTop (mkF m 251 #[.val (.int pA), .val (.int pB), .val (.int pC), .val (.int pD), .val (.int (own_I za)), .val (.int (own_I zb)), .val (.int (own_I zc)), .val (.int (own_I zd)), .val (.int (own_I ze)), .val (.int (own_I zf)), .val (.int (own_I zx)), .val (.int (own_I zk)), .val (.int (own_I m0)), .val (.int (own_I m1)), .val (.int (own_I m2)), .val (.int (own_I m3)), .val (.ref b5), .val (.int (own_I (za + zb))), .val (.int (own_I ((zb + zc) + zd))), .val (.int (own_I ((za + ze) + zf))), .val (.int (own_I (zd + ze))), .val (.int (own_I (own_mI (own_mI (za + zb) ((zb + zc) + zd)) (own_mI ((za + ze) + zf) (zd + ze))))), .unset, .unset, .unset, .unset, .unset, .unset] []))
      refine own_back ?_ (fun t k => XS.iconst X17.here hx rfl (hb hby at_251) k)
      show own_Go p e below PO (T17.setTop (mkF m 252 #[.val (.int pA), .val (.int pB), .val (.int pC), .val (.int pD), .val (.int (own_I za)), .val (.int (own_I zb)), .val (.int (own_I zc)), .val (.int (own_I zd)), .val (.int (own_I ze)), .val (.int (own_I zf)), .val (.int (own_I zx)), .val (.int (own_I zk)), .val (.int (own_I m0)), .val (.int (own_I m1)), .val (.int (own_I m2)), .val (.int (own_I m3)), .val (.ref b5), .val (.int (own_I (za + zb))), .val (.int (own_I ((zb + zc) + zd))), .val (.int (own_I ((za + ze) + zf))), .val (.int (own_I (zd + ze))), .val (.int (own_I (own_mI (own_mI (za + zb) ((zb + zc) + zd)) (own_mI ((za + ze) + zf) (zd + ze))))), .unset, .unset, .unset, .unset, .unset, .unset] [(.int (1 : Int32))]))
      refine own_back ?_ (fun t k => XS.goto X17.here hx rfl (pc0 := 252) (pc' := 256) rfl (hb hby at_252) (by decide) (by decide) k)
      show own_Go p e below PO (T17.setTop (mkF m 256 #[.val (.int pA), .val (.int pB), .val (.int pC), .val (.int pD), .val (.int (own_I za)), .val (.int (own_I zb)), .val (.int (own_I zc)), .val (.int (own_I zd)), .val (.int (own_I ze)), .val (.int (own_I zf)), .val (.int (own_I zx)), .val (.int (own_I zk)), .val (.int (own_I m0)), .val (.int (own_I m1)), .val (.int (own_I m2)), .val (.int (own_I m3)), .val (.ref b5), .val (.int (own_I (za + zb))), .val (.int (own_I ((zb + zc) + zd))), .val (.int (own_I ((za + ze) + zf))), .val (.int (own_I (zd + ze))), .val (.int (own_I (own_mI (own_mI (za + zb) ((zb + zc) + zd)) (own_mI ((za + ze) + zf) (zd + ze))))), .unset, .unset, .unset, .unset, .unset, .unset] [(.int (1 : Int32))]))
      refine own_back ?_ (fun t k => XS.istore X17.here hx rfl (hb hby at_256) rfl (l' := #[.val (.int pA), .val (.int pB), .val (.int pC), .val (.int pD), .val (.int (own_I za)), .val (.int (own_I zb)), .val (.int (own_I zc)), .val (.int (own_I zd)), .val (.int (own_I ze)), .val (.int (own_I zf)), .val (.int (own_I zx)), .val (.int (own_I zk)), .val (.int (own_I m0)), .val (.int (own_I m1)), .val (.int (own_I m2)), .val (.int (own_I m3)), .val (.ref b5), .val (.int (own_I (za + zb))), .val (.int (own_I ((zb + zc) + zd))), .val (.int (own_I ((za + ze) + zf))), .val (.int (own_I (zd + ze))), .val (.int (own_I (own_mI (own_mI (za + zb) ((zb + zc) + zd)) (own_mI ((za + ze) + zf) (zd + ze))))), .val (.int (1 : Int32)), .unset, .unset, .unset, .unset, .unset]) rfl k)
      show own_Go p e below PO (T17.setTop (mkF m 258 #[.val (.int pA), .val (.int pB), .val (.int pC), .val (.int pD), .val (.int (own_I za)), .val (.int (own_I zb)), .val (.int (own_I zc)), .val (.int (own_I zd)), .val (.int (own_I ze)), .val (.int (own_I zf)), .val (.int (own_I zx)), .val (.int (own_I zk)), .val (.int (own_I m0)), .val (.int (own_I m1)), .val (.int (own_I m2)), .val (.int (own_I m3)), .val (.ref b5), .val (.int (own_I (za + zb))), .val (.int (own_I ((zb + zc) + zd))), .val (.int (own_I ((za + ze) + zf))), .val (.int (own_I (zd + ze))), .val (.int (own_I (own_mI (own_mI (za + zb) ((zb + zc) + zd)) (own_mI ((za + ze) + zf) (zd + ze))))), .val (.int (1 : Int32)), .unset, .unset, .unset, .unset, .unset] []))
      refine own_back ?_ (fun t k => XS.iload X17.here hx rfl (hb hby at_258) rfl k)
      show own_Go p e below PO (T17.setTop (mkF m 260 #[.val (.int pA), .val (.int pB), .val (.int pC), .val (.int pD), .val (.int (own_I za)), .val (.int (own_I zb)), .val (.int (own_I zc)), .val (.int (own_I zd)), .val (.int (own_I ze)), .val (.int (own_I zf)), .val (.int (own_I zx)), .val (.int (own_I zk)), .val (.int (own_I m0)), .val (.int (own_I m1)), .val (.int (own_I m2)), .val (.int (own_I m3)), .val (.ref b5), .val (.int (own_I (za + zb))), .val (.int (own_I ((zb + zc) + zd))), .val (.int (own_I ((za + ze) + zf))), .val (.int (own_I (zd + ze))), .val (.int (own_I (own_mI (own_mI (za + zb) ((zb + zc) + zd)) (own_mI ((za + ze) + zf) (zd + ze))))), .val (.int (1 : Int32)), .unset, .unset, .unset, .unset, .unset] [(.int (own_I (za + zb)))]))
      refine own_back ?_ (fun t k => XS.iload X17.here hx rfl (hb hby at_260) rfl k)
      show own_Go p e below PO (T17.setTop (mkF m 262 #[.val (.int pA), .val (.int pB), .val (.int pC), .val (.int pD), .val (.int (own_I za)), .val (.int (own_I zb)), .val (.int (own_I zc)), .val (.int (own_I zd)), .val (.int (own_I ze)), .val (.int (own_I zf)), .val (.int (own_I zx)), .val (.int (own_I zk)), .val (.int (own_I m0)), .val (.int (own_I m1)), .val (.int (own_I m2)), .val (.int (own_I m3)), .val (.ref b5), .val (.int (own_I (za + zb))), .val (.int (own_I ((zb + zc) + zd))), .val (.int (own_I ((za + ze) + zf))), .val (.int (own_I (zd + ze))), .val (.int (own_I (own_mI (own_mI (za + zb) ((zb + zc) + zd)) (own_mI ((za + ze) + zf) (zd + ze))))), .val (.int (1 : Int32)), .unset, .unset, .unset, .unset, .unset] [(.int (own_I (own_mI (own_mI (za + zb) ((zb + zc) + zd)) (own_mI ((za + ze) + zf) (zd + ze))))), (.int (own_I (za + zb)))]))
      refine own_back ?_ (fun t k => XS.icmpNo X17.here hx rfl (hb hby at_262) rfl (tlt hc241_24).2.2.2 k)
      show own_Go p e below PO (T17.setTop (mkF m 265 #[.val (.int pA), .val (.int pB), .val (.int pC), .val (.int pD), .val (.int (own_I za)), .val (.int (own_I zb)), .val (.int (own_I zc)), .val (.int (own_I zd)), .val (.int (own_I ze)), .val (.int (own_I zf)), .val (.int (own_I zx)), .val (.int (own_I zk)), .val (.int (own_I m0)), .val (.int (own_I m1)), .val (.int (own_I m2)), .val (.int (own_I m3)), .val (.ref b5), .val (.int (own_I (za + zb))), .val (.int (own_I ((zb + zc) + zd))), .val (.int (own_I ((za + ze) + zf))), .val (.int (own_I (zd + ze))), .val (.int (own_I (own_mI (own_mI (za + zb) ((zb + zc) + zd)) (own_mI ((za + ze) + zf) (zd + ze))))), .val (.int (1 : Int32)), .unset, .unset, .unset, .unset, .unset] []))
      refine own_back ?_ (fun t k => XS.iload X17.here hx rfl (hb hby at_265) rfl k)
      show own_Go p e below PO (T17.setTop (mkF m 267 #[.val (.int pA), .val (.int pB), .val (.int pC), .val (.int pD), .val (.int (own_I za)), .val (.int (own_I zb)), .val (.int (own_I zc)), .val (.int (own_I zd)), .val (.int (own_I ze)), .val (.int (own_I zf)), .val (.int (own_I zx)), .val (.int (own_I zk)), .val (.int (own_I m0)), .val (.int (own_I m1)), .val (.int (own_I m2)), .val (.int (own_I m3)), .val (.ref b5), .val (.int (own_I (za + zb))), .val (.int (own_I ((zb + zc) + zd))), .val (.int (own_I ((za + ze) + zf))), .val (.int (own_I (zd + ze))), .val (.int (own_I (own_mI (own_mI (za + zb) ((zb + zc) + zd)) (own_mI ((za + ze) + zf) (zd + ze))))), .val (.int (1 : Int32)), .unset, .unset, .unset, .unset, .unset] [(.int (own_I ((zb + zc) + zd)))]))
      refine own_back ?_ (fun t k => XS.iload X17.here hx rfl (hb hby at_267) rfl k)
      show own_Go p e below PO (T17.setTop (mkF m 269 #[.val (.int pA), .val (.int pB), .val (.int pC), .val (.int pD), .val (.int (own_I za)), .val (.int (own_I zb)), .val (.int (own_I zc)), .val (.int (own_I zd)), .val (.int (own_I ze)), .val (.int (own_I zf)), .val (.int (own_I zx)), .val (.int (own_I zk)), .val (.int (own_I m0)), .val (.int (own_I m1)), .val (.int (own_I m2)), .val (.int (own_I m3)), .val (.ref b5), .val (.int (own_I (za + zb))), .val (.int (own_I ((zb + zc) + zd))), .val (.int (own_I ((za + ze) + zf))), .val (.int (own_I (zd + ze))), .val (.int (own_I (own_mI (own_mI (za + zb) ((zb + zc) + zd)) (own_mI ((za + ze) + zf) (zd + ze))))), .val (.int (1 : Int32)), .unset, .unset, .unset, .unset, .unset] [(.int (own_I (own_mI (own_mI (za + zb) ((zb + zc) + zd)) (own_mI ((za + ze) + zf) (zd + ze))))), (.int (own_I ((zb + zc) + zd)))]))
      by_cases hc269_26 : (own_I (own_mI (own_mI (za + zb) ((zb + zc) + zd)) (own_mI ((za + ze) + zf) (zd + ze)))) < (own_I ((zb + zc) + zd))
      case pos =>
        refine own_back ?_ (fun t k => XS.icmpNo X17.here hx rfl (hb hby at_269) rfl (tlt hc269_26).2.2.2 k)
        show own_Go p e below PO (T17.setTop (mkF m 272 #[.val (.int pA), .val (.int pB), .val (.int pC), .val (.int pD), .val (.int (own_I za)), .val (.int (own_I zb)), .val (.int (own_I zc)), .val (.int (own_I zd)), .val (.int (own_I ze)), .val (.int (own_I zf)), .val (.int (own_I zx)), .val (.int (own_I zk)), .val (.int (own_I m0)), .val (.int (own_I m1)), .val (.int (own_I m2)), .val (.int (own_I m3)), .val (.ref b5), .val (.int (own_I (za + zb))), .val (.int (own_I ((zb + zc) + zd))), .val (.int (own_I ((za + ze) + zf))), .val (.int (own_I (zd + ze))), .val (.int (own_I (own_mI (own_mI (za + zb) ((zb + zc) + zd)) (own_mI ((za + ze) + zf) (zd + ze))))), .val (.int (1 : Int32)), .unset, .unset, .unset, .unset, .unset] []))
        refine own_back ?_ (fun t k => XS.iconst X17.here hx rfl (hb hby at_272) k)
        show own_Go p e below PO (T17.setTop (mkF m 273 #[.val (.int pA), .val (.int pB), .val (.int pC), .val (.int pD), .val (.int (own_I za)), .val (.int (own_I zb)), .val (.int (own_I zc)), .val (.int (own_I zd)), .val (.int (own_I ze)), .val (.int (own_I zf)), .val (.int (own_I zx)), .val (.int (own_I zk)), .val (.int (own_I m0)), .val (.int (own_I m1)), .val (.int (own_I m2)), .val (.int (own_I m3)), .val (.ref b5), .val (.int (own_I (za + zb))), .val (.int (own_I ((zb + zc) + zd))), .val (.int (own_I ((za + ze) + zf))), .val (.int (own_I (zd + ze))), .val (.int (own_I (own_mI (own_mI (za + zb) ((zb + zc) + zd)) (own_mI ((za + ze) + zf) (zd + ze))))), .val (.int (1 : Int32)), .unset, .unset, .unset, .unset, .unset] [(.int (1 : Int32))]))
        refine own_back ?_ (fun t k => XS.goto X17.here hx rfl (pc0 := 273) (pc' := 277) rfl (hb hby at_273) (by decide) (by decide) k)
        show own_Go p e below PO (T17.setTop (mkF m 277 #[.val (.int pA), .val (.int pB), .val (.int pC), .val (.int pD), .val (.int (own_I za)), .val (.int (own_I zb)), .val (.int (own_I zc)), .val (.int (own_I zd)), .val (.int (own_I ze)), .val (.int (own_I zf)), .val (.int (own_I zx)), .val (.int (own_I zk)), .val (.int (own_I m0)), .val (.int (own_I m1)), .val (.int (own_I m2)), .val (.int (own_I m3)), .val (.ref b5), .val (.int (own_I (za + zb))), .val (.int (own_I ((zb + zc) + zd))), .val (.int (own_I ((za + ze) + zf))), .val (.int (own_I (zd + ze))), .val (.int (own_I (own_mI (own_mI (za + zb) ((zb + zc) + zd)) (own_mI ((za + ze) + zf) (zd + ze))))), .val (.int (1 : Int32)), .unset, .unset, .unset, .unset, .unset] [(.int (1 : Int32))]))
        refine own_back ?_ (fun t k => XS.istore X17.here hx rfl (hb hby at_277) rfl (l' := #[.val (.int pA), .val (.int pB), .val (.int pC), .val (.int pD), .val (.int (own_I za)), .val (.int (own_I zb)), .val (.int (own_I zc)), .val (.int (own_I zd)), .val (.int (own_I ze)), .val (.int (own_I zf)), .val (.int (own_I zx)), .val (.int (own_I zk)), .val (.int (own_I m0)), .val (.int (own_I m1)), .val (.int (own_I m2)), .val (.int (own_I m3)), .val (.ref b5), .val (.int (own_I (za + zb))), .val (.int (own_I ((zb + zc) + zd))), .val (.int (own_I ((za + ze) + zf))), .val (.int (own_I (zd + ze))), .val (.int (own_I (own_mI (own_mI (za + zb) ((zb + zc) + zd)) (own_mI ((za + ze) + zf) (zd + ze))))), .val (.int (1 : Int32)), .val (.int (1 : Int32)), .unset, .unset, .unset, .unset]) rfl k)
        show own_Go p e below PO (T17.setTop (mkF m 279 #[.val (.int pA), .val (.int pB), .val (.int pC), .val (.int pD), .val (.int (own_I za)), .val (.int (own_I zb)), .val (.int (own_I zc)), .val (.int (own_I zd)), .val (.int (own_I ze)), .val (.int (own_I zf)), .val (.int (own_I zx)), .val (.int (own_I zk)), .val (.int (own_I m0)), .val (.int (own_I m1)), .val (.int (own_I m2)), .val (.int (own_I m3)), .val (.ref b5), .val (.int (own_I (za + zb))), .val (.int (own_I ((zb + zc) + zd))), .val (.int (own_I ((za + ze) + zf))), .val (.int (own_I (zd + ze))), .val (.int (own_I (own_mI (own_mI (za + zb) ((zb + zc) + zd)) (own_mI ((za + ze) + zf) (zd + ze))))), .val (.int (1 : Int32)), .val (.int (1 : Int32)), .unset, .unset, .unset, .unset] []))
        exact J _ _ (own_os1 (hF.1.mpr ⟨(own_lt (by omega) (by omega)).mp hc241_24, (own_lt (by omega) (by omega)).mp hc248_25⟩)) (own_os1 (hF.2.mpr ⟨(own_lt (by omega) (by omega)).mp hc241_24, (own_lt (by omega) (by omega)).mp hc269_26⟩))
      refine own_back ?_ (fun t k => XS.icmpYes X17.here hx rfl (pc0 := 269) (pc' := 276) rfl (hb hby at_269) rfl (flt hc269_26).2.2.2 (by decide) (by decide) k)
      show own_Go p e below PO (T17.setTop (mkF m 276 #[.val (.int pA), .val (.int pB), .val (.int pC), .val (.int pD), .val (.int (own_I za)), .val (.int (own_I zb)), .val (.int (own_I zc)), .val (.int (own_I zd)), .val (.int (own_I ze)), .val (.int (own_I zf)), .val (.int (own_I zx)), .val (.int (own_I zk)), .val (.int (own_I m0)), .val (.int (own_I m1)), .val (.int (own_I m2)), .val (.int (own_I m3)), .val (.ref b5), .val (.int (own_I (za + zb))), .val (.int (own_I ((zb + zc) + zd))), .val (.int (own_I ((za + ze) + zf))), .val (.int (own_I (zd + ze))), .val (.int (own_I (own_mI (own_mI (za + zb) ((zb + zc) + zd)) (own_mI ((za + ze) + zf) (zd + ze))))), .val (.int (1 : Int32)), .unset, .unset, .unset, .unset, .unset] []))
      refine own_back ?_ (fun t k => XS.iconst X17.here hx rfl (hb hby at_276) k)
      show own_Go p e below PO (T17.setTop (mkF m 277 #[.val (.int pA), .val (.int pB), .val (.int pC), .val (.int pD), .val (.int (own_I za)), .val (.int (own_I zb)), .val (.int (own_I zc)), .val (.int (own_I zd)), .val (.int (own_I ze)), .val (.int (own_I zf)), .val (.int (own_I zx)), .val (.int (own_I zk)), .val (.int (own_I m0)), .val (.int (own_I m1)), .val (.int (own_I m2)), .val (.int (own_I m3)), .val (.ref b5), .val (.int (own_I (za + zb))), .val (.int (own_I ((zb + zc) + zd))), .val (.int (own_I ((za + ze) + zf))), .val (.int (own_I (zd + ze))), .val (.int (own_I (own_mI (own_mI (za + zb) ((zb + zc) + zd)) (own_mI ((za + ze) + zf) (zd + ze))))), .val (.int (1 : Int32)), .unset, .unset, .unset, .unset, .unset] [(.int (0 : Int32))]))
      refine own_back ?_ (fun t k => XS.istore X17.here hx rfl (hb hby at_277) rfl (l' := #[.val (.int pA), .val (.int pB), .val (.int pC), .val (.int pD), .val (.int (own_I za)), .val (.int (own_I zb)), .val (.int (own_I zc)), .val (.int (own_I zd)), .val (.int (own_I ze)), .val (.int (own_I zf)), .val (.int (own_I zx)), .val (.int (own_I zk)), .val (.int (own_I m0)), .val (.int (own_I m1)), .val (.int (own_I m2)), .val (.int (own_I m3)), .val (.ref b5), .val (.int (own_I (za + zb))), .val (.int (own_I ((zb + zc) + zd))), .val (.int (own_I ((za + ze) + zf))), .val (.int (own_I (zd + ze))), .val (.int (own_I (own_mI (own_mI (za + zb) ((zb + zc) + zd)) (own_mI ((za + ze) + zf) (zd + ze))))), .val (.int (1 : Int32)), .val (.int (0 : Int32)), .unset, .unset, .unset, .unset]) rfl k)
      show own_Go p e below PO (T17.setTop (mkF m 279 #[.val (.int pA), .val (.int pB), .val (.int pC), .val (.int pD), .val (.int (own_I za)), .val (.int (own_I zb)), .val (.int (own_I zc)), .val (.int (own_I zd)), .val (.int (own_I ze)), .val (.int (own_I zf)), .val (.int (own_I zx)), .val (.int (own_I zk)), .val (.int (own_I m0)), .val (.int (own_I m1)), .val (.int (own_I m2)), .val (.int (own_I m3)), .val (.ref b5), .val (.int (own_I (za + zb))), .val (.int (own_I ((zb + zc) + zd))), .val (.int (own_I ((za + ze) + zf))), .val (.int (own_I (zd + ze))), .val (.int (own_I (own_mI (own_mI (za + zb) ((zb + zc) + zd)) (own_mI ((za + ze) + zf) (zd + ze))))), .val (.int (1 : Int32)), .val (.int (0 : Int32)), .unset, .unset, .unset, .unset] []))
      exact J _ _ (own_os1 (hF.1.mpr ⟨(own_lt (by omega) (by omega)).mp hc241_24, (own_lt (by omega) (by omega)).mp hc248_25⟩)) (own_os0 (Int.not_le.mp (fun z => hc269_26 ((own_lt (by omega) (by omega)).mpr ((hF.2.mp z).2)))))
    refine own_back ?_ (fun t k => XS.icmpYes X17.here hx rfl (pc0 := 248) (pc' := 255) rfl (hb hby at_248) rfl (flt hc248_25).2.2.2 (by decide) (by decide) k)
    show own_Go p e below PO (T17.setTop (mkF m 255 #[.val (.int pA), .val (.int pB), .val (.int pC), .val (.int pD), .val (.int (own_I za)), .val (.int (own_I zb)), .val (.int (own_I zc)), .val (.int (own_I zd)), .val (.int (own_I ze)), .val (.int (own_I zf)), .val (.int (own_I zx)), .val (.int (own_I zk)), .val (.int (own_I m0)), .val (.int (own_I m1)), .val (.int (own_I m2)), .val (.int (own_I m3)), .val (.ref b5), .val (.int (own_I (za + zb))), .val (.int (own_I ((zb + zc) + zd))), .val (.int (own_I ((za + ze) + zf))), .val (.int (own_I (zd + ze))), .val (.int (own_I (own_mI (own_mI (za + zb) ((zb + zc) + zd)) (own_mI ((za + ze) + zf) (zd + ze))))), .unset, .unset, .unset, .unset, .unset, .unset] []))
    refine own_back ?_ (fun t k => XS.iconst X17.here hx rfl (hb hby at_255) k)
    show own_Go p e below PO (T17.setTop (mkF m 256 #[.val (.int pA), .val (.int pB), .val (.int pC), .val (.int pD), .val (.int (own_I za)), .val (.int (own_I zb)), .val (.int (own_I zc)), .val (.int (own_I zd)), .val (.int (own_I ze)), .val (.int (own_I zf)), .val (.int (own_I zx)), .val (.int (own_I zk)), .val (.int (own_I m0)), .val (.int (own_I m1)), .val (.int (own_I m2)), .val (.int (own_I m3)), .val (.ref b5), .val (.int (own_I (za + zb))), .val (.int (own_I ((zb + zc) + zd))), .val (.int (own_I ((za + ze) + zf))), .val (.int (own_I (zd + ze))), .val (.int (own_I (own_mI (own_mI (za + zb) ((zb + zc) + zd)) (own_mI ((za + ze) + zf) (zd + ze))))), .unset, .unset, .unset, .unset, .unset, .unset] [(.int (0 : Int32))]))
    refine own_back ?_ (fun t k => XS.istore X17.here hx rfl (hb hby at_256) rfl (l' := #[.val (.int pA), .val (.int pB), .val (.int pC), .val (.int pD), .val (.int (own_I za)), .val (.int (own_I zb)), .val (.int (own_I zc)), .val (.int (own_I zd)), .val (.int (own_I ze)), .val (.int (own_I zf)), .val (.int (own_I zx)), .val (.int (own_I zk)), .val (.int (own_I m0)), .val (.int (own_I m1)), .val (.int (own_I m2)), .val (.int (own_I m3)), .val (.ref b5), .val (.int (own_I (za + zb))), .val (.int (own_I ((zb + zc) + zd))), .val (.int (own_I ((za + ze) + zf))), .val (.int (own_I (zd + ze))), .val (.int (own_I (own_mI (own_mI (za + zb) ((zb + zc) + zd)) (own_mI ((za + ze) + zf) (zd + ze))))), .val (.int (0 : Int32)), .unset, .unset, .unset, .unset, .unset]) rfl k)
    show own_Go p e below PO (T17.setTop (mkF m 258 #[.val (.int pA), .val (.int pB), .val (.int pC), .val (.int pD), .val (.int (own_I za)), .val (.int (own_I zb)), .val (.int (own_I zc)), .val (.int (own_I zd)), .val (.int (own_I ze)), .val (.int (own_I zf)), .val (.int (own_I zx)), .val (.int (own_I zk)), .val (.int (own_I m0)), .val (.int (own_I m1)), .val (.int (own_I m2)), .val (.int (own_I m3)), .val (.ref b5), .val (.int (own_I (za + zb))), .val (.int (own_I ((zb + zc) + zd))), .val (.int (own_I ((za + ze) + zf))), .val (.int (own_I (zd + ze))), .val (.int (own_I (own_mI (own_mI (za + zb) ((zb + zc) + zd)) (own_mI ((za + ze) + zf) (zd + ze))))), .val (.int (0 : Int32)), .unset, .unset, .unset, .unset, .unset] []))
    refine own_back ?_ (fun t k => XS.iload X17.here hx rfl (hb hby at_258) rfl k)
    show own_Go p e below PO (T17.setTop (mkF m 260 #[.val (.int pA), .val (.int pB), .val (.int pC), .val (.int pD), .val (.int (own_I za)), .val (.int (own_I zb)), .val (.int (own_I zc)), .val (.int (own_I zd)), .val (.int (own_I ze)), .val (.int (own_I zf)), .val (.int (own_I zx)), .val (.int (own_I zk)), .val (.int (own_I m0)), .val (.int (own_I m1)), .val (.int (own_I m2)), .val (.int (own_I m3)), .val (.ref b5), .val (.int (own_I (za + zb))), .val (.int (own_I ((zb + zc) + zd))), .val (.int (own_I ((za + ze) + zf))), .val (.int (own_I (zd + ze))), .val (.int (own_I (own_mI (own_mI (za + zb) ((zb + zc) + zd)) (own_mI ((za + ze) + zf) (zd + ze))))), .val (.int (0 : Int32)), .unset, .unset, .unset, .unset, .unset] [(.int (own_I (za + zb)))]))
    refine own_back ?_ (fun t k => XS.iload X17.here hx rfl (hb hby at_260) rfl k)
    show own_Go p e below PO (T17.setTop (mkF m 262 #[.val (.int pA), .val (.int pB), .val (.int pC), .val (.int pD), .val (.int (own_I za)), .val (.int (own_I zb)), .val (.int (own_I zc)), .val (.int (own_I zd)), .val (.int (own_I ze)), .val (.int (own_I zf)), .val (.int (own_I zx)), .val (.int (own_I zk)), .val (.int (own_I m0)), .val (.int (own_I m1)), .val (.int (own_I m2)), .val (.int (own_I m3)), .val (.ref b5), .val (.int (own_I (za + zb))), .val (.int (own_I ((zb + zc) + zd))), .val (.int (own_I ((za + ze) + zf))), .val (.int (own_I (zd + ze))), .val (.int (own_I (own_mI (own_mI (za + zb) ((zb + zc) + zd)) (own_mI ((za + ze) + zf) (zd + ze))))), .val (.int (0 : Int32)), .unset, .unset, .unset, .unset, .unset] [(.int (own_I (own_mI (own_mI (za + zb) ((zb + zc) + zd)) (own_mI ((za + ze) + zf) (zd + ze))))), (.int (own_I (za + zb)))]))
    refine own_back ?_ (fun t k => XS.icmpNo X17.here hx rfl (hb hby at_262) rfl (tlt hc241_24).2.2.2 k)
    show own_Go p e below PO (T17.setTop (mkF m 265 #[.val (.int pA), .val (.int pB), .val (.int pC), .val (.int pD), .val (.int (own_I za)), .val (.int (own_I zb)), .val (.int (own_I zc)), .val (.int (own_I zd)), .val (.int (own_I ze)), .val (.int (own_I zf)), .val (.int (own_I zx)), .val (.int (own_I zk)), .val (.int (own_I m0)), .val (.int (own_I m1)), .val (.int (own_I m2)), .val (.int (own_I m3)), .val (.ref b5), .val (.int (own_I (za + zb))), .val (.int (own_I ((zb + zc) + zd))), .val (.int (own_I ((za + ze) + zf))), .val (.int (own_I (zd + ze))), .val (.int (own_I (own_mI (own_mI (za + zb) ((zb + zc) + zd)) (own_mI ((za + ze) + zf) (zd + ze))))), .val (.int (0 : Int32)), .unset, .unset, .unset, .unset, .unset] []))
    refine own_back ?_ (fun t k => XS.iload X17.here hx rfl (hb hby at_265) rfl k)
    show own_Go p e below PO (T17.setTop (mkF m 267 #[.val (.int pA), .val (.int pB), .val (.int pC), .val (.int pD), .val (.int (own_I za)), .val (.int (own_I zb)), .val (.int (own_I zc)), .val (.int (own_I zd)), .val (.int (own_I ze)), .val (.int (own_I zf)), .val (.int (own_I zx)), .val (.int (own_I zk)), .val (.int (own_I m0)), .val (.int (own_I m1)), .val (.int (own_I m2)), .val (.int (own_I m3)), .val (.ref b5), .val (.int (own_I (za + zb))), .val (.int (own_I ((zb + zc) + zd))), .val (.int (own_I ((za + ze) + zf))), .val (.int (own_I (zd + ze))), .val (.int (own_I (own_mI (own_mI (za + zb) ((zb + zc) + zd)) (own_mI ((za + ze) + zf) (zd + ze))))), .val (.int (0 : Int32)), .unset, .unset, .unset, .unset, .unset] [(.int (own_I ((zb + zc) + zd)))]))
    refine own_back ?_ (fun t k => XS.iload X17.here hx rfl (hb hby at_267) rfl k)
    show own_Go p e below PO (T17.setTop (mkF m 269 #[.val (.int pA), .val (.int pB), .val (.int pC), .val (.int pD), .val (.int (own_I za)), .val (.int (own_I zb)), .val (.int (own_I zc)), .val (.int (own_I zd)), .val (.int (own_I ze)), .val (.int (own_I zf)), .val (.int (own_I zx)), .val (.int (own_I zk)), .val (.int (own_I m0)), .val (.int (own_I m1)), .val (.int (own_I m2)), .val (.int (own_I m3)), .val (.ref b5), .val (.int (own_I (za + zb))), .val (.int (own_I ((zb + zc) + zd))), .val (.int (own_I ((za + ze) + zf))), .val (.int (own_I (zd + ze))), .val (.int (own_I (own_mI (own_mI (za + zb) ((zb + zc) + zd)) (own_mI ((za + ze) + zf) (zd + ze))))), .val (.int (0 : Int32)), .unset, .unset, .unset, .unset, .unset] [(.int (own_I (own_mI (own_mI (za + zb) ((zb + zc) + zd)) (own_mI ((za + ze) + zf) (zd + ze))))), (.int (own_I ((zb + zc) + zd)))]))
    by_cases hc269_27 : (own_I (own_mI (own_mI (za + zb) ((zb + zc) + zd)) (own_mI ((za + ze) + zf) (zd + ze)))) < (own_I ((zb + zc) + zd))
    case pos =>
      refine own_back ?_ (fun t k => XS.icmpNo X17.here hx rfl (hb hby at_269) rfl (tlt hc269_27).2.2.2 k)
      show own_Go p e below PO (T17.setTop (mkF m 272 #[.val (.int pA), .val (.int pB), .val (.int pC), .val (.int pD), .val (.int (own_I za)), .val (.int (own_I zb)), .val (.int (own_I zc)), .val (.int (own_I zd)), .val (.int (own_I ze)), .val (.int (own_I zf)), .val (.int (own_I zx)), .val (.int (own_I zk)), .val (.int (own_I m0)), .val (.int (own_I m1)), .val (.int (own_I m2)), .val (.int (own_I m3)), .val (.ref b5), .val (.int (own_I (za + zb))), .val (.int (own_I ((zb + zc) + zd))), .val (.int (own_I ((za + ze) + zf))), .val (.int (own_I (zd + ze))), .val (.int (own_I (own_mI (own_mI (za + zb) ((zb + zc) + zd)) (own_mI ((za + ze) + zf) (zd + ze))))), .val (.int (0 : Int32)), .unset, .unset, .unset, .unset, .unset] []))
      refine own_back ?_ (fun t k => XS.iconst X17.here hx rfl (hb hby at_272) k)
      show own_Go p e below PO (T17.setTop (mkF m 273 #[.val (.int pA), .val (.int pB), .val (.int pC), .val (.int pD), .val (.int (own_I za)), .val (.int (own_I zb)), .val (.int (own_I zc)), .val (.int (own_I zd)), .val (.int (own_I ze)), .val (.int (own_I zf)), .val (.int (own_I zx)), .val (.int (own_I zk)), .val (.int (own_I m0)), .val (.int (own_I m1)), .val (.int (own_I m2)), .val (.int (own_I m3)), .val (.ref b5), .val (.int (own_I (za + zb))), .val (.int (own_I ((zb + zc) + zd))), .val (.int (own_I ((za + ze) + zf))), .val (.int (own_I (zd + ze))), .val (.int (own_I (own_mI (own_mI (za + zb) ((zb + zc) + zd)) (own_mI ((za + ze) + zf) (zd + ze))))), .val (.int (0 : Int32)), .unset, .unset, .unset, .unset, .unset] [(.int (1 : Int32))]))
      refine own_back ?_ (fun t k => XS.goto X17.here hx rfl (pc0 := 273) (pc' := 277) rfl (hb hby at_273) (by decide) (by decide) k)
      show own_Go p e below PO (T17.setTop (mkF m 277 #[.val (.int pA), .val (.int pB), .val (.int pC), .val (.int pD), .val (.int (own_I za)), .val (.int (own_I zb)), .val (.int (own_I zc)), .val (.int (own_I zd)), .val (.int (own_I ze)), .val (.int (own_I zf)), .val (.int (own_I zx)), .val (.int (own_I zk)), .val (.int (own_I m0)), .val (.int (own_I m1)), .val (.int (own_I m2)), .val (.int (own_I m3)), .val (.ref b5), .val (.int (own_I (za + zb))), .val (.int (own_I ((zb + zc) + zd))), .val (.int (own_I ((za + ze) + zf))), .val (.int (own_I (zd + ze))), .val (.int (own_I (own_mI (own_mI (za + zb) ((zb + zc) + zd)) (own_mI ((za + ze) + zf) (zd + ze))))), .val (.int (0 : Int32)), .unset, .unset, .unset, .unset, .unset] [(.int (1 : Int32))]))
      refine own_back ?_ (fun t k => XS.istore X17.here hx rfl (hb hby at_277) rfl (l' := #[.val (.int pA), .val (.int pB), .val (.int pC), .val (.int pD), .val (.int (own_I za)), .val (.int (own_I zb)), .val (.int (own_I zc)), .val (.int (own_I zd)), .val (.int (own_I ze)), .val (.int (own_I zf)), .val (.int (own_I zx)), .val (.int (own_I zk)), .val (.int (own_I m0)), .val (.int (own_I m1)), .val (.int (own_I m2)), .val (.int (own_I m3)), .val (.ref b5), .val (.int (own_I (za + zb))), .val (.int (own_I ((zb + zc) + zd))), .val (.int (own_I ((za + ze) + zf))), .val (.int (own_I (zd + ze))), .val (.int (own_I (own_mI (own_mI (za + zb) ((zb + zc) + zd)) (own_mI ((za + ze) + zf) (zd + ze))))), .val (.int (0 : Int32)), .val (.int (1 : Int32)), .unset, .unset, .unset, .unset]) rfl k)
      show own_Go p e below PO (T17.setTop (mkF m 279 #[.val (.int pA), .val (.int pB), .val (.int pC), .val (.int pD), .val (.int (own_I za)), .val (.int (own_I zb)), .val (.int (own_I zc)), .val (.int (own_I zd)), .val (.int (own_I ze)), .val (.int (own_I zf)), .val (.int (own_I zx)), .val (.int (own_I zk)), .val (.int (own_I m0)), .val (.int (own_I m1)), .val (.int (own_I m2)), .val (.int (own_I m3)), .val (.ref b5), .val (.int (own_I (za + zb))), .val (.int (own_I ((zb + zc) + zd))), .val (.int (own_I ((za + ze) + zf))), .val (.int (own_I (zd + ze))), .val (.int (own_I (own_mI (own_mI (za + zb) ((zb + zc) + zd)) (own_mI ((za + ze) + zf) (zd + ze))))), .val (.int (0 : Int32)), .val (.int (1 : Int32)), .unset, .unset, .unset, .unset] []))
      exact J _ _ (own_os0 (Int.not_le.mp (fun z => hc248_25 ((own_lt (by omega) (by omega)).mpr ((hF.1.mp z).2))))) (own_os1 (hF.2.mpr ⟨(own_lt (by omega) (by omega)).mp hc241_24, (own_lt (by omega) (by omega)).mp hc269_27⟩))
    refine own_back ?_ (fun t k => XS.icmpYes X17.here hx rfl (pc0 := 269) (pc' := 276) rfl (hb hby at_269) rfl (flt hc269_27).2.2.2 (by decide) (by decide) k)
    show own_Go p e below PO (T17.setTop (mkF m 276 #[.val (.int pA), .val (.int pB), .val (.int pC), .val (.int pD), .val (.int (own_I za)), .val (.int (own_I zb)), .val (.int (own_I zc)), .val (.int (own_I zd)), .val (.int (own_I ze)), .val (.int (own_I zf)), .val (.int (own_I zx)), .val (.int (own_I zk)), .val (.int (own_I m0)), .val (.int (own_I m1)), .val (.int (own_I m2)), .val (.int (own_I m3)), .val (.ref b5), .val (.int (own_I (za + zb))), .val (.int (own_I ((zb + zc) + zd))), .val (.int (own_I ((za + ze) + zf))), .val (.int (own_I (zd + ze))), .val (.int (own_I (own_mI (own_mI (za + zb) ((zb + zc) + zd)) (own_mI ((za + ze) + zf) (zd + ze))))), .val (.int (0 : Int32)), .unset, .unset, .unset, .unset, .unset] []))
    refine own_back ?_ (fun t k => XS.iconst X17.here hx rfl (hb hby at_276) k)
    show own_Go p e below PO (T17.setTop (mkF m 277 #[.val (.int pA), .val (.int pB), .val (.int pC), .val (.int pD), .val (.int (own_I za)), .val (.int (own_I zb)), .val (.int (own_I zc)), .val (.int (own_I zd)), .val (.int (own_I ze)), .val (.int (own_I zf)), .val (.int (own_I zx)), .val (.int (own_I zk)), .val (.int (own_I m0)), .val (.int (own_I m1)), .val (.int (own_I m2)), .val (.int (own_I m3)), .val (.ref b5), .val (.int (own_I (za + zb))), .val (.int (own_I ((zb + zc) + zd))), .val (.int (own_I ((za + ze) + zf))), .val (.int (own_I (zd + ze))), .val (.int (own_I (own_mI (own_mI (za + zb) ((zb + zc) + zd)) (own_mI ((za + ze) + zf) (zd + ze))))), .val (.int (0 : Int32)), .unset, .unset, .unset, .unset, .unset] [(.int (0 : Int32))]))
    refine own_back ?_ (fun t k => XS.istore X17.here hx rfl (hb hby at_277) rfl (l' := #[.val (.int pA), .val (.int pB), .val (.int pC), .val (.int pD), .val (.int (own_I za)), .val (.int (own_I zb)), .val (.int (own_I zc)), .val (.int (own_I zd)), .val (.int (own_I ze)), .val (.int (own_I zf)), .val (.int (own_I zx)), .val (.int (own_I zk)), .val (.int (own_I m0)), .val (.int (own_I m1)), .val (.int (own_I m2)), .val (.int (own_I m3)), .val (.ref b5), .val (.int (own_I (za + zb))), .val (.int (own_I ((zb + zc) + zd))), .val (.int (own_I ((za + ze) + zf))), .val (.int (own_I (zd + ze))), .val (.int (own_I (own_mI (own_mI (za + zb) ((zb + zc) + zd)) (own_mI ((za + ze) + zf) (zd + ze))))), .val (.int (0 : Int32)), .val (.int (0 : Int32)), .unset, .unset, .unset, .unset]) rfl k)
    show own_Go p e below PO (T17.setTop (mkF m 279 #[.val (.int pA), .val (.int pB), .val (.int pC), .val (.int pD), .val (.int (own_I za)), .val (.int (own_I zb)), .val (.int (own_I zc)), .val (.int (own_I zd)), .val (.int (own_I ze)), .val (.int (own_I zf)), .val (.int (own_I zx)), .val (.int (own_I zk)), .val (.int (own_I m0)), .val (.int (own_I m1)), .val (.int (own_I m2)), .val (.int (own_I m3)), .val (.ref b5), .val (.int (own_I (za + zb))), .val (.int (own_I ((zb + zc) + zd))), .val (.int (own_I ((za + ze) + zf))), .val (.int (own_I (zd + ze))), .val (.int (own_I (own_mI (own_mI (za + zb) ((zb + zc) + zd)) (own_mI ((za + ze) + zf) (zd + ze))))), .val (.int (0 : Int32)), .val (.int (0 : Int32)), .unset, .unset, .unset, .unset] []))
    exact J _ _ (own_os0 (Int.not_le.mp (fun z => hc248_25 ((own_lt (by omega) (by omega)).mpr ((hF.1.mp z).2))))) (own_os0 (Int.not_le.mp (fun z => hc269_27 ((own_lt (by omega) (by omega)).mpr ((hF.2.mp z).2)))))
  refine own_back ?_ (fun t k => XS.icmpYes X17.here hx rfl (pc0 := 241) (pc' := 255) rfl (hb hby at_241) rfl (flt hc241_24).2.2.2 (by decide) (by decide) k)
  show own_Go p e below PO (T17.setTop (mkF m 255 #[.val (.int pA), .val (.int pB), .val (.int pC), .val (.int pD), .val (.int (own_I za)), .val (.int (own_I zb)), .val (.int (own_I zc)), .val (.int (own_I zd)), .val (.int (own_I ze)), .val (.int (own_I zf)), .val (.int (own_I zx)), .val (.int (own_I zk)), .val (.int (own_I m0)), .val (.int (own_I m1)), .val (.int (own_I m2)), .val (.int (own_I m3)), .val (.ref b5), .val (.int (own_I (za + zb))), .val (.int (own_I ((zb + zc) + zd))), .val (.int (own_I ((za + ze) + zf))), .val (.int (own_I (zd + ze))), .val (.int (own_I (own_mI (own_mI (za + zb) ((zb + zc) + zd)) (own_mI ((za + ze) + zf) (zd + ze))))), .unset, .unset, .unset, .unset, .unset, .unset] []))
  refine own_back ?_ (fun t k => XS.iconst X17.here hx rfl (hb hby at_255) k)
  show own_Go p e below PO (T17.setTop (mkF m 256 #[.val (.int pA), .val (.int pB), .val (.int pC), .val (.int pD), .val (.int (own_I za)), .val (.int (own_I zb)), .val (.int (own_I zc)), .val (.int (own_I zd)), .val (.int (own_I ze)), .val (.int (own_I zf)), .val (.int (own_I zx)), .val (.int (own_I zk)), .val (.int (own_I m0)), .val (.int (own_I m1)), .val (.int (own_I m2)), .val (.int (own_I m3)), .val (.ref b5), .val (.int (own_I (za + zb))), .val (.int (own_I ((zb + zc) + zd))), .val (.int (own_I ((za + ze) + zf))), .val (.int (own_I (zd + ze))), .val (.int (own_I (own_mI (own_mI (za + zb) ((zb + zc) + zd)) (own_mI ((za + ze) + zf) (zd + ze))))), .unset, .unset, .unset, .unset, .unset, .unset] [(.int (0 : Int32))]))
  refine own_back ?_ (fun t k => XS.istore X17.here hx rfl (hb hby at_256) rfl (l' := #[.val (.int pA), .val (.int pB), .val (.int pC), .val (.int pD), .val (.int (own_I za)), .val (.int (own_I zb)), .val (.int (own_I zc)), .val (.int (own_I zd)), .val (.int (own_I ze)), .val (.int (own_I zf)), .val (.int (own_I zx)), .val (.int (own_I zk)), .val (.int (own_I m0)), .val (.int (own_I m1)), .val (.int (own_I m2)), .val (.int (own_I m3)), .val (.ref b5), .val (.int (own_I (za + zb))), .val (.int (own_I ((zb + zc) + zd))), .val (.int (own_I ((za + ze) + zf))), .val (.int (own_I (zd + ze))), .val (.int (own_I (own_mI (own_mI (za + zb) ((zb + zc) + zd)) (own_mI ((za + ze) + zf) (zd + ze))))), .val (.int (0 : Int32)), .unset, .unset, .unset, .unset, .unset]) rfl k)
  show own_Go p e below PO (T17.setTop (mkF m 258 #[.val (.int pA), .val (.int pB), .val (.int pC), .val (.int pD), .val (.int (own_I za)), .val (.int (own_I zb)), .val (.int (own_I zc)), .val (.int (own_I zd)), .val (.int (own_I ze)), .val (.int (own_I zf)), .val (.int (own_I zx)), .val (.int (own_I zk)), .val (.int (own_I m0)), .val (.int (own_I m1)), .val (.int (own_I m2)), .val (.int (own_I m3)), .val (.ref b5), .val (.int (own_I (za + zb))), .val (.int (own_I ((zb + zc) + zd))), .val (.int (own_I ((za + ze) + zf))), .val (.int (own_I (zd + ze))), .val (.int (own_I (own_mI (own_mI (za + zb) ((zb + zc) + zd)) (own_mI ((za + ze) + zf) (zd + ze))))), .val (.int (0 : Int32)), .unset, .unset, .unset, .unset, .unset] []))
  refine own_back ?_ (fun t k => XS.iload X17.here hx rfl (hb hby at_258) rfl k)
  show own_Go p e below PO (T17.setTop (mkF m 260 #[.val (.int pA), .val (.int pB), .val (.int pC), .val (.int pD), .val (.int (own_I za)), .val (.int (own_I zb)), .val (.int (own_I zc)), .val (.int (own_I zd)), .val (.int (own_I ze)), .val (.int (own_I zf)), .val (.int (own_I zx)), .val (.int (own_I zk)), .val (.int (own_I m0)), .val (.int (own_I m1)), .val (.int (own_I m2)), .val (.int (own_I m3)), .val (.ref b5), .val (.int (own_I (za + zb))), .val (.int (own_I ((zb + zc) + zd))), .val (.int (own_I ((za + ze) + zf))), .val (.int (own_I (zd + ze))), .val (.int (own_I (own_mI (own_mI (za + zb) ((zb + zc) + zd)) (own_mI ((za + ze) + zf) (zd + ze))))), .val (.int (0 : Int32)), .unset, .unset, .unset, .unset, .unset] [(.int (own_I (za + zb)))]))
  refine own_back ?_ (fun t k => XS.iload X17.here hx rfl (hb hby at_260) rfl k)
  show own_Go p e below PO (T17.setTop (mkF m 262 #[.val (.int pA), .val (.int pB), .val (.int pC), .val (.int pD), .val (.int (own_I za)), .val (.int (own_I zb)), .val (.int (own_I zc)), .val (.int (own_I zd)), .val (.int (own_I ze)), .val (.int (own_I zf)), .val (.int (own_I zx)), .val (.int (own_I zk)), .val (.int (own_I m0)), .val (.int (own_I m1)), .val (.int (own_I m2)), .val (.int (own_I m3)), .val (.ref b5), .val (.int (own_I (za + zb))), .val (.int (own_I ((zb + zc) + zd))), .val (.int (own_I ((za + ze) + zf))), .val (.int (own_I (zd + ze))), .val (.int (own_I (own_mI (own_mI (za + zb) ((zb + zc) + zd)) (own_mI ((za + ze) + zf) (zd + ze))))), .val (.int (0 : Int32)), .unset, .unset, .unset, .unset, .unset] [(.int (own_I (own_mI (own_mI (za + zb) ((zb + zc) + zd)) (own_mI ((za + ze) + zf) (zd + ze))))), (.int (own_I (za + zb)))]))
  refine own_back ?_ (fun t k => XS.icmpYes X17.here hx rfl (pc0 := 262) (pc' := 276) rfl (hb hby at_262) rfl (flt hc241_24).2.2.2 (by decide) (by decide) k)
  show own_Go p e below PO (T17.setTop (mkF m 276 #[.val (.int pA), .val (.int pB), .val (.int pC), .val (.int pD), .val (.int (own_I za)), .val (.int (own_I zb)), .val (.int (own_I zc)), .val (.int (own_I zd)), .val (.int (own_I ze)), .val (.int (own_I zf)), .val (.int (own_I zx)), .val (.int (own_I zk)), .val (.int (own_I m0)), .val (.int (own_I m1)), .val (.int (own_I m2)), .val (.int (own_I m3)), .val (.ref b5), .val (.int (own_I (za + zb))), .val (.int (own_I ((zb + zc) + zd))), .val (.int (own_I ((za + ze) + zf))), .val (.int (own_I (zd + ze))), .val (.int (own_I (own_mI (own_mI (za + zb) ((zb + zc) + zd)) (own_mI ((za + ze) + zf) (zd + ze))))), .val (.int (0 : Int32)), .unset, .unset, .unset, .unset, .unset] []))
  refine own_back ?_ (fun t k => XS.iconst X17.here hx rfl (hb hby at_276) k)
  show own_Go p e below PO (T17.setTop (mkF m 277 #[.val (.int pA), .val (.int pB), .val (.int pC), .val (.int pD), .val (.int (own_I za)), .val (.int (own_I zb)), .val (.int (own_I zc)), .val (.int (own_I zd)), .val (.int (own_I ze)), .val (.int (own_I zf)), .val (.int (own_I zx)), .val (.int (own_I zk)), .val (.int (own_I m0)), .val (.int (own_I m1)), .val (.int (own_I m2)), .val (.int (own_I m3)), .val (.ref b5), .val (.int (own_I (za + zb))), .val (.int (own_I ((zb + zc) + zd))), .val (.int (own_I ((za + ze) + zf))), .val (.int (own_I (zd + ze))), .val (.int (own_I (own_mI (own_mI (za + zb) ((zb + zc) + zd)) (own_mI ((za + ze) + zf) (zd + ze))))), .val (.int (0 : Int32)), .unset, .unset, .unset, .unset, .unset] [(.int (0 : Int32))]))
  refine own_back ?_ (fun t k => XS.istore X17.here hx rfl (hb hby at_277) rfl (l' := #[.val (.int pA), .val (.int pB), .val (.int pC), .val (.int pD), .val (.int (own_I za)), .val (.int (own_I zb)), .val (.int (own_I zc)), .val (.int (own_I zd)), .val (.int (own_I ze)), .val (.int (own_I zf)), .val (.int (own_I zx)), .val (.int (own_I zk)), .val (.int (own_I m0)), .val (.int (own_I m1)), .val (.int (own_I m2)), .val (.int (own_I m3)), .val (.ref b5), .val (.int (own_I (za + zb))), .val (.int (own_I ((zb + zc) + zd))), .val (.int (own_I ((za + ze) + zf))), .val (.int (own_I (zd + ze))), .val (.int (own_I (own_mI (own_mI (za + zb) ((zb + zc) + zd)) (own_mI ((za + ze) + zf) (zd + ze))))), .val (.int (0 : Int32)), .val (.int (0 : Int32)), .unset, .unset, .unset, .unset]) rfl k)
  show own_Go p e below PO (T17.setTop (mkF m 279 #[.val (.int pA), .val (.int pB), .val (.int pC), .val (.int pD), .val (.int (own_I za)), .val (.int (own_I zb)), .val (.int (own_I zc)), .val (.int (own_I zd)), .val (.int (own_I ze)), .val (.int (own_I zf)), .val (.int (own_I zx)), .val (.int (own_I zk)), .val (.int (own_I m0)), .val (.int (own_I m1)), .val (.int (own_I m2)), .val (.int (own_I m3)), .val (.ref b5), .val (.int (own_I (za + zb))), .val (.int (own_I ((zb + zc) + zd))), .val (.int (own_I ((za + ze) + zf))), .val (.int (own_I (zd + ze))), .val (.int (own_I (own_mI (own_mI (za + zb) ((zb + zc) + zd)) (own_mI ((za + ze) + zf) (zd + ze))))), .val (.int (0 : Int32)), .val (.int (0 : Int32)), .unset, .unset, .unset, .unset] []))
  exact J _ _ (own_os0 (Int.not_le.mp (fun z => hc241_24 ((own_lt (by omega) (by omega)).mpr ((hF.1.mp z).1))))) (own_os0 (Int.not_le.mp (fun z => hc241_24 ((own_lt (by omega) (by omega)).mpr ((hF.2.mp z).1)))))
set_option maxRecDepth 65536 in
set_option maxHeartbeats 40000000 in
theorem comes_1 {Post : Tables → Env → Array Value → State → Outcome → State → Prop} (hpost : ∀ tb e args s v u, (limb_1_1.after args s (.returned v) u = true ∧ limb_1_2.after args s (.returned v) u = true ∧ True) → FrameEnd s (.returned v) u (Jvm.fieldLocs frame_1_writes args s ++ Jvm.arrayLocs frame_1_arrays args s ++ Jvm.staticLocs frame_1_statics s) 32 384 → Post tb e args s (.returned v) u) :
    ArmFor flags0 classFile x code maxLocals ret World_1 tables_1 room_1 Calls_1 rest_1 Pre_1 Post := by
  intro l hfl _ _ p e ha hc hk s m args below hf hA hF happ hP
  obtain ⟨hcalls, hrest, hpre⟩ := hP
  obtain ⟨-, -, -, hnamed, -, -, -, hat⟩ := (Spec.applies_iff hf).mp happ
  obtain ⟨hg, hn⟩ := and_e (Cond.before_iff.mp (show (Jvm.Cond.and given_1 narrow_1).before args s = true from hpre))
  obtain ⟨gc, g0⟩ := and_e hg
  obtain ⟨ga0, g1⟩ := and_e g0
  obtain ⟨ga1, g2⟩ := and_e g1
  obtain ⟨ga2, g3⟩ := and_e g2
  obtain ⟨w0, w1, w2, w3, rfl⟩ : ∃ w0 w1 w2 w3 : Value, args = #[w0, w1, w2, w3] := by
    have hs : args.size = 4 := by simpa [Cond.value, given_1] using gc
    obtain ⟨L⟩ := args
    match L, hs with
    | [w0, w1, w2, w3], _ => exact ⟨w0, w1, w2, w3, rfl⟩
  have hw := fun d (hd : d ∈ tables_1) => atoms_spec (ws := Jvm.Cond.code x code maxLocals ret :: tables_1) hat d (List.mem_cons_of_mem _ hd)
  obtain ⟨i0, ei0⟩ := is_v ga0
  obtain rfl : w0 = (.int i0) := Option.some.inj ei0
  obtain ⟨i1, ei1⟩ := is_v ga1
  obtain rfl : w1 = (.int i1) := Option.some.inj ei1
  obtain ⟨i2, ei2⟩ := is_v ga2
  obtain rfl : w2 = (.int i2) := Option.some.inj ei2
  obtain ⟨i3, ei3⟩ := is_v g3
  obtain rfl : w3 = (.int i3) := Option.some.inj ei3
  obtain ⟨n, o, h1, h2, h3, _, L, rfl, ⟨rfl, N⟩, hq⟩ := rm0 l s _ hw tables_1 i0 i1 i2 i3  s.heap s.heap.size (Nat.le_refl _)  p e ha hc hk s m _ below hf ((Spec.applies_iff_loose hf).mp happ).1 ⟨rfl, State.Warmed39.refl s, rfl⟩ trivial
  refine ⟨n, _, h1, h2, h3, hpost _ _ _ _ _ _ ⟨Cond.after_iff.mpr rfl, Cond.after_iff.mpr (eq_i res_at (Term.int_eval (1)) rfl), trivial⟩ ⟨hq.1, hq.2.1, (hq.2.2.sift fun y hy => Or.inr (N y hy)).mono (by decide) (by decide)⟩⟩
theorem main_1_1 : Claimed_1_1 := comes_1 fun _ _ _ _ _ _ h hF => ⟨h.1, hF⟩
theorem main_1_2 : Claimed_1_2 := comes_1 fun _ _ _ _ _ _ h hF => ⟨h.2.1, hF⟩
end Jvm.Pilot.@@N@@
namespace Jvm.Pilot.@@N@@
open Jvm Jvm.ClassFile Sem Op Lib Jvm.Free Jvm.Stand Jvm.Pilot.@@N@@.Jvm.D
/-! MADE BY PROGRAM (witnessworld.py) out of the Statement's table words and the real class files: 12 classes; the members and pool entries that the words name. The judged class is class 1, her method 1. -/
namespace start1
open Jvm.ClassFile
def u (s : String) : CpInfo := .utf8 (stringToUtf16 s)
/-- a pool by its gaps: so many unusable entries, then the entry; so many at the end -/
def gap : Nat → List CpInfo → List CpInfo
  | 0, r => r
  | n + 1, r => .unusable :: gap n r
def poolList (es : List (Nat × CpInfo)) (last : Nat) : List CpInfo := es.foldr (fun e r => gap e.1 (e.2 :: r)) (gap last [])
def pool (es : List (Nat × CpInfo)) (last : Nat) : Array CpInfo := ⟨poolList es last⟩
def fileOf (pool : Array CpInfo) (this : Nat) (attrs : Array Attribute := #[]) (ms : Array MethodInfo := #[]) (fl : Nat := 33) (sup : Nat := 0) (ifs : Array Nat := #[]) (fds : Array FieldInfo := #[]) : ClassFile where
  minorVersion := 0
  majorVersion := 65
  constantPool := pool
  accessFlags := fl
  thisClass := this
  superClass := sup
  interfaces := ifs
  fields := fds
  methods := ms
  attributes := attrs
def plain (name : String) (sup : Option ClassId) : Class where
  name := name
  kind := .ordinary
  loader := none
  accessFlags := 33
  super := sup
  interfaces := #[]
  cf := none
  fields := #[]
  methods := #[]
  instanceTypes := #[]
  staticTypes := #[]
  resolved := #[]
  callSites := []
  init := .initialized
  statics := none
  mirror := none

def pool0 : Array CpInfo := pool [(5, u "<init>"), (0, u "()V"), (1, .class_ 10), (1, u "java/lang/Object")] 113

def k0c0 : Code := { maxStack := 0, maxLocals := 1, code := object_method_1_code, exceptionTable := #[], attributes := #[] }
def k0m0 : Method := { name := "<init>", desc := "()V", sig := { parameters := [], returnType := none }, accessFlags := 1, code := some k0c0 }
/-- java/lang/Object -/
def k0 : Class := { plain "java/lang/Object" none with
  accessFlags := 33
  interfaces := #[]
  cf := some (fileOf pool0 8 #[] #[{ accessFlags := 1, nameIndex := 5, descriptorIndex := 6, attributes := #[] }] 33 0 #[] #[])
  fields := #[]
  methods := #[k0m0]
  instanceTypes := #[]
  staticTypes := #[]
  resolved := Array.replicate 124 none
  statics := none }

def pool1 : Array CpInfo := pool [(2, .class_ 4), (0, .nameAndType 5 6), (0, u "java/lang/Object"), (0, u "<init>"), (0, u "()V"), (0, .methodref 8 9), (0, .class_ 10), (0, .nameAndType 11 12), (0, u "com/example/nearbound/nearbound/graph/MinCutOnSourceSidePinLaw"), (0, u "map"), (0, u "(III)I"), (0, .class_ 14), (0, u "com/example/nearbound/nearbound/graph/MinCut"), (0, .methodref 13 3), (0, .methodref 13 17), (0, .nameAndType 18 19), (0, u "reset"), (0, u "(I)V"), (0, .methodref 8 21), (0, .nameAndType 22 23), (0, u "edge"), (0, u "(Lcom/example/nearbound/nearbound/graph/MinCut;III)V"), (0, .methodref 13 25), (0, .nameAndType 26 27), (0, u "cut"), (0, u "(II)V"), (0, .methodref 29 30), (0, .class_ 31), (0, .nameAndType 32 33), (0, u "java/lang/Math"), (0, u "min"), (0, u "(II)I"), (0, .methodref 13 35), (0, .nameAndType 36 37), (0, u "onSourceSide"), (0, u "(I)Z"), (0, .methodref 13 39), (0, .nameAndType 40 41), (0, u "addEdge"), (0, u "(IID)V"), (2, u "law"), (0, u "(IIII)Z")] 3

def k1m0 : Method := { name := "<init>", desc := "()V", sig := { parameters := [], returnType := none }, accessFlags := 1, code := none }
def k1c1 : Code := { maxStack := 4, maxLocals := 28, code := code, exceptionTable := #[], attributes := #[] }
def k1m1 : Method := { name := "law", desc := "(IIII)Z", sig := { parameters := [.int, .int, .int, .int], returnType := some .boolean }, accessFlags := 9, code := some k1c1 }
def k1c2 : Code := { maxStack := 2, maxLocals := 3, code := method_3_code, exceptionTable := #[], attributes := #[] }
def k1m2 : Method := { name := "map", desc := "(III)I", sig := { parameters := [.int, .int, .int], returnType := some .int }, accessFlags := 10, code := some k1c2 }
def k1c3 : Code := { maxStack := 5, maxLocals := 4, code := method_4_code, exceptionTable := #[], attributes := #[] }
def k1m3 : Method := { name := "edge", desc := "(Lcom/example/nearbound/nearbound/graph/MinCut;III)V", sig := { parameters := [(.object "com/example/nearbound/nearbound/graph/MinCut"), .int, .int, .int], returnType := none }, accessFlags := 10, code := some k1c3 }
/-- com/example/nearbound/nearbound/graph/MinCutOnSourceSidePinLaw -/
def k1 : Class := { plain "com/example/nearbound/nearbound/graph/MinCutOnSourceSidePinLaw" (some 0) with
  accessFlags := 49
  interfaces := #[]
  cf := some (fileOf pool1 8 #[] #[{ accessFlags := 1, nameIndex := 5, descriptorIndex := 6, attributes := #[] }, { accessFlags := 9, nameIndex := 44, descriptorIndex := 45, attributes := #[] }, { accessFlags := 10, nameIndex := 11, descriptorIndex := 12, attributes := #[] }, { accessFlags := 10, nameIndex := 22, descriptorIndex := 23, attributes := #[] }] 49 2 #[] #[])
  fields := #[]
  methods := #[k1m0, k1m1, k1m2, k1m3]
  instanceTypes := #[]
  staticTypes := #[]
  resolved := Array.replicate 49 none
  statics := none }

def pool2 : Array CpInfo := pool [(1, .methodref 2 3), (0, .class_ 4), (0, .nameAndType 5 6), (0, u "java/lang/Object"), (0, u "<init>"), (0, u "()V"), (0, .fieldref 8 9), (0, .class_ 10), (0, .nameAndType 11 12), (0, u "com/example/nearbound/nearbound/graph/MinCut"), (0, u "first"), (0, u "[I"), (0, .fieldref 8 14), (0, .nameAndType 15 12), (0, u "next"), (0, .fieldref 8 17), (0, .nameAndType 18 12), (0, u "head"), (0, .fieldref 8 20), (0, .nameAndType 21 22), (0, u "room"), (0, u "[D"), (0, .fieldref 8 24), (0, .nameAndType 25 12), (0, u "level"), (0, .fieldref 8 27), (0, .nameAndType 28 12), (0, u "arc"), (0, .fieldref 8 30), (0, .nameAndType 31 12), (0, u "queue"), (0, .fieldref 8 33), (0, .nameAndType 34 12), (0, u "path"), (0, .fieldref 8 36), (0, .nameAndType 37 38), (0, u "nodeCount"), (0, u "I"), (0, .fieldref 8 40), (0, .nameAndType 41 38), (0, u "edgeCount"), (0, .methodref 8 43), (0, .nameAndType 44 45), (0, u "addNode"), (0, u "()I"), (1, .class_ 49), (1, u "java/util/Arrays"), (14, .methodref 8 65), (0, .nameAndType 66 67), (0, u "link"), (0, u "(IID)V"), (0, .methodref 8 69), (0, .nameAndType 70 71), (0, u "levels"), (0, u "(II)Z"), (0, .methodref 73 74), (0, .class_ 75), (0, .nameAndType 76 77), (0, u "java/lang/System"), (0, u "arraycopy"), (0, u "(Ljava/lang/Object;ILjava/lang/Object;II)V"), (0, .methodref 8 79), (0, .nameAndType 80 71), (0, u "augment"), (0, .methodref 47 82), (0, .nameAndType 83 84), (0, u "fill"), (0, u "([IIII)V"), (2, .double 9218868437227405312), (1, .methodref 90 91), (0, .class_ 92), (0, .nameAndType 93 94), (0, u "java/lang/Math"), (0, u "min"), (0, u "(DD)D"), (2, u "reset"), (0, u "(I)V"), (1, u "addEdge"), (0, u "cut"), (0, u "(II)V"), (0, u "onSourceSide"), (0, u "(I)Z")] 17

def k2c0 : Code := { maxStack := 2, maxLocals := 1, code := prog_25_method_1_code, exceptionTable := #[], attributes := #[] }
def k2m0 : Method := { name := "<init>", desc := "()V", sig := { parameters := [], returnType := none }, accessFlags := 0, code := some k2c0 }
def k2c1 : Code := { maxStack := 2, maxLocals := 3, code := prog_25_method_2_code, exceptionTable := #[], attributes := #[] }
def k2m1 : Method := { name := "reset", desc := "(I)V", sig := { parameters := [.int], returnType := none }, accessFlags := 0, code := some k2c1 }
def k2c2 : Code := { maxStack := 4, maxLocals := 2, code := prog_25_method_3_code, exceptionTable := #[], attributes := #[] }
def k2m2 : Method := { name := "addNode", desc := "()I", sig := { parameters := [], returnType := some .int }, accessFlags := 0, code := some k2c2 }
def k2c3 : Code := { maxStack := 5, maxLocals := 6, code := prog_25_method_4_code, exceptionTable := #[], attributes := #[] }
def k2m3 : Method := { name := "addEdge", desc := "(IID)V", sig := { parameters := [.int, .int, .double], returnType := none }, accessFlags := 0, code := some k2c3 }
def k2c4 : Code := { maxStack := 6, maxLocals := 5, code := prog_25_method_5_code, exceptionTable := #[], attributes := #[] }
def k2m4 : Method := { name := "link", desc := "(IID)V", sig := { parameters := [.int, .int, .double], returnType := none }, accessFlags := 2, code := some k2c4 }
def k2c5 : Code := { maxStack := 5, maxLocals := 3, code := prog_25_method_6_code, exceptionTable := #[], attributes := #[] }
def k2m5 : Method := { name := "cut", desc := "(II)V", sig := { parameters := [.int, .int], returnType := none }, accessFlags := 0, code := some k2c5 }
def k2c6 : Code := { maxStack := 2, maxLocals := 2, code := prog_25_method_7_code, exceptionTable := #[], attributes := #[] }
def k2m6 : Method := { name := "onSourceSide", desc := "(I)Z", sig := { parameters := [.int], returnType := some .boolean }, accessFlags := 0, code := some k2c6 }
def k2c7 : Code := { maxStack := 4, maxLocals := 7, code := prog_25_method_8_code, exceptionTable := #[], attributes := #[] }
def k2m7 : Method := { name := "levels", desc := "(II)Z", sig := { parameters := [.int, .int], returnType := some .boolean }, accessFlags := 2, code := some k2c7 }
def k2c8 : Code := { maxStack := 6, maxLocals := 8, code := prog_25_method_9_code, exceptionTable := #[], attributes := #[] }
def k2m8 : Method := { name := "augment", desc := "(II)Z", sig := { parameters := [.int, .int], returnType := some .boolean }, accessFlags := 2, code := some k2c8 }
/-- com/example/nearbound/nearbound/graph/MinCut -/
def k2 : Class := { plain "com/example/nearbound/nearbound/graph/MinCut" (some 0) with
  accessFlags := 48
  interfaces := #[]
  cf := some (fileOf pool2 8 #[] #[{ accessFlags := 0, nameIndex := 5, descriptorIndex := 6, attributes := #[] }, { accessFlags := 0, nameIndex := 97, descriptorIndex := 98, attributes := #[] }, { accessFlags := 0, nameIndex := 44, descriptorIndex := 45, attributes := #[] }, { accessFlags := 0, nameIndex := 100, descriptorIndex := 67, attributes := #[] }, { accessFlags := 2, nameIndex := 66, descriptorIndex := 67, attributes := #[] }, { accessFlags := 0, nameIndex := 101, descriptorIndex := 102, attributes := #[] }, { accessFlags := 0, nameIndex := 103, descriptorIndex := 104, attributes := #[] }, { accessFlags := 2, nameIndex := 70, descriptorIndex := 71, attributes := #[] }, { accessFlags := 2, nameIndex := 80, descriptorIndex := 71, attributes := #[] }] 48 2 #[] #[{ accessFlags := 2, nameIndex := 37, descriptorIndex := 38, attributes := #[] }, { accessFlags := 2, nameIndex := 41, descriptorIndex := 38, attributes := #[] }, { accessFlags := 2, nameIndex := 11, descriptorIndex := 12, attributes := #[] }, { accessFlags := 2, nameIndex := 15, descriptorIndex := 12, attributes := #[] }, { accessFlags := 2, nameIndex := 18, descriptorIndex := 12, attributes := #[] }, { accessFlags := 2, nameIndex := 21, descriptorIndex := 22, attributes := #[] }, { accessFlags := 2, nameIndex := 25, descriptorIndex := 12, attributes := #[] }, { accessFlags := 2, nameIndex := 28, descriptorIndex := 12, attributes := #[] }, { accessFlags := 2, nameIndex := 31, descriptorIndex := 12, attributes := #[] }, { accessFlags := 2, nameIndex := 34, descriptorIndex := 12, attributes := #[] }])
  fields := #[{ name := "nodeCount", type := .int, accessFlags := 2, slot := 0, constantValue := 0 }, { name := "edgeCount", type := .int, accessFlags := 2, slot := 1, constantValue := 0 }, { name := "first", type := (.array .int), accessFlags := 2, slot := 2, constantValue := 0 }, { name := "next", type := (.array .int), accessFlags := 2, slot := 3, constantValue := 0 }, { name := "head", type := (.array .int), accessFlags := 2, slot := 4, constantValue := 0 }, { name := "room", type := (.array .double), accessFlags := 2, slot := 5, constantValue := 0 }, { name := "level", type := (.array .int), accessFlags := 2, slot := 6, constantValue := 0 }, { name := "arc", type := (.array .int), accessFlags := 2, slot := 7, constantValue := 0 }, { name := "queue", type := (.array .int), accessFlags := 2, slot := 8, constantValue := 0 }, { name := "path", type := (.array .int), accessFlags := 2, slot := 9, constantValue := 0 }]
  methods := #[k2m0, k2m1, k2m2, k2m3, k2m4, k2m5, k2m6, k2m7, k2m8]
  instanceTypes := #[.int, .int, (.array .int), (.array .int), (.array .int), (.array .double), (.array .int), (.array .int), (.array .int), (.array .int)]
  staticTypes := #[]
  resolved := Array.replicate 122 none
  statics := none }

def pool3 : Array CpInfo := pool [(2, .class_ 4), (1, u "java/lang/Object"), (0, u "<init>"), (0, u "()V"), (5, u "([IIII)V"), (0, .methodref 14 15), (0, .class_ 16), (0, .nameAndType 17 18), (0, u "java/util/Arrays"), (0, u "rangeCheck"), (0, u "(III)V"), (55, .class_ 76), (1, u "java/util/Arrays$NaturalOrder"), (36, .class_ 115), (1, u "java/util/Arrays$LegacyMergeSort"), (1, u "Z"), (257, .class_ 376), (0, u "java/util/Arrays$ArrayList"), (68, u "$assertionsDisabled"), (269, u "MIN_ARRAY_SORT_GRAN"), (0, u "I"), (2, u "INSERTIONSORT_THRESHOLD"), (120, u "fill"), (134, .class_ 976), (0, u "java/util/Arrays$ArrayItr")] 52

def k3m0 : Method := { name := "<init>", desc := "()V", sig := { parameters := [], returnType := none }, accessFlags := 2, code := none }
def k3c1 : Code := { maxStack := 4, maxLocals := 3, code := jdk_65_method_30_code, exceptionTable := #[], attributes := #[] }
def k3m1 : Method := { name := "rangeCheck", desc := "(III)V", sig := { parameters := [.int, .int, .int], returnType := none }, accessFlags := 8, code := some k3c1 }
def k3c2 : Code := { maxStack := 3, maxLocals := 5, code := jdk_65_method_104_code, exceptionTable := #[], attributes := #[] }
def k3m2 : Method := { name := "fill", desc := "([IIII)V", sig := { parameters := [(.array .int), .int, .int, .int], returnType := none }, accessFlags := 9, code := some k3c2 }
/-- java/util/Arrays -/
def k3 : Class := { plain "java/util/Arrays" (some 0) with
  accessFlags := 49
  interfaces := #[]
  cf := some (fileOf pool3 14 #[.nestMembers #[975, 375, 113, 74]] #[{ accessFlags := 2, nameIndex := 5, descriptorIndex := 6, attributes := #[] }, { accessFlags := 8, nameIndex := 17, descriptorIndex := 18, attributes := #[] }, { accessFlags := 9, nameIndex := 840, descriptorIndex := 12, attributes := #[] }] 49 2 #[] #[{ accessFlags := 26, nameIndex := 715, descriptorIndex := 716, attributes := #[] }, { accessFlags := 26, nameIndex := 719, descriptorIndex := 716, attributes := #[] }, { accessFlags := 4120, nameIndex := 445, descriptorIndex := 117, attributes := #[] }])
  fields := #[{ name := "MIN_ARRAY_SORT_GRAN", type := .int, accessFlags := 26, slot := 0, constantValue := 0 }, { name := "INSERTIONSORT_THRESHOLD", type := .int, accessFlags := 26, slot := 1, constantValue := 0 }, { name := "$assertionsDisabled", type := .boolean, accessFlags := 4120, slot := 2, constantValue := 0 }]
  methods := #[k3m0, k3m1, k3m2]
  instanceTypes := #[]
  staticTypes := #[.int, .int, .boolean]
  resolved := Array.replicate 1029 none
  statics := none }

def pool4 : Array CpInfo := pool [(1, .class_ 2), (0, u "java/lang/Math"), (1, .class_ 6), (1, u "java/lang/Object"), (0, u "<init>"), (0, u "()V"), (43, u "(DD)D"), (45, .class_ 100), (1, u "java/lang/Math$RandomNumberGeneratorHolder"), (71, u "negativeZeroFloatBits"), (0, u "J"), (2, u "negativeZeroDoubleBits"), (24, u "min"), (43, u "$assertionsDisabled"), (0, u "Z"), (88, u "(II)I"), (2, u "twoToTheDoubleScaleDown"), (0, u "D"), (4, u "twoToTheDoubleScaleUp"), (9, u "E"), (3, u "PI"), (2, u "TAU"), (2, u "DEGREES_TO_RADIANS"), (0, u "RADIANS_TO_DEGREES")] 94

def k4m0 : Method := { name := "<init>", desc := "()V", sig := { parameters := [], returnType := none }, accessFlags := 2, code := none }
def k4c1 : Code := { maxStack := 2, maxLocals := 2, code := jdk_29_method_69_code, exceptionTable := #[], attributes := #[] }
def k4m1 : Method := { name := "min", desc := "(II)I", sig := { parameters := [.int, .int], returnType := some .int }, accessFlags := 9, code := some k4c1 }
def k4c2 : Code := { maxStack := 4, maxLocals := 4, code := jdk_29_method_72_code, exceptionTable := #[], attributes := #[] }
def k4m2 : Method := { name := "min", desc := "(DD)D", sig := { parameters := [.double, .double], returnType := some .double }, accessFlags := 9, code := some k4c2 }
/-- java/lang/Math -/
def k4 : Class := { plain "java/lang/Math" (some 0) with
  accessFlags := 49
  interfaces := #[]
  cf := some (fileOf pool4 1 #[.nestMembers #[98]] #[{ accessFlags := 2, nameIndex := 7, descriptorIndex := 8, attributes := #[] }, { accessFlags := 9, nameIndex := 201, descriptorIndex := 335, attributes := #[] }, { accessFlags := 9, nameIndex := 201, descriptorIndex := 52, attributes := #[] }] 49 4 #[] #[{ accessFlags := 25, nameIndex := 354, descriptorIndex := 339, attributes := #[] }, { accessFlags := 25, nameIndex := 358, descriptorIndex := 339, attributes := #[] }, { accessFlags := 25, nameIndex := 361, descriptorIndex := 339, attributes := #[] }, { accessFlags := 26, nameIndex := 364, descriptorIndex := 339, attributes := #[] }, { accessFlags := 26, nameIndex := 365, descriptorIndex := 339, attributes := #[] }, { accessFlags := 26, nameIndex := 172, descriptorIndex := 173, attributes := #[] }, { accessFlags := 26, nameIndex := 176, descriptorIndex := 173, attributes := #[] }, { accessFlags := 8, nameIndex := 344, descriptorIndex := 339, attributes := #[] }, { accessFlags := 8, nameIndex := 338, descriptorIndex := 339, attributes := #[] }, { accessFlags := 4120, nameIndex := 245, descriptorIndex := 246, attributes := #[] }])
  fields := #[{ name := "E", type := .double, accessFlags := 25, slot := 0, constantValue := 0 }, { name := "PI", type := .double, accessFlags := 25, slot := 1, constantValue := 0 }, { name := "TAU", type := .double, accessFlags := 25, slot := 2, constantValue := 0 }, { name := "DEGREES_TO_RADIANS", type := .double, accessFlags := 26, slot := 3, constantValue := 0 }, { name := "RADIANS_TO_DEGREES", type := .double, accessFlags := 26, slot := 4, constantValue := 0 }, { name := "negativeZeroFloatBits", type := .long, accessFlags := 26, slot := 5, constantValue := 0 }, { name := "negativeZeroDoubleBits", type := .long, accessFlags := 26, slot := 6, constantValue := 0 }, { name := "twoToTheDoubleScaleUp", type := .double, accessFlags := 8, slot := 7, constantValue := 0 }, { name := "twoToTheDoubleScaleDown", type := .double, accessFlags := 8, slot := 8, constantValue := 0 }, { name := "$assertionsDisabled", type := .boolean, accessFlags := 4120, slot := 9, constantValue := 0 }]
  methods := #[k4m0, k4m1, k4m2]
  instanceTypes := #[]
  staticTypes := #[.double, .double, .double, .double, .double, .long, .long, .double, .double, .boolean]
  resolved := Array.replicate 460 none
  statics := none }

def pool5 : Array CpInfo := pool [(2, .class_ 4), (1, u "java/lang/Object"), (0, u "<init>"), (0, u "()V"), (1, .class_ 10), (1, u "java/lang/System"), (0, u "allowSecurityManager"), (0, u "I"), (16, u "cons"), (0, u "Ljava/io/Console;"), (77, .class_ 110), (1, u "java/lang/System$CallersHolder"), (43, u "initialErrStream"), (0, u "Ljava/io/PrintStream;"), (19, u "security"), (0, u "Ljava/lang/SecurityManager;"), (31, .class_ 209), (0, u "java/lang/System$1"), (7, u "props"), (0, u "Ljava/util/Properties;"), (2, u "lineSeparator"), (0, u "Ljava/lang/String;"), (96, .class_ 321), (1, u "java/lang/System$LoggerFinder"), (5, .class_ 328), (0, u "java/lang/System$Logger"), (67, u "err"), (2, u "out"), (91, u "notSupportedJnuEncoding"), (15, u "in"), (17, u "initialIn"), (0, u "Ljava/io/InputStream;"), (35, u "bootLayer"), (0, u "Ljava/lang/ModuleLayer;"), (99, .class_ 664), (0, u "java/lang/System$2"), (9, u "NEVER"), (2, u "MAYBE"), (49, u "arraycopy"), (0, u "(Ljava/lang/Object;ILjava/lang/Object;II)V"), (72, .class_ 802), (0, u "java/lang/System$Logger$Level")] 31

def k5m0 : Method := { name := "<init>", desc := "()V", sig := { parameters := [], returnType := none }, accessFlags := 2, code := none }
def k5m1 : Method := { name := "arraycopy", desc := "(Ljava/lang/Object;ILjava/lang/Object;II)V", sig := { parameters := [(.object "java/lang/Object"), .int, (.object "java/lang/Object"), .int, .int], returnType := none }, accessFlags := 265, code := none }
/-- java/lang/System -/
def k5 : Class := { plain "java/lang/System" (some 0) with
  accessFlags := 49
  interfaces := #[]
  cf := some (fileOf pool5 8 #[.nestMembers #[319, 327, 801, 108, 663, 208]] #[{ accessFlags := 2, nameIndex := 5, descriptorIndex := 6, attributes := #[] }, { accessFlags := 265, nameIndex := 727, descriptorIndex := 728, attributes := #[] }] 49 2 #[] #[{ accessFlags := 25, nameIndex := 507, descriptorIndex := 526, attributes := #[] }, { accessFlags := 25, nameIndex := 399, descriptorIndex := 155, attributes := #[] }, { accessFlags := 25, nameIndex := 396, descriptorIndex := 155, attributes := #[] }, { accessFlags := 10, nameIndex := 525, descriptorIndex := 526, attributes := #[] }, { accessFlags := 26, nameIndex := 674, descriptorIndex := 12, attributes := #[] }, { accessFlags := 26, nameIndex := 677, descriptorIndex := 12, attributes := #[] }, { accessFlags := 10, nameIndex := 11, descriptorIndex := 12, attributes := #[] }, { accessFlags := 74, nameIndex := 175, descriptorIndex := 176, attributes := #[] }, { accessFlags := 10, nameIndex := 491, descriptorIndex := 222, attributes := #[] }, { accessFlags := 74, nameIndex := 29, descriptorIndex := 30, attributes := #[] }, { accessFlags := 74, nameIndex := 154, descriptorIndex := 155, attributes := #[] }, { accessFlags := 10, nameIndex := 217, descriptorIndex := 218, attributes := #[] }, { accessFlags := 10, nameIndex := 221, descriptorIndex := 222, attributes := #[] }, { accessFlags := 8, nameIndex := 562, descriptorIndex := 563, attributes := #[] }])
  fields := #[{ name := "in", type := (.object "java/io/InputStream"), accessFlags := 25, slot := 0, constantValue := 0 }, { name := "out", type := (.object "java/io/PrintStream"), accessFlags := 25, slot := 1, constantValue := 0 }, { name := "err", type := (.object "java/io/PrintStream"), accessFlags := 25, slot := 2, constantValue := 0 }, { name := "initialIn", type := (.object "java/io/InputStream"), accessFlags := 10, slot := 3, constantValue := 0 }, { name := "NEVER", type := .int, accessFlags := 26, slot := 4, constantValue := 0 }, { name := "MAYBE", type := .int, accessFlags := 26, slot := 5, constantValue := 0 }, { name := "allowSecurityManager", type := .int, accessFlags := 10, slot := 6, constantValue := 0 }, { name := "security", type := (.object "java/lang/SecurityManager"), accessFlags := 74, slot := 7, constantValue := 0 }, { name := "notSupportedJnuEncoding", type := (.object "java/lang/String"), accessFlags := 10, slot := 8, constantValue := 0 }, { name := "cons", type := (.object "java/io/Console"), accessFlags := 74, slot := 9, constantValue := 0 }, { name := "initialErrStream", type := (.object "java/io/PrintStream"), accessFlags := 74, slot := 10, constantValue := 0 }, { name := "props", type := (.object "java/util/Properties"), accessFlags := 10, slot := 11, constantValue := 0 }, { name := "lineSeparator", type := (.object "java/lang/String"), accessFlags := 10, slot := 12, constantValue := 0 }, { name := "bootLayer", type := (.object "java/lang/ModuleLayer"), accessFlags := 8, slot := 13, constantValue := 0 }]
  methods := #[k5m0, k5m1]
  instanceTypes := #[]
  staticTypes := #[(.object "java/io/InputStream"), (.object "java/io/PrintStream"), (.object "java/io/PrintStream"), (.object "java/io/InputStream"), .int, .int, .int, (.object "java/lang/SecurityManager"), (.object "java/lang/String"), (.object "java/io/Console"), (.object "java/io/PrintStream"), (.object "java/util/Properties"), (.object "java/lang/String"), (.object "java/lang/ModuleLayer")]
  resolved := Array.replicate 834 none
  statics := none }

def pool6 : Array CpInfo := pool [(1, u "java/lang/Cloneable"), (0, .class_ 1), (0, u "java/lang/Object"), (0, .class_ 3)] 3

/-- java/lang/Cloneable -/
def k6 : Class := { plain "java/lang/Cloneable" (some 0) with
  accessFlags := 1537
  interfaces := #[]
  cf := some (fileOf pool6 2 #[] #[] 1537 4 #[] #[])
  fields := #[]
  methods := #[]
  instanceTypes := #[]
  staticTypes := #[]
  resolved := Array.replicate 8 none
  statics := none }

def pool7 : Array CpInfo := pool [(1, u "java/io/Serializable"), (0, .class_ 1), (0, u "java/lang/Object"), (0, .class_ 3)] 3

/-- java/io/Serializable -/
def k7 : Class := { plain "java/io/Serializable" (some 0) with
  accessFlags := 1537
  interfaces := #[]
  cf := some (fileOf pool7 2 #[] #[] 1537 4 #[] #[])
  fields := #[]
  methods := #[]
  instanceTypes := #[]
  staticTypes := #[]
  resolved := Array.replicate 8 none
  statics := none }

/-- the primitive byte -/
def k8 : Class := { plain "byte" none with kind := .primitive 'B', accessFlags := 0x411 }
/-- [B -/
def k9 : Class := { plain "[B" (some 0) with kind := .array 8 .byte, interfaces := #[6, 7], accessFlags := 1041 }

/-- the primitive int -/
def k10 : Class := { plain "int" none with kind := .primitive 'I', accessFlags := 0x411 }
/-- [I -/
def k11 : Class := { plain "[I" (some 0) with kind := .array 10 .int, interfaces := #[6, 7], accessFlags := 1041 }

/-- the primitive double -/
def k12 : Class := { plain "double" none with kind := .primitive 'D', accessFlags := 0x411 }
/-- [D -/
def k13 : Class := { plain "[D" (some 0) with kind := .array 12 .double, interfaces := #[6, 7], accessFlags := 1041 }
def heap : Heap := #[]
def classes : Array Class := #[k0, k1, k2, k3, k4, k5, k6, k7, k8, k9, k10, k11, k12, k13]
def interned : List (Array UInt16 × Addr) := []
def slotsUsed : Nat := 0
def theMethod : MethodId := ⟨1, 1⟩
def args0 : Array Value := #[.int 5, .int 5, .int 5, .int 5]
def aboutOver (below : List Frame) : State where
  vm := { classes := classes, interned := interned.toArray }
  heap := heap
  slotsUsed := slotsUsed
  threads := #[{ frames := .invoking theMethod args0 :: below }]
def below0 : List Frame := [.native { method := ⟨0, 0⟩, args := #[] }]
def about1 : State := aboutOver below0
def p0 : Program := .bare "" "" ""
def e0 : Env := launch0.env 0 0 0
theorem w_frames : about1.frames = Frame.invoking theMethod args0 :: below0 := rfl
set_option maxRecDepth 65536 in
theorem w_args : argsFit about1.vm theMethod args0 = true := by decide +kernel
set_option maxRecDepth 65536 in
theorem w_heap : heapFits about1 = true := by decide +kernel
set_option maxRecDepth 65536 in
theorem w_runnable : about1.curStatus? = some .runnable := by decide +kernel
set_option maxRecDepth 65536 in
theorem w_alone : about1.alone = true := by decide +kernel
set_option maxRecDepth 65536 in
theorem w_named : about1.methodNamed? x = some theMethod := by decide +kernel
set_option maxRecDepth 65536 in
theorem w_hears : about1.hears theMethod below0 = true := by decide +kernel
set_option maxRecDepth 65536 in
theorem w_ripe : about1.ripe theMethod args0 below0 = true := by decide +kernel
theorem w_running : about1.status = .running := rfl
set_option maxRecDepth 65536 in
theorem w_room : about1.hasRoom e0.platform room_1 = true :=
  launch0.hasRoom_least _ room_1 (by decide +kernel) (by decide +kernel) (by decide +kernel) (by decide +kernel) (by decide +kernel) (by decide +kernel)
theorem allAtoms_all (ts : List Jvm.Cond) (a : Array Jvm.Value) (st : Jvm.State) : (allAtoms ts).before a st = ts.all (fun c => c.before a st) := by
  induction ts with
  | nil => rfl
  | cons c t ih =>
    show (Jvm.Cond.and c (allAtoms t)).before a st = _
    rw [Jvm.Cond.before_and, ih, List.all_cons]
def words1 : List Jvm.Cond := Jvm.Cond.code x code maxLocals ret :: tables_1
/-- a 'code' word, met by the world's own term for the bytes: nothing is compared byte by byte -/
theorem code_word {y : MethodName} {bytes : ByteArray} {mx : Nat} {rt : Option FieldType} {a : Array Value} {s : State} {m : MethodId} {meth : Method} {c : Code} (h1 : s.methodNamed? y = some m) (h2 : s.vm.method? m = some meth) (h3 : meth.code = some c) (h4 : c.code = bytes)
    (h5 : (c.maxLocals == mx && c.exceptionTable.isEmpty && decide (c.maxStack ≤ mostOperands) && decide (meth.sig.returnType = rt) && !meth.locks && decide (parseMethodDescriptor y.desc = some meth.sig)) = true) : (Jvm.Cond.code y bytes mx rt).before a s = true := by
  simp only [Bool.and_eq_true, beq_iff_eq, Bool.not_eq_true', decide_eq_true_eq] at h5
  obtain ⟨⟨⟨⟨⟨g1, g2⟩, g3⟩, g4⟩, g5⟩, g6⟩ := h5
  simp [Cond.before, Cond.holds, Cond.value, h1, h2, h3, h4, g1, g2, g3, g4, g5, g6]
def isCode : Jvm.Cond → Bool
  | .code _ _ _ _ => true
  | _ => false
theorem all_split {L : List Jvm.Cond} {P : Jvm.Cond → Bool} (h1 : L.all (fun c => isCode c || P c) = true) (h2 : ∀ c ∈ L.filter isCode, P c = true) : L.all P = true := by
  refine List.all_eq_true.mpr fun c hc => ?_
  have h := List.all_eq_true.mp h1 c hc
  rcases Bool.eq_false_or_eq_true (isCode c) with hi | hi
  · exact h2 c (List.mem_filter.mpr ⟨hc, hi⟩)
  · simpa [hi] using h
set_option maxRecDepth 65536 in
theorem w_c0 : (Jvm.Cond.code x code maxLocals ret).before args0 about1 = true := code_word (m := ⟨1, 1⟩) (meth := k1m1) (c := k1c1) (by decide +kernel) rfl rfl rfl (by decide +kernel)
set_option maxRecDepth 65536 in
theorem w_c1 : (Jvm.Cond.code ({ cls := "com/example/nearbound/nearbound/graph/MinCutOnSourceSidePinLaw", name := "map", desc := "(III)I" } : Jvm.MethodName) method_3_code (3 : Nat) (Option.some Jvm.ClassFile.FieldType.int)).before args0 about1 = true := code_word (m := ⟨1, 2⟩) (meth := k1m2) (c := k1c2) (by decide +kernel) rfl rfl rfl (by decide +kernel)
set_option maxRecDepth 65536 in
theorem w_c2 : (Jvm.Cond.code ({ cls := "com/example/nearbound/nearbound/graph/MinCut", name := "<init>", desc := "()V" } : Jvm.MethodName) prog_25_method_1_code (1 : Nat) (Option.none : Option Jvm.ClassFile.FieldType)).before args0 about1 = true := code_word (m := ⟨2, 0⟩) (meth := k2m0) (c := k2c0) (by decide +kernel) rfl rfl rfl (by decide +kernel)
set_option maxRecDepth 65536 in
theorem w_c3 : (Jvm.Cond.code ({ cls := "java/lang/Object", name := "<init>", desc := "()V" } : Jvm.MethodName) object_method_1_code (1 : Nat) (Option.none : Option Jvm.ClassFile.FieldType)).before args0 about1 = true := code_word (m := ⟨0, 0⟩) (meth := k0m0) (c := k0c0) (by decide +kernel) rfl rfl rfl (by decide +kernel)
set_option maxRecDepth 65536 in
theorem w_c4 : (Jvm.Cond.code ({ cls := "com/example/nearbound/nearbound/graph/MinCut", name := "reset", desc := "(I)V" } : Jvm.MethodName) prog_25_method_2_code (3 : Nat) (Option.none : Option Jvm.ClassFile.FieldType)).before args0 about1 = true := code_word (m := ⟨2, 1⟩) (meth := k2m1) (c := k2c1) (by decide +kernel) rfl rfl rfl (by decide +kernel)
set_option maxRecDepth 65536 in
theorem w_c5 : (Jvm.Cond.code ({ cls := "com/example/nearbound/nearbound/graph/MinCut", name := "addNode", desc := "()I" } : Jvm.MethodName) prog_25_method_3_code (2 : Nat) (Option.some Jvm.ClassFile.FieldType.int)).before args0 about1 = true := code_word (m := ⟨2, 2⟩) (meth := k2m2) (c := k2c2) (by decide +kernel) rfl rfl rfl (by decide +kernel)
set_option maxRecDepth 65536 in
theorem w_c6 : (Jvm.Cond.code ({ cls := "com/example/nearbound/nearbound/graph/MinCutOnSourceSidePinLaw", name := "edge", desc := "(Lcom/example/nearbound/nearbound/graph/MinCut;III)V" } : Jvm.MethodName) method_4_code (4 : Nat) (Option.none : Option Jvm.ClassFile.FieldType)).before args0 about1 = true := code_word (m := ⟨1, 3⟩) (meth := k1m3) (c := k1c3) (by decide +kernel) rfl rfl rfl (by decide +kernel)
set_option maxRecDepth 65536 in
theorem w_c7 : (Jvm.Cond.code ({ cls := "com/example/nearbound/nearbound/graph/MinCut", name := "addEdge", desc := "(IID)V" } : Jvm.MethodName) prog_25_method_4_code (6 : Nat) (Option.none : Option Jvm.ClassFile.FieldType)).before args0 about1 = true := code_word (m := ⟨2, 3⟩) (meth := k2m3) (c := k2c3) (by decide +kernel) rfl rfl rfl (by decide +kernel)
set_option maxRecDepth 65536 in
theorem w_c8 : (Jvm.Cond.code ({ cls := "com/example/nearbound/nearbound/graph/MinCut", name := "link", desc := "(IID)V" } : Jvm.MethodName) prog_25_method_5_code (5 : Nat) (Option.none : Option Jvm.ClassFile.FieldType)).before args0 about1 = true := code_word (m := ⟨2, 4⟩) (meth := k2m4) (c := k2c4) (by decide +kernel) rfl rfl rfl (by decide +kernel)
set_option maxRecDepth 65536 in
theorem w_c9 : (Jvm.Cond.code ({ cls := "com/example/nearbound/nearbound/graph/MinCut", name := "cut", desc := "(II)V" } : Jvm.MethodName) prog_25_method_6_code (3 : Nat) (Option.none : Option Jvm.ClassFile.FieldType)).before args0 about1 = true := code_word (m := ⟨2, 5⟩) (meth := k2m5) (c := k2c5) (by decide +kernel) rfl rfl rfl (by decide +kernel)
set_option maxRecDepth 65536 in
theorem w_c10 : (Jvm.Cond.code ({ cls := "com/example/nearbound/nearbound/graph/MinCut", name := "levels", desc := "(II)Z" } : Jvm.MethodName) prog_25_method_8_code (7 : Nat) (Option.some Jvm.ClassFile.FieldType.boolean)).before args0 about1 = true := code_word (m := ⟨2, 7⟩) (meth := k2m7) (c := k2c7) (by decide +kernel) rfl rfl rfl (by decide +kernel)
set_option maxRecDepth 65536 in
theorem w_c11 : (Jvm.Cond.code ({ cls := "java/util/Arrays", name := "fill", desc := "([IIII)V" } : Jvm.MethodName) jdk_65_method_104_code (5 : Nat) (Option.none : Option Jvm.ClassFile.FieldType)).before args0 about1 = true := code_word (m := ⟨3, 2⟩) (meth := k3m2) (c := k3c2) (by decide +kernel) rfl rfl rfl (by decide +kernel)
set_option maxRecDepth 65536 in
theorem w_c12 : (Jvm.Cond.code ({ cls := "java/util/Arrays", name := "rangeCheck", desc := "(III)V" } : Jvm.MethodName) jdk_65_method_30_code (3 : Nat) (Option.none : Option Jvm.ClassFile.FieldType)).before args0 about1 = true := code_word (m := ⟨3, 1⟩) (meth := k3m1) (c := k3c1) (by decide +kernel) rfl rfl rfl (by decide +kernel)
set_option maxRecDepth 65536 in
theorem w_c13 : (Jvm.Cond.code ({ cls := "java/lang/Math", name := "min", desc := "(II)I" } : Jvm.MethodName) jdk_29_method_69_code (2 : Nat) (Option.some Jvm.ClassFile.FieldType.int)).before args0 about1 = true := code_word (m := ⟨4, 1⟩) (meth := k4m1) (c := k4c1) (by decide +kernel) rfl rfl rfl (by decide +kernel)
set_option maxRecDepth 65536 in
theorem w_c14 : (Jvm.Cond.code ({ cls := "com/example/nearbound/nearbound/graph/MinCut", name := "onSourceSide", desc := "(I)Z" } : Jvm.MethodName) prog_25_method_7_code (2 : Nat) (Option.some Jvm.ClassFile.FieldType.boolean)).before args0 about1 = true := code_word (m := ⟨2, 6⟩) (meth := k2m6) (c := k2c6) (by decide +kernel) rfl rfl rfl (by decide +kernel)
set_option maxRecDepth 65536 in
theorem w_c15 : (Jvm.Cond.code ({ cls := "com/example/nearbound/nearbound/graph/MinCut", name := "augment", desc := "(II)Z" } : Jvm.MethodName) prog_25_method_9_code (8 : Nat) (Option.some Jvm.ClassFile.FieldType.boolean)).before args0 about1 = true := code_word (m := ⟨2, 8⟩) (meth := k2m8) (c := k2c8) (by decide +kernel) rfl rfl rfl (by decide +kernel)
set_option maxRecDepth 65536 in
theorem w_c16 : (Jvm.Cond.code ({ cls := "java/lang/Math", name := "min", desc := "(DD)D" } : Jvm.MethodName) jdk_29_method_72_code (4 : Nat) (Option.some Jvm.ClassFile.FieldType.double)).before args0 about1 = true := code_word (m := ⟨4, 2⟩) (meth := k4m2) (c := k4c2) (by decide +kernel) rfl rfl rfl (by decide +kernel)
def codes1 : List Jvm.Cond := [Jvm.Cond.code x code maxLocals ret, Jvm.Cond.code ({ cls := "com/example/nearbound/nearbound/graph/MinCutOnSourceSidePinLaw", name := "map", desc := "(III)I" } : Jvm.MethodName) method_3_code (3 : Nat) (Option.some Jvm.ClassFile.FieldType.int), Jvm.Cond.code ({ cls := "com/example/nearbound/nearbound/graph/MinCut", name := "<init>", desc := "()V" } : Jvm.MethodName) prog_25_method_1_code (1 : Nat) (Option.none : Option Jvm.ClassFile.FieldType), Jvm.Cond.code ({ cls := "java/lang/Object", name := "<init>", desc := "()V" } : Jvm.MethodName) object_method_1_code (1 : Nat) (Option.none : Option Jvm.ClassFile.FieldType), Jvm.Cond.code ({ cls := "com/example/nearbound/nearbound/graph/MinCut", name := "reset", desc := "(I)V" } : Jvm.MethodName) prog_25_method_2_code (3 : Nat) (Option.none : Option Jvm.ClassFile.FieldType), Jvm.Cond.code ({ cls := "com/example/nearbound/nearbound/graph/MinCut", name := "addNode", desc := "()I" } : Jvm.MethodName) prog_25_method_3_code (2 : Nat) (Option.some Jvm.ClassFile.FieldType.int), Jvm.Cond.code ({ cls := "com/example/nearbound/nearbound/graph/MinCutOnSourceSidePinLaw", name := "edge", desc := "(Lcom/example/nearbound/nearbound/graph/MinCut;III)V" } : Jvm.MethodName) method_4_code (4 : Nat) (Option.none : Option Jvm.ClassFile.FieldType), Jvm.Cond.code ({ cls := "com/example/nearbound/nearbound/graph/MinCut", name := "addEdge", desc := "(IID)V" } : Jvm.MethodName) prog_25_method_4_code (6 : Nat) (Option.none : Option Jvm.ClassFile.FieldType), Jvm.Cond.code ({ cls := "com/example/nearbound/nearbound/graph/MinCut", name := "link", desc := "(IID)V" } : Jvm.MethodName) prog_25_method_5_code (5 : Nat) (Option.none : Option Jvm.ClassFile.FieldType), Jvm.Cond.code ({ cls := "com/example/nearbound/nearbound/graph/MinCut", name := "cut", desc := "(II)V" } : Jvm.MethodName) prog_25_method_6_code (3 : Nat) (Option.none : Option Jvm.ClassFile.FieldType), Jvm.Cond.code ({ cls := "com/example/nearbound/nearbound/graph/MinCut", name := "levels", desc := "(II)Z" } : Jvm.MethodName) prog_25_method_8_code (7 : Nat) (Option.some Jvm.ClassFile.FieldType.boolean), Jvm.Cond.code ({ cls := "java/util/Arrays", name := "fill", desc := "([IIII)V" } : Jvm.MethodName) jdk_65_method_104_code (5 : Nat) (Option.none : Option Jvm.ClassFile.FieldType), Jvm.Cond.code ({ cls := "java/util/Arrays", name := "rangeCheck", desc := "(III)V" } : Jvm.MethodName) jdk_65_method_30_code (3 : Nat) (Option.none : Option Jvm.ClassFile.FieldType), Jvm.Cond.code ({ cls := "java/lang/Math", name := "min", desc := "(II)I" } : Jvm.MethodName) jdk_29_method_69_code (2 : Nat) (Option.some Jvm.ClassFile.FieldType.int), Jvm.Cond.code ({ cls := "com/example/nearbound/nearbound/graph/MinCut", name := "onSourceSide", desc := "(I)Z" } : Jvm.MethodName) prog_25_method_7_code (2 : Nat) (Option.some Jvm.ClassFile.FieldType.boolean), Jvm.Cond.code ({ cls := "com/example/nearbound/nearbound/graph/MinCut", name := "augment", desc := "(II)Z" } : Jvm.MethodName) prog_25_method_9_code (8 : Nat) (Option.some Jvm.ClassFile.FieldType.boolean), Jvm.Cond.code ({ cls := "java/lang/Math", name := "min", desc := "(DD)D" } : Jvm.MethodName) jdk_29_method_72_code (4 : Nat) (Option.some Jvm.ClassFile.FieldType.double)]
set_option maxRecDepth 65536 in
theorem codes_eq : words1.filter isCode = codes1 := rfl
theorem w_codes : ∀ c ∈ words1.filter isCode, c.before args0 about1 = true := by
  rw [codes_eq]
  intro c hc
  simp only [codes1, List.mem_cons, List.not_mem_nil, or_false] at hc
  rcases hc with rfl | rfl | rfl | rfl | rfl | rfl | rfl | rfl | rfl | rfl | rfl | rfl | rfl | rfl | rfl | rfl | rfl
  · exact w_c0
  · exact w_c1
  · exact w_c2
  · exact w_c3
  · exact w_c4
  · exact w_c5
  · exact w_c6
  · exact w_c7
  · exact w_c8
  · exact w_c9
  · exact w_c10
  · exact w_c11
  · exact w_c12
  · exact w_c13
  · exact w_c14
  · exact w_c15
  · exact w_c16
set_option maxRecDepth 65536 in
theorem w_t1 : (words1.take 24).all (fun c => isCode c || c.before args0 about1) = true := by decide +kernel
set_option maxRecDepth 65536 in
theorem w_t2 : ((words1.drop 24).take 24).all (fun c => isCode c || c.before args0 about1) = true := by decide +kernel
set_option maxRecDepth 65536 in
theorem w_t3 : (((words1.drop 24).drop 24).take 24).all (fun c => isCode c || c.before args0 about1) = true := by decide +kernel
set_option maxRecDepth 65536 in
theorem w_t4 : (((words1.drop 24).drop 24).drop 24).all (fun c => isCode c || c.before args0 about1) = true := by decide +kernel
theorem w_tables : (allAtoms (Jvm.Cond.code x code maxLocals ret :: tables_1)).before args0 about1 = true := by
  rw [allAtoms_all]
  show words1.all (fun c => c.before args0 about1) = true
  refine all_split ?_ w_codes
  rw [← List.take_append_drop 24 words1, List.all_append, w_t1, ← List.take_append_drop 24 (words1.drop 24), List.all_append, w_t2, ← List.take_append_drop 24 ((words1.drop 24).drop 24), List.all_append, w_t3, w_t4]
  rfl
set_option maxRecDepth 65536 in
theorem w_case : (Jvm.Cond.and given_1 narrow_1).before args0 about1 = true := by decide +kernel
theorem w_applies : (headSpec (Jvm.Cond.code x code maxLocals ret :: tables_1) room_1).applies x e0.platform about1 = true :=
  (Spec.applies_iff w_frames).mpr ⟨w_running, w_runnable, w_alone, w_named, w_hears, w_ripe, w_room, w_tables⟩
theorem atStart : AtStart classFile x code maxLocals ret World_1 tables_1 room_1 Calls_1 rest_1 Pre_1 launch0 p0 e0 about1 theMethod args0 below0 :=
  ⟨lists_1, trivial, launch0.admits_env _ _ _, launch0.least_env, fairChoices_fair.cas, fairChoices_fair.clock, w_frames, w_args, w_heap, w_applies, trivial, trivial, w_case⟩
end start1
theorem witness_1 : WitnessClaimed_1 := ⟨start1.p0, start1.e0, start1.about1, start1.theMethod, start1.args0, start1.below0, start1.atStart⟩
end Jvm.Pilot.@@N@@
