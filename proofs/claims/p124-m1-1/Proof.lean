import JvmDerived
import JvmDerived.Pilot.@@N@@Statement
import JvmDerived.Pilot.@@N@@Code
set_option linter.unusedVariables false
set_option linter.unusedSimpArgs false
namespace Jvm.RoadKit
open Sem ClassFile Op Lib Jvm.Stand Jvm.Free Jvm.LawKit
/-! the goal of a walk, seen from where it stands -/
def own_Go (p : Program) (e : Env) (below : List Frame) (PO : Outcome → State → Prop) (U : State) : Prop :=
  ∃ s₂ o, Steps p.tables e below U s₂ ∧ s₂.status = .running ∧ Ended s₂ below o ∧ PO o s₂
def own_PO (s : State) (Q : Option Value → Heap → List Loc → Prop) (C N : Nat) : Outcome → State → Prop :=
  fun o U' => ∃ v L, o = .returned v ∧ Q v U'.heap L ∧ FrameEnd s o U' L C N
theorem own_back {p : Program} {e : Env} {below : List Frame} {PO : Outcome → State → Prop} {U V : State} (h : own_Go p e below PO V)
    (st : ∀ t, Steps p.tables e below V t → Steps p.tables e below U t) : own_Go p e below PO U := by
  obtain ⟨t, o, h1, h2⟩ := h
  exact ⟨t, o, st t h1, h2⟩
theorem own_gen {A : Type} (x : A) (P : A → Prop) (h : ∀ c, c = x → P c) : P x := h x rfl
section New
variable {p : Program} {l : Launch} {e : Env} {R : Room} {s : State} {m : MethodId} {args : Array Value} {below : List Frame} {meth : Method} {c : Code} {T : State} {locs : List Loc} {cells slots : Nat} {h : Heap}
  {Q : Option Value → Heap → List Loc → Prop} {C N : Nat}
theorem own_end (X : Stand p l e R s m args below meth c T locs cells slots) {v : Option Value} {U : State} (hv : meth.sig.returnType = none → v = none) (eT : T.heap = h) (hk : meth.locks = false)
    (st : ∀ fs, (∀ (f : JFrame) (acts : List Action), f.method = m → f.locked = none → f.entered = [] → (doReturn e (T.setTop f) acts v).1 = T.setFrames fs) → Steps p.tables e below U (T.setFrames fs))
    (hQ : Q v h locs) (hc : cells ≤ C) (hn : slots ≤ N) : own_Go p e below (own_PO s Q C N) U := by
  obtain ⟨fs, hr, hrun, hended, hW, hsame⟩ := X.leave (v := v) hv hk
  subst eT
  exact ⟨_, _, st fs hr, hrun, hended, _, _, rfl, hQ, ⟨_, rfl⟩, hW, hsame.mono hc hn⟩
theorem own_retV (X : Stand p l e R s m args below meth c T locs cells slots) (hx : p.tables.exec = Jvm.exec) {pc : Nat} {Ls : Array Slot} (hret : meth.sig.returnType = none) (hd : decode c.code pc = .ok (.return_, 1))
    (eT : T.heap = h) (hk : meth.locks = false) (hQ : Q none h locs) (hc : cells ≤ C) (hn : slots ≤ N) : own_Go p e below (own_PO s Q C N) (T.setTop (mkF m pc Ls [])) :=
  own_end X (fun _ => rfl) eT hk (fun fs hr => X.returnOut hx hret hd hr) hQ hc hn
theorem own_retI (X : Stand p l e R s m args below meth c T locs cells slots) (hx : p.tables.exec = Jvm.exec) {pc : Nat} {Ls : Array Slot} {z : Int32} {rest : List Value} (hret : meth.sig.returnType = some .int) (hd : decode c.code pc = .ok (.ireturn, 1))
    (eT : T.heap = h) (hk : meth.locks = false) (hQ : Q (some (.int z)) h locs) (hc : cells ≤ C) (hn : slots ≤ N) : own_Go p e below (own_PO s Q C N) (T.setTop (mkF m pc Ls (.int z :: rest))) :=
  own_end X (fun q => by rw [hret] at q; cases q) eT hk (fun fs hr => retOut X hx hret rfl (Or.inl ⟨rfl, Or.inl rfl, z, rfl⟩) hd hr) hQ hc hn
theorem own_retN (X : Stand p l e R s m args below meth c T locs cells slots) (hx : p.tables.exec = Jvm.exec) {pc : Nat} {Ls : Array Slot} {z : Int32} {t : FieldType} {rest : List Value} (hret : meth.sig.returnType = some t) (hz : nar t z = z) (ht : t = .boolean ∨ t = .byte ∨ t = .char ∨ t = .short) (hd : decode c.code pc = .ok (.ireturn, 1))
    (eT : T.heap = h) (hk : meth.locks = false) (hQ : Q (some (.int z)) h locs) (hc : cells ≤ C) (hn : slots ≤ N) : own_Go p e below (own_PO s Q C N) (T.setTop (mkF m pc Ls (.int z :: rest))) :=
  own_end X (fun q => by rw [hret] at q; cases q) eT hk (fun fs hr => retN X hx (t := t) hret ht hd (by rw [hz]; exact hr)) hQ hc hn
theorem own_retJ (X : Stand p l e R s m args below meth c T locs cells slots) (hx : p.tables.exec = Jvm.exec) {pc : Nat} {Ls : Array Slot} {z : Int64} {rest : List Value} (hret : meth.sig.returnType = some .long) (hd : decode c.code pc = .ok (.lreturn, 1))
    (eT : T.heap = h) (hk : meth.locks = false) (hQ : Q (some (.long z)) h locs) (hc : cells ≤ C) (hn : slots ≤ N) : own_Go p e below (own_PO s Q C N) (T.setTop (mkF m pc Ls (.long z :: rest))) :=
  own_end X (fun q => by rw [hret] at q; cases q) eT hk (fun fs hr => retOut X hx hret rfl (Or.inr (Or.inl ⟨rfl, rfl, z, rfl⟩)) hd hr) hQ hc hn
theorem own_retD (X : Stand p l e R s m args below meth c T locs cells slots) (hx : p.tables.exec = Jvm.exec) {pc : Nat} {Ls : Array Slot} {z : UInt64} {rest : List Value} (hret : meth.sig.returnType = some .double) (hd : decode c.code pc = .ok (.dreturn, 1))
    (eT : T.heap = h) (hk : meth.locks = false) (hQ : Q (some (.double z)) h locs) (hc : cells ≤ C) (hn : slots ≤ N) : own_Go p e below (own_PO s Q C N) (T.setTop (mkF m pc Ls (.double z :: rest))) :=
  own_end X (fun q => by rw [hret] at q; cases q) eT hk (fun fs hr => retOut X hx hret rfl (Or.inr (Or.inr (Or.inl ⟨rfl, rfl, z, rfl⟩))) hd hr) hQ hc hn
theorem own_retA (X : Stand p l e R s m args below meth c T locs cells slots) (hx : p.tables.exec = Jvm.exec) {pc : Nat} {Ls : Array Slot} {w : Value} {t : FieldType} {rest : List Value} (hret : meth.sig.returnType = some t) (ht : t.isReference = true) (hw : w.isRef = true) (hd : decode c.code pc = .ok (.areturn, 1))
    (eT : T.heap = h) (hk : meth.locks = false) (hQ : Q (some w) h locs) (hc : cells ≤ C) (hn : slots ≤ N) : own_Go p e below (own_PO s Q C N) (T.setTop (mkF m pc Ls (w :: rest))) :=
  own_end X (fun q => by rw [hret] at q; cases q) eT hk (fun fs hr => retOut X hx hret (by cases t <;> first | (cases ht; done) | (cases w <;> first | (cases hw; done) | rfl)) (Or.inr (Or.inr (Or.inr (Or.inr ⟨rfl, ht, hw⟩)))) hd hr) hQ hc hn
end New
end Jvm.RoadKit
namespace Jvm.RoadKit
open Sem ClassFile Op Lib Jvm.Stand Jvm.Free Jvm.LawKit
section Heap
variable {p : Program} {l : Launch} {e : Env} {R : Room} {s : State} {m : MethodId} {args : Array Value} {below : List Frame} {meth : Method} {c : Code} {T : State} {locs : List Loc} {cells slots : Nat} {h h' : Heap} {Z : State}
  {a : Addr} {k : ClassId} {n : Int32} {vs : List Value} {dv : Value} {ws ws' : List Addr} {C : String}
theorem own_keep_more (K : Keep h h' ws) (q : ∀ x ∈ ws, x ∈ ws') : Keep h h' ws' := ⟨K.1, fun x c hx r => K.2.1 x c hx fun z => r (q x z), K.2.2⟩
theorem own_sta_keep {C n d : String} {v : Value} (F : Sta Z h C n d v) (K : Keep h h' ws) (q : ∀ x ∈ ws, ∀ cell : Cell, h[x]? = some cell → cell.vm.isStatics = false) : Sta Z h' C n d v := by
  obtain ⟨cf, i, kk, f, st, cell, h1, h2, h3, h4, h5, h6, h7⟩ := F
  exact ⟨cf, i, kk, f, st, cell, h1, h2, h3, h4, K.2.1 st cell h5 (fun z => by rw [q st z cell h5] at h6; cases h6), h6, h7⟩
/-- a private method is selected of itself: the class is no interface, as another 'selects' word says -/
theorem own_selpriv {s : State} {args args' : Array Value} {y z w : MethodName} (hs : (Cond.selects y.cls z w).before args' s = true) (hpriv : s.PrivateAt y) (hinst : (Cond.instanceMethod y).before args s = true) (hy : y.cls ≠ "java/lang/invoke/MethodHandle" ∧ y.cls ≠ "java/lang/invoke/VarHandle") (hw : w.cls = y.cls := by rfl) :
    (Cond.selects y.cls y y).before args s = true := by
  obtain ⟨c2, r2, m2, q1, q2, q3, q4, kP, hkP, hkPi⟩ := Cond.selects_spec hs
  have hc := findClass_of_methodNamed q3
  rw [hw] at hc
  exact selects_self_of_private hc hkP hkPi hpriv hinst hy
theorem own_stI (X : Stand p l e R s m args below meth c T locs cells slots) (hx : p.tables.exec = Jvm.exec) (hZ : Z.Warmed39 s.vm) (eT : T.heap = h) (A : Arv Z h a k .int n vs dv) {j x : Int32} (hj : ¬ j < 0 ∧ j < n) {i : Nat} (hi : j.toNatClampNeg = i) (hl : i < vs.length) {g : JFrame} (hg : g.method = m) {rest : List Value} (hs : g.stack = .int x :: .int j :: .ref a :: rest) (hd : decode c.code g.pc = .ok (.iastore, 1)) :
    ∃ T' h', Stand p l e R s m args below meth c T' (locs ++ [⟨a, j.toNatClampNeg⟩]) cells slots ∧ T'.heap = h' ∧ Wr h h' a j.toNatClampNeg (.int x) ∧ Arv Z h' a k .int n (vs.set i (.int x)) dv ∧ ∀ target, Steps p.tables e below (T'.setTop { g with pc := g.pc + 1, stack := rest }) target → Steps p.tables e below (T.setTop g) target := by
  obtain ⟨cl, Ar, q, S, N, H, G⟩ := A
  obtain ⟨T', h', X', e', W, st⟩ := stI X hx hZ eT Ar (inb_of S hj) hg hs hd
  exact ⟨T', h', X', e', W, Arv.set Ar q S N H G rfl W i hi hl, st⟩
theorem own_stJ (X : Stand p l e R s m args below meth c T locs cells slots) (hx : p.tables.exec = Jvm.exec) (hZ : Z.Warmed39 s.vm) (eT : T.heap = h) (A : Arv Z h a k .long n vs dv) {j : Int32} {x : Int64} (hj : ¬ j < 0 ∧ j < n) {i : Nat} (hi : j.toNatClampNeg = i) (hl : i < vs.length) {g : JFrame} (hg : g.method = m) {rest : List Value} (hs : g.stack = .long x :: .int j :: .ref a :: rest) (hd : decode c.code g.pc = .ok (.lastore, 1)) :
    ∃ T' h', Stand p l e R s m args below meth c T' (locs ++ [⟨a, j.toNatClampNeg⟩]) cells slots ∧ T'.heap = h' ∧ Wr h h' a j.toNatClampNeg (.long x) ∧ Arv Z h' a k .long n (vs.set i (.long x)) dv ∧ ∀ target, Steps p.tables e below (T'.setTop { g with pc := g.pc + 1, stack := rest }) target → Steps p.tables e below (T.setTop g) target := by
  obtain ⟨cl, Ar, q, S, N, H, G⟩ := A
  obtain ⟨T', h', X', e', W, st⟩ := stJ X hx hZ eT Ar (inb_of S hj) hg hs hd
  exact ⟨T', h', X', e', W, Arv.set Ar q S N H G rfl W i hi hl, st⟩
theorem own_stD (X : Stand p l e R s m args below meth c T locs cells slots) (hx : p.tables.exec = Jvm.exec) (hZ : Z.Warmed39 s.vm) (eT : T.heap = h) (A : Arv Z h a k .double n vs dv) {j : Int32} {x : UInt64} (hj : ¬ j < 0 ∧ j < n) {i : Nat} (hi : j.toNatClampNeg = i) (hl : i < vs.length) {g : JFrame} (hg : g.method = m) {rest : List Value} (hs : g.stack = .double x :: .int j :: .ref a :: rest) (hd : decode c.code g.pc = .ok (.dastore, 1)) :
    ∃ T' h', Stand p l e R s m args below meth c T' (locs ++ [⟨a, j.toNatClampNeg⟩]) cells slots ∧ T'.heap = h' ∧ Wr h h' a j.toNatClampNeg (.double x) ∧ Arv Z h' a k .double n (vs.set i (.double x)) dv ∧ ∀ target, Steps p.tables e below (T'.setTop { g with pc := g.pc + 1, stack := rest }) target → Steps p.tables e below (T.setTop g) target := by
  obtain ⟨cl, Ar, q, S, N, H, G⟩ := A
  obtain ⟨T', h', X', e', W, st⟩ := stD X hx hZ eT Ar (inb_of S hj) hg hs hd
  exact ⟨T', h', X', e', W, Arv.set Ar q S N H G rfl W i hi hl, st⟩
theorem own_stB (X : Stand p l e R s m args below meth c T locs cells slots) (hx : p.tables.exec = Jvm.exec) (hZ : Z.Warmed39 s.vm) (eT : T.heap = h) (A : Arv Z h a k .byte n vs dv) {j x : Int32} (hj : ¬ j < 0 ∧ j < n) {i : Nat} (hi : j.toNatClampNeg = i) (hl : i < vs.length) {g : JFrame} (hg : g.method = m) {rest : List Value} (hs : g.stack = .int x :: .int j :: .ref a :: rest) (hd : decode c.code g.pc = .ok (.bastore, 1)) :
    ∃ T' h', Stand p l e R s m args below meth c T' (locs ++ [⟨a, j.toNatClampNeg⟩]) cells slots ∧ T'.heap = h' ∧ Wr h h' a j.toNatClampNeg (.int (nar .byte x)) ∧ Arv Z h' a k .byte n (vs.set i (.int (nar .byte x))) dv ∧ ∀ target, Steps p.tables e below (T'.setTop { g with pc := g.pc + 1, stack := rest }) target → Steps p.tables e below (T.setTop g) target := by
  obtain ⟨cl, Ar, q, S, N, H, G⟩ := A
  obtain ⟨T', h', X', e', W, st⟩ := stB X hx hZ eT Ar (inb_of S hj) hg hs hd
  exact ⟨T', h', X', e', W, Arv.set Ar q S N H G (fits_nar_byte x) W i hi hl, st⟩
theorem own_stZ (X : Stand p l e R s m args below meth c T locs cells slots) (hx : p.tables.exec = Jvm.exec) (hZ : Z.Warmed39 s.vm) (eT : T.heap = h) (A : Arv Z h a k .boolean n vs dv) {j x : Int32} (hj : ¬ j < 0 ∧ j < n) {i : Nat} (hi : j.toNatClampNeg = i) (hl : i < vs.length) {g : JFrame} (hg : g.method = m) {rest : List Value} (hs : g.stack = .int x :: .int j :: .ref a :: rest) (hd : decode c.code g.pc = .ok (.bastore, 1)) :
    ∃ T' h', Stand p l e R s m args below meth c T' (locs ++ [⟨a, j.toNatClampNeg⟩]) cells slots ∧ T'.heap = h' ∧ Wr h h' a j.toNatClampNeg (.int (nar .boolean x)) ∧ Arv Z h' a k .boolean n (vs.set i (.int (nar .boolean x))) dv ∧ ∀ target, Steps p.tables e below (T'.setTop { g with pc := g.pc + 1, stack := rest }) target → Steps p.tables e below (T.setTop g) target := by
  obtain ⟨cl, Ar, q, S, N, H, G⟩ := A
  obtain ⟨T', h', X', e', W, st⟩ := stZ X hx hZ eT Ar (inb_of S hj) hg hs hd
  exact ⟨T', h', X', e', W, Arv.set Ar q S N H G (fits_nar_bool x) W i hi hl, st⟩
theorem own_stC (X : Stand p l e R s m args below meth c T locs cells slots) (hx : p.tables.exec = Jvm.exec) (hZ : Z.Warmed39 s.vm) (eT : T.heap = h) (A : Arv Z h a k .char n vs dv) {j x : Int32} (hj : ¬ j < 0 ∧ j < n) {i : Nat} (hi : j.toNatClampNeg = i) (hl : i < vs.length) {g : JFrame} (hg : g.method = m) {rest : List Value} (hs : g.stack = .int x :: .int j :: .ref a :: rest) (hd : decode c.code g.pc = .ok (.castore, 1)) :
    ∃ T' h', Stand p l e R s m args below meth c T' (locs ++ [⟨a, j.toNatClampNeg⟩]) cells slots ∧ T'.heap = h' ∧ Wr h h' a j.toNatClampNeg (.int (nar .char x)) ∧ Arv Z h' a k .char n (vs.set i (.int (nar .char x))) dv ∧ ∀ target, Steps p.tables e below (T'.setTop { g with pc := g.pc + 1, stack := rest }) target → Steps p.tables e below (T.setTop g) target := by
  obtain ⟨cl, Ar, q, S, N, H, G⟩ := A
  obtain ⟨T', h', X', e', W, st⟩ := stC X hx hZ eT Ar (inb_of S hj) hg hs hd
  exact ⟨T', h', X', e', W, Arv.set Ar q S N H G (fits_nar_char x) W i hi hl, st⟩
theorem own_stR (X : Stand p l e R s m args below meth c T locs cells slots) (hx : p.tables.exec = Jvm.exec) (hZ : Z.Warmed39 s.vm) (eT : T.heap = h) (A : Arv Z h a k (.object C) n vs dv) (O : Ovr Z k C) {y : Addr} (I : Ins Z h y C true) {j : Int32} (hj : ¬ j < 0 ∧ j < n) {i : Nat} (hi : j.toNatClampNeg = i) (hl : i < vs.length) {g : JFrame} (hg : g.method = m) {rest : List Value} (hs : g.stack = .ref y :: .int j :: .ref a :: rest) (hd : decode c.code g.pc = .ok (.aastore, 1)) :
    ∃ T' h', Stand p l e R s m args below meth c T' (locs ++ [⟨a, j.toNatClampNeg⟩]) cells slots ∧ T'.heap = h' ∧ Wr h h' a j.toNatClampNeg (.ref y) ∧ Arv Z h' a k (.object C) n (vs.set i (.ref y)) dv ∧ ∀ target, Steps p.tables e below (T'.setTop { g with pc := g.pc + 1, stack := rest }) target → Steps p.tables e below (T.setTop g) target := by
  obtain ⟨cl, Ar, q, S, N, H, G⟩ := A
  obtain ⟨T', h', X', e', W, st⟩ := stR X hx hZ eT Ar (inb_of S hj) rfl (Sto.ofV Ar q O I) hg hs hd
  exact ⟨T', h', X', e', W, Arv.set Ar q S N H G rfl W i hi hl, st⟩
theorem own_ldI (X : Stand p l e R s m args below meth c T locs cells slots) (hx : p.tables.exec = Jvm.exec) (hZ : Z.Warmed39 s.vm) (eT : T.heap = h) (A : Arv Z h a k .int n vs dv) {j : Int32} {v : Value} (hj : ¬ j < 0 ∧ j < n) (hv : vs.getD j.toNatClampNeg dv = v) {g : JFrame} (hg : g.method = m) {rest : List Value} (hs : g.stack = .int j :: .ref a :: rest) (hd : decode c.code g.pc = .ok (.iaload, 1)) :
    ∀ target, Steps p.tables e below (T.setTop { g with pc := g.pc + 1, stack := v :: rest }) target → Steps p.tables e below (T.setTop g) target := by
  obtain ⟨cl, Ar, q, S, N, H, G⟩ := A
  exact fun t k => X.iaload hx (by rw [eT]; exact Ar.1) (State.isArrayOf_alike hZ.alike Ar.2.1) Ar.2.2 (inb_of S hj) (H.at (inb_of S hj) hv) hg hs hd t k
theorem own_ldJ (X : Stand p l e R s m args below meth c T locs cells slots) (hx : p.tables.exec = Jvm.exec) (hZ : Z.Warmed39 s.vm) (eT : T.heap = h) (A : Arv Z h a k .long n vs dv) {j : Int32} {v : Value} (hj : ¬ j < 0 ∧ j < n) (hv : vs.getD j.toNatClampNeg dv = v) {g : JFrame} (hg : g.method = m) {rest : List Value} (hs : g.stack = .int j :: .ref a :: rest) (hd : decode c.code g.pc = .ok (.laload, 1)) :
    ∀ target, Steps p.tables e below (T.setTop { g with pc := g.pc + 1, stack := v :: rest }) target → Steps p.tables e below (T.setTop g) target := by
  obtain ⟨cl, Ar, q, S, N, H, G⟩ := A
  exact fun t k => X.laload hx (by rw [eT]; exact Ar.1) (State.isArrayOf_alike hZ.alike Ar.2.1) Ar.2.2 (inb_of S hj) (H.at (inb_of S hj) hv) hg hs hd t k
theorem own_ldC (X : Stand p l e R s m args below meth c T locs cells slots) (hx : p.tables.exec = Jvm.exec) (hZ : Z.Warmed39 s.vm) (eT : T.heap = h) (A : Arv Z h a k .char n vs dv) {j : Int32} {v : Value} (hj : ¬ j < 0 ∧ j < n) (hv : vs.getD j.toNatClampNeg dv = v) {g : JFrame} (hg : g.method = m) {rest : List Value} (hs : g.stack = .int j :: .ref a :: rest) (hd : decode c.code g.pc = .ok (.caload, 1)) :
    ∀ target, Steps p.tables e below (T.setTop { g with pc := g.pc + 1, stack := v :: rest }) target → Steps p.tables e below (T.setTop g) target := by
  obtain ⟨cl, Ar, q, S, N, H, G⟩ := A
  exact fun t k => X.caload hx (by rw [eT]; exact Ar.1) (State.isArrayOf_alike hZ.alike Ar.2.1) Ar.2.2 (inb_of S hj) (H.at (inb_of S hj) hv) hg hs hd t k
theorem own_ldD (X : Stand p l e R s m args below meth c T locs cells slots) (hx : p.tables.exec = Jvm.exec) (hZ : Z.Warmed39 s.vm) (eT : T.heap = h) (A : Arv Z h a k .double n vs dv) {j : Int32} {v : Value} (hj : ¬ j < 0 ∧ j < n) (hv : vs.getD j.toNatClampNeg dv = v) {g : JFrame} (hg : g.method = m) {rest : List Value} (hs : g.stack = .int j :: .ref a :: rest) (hd : decode c.code g.pc = .ok (.daload, 1)) :
    ∀ target, Steps p.tables e below (T.setTop { g with pc := g.pc + 1, stack := v :: rest }) target → Steps p.tables e below (T.setTop g) target := by
  obtain ⟨cl, Ar, q, S, N, H, G⟩ := A
  exact fun t k => X.daload hx (by rw [eT]; exact Ar.1) (State.isArrayOf_alike hZ.alike Ar.2.1) Ar.2.2 (inb_of S hj) (H.at (inb_of S hj) hv) hg hs hd t k
theorem own_ldB (X : Stand p l e R s m args below meth c T locs cells slots) (hx : p.tables.exec = Jvm.exec) (hZ : Z.Warmed39 s.vm) (eT : T.heap = h) (A : Arv Z h a k .byte n vs dv) {j : Int32} {v : Value} (hj : ¬ j < 0 ∧ j < n) (hv : vs.getD j.toNatClampNeg dv = v) {g : JFrame} (hg : g.method = m) {rest : List Value} (hs : g.stack = .int j :: .ref a :: rest) (hd : decode c.code g.pc = .ok (.baload, 1)) :
    ∀ target, Steps p.tables e below (T.setTop { g with pc := g.pc + 1, stack := v :: rest }) target → Steps p.tables e below (T.setTop g) target := by
  obtain ⟨cl, Ar, q, S, N, H, G⟩ := A
  exact fun t k => X.baloadBytes hx (by rw [eT]; exact Ar.1) (State.isArrayOf_alike hZ.alike Ar.2.1) Ar.2.2 (inb_of S hj) (H.at (inb_of S hj) hv) hg hs hd t k
theorem own_ldR (X : Stand p l e R s m args below meth c T locs cells slots) (hx : p.tables.exec = Jvm.exec) (hZ : Z.Warmed39 s.vm) (eT : T.heap = h) {ty : FieldType} (A : Arv Z h a k ty n vs dv) (hty : ty.isReference = true) {j : Int32} {v : Value} (hj : ¬ j < 0 ∧ j < n) (hv : vs.getD j.toNatClampNeg dv = v) {g : JFrame} (hg : g.method = m) {rest : List Value} (hs : g.stack = .int j :: .ref a :: rest) (hd : decode c.code g.pc = .ok (.aaload, 1)) :
    ∀ target, Steps p.tables e below (T.setTop { g with pc := g.pc + 1, stack := v :: rest }) target → Steps p.tables e below (T.setTop g) target := by
  obtain ⟨cl, Ar, q, S, N, H, G⟩ := A
  exact fun t k => X.aaload hx (by rw [eT]; exact Ar.1) (State.isArrayOf_alike hZ.alike Ar.2.1) hty Ar.2.2 (inb_of S hj) (H.at (inb_of S hj) hv) hg hs hd t k
theorem own_len (X : Stand p l e R s m args below meth c T locs cells slots) (hx : p.tables.exec = Jvm.exec) (hZ : Z.Warmed39 s.vm) (eT : T.heap = h) {ty : FieldType} (A : Arv Z h a k ty n vs dv) {g : JFrame} (hg : g.method = m) {rest : List Value} (hs : g.stack = .ref a :: rest) (hd : decode c.code g.pc = .ok (.arraylength, 1)) :
    ∀ target, Steps p.tables e below (T.setTop { g with pc := g.pc + 1, stack := .int n :: rest }) target → Steps p.tables e below (T.setTop g) target := by
  obtain ⟨cl, Ar, q, S, N, H, G⟩ := A
  intro t kk
  refine X.arraylength hx (by rw [eT]; exact Ar.1) (State.isArrayOf_alike hZ.alike Ar.2.1) hg hs hd t ?_
  rw [len_of S N]; exact kk
end Heap
end Jvm.RoadKit
namespace Jvm.RoadKit
open Sem ClassFile Op Lib Jvm.Stand Jvm.Free Jvm.LawKit
theorem own_ofNat {c : Int32} (h0 : 0 ≤ c.toInt) : c = Int32.ofNat c.toInt.toNat := by
  apply Int32.toInt_inj.mp
  show c.toInt = (Int32.ofNat c.toInt.toNat).toInt
  rw [Int32.toInt_ofNat_of_lt (by have := c.toInt_lt; omega), Int.toNat_of_nonneg h0]
theorem own_clamp {c : Int32} : c.toNatClampNeg = c.toInt.toNat := rfl
/-- a remainder of what a mask left -/
theorem own_pm (x : Int32) {y : Int32} {d : Int} (hy : y.toInt = d) (hd : 0 < d) : ((x &&& 2147483647) % y).toInt = x.toInt % 2147483648 % d ∧ 0 ≤ ((x &&& 2147483647) % y).toInt ∧ ((x &&& 2147483647) % y).toInt < d := by
  have e := c_mask x 2147483647 31 (by decide) (by decide)
  have e2 : ((2 ^ 31 : Nat) : Int) = 2147483648 := by decide
  rw [e2] at e
  have h0 : 0 ≤ (x &&& 2147483647).toInt := by rw [e]; exact Int.emod_nonneg _ (by decide)
  have q := (c_irem (x &&& 2147483647) y d hy).1 h0
  rw [e] at q
  have hd' : d ≠ 0 := by omega
  exact ⟨q, by rw [q]; exact Int.emod_nonneg _ hd', by rw [q]; exact Int.emod_lt_of_pos _ hd⟩
theorem own_r14 {x i : Int32} (h : i = (x &&& 2147483647) % 14) : i = 0 ∨ i = 1 ∨ i = 2 ∨ i = 3 ∨ i = 4 ∨ i = 5 ∨ i = 6 ∨ i = 7 ∨ i = 8 ∨ i = 9 ∨ i = 10 ∨ i = 11 ∨ i = 12 ∨ i = 13 := by
  obtain ⟨-, h1, h2⟩ := own_pm x (y := 14) (d := 14) (by decide) (by decide)
  rw [← h] at h1 h2
  have t : ∀ k : Fin 14, (Int32.ofNat k.1 = 0 ∨ Int32.ofNat k.1 = 1 ∨ Int32.ofNat k.1 = 2 ∨ Int32.ofNat k.1 = 3 ∨ Int32.ofNat k.1 = 4 ∨ Int32.ofNat k.1 = 5 ∨ Int32.ofNat k.1 = 6 ∨ Int32.ofNat k.1 = 7 ∨ Int32.ofNat k.1 = 8 ∨ Int32.ofNat k.1 = 9 ∨ Int32.ofNat k.1 = 10 ∨ Int32.ofNat k.1 = 11 ∨ Int32.ofNat k.1 = 12 ∨ Int32.ofNat k.1 = 13) := by decide +kernel
  have q := t ⟨i.toInt.toNat, by omega⟩
  rwa [← own_ofNat h1] at q
end Jvm.RoadKit
namespace Jvm.Pilot.@@N@@
open Jvm Jvm.ClassFile Sem Op Lib Jvm.Free Jvm.Stand Jvm.LawKit Jvm.RoadKit Bundle Jvm.Pilot.@@N@@.Jvm.D
/-! the plain law -/
def own_max (a b : Int32) : Int32 := if a < b then b else a
def own_at (xs : List Int32) (k : Nat) : Int32 := xs.getD k 0
theorem own_getD (l : List Int32) (n : Nat) : (l.map Value.int).getD n (.int 0) = .int (own_at l n) := by
  simp only [own_at, List.getD_eq_getElem?_getD, List.getElem?_map]
  cases l[n]? <;> rfl
def own_pick (s : Int32) (j : Int64) (k : Int32) : Int32 :=
  if ((s.toUInt32 >>> ((2 * k) &&& 31).toUInt32).toInt32 &&& 3) = 0 then 10 else if ((s.toUInt32 >>> ((2 * k) &&& 31).toUInt32).toInt32 &&& 3) = 1 then 13 else if ((s.toUInt32 >>> ((2 * k) &&& 31).toUInt32).toInt32 &&& 3) = 2 then 97 else (j.toUInt64 >>> ((8 * k) &&& 0x3f).toInt64.toUInt64).toInt64.toInt32.toInt8.toInt32
def own_ends (xs : List Int32) (k : Nat) : Int32 :=
  if (own_at xs (k - 2) = 10 ∧ own_at xs (k - 1) = 10) ∨ (3 ≤ k ∧ own_at xs (k - 3) = 10 ∧ own_at xs (k - 2) = 13 ∧ own_at xs (k - 1) = 10) then 1 else 0
def own_ref (xs : List Int32) (t : Int32) : Int32 :=
  if ¬ t < 2 ∧ ¬ own_ends xs 2 = 0 then 2 else if ¬ t < 3 ∧ ¬ own_ends xs 3 = 0 then 3 else if ¬ t < 4 ∧ ¬ own_ends xs 4 = 0 then 4 else if ¬ t < 5 ∧ ¬ own_ends xs 5 = 0 then 5 else if ¬ t < 6 ∧ ¬ own_ends xs 6 = 0 then 6 else -1
def own_scan (xs : List Int32) (t : Int32) : Nat → Int32 → Int32
  | 0, _ => -1
  | n + 1, i =>
    if own_at xs i.toNatClampNeg = 10 then
      (if own_at xs (i + 1).toNatClampNeg = 10 then i + 2
       else if own_at xs (i + 1).toNatClampNeg = 13 then
        (if i + 2 < t then (if own_at xs (i + 2).toNatClampNeg = 10 then i + 3 else own_scan xs t n (i + 1)) else own_scan xs t n (i + 1))
       else own_scan xs t n (i + 1))
    else own_scan xs t n (i + 1)
def own_fuel (t i : Int32) : Nat := (t.toInt - 1 - i.toInt).toNat
def own_end (xs : List Int32) (f t : Int32) : Int32 := own_scan xs t (own_fuel t (own_max 0 (f - 2))) (own_max 0 (f - 2))
theorem own_c1 {i t : Int32} (h0 : 0 ≤ i.toInt) (ht : 0 ≤ t.toInt ∧ t.toInt ≤ 6) (h : own_fuel t i = 0) : ¬ i < t - 1 := by
  rw [Int32.lt_iff_toInt_lt]; unfold own_fuel at h
  have := c_isub t 1; have := rng32 (t - 1); have e : (1 : Int32).toInt = 1 := by decide
  omega
theorem own_c2 {i t : Int32} {n : Nat} (h0 : 0 ≤ i.toInt) (ht : 0 ≤ t.toInt ∧ t.toInt ≤ 6) (h : own_fuel t i = n + 1) : i < t - 1 ∧ i.toInt < t.toInt - 1 := by
  rw [Int32.lt_iff_toInt_lt]; unfold own_fuel at h
  have := c_isub t 1; have := rng32 (t - 1); have e : (1 : Int32).toInt = 1 := by decide
  omega
theorem own_addI {i : Int32} {k : Int32} {K : Int} (h0 : 0 ≤ i.toInt) (h1 : i.toInt < 100) (hk : k.toInt = K) (hK : 0 ≤ K ∧ K < 100) : (i + k).toInt = i.toInt + K := by
  have := c_iadd i k; have := rng32 (i + k); omega
theorem own_in6 {j : Int32} (h0 : 0 ≤ j.toInt) (h1 : j.toInt < 6) : ¬ j < 0 ∧ j < 6 := by
  rw [Int32.lt_iff_toInt_lt, Int32.lt_iff_toInt_lt]
  have e : (6 : Int32).toInt = 6 := by decide
  have e0 : (0 : Int32).toInt = 0 := by decide
  omega
theorem own_max0 (f : Int32) : 0 ≤ (own_max 0 f).toInt := by
  unfold own_max
  split
  · rename_i h; rw [Int32.lt_iff_toInt_lt] at h; have e0 : (0 : Int32).toInt = 0 := by decide
    omega
  · decide
theorem own_tr {t a b : Int32} (h : t < a) (q : a.toInt ≤ b.toInt) : t < b := by rw [Int32.lt_iff_toInt_lt] at *; omega
theorem own_i2b (x : Int32) : nar .byte x.toInt8.toInt32 = x.toInt8.toInt32 := by
  show x.toInt8.toInt32.toInt8.toInt32 = x.toInt8.toInt32
  rw [Int8.toInt8_toInt32]
theorem own_t6 {x t : Int32} (h : t = (x &&& 2147483647) % 7) : 0 ≤ t.toInt ∧ t.toInt ≤ 6 := by
  obtain ⟨-, h1, h2⟩ := own_pm x (y := 7) (d := 7) (by decide) (by decide)
  rw [← h] at h1 h2
  omega
theorem own_t1 {t : Int32} (ht : 0 ≤ t.toInt ∧ t.toInt ≤ 6) : (t + 1).toInt = t.toInt + 1 := own_addI ht.1 (by omega) (by decide) (by decide)
theorem own_nz {x t : Int32} (h : t = (x &&& 2147483647) % 7) : t + 1 ≠ 0 := fun q => by
  have e := own_t1 (own_t6 h)
  rw [q] at e
  have := own_t6 h
  have e0 : (0 : Int32).toInt = 0 := by decide
  omega
theorem own_f6 {x y t f : Int32} (h : t = (x &&& 2147483647) % 7) (g : f = (y &&& 2147483647) % (t + 1)) : 0 ≤ f.toInt ∧ f.toInt ≤ t.toInt := by
  have e := own_t1 (own_t6 h)
  have q := own_t6 h
  obtain ⟨-, h1, h2⟩ := own_pm y e (by omega)
  rw [← g] at h1 h2
  omega
/-! bytes matter by their class alone: a line feed, a carriage return, another -/
def own_cls (x : Int32) : Fin 3 := if x = 10 then 0 else if x = 13 then 1 else 2
theorem own_cls0 (x : Int32) : (x = 10) = (own_cls x = 0) := by
  unfold own_cls
  by_cases h : x = 10
  · simp [h]
  · by_cases g : x = 13 <;> simp [h, g]
theorem own_cls1 (x : Int32) : (x = 13) = (own_cls x = 1) := by
  unfold own_cls
  by_cases h : x = 10
  · subst h; decide
  · by_cases g : x = 13 <;> simp [h, g]
def own_atC (cs : List (Fin 3)) (k : Nat) : Fin 3 := cs.getD k 2
theorem own_atc (xs : List Int32) (k : Nat) : own_cls (own_at xs k) = own_atC (xs.map own_cls) k := by
  simp only [own_at, own_atC, List.getD_eq_getElem?_getD, List.getElem?_map]
  cases xs[k]? <;> rfl
def own_endsC (cs : List (Fin 3)) (k : Nat) : Int32 :=
  if (own_atC cs (k - 2) = 0 ∧ own_atC cs (k - 1) = 0) ∨ (3 ≤ k ∧ own_atC cs (k - 3) = 0 ∧ own_atC cs (k - 2) = 1 ∧ own_atC cs (k - 1) = 0) then 1 else 0
theorem own_endsc (xs : List Int32) (k : Nat) : own_ends xs k = own_endsC (xs.map own_cls) k := by
  simp only [own_ends, own_endsC, own_cls0, own_cls1, own_atc]
def own_refC (cs : List (Fin 3)) (t : Int32) : Int32 :=
  if ¬ t < 2 ∧ ¬ own_endsC cs 2 = 0 then 2 else if ¬ t < 3 ∧ ¬ own_endsC cs 3 = 0 then 3 else if ¬ t < 4 ∧ ¬ own_endsC cs 4 = 0 then 4 else if ¬ t < 5 ∧ ¬ own_endsC cs 5 = 0 then 5 else if ¬ t < 6 ∧ ¬ own_endsC cs 6 = 0 then 6 else -1
theorem own_refc (xs : List Int32) (t : Int32) : own_ref xs t = own_refC (xs.map own_cls) t := by
  simp only [own_ref, own_refC, own_endsc]
def own_scanC (cs : List (Fin 3)) (t : Int32) : Nat → Int32 → Int32
  | 0, _ => -1
  | n + 1, i =>
    if own_atC cs i.toNatClampNeg = 0 then
      (if own_atC cs (i + 1).toNatClampNeg = 0 then i + 2
       else if own_atC cs (i + 1).toNatClampNeg = 1 then
        (if i + 2 < t then (if own_atC cs (i + 2).toNatClampNeg = 0 then i + 3 else own_scanC cs t n (i + 1)) else own_scanC cs t n (i + 1))
       else own_scanC cs t n (i + 1))
    else own_scanC cs t n (i + 1)
theorem own_scanc (xs : List Int32) (t : Int32) : ∀ n i, own_scan xs t n i = own_scanC (xs.map own_cls) t n i
  | 0, _ => rfl
  | n + 1, i => by simp only [own_scan, own_scanC, own_cls0, own_cls1, own_atc, own_scanc xs t n]
def own_endC (cs : List (Fin 3)) (f t : Int32) : Int32 := own_scanC cs t (own_fuel t (own_max 0 (f - 2))) (own_max 0 (f - 2))
theorem own_endc (xs : List Int32) (f t : Int32) : own_end xs f t = own_endC (xs.map own_cls) f t := own_scanc _ _ _ _
theorem own_allW : ∀ c0 c1 c2 c3 c4 c5 : Fin 3, ∀ t : Fin 7, own_endC [c0, c1, c2, c3, c4, c5] 0 (Int32.ofNat t.1) = own_refC [c0, c1, c2, c3, c4, c5] (Int32.ofNat t.1) := by decide +kernel
theorem own_allP : ∀ c0 c1 c2 c3 c4 c5 : Fin 3, ∀ t f : Fin 7, f.1 ≤ t.1 → own_refC [c0, c1, c2, c3, c4, c5] (Int32.ofNat f.1) = -1 → own_endC [c0, c1, c2, c3, c4, c5] (Int32.ofNat f.1) (Int32.ofNat t.1) = own_refC [c0, c1, c2, c3, c4, c5] (Int32.ofNat t.1) := by decide +kernel
theorem own_six {cs : List (Fin 3)} (h : cs.length = 6) : ∃ c0 c1 c2 c3 c4 c5, cs = [c0, c1, c2, c3, c4, c5] := by
  match cs, h with
  | [c0, c1, c2, c3, c4, c5], _ => exact ⟨c0, c1, c2, c3, c4, c5, rfl⟩
theorem own_whole (xs : List Int32) {t : Int32} (hl : xs.length = 6) (ht : 0 ≤ t.toInt ∧ t.toInt ≤ 6) : own_end xs 0 t = own_ref xs t := by
  obtain ⟨c0, c1, c2, c3, c4, c5, e⟩ := own_six (cs := xs.map own_cls) (by simpa using hl)
  have q := own_allW c0 c1 c2 c3 c4 c5 ⟨t.toInt.toNat, by omega⟩
  rw [← own_ofNat ht.1] at q
  rw [own_endc, own_refc, e]; exact q
theorem own_part (xs : List Int32) {t f : Int32} (hl : xs.length = 6) (ht : 0 ≤ t.toInt ∧ t.toInt ≤ 6) (hf : 0 ≤ f.toInt ∧ f.toInt ≤ t.toInt) (hr : own_ref xs f = -1) : own_end xs f t = own_ref xs t := by
  obtain ⟨c0, c1, c2, c3, c4, c5, e⟩ := own_six (cs := xs.map own_cls) (by simpa using hl)
  have q := own_allP c0 c1 c2 c3 c4 c5 ⟨t.toInt.toNat, by omega⟩ ⟨f.toInt.toNat, by omega⟩ (by show f.toInt.toNat ≤ t.toInt.toNat; omega)
  rw [← own_ofNat ht.1, ← own_ofNat hf.1] at q
  rw [own_refc, e] at hr
  rw [own_endc, own_refc, e]; exact q hr
theorem d1_0 : decode method_3_code 0 = .ok (.iload_n 0, 1) := by decide +kernel
theorem d1_1 : decode method_3_code 1 = .ok (.iconst 2, 1) := by decide +kernel
theorem d1_2 : decode method_3_code 2 = .ok (.iload_n 3, 1) := by decide +kernel
theorem d1_3 : decode method_3_code 3 = .ok (.imul, 1) := by decide +kernel
theorem d1_4 : decode method_3_code 4 = .ok (.iushr, 1) := by decide +kernel
theorem d1_5 : decode method_3_code 5 = .ok (.iconst 3, 1) := by decide +kernel
theorem d1_6 : decode method_3_code 6 = .ok (.iand, 1) := by decide +kernel
theorem d1_7 : decode method_3_code 7 = .ok (.istore 4, 2) := by decide +kernel
theorem d1_9 : decode method_3_code 9 = .ok (.iload 4, 2) := by decide +kernel
theorem d1_11 : decode method_3_code 11 = .ok (.ifCond .ne 6, 3) := by decide +kernel
theorem d1_14 : decode method_3_code 14 = .ok (.bipush 10, 2) := by decide +kernel
theorem d1_16 : decode method_3_code 16 = .ok (.ireturn, 1) := by decide +kernel
theorem d1_17 : decode method_3_code 17 = .ok (.iload 4, 2) := by decide +kernel
theorem d1_19 : decode method_3_code 19 = .ok (.iconst 1, 1) := by decide +kernel
theorem d1_20 : decode method_3_code 20 = .ok (.if_icmp .ne 6, 3) := by decide +kernel
theorem d1_23 : decode method_3_code 23 = .ok (.bipush 13, 2) := by decide +kernel
theorem d1_25 : decode method_3_code 25 = .ok (.ireturn, 1) := by decide +kernel
theorem d1_26 : decode method_3_code 26 = .ok (.iload 4, 2) := by decide +kernel
theorem d1_28 : decode method_3_code 28 = .ok (.iconst 2, 1) := by decide +kernel
theorem d1_29 : decode method_3_code 29 = .ok (.if_icmp .ne 6, 3) := by decide +kernel
theorem d1_32 : decode method_3_code 32 = .ok (.bipush 97, 2) := by decide +kernel
theorem d1_34 : decode method_3_code 34 = .ok (.ireturn, 1) := by decide +kernel
theorem d1_35 : decode method_3_code 35 = .ok (.lload_n 1, 1) := by decide +kernel
theorem d1_36 : decode method_3_code 36 = .ok (.bipush 8, 2) := by decide +kernel
theorem d1_38 : decode method_3_code 38 = .ok (.iload_n 3, 1) := by decide +kernel
theorem d1_39 : decode method_3_code 39 = .ok (.imul, 1) := by decide +kernel
theorem d1_40 : decode method_3_code 40 = .ok (.lushr, 1) := by decide +kernel
theorem d1_41 : decode method_3_code 41 = .ok (.l2i, 1) := by decide +kernel
theorem d1_42 : decode method_3_code 42 = .ok (.i2b, 1) := by decide +kernel
theorem d1_43 : decode method_3_code 43 = .ok (.ireturn, 1) := by decide +kernel
theorem pn_0 : plainName "com/example/execd/execd/io/RequestHeadEndPinLaw" = true := by first | (simp [plainName, overriddenIn]; done) | decide +kernel
theorem ef_rm1 (m : MethodId) (x0 : Int32) (x1 : Int64) (x2 : Int32) : entryFrame m #[(.int x0), (.long x1), (.int x2)] 5 = mkF m 0 #[.val (.int x0), .val (.long x1), .second, .val (.int x2), .unset] [] := by first | (simp [entryFrame, mkF, argsToLocals, Value.category]; done) | rfl
def Q_rm1 (pS : Int32) (jR : Int64) (pK : Int32) (h0 : Heap) (n0 : Nat) (v : Option Value) (h : Heap) (L : List Loc) : Prop := v = some (.int (own_pick pS jR pK)) ∧ Fr n0 L ∧ h = h0
set_option maxRecDepth 65536 in
set_option maxHeartbeats 40000000 in
theorem rm1 (l : Launch) (Z : State) (a0 : Array Value) (hw : ∀ d ∈ tables_1, d.before a0 Z = true) (ws : List Jvm.Cond) (pS : Int32) (jR : Int64) (pK : Int32)  (h0 : Heap) (n0 : Nat) (Z0 : n0 ≤ h0.size)  :
    MetFree l (⟨"com/example/execd/execd/io/RequestHeadEndPinLaw", "pick", "(IJI)B"⟩ : MethodName) (head1 (Jvm.Cond.code (⟨"com/example/execd/execd/io/RequestHeadEndPinLaw", "pick", "(IJI)B"⟩ : MethodName) method_3_code 5 (some .byte) :: ws) ({ frames := 0, cells := 0, slots := 0, locals := 0 } : Room)) (fun a U => a = #[(.int pS), (.long jR), (.int pK)] ∧ Z.Warmed39 U.vm ∧ U.heap = h0) (fun _ _ _ _ _ => True) (fun _ U o U' => ∃ v L, o = .returned v ∧ Q_rm1 pS jR pK h0 n0 v U'.heap L ∧ FrameEnd U o U' L ({ frames := 0, cells := 0, slots := 0, locals := 0 } : Room).cells ({ frames := 0, cells := 0, slots := 0, locals := 0 } : Room).slots) := by
  refine MetFree.of_bodySF (plainFor_of_name pn_0) hisR ?_
  intro p e s m args below meth c s₁ Bd hml0 hP hK
  obtain ⟨rfl, hZ, hh⟩ := hP
  have hx := Bd.exec
  have hby := Bd.bytes
  have hml : c.maxLocals = 5 := hml0
  have hown : s.vm.findClass "com/example/execd/execd/io/RequestHeadEndPinLaw" = some m.cls := findClass_of_methodNamed Bd.named
  have hnm := (name_of_methodNamed Bd.named Bd.method).1
  have X0 : Stand p l e ({ frames := 0, cells := 0, slots := 0, locals := 0 } : Room) s m #[(.int pS), (.long jR), (.int pK)] below meth c s₁ [] 0 0 := Stand.of_body Bd
  have e0 : s₁.heap = h0 := by rw [← hh, Bd.state]; rfl
  have N0 := Fr.nil n0
  let PO : Outcome → State → Prop := own_PO s (Q_rm1 pS jR pK h0 n0) 0 0
  show own_Go p e below PO (s₁.setTop (entryFrame m #[(.int pS), (.long jR), (.int pK)] 5))
  rw [ef_rm1]
  show own_Go p e below PO (s₁.setTop (mkF m 0 #[.val (.int pS), .val (.long jR), .second, .val (.int pK), .unset] []))
  refine own_back ?_ (fun t k => XS.iloadN X0.here hx rfl (hb hby d1_0) rfl k)
  show own_Go p e below PO (s₁.setTop (mkF m 1 #[.val (.int pS), .val (.long jR), .second, .val (.int pK), .unset] [(.int pS)]))
  refine own_back ?_ (fun t k => XS.iconst X0.here hx rfl (hb hby d1_1) k)
  show own_Go p e below PO (s₁.setTop (mkF m 2 #[.val (.int pS), .val (.long jR), .second, .val (.int pK), .unset] [(.int (2 : Int32)), (.int pS)]))
  refine own_back ?_ (fun t k => XS.iloadN X0.here hx rfl (hb hby d1_2) rfl k)
  show own_Go p e below PO (s₁.setTop (mkF m 3 #[.val (.int pS), .val (.long jR), .second, .val (.int pK), .unset] [(.int pK), (.int (2 : Int32)), (.int pS)]))
  refine own_back ?_ (fun t k => XS.imul X0.here hx rfl (hb hby d1_3) rfl k)
  show own_Go p e below PO (s₁.setTop (mkF m 4 #[.val (.int pS), .val (.long jR), .second, .val (.int pK), .unset] [(.int ((2 : Int32) * pK)), (.int pS)]))
  refine own_back ?_ (fun t k => XS.iushr X0.here hx rfl (hb hby d1_4) rfl k)
  show own_Go p e below PO (s₁.setTop (mkF m 5 #[.val (.int pS), .val (.long jR), .second, .val (.int pK), .unset] [(.int ((pS.toUInt32 >>> (((2 : Int32) * pK) &&& 31).toUInt32).toInt32))]))
  refine own_back ?_ (fun t k => XS.iconst X0.here hx rfl (hb hby d1_5) k)
  show own_Go p e below PO (s₁.setTop (mkF m 6 #[.val (.int pS), .val (.long jR), .second, .val (.int pK), .unset] [(.int (3 : Int32)), (.int ((pS.toUInt32 >>> (((2 : Int32) * pK) &&& 31).toUInt32).toInt32))]))
  refine own_back ?_ (fun t k => XS.iand X0.here hx rfl (hb hby d1_6) rfl k)
  show own_Go p e below PO (s₁.setTop (mkF m 7 #[.val (.int pS), .val (.long jR), .second, .val (.int pK), .unset] [(.int (((pS.toUInt32 >>> (((2 : Int32) * pK) &&& 31).toUInt32).toInt32) &&& (3 : Int32)))]))
  refine own_back ?_ (fun t k => XS.istore X0.here hx rfl (hb hby d1_7) rfl (l' := #[.val (.int pS), .val (.long jR), .second, .val (.int pK), .val (.int (((pS.toUInt32 >>> (((2 : Int32) * pK) &&& 31).toUInt32).toInt32) &&& (3 : Int32)))]) rfl k)
  show own_Go p e below PO (s₁.setTop (mkF m 9 #[.val (.int pS), .val (.long jR), .second, .val (.int pK), .val (.int (((pS.toUInt32 >>> (((2 : Int32) * pK) &&& 31).toUInt32).toInt32) &&& (3 : Int32)))] []))
  refine own_back ?_ (fun t k => XS.iload X0.here hx rfl (hb hby d1_9) rfl k)
  show own_Go p e below PO (s₁.setTop (mkF m 11 #[.val (.int pS), .val (.long jR), .second, .val (.int pK), .val (.int (((pS.toUInt32 >>> (((2 : Int32) * pK) &&& 31).toUInt32).toInt32) &&& (3 : Int32)))] [(.int (((pS.toUInt32 >>> (((2 : Int32) * pK) &&& 31).toUInt32).toInt32) &&& (3 : Int32)))]))
  by_cases hc11_1 : (((pS.toUInt32 >>> (((2 : Int32) * pK) &&& 31).toUInt32).toInt32) &&& (3 : Int32)) = (0 : Int32)
  case pos =>
    refine own_back ?_ (fun t k => XS.ifNo X0.here hx rfl (hb hby d1_11) rfl ((if0 _ _).trans (teq hc11_1).2) k)
    show own_Go p e below PO (s₁.setTop (mkF m 14 #[.val (.int pS), .val (.long jR), .second, .val (.int pK), .val (.int (((pS.toUInt32 >>> (((2 : Int32) * pK) &&& 31).toUInt32).toInt32) &&& (3 : Int32)))] []))
    refine own_back ?_ (fun t k => XS.bipush X0.here hx rfl (hb hby d1_14) k)
    show own_Go p e below PO (s₁.setTop (mkF m 16 #[.val (.int pS), .val (.long jR), .second, .val (.int pK), .val (.int (((pS.toUInt32 >>> (((2 : Int32) * pK) &&& 31).toUInt32).toInt32) &&& (3 : Int32)))] [(.int (10 : Int32))]))
    refine own_retN X0 hx (t := .byte) (rest := []) Bd.returns (by decide) (by simp) (hb hby d1_16) e0 (Bd.notSynchronized) ?_ (by decide) (by decide)
    exact ⟨by unfold own_pick; rw [if_pos hc11_1], N0, rfl⟩
  refine own_back ?_ (fun t k => XS.ifYes X0.here hx rfl (pc0 := 11) (pc' := 17) rfl (hb hby d1_11) rfl ((if0 _ _).trans (feq hc11_1).2) (by decide) (by decide) k)
  show own_Go p e below PO (s₁.setTop (mkF m 17 #[.val (.int pS), .val (.long jR), .second, .val (.int pK), .val (.int (((pS.toUInt32 >>> (((2 : Int32) * pK) &&& 31).toUInt32).toInt32) &&& (3 : Int32)))] []))
  refine own_back ?_ (fun t k => XS.iload X0.here hx rfl (hb hby d1_17) rfl k)
  show own_Go p e below PO (s₁.setTop (mkF m 19 #[.val (.int pS), .val (.long jR), .second, .val (.int pK), .val (.int (((pS.toUInt32 >>> (((2 : Int32) * pK) &&& 31).toUInt32).toInt32) &&& (3 : Int32)))] [(.int (((pS.toUInt32 >>> (((2 : Int32) * pK) &&& 31).toUInt32).toInt32) &&& (3 : Int32)))]))
  refine own_back ?_ (fun t k => XS.iconst X0.here hx rfl (hb hby d1_19) k)
  show own_Go p e below PO (s₁.setTop (mkF m 20 #[.val (.int pS), .val (.long jR), .second, .val (.int pK), .val (.int (((pS.toUInt32 >>> (((2 : Int32) * pK) &&& 31).toUInt32).toInt32) &&& (3 : Int32)))] [(.int (1 : Int32)), (.int (((pS.toUInt32 >>> (((2 : Int32) * pK) &&& 31).toUInt32).toInt32) &&& (3 : Int32)))]))
  by_cases hc20_2 : (((pS.toUInt32 >>> (((2 : Int32) * pK) &&& 31).toUInt32).toInt32) &&& (3 : Int32)) = (1 : Int32)
  case pos =>
    refine own_back ?_ (fun t k => XS.icmpNo X0.here hx rfl (hb hby d1_20) rfl (teq hc20_2).2 k)
    show own_Go p e below PO (s₁.setTop (mkF m 23 #[.val (.int pS), .val (.long jR), .second, .val (.int pK), .val (.int (((pS.toUInt32 >>> (((2 : Int32) * pK) &&& 31).toUInt32).toInt32) &&& (3 : Int32)))] []))
    refine own_back ?_ (fun t k => XS.bipush X0.here hx rfl (hb hby d1_23) k)
    show own_Go p e below PO (s₁.setTop (mkF m 25 #[.val (.int pS), .val (.long jR), .second, .val (.int pK), .val (.int (((pS.toUInt32 >>> (((2 : Int32) * pK) &&& 31).toUInt32).toInt32) &&& (3 : Int32)))] [(.int (13 : Int32))]))
    refine own_retN X0 hx (t := .byte) (rest := []) Bd.returns (by decide) (by simp) (hb hby d1_25) e0 (Bd.notSynchronized) ?_ (by decide) (by decide)
    exact ⟨by unfold own_pick; rw [if_neg hc11_1, if_pos hc20_2], N0, rfl⟩
  refine own_back ?_ (fun t k => XS.icmpYes X0.here hx rfl (pc0 := 20) (pc' := 26) rfl (hb hby d1_20) rfl (feq hc20_2).2 (by decide) (by decide) k)
  show own_Go p e below PO (s₁.setTop (mkF m 26 #[.val (.int pS), .val (.long jR), .second, .val (.int pK), .val (.int (((pS.toUInt32 >>> (((2 : Int32) * pK) &&& 31).toUInt32).toInt32) &&& (3 : Int32)))] []))
  refine own_back ?_ (fun t k => XS.iload X0.here hx rfl (hb hby d1_26) rfl k)
  show own_Go p e below PO (s₁.setTop (mkF m 28 #[.val (.int pS), .val (.long jR), .second, .val (.int pK), .val (.int (((pS.toUInt32 >>> (((2 : Int32) * pK) &&& 31).toUInt32).toInt32) &&& (3 : Int32)))] [(.int (((pS.toUInt32 >>> (((2 : Int32) * pK) &&& 31).toUInt32).toInt32) &&& (3 : Int32)))]))
  refine own_back ?_ (fun t k => XS.iconst X0.here hx rfl (hb hby d1_28) k)
  show own_Go p e below PO (s₁.setTop (mkF m 29 #[.val (.int pS), .val (.long jR), .second, .val (.int pK), .val (.int (((pS.toUInt32 >>> (((2 : Int32) * pK) &&& 31).toUInt32).toInt32) &&& (3 : Int32)))] [(.int (2 : Int32)), (.int (((pS.toUInt32 >>> (((2 : Int32) * pK) &&& 31).toUInt32).toInt32) &&& (3 : Int32)))]))
  by_cases hc29_3 : (((pS.toUInt32 >>> (((2 : Int32) * pK) &&& 31).toUInt32).toInt32) &&& (3 : Int32)) = (2 : Int32)
  case pos =>
    refine own_back ?_ (fun t k => XS.icmpNo X0.here hx rfl (hb hby d1_29) rfl (teq hc29_3).2 k)
    show own_Go p e below PO (s₁.setTop (mkF m 32 #[.val (.int pS), .val (.long jR), .second, .val (.int pK), .val (.int (((pS.toUInt32 >>> (((2 : Int32) * pK) &&& 31).toUInt32).toInt32) &&& (3 : Int32)))] []))
    refine own_back ?_ (fun t k => XS.bipush X0.here hx rfl (hb hby d1_32) k)
    show own_Go p e below PO (s₁.setTop (mkF m 34 #[.val (.int pS), .val (.long jR), .second, .val (.int pK), .val (.int (((pS.toUInt32 >>> (((2 : Int32) * pK) &&& 31).toUInt32).toInt32) &&& (3 : Int32)))] [(.int (97 : Int32))]))
    refine own_retN X0 hx (t := .byte) (rest := []) Bd.returns (by decide) (by simp) (hb hby d1_34) e0 (Bd.notSynchronized) ?_ (by decide) (by decide)
    exact ⟨by unfold own_pick; rw [if_neg hc11_1, if_neg hc20_2, if_pos hc29_3], N0, rfl⟩
  refine own_back ?_ (fun t k => XS.icmpYes X0.here hx rfl (pc0 := 29) (pc' := 35) rfl (hb hby d1_29) rfl (feq hc29_3).2 (by decide) (by decide) k)
  show own_Go p e below PO (s₁.setTop (mkF m 35 #[.val (.int pS), .val (.long jR), .second, .val (.int pK), .val (.int (((pS.toUInt32 >>> (((2 : Int32) * pK) &&& 31).toUInt32).toInt32) &&& (3 : Int32)))] []))
  refine own_back ?_ (fun t k => XS.lloadN X0.here hx rfl (hb hby d1_35) rfl k)
  show own_Go p e below PO (s₁.setTop (mkF m 36 #[.val (.int pS), .val (.long jR), .second, .val (.int pK), .val (.int (((pS.toUInt32 >>> (((2 : Int32) * pK) &&& 31).toUInt32).toInt32) &&& (3 : Int32)))] [(.long jR)]))
  refine own_back ?_ (fun t k => XS.bipush X0.here hx rfl (hb hby d1_36) k)
  show own_Go p e below PO (s₁.setTop (mkF m 38 #[.val (.int pS), .val (.long jR), .second, .val (.int pK), .val (.int (((pS.toUInt32 >>> (((2 : Int32) * pK) &&& 31).toUInt32).toInt32) &&& (3 : Int32)))] [(.int (8 : Int32)), (.long jR)]))
  refine own_back ?_ (fun t k => XS.iloadN X0.here hx rfl (hb hby d1_38) rfl k)
  show own_Go p e below PO (s₁.setTop (mkF m 39 #[.val (.int pS), .val (.long jR), .second, .val (.int pK), .val (.int (((pS.toUInt32 >>> (((2 : Int32) * pK) &&& 31).toUInt32).toInt32) &&& (3 : Int32)))] [(.int pK), (.int (8 : Int32)), (.long jR)]))
  refine own_back ?_ (fun t k => XS.imul X0.here hx rfl (hb hby d1_39) rfl k)
  show own_Go p e below PO (s₁.setTop (mkF m 40 #[.val (.int pS), .val (.long jR), .second, .val (.int pK), .val (.int (((pS.toUInt32 >>> (((2 : Int32) * pK) &&& 31).toUInt32).toInt32) &&& (3 : Int32)))] [(.int ((8 : Int32) * pK)), (.long jR)]))
  refine own_back ?_ (fun t k => XS.lushr X0.here hx rfl (hb hby d1_40) rfl k)
  show own_Go p e below PO (s₁.setTop (mkF m 41 #[.val (.int pS), .val (.long jR), .second, .val (.int pK), .val (.int (((pS.toUInt32 >>> (((2 : Int32) * pK) &&& 31).toUInt32).toInt32) &&& (3 : Int32)))] [(.long ((jR.toUInt64 >>> (((8 : Int32) * pK) &&& 0x3f).toInt64.toUInt64).toInt64))]))
  refine own_back ?_ (fun t k => XS.l2i X0.here hx rfl (hb hby d1_41) rfl k)
  show own_Go p e below PO (s₁.setTop (mkF m 42 #[.val (.int pS), .val (.long jR), .second, .val (.int pK), .val (.int (((pS.toUInt32 >>> (((2 : Int32) * pK) &&& 31).toUInt32).toInt32) &&& (3 : Int32)))] [(.int (((jR.toUInt64 >>> (((8 : Int32) * pK) &&& 0x3f).toInt64.toUInt64).toInt64).toInt32))]))
  refine own_back ?_ (fun t k => XS.i2b X0.here hx rfl (hb hby d1_42) rfl k)
  show own_Go p e below PO (s₁.setTop (mkF m 43 #[.val (.int pS), .val (.long jR), .second, .val (.int pK), .val (.int (((pS.toUInt32 >>> (((2 : Int32) * pK) &&& 31).toUInt32).toInt32) &&& (3 : Int32)))] [(.int ((((jR.toUInt64 >>> (((8 : Int32) * pK) &&& 0x3f).toInt64.toUInt64).toInt64).toInt32).toInt8.toInt32))]))
  refine own_retN X0 hx (t := .byte) (rest := []) Bd.returns (own_i2b _) (by simp) (hb hby d1_43) e0 (Bd.notSynchronized) ?_ (by decide) (by decide)
  exact ⟨by unfold own_pick; rw [if_neg hc11_1, if_neg hc20_2, if_neg hc29_3], N0, rfl⟩
theorem d4_0 : decode jdk_29_method_65_code 0 = .ok (.iload_n 0, 1) := by decide +kernel
theorem d4_1 : decode jdk_29_method_65_code 1 = .ok (.iload_n 1, 1) := by decide +kernel
theorem d4_2 : decode jdk_29_method_65_code 2 = .ok (.if_icmp .lt 7, 3) := by decide +kernel
theorem d4_5 : decode jdk_29_method_65_code 5 = .ok (.iload_n 0, 1) := by decide +kernel
theorem d4_6 : decode jdk_29_method_65_code 6 = .ok (.goto 4, 3) := by decide +kernel
theorem d4_9 : decode jdk_29_method_65_code 9 = .ok (.iload_n 1, 1) := by decide +kernel
theorem d4_10 : decode jdk_29_method_65_code 10 = .ok (.ireturn, 1) := by decide +kernel
theorem ef_rm4 (m : MethodId) (x0 : Int32) (x1 : Int32) : entryFrame m #[(.int x0), (.int x1)] 2 = mkF m 0 #[.val (.int x0), .val (.int x1)] [] := by first | (simp [entryFrame, mkF, argsToLocals, Value.category]; done) | rfl
def Q_rm4 (pA pB : Int32) (h0 : Heap) (n0 : Nat) (v : Option Value) (h : Heap) (L : List Loc) : Prop := v = some (.int (own_max pA pB)) ∧ Fr n0 L ∧ h = h0
set_option maxRecDepth 65536 in
set_option maxHeartbeats 40000000 in
theorem rm4 (l : Launch) (Z : State) (a0 : Array Value) (hw : ∀ d ∈ tables_1, d.before a0 Z = true) (ws : List Jvm.Cond) (pA : Int32) (pB : Int32)  (h0 : Heap) (n0 : Nat) (Z0 : n0 ≤ h0.size)  :
    MetFree l (⟨"java/lang/Math", "max", "(II)I"⟩ : MethodName) (head1 (Jvm.Cond.code (⟨"java/lang/Math", "max", "(II)I"⟩ : MethodName) jdk_29_method_65_code 2 (some .int) :: ws) ({ frames := 0, cells := 0, slots := 0, locals := 0 } : Room)) (fun a U => a = #[(.int pA), (.int pB)] ∧ Z.Warmed39 U.vm ∧ U.heap = h0) (fun _ _ _ _ _ => True) (fun _ U o U' => ∃ v L, o = .returned v ∧ Q_rm4 pA pB h0 n0 v U'.heap L ∧ FrameEnd U o U' L ({ frames := 0, cells := 0, slots := 0, locals := 0 } : Room).cells ({ frames := 0, cells := 0, slots := 0, locals := 0 } : Room).slots) := by
  refine MetFree.of_bodySF (Jvm.Free.JP.mathPlain rfl (by decide +kernel)) hisR ?_
  intro p e s m args below meth c s₁ Bd hml0 hP hK
  obtain ⟨rfl, hZ, hh⟩ := hP
  have hx := Bd.exec
  have hby := Bd.bytes
  have hml : c.maxLocals = 2 := hml0
  have hown : s.vm.findClass "java/lang/Math" = some m.cls := findClass_of_methodNamed Bd.named
  have hnm := (name_of_methodNamed Bd.named Bd.method).1
  have X0 : Stand p l e ({ frames := 0, cells := 0, slots := 0, locals := 0 } : Room) s m #[(.int pA), (.int pB)] below meth c s₁ [] 0 0 := Stand.of_body Bd
  have e0 : s₁.heap = h0 := by rw [← hh, Bd.state]; rfl
  have N0 := Fr.nil n0
  let PO : Outcome → State → Prop := own_PO s (Q_rm4 pA pB h0 n0) 0 0
  show own_Go p e below PO (s₁.setTop (entryFrame m #[(.int pA), (.int pB)] 2))
  rw [ef_rm4]
  show own_Go p e below PO (s₁.setTop (mkF m 0 #[.val (.int pA), .val (.int pB)] []))
  refine own_back ?_ (fun t k => XS.iloadN X0.here hx rfl (hb hby d4_0) rfl k)
  show own_Go p e below PO (s₁.setTop (mkF m 1 #[.val (.int pA), .val (.int pB)] [(.int pA)]))
  refine own_back ?_ (fun t k => XS.iloadN X0.here hx rfl (hb hby d4_1) rfl k)
  show own_Go p e below PO (s₁.setTop (mkF m 2 #[.val (.int pA), .val (.int pB)] [(.int pB), (.int pA)]))
  by_cases hc2_1 : pA < pB
  case pos =>
    refine own_back ?_ (fun t k => XS.icmpYes X0.here hx rfl (pc0 := 2) (pc' := 9) rfl (hb hby d4_2) rfl (tlt hc2_1).1 (by decide) (by decide) k)
    show own_Go p e below PO (s₁.setTop (mkF m 9 #[.val (.int pA), .val (.int pB)] []))
    refine own_back ?_ (fun t k => XS.iloadN X0.here hx rfl (hb hby d4_9) rfl k)
    show own_Go p e below PO (s₁.setTop (mkF m 10 #[.val (.int pA), .val (.int pB)] [(.int pB)]))
    refine own_retI X0 hx (rest := []) Bd.returns (hb hby d4_10) e0 (Bd.notSynchronized) ?_ (by decide) (by decide)
    exact ⟨by simp [own_max, hc2_1], N0, rfl⟩
  refine own_back ?_ (fun t k => XS.icmpNo X0.here hx rfl (hb hby d4_2) rfl (flt hc2_1).1 k)
  show own_Go p e below PO (s₁.setTop (mkF m 5 #[.val (.int pA), .val (.int pB)] []))
  refine own_back ?_ (fun t k => XS.iloadN X0.here hx rfl (hb hby d4_5) rfl k)
  show own_Go p e below PO (s₁.setTop (mkF m 6 #[.val (.int pA), .val (.int pB)] [(.int pA)]))
  refine own_back ?_ (fun t k => XS.goto X0.here hx rfl (pc0 := 6) (pc' := 10) rfl (hb hby d4_6) (by decide) (by decide) k)
  show own_Go p e below PO (s₁.setTop (mkF m 10 #[.val (.int pA), .val (.int pB)] [(.int pA)]))
  refine own_retI X0 hx (rest := []) Bd.returns (hb hby d4_10) e0 (Bd.notSynchronized) ?_ (by decide) (by decide)
  exact ⟨by simp [own_max, hc2_1], N0, rfl⟩
theorem d5_0 : decode method_4_code 0 = .ok (.aload_n 0, 1) := by decide +kernel
theorem d5_1 : decode method_4_code 1 = .ok (.iload_n 1, 1) := by decide +kernel
theorem d5_2 : decode method_4_code 2 = .ok (.iconst 2, 1) := by decide +kernel
theorem d5_3 : decode method_4_code 3 = .ok (.isub, 1) := by decide +kernel
theorem d5_4 : decode method_4_code 4 = .ok (.baload, 1) := by decide +kernel
theorem d5_5 : decode method_4_code 5 = .ok (.bipush 10, 2) := by decide +kernel
theorem d5_7 : decode method_4_code 7 = .ok (.if_icmp .ne 17, 3) := by decide +kernel
theorem d5_10 : decode method_4_code 10 = .ok (.aload_n 0, 1) := by decide +kernel
theorem d5_11 : decode method_4_code 11 = .ok (.iload_n 1, 1) := by decide +kernel
theorem d5_12 : decode method_4_code 12 = .ok (.iconst 1, 1) := by decide +kernel
theorem d5_13 : decode method_4_code 13 = .ok (.isub, 1) := by decide +kernel
theorem d5_14 : decode method_4_code 14 = .ok (.baload, 1) := by decide +kernel
theorem d5_15 : decode method_4_code 15 = .ok (.bipush 10, 2) := by decide +kernel
theorem d5_17 : decode method_4_code 17 = .ok (.if_icmp .ne 7, 3) := by decide +kernel
theorem d5_20 : decode method_4_code 20 = .ok (.iconst 1, 1) := by decide +kernel
theorem d5_21 : decode method_4_code 21 = .ok (.goto 4, 3) := by decide +kernel
theorem d5_24 : decode method_4_code 24 = .ok (.iconst 0, 1) := by decide +kernel
theorem d5_25 : decode method_4_code 25 = .ok (.istore_n 2, 1) := by decide +kernel
theorem d5_26 : decode method_4_code 26 = .ok (.iload_n 1, 1) := by decide +kernel
theorem d5_27 : decode method_4_code 27 = .ok (.iconst 3, 1) := by decide +kernel
theorem d5_28 : decode method_4_code 28 = .ok (.if_icmp .lt 37, 3) := by decide +kernel
theorem d5_65 : decode method_4_code 65 = .ok (.iconst 0, 1) := by decide +kernel
theorem d5_66 : decode method_4_code 66 = .ok (.istore_n 3, 1) := by decide +kernel
theorem d5_67 : decode method_4_code 67 = .ok (.iload_n 2, 1) := by decide +kernel
theorem d5_68 : decode method_4_code 68 = .ok (.ifCond .ne 7, 3) := by decide +kernel
theorem d5_71 : decode method_4_code 71 = .ok (.iload_n 3, 1) := by decide +kernel
theorem d5_72 : decode method_4_code 72 = .ok (.ifCond .eq 7, 3) := by decide +kernel
theorem d5_75 : decode method_4_code 75 = .ok (.iconst 1, 1) := by decide +kernel
theorem d5_76 : decode method_4_code 76 = .ok (.goto 4, 3) := by decide +kernel
theorem d5_79 : decode method_4_code 79 = .ok (.iconst 0, 1) := by decide +kernel
theorem d5_80 : decode method_4_code 80 = .ok (.ireturn, 1) := by decide +kernel
theorem ef_rm5_2 (m : MethodId) (x0 : Addr) (x1 : Int32) : entryFrame m #[(.ref x0), (.int x1)] 4 = mkF m 0 #[.val (.ref x0), .val (.int x1), .unset, .unset] [] := by first | (simp [entryFrame, mkF, argsToLocals, Value.category]; done) | rfl
def Q_rm5_2 (xs : List Int32) (h0 : Heap) (n0 : Nat) (v : Option Value) (h : Heap) (L : List Loc) : Prop := v = some (.int (own_ends xs 2)) ∧ Fr n0 L ∧ h = h0
set_option maxRecDepth 65536 in
set_option maxHeartbeats 40000000 in
theorem rm5_2 (l : Launch) (Z : State) (a0 : Array Value) (hw : ∀ d ∈ tables_1, d.before a0 Z = true) (ws : List Jvm.Cond) (aB : Addr) (xs : List Int32) (kB : ClassId) (h0 : Heap) (n0 : Nat) (Z0 : n0 ≤ h0.size) (VB : Arv Z h0 aB kB .byte 6 (xs.map Value.int) (.int 0)) :
    MetFree l (⟨"com/example/execd/execd/io/RequestHeadEndPinLaw", "endsAt", "([BI)Z"⟩ : MethodName) (head1 (Jvm.Cond.code (⟨"com/example/execd/execd/io/RequestHeadEndPinLaw", "endsAt", "([BI)Z"⟩ : MethodName) method_4_code 4 (some .boolean) :: ws) ({ frames := 0, cells := 0, slots := 0, locals := 0 } : Room)) (fun a U => a = #[(.ref aB), (.int (2 : Int32))] ∧ Z.Warmed39 U.vm ∧ U.heap = h0) (fun _ _ _ _ _ => True) (fun _ U o U' => ∃ v L, o = .returned v ∧ Q_rm5_2 xs h0 n0 v U'.heap L ∧ FrameEnd U o U' L ({ frames := 0, cells := 0, slots := 0, locals := 0 } : Room).cells ({ frames := 0, cells := 0, slots := 0, locals := 0 } : Room).slots) := by
  refine MetFree.of_bodySF (plainFor_of_name pn_0) hisR ?_
  intro p e s m args below meth c s₁ Bd hml0 hP hK
  obtain ⟨rfl, hZ, hh⟩ := hP
  have hx := Bd.exec
  have hby := Bd.bytes
  have hml : c.maxLocals = 4 := hml0
  have hown : s.vm.findClass "com/example/execd/execd/io/RequestHeadEndPinLaw" = some m.cls := findClass_of_methodNamed Bd.named
  have hnm := (name_of_methodNamed Bd.named Bd.method).1
  have X0 : Stand p l e ({ frames := 0, cells := 0, slots := 0, locals := 0 } : Room) s m #[(.ref aB), (.int (2 : Int32))] below meth c s₁ [] 0 0 := Stand.of_body Bd
  have e0 : s₁.heap = h0 := by rw [← hh, Bd.state]; rfl
  have N0 := Fr.nil n0
  let PO : Outcome → State → Prop := own_PO s (Q_rm5_2 xs h0 n0) 0 0
  show own_Go p e below PO (s₁.setTop (entryFrame m #[(.ref aB), (.int (2 : Int32))] 4))
  rw [ef_rm5_2]
  show own_Go p e below PO (s₁.setTop (mkF m 0 #[.val (.ref aB), .val (.int (2 : Int32)), .unset, .unset] []))
  refine own_back ?_ (fun t k => XS.aloadN X0.here hx rfl (hb hby d5_0) rfl rfl k)
  show own_Go p e below PO (s₁.setTop (mkF m 1 #[.val (.ref aB), .val (.int (2 : Int32)), .unset, .unset] [(.ref aB)]))
  refine own_back ?_ (fun t k => XS.iloadN X0.here hx rfl (hb hby d5_1) rfl k)
  show own_Go p e below PO (s₁.setTop (mkF m 2 #[.val (.ref aB), .val (.int (2 : Int32)), .unset, .unset] [(.int (2 : Int32)), (.ref aB)]))
  refine own_back ?_ (fun t k => XS.iconst X0.here hx rfl (hb hby d5_2) k)
  show own_Go p e below PO (s₁.setTop (mkF m 3 #[.val (.ref aB), .val (.int (2 : Int32)), .unset, .unset] [(.int (2 : Int32)), (.int (2 : Int32)), (.ref aB)]))
  refine own_back ?_ (fun t k => XS.isub X0.here hx rfl (hb hby d5_3) rfl k)
  show own_Go p e below PO (s₁.setTop (mkF m 4 #[.val (.ref aB), .val (.int (2 : Int32)), .unset, .unset] [(.int (0 : Int32)), (.ref aB)]))
  refine own_back ?_ (own_ldB X0 hx hZ e0 VB (j := (0 : Int32)) (v := (.int (own_at xs 0))) ⟨by decide, by decide⟩ (own_getD xs _) (g := (mkF m 4 #[.val (.ref aB), .val (.int (2 : Int32)), .unset, .unset] [(.int (0 : Int32)), (.ref aB)])) rfl rfl (hb hby d5_4))
  show own_Go p e below PO (s₁.setTop (mkF m 5 #[.val (.ref aB), .val (.int (2 : Int32)), .unset, .unset] [(.int (own_at xs 0))]))
  refine own_back ?_ (fun t k => XS.bipush X0.here hx rfl (hb hby d5_5) k)
  show own_Go p e below PO (s₁.setTop (mkF m 7 #[.val (.ref aB), .val (.int (2 : Int32)), .unset, .unset] [(.int (10 : Int32)), (.int (own_at xs 0))]))
  by_cases hc7_1 : (own_at xs 0) = (10 : Int32)
  case pos =>
    refine own_back ?_ (fun t k => XS.icmpNo X0.here hx rfl (hb hby d5_7) rfl (teq hc7_1).2 k)
    show own_Go p e below PO (s₁.setTop (mkF m 10 #[.val (.ref aB), .val (.int (2 : Int32)), .unset, .unset] []))
    refine own_back ?_ (fun t k => XS.aloadN X0.here hx rfl (hb hby d5_10) rfl rfl k)
    show own_Go p e below PO (s₁.setTop (mkF m 11 #[.val (.ref aB), .val (.int (2 : Int32)), .unset, .unset] [(.ref aB)]))
    refine own_back ?_ (fun t k => XS.iloadN X0.here hx rfl (hb hby d5_11) rfl k)
    show own_Go p e below PO (s₁.setTop (mkF m 12 #[.val (.ref aB), .val (.int (2 : Int32)), .unset, .unset] [(.int (2 : Int32)), (.ref aB)]))
    refine own_back ?_ (fun t k => XS.iconst X0.here hx rfl (hb hby d5_12) k)
    show own_Go p e below PO (s₁.setTop (mkF m 13 #[.val (.ref aB), .val (.int (2 : Int32)), .unset, .unset] [(.int (1 : Int32)), (.int (2 : Int32)), (.ref aB)]))
    refine own_back ?_ (fun t k => XS.isub X0.here hx rfl (hb hby d5_13) rfl k)
    show own_Go p e below PO (s₁.setTop (mkF m 14 #[.val (.ref aB), .val (.int (2 : Int32)), .unset, .unset] [(.int (1 : Int32)), (.ref aB)]))
    refine own_back ?_ (own_ldB X0 hx hZ e0 VB (j := (1 : Int32)) (v := (.int (own_at xs 1))) ⟨by decide, by decide⟩ (own_getD xs _) (g := (mkF m 14 #[.val (.ref aB), .val (.int (2 : Int32)), .unset, .unset] [(.int (1 : Int32)), (.ref aB)])) rfl rfl (hb hby d5_14))
    show own_Go p e below PO (s₁.setTop (mkF m 15 #[.val (.ref aB), .val (.int (2 : Int32)), .unset, .unset] [(.int (own_at xs 1))]))
    refine own_back ?_ (fun t k => XS.bipush X0.here hx rfl (hb hby d5_15) k)
    show own_Go p e below PO (s₁.setTop (mkF m 17 #[.val (.ref aB), .val (.int (2 : Int32)), .unset, .unset] [(.int (10 : Int32)), (.int (own_at xs 1))]))
    by_cases hc17_2 : (own_at xs 1) = (10 : Int32)
    case pos =>
      refine own_back ?_ (fun t k => XS.icmpNo X0.here hx rfl (hb hby d5_17) rfl (teq hc17_2).2 k)
      show own_Go p e below PO (s₁.setTop (mkF m 20 #[.val (.ref aB), .val (.int (2 : Int32)), .unset, .unset] []))
      refine own_back ?_ (fun t k => XS.iconst X0.here hx rfl (hb hby d5_20) k)
      show own_Go p e below PO (s₁.setTop (mkF m 21 #[.val (.ref aB), .val (.int (2 : Int32)), .unset, .unset] [(.int (1 : Int32))]))
      refine own_back ?_ (fun t k => XS.goto X0.here hx rfl (pc0 := 21) (pc' := 25) rfl (hb hby d5_21) (by decide) (by decide) k)
      show own_Go p e below PO (s₁.setTop (mkF m 25 #[.val (.ref aB), .val (.int (2 : Int32)), .unset, .unset] [(.int (1 : Int32))]))
      refine own_back ?_ (fun t k => XS.istoreN X0.here hx rfl (hb hby d5_25) rfl (l' := #[.val (.ref aB), .val (.int (2 : Int32)), .val (.int (1 : Int32)), .unset]) rfl k)
      show own_Go p e below PO (s₁.setTop (mkF m 26 #[.val (.ref aB), .val (.int (2 : Int32)), .val (.int (1 : Int32)), .unset] []))
      refine own_back ?_ (fun t k => XS.iloadN X0.here hx rfl (hb hby d5_26) rfl k)
      show own_Go p e below PO (s₁.setTop (mkF m 27 #[.val (.ref aB), .val (.int (2 : Int32)), .val (.int (1 : Int32)), .unset] [(.int (2 : Int32))]))
      refine own_back ?_ (fun t k => XS.iconst X0.here hx rfl (hb hby d5_27) k)
      show own_Go p e below PO (s₁.setTop (mkF m 28 #[.val (.ref aB), .val (.int (2 : Int32)), .val (.int (1 : Int32)), .unset] [(.int (3 : Int32)), (.int (2 : Int32))]))
      have hd28_3 : (2 : Int32) < (3 : Int32) := (by decide)
      refine own_back ?_ (fun t k => XS.icmpYes X0.here hx rfl (pc0 := 28) (pc' := 65) rfl (hb hby d5_28) rfl (tlt hd28_3).1 (by decide) (by decide) k)
      show own_Go p e below PO (s₁.setTop (mkF m 65 #[.val (.ref aB), .val (.int (2 : Int32)), .val (.int (1 : Int32)), .unset] []))
      refine own_back ?_ (fun t k => XS.iconst X0.here hx rfl (hb hby d5_65) k)
      show own_Go p e below PO (s₁.setTop (mkF m 66 #[.val (.ref aB), .val (.int (2 : Int32)), .val (.int (1 : Int32)), .unset] [(.int (0 : Int32))]))
      refine own_back ?_ (fun t k => XS.istoreN X0.here hx rfl (hb hby d5_66) rfl (l' := #[.val (.ref aB), .val (.int (2 : Int32)), .val (.int (1 : Int32)), .val (.int (0 : Int32))]) rfl k)
      show own_Go p e below PO (s₁.setTop (mkF m 67 #[.val (.ref aB), .val (.int (2 : Int32)), .val (.int (1 : Int32)), .val (.int (0 : Int32))] []))
      refine own_back ?_ (fun t k => XS.iloadN X0.here hx rfl (hb hby d5_67) rfl k)
      show own_Go p e below PO (s₁.setTop (mkF m 68 #[.val (.ref aB), .val (.int (2 : Int32)), .val (.int (1 : Int32)), .val (.int (0 : Int32))] [(.int (1 : Int32))]))
      have hd68_4 : ¬ ((1 : Int32) = (0 : Int32)) := (by decide)
      refine own_back ?_ (fun t k => XS.ifYes X0.here hx rfl (pc0 := 68) (pc' := 75) rfl (hb hby d5_68) rfl ((if0 _ _).trans (feq hd68_4).2) (by decide) (by decide) k)
      show own_Go p e below PO (s₁.setTop (mkF m 75 #[.val (.ref aB), .val (.int (2 : Int32)), .val (.int (1 : Int32)), .val (.int (0 : Int32))] []))
      refine own_back ?_ (fun t k => XS.iconst X0.here hx rfl (hb hby d5_75) k)
      show own_Go p e below PO (s₁.setTop (mkF m 76 #[.val (.ref aB), .val (.int (2 : Int32)), .val (.int (1 : Int32)), .val (.int (0 : Int32))] [(.int (1 : Int32))]))
      refine own_back ?_ (fun t k => XS.goto X0.here hx rfl (pc0 := 76) (pc' := 80) rfl (hb hby d5_76) (by decide) (by decide) k)
      show own_Go p e below PO (s₁.setTop (mkF m 80 #[.val (.ref aB), .val (.int (2 : Int32)), .val (.int (1 : Int32)), .val (.int (0 : Int32))] [(.int (1 : Int32))]))
      refine own_retN X0 hx (t := .boolean) (rest := []) Bd.returns (by decide) (by simp) (hb hby d5_80) e0 (Bd.notSynchronized) ?_ (by decide) (by decide)
      exact ⟨by simp [own_ends, hc7_1, hc17_2], N0, rfl⟩
    refine own_back ?_ (fun t k => XS.icmpYes X0.here hx rfl (pc0 := 17) (pc' := 24) rfl (hb hby d5_17) rfl (feq hc17_2).2 (by decide) (by decide) k)
    show own_Go p e below PO (s₁.setTop (mkF m 24 #[.val (.ref aB), .val (.int (2 : Int32)), .unset, .unset] []))
    refine own_back ?_ (fun t k => XS.iconst X0.here hx rfl (hb hby d5_24) k)
    show own_Go p e below PO (s₁.setTop (mkF m 25 #[.val (.ref aB), .val (.int (2 : Int32)), .unset, .unset] [(.int (0 : Int32))]))
    refine own_back ?_ (fun t k => XS.istoreN X0.here hx rfl (hb hby d5_25) rfl (l' := #[.val (.ref aB), .val (.int (2 : Int32)), .val (.int (0 : Int32)), .unset]) rfl k)
    show own_Go p e below PO (s₁.setTop (mkF m 26 #[.val (.ref aB), .val (.int (2 : Int32)), .val (.int (0 : Int32)), .unset] []))
    refine own_back ?_ (fun t k => XS.iloadN X0.here hx rfl (hb hby d5_26) rfl k)
    show own_Go p e below PO (s₁.setTop (mkF m 27 #[.val (.ref aB), .val (.int (2 : Int32)), .val (.int (0 : Int32)), .unset] [(.int (2 : Int32))]))
    refine own_back ?_ (fun t k => XS.iconst X0.here hx rfl (hb hby d5_27) k)
    show own_Go p e below PO (s₁.setTop (mkF m 28 #[.val (.ref aB), .val (.int (2 : Int32)), .val (.int (0 : Int32)), .unset] [(.int (3 : Int32)), (.int (2 : Int32))]))
    have hd28_5 : (2 : Int32) < (3 : Int32) := (by decide)
    refine own_back ?_ (fun t k => XS.icmpYes X0.here hx rfl (pc0 := 28) (pc' := 65) rfl (hb hby d5_28) rfl (tlt hd28_5).1 (by decide) (by decide) k)
    show own_Go p e below PO (s₁.setTop (mkF m 65 #[.val (.ref aB), .val (.int (2 : Int32)), .val (.int (0 : Int32)), .unset] []))
    refine own_back ?_ (fun t k => XS.iconst X0.here hx rfl (hb hby d5_65) k)
    show own_Go p e below PO (s₁.setTop (mkF m 66 #[.val (.ref aB), .val (.int (2 : Int32)), .val (.int (0 : Int32)), .unset] [(.int (0 : Int32))]))
    refine own_back ?_ (fun t k => XS.istoreN X0.here hx rfl (hb hby d5_66) rfl (l' := #[.val (.ref aB), .val (.int (2 : Int32)), .val (.int (0 : Int32)), .val (.int (0 : Int32))]) rfl k)
    show own_Go p e below PO (s₁.setTop (mkF m 67 #[.val (.ref aB), .val (.int (2 : Int32)), .val (.int (0 : Int32)), .val (.int (0 : Int32))] []))
    refine own_back ?_ (fun t k => XS.iloadN X0.here hx rfl (hb hby d5_67) rfl k)
    show own_Go p e below PO (s₁.setTop (mkF m 68 #[.val (.ref aB), .val (.int (2 : Int32)), .val (.int (0 : Int32)), .val (.int (0 : Int32))] [(.int (0 : Int32))]))
    refine own_back ?_ (fun t k => XS.ifNo X0.here hx rfl (hb hby d5_68) rfl ((if0 _ _).trans (teq rfl).2) k)
    show own_Go p e below PO (s₁.setTop (mkF m 71 #[.val (.ref aB), .val (.int (2 : Int32)), .val (.int (0 : Int32)), .val (.int (0 : Int32))] []))
    refine own_back ?_ (fun t k => XS.iloadN X0.here hx rfl (hb hby d5_71) rfl k)
    show own_Go p e below PO (s₁.setTop (mkF m 72 #[.val (.ref aB), .val (.int (2 : Int32)), .val (.int (0 : Int32)), .val (.int (0 : Int32))] [(.int (0 : Int32))]))
    refine own_back ?_ (fun t k => XS.ifYes X0.here hx rfl (pc0 := 72) (pc' := 79) rfl (hb hby d5_72) rfl ((if0 _ _).trans (teq rfl).1) (by decide) (by decide) k)
    show own_Go p e below PO (s₁.setTop (mkF m 79 #[.val (.ref aB), .val (.int (2 : Int32)), .val (.int (0 : Int32)), .val (.int (0 : Int32))] []))
    refine own_back ?_ (fun t k => XS.iconst X0.here hx rfl (hb hby d5_79) k)
    show own_Go p e below PO (s₁.setTop (mkF m 80 #[.val (.ref aB), .val (.int (2 : Int32)), .val (.int (0 : Int32)), .val (.int (0 : Int32))] [(.int (0 : Int32))]))
    refine own_retN X0 hx (t := .boolean) (rest := []) Bd.returns (by decide) (by simp) (hb hby d5_80) e0 (Bd.notSynchronized) ?_ (by decide) (by decide)
    exact ⟨by simp [own_ends, hc7_1, hc17_2], N0, rfl⟩
  refine own_back ?_ (fun t k => XS.icmpYes X0.here hx rfl (pc0 := 7) (pc' := 24) rfl (hb hby d5_7) rfl (feq hc7_1).2 (by decide) (by decide) k)
  show own_Go p e below PO (s₁.setTop (mkF m 24 #[.val (.ref aB), .val (.int (2 : Int32)), .unset, .unset] []))
  refine own_back ?_ (fun t k => XS.iconst X0.here hx rfl (hb hby d5_24) k)
  show own_Go p e below PO (s₁.setTop (mkF m 25 #[.val (.ref aB), .val (.int (2 : Int32)), .unset, .unset] [(.int (0 : Int32))]))
  refine own_back ?_ (fun t k => XS.istoreN X0.here hx rfl (hb hby d5_25) rfl (l' := #[.val (.ref aB), .val (.int (2 : Int32)), .val (.int (0 : Int32)), .unset]) rfl k)
  show own_Go p e below PO (s₁.setTop (mkF m 26 #[.val (.ref aB), .val (.int (2 : Int32)), .val (.int (0 : Int32)), .unset] []))
  refine own_back ?_ (fun t k => XS.iloadN X0.here hx rfl (hb hby d5_26) rfl k)
  show own_Go p e below PO (s₁.setTop (mkF m 27 #[.val (.ref aB), .val (.int (2 : Int32)), .val (.int (0 : Int32)), .unset] [(.int (2 : Int32))]))
  refine own_back ?_ (fun t k => XS.iconst X0.here hx rfl (hb hby d5_27) k)
  show own_Go p e below PO (s₁.setTop (mkF m 28 #[.val (.ref aB), .val (.int (2 : Int32)), .val (.int (0 : Int32)), .unset] [(.int (3 : Int32)), (.int (2 : Int32))]))
  have hd28_6 : (2 : Int32) < (3 : Int32) := (by decide)
  refine own_back ?_ (fun t k => XS.icmpYes X0.here hx rfl (pc0 := 28) (pc' := 65) rfl (hb hby d5_28) rfl (tlt hd28_6).1 (by decide) (by decide) k)
  show own_Go p e below PO (s₁.setTop (mkF m 65 #[.val (.ref aB), .val (.int (2 : Int32)), .val (.int (0 : Int32)), .unset] []))
  refine own_back ?_ (fun t k => XS.iconst X0.here hx rfl (hb hby d5_65) k)
  show own_Go p e below PO (s₁.setTop (mkF m 66 #[.val (.ref aB), .val (.int (2 : Int32)), .val (.int (0 : Int32)), .unset] [(.int (0 : Int32))]))
  refine own_back ?_ (fun t k => XS.istoreN X0.here hx rfl (hb hby d5_66) rfl (l' := #[.val (.ref aB), .val (.int (2 : Int32)), .val (.int (0 : Int32)), .val (.int (0 : Int32))]) rfl k)
  show own_Go p e below PO (s₁.setTop (mkF m 67 #[.val (.ref aB), .val (.int (2 : Int32)), .val (.int (0 : Int32)), .val (.int (0 : Int32))] []))
  refine own_back ?_ (fun t k => XS.iloadN X0.here hx rfl (hb hby d5_67) rfl k)
  show own_Go p e below PO (s₁.setTop (mkF m 68 #[.val (.ref aB), .val (.int (2 : Int32)), .val (.int (0 : Int32)), .val (.int (0 : Int32))] [(.int (0 : Int32))]))
  refine own_back ?_ (fun t k => XS.ifNo X0.here hx rfl (hb hby d5_68) rfl ((if0 _ _).trans (teq rfl).2) k)
  show own_Go p e below PO (s₁.setTop (mkF m 71 #[.val (.ref aB), .val (.int (2 : Int32)), .val (.int (0 : Int32)), .val (.int (0 : Int32))] []))
  refine own_back ?_ (fun t k => XS.iloadN X0.here hx rfl (hb hby d5_71) rfl k)
  show own_Go p e below PO (s₁.setTop (mkF m 72 #[.val (.ref aB), .val (.int (2 : Int32)), .val (.int (0 : Int32)), .val (.int (0 : Int32))] [(.int (0 : Int32))]))
  refine own_back ?_ (fun t k => XS.ifYes X0.here hx rfl (pc0 := 72) (pc' := 79) rfl (hb hby d5_72) rfl ((if0 _ _).trans (teq rfl).1) (by decide) (by decide) k)
  show own_Go p e below PO (s₁.setTop (mkF m 79 #[.val (.ref aB), .val (.int (2 : Int32)), .val (.int (0 : Int32)), .val (.int (0 : Int32))] []))
  refine own_back ?_ (fun t k => XS.iconst X0.here hx rfl (hb hby d5_79) k)
  show own_Go p e below PO (s₁.setTop (mkF m 80 #[.val (.ref aB), .val (.int (2 : Int32)), .val (.int (0 : Int32)), .val (.int (0 : Int32))] [(.int (0 : Int32))]))
  refine own_retN X0 hx (t := .boolean) (rest := []) Bd.returns (by decide) (by simp) (hb hby d5_80) e0 (Bd.notSynchronized) ?_ (by decide) (by decide)
  exact ⟨by simp [own_ends, hc7_1], N0, rfl⟩
theorem d5_31 : decode method_4_code 31 = .ok (.aload_n 0, 1) := by decide +kernel
theorem d5_32 : decode method_4_code 32 = .ok (.iload_n 1, 1) := by decide +kernel
theorem d5_33 : decode method_4_code 33 = .ok (.iconst 3, 1) := by decide +kernel
theorem d5_34 : decode method_4_code 34 = .ok (.isub, 1) := by decide +kernel
theorem d5_35 : decode method_4_code 35 = .ok (.baload, 1) := by decide +kernel
theorem d5_36 : decode method_4_code 36 = .ok (.bipush 10, 2) := by decide +kernel
theorem d5_38 : decode method_4_code 38 = .ok (.if_icmp .ne 27, 3) := by decide +kernel
theorem d5_41 : decode method_4_code 41 = .ok (.aload_n 0, 1) := by decide +kernel
theorem d5_42 : decode method_4_code 42 = .ok (.iload_n 1, 1) := by decide +kernel
theorem d5_43 : decode method_4_code 43 = .ok (.iconst 2, 1) := by decide +kernel
theorem d5_44 : decode method_4_code 44 = .ok (.isub, 1) := by decide +kernel
theorem d5_45 : decode method_4_code 45 = .ok (.baload, 1) := by decide +kernel
theorem d5_46 : decode method_4_code 46 = .ok (.bipush 13, 2) := by decide +kernel
theorem d5_48 : decode method_4_code 48 = .ok (.if_icmp .ne 17, 3) := by decide +kernel
theorem d5_51 : decode method_4_code 51 = .ok (.aload_n 0, 1) := by decide +kernel
theorem d5_52 : decode method_4_code 52 = .ok (.iload_n 1, 1) := by decide +kernel
theorem d5_53 : decode method_4_code 53 = .ok (.iconst 1, 1) := by decide +kernel
theorem d5_54 : decode method_4_code 54 = .ok (.isub, 1) := by decide +kernel
theorem d5_55 : decode method_4_code 55 = .ok (.baload, 1) := by decide +kernel
theorem d5_56 : decode method_4_code 56 = .ok (.bipush 10, 2) := by decide +kernel
theorem d5_58 : decode method_4_code 58 = .ok (.if_icmp .ne 7, 3) := by decide +kernel
theorem d5_61 : decode method_4_code 61 = .ok (.iconst 1, 1) := by decide +kernel
theorem d5_62 : decode method_4_code 62 = .ok (.goto 4, 3) := by decide +kernel
theorem ef_rm5_3 (m : MethodId) (x0 : Addr) (x1 : Int32) : entryFrame m #[(.ref x0), (.int x1)] 4 = mkF m 0 #[.val (.ref x0), .val (.int x1), .unset, .unset] [] := by first | (simp [entryFrame, mkF, argsToLocals, Value.category]; done) | rfl
def Q_rm5_3 (xs : List Int32) (h0 : Heap) (n0 : Nat) (v : Option Value) (h : Heap) (L : List Loc) : Prop := v = some (.int (own_ends xs 3)) ∧ Fr n0 L ∧ h = h0
set_option maxRecDepth 65536 in
set_option maxHeartbeats 40000000 in
theorem rm5_3 (l : Launch) (Z : State) (a0 : Array Value) (hw : ∀ d ∈ tables_1, d.before a0 Z = true) (ws : List Jvm.Cond) (aB : Addr) (xs : List Int32) (kB : ClassId) (h0 : Heap) (n0 : Nat) (Z0 : n0 ≤ h0.size) (VB : Arv Z h0 aB kB .byte 6 (xs.map Value.int) (.int 0)) :
    MetFree l (⟨"com/example/execd/execd/io/RequestHeadEndPinLaw", "endsAt", "([BI)Z"⟩ : MethodName) (head1 (Jvm.Cond.code (⟨"com/example/execd/execd/io/RequestHeadEndPinLaw", "endsAt", "([BI)Z"⟩ : MethodName) method_4_code 4 (some .boolean) :: ws) ({ frames := 0, cells := 0, slots := 0, locals := 0 } : Room)) (fun a U => a = #[(.ref aB), (.int (3 : Int32))] ∧ Z.Warmed39 U.vm ∧ U.heap = h0) (fun _ _ _ _ _ => True) (fun _ U o U' => ∃ v L, o = .returned v ∧ Q_rm5_3 xs h0 n0 v U'.heap L ∧ FrameEnd U o U' L ({ frames := 0, cells := 0, slots := 0, locals := 0 } : Room).cells ({ frames := 0, cells := 0, slots := 0, locals := 0 } : Room).slots) := by
  refine MetFree.of_bodySF (plainFor_of_name pn_0) hisR ?_
  intro p e s m args below meth c s₁ Bd hml0 hP hK
  obtain ⟨rfl, hZ, hh⟩ := hP
  have hx := Bd.exec
  have hby := Bd.bytes
  have hml : c.maxLocals = 4 := hml0
  have hown : s.vm.findClass "com/example/execd/execd/io/RequestHeadEndPinLaw" = some m.cls := findClass_of_methodNamed Bd.named
  have hnm := (name_of_methodNamed Bd.named Bd.method).1
  have X0 : Stand p l e ({ frames := 0, cells := 0, slots := 0, locals := 0 } : Room) s m #[(.ref aB), (.int (3 : Int32))] below meth c s₁ [] 0 0 := Stand.of_body Bd
  have e0 : s₁.heap = h0 := by rw [← hh, Bd.state]; rfl
  have N0 := Fr.nil n0
  let PO : Outcome → State → Prop := own_PO s (Q_rm5_3 xs h0 n0) 0 0
  show own_Go p e below PO (s₁.setTop (entryFrame m #[(.ref aB), (.int (3 : Int32))] 4))
  rw [ef_rm5_3]
  show own_Go p e below PO (s₁.setTop (mkF m 0 #[.val (.ref aB), .val (.int (3 : Int32)), .unset, .unset] []))
  refine own_back ?_ (fun t k => XS.aloadN X0.here hx rfl (hb hby d5_0) rfl rfl k)
  show own_Go p e below PO (s₁.setTop (mkF m 1 #[.val (.ref aB), .val (.int (3 : Int32)), .unset, .unset] [(.ref aB)]))
  refine own_back ?_ (fun t k => XS.iloadN X0.here hx rfl (hb hby d5_1) rfl k)
  show own_Go p e below PO (s₁.setTop (mkF m 2 #[.val (.ref aB), .val (.int (3 : Int32)), .unset, .unset] [(.int (3 : Int32)), (.ref aB)]))
  refine own_back ?_ (fun t k => XS.iconst X0.here hx rfl (hb hby d5_2) k)
  show own_Go p e below PO (s₁.setTop (mkF m 3 #[.val (.ref aB), .val (.int (3 : Int32)), .unset, .unset] [(.int (2 : Int32)), (.int (3 : Int32)), (.ref aB)]))
  refine own_back ?_ (fun t k => XS.isub X0.here hx rfl (hb hby d5_3) rfl k)
  show own_Go p e below PO (s₁.setTop (mkF m 4 #[.val (.ref aB), .val (.int (3 : Int32)), .unset, .unset] [(.int (1 : Int32)), (.ref aB)]))
  refine own_back ?_ (own_ldB X0 hx hZ e0 VB (j := (1 : Int32)) (v := (.int (own_at xs 1))) ⟨by decide, by decide⟩ (own_getD xs _) (g := (mkF m 4 #[.val (.ref aB), .val (.int (3 : Int32)), .unset, .unset] [(.int (1 : Int32)), (.ref aB)])) rfl rfl (hb hby d5_4))
  show own_Go p e below PO (s₁.setTop (mkF m 5 #[.val (.ref aB), .val (.int (3 : Int32)), .unset, .unset] [(.int (own_at xs 1))]))
  refine own_back ?_ (fun t k => XS.bipush X0.here hx rfl (hb hby d5_5) k)
  show own_Go p e below PO (s₁.setTop (mkF m 7 #[.val (.ref aB), .val (.int (3 : Int32)), .unset, .unset] [(.int (10 : Int32)), (.int (own_at xs 1))]))
  by_cases hc7_1 : (own_at xs 1) = (10 : Int32)
  case pos =>
    refine own_back ?_ (fun t k => XS.icmpNo X0.here hx rfl (hb hby d5_7) rfl (teq hc7_1).2 k)
    show own_Go p e below PO (s₁.setTop (mkF m 10 #[.val (.ref aB), .val (.int (3 : Int32)), .unset, .unset] []))
    refine own_back ?_ (fun t k => XS.aloadN X0.here hx rfl (hb hby d5_10) rfl rfl k)
    show own_Go p e below PO (s₁.setTop (mkF m 11 #[.val (.ref aB), .val (.int (3 : Int32)), .unset, .unset] [(.ref aB)]))
    refine own_back ?_ (fun t k => XS.iloadN X0.here hx rfl (hb hby d5_11) rfl k)
    show own_Go p e below PO (s₁.setTop (mkF m 12 #[.val (.ref aB), .val (.int (3 : Int32)), .unset, .unset] [(.int (3 : Int32)), (.ref aB)]))
    refine own_back ?_ (fun t k => XS.iconst X0.here hx rfl (hb hby d5_12) k)
    show own_Go p e below PO (s₁.setTop (mkF m 13 #[.val (.ref aB), .val (.int (3 : Int32)), .unset, .unset] [(.int (1 : Int32)), (.int (3 : Int32)), (.ref aB)]))
    refine own_back ?_ (fun t k => XS.isub X0.here hx rfl (hb hby d5_13) rfl k)
    show own_Go p e below PO (s₁.setTop (mkF m 14 #[.val (.ref aB), .val (.int (3 : Int32)), .unset, .unset] [(.int (2 : Int32)), (.ref aB)]))
    refine own_back ?_ (own_ldB X0 hx hZ e0 VB (j := (2 : Int32)) (v := (.int (own_at xs 2))) ⟨by decide, by decide⟩ (own_getD xs _) (g := (mkF m 14 #[.val (.ref aB), .val (.int (3 : Int32)), .unset, .unset] [(.int (2 : Int32)), (.ref aB)])) rfl rfl (hb hby d5_14))
    show own_Go p e below PO (s₁.setTop (mkF m 15 #[.val (.ref aB), .val (.int (3 : Int32)), .unset, .unset] [(.int (own_at xs 2))]))
    refine own_back ?_ (fun t k => XS.bipush X0.here hx rfl (hb hby d5_15) k)
    show own_Go p e below PO (s₁.setTop (mkF m 17 #[.val (.ref aB), .val (.int (3 : Int32)), .unset, .unset] [(.int (10 : Int32)), (.int (own_at xs 2))]))
    by_cases hc17_2 : (own_at xs 2) = (10 : Int32)
    case pos =>
      refine own_back ?_ (fun t k => XS.icmpNo X0.here hx rfl (hb hby d5_17) rfl (teq hc17_2).2 k)
      show own_Go p e below PO (s₁.setTop (mkF m 20 #[.val (.ref aB), .val (.int (3 : Int32)), .unset, .unset] []))
      refine own_back ?_ (fun t k => XS.iconst X0.here hx rfl (hb hby d5_20) k)
      show own_Go p e below PO (s₁.setTop (mkF m 21 #[.val (.ref aB), .val (.int (3 : Int32)), .unset, .unset] [(.int (1 : Int32))]))
      refine own_back ?_ (fun t k => XS.goto X0.here hx rfl (pc0 := 21) (pc' := 25) rfl (hb hby d5_21) (by decide) (by decide) k)
      show own_Go p e below PO (s₁.setTop (mkF m 25 #[.val (.ref aB), .val (.int (3 : Int32)), .unset, .unset] [(.int (1 : Int32))]))
      refine own_back ?_ (fun t k => XS.istoreN X0.here hx rfl (hb hby d5_25) rfl (l' := #[.val (.ref aB), .val (.int (3 : Int32)), .val (.int (1 : Int32)), .unset]) rfl k)
      show own_Go p e below PO (s₁.setTop (mkF m 26 #[.val (.ref aB), .val (.int (3 : Int32)), .val (.int (1 : Int32)), .unset] []))
      refine own_back ?_ (fun t k => XS.iloadN X0.here hx rfl (hb hby d5_26) rfl k)
      show own_Go p e below PO (s₁.setTop (mkF m 27 #[.val (.ref aB), .val (.int (3 : Int32)), .val (.int (1 : Int32)), .unset] [(.int (3 : Int32))]))
      refine own_back ?_ (fun t k => XS.iconst X0.here hx rfl (hb hby d5_27) k)
      show own_Go p e below PO (s₁.setTop (mkF m 28 #[.val (.ref aB), .val (.int (3 : Int32)), .val (.int (1 : Int32)), .unset] [(.int (3 : Int32)), (.int (3 : Int32))]))
      refine own_back ?_ (fun t k => XS.icmpNo X0.here hx rfl (hb hby d5_28) rfl (flt Int32.lt_irrefl).1 k)
      show own_Go p e below PO (s₁.setTop (mkF m 31 #[.val (.ref aB), .val (.int (3 : Int32)), .val (.int (1 : Int32)), .unset] []))
      refine own_back ?_ (fun t k => XS.aloadN X0.here hx rfl (hb hby d5_31) rfl rfl k)
      show own_Go p e below PO (s₁.setTop (mkF m 32 #[.val (.ref aB), .val (.int (3 : Int32)), .val (.int (1 : Int32)), .unset] [(.ref aB)]))
      refine own_back ?_ (fun t k => XS.iloadN X0.here hx rfl (hb hby d5_32) rfl k)
      show own_Go p e below PO (s₁.setTop (mkF m 33 #[.val (.ref aB), .val (.int (3 : Int32)), .val (.int (1 : Int32)), .unset] [(.int (3 : Int32)), (.ref aB)]))
      refine own_back ?_ (fun t k => XS.iconst X0.here hx rfl (hb hby d5_33) k)
      show own_Go p e below PO (s₁.setTop (mkF m 34 #[.val (.ref aB), .val (.int (3 : Int32)), .val (.int (1 : Int32)), .unset] [(.int (3 : Int32)), (.int (3 : Int32)), (.ref aB)]))
      refine own_back ?_ (fun t k => XS.isub X0.here hx rfl (hb hby d5_34) rfl k)
      show own_Go p e below PO (s₁.setTop (mkF m 35 #[.val (.ref aB), .val (.int (3 : Int32)), .val (.int (1 : Int32)), .unset] [(.int (0 : Int32)), (.ref aB)]))
      refine own_back ?_ (own_ldB X0 hx hZ e0 VB (j := (0 : Int32)) (v := (.int (own_at xs 0))) ⟨by decide, by decide⟩ (own_getD xs _) (g := (mkF m 35 #[.val (.ref aB), .val (.int (3 : Int32)), .val (.int (1 : Int32)), .unset] [(.int (0 : Int32)), (.ref aB)])) rfl rfl (hb hby d5_35))
      show own_Go p e below PO (s₁.setTop (mkF m 36 #[.val (.ref aB), .val (.int (3 : Int32)), .val (.int (1 : Int32)), .unset] [(.int (own_at xs 0))]))
      refine own_back ?_ (fun t k => XS.bipush X0.here hx rfl (hb hby d5_36) k)
      show own_Go p e below PO (s₁.setTop (mkF m 38 #[.val (.ref aB), .val (.int (3 : Int32)), .val (.int (1 : Int32)), .unset] [(.int (10 : Int32)), (.int (own_at xs 0))]))
      by_cases hc38_3 : (own_at xs 0) = (10 : Int32)
      case pos =>
        refine own_back ?_ (fun t k => XS.icmpNo X0.here hx rfl (hb hby d5_38) rfl (teq hc38_3).2 k)
        show own_Go p e below PO (s₁.setTop (mkF m 41 #[.val (.ref aB), .val (.int (3 : Int32)), .val (.int (1 : Int32)), .unset] []))
        refine own_back ?_ (fun t k => XS.aloadN X0.here hx rfl (hb hby d5_41) rfl rfl k)
        show own_Go p e below PO (s₁.setTop (mkF m 42 #[.val (.ref aB), .val (.int (3 : Int32)), .val (.int (1 : Int32)), .unset] [(.ref aB)]))
        refine own_back ?_ (fun t k => XS.iloadN X0.here hx rfl (hb hby d5_42) rfl k)
        show own_Go p e below PO (s₁.setTop (mkF m 43 #[.val (.ref aB), .val (.int (3 : Int32)), .val (.int (1 : Int32)), .unset] [(.int (3 : Int32)), (.ref aB)]))
        refine own_back ?_ (fun t k => XS.iconst X0.here hx rfl (hb hby d5_43) k)
        show own_Go p e below PO (s₁.setTop (mkF m 44 #[.val (.ref aB), .val (.int (3 : Int32)), .val (.int (1 : Int32)), .unset] [(.int (2 : Int32)), (.int (3 : Int32)), (.ref aB)]))
        refine own_back ?_ (fun t k => XS.isub X0.here hx rfl (hb hby d5_44) rfl k)
        show own_Go p e below PO (s₁.setTop (mkF m 45 #[.val (.ref aB), .val (.int (3 : Int32)), .val (.int (1 : Int32)), .unset] [(.int (1 : Int32)), (.ref aB)]))
        refine own_back ?_ (own_ldB X0 hx hZ e0 VB (j := (1 : Int32)) (v := (.int (own_at xs 1))) ⟨by decide, by decide⟩ (own_getD xs _) (g := (mkF m 45 #[.val (.ref aB), .val (.int (3 : Int32)), .val (.int (1 : Int32)), .unset] [(.int (1 : Int32)), (.ref aB)])) rfl rfl (hb hby d5_45))
        show own_Go p e below PO (s₁.setTop (mkF m 46 #[.val (.ref aB), .val (.int (3 : Int32)), .val (.int (1 : Int32)), .unset] [(.int (own_at xs 1))]))
        refine own_back ?_ (fun t k => XS.bipush X0.here hx rfl (hb hby d5_46) k)
        show own_Go p e below PO (s₁.setTop (mkF m 48 #[.val (.ref aB), .val (.int (3 : Int32)), .val (.int (1 : Int32)), .unset] [(.int (13 : Int32)), (.int (own_at xs 1))]))
        by_cases hc48_4 : (own_at xs 1) = (13 : Int32)
        case pos =>
          refine own_back ?_ (fun t k => XS.icmpNo X0.here hx rfl (hb hby d5_48) rfl (teq hc48_4).2 k)
          show own_Go p e below PO (s₁.setTop (mkF m 51 #[.val (.ref aB), .val (.int (3 : Int32)), .val (.int (1 : Int32)), .unset] []))
          refine own_back ?_ (fun t k => XS.aloadN X0.here hx rfl (hb hby d5_51) rfl rfl k)
          show own_Go p e below PO (s₁.setTop (mkF m 52 #[.val (.ref aB), .val (.int (3 : Int32)), .val (.int (1 : Int32)), .unset] [(.ref aB)]))
          refine own_back ?_ (fun t k => XS.iloadN X0.here hx rfl (hb hby d5_52) rfl k)
          show own_Go p e below PO (s₁.setTop (mkF m 53 #[.val (.ref aB), .val (.int (3 : Int32)), .val (.int (1 : Int32)), .unset] [(.int (3 : Int32)), (.ref aB)]))
          refine own_back ?_ (fun t k => XS.iconst X0.here hx rfl (hb hby d5_53) k)
          show own_Go p e below PO (s₁.setTop (mkF m 54 #[.val (.ref aB), .val (.int (3 : Int32)), .val (.int (1 : Int32)), .unset] [(.int (1 : Int32)), (.int (3 : Int32)), (.ref aB)]))
          refine own_back ?_ (fun t k => XS.isub X0.here hx rfl (hb hby d5_54) rfl k)
          show own_Go p e below PO (s₁.setTop (mkF m 55 #[.val (.ref aB), .val (.int (3 : Int32)), .val (.int (1 : Int32)), .unset] [(.int (2 : Int32)), (.ref aB)]))
          refine own_back ?_ (own_ldB X0 hx hZ e0 VB (j := (2 : Int32)) (v := (.int (own_at xs 2))) ⟨by decide, by decide⟩ (own_getD xs _) (g := (mkF m 55 #[.val (.ref aB), .val (.int (3 : Int32)), .val (.int (1 : Int32)), .unset] [(.int (2 : Int32)), (.ref aB)])) rfl rfl (hb hby d5_55))
          show own_Go p e below PO (s₁.setTop (mkF m 56 #[.val (.ref aB), .val (.int (3 : Int32)), .val (.int (1 : Int32)), .unset] [(.int (own_at xs 2))]))
          refine own_back ?_ (fun t k => XS.bipush X0.here hx rfl (hb hby d5_56) k)
          show own_Go p e below PO (s₁.setTop (mkF m 58 #[.val (.ref aB), .val (.int (3 : Int32)), .val (.int (1 : Int32)), .unset] [(.int (10 : Int32)), (.int (own_at xs 2))]))
          by_cases hc58_5 : (own_at xs 2) = (10 : Int32)
          case pos =>
            refine own_back ?_ (fun t k => XS.icmpNo X0.here hx rfl (hb hby d5_58) rfl (teq hc58_5).2 k)
            show own_Go p e below PO (s₁.setTop (mkF m 61 #[.val (.ref aB), .val (.int (3 : Int32)), .val (.int (1 : Int32)), .unset] []))
            refine own_back ?_ (fun t k => XS.iconst X0.here hx rfl (hb hby d5_61) k)
            show own_Go p e below PO (s₁.setTop (mkF m 62 #[.val (.ref aB), .val (.int (3 : Int32)), .val (.int (1 : Int32)), .unset] [(.int (1 : Int32))]))
            refine own_back ?_ (fun t k => XS.goto X0.here hx rfl (pc0 := 62) (pc' := 66) rfl (hb hby d5_62) (by decide) (by decide) k)
            show own_Go p e below PO (s₁.setTop (mkF m 66 #[.val (.ref aB), .val (.int (3 : Int32)), .val (.int (1 : Int32)), .unset] [(.int (1 : Int32))]))
            refine own_back ?_ (fun t k => XS.istoreN X0.here hx rfl (hb hby d5_66) rfl (l' := #[.val (.ref aB), .val (.int (3 : Int32)), .val (.int (1 : Int32)), .val (.int (1 : Int32))]) rfl k)
            show own_Go p e below PO (s₁.setTop (mkF m 67 #[.val (.ref aB), .val (.int (3 : Int32)), .val (.int (1 : Int32)), .val (.int (1 : Int32))] []))
            refine own_back ?_ (fun t k => XS.iloadN X0.here hx rfl (hb hby d5_67) rfl k)
            show own_Go p e below PO (s₁.setTop (mkF m 68 #[.val (.ref aB), .val (.int (3 : Int32)), .val (.int (1 : Int32)), .val (.int (1 : Int32))] [(.int (1 : Int32))]))
            have hd68_6 : ¬ ((1 : Int32) = (0 : Int32)) := (by decide)
            refine own_back ?_ (fun t k => XS.ifYes X0.here hx rfl (pc0 := 68) (pc' := 75) rfl (hb hby d5_68) rfl ((if0 _ _).trans (feq hd68_6).2) (by decide) (by decide) k)
            show own_Go p e below PO (s₁.setTop (mkF m 75 #[.val (.ref aB), .val (.int (3 : Int32)), .val (.int (1 : Int32)), .val (.int (1 : Int32))] []))
            refine own_back ?_ (fun t k => XS.iconst X0.here hx rfl (hb hby d5_75) k)
            show own_Go p e below PO (s₁.setTop (mkF m 76 #[.val (.ref aB), .val (.int (3 : Int32)), .val (.int (1 : Int32)), .val (.int (1 : Int32))] [(.int (1 : Int32))]))
            refine own_back ?_ (fun t k => XS.goto X0.here hx rfl (pc0 := 76) (pc' := 80) rfl (hb hby d5_76) (by decide) (by decide) k)
            show own_Go p e below PO (s₁.setTop (mkF m 80 #[.val (.ref aB), .val (.int (3 : Int32)), .val (.int (1 : Int32)), .val (.int (1 : Int32))] [(.int (1 : Int32))]))
            refine own_retN X0 hx (t := .boolean) (rest := []) Bd.returns (by decide) (by simp) (hb hby d5_80) e0 (Bd.notSynchronized) ?_ (by decide) (by decide)
            exact ⟨by simp [own_ends, hc7_1, hc17_2, hc38_3, hc48_4, hc58_5], N0, rfl⟩
          refine own_back ?_ (fun t k => XS.icmpYes X0.here hx rfl (pc0 := 58) (pc' := 65) rfl (hb hby d5_58) rfl (feq hc58_5).2 (by decide) (by decide) k)
          show own_Go p e below PO (s₁.setTop (mkF m 65 #[.val (.ref aB), .val (.int (3 : Int32)), .val (.int (1 : Int32)), .unset] []))
          refine own_back ?_ (fun t k => XS.iconst X0.here hx rfl (hb hby d5_65) k)
          show own_Go p e below PO (s₁.setTop (mkF m 66 #[.val (.ref aB), .val (.int (3 : Int32)), .val (.int (1 : Int32)), .unset] [(.int (0 : Int32))]))
          refine own_back ?_ (fun t k => XS.istoreN X0.here hx rfl (hb hby d5_66) rfl (l' := #[.val (.ref aB), .val (.int (3 : Int32)), .val (.int (1 : Int32)), .val (.int (0 : Int32))]) rfl k)
          show own_Go p e below PO (s₁.setTop (mkF m 67 #[.val (.ref aB), .val (.int (3 : Int32)), .val (.int (1 : Int32)), .val (.int (0 : Int32))] []))
          refine own_back ?_ (fun t k => XS.iloadN X0.here hx rfl (hb hby d5_67) rfl k)
          show own_Go p e below PO (s₁.setTop (mkF m 68 #[.val (.ref aB), .val (.int (3 : Int32)), .val (.int (1 : Int32)), .val (.int (0 : Int32))] [(.int (1 : Int32))]))
          have hd68_7 : ¬ ((1 : Int32) = (0 : Int32)) := (by decide)
          refine own_back ?_ (fun t k => XS.ifYes X0.here hx rfl (pc0 := 68) (pc' := 75) rfl (hb hby d5_68) rfl ((if0 _ _).trans (feq hd68_7).2) (by decide) (by decide) k)
          show own_Go p e below PO (s₁.setTop (mkF m 75 #[.val (.ref aB), .val (.int (3 : Int32)), .val (.int (1 : Int32)), .val (.int (0 : Int32))] []))
          refine own_back ?_ (fun t k => XS.iconst X0.here hx rfl (hb hby d5_75) k)
          show own_Go p e below PO (s₁.setTop (mkF m 76 #[.val (.ref aB), .val (.int (3 : Int32)), .val (.int (1 : Int32)), .val (.int (0 : Int32))] [(.int (1 : Int32))]))
          refine own_back ?_ (fun t k => XS.goto X0.here hx rfl (pc0 := 76) (pc' := 80) rfl (hb hby d5_76) (by decide) (by decide) k)
          show own_Go p e below PO (s₁.setTop (mkF m 80 #[.val (.ref aB), .val (.int (3 : Int32)), .val (.int (1 : Int32)), .val (.int (0 : Int32))] [(.int (1 : Int32))]))
          refine own_retN X0 hx (t := .boolean) (rest := []) Bd.returns (by decide) (by simp) (hb hby d5_80) e0 (Bd.notSynchronized) ?_ (by decide) (by decide)
          exact ⟨by simp [own_ends, hc7_1, hc17_2, hc38_3, hc48_4, hc58_5], N0, rfl⟩
        refine own_back ?_ (fun t k => XS.icmpYes X0.here hx rfl (pc0 := 48) (pc' := 65) rfl (hb hby d5_48) rfl (feq hc48_4).2 (by decide) (by decide) k)
        show own_Go p e below PO (s₁.setTop (mkF m 65 #[.val (.ref aB), .val (.int (3 : Int32)), .val (.int (1 : Int32)), .unset] []))
        refine own_back ?_ (fun t k => XS.iconst X0.here hx rfl (hb hby d5_65) k)
        show own_Go p e below PO (s₁.setTop (mkF m 66 #[.val (.ref aB), .val (.int (3 : Int32)), .val (.int (1 : Int32)), .unset] [(.int (0 : Int32))]))
        refine own_back ?_ (fun t k => XS.istoreN X0.here hx rfl (hb hby d5_66) rfl (l' := #[.val (.ref aB), .val (.int (3 : Int32)), .val (.int (1 : Int32)), .val (.int (0 : Int32))]) rfl k)
        show own_Go p e below PO (s₁.setTop (mkF m 67 #[.val (.ref aB), .val (.int (3 : Int32)), .val (.int (1 : Int32)), .val (.int (0 : Int32))] []))
        refine own_back ?_ (fun t k => XS.iloadN X0.here hx rfl (hb hby d5_67) rfl k)
        show own_Go p e below PO (s₁.setTop (mkF m 68 #[.val (.ref aB), .val (.int (3 : Int32)), .val (.int (1 : Int32)), .val (.int (0 : Int32))] [(.int (1 : Int32))]))
        have hd68_8 : ¬ ((1 : Int32) = (0 : Int32)) := (by decide)
        refine own_back ?_ (fun t k => XS.ifYes X0.here hx rfl (pc0 := 68) (pc' := 75) rfl (hb hby d5_68) rfl ((if0 _ _).trans (feq hd68_8).2) (by decide) (by decide) k)
        show own_Go p e below PO (s₁.setTop (mkF m 75 #[.val (.ref aB), .val (.int (3 : Int32)), .val (.int (1 : Int32)), .val (.int (0 : Int32))] []))
        refine own_back ?_ (fun t k => XS.iconst X0.here hx rfl (hb hby d5_75) k)
        show own_Go p e below PO (s₁.setTop (mkF m 76 #[.val (.ref aB), .val (.int (3 : Int32)), .val (.int (1 : Int32)), .val (.int (0 : Int32))] [(.int (1 : Int32))]))
        refine own_back ?_ (fun t k => XS.goto X0.here hx rfl (pc0 := 76) (pc' := 80) rfl (hb hby d5_76) (by decide) (by decide) k)
        show own_Go p e below PO (s₁.setTop (mkF m 80 #[.val (.ref aB), .val (.int (3 : Int32)), .val (.int (1 : Int32)), .val (.int (0 : Int32))] [(.int (1 : Int32))]))
        refine own_retN X0 hx (t := .boolean) (rest := []) Bd.returns (by decide) (by simp) (hb hby d5_80) e0 (Bd.notSynchronized) ?_ (by decide) (by decide)
        exact ⟨by simp [own_ends, hc7_1, hc17_2, hc38_3, hc48_4], N0, rfl⟩
      refine own_back ?_ (fun t k => XS.icmpYes X0.here hx rfl (pc0 := 38) (pc' := 65) rfl (hb hby d5_38) rfl (feq hc38_3).2 (by decide) (by decide) k)
      show own_Go p e below PO (s₁.setTop (mkF m 65 #[.val (.ref aB), .val (.int (3 : Int32)), .val (.int (1 : Int32)), .unset] []))
      refine own_back ?_ (fun t k => XS.iconst X0.here hx rfl (hb hby d5_65) k)
      show own_Go p e below PO (s₁.setTop (mkF m 66 #[.val (.ref aB), .val (.int (3 : Int32)), .val (.int (1 : Int32)), .unset] [(.int (0 : Int32))]))
      refine own_back ?_ (fun t k => XS.istoreN X0.here hx rfl (hb hby d5_66) rfl (l' := #[.val (.ref aB), .val (.int (3 : Int32)), .val (.int (1 : Int32)), .val (.int (0 : Int32))]) rfl k)
      show own_Go p e below PO (s₁.setTop (mkF m 67 #[.val (.ref aB), .val (.int (3 : Int32)), .val (.int (1 : Int32)), .val (.int (0 : Int32))] []))
      refine own_back ?_ (fun t k => XS.iloadN X0.here hx rfl (hb hby d5_67) rfl k)
      show own_Go p e below PO (s₁.setTop (mkF m 68 #[.val (.ref aB), .val (.int (3 : Int32)), .val (.int (1 : Int32)), .val (.int (0 : Int32))] [(.int (1 : Int32))]))
      have hd68_9 : ¬ ((1 : Int32) = (0 : Int32)) := (by decide)
      refine own_back ?_ (fun t k => XS.ifYes X0.here hx rfl (pc0 := 68) (pc' := 75) rfl (hb hby d5_68) rfl ((if0 _ _).trans (feq hd68_9).2) (by decide) (by decide) k)
      show own_Go p e below PO (s₁.setTop (mkF m 75 #[.val (.ref aB), .val (.int (3 : Int32)), .val (.int (1 : Int32)), .val (.int (0 : Int32))] []))
      refine own_back ?_ (fun t k => XS.iconst X0.here hx rfl (hb hby d5_75) k)
      show own_Go p e below PO (s₁.setTop (mkF m 76 #[.val (.ref aB), .val (.int (3 : Int32)), .val (.int (1 : Int32)), .val (.int (0 : Int32))] [(.int (1 : Int32))]))
      refine own_back ?_ (fun t k => XS.goto X0.here hx rfl (pc0 := 76) (pc' := 80) rfl (hb hby d5_76) (by decide) (by decide) k)
      show own_Go p e below PO (s₁.setTop (mkF m 80 #[.val (.ref aB), .val (.int (3 : Int32)), .val (.int (1 : Int32)), .val (.int (0 : Int32))] [(.int (1 : Int32))]))
      refine own_retN X0 hx (t := .boolean) (rest := []) Bd.returns (by decide) (by simp) (hb hby d5_80) e0 (Bd.notSynchronized) ?_ (by decide) (by decide)
      exact ⟨by simp [own_ends, hc7_1, hc17_2, hc38_3], N0, rfl⟩
    refine own_back ?_ (fun t k => XS.icmpYes X0.here hx rfl (pc0 := 17) (pc' := 24) rfl (hb hby d5_17) rfl (feq hc17_2).2 (by decide) (by decide) k)
    show own_Go p e below PO (s₁.setTop (mkF m 24 #[.val (.ref aB), .val (.int (3 : Int32)), .unset, .unset] []))
    refine own_back ?_ (fun t k => XS.iconst X0.here hx rfl (hb hby d5_24) k)
    show own_Go p e below PO (s₁.setTop (mkF m 25 #[.val (.ref aB), .val (.int (3 : Int32)), .unset, .unset] [(.int (0 : Int32))]))
    refine own_back ?_ (fun t k => XS.istoreN X0.here hx rfl (hb hby d5_25) rfl (l' := #[.val (.ref aB), .val (.int (3 : Int32)), .val (.int (0 : Int32)), .unset]) rfl k)
    show own_Go p e below PO (s₁.setTop (mkF m 26 #[.val (.ref aB), .val (.int (3 : Int32)), .val (.int (0 : Int32)), .unset] []))
    refine own_back ?_ (fun t k => XS.iloadN X0.here hx rfl (hb hby d5_26) rfl k)
    show own_Go p e below PO (s₁.setTop (mkF m 27 #[.val (.ref aB), .val (.int (3 : Int32)), .val (.int (0 : Int32)), .unset] [(.int (3 : Int32))]))
    refine own_back ?_ (fun t k => XS.iconst X0.here hx rfl (hb hby d5_27) k)
    show own_Go p e below PO (s₁.setTop (mkF m 28 #[.val (.ref aB), .val (.int (3 : Int32)), .val (.int (0 : Int32)), .unset] [(.int (3 : Int32)), (.int (3 : Int32))]))
    refine own_back ?_ (fun t k => XS.icmpNo X0.here hx rfl (hb hby d5_28) rfl (flt Int32.lt_irrefl).1 k)
    show own_Go p e below PO (s₁.setTop (mkF m 31 #[.val (.ref aB), .val (.int (3 : Int32)), .val (.int (0 : Int32)), .unset] []))
    refine own_back ?_ (fun t k => XS.aloadN X0.here hx rfl (hb hby d5_31) rfl rfl k)
    show own_Go p e below PO (s₁.setTop (mkF m 32 #[.val (.ref aB), .val (.int (3 : Int32)), .val (.int (0 : Int32)), .unset] [(.ref aB)]))
    refine own_back ?_ (fun t k => XS.iloadN X0.here hx rfl (hb hby d5_32) rfl k)
    show own_Go p e below PO (s₁.setTop (mkF m 33 #[.val (.ref aB), .val (.int (3 : Int32)), .val (.int (0 : Int32)), .unset] [(.int (3 : Int32)), (.ref aB)]))
    refine own_back ?_ (fun t k => XS.iconst X0.here hx rfl (hb hby d5_33) k)
    show own_Go p e below PO (s₁.setTop (mkF m 34 #[.val (.ref aB), .val (.int (3 : Int32)), .val (.int (0 : Int32)), .unset] [(.int (3 : Int32)), (.int (3 : Int32)), (.ref aB)]))
    refine own_back ?_ (fun t k => XS.isub X0.here hx rfl (hb hby d5_34) rfl k)
    show own_Go p e below PO (s₁.setTop (mkF m 35 #[.val (.ref aB), .val (.int (3 : Int32)), .val (.int (0 : Int32)), .unset] [(.int (0 : Int32)), (.ref aB)]))
    refine own_back ?_ (own_ldB X0 hx hZ e0 VB (j := (0 : Int32)) (v := (.int (own_at xs 0))) ⟨by decide, by decide⟩ (own_getD xs _) (g := (mkF m 35 #[.val (.ref aB), .val (.int (3 : Int32)), .val (.int (0 : Int32)), .unset] [(.int (0 : Int32)), (.ref aB)])) rfl rfl (hb hby d5_35))
    show own_Go p e below PO (s₁.setTop (mkF m 36 #[.val (.ref aB), .val (.int (3 : Int32)), .val (.int (0 : Int32)), .unset] [(.int (own_at xs 0))]))
    refine own_back ?_ (fun t k => XS.bipush X0.here hx rfl (hb hby d5_36) k)
    show own_Go p e below PO (s₁.setTop (mkF m 38 #[.val (.ref aB), .val (.int (3 : Int32)), .val (.int (0 : Int32)), .unset] [(.int (10 : Int32)), (.int (own_at xs 0))]))
    by_cases hc38_10 : (own_at xs 0) = (10 : Int32)
    case pos =>
      refine own_back ?_ (fun t k => XS.icmpNo X0.here hx rfl (hb hby d5_38) rfl (teq hc38_10).2 k)
      show own_Go p e below PO (s₁.setTop (mkF m 41 #[.val (.ref aB), .val (.int (3 : Int32)), .val (.int (0 : Int32)), .unset] []))
      refine own_back ?_ (fun t k => XS.aloadN X0.here hx rfl (hb hby d5_41) rfl rfl k)
      show own_Go p e below PO (s₁.setTop (mkF m 42 #[.val (.ref aB), .val (.int (3 : Int32)), .val (.int (0 : Int32)), .unset] [(.ref aB)]))
      refine own_back ?_ (fun t k => XS.iloadN X0.here hx rfl (hb hby d5_42) rfl k)
      show own_Go p e below PO (s₁.setTop (mkF m 43 #[.val (.ref aB), .val (.int (3 : Int32)), .val (.int (0 : Int32)), .unset] [(.int (3 : Int32)), (.ref aB)]))
      refine own_back ?_ (fun t k => XS.iconst X0.here hx rfl (hb hby d5_43) k)
      show own_Go p e below PO (s₁.setTop (mkF m 44 #[.val (.ref aB), .val (.int (3 : Int32)), .val (.int (0 : Int32)), .unset] [(.int (2 : Int32)), (.int (3 : Int32)), (.ref aB)]))
      refine own_back ?_ (fun t k => XS.isub X0.here hx rfl (hb hby d5_44) rfl k)
      show own_Go p e below PO (s₁.setTop (mkF m 45 #[.val (.ref aB), .val (.int (3 : Int32)), .val (.int (0 : Int32)), .unset] [(.int (1 : Int32)), (.ref aB)]))
      refine own_back ?_ (own_ldB X0 hx hZ e0 VB (j := (1 : Int32)) (v := (.int (own_at xs 1))) ⟨by decide, by decide⟩ (own_getD xs _) (g := (mkF m 45 #[.val (.ref aB), .val (.int (3 : Int32)), .val (.int (0 : Int32)), .unset] [(.int (1 : Int32)), (.ref aB)])) rfl rfl (hb hby d5_45))
      show own_Go p e below PO (s₁.setTop (mkF m 46 #[.val (.ref aB), .val (.int (3 : Int32)), .val (.int (0 : Int32)), .unset] [(.int (own_at xs 1))]))
      refine own_back ?_ (fun t k => XS.bipush X0.here hx rfl (hb hby d5_46) k)
      show own_Go p e below PO (s₁.setTop (mkF m 48 #[.val (.ref aB), .val (.int (3 : Int32)), .val (.int (0 : Int32)), .unset] [(.int (13 : Int32)), (.int (own_at xs 1))]))
      by_cases hc48_11 : (own_at xs 1) = (13 : Int32)
      case pos =>
        refine own_back ?_ (fun t k => XS.icmpNo X0.here hx rfl (hb hby d5_48) rfl (teq hc48_11).2 k)
        show own_Go p e below PO (s₁.setTop (mkF m 51 #[.val (.ref aB), .val (.int (3 : Int32)), .val (.int (0 : Int32)), .unset] []))
        refine own_back ?_ (fun t k => XS.aloadN X0.here hx rfl (hb hby d5_51) rfl rfl k)
        show own_Go p e below PO (s₁.setTop (mkF m 52 #[.val (.ref aB), .val (.int (3 : Int32)), .val (.int (0 : Int32)), .unset] [(.ref aB)]))
        refine own_back ?_ (fun t k => XS.iloadN X0.here hx rfl (hb hby d5_52) rfl k)
        show own_Go p e below PO (s₁.setTop (mkF m 53 #[.val (.ref aB), .val (.int (3 : Int32)), .val (.int (0 : Int32)), .unset] [(.int (3 : Int32)), (.ref aB)]))
        refine own_back ?_ (fun t k => XS.iconst X0.here hx rfl (hb hby d5_53) k)
        show own_Go p e below PO (s₁.setTop (mkF m 54 #[.val (.ref aB), .val (.int (3 : Int32)), .val (.int (0 : Int32)), .unset] [(.int (1 : Int32)), (.int (3 : Int32)), (.ref aB)]))
        refine own_back ?_ (fun t k => XS.isub X0.here hx rfl (hb hby d5_54) rfl k)
        show own_Go p e below PO (s₁.setTop (mkF m 55 #[.val (.ref aB), .val (.int (3 : Int32)), .val (.int (0 : Int32)), .unset] [(.int (2 : Int32)), (.ref aB)]))
        refine own_back ?_ (own_ldB X0 hx hZ e0 VB (j := (2 : Int32)) (v := (.int (own_at xs 2))) ⟨by decide, by decide⟩ (own_getD xs _) (g := (mkF m 55 #[.val (.ref aB), .val (.int (3 : Int32)), .val (.int (0 : Int32)), .unset] [(.int (2 : Int32)), (.ref aB)])) rfl rfl (hb hby d5_55))
        show own_Go p e below PO (s₁.setTop (mkF m 56 #[.val (.ref aB), .val (.int (3 : Int32)), .val (.int (0 : Int32)), .unset] [(.int (own_at xs 2))]))
        refine own_back ?_ (fun t k => XS.bipush X0.here hx rfl (hb hby d5_56) k)
        show own_Go p e below PO (s₁.setTop (mkF m 58 #[.val (.ref aB), .val (.int (3 : Int32)), .val (.int (0 : Int32)), .unset] [(.int (10 : Int32)), (.int (own_at xs 2))]))
        by_cases hc58_12 : (own_at xs 2) = (10 : Int32)
        case pos =>
          refine own_back ?_ (fun t k => XS.icmpNo X0.here hx rfl (hb hby d5_58) rfl (teq hc58_12).2 k)
          show own_Go p e below PO (s₁.setTop (mkF m 61 #[.val (.ref aB), .val (.int (3 : Int32)), .val (.int (0 : Int32)), .unset] []))
          refine own_back ?_ (fun t k => XS.iconst X0.here hx rfl (hb hby d5_61) k)
          show own_Go p e below PO (s₁.setTop (mkF m 62 #[.val (.ref aB), .val (.int (3 : Int32)), .val (.int (0 : Int32)), .unset] [(.int (1 : Int32))]))
          refine own_back ?_ (fun t k => XS.goto X0.here hx rfl (pc0 := 62) (pc' := 66) rfl (hb hby d5_62) (by decide) (by decide) k)
          show own_Go p e below PO (s₁.setTop (mkF m 66 #[.val (.ref aB), .val (.int (3 : Int32)), .val (.int (0 : Int32)), .unset] [(.int (1 : Int32))]))
          refine own_back ?_ (fun t k => XS.istoreN X0.here hx rfl (hb hby d5_66) rfl (l' := #[.val (.ref aB), .val (.int (3 : Int32)), .val (.int (0 : Int32)), .val (.int (1 : Int32))]) rfl k)
          show own_Go p e below PO (s₁.setTop (mkF m 67 #[.val (.ref aB), .val (.int (3 : Int32)), .val (.int (0 : Int32)), .val (.int (1 : Int32))] []))
          refine own_back ?_ (fun t k => XS.iloadN X0.here hx rfl (hb hby d5_67) rfl k)
          show own_Go p e below PO (s₁.setTop (mkF m 68 #[.val (.ref aB), .val (.int (3 : Int32)), .val (.int (0 : Int32)), .val (.int (1 : Int32))] [(.int (0 : Int32))]))
          refine own_back ?_ (fun t k => XS.ifNo X0.here hx rfl (hb hby d5_68) rfl ((if0 _ _).trans (teq rfl).2) k)
          show own_Go p e below PO (s₁.setTop (mkF m 71 #[.val (.ref aB), .val (.int (3 : Int32)), .val (.int (0 : Int32)), .val (.int (1 : Int32))] []))
          refine own_back ?_ (fun t k => XS.iloadN X0.here hx rfl (hb hby d5_71) rfl k)
          show own_Go p e below PO (s₁.setTop (mkF m 72 #[.val (.ref aB), .val (.int (3 : Int32)), .val (.int (0 : Int32)), .val (.int (1 : Int32))] [(.int (1 : Int32))]))
          have hd72_13 : ¬ ((1 : Int32) = (0 : Int32)) := (by decide)
          refine own_back ?_ (fun t k => XS.ifNo X0.here hx rfl (hb hby d5_72) rfl ((if0 _ _).trans (feq hd72_13).1) k)
          show own_Go p e below PO (s₁.setTop (mkF m 75 #[.val (.ref aB), .val (.int (3 : Int32)), .val (.int (0 : Int32)), .val (.int (1 : Int32))] []))
          refine own_back ?_ (fun t k => XS.iconst X0.here hx rfl (hb hby d5_75) k)
          show own_Go p e below PO (s₁.setTop (mkF m 76 #[.val (.ref aB), .val (.int (3 : Int32)), .val (.int (0 : Int32)), .val (.int (1 : Int32))] [(.int (1 : Int32))]))
          refine own_back ?_ (fun t k => XS.goto X0.here hx rfl (pc0 := 76) (pc' := 80) rfl (hb hby d5_76) (by decide) (by decide) k)
          show own_Go p e below PO (s₁.setTop (mkF m 80 #[.val (.ref aB), .val (.int (3 : Int32)), .val (.int (0 : Int32)), .val (.int (1 : Int32))] [(.int (1 : Int32))]))
          refine own_retN X0 hx (t := .boolean) (rest := []) Bd.returns (by decide) (by simp) (hb hby d5_80) e0 (Bd.notSynchronized) ?_ (by decide) (by decide)
          exact ⟨by simp [own_ends, hc7_1, hc17_2, hc38_10, hc48_11, hc58_12], N0, rfl⟩
        refine own_back ?_ (fun t k => XS.icmpYes X0.here hx rfl (pc0 := 58) (pc' := 65) rfl (hb hby d5_58) rfl (feq hc58_12).2 (by decide) (by decide) k)
        show own_Go p e below PO (s₁.setTop (mkF m 65 #[.val (.ref aB), .val (.int (3 : Int32)), .val (.int (0 : Int32)), .unset] []))
        refine own_back ?_ (fun t k => XS.iconst X0.here hx rfl (hb hby d5_65) k)
        show own_Go p e below PO (s₁.setTop (mkF m 66 #[.val (.ref aB), .val (.int (3 : Int32)), .val (.int (0 : Int32)), .unset] [(.int (0 : Int32))]))
        refine own_back ?_ (fun t k => XS.istoreN X0.here hx rfl (hb hby d5_66) rfl (l' := #[.val (.ref aB), .val (.int (3 : Int32)), .val (.int (0 : Int32)), .val (.int (0 : Int32))]) rfl k)
        show own_Go p e below PO (s₁.setTop (mkF m 67 #[.val (.ref aB), .val (.int (3 : Int32)), .val (.int (0 : Int32)), .val (.int (0 : Int32))] []))
        refine own_back ?_ (fun t k => XS.iloadN X0.here hx rfl (hb hby d5_67) rfl k)
        show own_Go p e below PO (s₁.setTop (mkF m 68 #[.val (.ref aB), .val (.int (3 : Int32)), .val (.int (0 : Int32)), .val (.int (0 : Int32))] [(.int (0 : Int32))]))
        refine own_back ?_ (fun t k => XS.ifNo X0.here hx rfl (hb hby d5_68) rfl ((if0 _ _).trans (teq rfl).2) k)
        show own_Go p e below PO (s₁.setTop (mkF m 71 #[.val (.ref aB), .val (.int (3 : Int32)), .val (.int (0 : Int32)), .val (.int (0 : Int32))] []))
        refine own_back ?_ (fun t k => XS.iloadN X0.here hx rfl (hb hby d5_71) rfl k)
        show own_Go p e below PO (s₁.setTop (mkF m 72 #[.val (.ref aB), .val (.int (3 : Int32)), .val (.int (0 : Int32)), .val (.int (0 : Int32))] [(.int (0 : Int32))]))
        refine own_back ?_ (fun t k => XS.ifYes X0.here hx rfl (pc0 := 72) (pc' := 79) rfl (hb hby d5_72) rfl ((if0 _ _).trans (teq rfl).1) (by decide) (by decide) k)
        show own_Go p e below PO (s₁.setTop (mkF m 79 #[.val (.ref aB), .val (.int (3 : Int32)), .val (.int (0 : Int32)), .val (.int (0 : Int32))] []))
        refine own_back ?_ (fun t k => XS.iconst X0.here hx rfl (hb hby d5_79) k)
        show own_Go p e below PO (s₁.setTop (mkF m 80 #[.val (.ref aB), .val (.int (3 : Int32)), .val (.int (0 : Int32)), .val (.int (0 : Int32))] [(.int (0 : Int32))]))
        refine own_retN X0 hx (t := .boolean) (rest := []) Bd.returns (by decide) (by simp) (hb hby d5_80) e0 (Bd.notSynchronized) ?_ (by decide) (by decide)
        exact ⟨by simp [own_ends, hc7_1, hc17_2, hc38_10, hc48_11, hc58_12], N0, rfl⟩
      refine own_back ?_ (fun t k => XS.icmpYes X0.here hx rfl (pc0 := 48) (pc' := 65) rfl (hb hby d5_48) rfl (feq hc48_11).2 (by decide) (by decide) k)
      show own_Go p e below PO (s₁.setTop (mkF m 65 #[.val (.ref aB), .val (.int (3 : Int32)), .val (.int (0 : Int32)), .unset] []))
      refine own_back ?_ (fun t k => XS.iconst X0.here hx rfl (hb hby d5_65) k)
      show own_Go p e below PO (s₁.setTop (mkF m 66 #[.val (.ref aB), .val (.int (3 : Int32)), .val (.int (0 : Int32)), .unset] [(.int (0 : Int32))]))
      refine own_back ?_ (fun t k => XS.istoreN X0.here hx rfl (hb hby d5_66) rfl (l' := #[.val (.ref aB), .val (.int (3 : Int32)), .val (.int (0 : Int32)), .val (.int (0 : Int32))]) rfl k)
      show own_Go p e below PO (s₁.setTop (mkF m 67 #[.val (.ref aB), .val (.int (3 : Int32)), .val (.int (0 : Int32)), .val (.int (0 : Int32))] []))
      refine own_back ?_ (fun t k => XS.iloadN X0.here hx rfl (hb hby d5_67) rfl k)
      show own_Go p e below PO (s₁.setTop (mkF m 68 #[.val (.ref aB), .val (.int (3 : Int32)), .val (.int (0 : Int32)), .val (.int (0 : Int32))] [(.int (0 : Int32))]))
      refine own_back ?_ (fun t k => XS.ifNo X0.here hx rfl (hb hby d5_68) rfl ((if0 _ _).trans (teq rfl).2) k)
      show own_Go p e below PO (s₁.setTop (mkF m 71 #[.val (.ref aB), .val (.int (3 : Int32)), .val (.int (0 : Int32)), .val (.int (0 : Int32))] []))
      refine own_back ?_ (fun t k => XS.iloadN X0.here hx rfl (hb hby d5_71) rfl k)
      show own_Go p e below PO (s₁.setTop (mkF m 72 #[.val (.ref aB), .val (.int (3 : Int32)), .val (.int (0 : Int32)), .val (.int (0 : Int32))] [(.int (0 : Int32))]))
      refine own_back ?_ (fun t k => XS.ifYes X0.here hx rfl (pc0 := 72) (pc' := 79) rfl (hb hby d5_72) rfl ((if0 _ _).trans (teq rfl).1) (by decide) (by decide) k)
      show own_Go p e below PO (s₁.setTop (mkF m 79 #[.val (.ref aB), .val (.int (3 : Int32)), .val (.int (0 : Int32)), .val (.int (0 : Int32))] []))
      refine own_back ?_ (fun t k => XS.iconst X0.here hx rfl (hb hby d5_79) k)
      show own_Go p e below PO (s₁.setTop (mkF m 80 #[.val (.ref aB), .val (.int (3 : Int32)), .val (.int (0 : Int32)), .val (.int (0 : Int32))] [(.int (0 : Int32))]))
      refine own_retN X0 hx (t := .boolean) (rest := []) Bd.returns (by decide) (by simp) (hb hby d5_80) e0 (Bd.notSynchronized) ?_ (by decide) (by decide)
      exact ⟨by simp [own_ends, hc7_1, hc17_2, hc38_10, hc48_11], N0, rfl⟩
    refine own_back ?_ (fun t k => XS.icmpYes X0.here hx rfl (pc0 := 38) (pc' := 65) rfl (hb hby d5_38) rfl (feq hc38_10).2 (by decide) (by decide) k)
    show own_Go p e below PO (s₁.setTop (mkF m 65 #[.val (.ref aB), .val (.int (3 : Int32)), .val (.int (0 : Int32)), .unset] []))
    refine own_back ?_ (fun t k => XS.iconst X0.here hx rfl (hb hby d5_65) k)
    show own_Go p e below PO (s₁.setTop (mkF m 66 #[.val (.ref aB), .val (.int (3 : Int32)), .val (.int (0 : Int32)), .unset] [(.int (0 : Int32))]))
    refine own_back ?_ (fun t k => XS.istoreN X0.here hx rfl (hb hby d5_66) rfl (l' := #[.val (.ref aB), .val (.int (3 : Int32)), .val (.int (0 : Int32)), .val (.int (0 : Int32))]) rfl k)
    show own_Go p e below PO (s₁.setTop (mkF m 67 #[.val (.ref aB), .val (.int (3 : Int32)), .val (.int (0 : Int32)), .val (.int (0 : Int32))] []))
    refine own_back ?_ (fun t k => XS.iloadN X0.here hx rfl (hb hby d5_67) rfl k)
    show own_Go p e below PO (s₁.setTop (mkF m 68 #[.val (.ref aB), .val (.int (3 : Int32)), .val (.int (0 : Int32)), .val (.int (0 : Int32))] [(.int (0 : Int32))]))
    refine own_back ?_ (fun t k => XS.ifNo X0.here hx rfl (hb hby d5_68) rfl ((if0 _ _).trans (teq rfl).2) k)
    show own_Go p e below PO (s₁.setTop (mkF m 71 #[.val (.ref aB), .val (.int (3 : Int32)), .val (.int (0 : Int32)), .val (.int (0 : Int32))] []))
    refine own_back ?_ (fun t k => XS.iloadN X0.here hx rfl (hb hby d5_71) rfl k)
    show own_Go p e below PO (s₁.setTop (mkF m 72 #[.val (.ref aB), .val (.int (3 : Int32)), .val (.int (0 : Int32)), .val (.int (0 : Int32))] [(.int (0 : Int32))]))
    refine own_back ?_ (fun t k => XS.ifYes X0.here hx rfl (pc0 := 72) (pc' := 79) rfl (hb hby d5_72) rfl ((if0 _ _).trans (teq rfl).1) (by decide) (by decide) k)
    show own_Go p e below PO (s₁.setTop (mkF m 79 #[.val (.ref aB), .val (.int (3 : Int32)), .val (.int (0 : Int32)), .val (.int (0 : Int32))] []))
    refine own_back ?_ (fun t k => XS.iconst X0.here hx rfl (hb hby d5_79) k)
    show own_Go p e below PO (s₁.setTop (mkF m 80 #[.val (.ref aB), .val (.int (3 : Int32)), .val (.int (0 : Int32)), .val (.int (0 : Int32))] [(.int (0 : Int32))]))
    refine own_retN X0 hx (t := .boolean) (rest := []) Bd.returns (by decide) (by simp) (hb hby d5_80) e0 (Bd.notSynchronized) ?_ (by decide) (by decide)
    exact ⟨by simp [own_ends, hc7_1, hc17_2, hc38_10], N0, rfl⟩
  refine own_back ?_ (fun t k => XS.icmpYes X0.here hx rfl (pc0 := 7) (pc' := 24) rfl (hb hby d5_7) rfl (feq hc7_1).2 (by decide) (by decide) k)
  show own_Go p e below PO (s₁.setTop (mkF m 24 #[.val (.ref aB), .val (.int (3 : Int32)), .unset, .unset] []))
  refine own_back ?_ (fun t k => XS.iconst X0.here hx rfl (hb hby d5_24) k)
  show own_Go p e below PO (s₁.setTop (mkF m 25 #[.val (.ref aB), .val (.int (3 : Int32)), .unset, .unset] [(.int (0 : Int32))]))
  refine own_back ?_ (fun t k => XS.istoreN X0.here hx rfl (hb hby d5_25) rfl (l' := #[.val (.ref aB), .val (.int (3 : Int32)), .val (.int (0 : Int32)), .unset]) rfl k)
  show own_Go p e below PO (s₁.setTop (mkF m 26 #[.val (.ref aB), .val (.int (3 : Int32)), .val (.int (0 : Int32)), .unset] []))
  refine own_back ?_ (fun t k => XS.iloadN X0.here hx rfl (hb hby d5_26) rfl k)
  show own_Go p e below PO (s₁.setTop (mkF m 27 #[.val (.ref aB), .val (.int (3 : Int32)), .val (.int (0 : Int32)), .unset] [(.int (3 : Int32))]))
  refine own_back ?_ (fun t k => XS.iconst X0.here hx rfl (hb hby d5_27) k)
  show own_Go p e below PO (s₁.setTop (mkF m 28 #[.val (.ref aB), .val (.int (3 : Int32)), .val (.int (0 : Int32)), .unset] [(.int (3 : Int32)), (.int (3 : Int32))]))
  refine own_back ?_ (fun t k => XS.icmpNo X0.here hx rfl (hb hby d5_28) rfl (flt Int32.lt_irrefl).1 k)
  show own_Go p e below PO (s₁.setTop (mkF m 31 #[.val (.ref aB), .val (.int (3 : Int32)), .val (.int (0 : Int32)), .unset] []))
  refine own_back ?_ (fun t k => XS.aloadN X0.here hx rfl (hb hby d5_31) rfl rfl k)
  show own_Go p e below PO (s₁.setTop (mkF m 32 #[.val (.ref aB), .val (.int (3 : Int32)), .val (.int (0 : Int32)), .unset] [(.ref aB)]))
  refine own_back ?_ (fun t k => XS.iloadN X0.here hx rfl (hb hby d5_32) rfl k)
  show own_Go p e below PO (s₁.setTop (mkF m 33 #[.val (.ref aB), .val (.int (3 : Int32)), .val (.int (0 : Int32)), .unset] [(.int (3 : Int32)), (.ref aB)]))
  refine own_back ?_ (fun t k => XS.iconst X0.here hx rfl (hb hby d5_33) k)
  show own_Go p e below PO (s₁.setTop (mkF m 34 #[.val (.ref aB), .val (.int (3 : Int32)), .val (.int (0 : Int32)), .unset] [(.int (3 : Int32)), (.int (3 : Int32)), (.ref aB)]))
  refine own_back ?_ (fun t k => XS.isub X0.here hx rfl (hb hby d5_34) rfl k)
  show own_Go p e below PO (s₁.setTop (mkF m 35 #[.val (.ref aB), .val (.int (3 : Int32)), .val (.int (0 : Int32)), .unset] [(.int (0 : Int32)), (.ref aB)]))
  refine own_back ?_ (own_ldB X0 hx hZ e0 VB (j := (0 : Int32)) (v := (.int (own_at xs 0))) ⟨by decide, by decide⟩ (own_getD xs _) (g := (mkF m 35 #[.val (.ref aB), .val (.int (3 : Int32)), .val (.int (0 : Int32)), .unset] [(.int (0 : Int32)), (.ref aB)])) rfl rfl (hb hby d5_35))
  show own_Go p e below PO (s₁.setTop (mkF m 36 #[.val (.ref aB), .val (.int (3 : Int32)), .val (.int (0 : Int32)), .unset] [(.int (own_at xs 0))]))
  refine own_back ?_ (fun t k => XS.bipush X0.here hx rfl (hb hby d5_36) k)
  show own_Go p e below PO (s₁.setTop (mkF m 38 #[.val (.ref aB), .val (.int (3 : Int32)), .val (.int (0 : Int32)), .unset] [(.int (10 : Int32)), (.int (own_at xs 0))]))
  by_cases hc38_14 : (own_at xs 0) = (10 : Int32)
  case pos =>
    refine own_back ?_ (fun t k => XS.icmpNo X0.here hx rfl (hb hby d5_38) rfl (teq hc38_14).2 k)
    show own_Go p e below PO (s₁.setTop (mkF m 41 #[.val (.ref aB), .val (.int (3 : Int32)), .val (.int (0 : Int32)), .unset] []))
    refine own_back ?_ (fun t k => XS.aloadN X0.here hx rfl (hb hby d5_41) rfl rfl k)
    show own_Go p e below PO (s₁.setTop (mkF m 42 #[.val (.ref aB), .val (.int (3 : Int32)), .val (.int (0 : Int32)), .unset] [(.ref aB)]))
    refine own_back ?_ (fun t k => XS.iloadN X0.here hx rfl (hb hby d5_42) rfl k)
    show own_Go p e below PO (s₁.setTop (mkF m 43 #[.val (.ref aB), .val (.int (3 : Int32)), .val (.int (0 : Int32)), .unset] [(.int (3 : Int32)), (.ref aB)]))
    refine own_back ?_ (fun t k => XS.iconst X0.here hx rfl (hb hby d5_43) k)
    show own_Go p e below PO (s₁.setTop (mkF m 44 #[.val (.ref aB), .val (.int (3 : Int32)), .val (.int (0 : Int32)), .unset] [(.int (2 : Int32)), (.int (3 : Int32)), (.ref aB)]))
    refine own_back ?_ (fun t k => XS.isub X0.here hx rfl (hb hby d5_44) rfl k)
    show own_Go p e below PO (s₁.setTop (mkF m 45 #[.val (.ref aB), .val (.int (3 : Int32)), .val (.int (0 : Int32)), .unset] [(.int (1 : Int32)), (.ref aB)]))
    refine own_back ?_ (own_ldB X0 hx hZ e0 VB (j := (1 : Int32)) (v := (.int (own_at xs 1))) ⟨by decide, by decide⟩ (own_getD xs _) (g := (mkF m 45 #[.val (.ref aB), .val (.int (3 : Int32)), .val (.int (0 : Int32)), .unset] [(.int (1 : Int32)), (.ref aB)])) rfl rfl (hb hby d5_45))
    show own_Go p e below PO (s₁.setTop (mkF m 46 #[.val (.ref aB), .val (.int (3 : Int32)), .val (.int (0 : Int32)), .unset] [(.int (own_at xs 1))]))
    refine own_back ?_ (fun t k => XS.bipush X0.here hx rfl (hb hby d5_46) k)
    show own_Go p e below PO (s₁.setTop (mkF m 48 #[.val (.ref aB), .val (.int (3 : Int32)), .val (.int (0 : Int32)), .unset] [(.int (13 : Int32)), (.int (own_at xs 1))]))
    by_cases hc48_15 : (own_at xs 1) = (13 : Int32)
    case pos =>
      refine own_back ?_ (fun t k => XS.icmpNo X0.here hx rfl (hb hby d5_48) rfl (teq hc48_15).2 k)
      show own_Go p e below PO (s₁.setTop (mkF m 51 #[.val (.ref aB), .val (.int (3 : Int32)), .val (.int (0 : Int32)), .unset] []))
      refine own_back ?_ (fun t k => XS.aloadN X0.here hx rfl (hb hby d5_51) rfl rfl k)
      show own_Go p e below PO (s₁.setTop (mkF m 52 #[.val (.ref aB), .val (.int (3 : Int32)), .val (.int (0 : Int32)), .unset] [(.ref aB)]))
      refine own_back ?_ (fun t k => XS.iloadN X0.here hx rfl (hb hby d5_52) rfl k)
      show own_Go p e below PO (s₁.setTop (mkF m 53 #[.val (.ref aB), .val (.int (3 : Int32)), .val (.int (0 : Int32)), .unset] [(.int (3 : Int32)), (.ref aB)]))
      refine own_back ?_ (fun t k => XS.iconst X0.here hx rfl (hb hby d5_53) k)
      show own_Go p e below PO (s₁.setTop (mkF m 54 #[.val (.ref aB), .val (.int (3 : Int32)), .val (.int (0 : Int32)), .unset] [(.int (1 : Int32)), (.int (3 : Int32)), (.ref aB)]))
      refine own_back ?_ (fun t k => XS.isub X0.here hx rfl (hb hby d5_54) rfl k)
      show own_Go p e below PO (s₁.setTop (mkF m 55 #[.val (.ref aB), .val (.int (3 : Int32)), .val (.int (0 : Int32)), .unset] [(.int (2 : Int32)), (.ref aB)]))
      refine own_back ?_ (own_ldB X0 hx hZ e0 VB (j := (2 : Int32)) (v := (.int (own_at xs 2))) ⟨by decide, by decide⟩ (own_getD xs _) (g := (mkF m 55 #[.val (.ref aB), .val (.int (3 : Int32)), .val (.int (0 : Int32)), .unset] [(.int (2 : Int32)), (.ref aB)])) rfl rfl (hb hby d5_55))
      show own_Go p e below PO (s₁.setTop (mkF m 56 #[.val (.ref aB), .val (.int (3 : Int32)), .val (.int (0 : Int32)), .unset] [(.int (own_at xs 2))]))
      refine own_back ?_ (fun t k => XS.bipush X0.here hx rfl (hb hby d5_56) k)
      show own_Go p e below PO (s₁.setTop (mkF m 58 #[.val (.ref aB), .val (.int (3 : Int32)), .val (.int (0 : Int32)), .unset] [(.int (10 : Int32)), (.int (own_at xs 2))]))
      by_cases hc58_16 : (own_at xs 2) = (10 : Int32)
      case pos =>
        refine own_back ?_ (fun t k => XS.icmpNo X0.here hx rfl (hb hby d5_58) rfl (teq hc58_16).2 k)
        show own_Go p e below PO (s₁.setTop (mkF m 61 #[.val (.ref aB), .val (.int (3 : Int32)), .val (.int (0 : Int32)), .unset] []))
        refine own_back ?_ (fun t k => XS.iconst X0.here hx rfl (hb hby d5_61) k)
        show own_Go p e below PO (s₁.setTop (mkF m 62 #[.val (.ref aB), .val (.int (3 : Int32)), .val (.int (0 : Int32)), .unset] [(.int (1 : Int32))]))
        refine own_back ?_ (fun t k => XS.goto X0.here hx rfl (pc0 := 62) (pc' := 66) rfl (hb hby d5_62) (by decide) (by decide) k)
        show own_Go p e below PO (s₁.setTop (mkF m 66 #[.val (.ref aB), .val (.int (3 : Int32)), .val (.int (0 : Int32)), .unset] [(.int (1 : Int32))]))
        refine own_back ?_ (fun t k => XS.istoreN X0.here hx rfl (hb hby d5_66) rfl (l' := #[.val (.ref aB), .val (.int (3 : Int32)), .val (.int (0 : Int32)), .val (.int (1 : Int32))]) rfl k)
        show own_Go p e below PO (s₁.setTop (mkF m 67 #[.val (.ref aB), .val (.int (3 : Int32)), .val (.int (0 : Int32)), .val (.int (1 : Int32))] []))
        refine own_back ?_ (fun t k => XS.iloadN X0.here hx rfl (hb hby d5_67) rfl k)
        show own_Go p e below PO (s₁.setTop (mkF m 68 #[.val (.ref aB), .val (.int (3 : Int32)), .val (.int (0 : Int32)), .val (.int (1 : Int32))] [(.int (0 : Int32))]))
        refine own_back ?_ (fun t k => XS.ifNo X0.here hx rfl (hb hby d5_68) rfl ((if0 _ _).trans (teq rfl).2) k)
        show own_Go p e below PO (s₁.setTop (mkF m 71 #[.val (.ref aB), .val (.int (3 : Int32)), .val (.int (0 : Int32)), .val (.int (1 : Int32))] []))
        refine own_back ?_ (fun t k => XS.iloadN X0.here hx rfl (hb hby d5_71) rfl k)
        show own_Go p e below PO (s₁.setTop (mkF m 72 #[.val (.ref aB), .val (.int (3 : Int32)), .val (.int (0 : Int32)), .val (.int (1 : Int32))] [(.int (1 : Int32))]))
        have hd72_17 : ¬ ((1 : Int32) = (0 : Int32)) := (by decide)
        refine own_back ?_ (fun t k => XS.ifNo X0.here hx rfl (hb hby d5_72) rfl ((if0 _ _).trans (feq hd72_17).1) k)
        show own_Go p e below PO (s₁.setTop (mkF m 75 #[.val (.ref aB), .val (.int (3 : Int32)), .val (.int (0 : Int32)), .val (.int (1 : Int32))] []))
        refine own_back ?_ (fun t k => XS.iconst X0.here hx rfl (hb hby d5_75) k)
        show own_Go p e below PO (s₁.setTop (mkF m 76 #[.val (.ref aB), .val (.int (3 : Int32)), .val (.int (0 : Int32)), .val (.int (1 : Int32))] [(.int (1 : Int32))]))
        refine own_back ?_ (fun t k => XS.goto X0.here hx rfl (pc0 := 76) (pc' := 80) rfl (hb hby d5_76) (by decide) (by decide) k)
        show own_Go p e below PO (s₁.setTop (mkF m 80 #[.val (.ref aB), .val (.int (3 : Int32)), .val (.int (0 : Int32)), .val (.int (1 : Int32))] [(.int (1 : Int32))]))
        refine own_retN X0 hx (t := .boolean) (rest := []) Bd.returns (by decide) (by simp) (hb hby d5_80) e0 (Bd.notSynchronized) ?_ (by decide) (by decide)
        exact ⟨by simp [own_ends, hc7_1, hc38_14, hc48_15, hc58_16], N0, rfl⟩
      refine own_back ?_ (fun t k => XS.icmpYes X0.here hx rfl (pc0 := 58) (pc' := 65) rfl (hb hby d5_58) rfl (feq hc58_16).2 (by decide) (by decide) k)
      show own_Go p e below PO (s₁.setTop (mkF m 65 #[.val (.ref aB), .val (.int (3 : Int32)), .val (.int (0 : Int32)), .unset] []))
      refine own_back ?_ (fun t k => XS.iconst X0.here hx rfl (hb hby d5_65) k)
      show own_Go p e below PO (s₁.setTop (mkF m 66 #[.val (.ref aB), .val (.int (3 : Int32)), .val (.int (0 : Int32)), .unset] [(.int (0 : Int32))]))
      refine own_back ?_ (fun t k => XS.istoreN X0.here hx rfl (hb hby d5_66) rfl (l' := #[.val (.ref aB), .val (.int (3 : Int32)), .val (.int (0 : Int32)), .val (.int (0 : Int32))]) rfl k)
      show own_Go p e below PO (s₁.setTop (mkF m 67 #[.val (.ref aB), .val (.int (3 : Int32)), .val (.int (0 : Int32)), .val (.int (0 : Int32))] []))
      refine own_back ?_ (fun t k => XS.iloadN X0.here hx rfl (hb hby d5_67) rfl k)
      show own_Go p e below PO (s₁.setTop (mkF m 68 #[.val (.ref aB), .val (.int (3 : Int32)), .val (.int (0 : Int32)), .val (.int (0 : Int32))] [(.int (0 : Int32))]))
      refine own_back ?_ (fun t k => XS.ifNo X0.here hx rfl (hb hby d5_68) rfl ((if0 _ _).trans (teq rfl).2) k)
      show own_Go p e below PO (s₁.setTop (mkF m 71 #[.val (.ref aB), .val (.int (3 : Int32)), .val (.int (0 : Int32)), .val (.int (0 : Int32))] []))
      refine own_back ?_ (fun t k => XS.iloadN X0.here hx rfl (hb hby d5_71) rfl k)
      show own_Go p e below PO (s₁.setTop (mkF m 72 #[.val (.ref aB), .val (.int (3 : Int32)), .val (.int (0 : Int32)), .val (.int (0 : Int32))] [(.int (0 : Int32))]))
      refine own_back ?_ (fun t k => XS.ifYes X0.here hx rfl (pc0 := 72) (pc' := 79) rfl (hb hby d5_72) rfl ((if0 _ _).trans (teq rfl).1) (by decide) (by decide) k)
      show own_Go p e below PO (s₁.setTop (mkF m 79 #[.val (.ref aB), .val (.int (3 : Int32)), .val (.int (0 : Int32)), .val (.int (0 : Int32))] []))
      refine own_back ?_ (fun t k => XS.iconst X0.here hx rfl (hb hby d5_79) k)
      show own_Go p e below PO (s₁.setTop (mkF m 80 #[.val (.ref aB), .val (.int (3 : Int32)), .val (.int (0 : Int32)), .val (.int (0 : Int32))] [(.int (0 : Int32))]))
      refine own_retN X0 hx (t := .boolean) (rest := []) Bd.returns (by decide) (by simp) (hb hby d5_80) e0 (Bd.notSynchronized) ?_ (by decide) (by decide)
      exact ⟨by simp [own_ends, hc7_1, hc38_14, hc48_15, hc58_16], N0, rfl⟩
    refine own_back ?_ (fun t k => XS.icmpYes X0.here hx rfl (pc0 := 48) (pc' := 65) rfl (hb hby d5_48) rfl (feq hc48_15).2 (by decide) (by decide) k)
    show own_Go p e below PO (s₁.setTop (mkF m 65 #[.val (.ref aB), .val (.int (3 : Int32)), .val (.int (0 : Int32)), .unset] []))
    refine own_back ?_ (fun t k => XS.iconst X0.here hx rfl (hb hby d5_65) k)
    show own_Go p e below PO (s₁.setTop (mkF m 66 #[.val (.ref aB), .val (.int (3 : Int32)), .val (.int (0 : Int32)), .unset] [(.int (0 : Int32))]))
    refine own_back ?_ (fun t k => XS.istoreN X0.here hx rfl (hb hby d5_66) rfl (l' := #[.val (.ref aB), .val (.int (3 : Int32)), .val (.int (0 : Int32)), .val (.int (0 : Int32))]) rfl k)
    show own_Go p e below PO (s₁.setTop (mkF m 67 #[.val (.ref aB), .val (.int (3 : Int32)), .val (.int (0 : Int32)), .val (.int (0 : Int32))] []))
    refine own_back ?_ (fun t k => XS.iloadN X0.here hx rfl (hb hby d5_67) rfl k)
    show own_Go p e below PO (s₁.setTop (mkF m 68 #[.val (.ref aB), .val (.int (3 : Int32)), .val (.int (0 : Int32)), .val (.int (0 : Int32))] [(.int (0 : Int32))]))
    refine own_back ?_ (fun t k => XS.ifNo X0.here hx rfl (hb hby d5_68) rfl ((if0 _ _).trans (teq rfl).2) k)
    show own_Go p e below PO (s₁.setTop (mkF m 71 #[.val (.ref aB), .val (.int (3 : Int32)), .val (.int (0 : Int32)), .val (.int (0 : Int32))] []))
    refine own_back ?_ (fun t k => XS.iloadN X0.here hx rfl (hb hby d5_71) rfl k)
    show own_Go p e below PO (s₁.setTop (mkF m 72 #[.val (.ref aB), .val (.int (3 : Int32)), .val (.int (0 : Int32)), .val (.int (0 : Int32))] [(.int (0 : Int32))]))
    refine own_back ?_ (fun t k => XS.ifYes X0.here hx rfl (pc0 := 72) (pc' := 79) rfl (hb hby d5_72) rfl ((if0 _ _).trans (teq rfl).1) (by decide) (by decide) k)
    show own_Go p e below PO (s₁.setTop (mkF m 79 #[.val (.ref aB), .val (.int (3 : Int32)), .val (.int (0 : Int32)), .val (.int (0 : Int32))] []))
    refine own_back ?_ (fun t k => XS.iconst X0.here hx rfl (hb hby d5_79) k)
    show own_Go p e below PO (s₁.setTop (mkF m 80 #[.val (.ref aB), .val (.int (3 : Int32)), .val (.int (0 : Int32)), .val (.int (0 : Int32))] [(.int (0 : Int32))]))
    refine own_retN X0 hx (t := .boolean) (rest := []) Bd.returns (by decide) (by simp) (hb hby d5_80) e0 (Bd.notSynchronized) ?_ (by decide) (by decide)
    exact ⟨by simp [own_ends, hc7_1, hc38_14, hc48_15], N0, rfl⟩
  refine own_back ?_ (fun t k => XS.icmpYes X0.here hx rfl (pc0 := 38) (pc' := 65) rfl (hb hby d5_38) rfl (feq hc38_14).2 (by decide) (by decide) k)
  show own_Go p e below PO (s₁.setTop (mkF m 65 #[.val (.ref aB), .val (.int (3 : Int32)), .val (.int (0 : Int32)), .unset] []))
  refine own_back ?_ (fun t k => XS.iconst X0.here hx rfl (hb hby d5_65) k)
  show own_Go p e below PO (s₁.setTop (mkF m 66 #[.val (.ref aB), .val (.int (3 : Int32)), .val (.int (0 : Int32)), .unset] [(.int (0 : Int32))]))
  refine own_back ?_ (fun t k => XS.istoreN X0.here hx rfl (hb hby d5_66) rfl (l' := #[.val (.ref aB), .val (.int (3 : Int32)), .val (.int (0 : Int32)), .val (.int (0 : Int32))]) rfl k)
  show own_Go p e below PO (s₁.setTop (mkF m 67 #[.val (.ref aB), .val (.int (3 : Int32)), .val (.int (0 : Int32)), .val (.int (0 : Int32))] []))
  refine own_back ?_ (fun t k => XS.iloadN X0.here hx rfl (hb hby d5_67) rfl k)
  show own_Go p e below PO (s₁.setTop (mkF m 68 #[.val (.ref aB), .val (.int (3 : Int32)), .val (.int (0 : Int32)), .val (.int (0 : Int32))] [(.int (0 : Int32))]))
  refine own_back ?_ (fun t k => XS.ifNo X0.here hx rfl (hb hby d5_68) rfl ((if0 _ _).trans (teq rfl).2) k)
  show own_Go p e below PO (s₁.setTop (mkF m 71 #[.val (.ref aB), .val (.int (3 : Int32)), .val (.int (0 : Int32)), .val (.int (0 : Int32))] []))
  refine own_back ?_ (fun t k => XS.iloadN X0.here hx rfl (hb hby d5_71) rfl k)
  show own_Go p e below PO (s₁.setTop (mkF m 72 #[.val (.ref aB), .val (.int (3 : Int32)), .val (.int (0 : Int32)), .val (.int (0 : Int32))] [(.int (0 : Int32))]))
  refine own_back ?_ (fun t k => XS.ifYes X0.here hx rfl (pc0 := 72) (pc' := 79) rfl (hb hby d5_72) rfl ((if0 _ _).trans (teq rfl).1) (by decide) (by decide) k)
  show own_Go p e below PO (s₁.setTop (mkF m 79 #[.val (.ref aB), .val (.int (3 : Int32)), .val (.int (0 : Int32)), .val (.int (0 : Int32))] []))
  refine own_back ?_ (fun t k => XS.iconst X0.here hx rfl (hb hby d5_79) k)
  show own_Go p e below PO (s₁.setTop (mkF m 80 #[.val (.ref aB), .val (.int (3 : Int32)), .val (.int (0 : Int32)), .val (.int (0 : Int32))] [(.int (0 : Int32))]))
  refine own_retN X0 hx (t := .boolean) (rest := []) Bd.returns (by decide) (by simp) (hb hby d5_80) e0 (Bd.notSynchronized) ?_ (by decide) (by decide)
  exact ⟨by simp [own_ends, hc7_1, hc38_14], N0, rfl⟩
theorem ef_rm5_4 (m : MethodId) (x0 : Addr) (x1 : Int32) : entryFrame m #[(.ref x0), (.int x1)] 4 = mkF m 0 #[.val (.ref x0), .val (.int x1), .unset, .unset] [] := by first | (simp [entryFrame, mkF, argsToLocals, Value.category]; done) | rfl
def Q_rm5_4 (xs : List Int32) (h0 : Heap) (n0 : Nat) (v : Option Value) (h : Heap) (L : List Loc) : Prop := v = some (.int (own_ends xs 4)) ∧ Fr n0 L ∧ h = h0
set_option maxRecDepth 65536 in
set_option maxHeartbeats 40000000 in
theorem rm5_4 (l : Launch) (Z : State) (a0 : Array Value) (hw : ∀ d ∈ tables_1, d.before a0 Z = true) (ws : List Jvm.Cond) (aB : Addr) (xs : List Int32) (kB : ClassId) (h0 : Heap) (n0 : Nat) (Z0 : n0 ≤ h0.size) (VB : Arv Z h0 aB kB .byte 6 (xs.map Value.int) (.int 0)) :
    MetFree l (⟨"com/example/execd/execd/io/RequestHeadEndPinLaw", "endsAt", "([BI)Z"⟩ : MethodName) (head1 (Jvm.Cond.code (⟨"com/example/execd/execd/io/RequestHeadEndPinLaw", "endsAt", "([BI)Z"⟩ : MethodName) method_4_code 4 (some .boolean) :: ws) ({ frames := 0, cells := 0, slots := 0, locals := 0 } : Room)) (fun a U => a = #[(.ref aB), (.int (4 : Int32))] ∧ Z.Warmed39 U.vm ∧ U.heap = h0) (fun _ _ _ _ _ => True) (fun _ U o U' => ∃ v L, o = .returned v ∧ Q_rm5_4 xs h0 n0 v U'.heap L ∧ FrameEnd U o U' L ({ frames := 0, cells := 0, slots := 0, locals := 0 } : Room).cells ({ frames := 0, cells := 0, slots := 0, locals := 0 } : Room).slots) := by
  refine MetFree.of_bodySF (plainFor_of_name pn_0) hisR ?_
  intro p e s m args below meth c s₁ Bd hml0 hP hK
  obtain ⟨rfl, hZ, hh⟩ := hP
  have hx := Bd.exec
  have hby := Bd.bytes
  have hml : c.maxLocals = 4 := hml0
  have hown : s.vm.findClass "com/example/execd/execd/io/RequestHeadEndPinLaw" = some m.cls := findClass_of_methodNamed Bd.named
  have hnm := (name_of_methodNamed Bd.named Bd.method).1
  have X0 : Stand p l e ({ frames := 0, cells := 0, slots := 0, locals := 0 } : Room) s m #[(.ref aB), (.int (4 : Int32))] below meth c s₁ [] 0 0 := Stand.of_body Bd
  have e0 : s₁.heap = h0 := by rw [← hh, Bd.state]; rfl
  have N0 := Fr.nil n0
  let PO : Outcome → State → Prop := own_PO s (Q_rm5_4 xs h0 n0) 0 0
  show own_Go p e below PO (s₁.setTop (entryFrame m #[(.ref aB), (.int (4 : Int32))] 4))
  rw [ef_rm5_4]
  show own_Go p e below PO (s₁.setTop (mkF m 0 #[.val (.ref aB), .val (.int (4 : Int32)), .unset, .unset] []))
  refine own_back ?_ (fun t k => XS.aloadN X0.here hx rfl (hb hby d5_0) rfl rfl k)
  show own_Go p e below PO (s₁.setTop (mkF m 1 #[.val (.ref aB), .val (.int (4 : Int32)), .unset, .unset] [(.ref aB)]))
  refine own_back ?_ (fun t k => XS.iloadN X0.here hx rfl (hb hby d5_1) rfl k)
  show own_Go p e below PO (s₁.setTop (mkF m 2 #[.val (.ref aB), .val (.int (4 : Int32)), .unset, .unset] [(.int (4 : Int32)), (.ref aB)]))
  refine own_back ?_ (fun t k => XS.iconst X0.here hx rfl (hb hby d5_2) k)
  show own_Go p e below PO (s₁.setTop (mkF m 3 #[.val (.ref aB), .val (.int (4 : Int32)), .unset, .unset] [(.int (2 : Int32)), (.int (4 : Int32)), (.ref aB)]))
  refine own_back ?_ (fun t k => XS.isub X0.here hx rfl (hb hby d5_3) rfl k)
  show own_Go p e below PO (s₁.setTop (mkF m 4 #[.val (.ref aB), .val (.int (4 : Int32)), .unset, .unset] [(.int (2 : Int32)), (.ref aB)]))
  refine own_back ?_ (own_ldB X0 hx hZ e0 VB (j := (2 : Int32)) (v := (.int (own_at xs 2))) ⟨by decide, by decide⟩ (own_getD xs _) (g := (mkF m 4 #[.val (.ref aB), .val (.int (4 : Int32)), .unset, .unset] [(.int (2 : Int32)), (.ref aB)])) rfl rfl (hb hby d5_4))
  show own_Go p e below PO (s₁.setTop (mkF m 5 #[.val (.ref aB), .val (.int (4 : Int32)), .unset, .unset] [(.int (own_at xs 2))]))
  refine own_back ?_ (fun t k => XS.bipush X0.here hx rfl (hb hby d5_5) k)
  show own_Go p e below PO (s₁.setTop (mkF m 7 #[.val (.ref aB), .val (.int (4 : Int32)), .unset, .unset] [(.int (10 : Int32)), (.int (own_at xs 2))]))
  by_cases hc7_1 : (own_at xs 2) = (10 : Int32)
  case pos =>
    refine own_back ?_ (fun t k => XS.icmpNo X0.here hx rfl (hb hby d5_7) rfl (teq hc7_1).2 k)
    show own_Go p e below PO (s₁.setTop (mkF m 10 #[.val (.ref aB), .val (.int (4 : Int32)), .unset, .unset] []))
    refine own_back ?_ (fun t k => XS.aloadN X0.here hx rfl (hb hby d5_10) rfl rfl k)
    show own_Go p e below PO (s₁.setTop (mkF m 11 #[.val (.ref aB), .val (.int (4 : Int32)), .unset, .unset] [(.ref aB)]))
    refine own_back ?_ (fun t k => XS.iloadN X0.here hx rfl (hb hby d5_11) rfl k)
    show own_Go p e below PO (s₁.setTop (mkF m 12 #[.val (.ref aB), .val (.int (4 : Int32)), .unset, .unset] [(.int (4 : Int32)), (.ref aB)]))
    refine own_back ?_ (fun t k => XS.iconst X0.here hx rfl (hb hby d5_12) k)
    show own_Go p e below PO (s₁.setTop (mkF m 13 #[.val (.ref aB), .val (.int (4 : Int32)), .unset, .unset] [(.int (1 : Int32)), (.int (4 : Int32)), (.ref aB)]))
    refine own_back ?_ (fun t k => XS.isub X0.here hx rfl (hb hby d5_13) rfl k)
    show own_Go p e below PO (s₁.setTop (mkF m 14 #[.val (.ref aB), .val (.int (4 : Int32)), .unset, .unset] [(.int (3 : Int32)), (.ref aB)]))
    refine own_back ?_ (own_ldB X0 hx hZ e0 VB (j := (3 : Int32)) (v := (.int (own_at xs 3))) ⟨by decide, by decide⟩ (own_getD xs _) (g := (mkF m 14 #[.val (.ref aB), .val (.int (4 : Int32)), .unset, .unset] [(.int (3 : Int32)), (.ref aB)])) rfl rfl (hb hby d5_14))
    show own_Go p e below PO (s₁.setTop (mkF m 15 #[.val (.ref aB), .val (.int (4 : Int32)), .unset, .unset] [(.int (own_at xs 3))]))
    refine own_back ?_ (fun t k => XS.bipush X0.here hx rfl (hb hby d5_15) k)
    show own_Go p e below PO (s₁.setTop (mkF m 17 #[.val (.ref aB), .val (.int (4 : Int32)), .unset, .unset] [(.int (10 : Int32)), (.int (own_at xs 3))]))
    by_cases hc17_2 : (own_at xs 3) = (10 : Int32)
    case pos =>
      refine own_back ?_ (fun t k => XS.icmpNo X0.here hx rfl (hb hby d5_17) rfl (teq hc17_2).2 k)
      show own_Go p e below PO (s₁.setTop (mkF m 20 #[.val (.ref aB), .val (.int (4 : Int32)), .unset, .unset] []))
      refine own_back ?_ (fun t k => XS.iconst X0.here hx rfl (hb hby d5_20) k)
      show own_Go p e below PO (s₁.setTop (mkF m 21 #[.val (.ref aB), .val (.int (4 : Int32)), .unset, .unset] [(.int (1 : Int32))]))
      refine own_back ?_ (fun t k => XS.goto X0.here hx rfl (pc0 := 21) (pc' := 25) rfl (hb hby d5_21) (by decide) (by decide) k)
      show own_Go p e below PO (s₁.setTop (mkF m 25 #[.val (.ref aB), .val (.int (4 : Int32)), .unset, .unset] [(.int (1 : Int32))]))
      refine own_back ?_ (fun t k => XS.istoreN X0.here hx rfl (hb hby d5_25) rfl (l' := #[.val (.ref aB), .val (.int (4 : Int32)), .val (.int (1 : Int32)), .unset]) rfl k)
      show own_Go p e below PO (s₁.setTop (mkF m 26 #[.val (.ref aB), .val (.int (4 : Int32)), .val (.int (1 : Int32)), .unset] []))
      refine own_back ?_ (fun t k => XS.iloadN X0.here hx rfl (hb hby d5_26) rfl k)
      show own_Go p e below PO (s₁.setTop (mkF m 27 #[.val (.ref aB), .val (.int (4 : Int32)), .val (.int (1 : Int32)), .unset] [(.int (4 : Int32))]))
      refine own_back ?_ (fun t k => XS.iconst X0.here hx rfl (hb hby d5_27) k)
      show own_Go p e below PO (s₁.setTop (mkF m 28 #[.val (.ref aB), .val (.int (4 : Int32)), .val (.int (1 : Int32)), .unset] [(.int (3 : Int32)), (.int (4 : Int32))]))
      have hd28_3 : ¬ ((4 : Int32) < (3 : Int32)) := (by decide)
      refine own_back ?_ (fun t k => XS.icmpNo X0.here hx rfl (hb hby d5_28) rfl (flt hd28_3).1 k)
      show own_Go p e below PO (s₁.setTop (mkF m 31 #[.val (.ref aB), .val (.int (4 : Int32)), .val (.int (1 : Int32)), .unset] []))
      refine own_back ?_ (fun t k => XS.aloadN X0.here hx rfl (hb hby d5_31) rfl rfl k)
      show own_Go p e below PO (s₁.setTop (mkF m 32 #[.val (.ref aB), .val (.int (4 : Int32)), .val (.int (1 : Int32)), .unset] [(.ref aB)]))
      refine own_back ?_ (fun t k => XS.iloadN X0.here hx rfl (hb hby d5_32) rfl k)
      show own_Go p e below PO (s₁.setTop (mkF m 33 #[.val (.ref aB), .val (.int (4 : Int32)), .val (.int (1 : Int32)), .unset] [(.int (4 : Int32)), (.ref aB)]))
      refine own_back ?_ (fun t k => XS.iconst X0.here hx rfl (hb hby d5_33) k)
      show own_Go p e below PO (s₁.setTop (mkF m 34 #[.val (.ref aB), .val (.int (4 : Int32)), .val (.int (1 : Int32)), .unset] [(.int (3 : Int32)), (.int (4 : Int32)), (.ref aB)]))
      refine own_back ?_ (fun t k => XS.isub X0.here hx rfl (hb hby d5_34) rfl k)
      show own_Go p e below PO (s₁.setTop (mkF m 35 #[.val (.ref aB), .val (.int (4 : Int32)), .val (.int (1 : Int32)), .unset] [(.int (1 : Int32)), (.ref aB)]))
      refine own_back ?_ (own_ldB X0 hx hZ e0 VB (j := (1 : Int32)) (v := (.int (own_at xs 1))) ⟨by decide, by decide⟩ (own_getD xs _) (g := (mkF m 35 #[.val (.ref aB), .val (.int (4 : Int32)), .val (.int (1 : Int32)), .unset] [(.int (1 : Int32)), (.ref aB)])) rfl rfl (hb hby d5_35))
      show own_Go p e below PO (s₁.setTop (mkF m 36 #[.val (.ref aB), .val (.int (4 : Int32)), .val (.int (1 : Int32)), .unset] [(.int (own_at xs 1))]))
      refine own_back ?_ (fun t k => XS.bipush X0.here hx rfl (hb hby d5_36) k)
      show own_Go p e below PO (s₁.setTop (mkF m 38 #[.val (.ref aB), .val (.int (4 : Int32)), .val (.int (1 : Int32)), .unset] [(.int (10 : Int32)), (.int (own_at xs 1))]))
      by_cases hc38_4 : (own_at xs 1) = (10 : Int32)
      case pos =>
        refine own_back ?_ (fun t k => XS.icmpNo X0.here hx rfl (hb hby d5_38) rfl (teq hc38_4).2 k)
        show own_Go p e below PO (s₁.setTop (mkF m 41 #[.val (.ref aB), .val (.int (4 : Int32)), .val (.int (1 : Int32)), .unset] []))
        refine own_back ?_ (fun t k => XS.aloadN X0.here hx rfl (hb hby d5_41) rfl rfl k)
        show own_Go p e below PO (s₁.setTop (mkF m 42 #[.val (.ref aB), .val (.int (4 : Int32)), .val (.int (1 : Int32)), .unset] [(.ref aB)]))
        refine own_back ?_ (fun t k => XS.iloadN X0.here hx rfl (hb hby d5_42) rfl k)
        show own_Go p e below PO (s₁.setTop (mkF m 43 #[.val (.ref aB), .val (.int (4 : Int32)), .val (.int (1 : Int32)), .unset] [(.int (4 : Int32)), (.ref aB)]))
        refine own_back ?_ (fun t k => XS.iconst X0.here hx rfl (hb hby d5_43) k)
        show own_Go p e below PO (s₁.setTop (mkF m 44 #[.val (.ref aB), .val (.int (4 : Int32)), .val (.int (1 : Int32)), .unset] [(.int (2 : Int32)), (.int (4 : Int32)), (.ref aB)]))
        refine own_back ?_ (fun t k => XS.isub X0.here hx rfl (hb hby d5_44) rfl k)
        show own_Go p e below PO (s₁.setTop (mkF m 45 #[.val (.ref aB), .val (.int (4 : Int32)), .val (.int (1 : Int32)), .unset] [(.int (2 : Int32)), (.ref aB)]))
        refine own_back ?_ (own_ldB X0 hx hZ e0 VB (j := (2 : Int32)) (v := (.int (own_at xs 2))) ⟨by decide, by decide⟩ (own_getD xs _) (g := (mkF m 45 #[.val (.ref aB), .val (.int (4 : Int32)), .val (.int (1 : Int32)), .unset] [(.int (2 : Int32)), (.ref aB)])) rfl rfl (hb hby d5_45))
        show own_Go p e below PO (s₁.setTop (mkF m 46 #[.val (.ref aB), .val (.int (4 : Int32)), .val (.int (1 : Int32)), .unset] [(.int (own_at xs 2))]))
        refine own_back ?_ (fun t k => XS.bipush X0.here hx rfl (hb hby d5_46) k)
        show own_Go p e below PO (s₁.setTop (mkF m 48 #[.val (.ref aB), .val (.int (4 : Int32)), .val (.int (1 : Int32)), .unset] [(.int (13 : Int32)), (.int (own_at xs 2))]))
        by_cases hc48_5 : (own_at xs 2) = (13 : Int32)
        case pos =>
          refine own_back ?_ (fun t k => XS.icmpNo X0.here hx rfl (hb hby d5_48) rfl (teq hc48_5).2 k)
          show own_Go p e below PO (s₁.setTop (mkF m 51 #[.val (.ref aB), .val (.int (4 : Int32)), .val (.int (1 : Int32)), .unset] []))
          refine own_back ?_ (fun t k => XS.aloadN X0.here hx rfl (hb hby d5_51) rfl rfl k)
          show own_Go p e below PO (s₁.setTop (mkF m 52 #[.val (.ref aB), .val (.int (4 : Int32)), .val (.int (1 : Int32)), .unset] [(.ref aB)]))
          refine own_back ?_ (fun t k => XS.iloadN X0.here hx rfl (hb hby d5_52) rfl k)
          show own_Go p e below PO (s₁.setTop (mkF m 53 #[.val (.ref aB), .val (.int (4 : Int32)), .val (.int (1 : Int32)), .unset] [(.int (4 : Int32)), (.ref aB)]))
          refine own_back ?_ (fun t k => XS.iconst X0.here hx rfl (hb hby d5_53) k)
          show own_Go p e below PO (s₁.setTop (mkF m 54 #[.val (.ref aB), .val (.int (4 : Int32)), .val (.int (1 : Int32)), .unset] [(.int (1 : Int32)), (.int (4 : Int32)), (.ref aB)]))
          refine own_back ?_ (fun t k => XS.isub X0.here hx rfl (hb hby d5_54) rfl k)
          show own_Go p e below PO (s₁.setTop (mkF m 55 #[.val (.ref aB), .val (.int (4 : Int32)), .val (.int (1 : Int32)), .unset] [(.int (3 : Int32)), (.ref aB)]))
          refine own_back ?_ (own_ldB X0 hx hZ e0 VB (j := (3 : Int32)) (v := (.int (own_at xs 3))) ⟨by decide, by decide⟩ (own_getD xs _) (g := (mkF m 55 #[.val (.ref aB), .val (.int (4 : Int32)), .val (.int (1 : Int32)), .unset] [(.int (3 : Int32)), (.ref aB)])) rfl rfl (hb hby d5_55))
          show own_Go p e below PO (s₁.setTop (mkF m 56 #[.val (.ref aB), .val (.int (4 : Int32)), .val (.int (1 : Int32)), .unset] [(.int (own_at xs 3))]))
          refine own_back ?_ (fun t k => XS.bipush X0.here hx rfl (hb hby d5_56) k)
          show own_Go p e below PO (s₁.setTop (mkF m 58 #[.val (.ref aB), .val (.int (4 : Int32)), .val (.int (1 : Int32)), .unset] [(.int (10 : Int32)), (.int (own_at xs 3))]))
          by_cases hc58_6 : (own_at xs 3) = (10 : Int32)
          case pos =>
            refine own_back ?_ (fun t k => XS.icmpNo X0.here hx rfl (hb hby d5_58) rfl (teq hc58_6).2 k)
            show own_Go p e below PO (s₁.setTop (mkF m 61 #[.val (.ref aB), .val (.int (4 : Int32)), .val (.int (1 : Int32)), .unset] []))
            refine own_back ?_ (fun t k => XS.iconst X0.here hx rfl (hb hby d5_61) k)
            show own_Go p e below PO (s₁.setTop (mkF m 62 #[.val (.ref aB), .val (.int (4 : Int32)), .val (.int (1 : Int32)), .unset] [(.int (1 : Int32))]))
            refine own_back ?_ (fun t k => XS.goto X0.here hx rfl (pc0 := 62) (pc' := 66) rfl (hb hby d5_62) (by decide) (by decide) k)
            show own_Go p e below PO (s₁.setTop (mkF m 66 #[.val (.ref aB), .val (.int (4 : Int32)), .val (.int (1 : Int32)), .unset] [(.int (1 : Int32))]))
            refine own_back ?_ (fun t k => XS.istoreN X0.here hx rfl (hb hby d5_66) rfl (l' := #[.val (.ref aB), .val (.int (4 : Int32)), .val (.int (1 : Int32)), .val (.int (1 : Int32))]) rfl k)
            show own_Go p e below PO (s₁.setTop (mkF m 67 #[.val (.ref aB), .val (.int (4 : Int32)), .val (.int (1 : Int32)), .val (.int (1 : Int32))] []))
            refine own_back ?_ (fun t k => XS.iloadN X0.here hx rfl (hb hby d5_67) rfl k)
            show own_Go p e below PO (s₁.setTop (mkF m 68 #[.val (.ref aB), .val (.int (4 : Int32)), .val (.int (1 : Int32)), .val (.int (1 : Int32))] [(.int (1 : Int32))]))
            have hd68_7 : ¬ ((1 : Int32) = (0 : Int32)) := (by decide)
            refine own_back ?_ (fun t k => XS.ifYes X0.here hx rfl (pc0 := 68) (pc' := 75) rfl (hb hby d5_68) rfl ((if0 _ _).trans (feq hd68_7).2) (by decide) (by decide) k)
            show own_Go p e below PO (s₁.setTop (mkF m 75 #[.val (.ref aB), .val (.int (4 : Int32)), .val (.int (1 : Int32)), .val (.int (1 : Int32))] []))
            refine own_back ?_ (fun t k => XS.iconst X0.here hx rfl (hb hby d5_75) k)
            show own_Go p e below PO (s₁.setTop (mkF m 76 #[.val (.ref aB), .val (.int (4 : Int32)), .val (.int (1 : Int32)), .val (.int (1 : Int32))] [(.int (1 : Int32))]))
            refine own_back ?_ (fun t k => XS.goto X0.here hx rfl (pc0 := 76) (pc' := 80) rfl (hb hby d5_76) (by decide) (by decide) k)
            show own_Go p e below PO (s₁.setTop (mkF m 80 #[.val (.ref aB), .val (.int (4 : Int32)), .val (.int (1 : Int32)), .val (.int (1 : Int32))] [(.int (1 : Int32))]))
            refine own_retN X0 hx (t := .boolean) (rest := []) Bd.returns (by decide) (by simp) (hb hby d5_80) e0 (Bd.notSynchronized) ?_ (by decide) (by decide)
            exact ⟨by simp [own_ends, hc7_1, hc17_2, hc38_4, hc48_5, hc58_6], N0, rfl⟩
          refine own_back ?_ (fun t k => XS.icmpYes X0.here hx rfl (pc0 := 58) (pc' := 65) rfl (hb hby d5_58) rfl (feq hc58_6).2 (by decide) (by decide) k)
          show own_Go p e below PO (s₁.setTop (mkF m 65 #[.val (.ref aB), .val (.int (4 : Int32)), .val (.int (1 : Int32)), .unset] []))
          refine own_back ?_ (fun t k => XS.iconst X0.here hx rfl (hb hby d5_65) k)
          show own_Go p e below PO (s₁.setTop (mkF m 66 #[.val (.ref aB), .val (.int (4 : Int32)), .val (.int (1 : Int32)), .unset] [(.int (0 : Int32))]))
          refine own_back ?_ (fun t k => XS.istoreN X0.here hx rfl (hb hby d5_66) rfl (l' := #[.val (.ref aB), .val (.int (4 : Int32)), .val (.int (1 : Int32)), .val (.int (0 : Int32))]) rfl k)
          show own_Go p e below PO (s₁.setTop (mkF m 67 #[.val (.ref aB), .val (.int (4 : Int32)), .val (.int (1 : Int32)), .val (.int (0 : Int32))] []))
          refine own_back ?_ (fun t k => XS.iloadN X0.here hx rfl (hb hby d5_67) rfl k)
          show own_Go p e below PO (s₁.setTop (mkF m 68 #[.val (.ref aB), .val (.int (4 : Int32)), .val (.int (1 : Int32)), .val (.int (0 : Int32))] [(.int (1 : Int32))]))
          have hd68_8 : ¬ ((1 : Int32) = (0 : Int32)) := (by decide)
          refine own_back ?_ (fun t k => XS.ifYes X0.here hx rfl (pc0 := 68) (pc' := 75) rfl (hb hby d5_68) rfl ((if0 _ _).trans (feq hd68_8).2) (by decide) (by decide) k)
          show own_Go p e below PO (s₁.setTop (mkF m 75 #[.val (.ref aB), .val (.int (4 : Int32)), .val (.int (1 : Int32)), .val (.int (0 : Int32))] []))
          refine own_back ?_ (fun t k => XS.iconst X0.here hx rfl (hb hby d5_75) k)
          show own_Go p e below PO (s₁.setTop (mkF m 76 #[.val (.ref aB), .val (.int (4 : Int32)), .val (.int (1 : Int32)), .val (.int (0 : Int32))] [(.int (1 : Int32))]))
          refine own_back ?_ (fun t k => XS.goto X0.here hx rfl (pc0 := 76) (pc' := 80) rfl (hb hby d5_76) (by decide) (by decide) k)
          show own_Go p e below PO (s₁.setTop (mkF m 80 #[.val (.ref aB), .val (.int (4 : Int32)), .val (.int (1 : Int32)), .val (.int (0 : Int32))] [(.int (1 : Int32))]))
          refine own_retN X0 hx (t := .boolean) (rest := []) Bd.returns (by decide) (by simp) (hb hby d5_80) e0 (Bd.notSynchronized) ?_ (by decide) (by decide)
          exact ⟨by simp [own_ends, hc7_1, hc17_2, hc38_4, hc48_5, hc58_6], N0, rfl⟩
        refine own_back ?_ (fun t k => XS.icmpYes X0.here hx rfl (pc0 := 48) (pc' := 65) rfl (hb hby d5_48) rfl (feq hc48_5).2 (by decide) (by decide) k)
        show own_Go p e below PO (s₁.setTop (mkF m 65 #[.val (.ref aB), .val (.int (4 : Int32)), .val (.int (1 : Int32)), .unset] []))
        refine own_back ?_ (fun t k => XS.iconst X0.here hx rfl (hb hby d5_65) k)
        show own_Go p e below PO (s₁.setTop (mkF m 66 #[.val (.ref aB), .val (.int (4 : Int32)), .val (.int (1 : Int32)), .unset] [(.int (0 : Int32))]))
        refine own_back ?_ (fun t k => XS.istoreN X0.here hx rfl (hb hby d5_66) rfl (l' := #[.val (.ref aB), .val (.int (4 : Int32)), .val (.int (1 : Int32)), .val (.int (0 : Int32))]) rfl k)
        show own_Go p e below PO (s₁.setTop (mkF m 67 #[.val (.ref aB), .val (.int (4 : Int32)), .val (.int (1 : Int32)), .val (.int (0 : Int32))] []))
        refine own_back ?_ (fun t k => XS.iloadN X0.here hx rfl (hb hby d5_67) rfl k)
        show own_Go p e below PO (s₁.setTop (mkF m 68 #[.val (.ref aB), .val (.int (4 : Int32)), .val (.int (1 : Int32)), .val (.int (0 : Int32))] [(.int (1 : Int32))]))
        have hd68_9 : ¬ ((1 : Int32) = (0 : Int32)) := (by decide)
        refine own_back ?_ (fun t k => XS.ifYes X0.here hx rfl (pc0 := 68) (pc' := 75) rfl (hb hby d5_68) rfl ((if0 _ _).trans (feq hd68_9).2) (by decide) (by decide) k)
        show own_Go p e below PO (s₁.setTop (mkF m 75 #[.val (.ref aB), .val (.int (4 : Int32)), .val (.int (1 : Int32)), .val (.int (0 : Int32))] []))
        refine own_back ?_ (fun t k => XS.iconst X0.here hx rfl (hb hby d5_75) k)
        show own_Go p e below PO (s₁.setTop (mkF m 76 #[.val (.ref aB), .val (.int (4 : Int32)), .val (.int (1 : Int32)), .val (.int (0 : Int32))] [(.int (1 : Int32))]))
        refine own_back ?_ (fun t k => XS.goto X0.here hx rfl (pc0 := 76) (pc' := 80) rfl (hb hby d5_76) (by decide) (by decide) k)
        show own_Go p e below PO (s₁.setTop (mkF m 80 #[.val (.ref aB), .val (.int (4 : Int32)), .val (.int (1 : Int32)), .val (.int (0 : Int32))] [(.int (1 : Int32))]))
        refine own_retN X0 hx (t := .boolean) (rest := []) Bd.returns (by decide) (by simp) (hb hby d5_80) e0 (Bd.notSynchronized) ?_ (by decide) (by decide)
        exact ⟨by simp [own_ends, hc7_1, hc17_2, hc38_4, hc48_5], N0, rfl⟩
      refine own_back ?_ (fun t k => XS.icmpYes X0.here hx rfl (pc0 := 38) (pc' := 65) rfl (hb hby d5_38) rfl (feq hc38_4).2 (by decide) (by decide) k)
      show own_Go p e below PO (s₁.setTop (mkF m 65 #[.val (.ref aB), .val (.int (4 : Int32)), .val (.int (1 : Int32)), .unset] []))
      refine own_back ?_ (fun t k => XS.iconst X0.here hx rfl (hb hby d5_65) k)
      show own_Go p e below PO (s₁.setTop (mkF m 66 #[.val (.ref aB), .val (.int (4 : Int32)), .val (.int (1 : Int32)), .unset] [(.int (0 : Int32))]))
      refine own_back ?_ (fun t k => XS.istoreN X0.here hx rfl (hb hby d5_66) rfl (l' := #[.val (.ref aB), .val (.int (4 : Int32)), .val (.int (1 : Int32)), .val (.int (0 : Int32))]) rfl k)
      show own_Go p e below PO (s₁.setTop (mkF m 67 #[.val (.ref aB), .val (.int (4 : Int32)), .val (.int (1 : Int32)), .val (.int (0 : Int32))] []))
      refine own_back ?_ (fun t k => XS.iloadN X0.here hx rfl (hb hby d5_67) rfl k)
      show own_Go p e below PO (s₁.setTop (mkF m 68 #[.val (.ref aB), .val (.int (4 : Int32)), .val (.int (1 : Int32)), .val (.int (0 : Int32))] [(.int (1 : Int32))]))
      have hd68_10 : ¬ ((1 : Int32) = (0 : Int32)) := (by decide)
      refine own_back ?_ (fun t k => XS.ifYes X0.here hx rfl (pc0 := 68) (pc' := 75) rfl (hb hby d5_68) rfl ((if0 _ _).trans (feq hd68_10).2) (by decide) (by decide) k)
      show own_Go p e below PO (s₁.setTop (mkF m 75 #[.val (.ref aB), .val (.int (4 : Int32)), .val (.int (1 : Int32)), .val (.int (0 : Int32))] []))
      refine own_back ?_ (fun t k => XS.iconst X0.here hx rfl (hb hby d5_75) k)
      show own_Go p e below PO (s₁.setTop (mkF m 76 #[.val (.ref aB), .val (.int (4 : Int32)), .val (.int (1 : Int32)), .val (.int (0 : Int32))] [(.int (1 : Int32))]))
      refine own_back ?_ (fun t k => XS.goto X0.here hx rfl (pc0 := 76) (pc' := 80) rfl (hb hby d5_76) (by decide) (by decide) k)
      show own_Go p e below PO (s₁.setTop (mkF m 80 #[.val (.ref aB), .val (.int (4 : Int32)), .val (.int (1 : Int32)), .val (.int (0 : Int32))] [(.int (1 : Int32))]))
      refine own_retN X0 hx (t := .boolean) (rest := []) Bd.returns (by decide) (by simp) (hb hby d5_80) e0 (Bd.notSynchronized) ?_ (by decide) (by decide)
      exact ⟨by simp [own_ends, hc7_1, hc17_2, hc38_4], N0, rfl⟩
    refine own_back ?_ (fun t k => XS.icmpYes X0.here hx rfl (pc0 := 17) (pc' := 24) rfl (hb hby d5_17) rfl (feq hc17_2).2 (by decide) (by decide) k)
    show own_Go p e below PO (s₁.setTop (mkF m 24 #[.val (.ref aB), .val (.int (4 : Int32)), .unset, .unset] []))
    refine own_back ?_ (fun t k => XS.iconst X0.here hx rfl (hb hby d5_24) k)
    show own_Go p e below PO (s₁.setTop (mkF m 25 #[.val (.ref aB), .val (.int (4 : Int32)), .unset, .unset] [(.int (0 : Int32))]))
    refine own_back ?_ (fun t k => XS.istoreN X0.here hx rfl (hb hby d5_25) rfl (l' := #[.val (.ref aB), .val (.int (4 : Int32)), .val (.int (0 : Int32)), .unset]) rfl k)
    show own_Go p e below PO (s₁.setTop (mkF m 26 #[.val (.ref aB), .val (.int (4 : Int32)), .val (.int (0 : Int32)), .unset] []))
    refine own_back ?_ (fun t k => XS.iloadN X0.here hx rfl (hb hby d5_26) rfl k)
    show own_Go p e below PO (s₁.setTop (mkF m 27 #[.val (.ref aB), .val (.int (4 : Int32)), .val (.int (0 : Int32)), .unset] [(.int (4 : Int32))]))
    refine own_back ?_ (fun t k => XS.iconst X0.here hx rfl (hb hby d5_27) k)
    show own_Go p e below PO (s₁.setTop (mkF m 28 #[.val (.ref aB), .val (.int (4 : Int32)), .val (.int (0 : Int32)), .unset] [(.int (3 : Int32)), (.int (4 : Int32))]))
    have hd28_11 : ¬ ((4 : Int32) < (3 : Int32)) := (by decide)
    refine own_back ?_ (fun t k => XS.icmpNo X0.here hx rfl (hb hby d5_28) rfl (flt hd28_11).1 k)
    show own_Go p e below PO (s₁.setTop (mkF m 31 #[.val (.ref aB), .val (.int (4 : Int32)), .val (.int (0 : Int32)), .unset] []))
    refine own_back ?_ (fun t k => XS.aloadN X0.here hx rfl (hb hby d5_31) rfl rfl k)
    show own_Go p e below PO (s₁.setTop (mkF m 32 #[.val (.ref aB), .val (.int (4 : Int32)), .val (.int (0 : Int32)), .unset] [(.ref aB)]))
    refine own_back ?_ (fun t k => XS.iloadN X0.here hx rfl (hb hby d5_32) rfl k)
    show own_Go p e below PO (s₁.setTop (mkF m 33 #[.val (.ref aB), .val (.int (4 : Int32)), .val (.int (0 : Int32)), .unset] [(.int (4 : Int32)), (.ref aB)]))
    refine own_back ?_ (fun t k => XS.iconst X0.here hx rfl (hb hby d5_33) k)
    show own_Go p e below PO (s₁.setTop (mkF m 34 #[.val (.ref aB), .val (.int (4 : Int32)), .val (.int (0 : Int32)), .unset] [(.int (3 : Int32)), (.int (4 : Int32)), (.ref aB)]))
    refine own_back ?_ (fun t k => XS.isub X0.here hx rfl (hb hby d5_34) rfl k)
    show own_Go p e below PO (s₁.setTop (mkF m 35 #[.val (.ref aB), .val (.int (4 : Int32)), .val (.int (0 : Int32)), .unset] [(.int (1 : Int32)), (.ref aB)]))
    refine own_back ?_ (own_ldB X0 hx hZ e0 VB (j := (1 : Int32)) (v := (.int (own_at xs 1))) ⟨by decide, by decide⟩ (own_getD xs _) (g := (mkF m 35 #[.val (.ref aB), .val (.int (4 : Int32)), .val (.int (0 : Int32)), .unset] [(.int (1 : Int32)), (.ref aB)])) rfl rfl (hb hby d5_35))
    show own_Go p e below PO (s₁.setTop (mkF m 36 #[.val (.ref aB), .val (.int (4 : Int32)), .val (.int (0 : Int32)), .unset] [(.int (own_at xs 1))]))
    refine own_back ?_ (fun t k => XS.bipush X0.here hx rfl (hb hby d5_36) k)
    show own_Go p e below PO (s₁.setTop (mkF m 38 #[.val (.ref aB), .val (.int (4 : Int32)), .val (.int (0 : Int32)), .unset] [(.int (10 : Int32)), (.int (own_at xs 1))]))
    by_cases hc38_12 : (own_at xs 1) = (10 : Int32)
    case pos =>
      refine own_back ?_ (fun t k => XS.icmpNo X0.here hx rfl (hb hby d5_38) rfl (teq hc38_12).2 k)
      show own_Go p e below PO (s₁.setTop (mkF m 41 #[.val (.ref aB), .val (.int (4 : Int32)), .val (.int (0 : Int32)), .unset] []))
      refine own_back ?_ (fun t k => XS.aloadN X0.here hx rfl (hb hby d5_41) rfl rfl k)
      show own_Go p e below PO (s₁.setTop (mkF m 42 #[.val (.ref aB), .val (.int (4 : Int32)), .val (.int (0 : Int32)), .unset] [(.ref aB)]))
      refine own_back ?_ (fun t k => XS.iloadN X0.here hx rfl (hb hby d5_42) rfl k)
      show own_Go p e below PO (s₁.setTop (mkF m 43 #[.val (.ref aB), .val (.int (4 : Int32)), .val (.int (0 : Int32)), .unset] [(.int (4 : Int32)), (.ref aB)]))
      refine own_back ?_ (fun t k => XS.iconst X0.here hx rfl (hb hby d5_43) k)
      show own_Go p e below PO (s₁.setTop (mkF m 44 #[.val (.ref aB), .val (.int (4 : Int32)), .val (.int (0 : Int32)), .unset] [(.int (2 : Int32)), (.int (4 : Int32)), (.ref aB)]))
      refine own_back ?_ (fun t k => XS.isub X0.here hx rfl (hb hby d5_44) rfl k)
      show own_Go p e below PO (s₁.setTop (mkF m 45 #[.val (.ref aB), .val (.int (4 : Int32)), .val (.int (0 : Int32)), .unset] [(.int (2 : Int32)), (.ref aB)]))
      refine own_back ?_ (own_ldB X0 hx hZ e0 VB (j := (2 : Int32)) (v := (.int (own_at xs 2))) ⟨by decide, by decide⟩ (own_getD xs _) (g := (mkF m 45 #[.val (.ref aB), .val (.int (4 : Int32)), .val (.int (0 : Int32)), .unset] [(.int (2 : Int32)), (.ref aB)])) rfl rfl (hb hby d5_45))
      show own_Go p e below PO (s₁.setTop (mkF m 46 #[.val (.ref aB), .val (.int (4 : Int32)), .val (.int (0 : Int32)), .unset] [(.int (own_at xs 2))]))
      refine own_back ?_ (fun t k => XS.bipush X0.here hx rfl (hb hby d5_46) k)
      show own_Go p e below PO (s₁.setTop (mkF m 48 #[.val (.ref aB), .val (.int (4 : Int32)), .val (.int (0 : Int32)), .unset] [(.int (13 : Int32)), (.int (own_at xs 2))]))
      by_cases hc48_13 : (own_at xs 2) = (13 : Int32)
      case pos =>
        refine own_back ?_ (fun t k => XS.icmpNo X0.here hx rfl (hb hby d5_48) rfl (teq hc48_13).2 k)
        show own_Go p e below PO (s₁.setTop (mkF m 51 #[.val (.ref aB), .val (.int (4 : Int32)), .val (.int (0 : Int32)), .unset] []))
        refine own_back ?_ (fun t k => XS.aloadN X0.here hx rfl (hb hby d5_51) rfl rfl k)
        show own_Go p e below PO (s₁.setTop (mkF m 52 #[.val (.ref aB), .val (.int (4 : Int32)), .val (.int (0 : Int32)), .unset] [(.ref aB)]))
        refine own_back ?_ (fun t k => XS.iloadN X0.here hx rfl (hb hby d5_52) rfl k)
        show own_Go p e below PO (s₁.setTop (mkF m 53 #[.val (.ref aB), .val (.int (4 : Int32)), .val (.int (0 : Int32)), .unset] [(.int (4 : Int32)), (.ref aB)]))
        refine own_back ?_ (fun t k => XS.iconst X0.here hx rfl (hb hby d5_53) k)
        show own_Go p e below PO (s₁.setTop (mkF m 54 #[.val (.ref aB), .val (.int (4 : Int32)), .val (.int (0 : Int32)), .unset] [(.int (1 : Int32)), (.int (4 : Int32)), (.ref aB)]))
        refine own_back ?_ (fun t k => XS.isub X0.here hx rfl (hb hby d5_54) rfl k)
        show own_Go p e below PO (s₁.setTop (mkF m 55 #[.val (.ref aB), .val (.int (4 : Int32)), .val (.int (0 : Int32)), .unset] [(.int (3 : Int32)), (.ref aB)]))
        refine own_back ?_ (own_ldB X0 hx hZ e0 VB (j := (3 : Int32)) (v := (.int (own_at xs 3))) ⟨by decide, by decide⟩ (own_getD xs _) (g := (mkF m 55 #[.val (.ref aB), .val (.int (4 : Int32)), .val (.int (0 : Int32)), .unset] [(.int (3 : Int32)), (.ref aB)])) rfl rfl (hb hby d5_55))
        show own_Go p e below PO (s₁.setTop (mkF m 56 #[.val (.ref aB), .val (.int (4 : Int32)), .val (.int (0 : Int32)), .unset] [(.int (own_at xs 3))]))
        refine own_back ?_ (fun t k => XS.bipush X0.here hx rfl (hb hby d5_56) k)
        show own_Go p e below PO (s₁.setTop (mkF m 58 #[.val (.ref aB), .val (.int (4 : Int32)), .val (.int (0 : Int32)), .unset] [(.int (10 : Int32)), (.int (own_at xs 3))]))
        by_cases hc58_14 : (own_at xs 3) = (10 : Int32)
        case pos =>
          refine own_back ?_ (fun t k => XS.icmpNo X0.here hx rfl (hb hby d5_58) rfl (teq hc58_14).2 k)
          show own_Go p e below PO (s₁.setTop (mkF m 61 #[.val (.ref aB), .val (.int (4 : Int32)), .val (.int (0 : Int32)), .unset] []))
          refine own_back ?_ (fun t k => XS.iconst X0.here hx rfl (hb hby d5_61) k)
          show own_Go p e below PO (s₁.setTop (mkF m 62 #[.val (.ref aB), .val (.int (4 : Int32)), .val (.int (0 : Int32)), .unset] [(.int (1 : Int32))]))
          refine own_back ?_ (fun t k => XS.goto X0.here hx rfl (pc0 := 62) (pc' := 66) rfl (hb hby d5_62) (by decide) (by decide) k)
          show own_Go p e below PO (s₁.setTop (mkF m 66 #[.val (.ref aB), .val (.int (4 : Int32)), .val (.int (0 : Int32)), .unset] [(.int (1 : Int32))]))
          refine own_back ?_ (fun t k => XS.istoreN X0.here hx rfl (hb hby d5_66) rfl (l' := #[.val (.ref aB), .val (.int (4 : Int32)), .val (.int (0 : Int32)), .val (.int (1 : Int32))]) rfl k)
          show own_Go p e below PO (s₁.setTop (mkF m 67 #[.val (.ref aB), .val (.int (4 : Int32)), .val (.int (0 : Int32)), .val (.int (1 : Int32))] []))
          refine own_back ?_ (fun t k => XS.iloadN X0.here hx rfl (hb hby d5_67) rfl k)
          show own_Go p e below PO (s₁.setTop (mkF m 68 #[.val (.ref aB), .val (.int (4 : Int32)), .val (.int (0 : Int32)), .val (.int (1 : Int32))] [(.int (0 : Int32))]))
          refine own_back ?_ (fun t k => XS.ifNo X0.here hx rfl (hb hby d5_68) rfl ((if0 _ _).trans (teq rfl).2) k)
          show own_Go p e below PO (s₁.setTop (mkF m 71 #[.val (.ref aB), .val (.int (4 : Int32)), .val (.int (0 : Int32)), .val (.int (1 : Int32))] []))
          refine own_back ?_ (fun t k => XS.iloadN X0.here hx rfl (hb hby d5_71) rfl k)
          show own_Go p e below PO (s₁.setTop (mkF m 72 #[.val (.ref aB), .val (.int (4 : Int32)), .val (.int (0 : Int32)), .val (.int (1 : Int32))] [(.int (1 : Int32))]))
          have hd72_15 : ¬ ((1 : Int32) = (0 : Int32)) := (by decide)
          refine own_back ?_ (fun t k => XS.ifNo X0.here hx rfl (hb hby d5_72) rfl ((if0 _ _).trans (feq hd72_15).1) k)
          show own_Go p e below PO (s₁.setTop (mkF m 75 #[.val (.ref aB), .val (.int (4 : Int32)), .val (.int (0 : Int32)), .val (.int (1 : Int32))] []))
          refine own_back ?_ (fun t k => XS.iconst X0.here hx rfl (hb hby d5_75) k)
          show own_Go p e below PO (s₁.setTop (mkF m 76 #[.val (.ref aB), .val (.int (4 : Int32)), .val (.int (0 : Int32)), .val (.int (1 : Int32))] [(.int (1 : Int32))]))
          refine own_back ?_ (fun t k => XS.goto X0.here hx rfl (pc0 := 76) (pc' := 80) rfl (hb hby d5_76) (by decide) (by decide) k)
          show own_Go p e below PO (s₁.setTop (mkF m 80 #[.val (.ref aB), .val (.int (4 : Int32)), .val (.int (0 : Int32)), .val (.int (1 : Int32))] [(.int (1 : Int32))]))
          refine own_retN X0 hx (t := .boolean) (rest := []) Bd.returns (by decide) (by simp) (hb hby d5_80) e0 (Bd.notSynchronized) ?_ (by decide) (by decide)
          exact ⟨by simp [own_ends, hc7_1, hc17_2, hc38_12, hc48_13, hc58_14], N0, rfl⟩
        refine own_back ?_ (fun t k => XS.icmpYes X0.here hx rfl (pc0 := 58) (pc' := 65) rfl (hb hby d5_58) rfl (feq hc58_14).2 (by decide) (by decide) k)
        show own_Go p e below PO (s₁.setTop (mkF m 65 #[.val (.ref aB), .val (.int (4 : Int32)), .val (.int (0 : Int32)), .unset] []))
        refine own_back ?_ (fun t k => XS.iconst X0.here hx rfl (hb hby d5_65) k)
        show own_Go p e below PO (s₁.setTop (mkF m 66 #[.val (.ref aB), .val (.int (4 : Int32)), .val (.int (0 : Int32)), .unset] [(.int (0 : Int32))]))
        refine own_back ?_ (fun t k => XS.istoreN X0.here hx rfl (hb hby d5_66) rfl (l' := #[.val (.ref aB), .val (.int (4 : Int32)), .val (.int (0 : Int32)), .val (.int (0 : Int32))]) rfl k)
        show own_Go p e below PO (s₁.setTop (mkF m 67 #[.val (.ref aB), .val (.int (4 : Int32)), .val (.int (0 : Int32)), .val (.int (0 : Int32))] []))
        refine own_back ?_ (fun t k => XS.iloadN X0.here hx rfl (hb hby d5_67) rfl k)
        show own_Go p e below PO (s₁.setTop (mkF m 68 #[.val (.ref aB), .val (.int (4 : Int32)), .val (.int (0 : Int32)), .val (.int (0 : Int32))] [(.int (0 : Int32))]))
        refine own_back ?_ (fun t k => XS.ifNo X0.here hx rfl (hb hby d5_68) rfl ((if0 _ _).trans (teq rfl).2) k)
        show own_Go p e below PO (s₁.setTop (mkF m 71 #[.val (.ref aB), .val (.int (4 : Int32)), .val (.int (0 : Int32)), .val (.int (0 : Int32))] []))
        refine own_back ?_ (fun t k => XS.iloadN X0.here hx rfl (hb hby d5_71) rfl k)
        show own_Go p e below PO (s₁.setTop (mkF m 72 #[.val (.ref aB), .val (.int (4 : Int32)), .val (.int (0 : Int32)), .val (.int (0 : Int32))] [(.int (0 : Int32))]))
        refine own_back ?_ (fun t k => XS.ifYes X0.here hx rfl (pc0 := 72) (pc' := 79) rfl (hb hby d5_72) rfl ((if0 _ _).trans (teq rfl).1) (by decide) (by decide) k)
        show own_Go p e below PO (s₁.setTop (mkF m 79 #[.val (.ref aB), .val (.int (4 : Int32)), .val (.int (0 : Int32)), .val (.int (0 : Int32))] []))
        refine own_back ?_ (fun t k => XS.iconst X0.here hx rfl (hb hby d5_79) k)
        show own_Go p e below PO (s₁.setTop (mkF m 80 #[.val (.ref aB), .val (.int (4 : Int32)), .val (.int (0 : Int32)), .val (.int (0 : Int32))] [(.int (0 : Int32))]))
        refine own_retN X0 hx (t := .boolean) (rest := []) Bd.returns (by decide) (by simp) (hb hby d5_80) e0 (Bd.notSynchronized) ?_ (by decide) (by decide)
        exact ⟨by simp [own_ends, hc7_1, hc17_2, hc38_12, hc48_13, hc58_14], N0, rfl⟩
      refine own_back ?_ (fun t k => XS.icmpYes X0.here hx rfl (pc0 := 48) (pc' := 65) rfl (hb hby d5_48) rfl (feq hc48_13).2 (by decide) (by decide) k)
      show own_Go p e below PO (s₁.setTop (mkF m 65 #[.val (.ref aB), .val (.int (4 : Int32)), .val (.int (0 : Int32)), .unset] []))
      refine own_back ?_ (fun t k => XS.iconst X0.here hx rfl (hb hby d5_65) k)
      show own_Go p e below PO (s₁.setTop (mkF m 66 #[.val (.ref aB), .val (.int (4 : Int32)), .val (.int (0 : Int32)), .unset] [(.int (0 : Int32))]))
      refine own_back ?_ (fun t k => XS.istoreN X0.here hx rfl (hb hby d5_66) rfl (l' := #[.val (.ref aB), .val (.int (4 : Int32)), .val (.int (0 : Int32)), .val (.int (0 : Int32))]) rfl k)
      show own_Go p e below PO (s₁.setTop (mkF m 67 #[.val (.ref aB), .val (.int (4 : Int32)), .val (.int (0 : Int32)), .val (.int (0 : Int32))] []))
      refine own_back ?_ (fun t k => XS.iloadN X0.here hx rfl (hb hby d5_67) rfl k)
      show own_Go p e below PO (s₁.setTop (mkF m 68 #[.val (.ref aB), .val (.int (4 : Int32)), .val (.int (0 : Int32)), .val (.int (0 : Int32))] [(.int (0 : Int32))]))
      refine own_back ?_ (fun t k => XS.ifNo X0.here hx rfl (hb hby d5_68) rfl ((if0 _ _).trans (teq rfl).2) k)
      show own_Go p e below PO (s₁.setTop (mkF m 71 #[.val (.ref aB), .val (.int (4 : Int32)), .val (.int (0 : Int32)), .val (.int (0 : Int32))] []))
      refine own_back ?_ (fun t k => XS.iloadN X0.here hx rfl (hb hby d5_71) rfl k)
      show own_Go p e below PO (s₁.setTop (mkF m 72 #[.val (.ref aB), .val (.int (4 : Int32)), .val (.int (0 : Int32)), .val (.int (0 : Int32))] [(.int (0 : Int32))]))
      refine own_back ?_ (fun t k => XS.ifYes X0.here hx rfl (pc0 := 72) (pc' := 79) rfl (hb hby d5_72) rfl ((if0 _ _).trans (teq rfl).1) (by decide) (by decide) k)
      show own_Go p e below PO (s₁.setTop (mkF m 79 #[.val (.ref aB), .val (.int (4 : Int32)), .val (.int (0 : Int32)), .val (.int (0 : Int32))] []))
      refine own_back ?_ (fun t k => XS.iconst X0.here hx rfl (hb hby d5_79) k)
      show own_Go p e below PO (s₁.setTop (mkF m 80 #[.val (.ref aB), .val (.int (4 : Int32)), .val (.int (0 : Int32)), .val (.int (0 : Int32))] [(.int (0 : Int32))]))
      refine own_retN X0 hx (t := .boolean) (rest := []) Bd.returns (by decide) (by simp) (hb hby d5_80) e0 (Bd.notSynchronized) ?_ (by decide) (by decide)
      exact ⟨by simp [own_ends, hc7_1, hc17_2, hc38_12, hc48_13], N0, rfl⟩
    refine own_back ?_ (fun t k => XS.icmpYes X0.here hx rfl (pc0 := 38) (pc' := 65) rfl (hb hby d5_38) rfl (feq hc38_12).2 (by decide) (by decide) k)
    show own_Go p e below PO (s₁.setTop (mkF m 65 #[.val (.ref aB), .val (.int (4 : Int32)), .val (.int (0 : Int32)), .unset] []))
    refine own_back ?_ (fun t k => XS.iconst X0.here hx rfl (hb hby d5_65) k)
    show own_Go p e below PO (s₁.setTop (mkF m 66 #[.val (.ref aB), .val (.int (4 : Int32)), .val (.int (0 : Int32)), .unset] [(.int (0 : Int32))]))
    refine own_back ?_ (fun t k => XS.istoreN X0.here hx rfl (hb hby d5_66) rfl (l' := #[.val (.ref aB), .val (.int (4 : Int32)), .val (.int (0 : Int32)), .val (.int (0 : Int32))]) rfl k)
    show own_Go p e below PO (s₁.setTop (mkF m 67 #[.val (.ref aB), .val (.int (4 : Int32)), .val (.int (0 : Int32)), .val (.int (0 : Int32))] []))
    refine own_back ?_ (fun t k => XS.iloadN X0.here hx rfl (hb hby d5_67) rfl k)
    show own_Go p e below PO (s₁.setTop (mkF m 68 #[.val (.ref aB), .val (.int (4 : Int32)), .val (.int (0 : Int32)), .val (.int (0 : Int32))] [(.int (0 : Int32))]))
    refine own_back ?_ (fun t k => XS.ifNo X0.here hx rfl (hb hby d5_68) rfl ((if0 _ _).trans (teq rfl).2) k)
    show own_Go p e below PO (s₁.setTop (mkF m 71 #[.val (.ref aB), .val (.int (4 : Int32)), .val (.int (0 : Int32)), .val (.int (0 : Int32))] []))
    refine own_back ?_ (fun t k => XS.iloadN X0.here hx rfl (hb hby d5_71) rfl k)
    show own_Go p e below PO (s₁.setTop (mkF m 72 #[.val (.ref aB), .val (.int (4 : Int32)), .val (.int (0 : Int32)), .val (.int (0 : Int32))] [(.int (0 : Int32))]))
    refine own_back ?_ (fun t k => XS.ifYes X0.here hx rfl (pc0 := 72) (pc' := 79) rfl (hb hby d5_72) rfl ((if0 _ _).trans (teq rfl).1) (by decide) (by decide) k)
    show own_Go p e below PO (s₁.setTop (mkF m 79 #[.val (.ref aB), .val (.int (4 : Int32)), .val (.int (0 : Int32)), .val (.int (0 : Int32))] []))
    refine own_back ?_ (fun t k => XS.iconst X0.here hx rfl (hb hby d5_79) k)
    show own_Go p e below PO (s₁.setTop (mkF m 80 #[.val (.ref aB), .val (.int (4 : Int32)), .val (.int (0 : Int32)), .val (.int (0 : Int32))] [(.int (0 : Int32))]))
    refine own_retN X0 hx (t := .boolean) (rest := []) Bd.returns (by decide) (by simp) (hb hby d5_80) e0 (Bd.notSynchronized) ?_ (by decide) (by decide)
    exact ⟨by simp [own_ends, hc7_1, hc17_2, hc38_12], N0, rfl⟩
  refine own_back ?_ (fun t k => XS.icmpYes X0.here hx rfl (pc0 := 7) (pc' := 24) rfl (hb hby d5_7) rfl (feq hc7_1).2 (by decide) (by decide) k)
  show own_Go p e below PO (s₁.setTop (mkF m 24 #[.val (.ref aB), .val (.int (4 : Int32)), .unset, .unset] []))
  refine own_back ?_ (fun t k => XS.iconst X0.here hx rfl (hb hby d5_24) k)
  show own_Go p e below PO (s₁.setTop (mkF m 25 #[.val (.ref aB), .val (.int (4 : Int32)), .unset, .unset] [(.int (0 : Int32))]))
  refine own_back ?_ (fun t k => XS.istoreN X0.here hx rfl (hb hby d5_25) rfl (l' := #[.val (.ref aB), .val (.int (4 : Int32)), .val (.int (0 : Int32)), .unset]) rfl k)
  show own_Go p e below PO (s₁.setTop (mkF m 26 #[.val (.ref aB), .val (.int (4 : Int32)), .val (.int (0 : Int32)), .unset] []))
  refine own_back ?_ (fun t k => XS.iloadN X0.here hx rfl (hb hby d5_26) rfl k)
  show own_Go p e below PO (s₁.setTop (mkF m 27 #[.val (.ref aB), .val (.int (4 : Int32)), .val (.int (0 : Int32)), .unset] [(.int (4 : Int32))]))
  refine own_back ?_ (fun t k => XS.iconst X0.here hx rfl (hb hby d5_27) k)
  show own_Go p e below PO (s₁.setTop (mkF m 28 #[.val (.ref aB), .val (.int (4 : Int32)), .val (.int (0 : Int32)), .unset] [(.int (3 : Int32)), (.int (4 : Int32))]))
  have hd28_16 : ¬ ((4 : Int32) < (3 : Int32)) := (by decide)
  refine own_back ?_ (fun t k => XS.icmpNo X0.here hx rfl (hb hby d5_28) rfl (flt hd28_16).1 k)
  show own_Go p e below PO (s₁.setTop (mkF m 31 #[.val (.ref aB), .val (.int (4 : Int32)), .val (.int (0 : Int32)), .unset] []))
  refine own_back ?_ (fun t k => XS.aloadN X0.here hx rfl (hb hby d5_31) rfl rfl k)
  show own_Go p e below PO (s₁.setTop (mkF m 32 #[.val (.ref aB), .val (.int (4 : Int32)), .val (.int (0 : Int32)), .unset] [(.ref aB)]))
  refine own_back ?_ (fun t k => XS.iloadN X0.here hx rfl (hb hby d5_32) rfl k)
  show own_Go p e below PO (s₁.setTop (mkF m 33 #[.val (.ref aB), .val (.int (4 : Int32)), .val (.int (0 : Int32)), .unset] [(.int (4 : Int32)), (.ref aB)]))
  refine own_back ?_ (fun t k => XS.iconst X0.here hx rfl (hb hby d5_33) k)
  show own_Go p e below PO (s₁.setTop (mkF m 34 #[.val (.ref aB), .val (.int (4 : Int32)), .val (.int (0 : Int32)), .unset] [(.int (3 : Int32)), (.int (4 : Int32)), (.ref aB)]))
  refine own_back ?_ (fun t k => XS.isub X0.here hx rfl (hb hby d5_34) rfl k)
  show own_Go p e below PO (s₁.setTop (mkF m 35 #[.val (.ref aB), .val (.int (4 : Int32)), .val (.int (0 : Int32)), .unset] [(.int (1 : Int32)), (.ref aB)]))
  refine own_back ?_ (own_ldB X0 hx hZ e0 VB (j := (1 : Int32)) (v := (.int (own_at xs 1))) ⟨by decide, by decide⟩ (own_getD xs _) (g := (mkF m 35 #[.val (.ref aB), .val (.int (4 : Int32)), .val (.int (0 : Int32)), .unset] [(.int (1 : Int32)), (.ref aB)])) rfl rfl (hb hby d5_35))
  show own_Go p e below PO (s₁.setTop (mkF m 36 #[.val (.ref aB), .val (.int (4 : Int32)), .val (.int (0 : Int32)), .unset] [(.int (own_at xs 1))]))
  refine own_back ?_ (fun t k => XS.bipush X0.here hx rfl (hb hby d5_36) k)
  show own_Go p e below PO (s₁.setTop (mkF m 38 #[.val (.ref aB), .val (.int (4 : Int32)), .val (.int (0 : Int32)), .unset] [(.int (10 : Int32)), (.int (own_at xs 1))]))
  by_cases hc38_17 : (own_at xs 1) = (10 : Int32)
  case pos =>
    refine own_back ?_ (fun t k => XS.icmpNo X0.here hx rfl (hb hby d5_38) rfl (teq hc38_17).2 k)
    show own_Go p e below PO (s₁.setTop (mkF m 41 #[.val (.ref aB), .val (.int (4 : Int32)), .val (.int (0 : Int32)), .unset] []))
    refine own_back ?_ (fun t k => XS.aloadN X0.here hx rfl (hb hby d5_41) rfl rfl k)
    show own_Go p e below PO (s₁.setTop (mkF m 42 #[.val (.ref aB), .val (.int (4 : Int32)), .val (.int (0 : Int32)), .unset] [(.ref aB)]))
    refine own_back ?_ (fun t k => XS.iloadN X0.here hx rfl (hb hby d5_42) rfl k)
    show own_Go p e below PO (s₁.setTop (mkF m 43 #[.val (.ref aB), .val (.int (4 : Int32)), .val (.int (0 : Int32)), .unset] [(.int (4 : Int32)), (.ref aB)]))
    refine own_back ?_ (fun t k => XS.iconst X0.here hx rfl (hb hby d5_43) k)
    show own_Go p e below PO (s₁.setTop (mkF m 44 #[.val (.ref aB), .val (.int (4 : Int32)), .val (.int (0 : Int32)), .unset] [(.int (2 : Int32)), (.int (4 : Int32)), (.ref aB)]))
    refine own_back ?_ (fun t k => XS.isub X0.here hx rfl (hb hby d5_44) rfl k)
    show own_Go p e below PO (s₁.setTop (mkF m 45 #[.val (.ref aB), .val (.int (4 : Int32)), .val (.int (0 : Int32)), .unset] [(.int (2 : Int32)), (.ref aB)]))
    refine own_back ?_ (own_ldB X0 hx hZ e0 VB (j := (2 : Int32)) (v := (.int (own_at xs 2))) ⟨by decide, by decide⟩ (own_getD xs _) (g := (mkF m 45 #[.val (.ref aB), .val (.int (4 : Int32)), .val (.int (0 : Int32)), .unset] [(.int (2 : Int32)), (.ref aB)])) rfl rfl (hb hby d5_45))
    show own_Go p e below PO (s₁.setTop (mkF m 46 #[.val (.ref aB), .val (.int (4 : Int32)), .val (.int (0 : Int32)), .unset] [(.int (own_at xs 2))]))
    refine own_back ?_ (fun t k => XS.bipush X0.here hx rfl (hb hby d5_46) k)
    show own_Go p e below PO (s₁.setTop (mkF m 48 #[.val (.ref aB), .val (.int (4 : Int32)), .val (.int (0 : Int32)), .unset] [(.int (13 : Int32)), (.int (own_at xs 2))]))
    by_cases hc48_18 : (own_at xs 2) = (13 : Int32)
    case pos =>
      refine own_back ?_ (fun t k => XS.icmpNo X0.here hx rfl (hb hby d5_48) rfl (teq hc48_18).2 k)
      show own_Go p e below PO (s₁.setTop (mkF m 51 #[.val (.ref aB), .val (.int (4 : Int32)), .val (.int (0 : Int32)), .unset] []))
      refine own_back ?_ (fun t k => XS.aloadN X0.here hx rfl (hb hby d5_51) rfl rfl k)
      show own_Go p e below PO (s₁.setTop (mkF m 52 #[.val (.ref aB), .val (.int (4 : Int32)), .val (.int (0 : Int32)), .unset] [(.ref aB)]))
      refine own_back ?_ (fun t k => XS.iloadN X0.here hx rfl (hb hby d5_52) rfl k)
      show own_Go p e below PO (s₁.setTop (mkF m 53 #[.val (.ref aB), .val (.int (4 : Int32)), .val (.int (0 : Int32)), .unset] [(.int (4 : Int32)), (.ref aB)]))
      refine own_back ?_ (fun t k => XS.iconst X0.here hx rfl (hb hby d5_53) k)
      show own_Go p e below PO (s₁.setTop (mkF m 54 #[.val (.ref aB), .val (.int (4 : Int32)), .val (.int (0 : Int32)), .unset] [(.int (1 : Int32)), (.int (4 : Int32)), (.ref aB)]))
      refine own_back ?_ (fun t k => XS.isub X0.here hx rfl (hb hby d5_54) rfl k)
      show own_Go p e below PO (s₁.setTop (mkF m 55 #[.val (.ref aB), .val (.int (4 : Int32)), .val (.int (0 : Int32)), .unset] [(.int (3 : Int32)), (.ref aB)]))
      refine own_back ?_ (own_ldB X0 hx hZ e0 VB (j := (3 : Int32)) (v := (.int (own_at xs 3))) ⟨by decide, by decide⟩ (own_getD xs _) (g := (mkF m 55 #[.val (.ref aB), .val (.int (4 : Int32)), .val (.int (0 : Int32)), .unset] [(.int (3 : Int32)), (.ref aB)])) rfl rfl (hb hby d5_55))
      show own_Go p e below PO (s₁.setTop (mkF m 56 #[.val (.ref aB), .val (.int (4 : Int32)), .val (.int (0 : Int32)), .unset] [(.int (own_at xs 3))]))
      refine own_back ?_ (fun t k => XS.bipush X0.here hx rfl (hb hby d5_56) k)
      show own_Go p e below PO (s₁.setTop (mkF m 58 #[.val (.ref aB), .val (.int (4 : Int32)), .val (.int (0 : Int32)), .unset] [(.int (10 : Int32)), (.int (own_at xs 3))]))
      by_cases hc58_19 : (own_at xs 3) = (10 : Int32)
      case pos =>
        refine own_back ?_ (fun t k => XS.icmpNo X0.here hx rfl (hb hby d5_58) rfl (teq hc58_19).2 k)
        show own_Go p e below PO (s₁.setTop (mkF m 61 #[.val (.ref aB), .val (.int (4 : Int32)), .val (.int (0 : Int32)), .unset] []))
        refine own_back ?_ (fun t k => XS.iconst X0.here hx rfl (hb hby d5_61) k)
        show own_Go p e below PO (s₁.setTop (mkF m 62 #[.val (.ref aB), .val (.int (4 : Int32)), .val (.int (0 : Int32)), .unset] [(.int (1 : Int32))]))
        refine own_back ?_ (fun t k => XS.goto X0.here hx rfl (pc0 := 62) (pc' := 66) rfl (hb hby d5_62) (by decide) (by decide) k)
        show own_Go p e below PO (s₁.setTop (mkF m 66 #[.val (.ref aB), .val (.int (4 : Int32)), .val (.int (0 : Int32)), .unset] [(.int (1 : Int32))]))
        refine own_back ?_ (fun t k => XS.istoreN X0.here hx rfl (hb hby d5_66) rfl (l' := #[.val (.ref aB), .val (.int (4 : Int32)), .val (.int (0 : Int32)), .val (.int (1 : Int32))]) rfl k)
        show own_Go p e below PO (s₁.setTop (mkF m 67 #[.val (.ref aB), .val (.int (4 : Int32)), .val (.int (0 : Int32)), .val (.int (1 : Int32))] []))
        refine own_back ?_ (fun t k => XS.iloadN X0.here hx rfl (hb hby d5_67) rfl k)
        show own_Go p e below PO (s₁.setTop (mkF m 68 #[.val (.ref aB), .val (.int (4 : Int32)), .val (.int (0 : Int32)), .val (.int (1 : Int32))] [(.int (0 : Int32))]))
        refine own_back ?_ (fun t k => XS.ifNo X0.here hx rfl (hb hby d5_68) rfl ((if0 _ _).trans (teq rfl).2) k)
        show own_Go p e below PO (s₁.setTop (mkF m 71 #[.val (.ref aB), .val (.int (4 : Int32)), .val (.int (0 : Int32)), .val (.int (1 : Int32))] []))
        refine own_back ?_ (fun t k => XS.iloadN X0.here hx rfl (hb hby d5_71) rfl k)
        show own_Go p e below PO (s₁.setTop (mkF m 72 #[.val (.ref aB), .val (.int (4 : Int32)), .val (.int (0 : Int32)), .val (.int (1 : Int32))] [(.int (1 : Int32))]))
        have hd72_20 : ¬ ((1 : Int32) = (0 : Int32)) := (by decide)
        refine own_back ?_ (fun t k => XS.ifNo X0.here hx rfl (hb hby d5_72) rfl ((if0 _ _).trans (feq hd72_20).1) k)
        show own_Go p e below PO (s₁.setTop (mkF m 75 #[.val (.ref aB), .val (.int (4 : Int32)), .val (.int (0 : Int32)), .val (.int (1 : Int32))] []))
        refine own_back ?_ (fun t k => XS.iconst X0.here hx rfl (hb hby d5_75) k)
        show own_Go p e below PO (s₁.setTop (mkF m 76 #[.val (.ref aB), .val (.int (4 : Int32)), .val (.int (0 : Int32)), .val (.int (1 : Int32))] [(.int (1 : Int32))]))
        refine own_back ?_ (fun t k => XS.goto X0.here hx rfl (pc0 := 76) (pc' := 80) rfl (hb hby d5_76) (by decide) (by decide) k)
        show own_Go p e below PO (s₁.setTop (mkF m 80 #[.val (.ref aB), .val (.int (4 : Int32)), .val (.int (0 : Int32)), .val (.int (1 : Int32))] [(.int (1 : Int32))]))
        refine own_retN X0 hx (t := .boolean) (rest := []) Bd.returns (by decide) (by simp) (hb hby d5_80) e0 (Bd.notSynchronized) ?_ (by decide) (by decide)
        exact ⟨by simp [own_ends, hc7_1, hc38_17, hc48_18, hc58_19], N0, rfl⟩
      refine own_back ?_ (fun t k => XS.icmpYes X0.here hx rfl (pc0 := 58) (pc' := 65) rfl (hb hby d5_58) rfl (feq hc58_19).2 (by decide) (by decide) k)
      show own_Go p e below PO (s₁.setTop (mkF m 65 #[.val (.ref aB), .val (.int (4 : Int32)), .val (.int (0 : Int32)), .unset] []))
      refine own_back ?_ (fun t k => XS.iconst X0.here hx rfl (hb hby d5_65) k)
      show own_Go p e below PO (s₁.setTop (mkF m 66 #[.val (.ref aB), .val (.int (4 : Int32)), .val (.int (0 : Int32)), .unset] [(.int (0 : Int32))]))
      refine own_back ?_ (fun t k => XS.istoreN X0.here hx rfl (hb hby d5_66) rfl (l' := #[.val (.ref aB), .val (.int (4 : Int32)), .val (.int (0 : Int32)), .val (.int (0 : Int32))]) rfl k)
      show own_Go p e below PO (s₁.setTop (mkF m 67 #[.val (.ref aB), .val (.int (4 : Int32)), .val (.int (0 : Int32)), .val (.int (0 : Int32))] []))
      refine own_back ?_ (fun t k => XS.iloadN X0.here hx rfl (hb hby d5_67) rfl k)
      show own_Go p e below PO (s₁.setTop (mkF m 68 #[.val (.ref aB), .val (.int (4 : Int32)), .val (.int (0 : Int32)), .val (.int (0 : Int32))] [(.int (0 : Int32))]))
      refine own_back ?_ (fun t k => XS.ifNo X0.here hx rfl (hb hby d5_68) rfl ((if0 _ _).trans (teq rfl).2) k)
      show own_Go p e below PO (s₁.setTop (mkF m 71 #[.val (.ref aB), .val (.int (4 : Int32)), .val (.int (0 : Int32)), .val (.int (0 : Int32))] []))
      refine own_back ?_ (fun t k => XS.iloadN X0.here hx rfl (hb hby d5_71) rfl k)
      show own_Go p e below PO (s₁.setTop (mkF m 72 #[.val (.ref aB), .val (.int (4 : Int32)), .val (.int (0 : Int32)), .val (.int (0 : Int32))] [(.int (0 : Int32))]))
      refine own_back ?_ (fun t k => XS.ifYes X0.here hx rfl (pc0 := 72) (pc' := 79) rfl (hb hby d5_72) rfl ((if0 _ _).trans (teq rfl).1) (by decide) (by decide) k)
      show own_Go p e below PO (s₁.setTop (mkF m 79 #[.val (.ref aB), .val (.int (4 : Int32)), .val (.int (0 : Int32)), .val (.int (0 : Int32))] []))
      refine own_back ?_ (fun t k => XS.iconst X0.here hx rfl (hb hby d5_79) k)
      show own_Go p e below PO (s₁.setTop (mkF m 80 #[.val (.ref aB), .val (.int (4 : Int32)), .val (.int (0 : Int32)), .val (.int (0 : Int32))] [(.int (0 : Int32))]))
      refine own_retN X0 hx (t := .boolean) (rest := []) Bd.returns (by decide) (by simp) (hb hby d5_80) e0 (Bd.notSynchronized) ?_ (by decide) (by decide)
      exact ⟨by simp [own_ends, hc7_1, hc38_17, hc48_18, hc58_19], N0, rfl⟩
    refine own_back ?_ (fun t k => XS.icmpYes X0.here hx rfl (pc0 := 48) (pc' := 65) rfl (hb hby d5_48) rfl (feq hc48_18).2 (by decide) (by decide) k)
    show own_Go p e below PO (s₁.setTop (mkF m 65 #[.val (.ref aB), .val (.int (4 : Int32)), .val (.int (0 : Int32)), .unset] []))
    refine own_back ?_ (fun t k => XS.iconst X0.here hx rfl (hb hby d5_65) k)
    show own_Go p e below PO (s₁.setTop (mkF m 66 #[.val (.ref aB), .val (.int (4 : Int32)), .val (.int (0 : Int32)), .unset] [(.int (0 : Int32))]))
    refine own_back ?_ (fun t k => XS.istoreN X0.here hx rfl (hb hby d5_66) rfl (l' := #[.val (.ref aB), .val (.int (4 : Int32)), .val (.int (0 : Int32)), .val (.int (0 : Int32))]) rfl k)
    show own_Go p e below PO (s₁.setTop (mkF m 67 #[.val (.ref aB), .val (.int (4 : Int32)), .val (.int (0 : Int32)), .val (.int (0 : Int32))] []))
    refine own_back ?_ (fun t k => XS.iloadN X0.here hx rfl (hb hby d5_67) rfl k)
    show own_Go p e below PO (s₁.setTop (mkF m 68 #[.val (.ref aB), .val (.int (4 : Int32)), .val (.int (0 : Int32)), .val (.int (0 : Int32))] [(.int (0 : Int32))]))
    refine own_back ?_ (fun t k => XS.ifNo X0.here hx rfl (hb hby d5_68) rfl ((if0 _ _).trans (teq rfl).2) k)
    show own_Go p e below PO (s₁.setTop (mkF m 71 #[.val (.ref aB), .val (.int (4 : Int32)), .val (.int (0 : Int32)), .val (.int (0 : Int32))] []))
    refine own_back ?_ (fun t k => XS.iloadN X0.here hx rfl (hb hby d5_71) rfl k)
    show own_Go p e below PO (s₁.setTop (mkF m 72 #[.val (.ref aB), .val (.int (4 : Int32)), .val (.int (0 : Int32)), .val (.int (0 : Int32))] [(.int (0 : Int32))]))
    refine own_back ?_ (fun t k => XS.ifYes X0.here hx rfl (pc0 := 72) (pc' := 79) rfl (hb hby d5_72) rfl ((if0 _ _).trans (teq rfl).1) (by decide) (by decide) k)
    show own_Go p e below PO (s₁.setTop (mkF m 79 #[.val (.ref aB), .val (.int (4 : Int32)), .val (.int (0 : Int32)), .val (.int (0 : Int32))] []))
    refine own_back ?_ (fun t k => XS.iconst X0.here hx rfl (hb hby d5_79) k)
    show own_Go p e below PO (s₁.setTop (mkF m 80 #[.val (.ref aB), .val (.int (4 : Int32)), .val (.int (0 : Int32)), .val (.int (0 : Int32))] [(.int (0 : Int32))]))
    refine own_retN X0 hx (t := .boolean) (rest := []) Bd.returns (by decide) (by simp) (hb hby d5_80) e0 (Bd.notSynchronized) ?_ (by decide) (by decide)
    exact ⟨by simp [own_ends, hc7_1, hc38_17, hc48_18], N0, rfl⟩
  refine own_back ?_ (fun t k => XS.icmpYes X0.here hx rfl (pc0 := 38) (pc' := 65) rfl (hb hby d5_38) rfl (feq hc38_17).2 (by decide) (by decide) k)
  show own_Go p e below PO (s₁.setTop (mkF m 65 #[.val (.ref aB), .val (.int (4 : Int32)), .val (.int (0 : Int32)), .unset] []))
  refine own_back ?_ (fun t k => XS.iconst X0.here hx rfl (hb hby d5_65) k)
  show own_Go p e below PO (s₁.setTop (mkF m 66 #[.val (.ref aB), .val (.int (4 : Int32)), .val (.int (0 : Int32)), .unset] [(.int (0 : Int32))]))
  refine own_back ?_ (fun t k => XS.istoreN X0.here hx rfl (hb hby d5_66) rfl (l' := #[.val (.ref aB), .val (.int (4 : Int32)), .val (.int (0 : Int32)), .val (.int (0 : Int32))]) rfl k)
  show own_Go p e below PO (s₁.setTop (mkF m 67 #[.val (.ref aB), .val (.int (4 : Int32)), .val (.int (0 : Int32)), .val (.int (0 : Int32))] []))
  refine own_back ?_ (fun t k => XS.iloadN X0.here hx rfl (hb hby d5_67) rfl k)
  show own_Go p e below PO (s₁.setTop (mkF m 68 #[.val (.ref aB), .val (.int (4 : Int32)), .val (.int (0 : Int32)), .val (.int (0 : Int32))] [(.int (0 : Int32))]))
  refine own_back ?_ (fun t k => XS.ifNo X0.here hx rfl (hb hby d5_68) rfl ((if0 _ _).trans (teq rfl).2) k)
  show own_Go p e below PO (s₁.setTop (mkF m 71 #[.val (.ref aB), .val (.int (4 : Int32)), .val (.int (0 : Int32)), .val (.int (0 : Int32))] []))
  refine own_back ?_ (fun t k => XS.iloadN X0.here hx rfl (hb hby d5_71) rfl k)
  show own_Go p e below PO (s₁.setTop (mkF m 72 #[.val (.ref aB), .val (.int (4 : Int32)), .val (.int (0 : Int32)), .val (.int (0 : Int32))] [(.int (0 : Int32))]))
  refine own_back ?_ (fun t k => XS.ifYes X0.here hx rfl (pc0 := 72) (pc' := 79) rfl (hb hby d5_72) rfl ((if0 _ _).trans (teq rfl).1) (by decide) (by decide) k)
  show own_Go p e below PO (s₁.setTop (mkF m 79 #[.val (.ref aB), .val (.int (4 : Int32)), .val (.int (0 : Int32)), .val (.int (0 : Int32))] []))
  refine own_back ?_ (fun t k => XS.iconst X0.here hx rfl (hb hby d5_79) k)
  show own_Go p e below PO (s₁.setTop (mkF m 80 #[.val (.ref aB), .val (.int (4 : Int32)), .val (.int (0 : Int32)), .val (.int (0 : Int32))] [(.int (0 : Int32))]))
  refine own_retN X0 hx (t := .boolean) (rest := []) Bd.returns (by decide) (by simp) (hb hby d5_80) e0 (Bd.notSynchronized) ?_ (by decide) (by decide)
  exact ⟨by simp [own_ends, hc7_1, hc38_17], N0, rfl⟩
theorem ef_rm5_5 (m : MethodId) (x0 : Addr) (x1 : Int32) : entryFrame m #[(.ref x0), (.int x1)] 4 = mkF m 0 #[.val (.ref x0), .val (.int x1), .unset, .unset] [] := by first | (simp [entryFrame, mkF, argsToLocals, Value.category]; done) | rfl
def Q_rm5_5 (xs : List Int32) (h0 : Heap) (n0 : Nat) (v : Option Value) (h : Heap) (L : List Loc) : Prop := v = some (.int (own_ends xs 5)) ∧ Fr n0 L ∧ h = h0
set_option maxRecDepth 65536 in
set_option maxHeartbeats 40000000 in
theorem rm5_5 (l : Launch) (Z : State) (a0 : Array Value) (hw : ∀ d ∈ tables_1, d.before a0 Z = true) (ws : List Jvm.Cond) (aB : Addr) (xs : List Int32) (kB : ClassId) (h0 : Heap) (n0 : Nat) (Z0 : n0 ≤ h0.size) (VB : Arv Z h0 aB kB .byte 6 (xs.map Value.int) (.int 0)) :
    MetFree l (⟨"com/example/execd/execd/io/RequestHeadEndPinLaw", "endsAt", "([BI)Z"⟩ : MethodName) (head1 (Jvm.Cond.code (⟨"com/example/execd/execd/io/RequestHeadEndPinLaw", "endsAt", "([BI)Z"⟩ : MethodName) method_4_code 4 (some .boolean) :: ws) ({ frames := 0, cells := 0, slots := 0, locals := 0 } : Room)) (fun a U => a = #[(.ref aB), (.int (5 : Int32))] ∧ Z.Warmed39 U.vm ∧ U.heap = h0) (fun _ _ _ _ _ => True) (fun _ U o U' => ∃ v L, o = .returned v ∧ Q_rm5_5 xs h0 n0 v U'.heap L ∧ FrameEnd U o U' L ({ frames := 0, cells := 0, slots := 0, locals := 0 } : Room).cells ({ frames := 0, cells := 0, slots := 0, locals := 0 } : Room).slots) := by
  refine MetFree.of_bodySF (plainFor_of_name pn_0) hisR ?_
  intro p e s m args below meth c s₁ Bd hml0 hP hK
  obtain ⟨rfl, hZ, hh⟩ := hP
  have hx := Bd.exec
  have hby := Bd.bytes
  have hml : c.maxLocals = 4 := hml0
  have hown : s.vm.findClass "com/example/execd/execd/io/RequestHeadEndPinLaw" = some m.cls := findClass_of_methodNamed Bd.named
  have hnm := (name_of_methodNamed Bd.named Bd.method).1
  have X0 : Stand p l e ({ frames := 0, cells := 0, slots := 0, locals := 0 } : Room) s m #[(.ref aB), (.int (5 : Int32))] below meth c s₁ [] 0 0 := Stand.of_body Bd
  have e0 : s₁.heap = h0 := by rw [← hh, Bd.state]; rfl
  have N0 := Fr.nil n0
  let PO : Outcome → State → Prop := own_PO s (Q_rm5_5 xs h0 n0) 0 0
  show own_Go p e below PO (s₁.setTop (entryFrame m #[(.ref aB), (.int (5 : Int32))] 4))
  rw [ef_rm5_5]
  show own_Go p e below PO (s₁.setTop (mkF m 0 #[.val (.ref aB), .val (.int (5 : Int32)), .unset, .unset] []))
  refine own_back ?_ (fun t k => XS.aloadN X0.here hx rfl (hb hby d5_0) rfl rfl k)
  show own_Go p e below PO (s₁.setTop (mkF m 1 #[.val (.ref aB), .val (.int (5 : Int32)), .unset, .unset] [(.ref aB)]))
  refine own_back ?_ (fun t k => XS.iloadN X0.here hx rfl (hb hby d5_1) rfl k)
  show own_Go p e below PO (s₁.setTop (mkF m 2 #[.val (.ref aB), .val (.int (5 : Int32)), .unset, .unset] [(.int (5 : Int32)), (.ref aB)]))
  refine own_back ?_ (fun t k => XS.iconst X0.here hx rfl (hb hby d5_2) k)
  show own_Go p e below PO (s₁.setTop (mkF m 3 #[.val (.ref aB), .val (.int (5 : Int32)), .unset, .unset] [(.int (2 : Int32)), (.int (5 : Int32)), (.ref aB)]))
  refine own_back ?_ (fun t k => XS.isub X0.here hx rfl (hb hby d5_3) rfl k)
  show own_Go p e below PO (s₁.setTop (mkF m 4 #[.val (.ref aB), .val (.int (5 : Int32)), .unset, .unset] [(.int (3 : Int32)), (.ref aB)]))
  refine own_back ?_ (own_ldB X0 hx hZ e0 VB (j := (3 : Int32)) (v := (.int (own_at xs 3))) ⟨by decide, by decide⟩ (own_getD xs _) (g := (mkF m 4 #[.val (.ref aB), .val (.int (5 : Int32)), .unset, .unset] [(.int (3 : Int32)), (.ref aB)])) rfl rfl (hb hby d5_4))
  show own_Go p e below PO (s₁.setTop (mkF m 5 #[.val (.ref aB), .val (.int (5 : Int32)), .unset, .unset] [(.int (own_at xs 3))]))
  refine own_back ?_ (fun t k => XS.bipush X0.here hx rfl (hb hby d5_5) k)
  show own_Go p e below PO (s₁.setTop (mkF m 7 #[.val (.ref aB), .val (.int (5 : Int32)), .unset, .unset] [(.int (10 : Int32)), (.int (own_at xs 3))]))
  by_cases hc7_1 : (own_at xs 3) = (10 : Int32)
  case pos =>
    refine own_back ?_ (fun t k => XS.icmpNo X0.here hx rfl (hb hby d5_7) rfl (teq hc7_1).2 k)
    show own_Go p e below PO (s₁.setTop (mkF m 10 #[.val (.ref aB), .val (.int (5 : Int32)), .unset, .unset] []))
    refine own_back ?_ (fun t k => XS.aloadN X0.here hx rfl (hb hby d5_10) rfl rfl k)
    show own_Go p e below PO (s₁.setTop (mkF m 11 #[.val (.ref aB), .val (.int (5 : Int32)), .unset, .unset] [(.ref aB)]))
    refine own_back ?_ (fun t k => XS.iloadN X0.here hx rfl (hb hby d5_11) rfl k)
    show own_Go p e below PO (s₁.setTop (mkF m 12 #[.val (.ref aB), .val (.int (5 : Int32)), .unset, .unset] [(.int (5 : Int32)), (.ref aB)]))
    refine own_back ?_ (fun t k => XS.iconst X0.here hx rfl (hb hby d5_12) k)
    show own_Go p e below PO (s₁.setTop (mkF m 13 #[.val (.ref aB), .val (.int (5 : Int32)), .unset, .unset] [(.int (1 : Int32)), (.int (5 : Int32)), (.ref aB)]))
    refine own_back ?_ (fun t k => XS.isub X0.here hx rfl (hb hby d5_13) rfl k)
    show own_Go p e below PO (s₁.setTop (mkF m 14 #[.val (.ref aB), .val (.int (5 : Int32)), .unset, .unset] [(.int (4 : Int32)), (.ref aB)]))
    refine own_back ?_ (own_ldB X0 hx hZ e0 VB (j := (4 : Int32)) (v := (.int (own_at xs 4))) ⟨by decide, by decide⟩ (own_getD xs _) (g := (mkF m 14 #[.val (.ref aB), .val (.int (5 : Int32)), .unset, .unset] [(.int (4 : Int32)), (.ref aB)])) rfl rfl (hb hby d5_14))
    show own_Go p e below PO (s₁.setTop (mkF m 15 #[.val (.ref aB), .val (.int (5 : Int32)), .unset, .unset] [(.int (own_at xs 4))]))
    refine own_back ?_ (fun t k => XS.bipush X0.here hx rfl (hb hby d5_15) k)
    show own_Go p e below PO (s₁.setTop (mkF m 17 #[.val (.ref aB), .val (.int (5 : Int32)), .unset, .unset] [(.int (10 : Int32)), (.int (own_at xs 4))]))
    by_cases hc17_2 : (own_at xs 4) = (10 : Int32)
    case pos =>
      refine own_back ?_ (fun t k => XS.icmpNo X0.here hx rfl (hb hby d5_17) rfl (teq hc17_2).2 k)
      show own_Go p e below PO (s₁.setTop (mkF m 20 #[.val (.ref aB), .val (.int (5 : Int32)), .unset, .unset] []))
      refine own_back ?_ (fun t k => XS.iconst X0.here hx rfl (hb hby d5_20) k)
      show own_Go p e below PO (s₁.setTop (mkF m 21 #[.val (.ref aB), .val (.int (5 : Int32)), .unset, .unset] [(.int (1 : Int32))]))
      refine own_back ?_ (fun t k => XS.goto X0.here hx rfl (pc0 := 21) (pc' := 25) rfl (hb hby d5_21) (by decide) (by decide) k)
      show own_Go p e below PO (s₁.setTop (mkF m 25 #[.val (.ref aB), .val (.int (5 : Int32)), .unset, .unset] [(.int (1 : Int32))]))
      refine own_back ?_ (fun t k => XS.istoreN X0.here hx rfl (hb hby d5_25) rfl (l' := #[.val (.ref aB), .val (.int (5 : Int32)), .val (.int (1 : Int32)), .unset]) rfl k)
      show own_Go p e below PO (s₁.setTop (mkF m 26 #[.val (.ref aB), .val (.int (5 : Int32)), .val (.int (1 : Int32)), .unset] []))
      refine own_back ?_ (fun t k => XS.iloadN X0.here hx rfl (hb hby d5_26) rfl k)
      show own_Go p e below PO (s₁.setTop (mkF m 27 #[.val (.ref aB), .val (.int (5 : Int32)), .val (.int (1 : Int32)), .unset] [(.int (5 : Int32))]))
      refine own_back ?_ (fun t k => XS.iconst X0.here hx rfl (hb hby d5_27) k)
      show own_Go p e below PO (s₁.setTop (mkF m 28 #[.val (.ref aB), .val (.int (5 : Int32)), .val (.int (1 : Int32)), .unset] [(.int (3 : Int32)), (.int (5 : Int32))]))
      have hd28_3 : ¬ ((5 : Int32) < (3 : Int32)) := (by decide)
      refine own_back ?_ (fun t k => XS.icmpNo X0.here hx rfl (hb hby d5_28) rfl (flt hd28_3).1 k)
      show own_Go p e below PO (s₁.setTop (mkF m 31 #[.val (.ref aB), .val (.int (5 : Int32)), .val (.int (1 : Int32)), .unset] []))
      refine own_back ?_ (fun t k => XS.aloadN X0.here hx rfl (hb hby d5_31) rfl rfl k)
      show own_Go p e below PO (s₁.setTop (mkF m 32 #[.val (.ref aB), .val (.int (5 : Int32)), .val (.int (1 : Int32)), .unset] [(.ref aB)]))
      refine own_back ?_ (fun t k => XS.iloadN X0.here hx rfl (hb hby d5_32) rfl k)
      show own_Go p e below PO (s₁.setTop (mkF m 33 #[.val (.ref aB), .val (.int (5 : Int32)), .val (.int (1 : Int32)), .unset] [(.int (5 : Int32)), (.ref aB)]))
      refine own_back ?_ (fun t k => XS.iconst X0.here hx rfl (hb hby d5_33) k)
      show own_Go p e below PO (s₁.setTop (mkF m 34 #[.val (.ref aB), .val (.int (5 : Int32)), .val (.int (1 : Int32)), .unset] [(.int (3 : Int32)), (.int (5 : Int32)), (.ref aB)]))
      refine own_back ?_ (fun t k => XS.isub X0.here hx rfl (hb hby d5_34) rfl k)
      show own_Go p e below PO (s₁.setTop (mkF m 35 #[.val (.ref aB), .val (.int (5 : Int32)), .val (.int (1 : Int32)), .unset] [(.int (2 : Int32)), (.ref aB)]))
      refine own_back ?_ (own_ldB X0 hx hZ e0 VB (j := (2 : Int32)) (v := (.int (own_at xs 2))) ⟨by decide, by decide⟩ (own_getD xs _) (g := (mkF m 35 #[.val (.ref aB), .val (.int (5 : Int32)), .val (.int (1 : Int32)), .unset] [(.int (2 : Int32)), (.ref aB)])) rfl rfl (hb hby d5_35))
      show own_Go p e below PO (s₁.setTop (mkF m 36 #[.val (.ref aB), .val (.int (5 : Int32)), .val (.int (1 : Int32)), .unset] [(.int (own_at xs 2))]))
      refine own_back ?_ (fun t k => XS.bipush X0.here hx rfl (hb hby d5_36) k)
      show own_Go p e below PO (s₁.setTop (mkF m 38 #[.val (.ref aB), .val (.int (5 : Int32)), .val (.int (1 : Int32)), .unset] [(.int (10 : Int32)), (.int (own_at xs 2))]))
      by_cases hc38_4 : (own_at xs 2) = (10 : Int32)
      case pos =>
        refine own_back ?_ (fun t k => XS.icmpNo X0.here hx rfl (hb hby d5_38) rfl (teq hc38_4).2 k)
        show own_Go p e below PO (s₁.setTop (mkF m 41 #[.val (.ref aB), .val (.int (5 : Int32)), .val (.int (1 : Int32)), .unset] []))
        refine own_back ?_ (fun t k => XS.aloadN X0.here hx rfl (hb hby d5_41) rfl rfl k)
        show own_Go p e below PO (s₁.setTop (mkF m 42 #[.val (.ref aB), .val (.int (5 : Int32)), .val (.int (1 : Int32)), .unset] [(.ref aB)]))
        refine own_back ?_ (fun t k => XS.iloadN X0.here hx rfl (hb hby d5_42) rfl k)
        show own_Go p e below PO (s₁.setTop (mkF m 43 #[.val (.ref aB), .val (.int (5 : Int32)), .val (.int (1 : Int32)), .unset] [(.int (5 : Int32)), (.ref aB)]))
        refine own_back ?_ (fun t k => XS.iconst X0.here hx rfl (hb hby d5_43) k)
        show own_Go p e below PO (s₁.setTop (mkF m 44 #[.val (.ref aB), .val (.int (5 : Int32)), .val (.int (1 : Int32)), .unset] [(.int (2 : Int32)), (.int (5 : Int32)), (.ref aB)]))
        refine own_back ?_ (fun t k => XS.isub X0.here hx rfl (hb hby d5_44) rfl k)
        show own_Go p e below PO (s₁.setTop (mkF m 45 #[.val (.ref aB), .val (.int (5 : Int32)), .val (.int (1 : Int32)), .unset] [(.int (3 : Int32)), (.ref aB)]))
        refine own_back ?_ (own_ldB X0 hx hZ e0 VB (j := (3 : Int32)) (v := (.int (own_at xs 3))) ⟨by decide, by decide⟩ (own_getD xs _) (g := (mkF m 45 #[.val (.ref aB), .val (.int (5 : Int32)), .val (.int (1 : Int32)), .unset] [(.int (3 : Int32)), (.ref aB)])) rfl rfl (hb hby d5_45))
        show own_Go p e below PO (s₁.setTop (mkF m 46 #[.val (.ref aB), .val (.int (5 : Int32)), .val (.int (1 : Int32)), .unset] [(.int (own_at xs 3))]))
        refine own_back ?_ (fun t k => XS.bipush X0.here hx rfl (hb hby d5_46) k)
        show own_Go p e below PO (s₁.setTop (mkF m 48 #[.val (.ref aB), .val (.int (5 : Int32)), .val (.int (1 : Int32)), .unset] [(.int (13 : Int32)), (.int (own_at xs 3))]))
        by_cases hc48_5 : (own_at xs 3) = (13 : Int32)
        case pos =>
          refine own_back ?_ (fun t k => XS.icmpNo X0.here hx rfl (hb hby d5_48) rfl (teq hc48_5).2 k)
          show own_Go p e below PO (s₁.setTop (mkF m 51 #[.val (.ref aB), .val (.int (5 : Int32)), .val (.int (1 : Int32)), .unset] []))
          refine own_back ?_ (fun t k => XS.aloadN X0.here hx rfl (hb hby d5_51) rfl rfl k)
          show own_Go p e below PO (s₁.setTop (mkF m 52 #[.val (.ref aB), .val (.int (5 : Int32)), .val (.int (1 : Int32)), .unset] [(.ref aB)]))
          refine own_back ?_ (fun t k => XS.iloadN X0.here hx rfl (hb hby d5_52) rfl k)
          show own_Go p e below PO (s₁.setTop (mkF m 53 #[.val (.ref aB), .val (.int (5 : Int32)), .val (.int (1 : Int32)), .unset] [(.int (5 : Int32)), (.ref aB)]))
          refine own_back ?_ (fun t k => XS.iconst X0.here hx rfl (hb hby d5_53) k)
          show own_Go p e below PO (s₁.setTop (mkF m 54 #[.val (.ref aB), .val (.int (5 : Int32)), .val (.int (1 : Int32)), .unset] [(.int (1 : Int32)), (.int (5 : Int32)), (.ref aB)]))
          refine own_back ?_ (fun t k => XS.isub X0.here hx rfl (hb hby d5_54) rfl k)
          show own_Go p e below PO (s₁.setTop (mkF m 55 #[.val (.ref aB), .val (.int (5 : Int32)), .val (.int (1 : Int32)), .unset] [(.int (4 : Int32)), (.ref aB)]))
          refine own_back ?_ (own_ldB X0 hx hZ e0 VB (j := (4 : Int32)) (v := (.int (own_at xs 4))) ⟨by decide, by decide⟩ (own_getD xs _) (g := (mkF m 55 #[.val (.ref aB), .val (.int (5 : Int32)), .val (.int (1 : Int32)), .unset] [(.int (4 : Int32)), (.ref aB)])) rfl rfl (hb hby d5_55))
          show own_Go p e below PO (s₁.setTop (mkF m 56 #[.val (.ref aB), .val (.int (5 : Int32)), .val (.int (1 : Int32)), .unset] [(.int (own_at xs 4))]))
          refine own_back ?_ (fun t k => XS.bipush X0.here hx rfl (hb hby d5_56) k)
          show own_Go p e below PO (s₁.setTop (mkF m 58 #[.val (.ref aB), .val (.int (5 : Int32)), .val (.int (1 : Int32)), .unset] [(.int (10 : Int32)), (.int (own_at xs 4))]))
          by_cases hc58_6 : (own_at xs 4) = (10 : Int32)
          case pos =>
            refine own_back ?_ (fun t k => XS.icmpNo X0.here hx rfl (hb hby d5_58) rfl (teq hc58_6).2 k)
            show own_Go p e below PO (s₁.setTop (mkF m 61 #[.val (.ref aB), .val (.int (5 : Int32)), .val (.int (1 : Int32)), .unset] []))
            refine own_back ?_ (fun t k => XS.iconst X0.here hx rfl (hb hby d5_61) k)
            show own_Go p e below PO (s₁.setTop (mkF m 62 #[.val (.ref aB), .val (.int (5 : Int32)), .val (.int (1 : Int32)), .unset] [(.int (1 : Int32))]))
            refine own_back ?_ (fun t k => XS.goto X0.here hx rfl (pc0 := 62) (pc' := 66) rfl (hb hby d5_62) (by decide) (by decide) k)
            show own_Go p e below PO (s₁.setTop (mkF m 66 #[.val (.ref aB), .val (.int (5 : Int32)), .val (.int (1 : Int32)), .unset] [(.int (1 : Int32))]))
            refine own_back ?_ (fun t k => XS.istoreN X0.here hx rfl (hb hby d5_66) rfl (l' := #[.val (.ref aB), .val (.int (5 : Int32)), .val (.int (1 : Int32)), .val (.int (1 : Int32))]) rfl k)
            show own_Go p e below PO (s₁.setTop (mkF m 67 #[.val (.ref aB), .val (.int (5 : Int32)), .val (.int (1 : Int32)), .val (.int (1 : Int32))] []))
            refine own_back ?_ (fun t k => XS.iloadN X0.here hx rfl (hb hby d5_67) rfl k)
            show own_Go p e below PO (s₁.setTop (mkF m 68 #[.val (.ref aB), .val (.int (5 : Int32)), .val (.int (1 : Int32)), .val (.int (1 : Int32))] [(.int (1 : Int32))]))
            have hd68_7 : ¬ ((1 : Int32) = (0 : Int32)) := (by decide)
            refine own_back ?_ (fun t k => XS.ifYes X0.here hx rfl (pc0 := 68) (pc' := 75) rfl (hb hby d5_68) rfl ((if0 _ _).trans (feq hd68_7).2) (by decide) (by decide) k)
            show own_Go p e below PO (s₁.setTop (mkF m 75 #[.val (.ref aB), .val (.int (5 : Int32)), .val (.int (1 : Int32)), .val (.int (1 : Int32))] []))
            refine own_back ?_ (fun t k => XS.iconst X0.here hx rfl (hb hby d5_75) k)
            show own_Go p e below PO (s₁.setTop (mkF m 76 #[.val (.ref aB), .val (.int (5 : Int32)), .val (.int (1 : Int32)), .val (.int (1 : Int32))] [(.int (1 : Int32))]))
            refine own_back ?_ (fun t k => XS.goto X0.here hx rfl (pc0 := 76) (pc' := 80) rfl (hb hby d5_76) (by decide) (by decide) k)
            show own_Go p e below PO (s₁.setTop (mkF m 80 #[.val (.ref aB), .val (.int (5 : Int32)), .val (.int (1 : Int32)), .val (.int (1 : Int32))] [(.int (1 : Int32))]))
            refine own_retN X0 hx (t := .boolean) (rest := []) Bd.returns (by decide) (by simp) (hb hby d5_80) e0 (Bd.notSynchronized) ?_ (by decide) (by decide)
            exact ⟨by simp [own_ends, hc7_1, hc17_2, hc38_4, hc48_5, hc58_6], N0, rfl⟩
          refine own_back ?_ (fun t k => XS.icmpYes X0.here hx rfl (pc0 := 58) (pc' := 65) rfl (hb hby d5_58) rfl (feq hc58_6).2 (by decide) (by decide) k)
          show own_Go p e below PO (s₁.setTop (mkF m 65 #[.val (.ref aB), .val (.int (5 : Int32)), .val (.int (1 : Int32)), .unset] []))
          refine own_back ?_ (fun t k => XS.iconst X0.here hx rfl (hb hby d5_65) k)
          show own_Go p e below PO (s₁.setTop (mkF m 66 #[.val (.ref aB), .val (.int (5 : Int32)), .val (.int (1 : Int32)), .unset] [(.int (0 : Int32))]))
          refine own_back ?_ (fun t k => XS.istoreN X0.here hx rfl (hb hby d5_66) rfl (l' := #[.val (.ref aB), .val (.int (5 : Int32)), .val (.int (1 : Int32)), .val (.int (0 : Int32))]) rfl k)
          show own_Go p e below PO (s₁.setTop (mkF m 67 #[.val (.ref aB), .val (.int (5 : Int32)), .val (.int (1 : Int32)), .val (.int (0 : Int32))] []))
          refine own_back ?_ (fun t k => XS.iloadN X0.here hx rfl (hb hby d5_67) rfl k)
          show own_Go p e below PO (s₁.setTop (mkF m 68 #[.val (.ref aB), .val (.int (5 : Int32)), .val (.int (1 : Int32)), .val (.int (0 : Int32))] [(.int (1 : Int32))]))
          have hd68_8 : ¬ ((1 : Int32) = (0 : Int32)) := (by decide)
          refine own_back ?_ (fun t k => XS.ifYes X0.here hx rfl (pc0 := 68) (pc' := 75) rfl (hb hby d5_68) rfl ((if0 _ _).trans (feq hd68_8).2) (by decide) (by decide) k)
          show own_Go p e below PO (s₁.setTop (mkF m 75 #[.val (.ref aB), .val (.int (5 : Int32)), .val (.int (1 : Int32)), .val (.int (0 : Int32))] []))
          refine own_back ?_ (fun t k => XS.iconst X0.here hx rfl (hb hby d5_75) k)
          show own_Go p e below PO (s₁.setTop (mkF m 76 #[.val (.ref aB), .val (.int (5 : Int32)), .val (.int (1 : Int32)), .val (.int (0 : Int32))] [(.int (1 : Int32))]))
          refine own_back ?_ (fun t k => XS.goto X0.here hx rfl (pc0 := 76) (pc' := 80) rfl (hb hby d5_76) (by decide) (by decide) k)
          show own_Go p e below PO (s₁.setTop (mkF m 80 #[.val (.ref aB), .val (.int (5 : Int32)), .val (.int (1 : Int32)), .val (.int (0 : Int32))] [(.int (1 : Int32))]))
          refine own_retN X0 hx (t := .boolean) (rest := []) Bd.returns (by decide) (by simp) (hb hby d5_80) e0 (Bd.notSynchronized) ?_ (by decide) (by decide)
          exact ⟨by simp [own_ends, hc7_1, hc17_2, hc38_4, hc48_5, hc58_6], N0, rfl⟩
        refine own_back ?_ (fun t k => XS.icmpYes X0.here hx rfl (pc0 := 48) (pc' := 65) rfl (hb hby d5_48) rfl (feq hc48_5).2 (by decide) (by decide) k)
        show own_Go p e below PO (s₁.setTop (mkF m 65 #[.val (.ref aB), .val (.int (5 : Int32)), .val (.int (1 : Int32)), .unset] []))
        refine own_back ?_ (fun t k => XS.iconst X0.here hx rfl (hb hby d5_65) k)
        show own_Go p e below PO (s₁.setTop (mkF m 66 #[.val (.ref aB), .val (.int (5 : Int32)), .val (.int (1 : Int32)), .unset] [(.int (0 : Int32))]))
        refine own_back ?_ (fun t k => XS.istoreN X0.here hx rfl (hb hby d5_66) rfl (l' := #[.val (.ref aB), .val (.int (5 : Int32)), .val (.int (1 : Int32)), .val (.int (0 : Int32))]) rfl k)
        show own_Go p e below PO (s₁.setTop (mkF m 67 #[.val (.ref aB), .val (.int (5 : Int32)), .val (.int (1 : Int32)), .val (.int (0 : Int32))] []))
        refine own_back ?_ (fun t k => XS.iloadN X0.here hx rfl (hb hby d5_67) rfl k)
        show own_Go p e below PO (s₁.setTop (mkF m 68 #[.val (.ref aB), .val (.int (5 : Int32)), .val (.int (1 : Int32)), .val (.int (0 : Int32))] [(.int (1 : Int32))]))
        have hd68_9 : ¬ ((1 : Int32) = (0 : Int32)) := (by decide)
        refine own_back ?_ (fun t k => XS.ifYes X0.here hx rfl (pc0 := 68) (pc' := 75) rfl (hb hby d5_68) rfl ((if0 _ _).trans (feq hd68_9).2) (by decide) (by decide) k)
        show own_Go p e below PO (s₁.setTop (mkF m 75 #[.val (.ref aB), .val (.int (5 : Int32)), .val (.int (1 : Int32)), .val (.int (0 : Int32))] []))
        refine own_back ?_ (fun t k => XS.iconst X0.here hx rfl (hb hby d5_75) k)
        show own_Go p e below PO (s₁.setTop (mkF m 76 #[.val (.ref aB), .val (.int (5 : Int32)), .val (.int (1 : Int32)), .val (.int (0 : Int32))] [(.int (1 : Int32))]))
        refine own_back ?_ (fun t k => XS.goto X0.here hx rfl (pc0 := 76) (pc' := 80) rfl (hb hby d5_76) (by decide) (by decide) k)
        show own_Go p e below PO (s₁.setTop (mkF m 80 #[.val (.ref aB), .val (.int (5 : Int32)), .val (.int (1 : Int32)), .val (.int (0 : Int32))] [(.int (1 : Int32))]))
        refine own_retN X0 hx (t := .boolean) (rest := []) Bd.returns (by decide) (by simp) (hb hby d5_80) e0 (Bd.notSynchronized) ?_ (by decide) (by decide)
        exact ⟨by simp [own_ends, hc7_1, hc17_2, hc38_4, hc48_5], N0, rfl⟩
      refine own_back ?_ (fun t k => XS.icmpYes X0.here hx rfl (pc0 := 38) (pc' := 65) rfl (hb hby d5_38) rfl (feq hc38_4).2 (by decide) (by decide) k)
      show own_Go p e below PO (s₁.setTop (mkF m 65 #[.val (.ref aB), .val (.int (5 : Int32)), .val (.int (1 : Int32)), .unset] []))
      refine own_back ?_ (fun t k => XS.iconst X0.here hx rfl (hb hby d5_65) k)
      show own_Go p e below PO (s₁.setTop (mkF m 66 #[.val (.ref aB), .val (.int (5 : Int32)), .val (.int (1 : Int32)), .unset] [(.int (0 : Int32))]))
      refine own_back ?_ (fun t k => XS.istoreN X0.here hx rfl (hb hby d5_66) rfl (l' := #[.val (.ref aB), .val (.int (5 : Int32)), .val (.int (1 : Int32)), .val (.int (0 : Int32))]) rfl k)
      show own_Go p e below PO (s₁.setTop (mkF m 67 #[.val (.ref aB), .val (.int (5 : Int32)), .val (.int (1 : Int32)), .val (.int (0 : Int32))] []))
      refine own_back ?_ (fun t k => XS.iloadN X0.here hx rfl (hb hby d5_67) rfl k)
      show own_Go p e below PO (s₁.setTop (mkF m 68 #[.val (.ref aB), .val (.int (5 : Int32)), .val (.int (1 : Int32)), .val (.int (0 : Int32))] [(.int (1 : Int32))]))
      have hd68_10 : ¬ ((1 : Int32) = (0 : Int32)) := (by decide)
      refine own_back ?_ (fun t k => XS.ifYes X0.here hx rfl (pc0 := 68) (pc' := 75) rfl (hb hby d5_68) rfl ((if0 _ _).trans (feq hd68_10).2) (by decide) (by decide) k)
      show own_Go p e below PO (s₁.setTop (mkF m 75 #[.val (.ref aB), .val (.int (5 : Int32)), .val (.int (1 : Int32)), .val (.int (0 : Int32))] []))
      refine own_back ?_ (fun t k => XS.iconst X0.here hx rfl (hb hby d5_75) k)
      show own_Go p e below PO (s₁.setTop (mkF m 76 #[.val (.ref aB), .val (.int (5 : Int32)), .val (.int (1 : Int32)), .val (.int (0 : Int32))] [(.int (1 : Int32))]))
      refine own_back ?_ (fun t k => XS.goto X0.here hx rfl (pc0 := 76) (pc' := 80) rfl (hb hby d5_76) (by decide) (by decide) k)
      show own_Go p e below PO (s₁.setTop (mkF m 80 #[.val (.ref aB), .val (.int (5 : Int32)), .val (.int (1 : Int32)), .val (.int (0 : Int32))] [(.int (1 : Int32))]))
      refine own_retN X0 hx (t := .boolean) (rest := []) Bd.returns (by decide) (by simp) (hb hby d5_80) e0 (Bd.notSynchronized) ?_ (by decide) (by decide)
      exact ⟨by simp [own_ends, hc7_1, hc17_2, hc38_4], N0, rfl⟩
    refine own_back ?_ (fun t k => XS.icmpYes X0.here hx rfl (pc0 := 17) (pc' := 24) rfl (hb hby d5_17) rfl (feq hc17_2).2 (by decide) (by decide) k)
    show own_Go p e below PO (s₁.setTop (mkF m 24 #[.val (.ref aB), .val (.int (5 : Int32)), .unset, .unset] []))
    refine own_back ?_ (fun t k => XS.iconst X0.here hx rfl (hb hby d5_24) k)
    show own_Go p e below PO (s₁.setTop (mkF m 25 #[.val (.ref aB), .val (.int (5 : Int32)), .unset, .unset] [(.int (0 : Int32))]))
    refine own_back ?_ (fun t k => XS.istoreN X0.here hx rfl (hb hby d5_25) rfl (l' := #[.val (.ref aB), .val (.int (5 : Int32)), .val (.int (0 : Int32)), .unset]) rfl k)
    show own_Go p e below PO (s₁.setTop (mkF m 26 #[.val (.ref aB), .val (.int (5 : Int32)), .val (.int (0 : Int32)), .unset] []))
    refine own_back ?_ (fun t k => XS.iloadN X0.here hx rfl (hb hby d5_26) rfl k)
    show own_Go p e below PO (s₁.setTop (mkF m 27 #[.val (.ref aB), .val (.int (5 : Int32)), .val (.int (0 : Int32)), .unset] [(.int (5 : Int32))]))
    refine own_back ?_ (fun t k => XS.iconst X0.here hx rfl (hb hby d5_27) k)
    show own_Go p e below PO (s₁.setTop (mkF m 28 #[.val (.ref aB), .val (.int (5 : Int32)), .val (.int (0 : Int32)), .unset] [(.int (3 : Int32)), (.int (5 : Int32))]))
    have hd28_11 : ¬ ((5 : Int32) < (3 : Int32)) := (by decide)
    refine own_back ?_ (fun t k => XS.icmpNo X0.here hx rfl (hb hby d5_28) rfl (flt hd28_11).1 k)
    show own_Go p e below PO (s₁.setTop (mkF m 31 #[.val (.ref aB), .val (.int (5 : Int32)), .val (.int (0 : Int32)), .unset] []))
    refine own_back ?_ (fun t k => XS.aloadN X0.here hx rfl (hb hby d5_31) rfl rfl k)
    show own_Go p e below PO (s₁.setTop (mkF m 32 #[.val (.ref aB), .val (.int (5 : Int32)), .val (.int (0 : Int32)), .unset] [(.ref aB)]))
    refine own_back ?_ (fun t k => XS.iloadN X0.here hx rfl (hb hby d5_32) rfl k)
    show own_Go p e below PO (s₁.setTop (mkF m 33 #[.val (.ref aB), .val (.int (5 : Int32)), .val (.int (0 : Int32)), .unset] [(.int (5 : Int32)), (.ref aB)]))
    refine own_back ?_ (fun t k => XS.iconst X0.here hx rfl (hb hby d5_33) k)
    show own_Go p e below PO (s₁.setTop (mkF m 34 #[.val (.ref aB), .val (.int (5 : Int32)), .val (.int (0 : Int32)), .unset] [(.int (3 : Int32)), (.int (5 : Int32)), (.ref aB)]))
    refine own_back ?_ (fun t k => XS.isub X0.here hx rfl (hb hby d5_34) rfl k)
    show own_Go p e below PO (s₁.setTop (mkF m 35 #[.val (.ref aB), .val (.int (5 : Int32)), .val (.int (0 : Int32)), .unset] [(.int (2 : Int32)), (.ref aB)]))
    refine own_back ?_ (own_ldB X0 hx hZ e0 VB (j := (2 : Int32)) (v := (.int (own_at xs 2))) ⟨by decide, by decide⟩ (own_getD xs _) (g := (mkF m 35 #[.val (.ref aB), .val (.int (5 : Int32)), .val (.int (0 : Int32)), .unset] [(.int (2 : Int32)), (.ref aB)])) rfl rfl (hb hby d5_35))
    show own_Go p e below PO (s₁.setTop (mkF m 36 #[.val (.ref aB), .val (.int (5 : Int32)), .val (.int (0 : Int32)), .unset] [(.int (own_at xs 2))]))
    refine own_back ?_ (fun t k => XS.bipush X0.here hx rfl (hb hby d5_36) k)
    show own_Go p e below PO (s₁.setTop (mkF m 38 #[.val (.ref aB), .val (.int (5 : Int32)), .val (.int (0 : Int32)), .unset] [(.int (10 : Int32)), (.int (own_at xs 2))]))
    by_cases hc38_12 : (own_at xs 2) = (10 : Int32)
    case pos =>
      refine own_back ?_ (fun t k => XS.icmpNo X0.here hx rfl (hb hby d5_38) rfl (teq hc38_12).2 k)
      show own_Go p e below PO (s₁.setTop (mkF m 41 #[.val (.ref aB), .val (.int (5 : Int32)), .val (.int (0 : Int32)), .unset] []))
      refine own_back ?_ (fun t k => XS.aloadN X0.here hx rfl (hb hby d5_41) rfl rfl k)
      show own_Go p e below PO (s₁.setTop (mkF m 42 #[.val (.ref aB), .val (.int (5 : Int32)), .val (.int (0 : Int32)), .unset] [(.ref aB)]))
      refine own_back ?_ (fun t k => XS.iloadN X0.here hx rfl (hb hby d5_42) rfl k)
      show own_Go p e below PO (s₁.setTop (mkF m 43 #[.val (.ref aB), .val (.int (5 : Int32)), .val (.int (0 : Int32)), .unset] [(.int (5 : Int32)), (.ref aB)]))
      refine own_back ?_ (fun t k => XS.iconst X0.here hx rfl (hb hby d5_43) k)
      show own_Go p e below PO (s₁.setTop (mkF m 44 #[.val (.ref aB), .val (.int (5 : Int32)), .val (.int (0 : Int32)), .unset] [(.int (2 : Int32)), (.int (5 : Int32)), (.ref aB)]))
      refine own_back ?_ (fun t k => XS.isub X0.here hx rfl (hb hby d5_44) rfl k)
      show own_Go p e below PO (s₁.setTop (mkF m 45 #[.val (.ref aB), .val (.int (5 : Int32)), .val (.int (0 : Int32)), .unset] [(.int (3 : Int32)), (.ref aB)]))
      refine own_back ?_ (own_ldB X0 hx hZ e0 VB (j := (3 : Int32)) (v := (.int (own_at xs 3))) ⟨by decide, by decide⟩ (own_getD xs _) (g := (mkF m 45 #[.val (.ref aB), .val (.int (5 : Int32)), .val (.int (0 : Int32)), .unset] [(.int (3 : Int32)), (.ref aB)])) rfl rfl (hb hby d5_45))
      show own_Go p e below PO (s₁.setTop (mkF m 46 #[.val (.ref aB), .val (.int (5 : Int32)), .val (.int (0 : Int32)), .unset] [(.int (own_at xs 3))]))
      refine own_back ?_ (fun t k => XS.bipush X0.here hx rfl (hb hby d5_46) k)
      show own_Go p e below PO (s₁.setTop (mkF m 48 #[.val (.ref aB), .val (.int (5 : Int32)), .val (.int (0 : Int32)), .unset] [(.int (13 : Int32)), (.int (own_at xs 3))]))
      by_cases hc48_13 : (own_at xs 3) = (13 : Int32)
      case pos =>
        refine own_back ?_ (fun t k => XS.icmpNo X0.here hx rfl (hb hby d5_48) rfl (teq hc48_13).2 k)
        show own_Go p e below PO (s₁.setTop (mkF m 51 #[.val (.ref aB), .val (.int (5 : Int32)), .val (.int (0 : Int32)), .unset] []))
        refine own_back ?_ (fun t k => XS.aloadN X0.here hx rfl (hb hby d5_51) rfl rfl k)
        show own_Go p e below PO (s₁.setTop (mkF m 52 #[.val (.ref aB), .val (.int (5 : Int32)), .val (.int (0 : Int32)), .unset] [(.ref aB)]))
        refine own_back ?_ (fun t k => XS.iloadN X0.here hx rfl (hb hby d5_52) rfl k)
        show own_Go p e below PO (s₁.setTop (mkF m 53 #[.val (.ref aB), .val (.int (5 : Int32)), .val (.int (0 : Int32)), .unset] [(.int (5 : Int32)), (.ref aB)]))
        refine own_back ?_ (fun t k => XS.iconst X0.here hx rfl (hb hby d5_53) k)
        show own_Go p e below PO (s₁.setTop (mkF m 54 #[.val (.ref aB), .val (.int (5 : Int32)), .val (.int (0 : Int32)), .unset] [(.int (1 : Int32)), (.int (5 : Int32)), (.ref aB)]))
        refine own_back ?_ (fun t k => XS.isub X0.here hx rfl (hb hby d5_54) rfl k)
        show own_Go p e below PO (s₁.setTop (mkF m 55 #[.val (.ref aB), .val (.int (5 : Int32)), .val (.int (0 : Int32)), .unset] [(.int (4 : Int32)), (.ref aB)]))
        refine own_back ?_ (own_ldB X0 hx hZ e0 VB (j := (4 : Int32)) (v := (.int (own_at xs 4))) ⟨by decide, by decide⟩ (own_getD xs _) (g := (mkF m 55 #[.val (.ref aB), .val (.int (5 : Int32)), .val (.int (0 : Int32)), .unset] [(.int (4 : Int32)), (.ref aB)])) rfl rfl (hb hby d5_55))
        show own_Go p e below PO (s₁.setTop (mkF m 56 #[.val (.ref aB), .val (.int (5 : Int32)), .val (.int (0 : Int32)), .unset] [(.int (own_at xs 4))]))
        refine own_back ?_ (fun t k => XS.bipush X0.here hx rfl (hb hby d5_56) k)
        show own_Go p e below PO (s₁.setTop (mkF m 58 #[.val (.ref aB), .val (.int (5 : Int32)), .val (.int (0 : Int32)), .unset] [(.int (10 : Int32)), (.int (own_at xs 4))]))
        by_cases hc58_14 : (own_at xs 4) = (10 : Int32)
        case pos =>
          refine own_back ?_ (fun t k => XS.icmpNo X0.here hx rfl (hb hby d5_58) rfl (teq hc58_14).2 k)
          show own_Go p e below PO (s₁.setTop (mkF m 61 #[.val (.ref aB), .val (.int (5 : Int32)), .val (.int (0 : Int32)), .unset] []))
          refine own_back ?_ (fun t k => XS.iconst X0.here hx rfl (hb hby d5_61) k)
          show own_Go p e below PO (s₁.setTop (mkF m 62 #[.val (.ref aB), .val (.int (5 : Int32)), .val (.int (0 : Int32)), .unset] [(.int (1 : Int32))]))
          refine own_back ?_ (fun t k => XS.goto X0.here hx rfl (pc0 := 62) (pc' := 66) rfl (hb hby d5_62) (by decide) (by decide) k)
          show own_Go p e below PO (s₁.setTop (mkF m 66 #[.val (.ref aB), .val (.int (5 : Int32)), .val (.int (0 : Int32)), .unset] [(.int (1 : Int32))]))
          refine own_back ?_ (fun t k => XS.istoreN X0.here hx rfl (hb hby d5_66) rfl (l' := #[.val (.ref aB), .val (.int (5 : Int32)), .val (.int (0 : Int32)), .val (.int (1 : Int32))]) rfl k)
          show own_Go p e below PO (s₁.setTop (mkF m 67 #[.val (.ref aB), .val (.int (5 : Int32)), .val (.int (0 : Int32)), .val (.int (1 : Int32))] []))
          refine own_back ?_ (fun t k => XS.iloadN X0.here hx rfl (hb hby d5_67) rfl k)
          show own_Go p e below PO (s₁.setTop (mkF m 68 #[.val (.ref aB), .val (.int (5 : Int32)), .val (.int (0 : Int32)), .val (.int (1 : Int32))] [(.int (0 : Int32))]))
          refine own_back ?_ (fun t k => XS.ifNo X0.here hx rfl (hb hby d5_68) rfl ((if0 _ _).trans (teq rfl).2) k)
          show own_Go p e below PO (s₁.setTop (mkF m 71 #[.val (.ref aB), .val (.int (5 : Int32)), .val (.int (0 : Int32)), .val (.int (1 : Int32))] []))
          refine own_back ?_ (fun t k => XS.iloadN X0.here hx rfl (hb hby d5_71) rfl k)
          show own_Go p e below PO (s₁.setTop (mkF m 72 #[.val (.ref aB), .val (.int (5 : Int32)), .val (.int (0 : Int32)), .val (.int (1 : Int32))] [(.int (1 : Int32))]))
          have hd72_15 : ¬ ((1 : Int32) = (0 : Int32)) := (by decide)
          refine own_back ?_ (fun t k => XS.ifNo X0.here hx rfl (hb hby d5_72) rfl ((if0 _ _).trans (feq hd72_15).1) k)
          show own_Go p e below PO (s₁.setTop (mkF m 75 #[.val (.ref aB), .val (.int (5 : Int32)), .val (.int (0 : Int32)), .val (.int (1 : Int32))] []))
          refine own_back ?_ (fun t k => XS.iconst X0.here hx rfl (hb hby d5_75) k)
          show own_Go p e below PO (s₁.setTop (mkF m 76 #[.val (.ref aB), .val (.int (5 : Int32)), .val (.int (0 : Int32)), .val (.int (1 : Int32))] [(.int (1 : Int32))]))
          refine own_back ?_ (fun t k => XS.goto X0.here hx rfl (pc0 := 76) (pc' := 80) rfl (hb hby d5_76) (by decide) (by decide) k)
          show own_Go p e below PO (s₁.setTop (mkF m 80 #[.val (.ref aB), .val (.int (5 : Int32)), .val (.int (0 : Int32)), .val (.int (1 : Int32))] [(.int (1 : Int32))]))
          refine own_retN X0 hx (t := .boolean) (rest := []) Bd.returns (by decide) (by simp) (hb hby d5_80) e0 (Bd.notSynchronized) ?_ (by decide) (by decide)
          exact ⟨by simp [own_ends, hc7_1, hc17_2, hc38_12, hc48_13, hc58_14], N0, rfl⟩
        refine own_back ?_ (fun t k => XS.icmpYes X0.here hx rfl (pc0 := 58) (pc' := 65) rfl (hb hby d5_58) rfl (feq hc58_14).2 (by decide) (by decide) k)
        show own_Go p e below PO (s₁.setTop (mkF m 65 #[.val (.ref aB), .val (.int (5 : Int32)), .val (.int (0 : Int32)), .unset] []))
        refine own_back ?_ (fun t k => XS.iconst X0.here hx rfl (hb hby d5_65) k)
        show own_Go p e below PO (s₁.setTop (mkF m 66 #[.val (.ref aB), .val (.int (5 : Int32)), .val (.int (0 : Int32)), .unset] [(.int (0 : Int32))]))
        refine own_back ?_ (fun t k => XS.istoreN X0.here hx rfl (hb hby d5_66) rfl (l' := #[.val (.ref aB), .val (.int (5 : Int32)), .val (.int (0 : Int32)), .val (.int (0 : Int32))]) rfl k)
        show own_Go p e below PO (s₁.setTop (mkF m 67 #[.val (.ref aB), .val (.int (5 : Int32)), .val (.int (0 : Int32)), .val (.int (0 : Int32))] []))
        refine own_back ?_ (fun t k => XS.iloadN X0.here hx rfl (hb hby d5_67) rfl k)
        show own_Go p e below PO (s₁.setTop (mkF m 68 #[.val (.ref aB), .val (.int (5 : Int32)), .val (.int (0 : Int32)), .val (.int (0 : Int32))] [(.int (0 : Int32))]))
        refine own_back ?_ (fun t k => XS.ifNo X0.here hx rfl (hb hby d5_68) rfl ((if0 _ _).trans (teq rfl).2) k)
        show own_Go p e below PO (s₁.setTop (mkF m 71 #[.val (.ref aB), .val (.int (5 : Int32)), .val (.int (0 : Int32)), .val (.int (0 : Int32))] []))
        refine own_back ?_ (fun t k => XS.iloadN X0.here hx rfl (hb hby d5_71) rfl k)
        show own_Go p e below PO (s₁.setTop (mkF m 72 #[.val (.ref aB), .val (.int (5 : Int32)), .val (.int (0 : Int32)), .val (.int (0 : Int32))] [(.int (0 : Int32))]))
        refine own_back ?_ (fun t k => XS.ifYes X0.here hx rfl (pc0 := 72) (pc' := 79) rfl (hb hby d5_72) rfl ((if0 _ _).trans (teq rfl).1) (by decide) (by decide) k)
        show own_Go p e below PO (s₁.setTop (mkF m 79 #[.val (.ref aB), .val (.int (5 : Int32)), .val (.int (0 : Int32)), .val (.int (0 : Int32))] []))
        refine own_back ?_ (fun t k => XS.iconst X0.here hx rfl (hb hby d5_79) k)
        show own_Go p e below PO (s₁.setTop (mkF m 80 #[.val (.ref aB), .val (.int (5 : Int32)), .val (.int (0 : Int32)), .val (.int (0 : Int32))] [(.int (0 : Int32))]))
        refine own_retN X0 hx (t := .boolean) (rest := []) Bd.returns (by decide) (by simp) (hb hby d5_80) e0 (Bd.notSynchronized) ?_ (by decide) (by decide)
        exact ⟨by simp [own_ends, hc7_1, hc17_2, hc38_12, hc48_13, hc58_14], N0, rfl⟩
      refine own_back ?_ (fun t k => XS.icmpYes X0.here hx rfl (pc0 := 48) (pc' := 65) rfl (hb hby d5_48) rfl (feq hc48_13).2 (by decide) (by decide) k)
      show own_Go p e below PO (s₁.setTop (mkF m 65 #[.val (.ref aB), .val (.int (5 : Int32)), .val (.int (0 : Int32)), .unset] []))
      refine own_back ?_ (fun t k => XS.iconst X0.here hx rfl (hb hby d5_65) k)
      show own_Go p e below PO (s₁.setTop (mkF m 66 #[.val (.ref aB), .val (.int (5 : Int32)), .val (.int (0 : Int32)), .unset] [(.int (0 : Int32))]))
      refine own_back ?_ (fun t k => XS.istoreN X0.here hx rfl (hb hby d5_66) rfl (l' := #[.val (.ref aB), .val (.int (5 : Int32)), .val (.int (0 : Int32)), .val (.int (0 : Int32))]) rfl k)
      show own_Go p e below PO (s₁.setTop (mkF m 67 #[.val (.ref aB), .val (.int (5 : Int32)), .val (.int (0 : Int32)), .val (.int (0 : Int32))] []))
      refine own_back ?_ (fun t k => XS.iloadN X0.here hx rfl (hb hby d5_67) rfl k)
      show own_Go p e below PO (s₁.setTop (mkF m 68 #[.val (.ref aB), .val (.int (5 : Int32)), .val (.int (0 : Int32)), .val (.int (0 : Int32))] [(.int (0 : Int32))]))
      refine own_back ?_ (fun t k => XS.ifNo X0.here hx rfl (hb hby d5_68) rfl ((if0 _ _).trans (teq rfl).2) k)
      show own_Go p e below PO (s₁.setTop (mkF m 71 #[.val (.ref aB), .val (.int (5 : Int32)), .val (.int (0 : Int32)), .val (.int (0 : Int32))] []))
      refine own_back ?_ (fun t k => XS.iloadN X0.here hx rfl (hb hby d5_71) rfl k)
      show own_Go p e below PO (s₁.setTop (mkF m 72 #[.val (.ref aB), .val (.int (5 : Int32)), .val (.int (0 : Int32)), .val (.int (0 : Int32))] [(.int (0 : Int32))]))
      refine own_back ?_ (fun t k => XS.ifYes X0.here hx rfl (pc0 := 72) (pc' := 79) rfl (hb hby d5_72) rfl ((if0 _ _).trans (teq rfl).1) (by decide) (by decide) k)
      show own_Go p e below PO (s₁.setTop (mkF m 79 #[.val (.ref aB), .val (.int (5 : Int32)), .val (.int (0 : Int32)), .val (.int (0 : Int32))] []))
      refine own_back ?_ (fun t k => XS.iconst X0.here hx rfl (hb hby d5_79) k)
      show own_Go p e below PO (s₁.setTop (mkF m 80 #[.val (.ref aB), .val (.int (5 : Int32)), .val (.int (0 : Int32)), .val (.int (0 : Int32))] [(.int (0 : Int32))]))
      refine own_retN X0 hx (t := .boolean) (rest := []) Bd.returns (by decide) (by simp) (hb hby d5_80) e0 (Bd.notSynchronized) ?_ (by decide) (by decide)
      exact ⟨by simp [own_ends, hc7_1, hc17_2, hc38_12, hc48_13], N0, rfl⟩
    refine own_back ?_ (fun t k => XS.icmpYes X0.here hx rfl (pc0 := 38) (pc' := 65) rfl (hb hby d5_38) rfl (feq hc38_12).2 (by decide) (by decide) k)
    show own_Go p e below PO (s₁.setTop (mkF m 65 #[.val (.ref aB), .val (.int (5 : Int32)), .val (.int (0 : Int32)), .unset] []))
    refine own_back ?_ (fun t k => XS.iconst X0.here hx rfl (hb hby d5_65) k)
    show own_Go p e below PO (s₁.setTop (mkF m 66 #[.val (.ref aB), .val (.int (5 : Int32)), .val (.int (0 : Int32)), .unset] [(.int (0 : Int32))]))
    refine own_back ?_ (fun t k => XS.istoreN X0.here hx rfl (hb hby d5_66) rfl (l' := #[.val (.ref aB), .val (.int (5 : Int32)), .val (.int (0 : Int32)), .val (.int (0 : Int32))]) rfl k)
    show own_Go p e below PO (s₁.setTop (mkF m 67 #[.val (.ref aB), .val (.int (5 : Int32)), .val (.int (0 : Int32)), .val (.int (0 : Int32))] []))
    refine own_back ?_ (fun t k => XS.iloadN X0.here hx rfl (hb hby d5_67) rfl k)
    show own_Go p e below PO (s₁.setTop (mkF m 68 #[.val (.ref aB), .val (.int (5 : Int32)), .val (.int (0 : Int32)), .val (.int (0 : Int32))] [(.int (0 : Int32))]))
    refine own_back ?_ (fun t k => XS.ifNo X0.here hx rfl (hb hby d5_68) rfl ((if0 _ _).trans (teq rfl).2) k)
    show own_Go p e below PO (s₁.setTop (mkF m 71 #[.val (.ref aB), .val (.int (5 : Int32)), .val (.int (0 : Int32)), .val (.int (0 : Int32))] []))
    refine own_back ?_ (fun t k => XS.iloadN X0.here hx rfl (hb hby d5_71) rfl k)
    show own_Go p e below PO (s₁.setTop (mkF m 72 #[.val (.ref aB), .val (.int (5 : Int32)), .val (.int (0 : Int32)), .val (.int (0 : Int32))] [(.int (0 : Int32))]))
    refine own_back ?_ (fun t k => XS.ifYes X0.here hx rfl (pc0 := 72) (pc' := 79) rfl (hb hby d5_72) rfl ((if0 _ _).trans (teq rfl).1) (by decide) (by decide) k)
    show own_Go p e below PO (s₁.setTop (mkF m 79 #[.val (.ref aB), .val (.int (5 : Int32)), .val (.int (0 : Int32)), .val (.int (0 : Int32))] []))
    refine own_back ?_ (fun t k => XS.iconst X0.here hx rfl (hb hby d5_79) k)
    show own_Go p e below PO (s₁.setTop (mkF m 80 #[.val (.ref aB), .val (.int (5 : Int32)), .val (.int (0 : Int32)), .val (.int (0 : Int32))] [(.int (0 : Int32))]))
    refine own_retN X0 hx (t := .boolean) (rest := []) Bd.returns (by decide) (by simp) (hb hby d5_80) e0 (Bd.notSynchronized) ?_ (by decide) (by decide)
    exact ⟨by simp [own_ends, hc7_1, hc17_2, hc38_12], N0, rfl⟩
  refine own_back ?_ (fun t k => XS.icmpYes X0.here hx rfl (pc0 := 7) (pc' := 24) rfl (hb hby d5_7) rfl (feq hc7_1).2 (by decide) (by decide) k)
  show own_Go p e below PO (s₁.setTop (mkF m 24 #[.val (.ref aB), .val (.int (5 : Int32)), .unset, .unset] []))
  refine own_back ?_ (fun t k => XS.iconst X0.here hx rfl (hb hby d5_24) k)
  show own_Go p e below PO (s₁.setTop (mkF m 25 #[.val (.ref aB), .val (.int (5 : Int32)), .unset, .unset] [(.int (0 : Int32))]))
  refine own_back ?_ (fun t k => XS.istoreN X0.here hx rfl (hb hby d5_25) rfl (l' := #[.val (.ref aB), .val (.int (5 : Int32)), .val (.int (0 : Int32)), .unset]) rfl k)
  show own_Go p e below PO (s₁.setTop (mkF m 26 #[.val (.ref aB), .val (.int (5 : Int32)), .val (.int (0 : Int32)), .unset] []))
  refine own_back ?_ (fun t k => XS.iloadN X0.here hx rfl (hb hby d5_26) rfl k)
  show own_Go p e below PO (s₁.setTop (mkF m 27 #[.val (.ref aB), .val (.int (5 : Int32)), .val (.int (0 : Int32)), .unset] [(.int (5 : Int32))]))
  refine own_back ?_ (fun t k => XS.iconst X0.here hx rfl (hb hby d5_27) k)
  show own_Go p e below PO (s₁.setTop (mkF m 28 #[.val (.ref aB), .val (.int (5 : Int32)), .val (.int (0 : Int32)), .unset] [(.int (3 : Int32)), (.int (5 : Int32))]))
  have hd28_16 : ¬ ((5 : Int32) < (3 : Int32)) := (by decide)
  refine own_back ?_ (fun t k => XS.icmpNo X0.here hx rfl (hb hby d5_28) rfl (flt hd28_16).1 k)
  show own_Go p e below PO (s₁.setTop (mkF m 31 #[.val (.ref aB), .val (.int (5 : Int32)), .val (.int (0 : Int32)), .unset] []))
  refine own_back ?_ (fun t k => XS.aloadN X0.here hx rfl (hb hby d5_31) rfl rfl k)
  show own_Go p e below PO (s₁.setTop (mkF m 32 #[.val (.ref aB), .val (.int (5 : Int32)), .val (.int (0 : Int32)), .unset] [(.ref aB)]))
  refine own_back ?_ (fun t k => XS.iloadN X0.here hx rfl (hb hby d5_32) rfl k)
  show own_Go p e below PO (s₁.setTop (mkF m 33 #[.val (.ref aB), .val (.int (5 : Int32)), .val (.int (0 : Int32)), .unset] [(.int (5 : Int32)), (.ref aB)]))
  refine own_back ?_ (fun t k => XS.iconst X0.here hx rfl (hb hby d5_33) k)
  show own_Go p e below PO (s₁.setTop (mkF m 34 #[.val (.ref aB), .val (.int (5 : Int32)), .val (.int (0 : Int32)), .unset] [(.int (3 : Int32)), (.int (5 : Int32)), (.ref aB)]))
  refine own_back ?_ (fun t k => XS.isub X0.here hx rfl (hb hby d5_34) rfl k)
  show own_Go p e below PO (s₁.setTop (mkF m 35 #[.val (.ref aB), .val (.int (5 : Int32)), .val (.int (0 : Int32)), .unset] [(.int (2 : Int32)), (.ref aB)]))
  refine own_back ?_ (own_ldB X0 hx hZ e0 VB (j := (2 : Int32)) (v := (.int (own_at xs 2))) ⟨by decide, by decide⟩ (own_getD xs _) (g := (mkF m 35 #[.val (.ref aB), .val (.int (5 : Int32)), .val (.int (0 : Int32)), .unset] [(.int (2 : Int32)), (.ref aB)])) rfl rfl (hb hby d5_35))
  show own_Go p e below PO (s₁.setTop (mkF m 36 #[.val (.ref aB), .val (.int (5 : Int32)), .val (.int (0 : Int32)), .unset] [(.int (own_at xs 2))]))
  refine own_back ?_ (fun t k => XS.bipush X0.here hx rfl (hb hby d5_36) k)
  show own_Go p e below PO (s₁.setTop (mkF m 38 #[.val (.ref aB), .val (.int (5 : Int32)), .val (.int (0 : Int32)), .unset] [(.int (10 : Int32)), (.int (own_at xs 2))]))
  by_cases hc38_17 : (own_at xs 2) = (10 : Int32)
  case pos =>
    refine own_back ?_ (fun t k => XS.icmpNo X0.here hx rfl (hb hby d5_38) rfl (teq hc38_17).2 k)
    show own_Go p e below PO (s₁.setTop (mkF m 41 #[.val (.ref aB), .val (.int (5 : Int32)), .val (.int (0 : Int32)), .unset] []))
    refine own_back ?_ (fun t k => XS.aloadN X0.here hx rfl (hb hby d5_41) rfl rfl k)
    show own_Go p e below PO (s₁.setTop (mkF m 42 #[.val (.ref aB), .val (.int (5 : Int32)), .val (.int (0 : Int32)), .unset] [(.ref aB)]))
    refine own_back ?_ (fun t k => XS.iloadN X0.here hx rfl (hb hby d5_42) rfl k)
    show own_Go p e below PO (s₁.setTop (mkF m 43 #[.val (.ref aB), .val (.int (5 : Int32)), .val (.int (0 : Int32)), .unset] [(.int (5 : Int32)), (.ref aB)]))
    refine own_back ?_ (fun t k => XS.iconst X0.here hx rfl (hb hby d5_43) k)
    show own_Go p e below PO (s₁.setTop (mkF m 44 #[.val (.ref aB), .val (.int (5 : Int32)), .val (.int (0 : Int32)), .unset] [(.int (2 : Int32)), (.int (5 : Int32)), (.ref aB)]))
    refine own_back ?_ (fun t k => XS.isub X0.here hx rfl (hb hby d5_44) rfl k)
    show own_Go p e below PO (s₁.setTop (mkF m 45 #[.val (.ref aB), .val (.int (5 : Int32)), .val (.int (0 : Int32)), .unset] [(.int (3 : Int32)), (.ref aB)]))
    refine own_back ?_ (own_ldB X0 hx hZ e0 VB (j := (3 : Int32)) (v := (.int (own_at xs 3))) ⟨by decide, by decide⟩ (own_getD xs _) (g := (mkF m 45 #[.val (.ref aB), .val (.int (5 : Int32)), .val (.int (0 : Int32)), .unset] [(.int (3 : Int32)), (.ref aB)])) rfl rfl (hb hby d5_45))
    show own_Go p e below PO (s₁.setTop (mkF m 46 #[.val (.ref aB), .val (.int (5 : Int32)), .val (.int (0 : Int32)), .unset] [(.int (own_at xs 3))]))
    refine own_back ?_ (fun t k => XS.bipush X0.here hx rfl (hb hby d5_46) k)
    show own_Go p e below PO (s₁.setTop (mkF m 48 #[.val (.ref aB), .val (.int (5 : Int32)), .val (.int (0 : Int32)), .unset] [(.int (13 : Int32)), (.int (own_at xs 3))]))
    by_cases hc48_18 : (own_at xs 3) = (13 : Int32)
    case pos =>
      refine own_back ?_ (fun t k => XS.icmpNo X0.here hx rfl (hb hby d5_48) rfl (teq hc48_18).2 k)
      show own_Go p e below PO (s₁.setTop (mkF m 51 #[.val (.ref aB), .val (.int (5 : Int32)), .val (.int (0 : Int32)), .unset] []))
      refine own_back ?_ (fun t k => XS.aloadN X0.here hx rfl (hb hby d5_51) rfl rfl k)
      show own_Go p e below PO (s₁.setTop (mkF m 52 #[.val (.ref aB), .val (.int (5 : Int32)), .val (.int (0 : Int32)), .unset] [(.ref aB)]))
      refine own_back ?_ (fun t k => XS.iloadN X0.here hx rfl (hb hby d5_52) rfl k)
      show own_Go p e below PO (s₁.setTop (mkF m 53 #[.val (.ref aB), .val (.int (5 : Int32)), .val (.int (0 : Int32)), .unset] [(.int (5 : Int32)), (.ref aB)]))
      refine own_back ?_ (fun t k => XS.iconst X0.here hx rfl (hb hby d5_53) k)
      show own_Go p e below PO (s₁.setTop (mkF m 54 #[.val (.ref aB), .val (.int (5 : Int32)), .val (.int (0 : Int32)), .unset] [(.int (1 : Int32)), (.int (5 : Int32)), (.ref aB)]))
      refine own_back ?_ (fun t k => XS.isub X0.here hx rfl (hb hby d5_54) rfl k)
      show own_Go p e below PO (s₁.setTop (mkF m 55 #[.val (.ref aB), .val (.int (5 : Int32)), .val (.int (0 : Int32)), .unset] [(.int (4 : Int32)), (.ref aB)]))
      refine own_back ?_ (own_ldB X0 hx hZ e0 VB (j := (4 : Int32)) (v := (.int (own_at xs 4))) ⟨by decide, by decide⟩ (own_getD xs _) (g := (mkF m 55 #[.val (.ref aB), .val (.int (5 : Int32)), .val (.int (0 : Int32)), .unset] [(.int (4 : Int32)), (.ref aB)])) rfl rfl (hb hby d5_55))
      show own_Go p e below PO (s₁.setTop (mkF m 56 #[.val (.ref aB), .val (.int (5 : Int32)), .val (.int (0 : Int32)), .unset] [(.int (own_at xs 4))]))
      refine own_back ?_ (fun t k => XS.bipush X0.here hx rfl (hb hby d5_56) k)
      show own_Go p e below PO (s₁.setTop (mkF m 58 #[.val (.ref aB), .val (.int (5 : Int32)), .val (.int (0 : Int32)), .unset] [(.int (10 : Int32)), (.int (own_at xs 4))]))
      by_cases hc58_19 : (own_at xs 4) = (10 : Int32)
      case pos =>
        refine own_back ?_ (fun t k => XS.icmpNo X0.here hx rfl (hb hby d5_58) rfl (teq hc58_19).2 k)
        show own_Go p e below PO (s₁.setTop (mkF m 61 #[.val (.ref aB), .val (.int (5 : Int32)), .val (.int (0 : Int32)), .unset] []))
        refine own_back ?_ (fun t k => XS.iconst X0.here hx rfl (hb hby d5_61) k)
        show own_Go p e below PO (s₁.setTop (mkF m 62 #[.val (.ref aB), .val (.int (5 : Int32)), .val (.int (0 : Int32)), .unset] [(.int (1 : Int32))]))
        refine own_back ?_ (fun t k => XS.goto X0.here hx rfl (pc0 := 62) (pc' := 66) rfl (hb hby d5_62) (by decide) (by decide) k)
        show own_Go p e below PO (s₁.setTop (mkF m 66 #[.val (.ref aB), .val (.int (5 : Int32)), .val (.int (0 : Int32)), .unset] [(.int (1 : Int32))]))
        refine own_back ?_ (fun t k => XS.istoreN X0.here hx rfl (hb hby d5_66) rfl (l' := #[.val (.ref aB), .val (.int (5 : Int32)), .val (.int (0 : Int32)), .val (.int (1 : Int32))]) rfl k)
        show own_Go p e below PO (s₁.setTop (mkF m 67 #[.val (.ref aB), .val (.int (5 : Int32)), .val (.int (0 : Int32)), .val (.int (1 : Int32))] []))
        refine own_back ?_ (fun t k => XS.iloadN X0.here hx rfl (hb hby d5_67) rfl k)
        show own_Go p e below PO (s₁.setTop (mkF m 68 #[.val (.ref aB), .val (.int (5 : Int32)), .val (.int (0 : Int32)), .val (.int (1 : Int32))] [(.int (0 : Int32))]))
        refine own_back ?_ (fun t k => XS.ifNo X0.here hx rfl (hb hby d5_68) rfl ((if0 _ _).trans (teq rfl).2) k)
        show own_Go p e below PO (s₁.setTop (mkF m 71 #[.val (.ref aB), .val (.int (5 : Int32)), .val (.int (0 : Int32)), .val (.int (1 : Int32))] []))
        refine own_back ?_ (fun t k => XS.iloadN X0.here hx rfl (hb hby d5_71) rfl k)
        show own_Go p e below PO (s₁.setTop (mkF m 72 #[.val (.ref aB), .val (.int (5 : Int32)), .val (.int (0 : Int32)), .val (.int (1 : Int32))] [(.int (1 : Int32))]))
        have hd72_20 : ¬ ((1 : Int32) = (0 : Int32)) := (by decide)
        refine own_back ?_ (fun t k => XS.ifNo X0.here hx rfl (hb hby d5_72) rfl ((if0 _ _).trans (feq hd72_20).1) k)
        show own_Go p e below PO (s₁.setTop (mkF m 75 #[.val (.ref aB), .val (.int (5 : Int32)), .val (.int (0 : Int32)), .val (.int (1 : Int32))] []))
        refine own_back ?_ (fun t k => XS.iconst X0.here hx rfl (hb hby d5_75) k)
        show own_Go p e below PO (s₁.setTop (mkF m 76 #[.val (.ref aB), .val (.int (5 : Int32)), .val (.int (0 : Int32)), .val (.int (1 : Int32))] [(.int (1 : Int32))]))
        refine own_back ?_ (fun t k => XS.goto X0.here hx rfl (pc0 := 76) (pc' := 80) rfl (hb hby d5_76) (by decide) (by decide) k)
        show own_Go p e below PO (s₁.setTop (mkF m 80 #[.val (.ref aB), .val (.int (5 : Int32)), .val (.int (0 : Int32)), .val (.int (1 : Int32))] [(.int (1 : Int32))]))
        refine own_retN X0 hx (t := .boolean) (rest := []) Bd.returns (by decide) (by simp) (hb hby d5_80) e0 (Bd.notSynchronized) ?_ (by decide) (by decide)
        exact ⟨by simp [own_ends, hc7_1, hc38_17, hc48_18, hc58_19], N0, rfl⟩
      refine own_back ?_ (fun t k => XS.icmpYes X0.here hx rfl (pc0 := 58) (pc' := 65) rfl (hb hby d5_58) rfl (feq hc58_19).2 (by decide) (by decide) k)
      show own_Go p e below PO (s₁.setTop (mkF m 65 #[.val (.ref aB), .val (.int (5 : Int32)), .val (.int (0 : Int32)), .unset] []))
      refine own_back ?_ (fun t k => XS.iconst X0.here hx rfl (hb hby d5_65) k)
      show own_Go p e below PO (s₁.setTop (mkF m 66 #[.val (.ref aB), .val (.int (5 : Int32)), .val (.int (0 : Int32)), .unset] [(.int (0 : Int32))]))
      refine own_back ?_ (fun t k => XS.istoreN X0.here hx rfl (hb hby d5_66) rfl (l' := #[.val (.ref aB), .val (.int (5 : Int32)), .val (.int (0 : Int32)), .val (.int (0 : Int32))]) rfl k)
      show own_Go p e below PO (s₁.setTop (mkF m 67 #[.val (.ref aB), .val (.int (5 : Int32)), .val (.int (0 : Int32)), .val (.int (0 : Int32))] []))
      refine own_back ?_ (fun t k => XS.iloadN X0.here hx rfl (hb hby d5_67) rfl k)
      show own_Go p e below PO (s₁.setTop (mkF m 68 #[.val (.ref aB), .val (.int (5 : Int32)), .val (.int (0 : Int32)), .val (.int (0 : Int32))] [(.int (0 : Int32))]))
      refine own_back ?_ (fun t k => XS.ifNo X0.here hx rfl (hb hby d5_68) rfl ((if0 _ _).trans (teq rfl).2) k)
      show own_Go p e below PO (s₁.setTop (mkF m 71 #[.val (.ref aB), .val (.int (5 : Int32)), .val (.int (0 : Int32)), .val (.int (0 : Int32))] []))
      refine own_back ?_ (fun t k => XS.iloadN X0.here hx rfl (hb hby d5_71) rfl k)
      show own_Go p e below PO (s₁.setTop (mkF m 72 #[.val (.ref aB), .val (.int (5 : Int32)), .val (.int (0 : Int32)), .val (.int (0 : Int32))] [(.int (0 : Int32))]))
      refine own_back ?_ (fun t k => XS.ifYes X0.here hx rfl (pc0 := 72) (pc' := 79) rfl (hb hby d5_72) rfl ((if0 _ _).trans (teq rfl).1) (by decide) (by decide) k)
      show own_Go p e below PO (s₁.setTop (mkF m 79 #[.val (.ref aB), .val (.int (5 : Int32)), .val (.int (0 : Int32)), .val (.int (0 : Int32))] []))
      refine own_back ?_ (fun t k => XS.iconst X0.here hx rfl (hb hby d5_79) k)
      show own_Go p e below PO (s₁.setTop (mkF m 80 #[.val (.ref aB), .val (.int (5 : Int32)), .val (.int (0 : Int32)), .val (.int (0 : Int32))] [(.int (0 : Int32))]))
      refine own_retN X0 hx (t := .boolean) (rest := []) Bd.returns (by decide) (by simp) (hb hby d5_80) e0 (Bd.notSynchronized) ?_ (by decide) (by decide)
      exact ⟨by simp [own_ends, hc7_1, hc38_17, hc48_18, hc58_19], N0, rfl⟩
    refine own_back ?_ (fun t k => XS.icmpYes X0.here hx rfl (pc0 := 48) (pc' := 65) rfl (hb hby d5_48) rfl (feq hc48_18).2 (by decide) (by decide) k)
    show own_Go p e below PO (s₁.setTop (mkF m 65 #[.val (.ref aB), .val (.int (5 : Int32)), .val (.int (0 : Int32)), .unset] []))
    refine own_back ?_ (fun t k => XS.iconst X0.here hx rfl (hb hby d5_65) k)
    show own_Go p e below PO (s₁.setTop (mkF m 66 #[.val (.ref aB), .val (.int (5 : Int32)), .val (.int (0 : Int32)), .unset] [(.int (0 : Int32))]))
    refine own_back ?_ (fun t k => XS.istoreN X0.here hx rfl (hb hby d5_66) rfl (l' := #[.val (.ref aB), .val (.int (5 : Int32)), .val (.int (0 : Int32)), .val (.int (0 : Int32))]) rfl k)
    show own_Go p e below PO (s₁.setTop (mkF m 67 #[.val (.ref aB), .val (.int (5 : Int32)), .val (.int (0 : Int32)), .val (.int (0 : Int32))] []))
    refine own_back ?_ (fun t k => XS.iloadN X0.here hx rfl (hb hby d5_67) rfl k)
    show own_Go p e below PO (s₁.setTop (mkF m 68 #[.val (.ref aB), .val (.int (5 : Int32)), .val (.int (0 : Int32)), .val (.int (0 : Int32))] [(.int (0 : Int32))]))
    refine own_back ?_ (fun t k => XS.ifNo X0.here hx rfl (hb hby d5_68) rfl ((if0 _ _).trans (teq rfl).2) k)
    show own_Go p e below PO (s₁.setTop (mkF m 71 #[.val (.ref aB), .val (.int (5 : Int32)), .val (.int (0 : Int32)), .val (.int (0 : Int32))] []))
    refine own_back ?_ (fun t k => XS.iloadN X0.here hx rfl (hb hby d5_71) rfl k)
    show own_Go p e below PO (s₁.setTop (mkF m 72 #[.val (.ref aB), .val (.int (5 : Int32)), .val (.int (0 : Int32)), .val (.int (0 : Int32))] [(.int (0 : Int32))]))
    refine own_back ?_ (fun t k => XS.ifYes X0.here hx rfl (pc0 := 72) (pc' := 79) rfl (hb hby d5_72) rfl ((if0 _ _).trans (teq rfl).1) (by decide) (by decide) k)
    show own_Go p e below PO (s₁.setTop (mkF m 79 #[.val (.ref aB), .val (.int (5 : Int32)), .val (.int (0 : Int32)), .val (.int (0 : Int32))] []))
    refine own_back ?_ (fun t k => XS.iconst X0.here hx rfl (hb hby d5_79) k)
    show own_Go p e below PO (s₁.setTop (mkF m 80 #[.val (.ref aB), .val (.int (5 : Int32)), .val (.int (0 : Int32)), .val (.int (0 : Int32))] [(.int (0 : Int32))]))
    refine own_retN X0 hx (t := .boolean) (rest := []) Bd.returns (by decide) (by simp) (hb hby d5_80) e0 (Bd.notSynchronized) ?_ (by decide) (by decide)
    exact ⟨by simp [own_ends, hc7_1, hc38_17, hc48_18], N0, rfl⟩
  refine own_back ?_ (fun t k => XS.icmpYes X0.here hx rfl (pc0 := 38) (pc' := 65) rfl (hb hby d5_38) rfl (feq hc38_17).2 (by decide) (by decide) k)
  show own_Go p e below PO (s₁.setTop (mkF m 65 #[.val (.ref aB), .val (.int (5 : Int32)), .val (.int (0 : Int32)), .unset] []))
  refine own_back ?_ (fun t k => XS.iconst X0.here hx rfl (hb hby d5_65) k)
  show own_Go p e below PO (s₁.setTop (mkF m 66 #[.val (.ref aB), .val (.int (5 : Int32)), .val (.int (0 : Int32)), .unset] [(.int (0 : Int32))]))
  refine own_back ?_ (fun t k => XS.istoreN X0.here hx rfl (hb hby d5_66) rfl (l' := #[.val (.ref aB), .val (.int (5 : Int32)), .val (.int (0 : Int32)), .val (.int (0 : Int32))]) rfl k)
  show own_Go p e below PO (s₁.setTop (mkF m 67 #[.val (.ref aB), .val (.int (5 : Int32)), .val (.int (0 : Int32)), .val (.int (0 : Int32))] []))
  refine own_back ?_ (fun t k => XS.iloadN X0.here hx rfl (hb hby d5_67) rfl k)
  show own_Go p e below PO (s₁.setTop (mkF m 68 #[.val (.ref aB), .val (.int (5 : Int32)), .val (.int (0 : Int32)), .val (.int (0 : Int32))] [(.int (0 : Int32))]))
  refine own_back ?_ (fun t k => XS.ifNo X0.here hx rfl (hb hby d5_68) rfl ((if0 _ _).trans (teq rfl).2) k)
  show own_Go p e below PO (s₁.setTop (mkF m 71 #[.val (.ref aB), .val (.int (5 : Int32)), .val (.int (0 : Int32)), .val (.int (0 : Int32))] []))
  refine own_back ?_ (fun t k => XS.iloadN X0.here hx rfl (hb hby d5_71) rfl k)
  show own_Go p e below PO (s₁.setTop (mkF m 72 #[.val (.ref aB), .val (.int (5 : Int32)), .val (.int (0 : Int32)), .val (.int (0 : Int32))] [(.int (0 : Int32))]))
  refine own_back ?_ (fun t k => XS.ifYes X0.here hx rfl (pc0 := 72) (pc' := 79) rfl (hb hby d5_72) rfl ((if0 _ _).trans (teq rfl).1) (by decide) (by decide) k)
  show own_Go p e below PO (s₁.setTop (mkF m 79 #[.val (.ref aB), .val (.int (5 : Int32)), .val (.int (0 : Int32)), .val (.int (0 : Int32))] []))
  refine own_back ?_ (fun t k => XS.iconst X0.here hx rfl (hb hby d5_79) k)
  show own_Go p e below PO (s₁.setTop (mkF m 80 #[.val (.ref aB), .val (.int (5 : Int32)), .val (.int (0 : Int32)), .val (.int (0 : Int32))] [(.int (0 : Int32))]))
  refine own_retN X0 hx (t := .boolean) (rest := []) Bd.returns (by decide) (by simp) (hb hby d5_80) e0 (Bd.notSynchronized) ?_ (by decide) (by decide)
  exact ⟨by simp [own_ends, hc7_1, hc38_17], N0, rfl⟩
theorem ef_rm5_6 (m : MethodId) (x0 : Addr) (x1 : Int32) : entryFrame m #[(.ref x0), (.int x1)] 4 = mkF m 0 #[.val (.ref x0), .val (.int x1), .unset, .unset] [] := by first | (simp [entryFrame, mkF, argsToLocals, Value.category]; done) | rfl
def Q_rm5_6 (xs : List Int32) (h0 : Heap) (n0 : Nat) (v : Option Value) (h : Heap) (L : List Loc) : Prop := v = some (.int (own_ends xs 6)) ∧ Fr n0 L ∧ h = h0
set_option maxRecDepth 65536 in
set_option maxHeartbeats 40000000 in
theorem rm5_6 (l : Launch) (Z : State) (a0 : Array Value) (hw : ∀ d ∈ tables_1, d.before a0 Z = true) (ws : List Jvm.Cond) (aB : Addr) (xs : List Int32) (kB : ClassId) (h0 : Heap) (n0 : Nat) (Z0 : n0 ≤ h0.size) (VB : Arv Z h0 aB kB .byte 6 (xs.map Value.int) (.int 0)) :
    MetFree l (⟨"com/example/execd/execd/io/RequestHeadEndPinLaw", "endsAt", "([BI)Z"⟩ : MethodName) (head1 (Jvm.Cond.code (⟨"com/example/execd/execd/io/RequestHeadEndPinLaw", "endsAt", "([BI)Z"⟩ : MethodName) method_4_code 4 (some .boolean) :: ws) ({ frames := 0, cells := 0, slots := 0, locals := 0 } : Room)) (fun a U => a = #[(.ref aB), (.int (6 : Int32))] ∧ Z.Warmed39 U.vm ∧ U.heap = h0) (fun _ _ _ _ _ => True) (fun _ U o U' => ∃ v L, o = .returned v ∧ Q_rm5_6 xs h0 n0 v U'.heap L ∧ FrameEnd U o U' L ({ frames := 0, cells := 0, slots := 0, locals := 0 } : Room).cells ({ frames := 0, cells := 0, slots := 0, locals := 0 } : Room).slots) := by
  refine MetFree.of_bodySF (plainFor_of_name pn_0) hisR ?_
  intro p e s m args below meth c s₁ Bd hml0 hP hK
  obtain ⟨rfl, hZ, hh⟩ := hP
  have hx := Bd.exec
  have hby := Bd.bytes
  have hml : c.maxLocals = 4 := hml0
  have hown : s.vm.findClass "com/example/execd/execd/io/RequestHeadEndPinLaw" = some m.cls := findClass_of_methodNamed Bd.named
  have hnm := (name_of_methodNamed Bd.named Bd.method).1
  have X0 : Stand p l e ({ frames := 0, cells := 0, slots := 0, locals := 0 } : Room) s m #[(.ref aB), (.int (6 : Int32))] below meth c s₁ [] 0 0 := Stand.of_body Bd
  have e0 : s₁.heap = h0 := by rw [← hh, Bd.state]; rfl
  have N0 := Fr.nil n0
  let PO : Outcome → State → Prop := own_PO s (Q_rm5_6 xs h0 n0) 0 0
  show own_Go p e below PO (s₁.setTop (entryFrame m #[(.ref aB), (.int (6 : Int32))] 4))
  rw [ef_rm5_6]
  show own_Go p e below PO (s₁.setTop (mkF m 0 #[.val (.ref aB), .val (.int (6 : Int32)), .unset, .unset] []))
  refine own_back ?_ (fun t k => XS.aloadN X0.here hx rfl (hb hby d5_0) rfl rfl k)
  show own_Go p e below PO (s₁.setTop (mkF m 1 #[.val (.ref aB), .val (.int (6 : Int32)), .unset, .unset] [(.ref aB)]))
  refine own_back ?_ (fun t k => XS.iloadN X0.here hx rfl (hb hby d5_1) rfl k)
  show own_Go p e below PO (s₁.setTop (mkF m 2 #[.val (.ref aB), .val (.int (6 : Int32)), .unset, .unset] [(.int (6 : Int32)), (.ref aB)]))
  refine own_back ?_ (fun t k => XS.iconst X0.here hx rfl (hb hby d5_2) k)
  show own_Go p e below PO (s₁.setTop (mkF m 3 #[.val (.ref aB), .val (.int (6 : Int32)), .unset, .unset] [(.int (2 : Int32)), (.int (6 : Int32)), (.ref aB)]))
  refine own_back ?_ (fun t k => XS.isub X0.here hx rfl (hb hby d5_3) rfl k)
  show own_Go p e below PO (s₁.setTop (mkF m 4 #[.val (.ref aB), .val (.int (6 : Int32)), .unset, .unset] [(.int (4 : Int32)), (.ref aB)]))
  refine own_back ?_ (own_ldB X0 hx hZ e0 VB (j := (4 : Int32)) (v := (.int (own_at xs 4))) ⟨by decide, by decide⟩ (own_getD xs _) (g := (mkF m 4 #[.val (.ref aB), .val (.int (6 : Int32)), .unset, .unset] [(.int (4 : Int32)), (.ref aB)])) rfl rfl (hb hby d5_4))
  show own_Go p e below PO (s₁.setTop (mkF m 5 #[.val (.ref aB), .val (.int (6 : Int32)), .unset, .unset] [(.int (own_at xs 4))]))
  refine own_back ?_ (fun t k => XS.bipush X0.here hx rfl (hb hby d5_5) k)
  show own_Go p e below PO (s₁.setTop (mkF m 7 #[.val (.ref aB), .val (.int (6 : Int32)), .unset, .unset] [(.int (10 : Int32)), (.int (own_at xs 4))]))
  by_cases hc7_1 : (own_at xs 4) = (10 : Int32)
  case pos =>
    refine own_back ?_ (fun t k => XS.icmpNo X0.here hx rfl (hb hby d5_7) rfl (teq hc7_1).2 k)
    show own_Go p e below PO (s₁.setTop (mkF m 10 #[.val (.ref aB), .val (.int (6 : Int32)), .unset, .unset] []))
    refine own_back ?_ (fun t k => XS.aloadN X0.here hx rfl (hb hby d5_10) rfl rfl k)
    show own_Go p e below PO (s₁.setTop (mkF m 11 #[.val (.ref aB), .val (.int (6 : Int32)), .unset, .unset] [(.ref aB)]))
    refine own_back ?_ (fun t k => XS.iloadN X0.here hx rfl (hb hby d5_11) rfl k)
    show own_Go p e below PO (s₁.setTop (mkF m 12 #[.val (.ref aB), .val (.int (6 : Int32)), .unset, .unset] [(.int (6 : Int32)), (.ref aB)]))
    refine own_back ?_ (fun t k => XS.iconst X0.here hx rfl (hb hby d5_12) k)
    show own_Go p e below PO (s₁.setTop (mkF m 13 #[.val (.ref aB), .val (.int (6 : Int32)), .unset, .unset] [(.int (1 : Int32)), (.int (6 : Int32)), (.ref aB)]))
    refine own_back ?_ (fun t k => XS.isub X0.here hx rfl (hb hby d5_13) rfl k)
    show own_Go p e below PO (s₁.setTop (mkF m 14 #[.val (.ref aB), .val (.int (6 : Int32)), .unset, .unset] [(.int (5 : Int32)), (.ref aB)]))
    refine own_back ?_ (own_ldB X0 hx hZ e0 VB (j := (5 : Int32)) (v := (.int (own_at xs 5))) ⟨by decide, by decide⟩ (own_getD xs _) (g := (mkF m 14 #[.val (.ref aB), .val (.int (6 : Int32)), .unset, .unset] [(.int (5 : Int32)), (.ref aB)])) rfl rfl (hb hby d5_14))
    show own_Go p e below PO (s₁.setTop (mkF m 15 #[.val (.ref aB), .val (.int (6 : Int32)), .unset, .unset] [(.int (own_at xs 5))]))
    refine own_back ?_ (fun t k => XS.bipush X0.here hx rfl (hb hby d5_15) k)
    show own_Go p e below PO (s₁.setTop (mkF m 17 #[.val (.ref aB), .val (.int (6 : Int32)), .unset, .unset] [(.int (10 : Int32)), (.int (own_at xs 5))]))
    by_cases hc17_2 : (own_at xs 5) = (10 : Int32)
    case pos =>
      refine own_back ?_ (fun t k => XS.icmpNo X0.here hx rfl (hb hby d5_17) rfl (teq hc17_2).2 k)
      show own_Go p e below PO (s₁.setTop (mkF m 20 #[.val (.ref aB), .val (.int (6 : Int32)), .unset, .unset] []))
      refine own_back ?_ (fun t k => XS.iconst X0.here hx rfl (hb hby d5_20) k)
      show own_Go p e below PO (s₁.setTop (mkF m 21 #[.val (.ref aB), .val (.int (6 : Int32)), .unset, .unset] [(.int (1 : Int32))]))
      refine own_back ?_ (fun t k => XS.goto X0.here hx rfl (pc0 := 21) (pc' := 25) rfl (hb hby d5_21) (by decide) (by decide) k)
      show own_Go p e below PO (s₁.setTop (mkF m 25 #[.val (.ref aB), .val (.int (6 : Int32)), .unset, .unset] [(.int (1 : Int32))]))
      refine own_back ?_ (fun t k => XS.istoreN X0.here hx rfl (hb hby d5_25) rfl (l' := #[.val (.ref aB), .val (.int (6 : Int32)), .val (.int (1 : Int32)), .unset]) rfl k)
      show own_Go p e below PO (s₁.setTop (mkF m 26 #[.val (.ref aB), .val (.int (6 : Int32)), .val (.int (1 : Int32)), .unset] []))
      refine own_back ?_ (fun t k => XS.iloadN X0.here hx rfl (hb hby d5_26) rfl k)
      show own_Go p e below PO (s₁.setTop (mkF m 27 #[.val (.ref aB), .val (.int (6 : Int32)), .val (.int (1 : Int32)), .unset] [(.int (6 : Int32))]))
      refine own_back ?_ (fun t k => XS.iconst X0.here hx rfl (hb hby d5_27) k)
      show own_Go p e below PO (s₁.setTop (mkF m 28 #[.val (.ref aB), .val (.int (6 : Int32)), .val (.int (1 : Int32)), .unset] [(.int (3 : Int32)), (.int (6 : Int32))]))
      have hd28_3 : ¬ ((6 : Int32) < (3 : Int32)) := (by decide)
      refine own_back ?_ (fun t k => XS.icmpNo X0.here hx rfl (hb hby d5_28) rfl (flt hd28_3).1 k)
      show own_Go p e below PO (s₁.setTop (mkF m 31 #[.val (.ref aB), .val (.int (6 : Int32)), .val (.int (1 : Int32)), .unset] []))
      refine own_back ?_ (fun t k => XS.aloadN X0.here hx rfl (hb hby d5_31) rfl rfl k)
      show own_Go p e below PO (s₁.setTop (mkF m 32 #[.val (.ref aB), .val (.int (6 : Int32)), .val (.int (1 : Int32)), .unset] [(.ref aB)]))
      refine own_back ?_ (fun t k => XS.iloadN X0.here hx rfl (hb hby d5_32) rfl k)
      show own_Go p e below PO (s₁.setTop (mkF m 33 #[.val (.ref aB), .val (.int (6 : Int32)), .val (.int (1 : Int32)), .unset] [(.int (6 : Int32)), (.ref aB)]))
      refine own_back ?_ (fun t k => XS.iconst X0.here hx rfl (hb hby d5_33) k)
      show own_Go p e below PO (s₁.setTop (mkF m 34 #[.val (.ref aB), .val (.int (6 : Int32)), .val (.int (1 : Int32)), .unset] [(.int (3 : Int32)), (.int (6 : Int32)), (.ref aB)]))
      refine own_back ?_ (fun t k => XS.isub X0.here hx rfl (hb hby d5_34) rfl k)
      show own_Go p e below PO (s₁.setTop (mkF m 35 #[.val (.ref aB), .val (.int (6 : Int32)), .val (.int (1 : Int32)), .unset] [(.int (3 : Int32)), (.ref aB)]))
      refine own_back ?_ (own_ldB X0 hx hZ e0 VB (j := (3 : Int32)) (v := (.int (own_at xs 3))) ⟨by decide, by decide⟩ (own_getD xs _) (g := (mkF m 35 #[.val (.ref aB), .val (.int (6 : Int32)), .val (.int (1 : Int32)), .unset] [(.int (3 : Int32)), (.ref aB)])) rfl rfl (hb hby d5_35))
      show own_Go p e below PO (s₁.setTop (mkF m 36 #[.val (.ref aB), .val (.int (6 : Int32)), .val (.int (1 : Int32)), .unset] [(.int (own_at xs 3))]))
      refine own_back ?_ (fun t k => XS.bipush X0.here hx rfl (hb hby d5_36) k)
      show own_Go p e below PO (s₁.setTop (mkF m 38 #[.val (.ref aB), .val (.int (6 : Int32)), .val (.int (1 : Int32)), .unset] [(.int (10 : Int32)), (.int (own_at xs 3))]))
      by_cases hc38_4 : (own_at xs 3) = (10 : Int32)
      case pos =>
        refine own_back ?_ (fun t k => XS.icmpNo X0.here hx rfl (hb hby d5_38) rfl (teq hc38_4).2 k)
        show own_Go p e below PO (s₁.setTop (mkF m 41 #[.val (.ref aB), .val (.int (6 : Int32)), .val (.int (1 : Int32)), .unset] []))
        refine own_back ?_ (fun t k => XS.aloadN X0.here hx rfl (hb hby d5_41) rfl rfl k)
        show own_Go p e below PO (s₁.setTop (mkF m 42 #[.val (.ref aB), .val (.int (6 : Int32)), .val (.int (1 : Int32)), .unset] [(.ref aB)]))
        refine own_back ?_ (fun t k => XS.iloadN X0.here hx rfl (hb hby d5_42) rfl k)
        show own_Go p e below PO (s₁.setTop (mkF m 43 #[.val (.ref aB), .val (.int (6 : Int32)), .val (.int (1 : Int32)), .unset] [(.int (6 : Int32)), (.ref aB)]))
        refine own_back ?_ (fun t k => XS.iconst X0.here hx rfl (hb hby d5_43) k)
        show own_Go p e below PO (s₁.setTop (mkF m 44 #[.val (.ref aB), .val (.int (6 : Int32)), .val (.int (1 : Int32)), .unset] [(.int (2 : Int32)), (.int (6 : Int32)), (.ref aB)]))
        refine own_back ?_ (fun t k => XS.isub X0.here hx rfl (hb hby d5_44) rfl k)
        show own_Go p e below PO (s₁.setTop (mkF m 45 #[.val (.ref aB), .val (.int (6 : Int32)), .val (.int (1 : Int32)), .unset] [(.int (4 : Int32)), (.ref aB)]))
        refine own_back ?_ (own_ldB X0 hx hZ e0 VB (j := (4 : Int32)) (v := (.int (own_at xs 4))) ⟨by decide, by decide⟩ (own_getD xs _) (g := (mkF m 45 #[.val (.ref aB), .val (.int (6 : Int32)), .val (.int (1 : Int32)), .unset] [(.int (4 : Int32)), (.ref aB)])) rfl rfl (hb hby d5_45))
        show own_Go p e below PO (s₁.setTop (mkF m 46 #[.val (.ref aB), .val (.int (6 : Int32)), .val (.int (1 : Int32)), .unset] [(.int (own_at xs 4))]))
        refine own_back ?_ (fun t k => XS.bipush X0.here hx rfl (hb hby d5_46) k)
        show own_Go p e below PO (s₁.setTop (mkF m 48 #[.val (.ref aB), .val (.int (6 : Int32)), .val (.int (1 : Int32)), .unset] [(.int (13 : Int32)), (.int (own_at xs 4))]))
        by_cases hc48_5 : (own_at xs 4) = (13 : Int32)
        case pos =>
          refine own_back ?_ (fun t k => XS.icmpNo X0.here hx rfl (hb hby d5_48) rfl (teq hc48_5).2 k)
          show own_Go p e below PO (s₁.setTop (mkF m 51 #[.val (.ref aB), .val (.int (6 : Int32)), .val (.int (1 : Int32)), .unset] []))
          refine own_back ?_ (fun t k => XS.aloadN X0.here hx rfl (hb hby d5_51) rfl rfl k)
          show own_Go p e below PO (s₁.setTop (mkF m 52 #[.val (.ref aB), .val (.int (6 : Int32)), .val (.int (1 : Int32)), .unset] [(.ref aB)]))
          refine own_back ?_ (fun t k => XS.iloadN X0.here hx rfl (hb hby d5_52) rfl k)
          show own_Go p e below PO (s₁.setTop (mkF m 53 #[.val (.ref aB), .val (.int (6 : Int32)), .val (.int (1 : Int32)), .unset] [(.int (6 : Int32)), (.ref aB)]))
          refine own_back ?_ (fun t k => XS.iconst X0.here hx rfl (hb hby d5_53) k)
          show own_Go p e below PO (s₁.setTop (mkF m 54 #[.val (.ref aB), .val (.int (6 : Int32)), .val (.int (1 : Int32)), .unset] [(.int (1 : Int32)), (.int (6 : Int32)), (.ref aB)]))
          refine own_back ?_ (fun t k => XS.isub X0.here hx rfl (hb hby d5_54) rfl k)
          show own_Go p e below PO (s₁.setTop (mkF m 55 #[.val (.ref aB), .val (.int (6 : Int32)), .val (.int (1 : Int32)), .unset] [(.int (5 : Int32)), (.ref aB)]))
          refine own_back ?_ (own_ldB X0 hx hZ e0 VB (j := (5 : Int32)) (v := (.int (own_at xs 5))) ⟨by decide, by decide⟩ (own_getD xs _) (g := (mkF m 55 #[.val (.ref aB), .val (.int (6 : Int32)), .val (.int (1 : Int32)), .unset] [(.int (5 : Int32)), (.ref aB)])) rfl rfl (hb hby d5_55))
          show own_Go p e below PO (s₁.setTop (mkF m 56 #[.val (.ref aB), .val (.int (6 : Int32)), .val (.int (1 : Int32)), .unset] [(.int (own_at xs 5))]))
          refine own_back ?_ (fun t k => XS.bipush X0.here hx rfl (hb hby d5_56) k)
          show own_Go p e below PO (s₁.setTop (mkF m 58 #[.val (.ref aB), .val (.int (6 : Int32)), .val (.int (1 : Int32)), .unset] [(.int (10 : Int32)), (.int (own_at xs 5))]))
          by_cases hc58_6 : (own_at xs 5) = (10 : Int32)
          case pos =>
            refine own_back ?_ (fun t k => XS.icmpNo X0.here hx rfl (hb hby d5_58) rfl (teq hc58_6).2 k)
            show own_Go p e below PO (s₁.setTop (mkF m 61 #[.val (.ref aB), .val (.int (6 : Int32)), .val (.int (1 : Int32)), .unset] []))
            refine own_back ?_ (fun t k => XS.iconst X0.here hx rfl (hb hby d5_61) k)
            show own_Go p e below PO (s₁.setTop (mkF m 62 #[.val (.ref aB), .val (.int (6 : Int32)), .val (.int (1 : Int32)), .unset] [(.int (1 : Int32))]))
            refine own_back ?_ (fun t k => XS.goto X0.here hx rfl (pc0 := 62) (pc' := 66) rfl (hb hby d5_62) (by decide) (by decide) k)
            show own_Go p e below PO (s₁.setTop (mkF m 66 #[.val (.ref aB), .val (.int (6 : Int32)), .val (.int (1 : Int32)), .unset] [(.int (1 : Int32))]))
            refine own_back ?_ (fun t k => XS.istoreN X0.here hx rfl (hb hby d5_66) rfl (l' := #[.val (.ref aB), .val (.int (6 : Int32)), .val (.int (1 : Int32)), .val (.int (1 : Int32))]) rfl k)
            show own_Go p e below PO (s₁.setTop (mkF m 67 #[.val (.ref aB), .val (.int (6 : Int32)), .val (.int (1 : Int32)), .val (.int (1 : Int32))] []))
            refine own_back ?_ (fun t k => XS.iloadN X0.here hx rfl (hb hby d5_67) rfl k)
            show own_Go p e below PO (s₁.setTop (mkF m 68 #[.val (.ref aB), .val (.int (6 : Int32)), .val (.int (1 : Int32)), .val (.int (1 : Int32))] [(.int (1 : Int32))]))
            have hd68_7 : ¬ ((1 : Int32) = (0 : Int32)) := (by decide)
            refine own_back ?_ (fun t k => XS.ifYes X0.here hx rfl (pc0 := 68) (pc' := 75) rfl (hb hby d5_68) rfl ((if0 _ _).trans (feq hd68_7).2) (by decide) (by decide) k)
            show own_Go p e below PO (s₁.setTop (mkF m 75 #[.val (.ref aB), .val (.int (6 : Int32)), .val (.int (1 : Int32)), .val (.int (1 : Int32))] []))
            refine own_back ?_ (fun t k => XS.iconst X0.here hx rfl (hb hby d5_75) k)
            show own_Go p e below PO (s₁.setTop (mkF m 76 #[.val (.ref aB), .val (.int (6 : Int32)), .val (.int (1 : Int32)), .val (.int (1 : Int32))] [(.int (1 : Int32))]))
            refine own_back ?_ (fun t k => XS.goto X0.here hx rfl (pc0 := 76) (pc' := 80) rfl (hb hby d5_76) (by decide) (by decide) k)
            show own_Go p e below PO (s₁.setTop (mkF m 80 #[.val (.ref aB), .val (.int (6 : Int32)), .val (.int (1 : Int32)), .val (.int (1 : Int32))] [(.int (1 : Int32))]))
            refine own_retN X0 hx (t := .boolean) (rest := []) Bd.returns (by decide) (by simp) (hb hby d5_80) e0 (Bd.notSynchronized) ?_ (by decide) (by decide)
            exact ⟨by simp [own_ends, hc7_1, hc17_2, hc38_4, hc48_5, hc58_6], N0, rfl⟩
          refine own_back ?_ (fun t k => XS.icmpYes X0.here hx rfl (pc0 := 58) (pc' := 65) rfl (hb hby d5_58) rfl (feq hc58_6).2 (by decide) (by decide) k)
          show own_Go p e below PO (s₁.setTop (mkF m 65 #[.val (.ref aB), .val (.int (6 : Int32)), .val (.int (1 : Int32)), .unset] []))
          refine own_back ?_ (fun t k => XS.iconst X0.here hx rfl (hb hby d5_65) k)
          show own_Go p e below PO (s₁.setTop (mkF m 66 #[.val (.ref aB), .val (.int (6 : Int32)), .val (.int (1 : Int32)), .unset] [(.int (0 : Int32))]))
          refine own_back ?_ (fun t k => XS.istoreN X0.here hx rfl (hb hby d5_66) rfl (l' := #[.val (.ref aB), .val (.int (6 : Int32)), .val (.int (1 : Int32)), .val (.int (0 : Int32))]) rfl k)
          show own_Go p e below PO (s₁.setTop (mkF m 67 #[.val (.ref aB), .val (.int (6 : Int32)), .val (.int (1 : Int32)), .val (.int (0 : Int32))] []))
          refine own_back ?_ (fun t k => XS.iloadN X0.here hx rfl (hb hby d5_67) rfl k)
          show own_Go p e below PO (s₁.setTop (mkF m 68 #[.val (.ref aB), .val (.int (6 : Int32)), .val (.int (1 : Int32)), .val (.int (0 : Int32))] [(.int (1 : Int32))]))
          have hd68_8 : ¬ ((1 : Int32) = (0 : Int32)) := (by decide)
          refine own_back ?_ (fun t k => XS.ifYes X0.here hx rfl (pc0 := 68) (pc' := 75) rfl (hb hby d5_68) rfl ((if0 _ _).trans (feq hd68_8).2) (by decide) (by decide) k)
          show own_Go p e below PO (s₁.setTop (mkF m 75 #[.val (.ref aB), .val (.int (6 : Int32)), .val (.int (1 : Int32)), .val (.int (0 : Int32))] []))
          refine own_back ?_ (fun t k => XS.iconst X0.here hx rfl (hb hby d5_75) k)
          show own_Go p e below PO (s₁.setTop (mkF m 76 #[.val (.ref aB), .val (.int (6 : Int32)), .val (.int (1 : Int32)), .val (.int (0 : Int32))] [(.int (1 : Int32))]))
          refine own_back ?_ (fun t k => XS.goto X0.here hx rfl (pc0 := 76) (pc' := 80) rfl (hb hby d5_76) (by decide) (by decide) k)
          show own_Go p e below PO (s₁.setTop (mkF m 80 #[.val (.ref aB), .val (.int (6 : Int32)), .val (.int (1 : Int32)), .val (.int (0 : Int32))] [(.int (1 : Int32))]))
          refine own_retN X0 hx (t := .boolean) (rest := []) Bd.returns (by decide) (by simp) (hb hby d5_80) e0 (Bd.notSynchronized) ?_ (by decide) (by decide)
          exact ⟨by simp [own_ends, hc7_1, hc17_2, hc38_4, hc48_5, hc58_6], N0, rfl⟩
        refine own_back ?_ (fun t k => XS.icmpYes X0.here hx rfl (pc0 := 48) (pc' := 65) rfl (hb hby d5_48) rfl (feq hc48_5).2 (by decide) (by decide) k)
        show own_Go p e below PO (s₁.setTop (mkF m 65 #[.val (.ref aB), .val (.int (6 : Int32)), .val (.int (1 : Int32)), .unset] []))
        refine own_back ?_ (fun t k => XS.iconst X0.here hx rfl (hb hby d5_65) k)
        show own_Go p e below PO (s₁.setTop (mkF m 66 #[.val (.ref aB), .val (.int (6 : Int32)), .val (.int (1 : Int32)), .unset] [(.int (0 : Int32))]))
        refine own_back ?_ (fun t k => XS.istoreN X0.here hx rfl (hb hby d5_66) rfl (l' := #[.val (.ref aB), .val (.int (6 : Int32)), .val (.int (1 : Int32)), .val (.int (0 : Int32))]) rfl k)
        show own_Go p e below PO (s₁.setTop (mkF m 67 #[.val (.ref aB), .val (.int (6 : Int32)), .val (.int (1 : Int32)), .val (.int (0 : Int32))] []))
        refine own_back ?_ (fun t k => XS.iloadN X0.here hx rfl (hb hby d5_67) rfl k)
        show own_Go p e below PO (s₁.setTop (mkF m 68 #[.val (.ref aB), .val (.int (6 : Int32)), .val (.int (1 : Int32)), .val (.int (0 : Int32))] [(.int (1 : Int32))]))
        have hd68_9 : ¬ ((1 : Int32) = (0 : Int32)) := (by decide)
        refine own_back ?_ (fun t k => XS.ifYes X0.here hx rfl (pc0 := 68) (pc' := 75) rfl (hb hby d5_68) rfl ((if0 _ _).trans (feq hd68_9).2) (by decide) (by decide) k)
        show own_Go p e below PO (s₁.setTop (mkF m 75 #[.val (.ref aB), .val (.int (6 : Int32)), .val (.int (1 : Int32)), .val (.int (0 : Int32))] []))
        refine own_back ?_ (fun t k => XS.iconst X0.here hx rfl (hb hby d5_75) k)
        show own_Go p e below PO (s₁.setTop (mkF m 76 #[.val (.ref aB), .val (.int (6 : Int32)), .val (.int (1 : Int32)), .val (.int (0 : Int32))] [(.int (1 : Int32))]))
        refine own_back ?_ (fun t k => XS.goto X0.here hx rfl (pc0 := 76) (pc' := 80) rfl (hb hby d5_76) (by decide) (by decide) k)
        show own_Go p e below PO (s₁.setTop (mkF m 80 #[.val (.ref aB), .val (.int (6 : Int32)), .val (.int (1 : Int32)), .val (.int (0 : Int32))] [(.int (1 : Int32))]))
        refine own_retN X0 hx (t := .boolean) (rest := []) Bd.returns (by decide) (by simp) (hb hby d5_80) e0 (Bd.notSynchronized) ?_ (by decide) (by decide)
        exact ⟨by simp [own_ends, hc7_1, hc17_2, hc38_4, hc48_5], N0, rfl⟩
      refine own_back ?_ (fun t k => XS.icmpYes X0.here hx rfl (pc0 := 38) (pc' := 65) rfl (hb hby d5_38) rfl (feq hc38_4).2 (by decide) (by decide) k)
      show own_Go p e below PO (s₁.setTop (mkF m 65 #[.val (.ref aB), .val (.int (6 : Int32)), .val (.int (1 : Int32)), .unset] []))
      refine own_back ?_ (fun t k => XS.iconst X0.here hx rfl (hb hby d5_65) k)
      show own_Go p e below PO (s₁.setTop (mkF m 66 #[.val (.ref aB), .val (.int (6 : Int32)), .val (.int (1 : Int32)), .unset] [(.int (0 : Int32))]))
      refine own_back ?_ (fun t k => XS.istoreN X0.here hx rfl (hb hby d5_66) rfl (l' := #[.val (.ref aB), .val (.int (6 : Int32)), .val (.int (1 : Int32)), .val (.int (0 : Int32))]) rfl k)
      show own_Go p e below PO (s₁.setTop (mkF m 67 #[.val (.ref aB), .val (.int (6 : Int32)), .val (.int (1 : Int32)), .val (.int (0 : Int32))] []))
      refine own_back ?_ (fun t k => XS.iloadN X0.here hx rfl (hb hby d5_67) rfl k)
      show own_Go p e below PO (s₁.setTop (mkF m 68 #[.val (.ref aB), .val (.int (6 : Int32)), .val (.int (1 : Int32)), .val (.int (0 : Int32))] [(.int (1 : Int32))]))
      have hd68_10 : ¬ ((1 : Int32) = (0 : Int32)) := (by decide)
      refine own_back ?_ (fun t k => XS.ifYes X0.here hx rfl (pc0 := 68) (pc' := 75) rfl (hb hby d5_68) rfl ((if0 _ _).trans (feq hd68_10).2) (by decide) (by decide) k)
      show own_Go p e below PO (s₁.setTop (mkF m 75 #[.val (.ref aB), .val (.int (6 : Int32)), .val (.int (1 : Int32)), .val (.int (0 : Int32))] []))
      refine own_back ?_ (fun t k => XS.iconst X0.here hx rfl (hb hby d5_75) k)
      show own_Go p e below PO (s₁.setTop (mkF m 76 #[.val (.ref aB), .val (.int (6 : Int32)), .val (.int (1 : Int32)), .val (.int (0 : Int32))] [(.int (1 : Int32))]))
      refine own_back ?_ (fun t k => XS.goto X0.here hx rfl (pc0 := 76) (pc' := 80) rfl (hb hby d5_76) (by decide) (by decide) k)
      show own_Go p e below PO (s₁.setTop (mkF m 80 #[.val (.ref aB), .val (.int (6 : Int32)), .val (.int (1 : Int32)), .val (.int (0 : Int32))] [(.int (1 : Int32))]))
      refine own_retN X0 hx (t := .boolean) (rest := []) Bd.returns (by decide) (by simp) (hb hby d5_80) e0 (Bd.notSynchronized) ?_ (by decide) (by decide)
      exact ⟨by simp [own_ends, hc7_1, hc17_2, hc38_4], N0, rfl⟩
    refine own_back ?_ (fun t k => XS.icmpYes X0.here hx rfl (pc0 := 17) (pc' := 24) rfl (hb hby d5_17) rfl (feq hc17_2).2 (by decide) (by decide) k)
    show own_Go p e below PO (s₁.setTop (mkF m 24 #[.val (.ref aB), .val (.int (6 : Int32)), .unset, .unset] []))
    refine own_back ?_ (fun t k => XS.iconst X0.here hx rfl (hb hby d5_24) k)
    show own_Go p e below PO (s₁.setTop (mkF m 25 #[.val (.ref aB), .val (.int (6 : Int32)), .unset, .unset] [(.int (0 : Int32))]))
    refine own_back ?_ (fun t k => XS.istoreN X0.here hx rfl (hb hby d5_25) rfl (l' := #[.val (.ref aB), .val (.int (6 : Int32)), .val (.int (0 : Int32)), .unset]) rfl k)
    show own_Go p e below PO (s₁.setTop (mkF m 26 #[.val (.ref aB), .val (.int (6 : Int32)), .val (.int (0 : Int32)), .unset] []))
    refine own_back ?_ (fun t k => XS.iloadN X0.here hx rfl (hb hby d5_26) rfl k)
    show own_Go p e below PO (s₁.setTop (mkF m 27 #[.val (.ref aB), .val (.int (6 : Int32)), .val (.int (0 : Int32)), .unset] [(.int (6 : Int32))]))
    refine own_back ?_ (fun t k => XS.iconst X0.here hx rfl (hb hby d5_27) k)
    show own_Go p e below PO (s₁.setTop (mkF m 28 #[.val (.ref aB), .val (.int (6 : Int32)), .val (.int (0 : Int32)), .unset] [(.int (3 : Int32)), (.int (6 : Int32))]))
    have hd28_11 : ¬ ((6 : Int32) < (3 : Int32)) := (by decide)
    refine own_back ?_ (fun t k => XS.icmpNo X0.here hx rfl (hb hby d5_28) rfl (flt hd28_11).1 k)
    show own_Go p e below PO (s₁.setTop (mkF m 31 #[.val (.ref aB), .val (.int (6 : Int32)), .val (.int (0 : Int32)), .unset] []))
    refine own_back ?_ (fun t k => XS.aloadN X0.here hx rfl (hb hby d5_31) rfl rfl k)
    show own_Go p e below PO (s₁.setTop (mkF m 32 #[.val (.ref aB), .val (.int (6 : Int32)), .val (.int (0 : Int32)), .unset] [(.ref aB)]))
    refine own_back ?_ (fun t k => XS.iloadN X0.here hx rfl (hb hby d5_32) rfl k)
    show own_Go p e below PO (s₁.setTop (mkF m 33 #[.val (.ref aB), .val (.int (6 : Int32)), .val (.int (0 : Int32)), .unset] [(.int (6 : Int32)), (.ref aB)]))
    refine own_back ?_ (fun t k => XS.iconst X0.here hx rfl (hb hby d5_33) k)
    show own_Go p e below PO (s₁.setTop (mkF m 34 #[.val (.ref aB), .val (.int (6 : Int32)), .val (.int (0 : Int32)), .unset] [(.int (3 : Int32)), (.int (6 : Int32)), (.ref aB)]))
    refine own_back ?_ (fun t k => XS.isub X0.here hx rfl (hb hby d5_34) rfl k)
    show own_Go p e below PO (s₁.setTop (mkF m 35 #[.val (.ref aB), .val (.int (6 : Int32)), .val (.int (0 : Int32)), .unset] [(.int (3 : Int32)), (.ref aB)]))
    refine own_back ?_ (own_ldB X0 hx hZ e0 VB (j := (3 : Int32)) (v := (.int (own_at xs 3))) ⟨by decide, by decide⟩ (own_getD xs _) (g := (mkF m 35 #[.val (.ref aB), .val (.int (6 : Int32)), .val (.int (0 : Int32)), .unset] [(.int (3 : Int32)), (.ref aB)])) rfl rfl (hb hby d5_35))
    show own_Go p e below PO (s₁.setTop (mkF m 36 #[.val (.ref aB), .val (.int (6 : Int32)), .val (.int (0 : Int32)), .unset] [(.int (own_at xs 3))]))
    refine own_back ?_ (fun t k => XS.bipush X0.here hx rfl (hb hby d5_36) k)
    show own_Go p e below PO (s₁.setTop (mkF m 38 #[.val (.ref aB), .val (.int (6 : Int32)), .val (.int (0 : Int32)), .unset] [(.int (10 : Int32)), (.int (own_at xs 3))]))
    by_cases hc38_12 : (own_at xs 3) = (10 : Int32)
    case pos =>
      refine own_back ?_ (fun t k => XS.icmpNo X0.here hx rfl (hb hby d5_38) rfl (teq hc38_12).2 k)
      show own_Go p e below PO (s₁.setTop (mkF m 41 #[.val (.ref aB), .val (.int (6 : Int32)), .val (.int (0 : Int32)), .unset] []))
      refine own_back ?_ (fun t k => XS.aloadN X0.here hx rfl (hb hby d5_41) rfl rfl k)
      show own_Go p e below PO (s₁.setTop (mkF m 42 #[.val (.ref aB), .val (.int (6 : Int32)), .val (.int (0 : Int32)), .unset] [(.ref aB)]))
      refine own_back ?_ (fun t k => XS.iloadN X0.here hx rfl (hb hby d5_42) rfl k)
      show own_Go p e below PO (s₁.setTop (mkF m 43 #[.val (.ref aB), .val (.int (6 : Int32)), .val (.int (0 : Int32)), .unset] [(.int (6 : Int32)), (.ref aB)]))
      refine own_back ?_ (fun t k => XS.iconst X0.here hx rfl (hb hby d5_43) k)
      show own_Go p e below PO (s₁.setTop (mkF m 44 #[.val (.ref aB), .val (.int (6 : Int32)), .val (.int (0 : Int32)), .unset] [(.int (2 : Int32)), (.int (6 : Int32)), (.ref aB)]))
      refine own_back ?_ (fun t k => XS.isub X0.here hx rfl (hb hby d5_44) rfl k)
      show own_Go p e below PO (s₁.setTop (mkF m 45 #[.val (.ref aB), .val (.int (6 : Int32)), .val (.int (0 : Int32)), .unset] [(.int (4 : Int32)), (.ref aB)]))
      refine own_back ?_ (own_ldB X0 hx hZ e0 VB (j := (4 : Int32)) (v := (.int (own_at xs 4))) ⟨by decide, by decide⟩ (own_getD xs _) (g := (mkF m 45 #[.val (.ref aB), .val (.int (6 : Int32)), .val (.int (0 : Int32)), .unset] [(.int (4 : Int32)), (.ref aB)])) rfl rfl (hb hby d5_45))
      show own_Go p e below PO (s₁.setTop (mkF m 46 #[.val (.ref aB), .val (.int (6 : Int32)), .val (.int (0 : Int32)), .unset] [(.int (own_at xs 4))]))
      refine own_back ?_ (fun t k => XS.bipush X0.here hx rfl (hb hby d5_46) k)
      show own_Go p e below PO (s₁.setTop (mkF m 48 #[.val (.ref aB), .val (.int (6 : Int32)), .val (.int (0 : Int32)), .unset] [(.int (13 : Int32)), (.int (own_at xs 4))]))
      by_cases hc48_13 : (own_at xs 4) = (13 : Int32)
      case pos =>
        refine own_back ?_ (fun t k => XS.icmpNo X0.here hx rfl (hb hby d5_48) rfl (teq hc48_13).2 k)
        show own_Go p e below PO (s₁.setTop (mkF m 51 #[.val (.ref aB), .val (.int (6 : Int32)), .val (.int (0 : Int32)), .unset] []))
        refine own_back ?_ (fun t k => XS.aloadN X0.here hx rfl (hb hby d5_51) rfl rfl k)
        show own_Go p e below PO (s₁.setTop (mkF m 52 #[.val (.ref aB), .val (.int (6 : Int32)), .val (.int (0 : Int32)), .unset] [(.ref aB)]))
        refine own_back ?_ (fun t k => XS.iloadN X0.here hx rfl (hb hby d5_52) rfl k)
        show own_Go p e below PO (s₁.setTop (mkF m 53 #[.val (.ref aB), .val (.int (6 : Int32)), .val (.int (0 : Int32)), .unset] [(.int (6 : Int32)), (.ref aB)]))
        refine own_back ?_ (fun t k => XS.iconst X0.here hx rfl (hb hby d5_53) k)
        show own_Go p e below PO (s₁.setTop (mkF m 54 #[.val (.ref aB), .val (.int (6 : Int32)), .val (.int (0 : Int32)), .unset] [(.int (1 : Int32)), (.int (6 : Int32)), (.ref aB)]))
        refine own_back ?_ (fun t k => XS.isub X0.here hx rfl (hb hby d5_54) rfl k)
        show own_Go p e below PO (s₁.setTop (mkF m 55 #[.val (.ref aB), .val (.int (6 : Int32)), .val (.int (0 : Int32)), .unset] [(.int (5 : Int32)), (.ref aB)]))
        refine own_back ?_ (own_ldB X0 hx hZ e0 VB (j := (5 : Int32)) (v := (.int (own_at xs 5))) ⟨by decide, by decide⟩ (own_getD xs _) (g := (mkF m 55 #[.val (.ref aB), .val (.int (6 : Int32)), .val (.int (0 : Int32)), .unset] [(.int (5 : Int32)), (.ref aB)])) rfl rfl (hb hby d5_55))
        show own_Go p e below PO (s₁.setTop (mkF m 56 #[.val (.ref aB), .val (.int (6 : Int32)), .val (.int (0 : Int32)), .unset] [(.int (own_at xs 5))]))
        refine own_back ?_ (fun t k => XS.bipush X0.here hx rfl (hb hby d5_56) k)
        show own_Go p e below PO (s₁.setTop (mkF m 58 #[.val (.ref aB), .val (.int (6 : Int32)), .val (.int (0 : Int32)), .unset] [(.int (10 : Int32)), (.int (own_at xs 5))]))
        by_cases hc58_14 : (own_at xs 5) = (10 : Int32)
        case pos =>
          refine own_back ?_ (fun t k => XS.icmpNo X0.here hx rfl (hb hby d5_58) rfl (teq hc58_14).2 k)
          show own_Go p e below PO (s₁.setTop (mkF m 61 #[.val (.ref aB), .val (.int (6 : Int32)), .val (.int (0 : Int32)), .unset] []))
          refine own_back ?_ (fun t k => XS.iconst X0.here hx rfl (hb hby d5_61) k)
          show own_Go p e below PO (s₁.setTop (mkF m 62 #[.val (.ref aB), .val (.int (6 : Int32)), .val (.int (0 : Int32)), .unset] [(.int (1 : Int32))]))
          refine own_back ?_ (fun t k => XS.goto X0.here hx rfl (pc0 := 62) (pc' := 66) rfl (hb hby d5_62) (by decide) (by decide) k)
          show own_Go p e below PO (s₁.setTop (mkF m 66 #[.val (.ref aB), .val (.int (6 : Int32)), .val (.int (0 : Int32)), .unset] [(.int (1 : Int32))]))
          refine own_back ?_ (fun t k => XS.istoreN X0.here hx rfl (hb hby d5_66) rfl (l' := #[.val (.ref aB), .val (.int (6 : Int32)), .val (.int (0 : Int32)), .val (.int (1 : Int32))]) rfl k)
          show own_Go p e below PO (s₁.setTop (mkF m 67 #[.val (.ref aB), .val (.int (6 : Int32)), .val (.int (0 : Int32)), .val (.int (1 : Int32))] []))
          refine own_back ?_ (fun t k => XS.iloadN X0.here hx rfl (hb hby d5_67) rfl k)
          show own_Go p e below PO (s₁.setTop (mkF m 68 #[.val (.ref aB), .val (.int (6 : Int32)), .val (.int (0 : Int32)), .val (.int (1 : Int32))] [(.int (0 : Int32))]))
          refine own_back ?_ (fun t k => XS.ifNo X0.here hx rfl (hb hby d5_68) rfl ((if0 _ _).trans (teq rfl).2) k)
          show own_Go p e below PO (s₁.setTop (mkF m 71 #[.val (.ref aB), .val (.int (6 : Int32)), .val (.int (0 : Int32)), .val (.int (1 : Int32))] []))
          refine own_back ?_ (fun t k => XS.iloadN X0.here hx rfl (hb hby d5_71) rfl k)
          show own_Go p e below PO (s₁.setTop (mkF m 72 #[.val (.ref aB), .val (.int (6 : Int32)), .val (.int (0 : Int32)), .val (.int (1 : Int32))] [(.int (1 : Int32))]))
          have hd72_15 : ¬ ((1 : Int32) = (0 : Int32)) := (by decide)
          refine own_back ?_ (fun t k => XS.ifNo X0.here hx rfl (hb hby d5_72) rfl ((if0 _ _).trans (feq hd72_15).1) k)
          show own_Go p e below PO (s₁.setTop (mkF m 75 #[.val (.ref aB), .val (.int (6 : Int32)), .val (.int (0 : Int32)), .val (.int (1 : Int32))] []))
          refine own_back ?_ (fun t k => XS.iconst X0.here hx rfl (hb hby d5_75) k)
          show own_Go p e below PO (s₁.setTop (mkF m 76 #[.val (.ref aB), .val (.int (6 : Int32)), .val (.int (0 : Int32)), .val (.int (1 : Int32))] [(.int (1 : Int32))]))
          refine own_back ?_ (fun t k => XS.goto X0.here hx rfl (pc0 := 76) (pc' := 80) rfl (hb hby d5_76) (by decide) (by decide) k)
          show own_Go p e below PO (s₁.setTop (mkF m 80 #[.val (.ref aB), .val (.int (6 : Int32)), .val (.int (0 : Int32)), .val (.int (1 : Int32))] [(.int (1 : Int32))]))
          refine own_retN X0 hx (t := .boolean) (rest := []) Bd.returns (by decide) (by simp) (hb hby d5_80) e0 (Bd.notSynchronized) ?_ (by decide) (by decide)
          exact ⟨by simp [own_ends, hc7_1, hc17_2, hc38_12, hc48_13, hc58_14], N0, rfl⟩
        refine own_back ?_ (fun t k => XS.icmpYes X0.here hx rfl (pc0 := 58) (pc' := 65) rfl (hb hby d5_58) rfl (feq hc58_14).2 (by decide) (by decide) k)
        show own_Go p e below PO (s₁.setTop (mkF m 65 #[.val (.ref aB), .val (.int (6 : Int32)), .val (.int (0 : Int32)), .unset] []))
        refine own_back ?_ (fun t k => XS.iconst X0.here hx rfl (hb hby d5_65) k)
        show own_Go p e below PO (s₁.setTop (mkF m 66 #[.val (.ref aB), .val (.int (6 : Int32)), .val (.int (0 : Int32)), .unset] [(.int (0 : Int32))]))
        refine own_back ?_ (fun t k => XS.istoreN X0.here hx rfl (hb hby d5_66) rfl (l' := #[.val (.ref aB), .val (.int (6 : Int32)), .val (.int (0 : Int32)), .val (.int (0 : Int32))]) rfl k)
        show own_Go p e below PO (s₁.setTop (mkF m 67 #[.val (.ref aB), .val (.int (6 : Int32)), .val (.int (0 : Int32)), .val (.int (0 : Int32))] []))
        refine own_back ?_ (fun t k => XS.iloadN X0.here hx rfl (hb hby d5_67) rfl k)
        show own_Go p e below PO (s₁.setTop (mkF m 68 #[.val (.ref aB), .val (.int (6 : Int32)), .val (.int (0 : Int32)), .val (.int (0 : Int32))] [(.int (0 : Int32))]))
        refine own_back ?_ (fun t k => XS.ifNo X0.here hx rfl (hb hby d5_68) rfl ((if0 _ _).trans (teq rfl).2) k)
        show own_Go p e below PO (s₁.setTop (mkF m 71 #[.val (.ref aB), .val (.int (6 : Int32)), .val (.int (0 : Int32)), .val (.int (0 : Int32))] []))
        refine own_back ?_ (fun t k => XS.iloadN X0.here hx rfl (hb hby d5_71) rfl k)
        show own_Go p e below PO (s₁.setTop (mkF m 72 #[.val (.ref aB), .val (.int (6 : Int32)), .val (.int (0 : Int32)), .val (.int (0 : Int32))] [(.int (0 : Int32))]))
        refine own_back ?_ (fun t k => XS.ifYes X0.here hx rfl (pc0 := 72) (pc' := 79) rfl (hb hby d5_72) rfl ((if0 _ _).trans (teq rfl).1) (by decide) (by decide) k)
        show own_Go p e below PO (s₁.setTop (mkF m 79 #[.val (.ref aB), .val (.int (6 : Int32)), .val (.int (0 : Int32)), .val (.int (0 : Int32))] []))
        refine own_back ?_ (fun t k => XS.iconst X0.here hx rfl (hb hby d5_79) k)
        show own_Go p e below PO (s₁.setTop (mkF m 80 #[.val (.ref aB), .val (.int (6 : Int32)), .val (.int (0 : Int32)), .val (.int (0 : Int32))] [(.int (0 : Int32))]))
        refine own_retN X0 hx (t := .boolean) (rest := []) Bd.returns (by decide) (by simp) (hb hby d5_80) e0 (Bd.notSynchronized) ?_ (by decide) (by decide)
        exact ⟨by simp [own_ends, hc7_1, hc17_2, hc38_12, hc48_13, hc58_14], N0, rfl⟩
      refine own_back ?_ (fun t k => XS.icmpYes X0.here hx rfl (pc0 := 48) (pc' := 65) rfl (hb hby d5_48) rfl (feq hc48_13).2 (by decide) (by decide) k)
      show own_Go p e below PO (s₁.setTop (mkF m 65 #[.val (.ref aB), .val (.int (6 : Int32)), .val (.int (0 : Int32)), .unset] []))
      refine own_back ?_ (fun t k => XS.iconst X0.here hx rfl (hb hby d5_65) k)
      show own_Go p e below PO (s₁.setTop (mkF m 66 #[.val (.ref aB), .val (.int (6 : Int32)), .val (.int (0 : Int32)), .unset] [(.int (0 : Int32))]))
      refine own_back ?_ (fun t k => XS.istoreN X0.here hx rfl (hb hby d5_66) rfl (l' := #[.val (.ref aB), .val (.int (6 : Int32)), .val (.int (0 : Int32)), .val (.int (0 : Int32))]) rfl k)
      show own_Go p e below PO (s₁.setTop (mkF m 67 #[.val (.ref aB), .val (.int (6 : Int32)), .val (.int (0 : Int32)), .val (.int (0 : Int32))] []))
      refine own_back ?_ (fun t k => XS.iloadN X0.here hx rfl (hb hby d5_67) rfl k)
      show own_Go p e below PO (s₁.setTop (mkF m 68 #[.val (.ref aB), .val (.int (6 : Int32)), .val (.int (0 : Int32)), .val (.int (0 : Int32))] [(.int (0 : Int32))]))
      refine own_back ?_ (fun t k => XS.ifNo X0.here hx rfl (hb hby d5_68) rfl ((if0 _ _).trans (teq rfl).2) k)
      show own_Go p e below PO (s₁.setTop (mkF m 71 #[.val (.ref aB), .val (.int (6 : Int32)), .val (.int (0 : Int32)), .val (.int (0 : Int32))] []))
      refine own_back ?_ (fun t k => XS.iloadN X0.here hx rfl (hb hby d5_71) rfl k)
      show own_Go p e below PO (s₁.setTop (mkF m 72 #[.val (.ref aB), .val (.int (6 : Int32)), .val (.int (0 : Int32)), .val (.int (0 : Int32))] [(.int (0 : Int32))]))
      refine own_back ?_ (fun t k => XS.ifYes X0.here hx rfl (pc0 := 72) (pc' := 79) rfl (hb hby d5_72) rfl ((if0 _ _).trans (teq rfl).1) (by decide) (by decide) k)
      show own_Go p e below PO (s₁.setTop (mkF m 79 #[.val (.ref aB), .val (.int (6 : Int32)), .val (.int (0 : Int32)), .val (.int (0 : Int32))] []))
      refine own_back ?_ (fun t k => XS.iconst X0.here hx rfl (hb hby d5_79) k)
      show own_Go p e below PO (s₁.setTop (mkF m 80 #[.val (.ref aB), .val (.int (6 : Int32)), .val (.int (0 : Int32)), .val (.int (0 : Int32))] [(.int (0 : Int32))]))
      refine own_retN X0 hx (t := .boolean) (rest := []) Bd.returns (by decide) (by simp) (hb hby d5_80) e0 (Bd.notSynchronized) ?_ (by decide) (by decide)
      exact ⟨by simp [own_ends, hc7_1, hc17_2, hc38_12, hc48_13], N0, rfl⟩
    refine own_back ?_ (fun t k => XS.icmpYes X0.here hx rfl (pc0 := 38) (pc' := 65) rfl (hb hby d5_38) rfl (feq hc38_12).2 (by decide) (by decide) k)
    show own_Go p e below PO (s₁.setTop (mkF m 65 #[.val (.ref aB), .val (.int (6 : Int32)), .val (.int (0 : Int32)), .unset] []))
    refine own_back ?_ (fun t k => XS.iconst X0.here hx rfl (hb hby d5_65) k)
    show own_Go p e below PO (s₁.setTop (mkF m 66 #[.val (.ref aB), .val (.int (6 : Int32)), .val (.int (0 : Int32)), .unset] [(.int (0 : Int32))]))
    refine own_back ?_ (fun t k => XS.istoreN X0.here hx rfl (hb hby d5_66) rfl (l' := #[.val (.ref aB), .val (.int (6 : Int32)), .val (.int (0 : Int32)), .val (.int (0 : Int32))]) rfl k)
    show own_Go p e below PO (s₁.setTop (mkF m 67 #[.val (.ref aB), .val (.int (6 : Int32)), .val (.int (0 : Int32)), .val (.int (0 : Int32))] []))
    refine own_back ?_ (fun t k => XS.iloadN X0.here hx rfl (hb hby d5_67) rfl k)
    show own_Go p e below PO (s₁.setTop (mkF m 68 #[.val (.ref aB), .val (.int (6 : Int32)), .val (.int (0 : Int32)), .val (.int (0 : Int32))] [(.int (0 : Int32))]))
    refine own_back ?_ (fun t k => XS.ifNo X0.here hx rfl (hb hby d5_68) rfl ((if0 _ _).trans (teq rfl).2) k)
    show own_Go p e below PO (s₁.setTop (mkF m 71 #[.val (.ref aB), .val (.int (6 : Int32)), .val (.int (0 : Int32)), .val (.int (0 : Int32))] []))
    refine own_back ?_ (fun t k => XS.iloadN X0.here hx rfl (hb hby d5_71) rfl k)
    show own_Go p e below PO (s₁.setTop (mkF m 72 #[.val (.ref aB), .val (.int (6 : Int32)), .val (.int (0 : Int32)), .val (.int (0 : Int32))] [(.int (0 : Int32))]))
    refine own_back ?_ (fun t k => XS.ifYes X0.here hx rfl (pc0 := 72) (pc' := 79) rfl (hb hby d5_72) rfl ((if0 _ _).trans (teq rfl).1) (by decide) (by decide) k)
    show own_Go p e below PO (s₁.setTop (mkF m 79 #[.val (.ref aB), .val (.int (6 : Int32)), .val (.int (0 : Int32)), .val (.int (0 : Int32))] []))
    refine own_back ?_ (fun t k => XS.iconst X0.here hx rfl (hb hby d5_79) k)
    show own_Go p e below PO (s₁.setTop (mkF m 80 #[.val (.ref aB), .val (.int (6 : Int32)), .val (.int (0 : Int32)), .val (.int (0 : Int32))] [(.int (0 : Int32))]))
    refine own_retN X0 hx (t := .boolean) (rest := []) Bd.returns (by decide) (by simp) (hb hby d5_80) e0 (Bd.notSynchronized) ?_ (by decide) (by decide)
    exact ⟨by simp [own_ends, hc7_1, hc17_2, hc38_12], N0, rfl⟩
  refine own_back ?_ (fun t k => XS.icmpYes X0.here hx rfl (pc0 := 7) (pc' := 24) rfl (hb hby d5_7) rfl (feq hc7_1).2 (by decide) (by decide) k)
  show own_Go p e below PO (s₁.setTop (mkF m 24 #[.val (.ref aB), .val (.int (6 : Int32)), .unset, .unset] []))
  refine own_back ?_ (fun t k => XS.iconst X0.here hx rfl (hb hby d5_24) k)
  show own_Go p e below PO (s₁.setTop (mkF m 25 #[.val (.ref aB), .val (.int (6 : Int32)), .unset, .unset] [(.int (0 : Int32))]))
  refine own_back ?_ (fun t k => XS.istoreN X0.here hx rfl (hb hby d5_25) rfl (l' := #[.val (.ref aB), .val (.int (6 : Int32)), .val (.int (0 : Int32)), .unset]) rfl k)
  show own_Go p e below PO (s₁.setTop (mkF m 26 #[.val (.ref aB), .val (.int (6 : Int32)), .val (.int (0 : Int32)), .unset] []))
  refine own_back ?_ (fun t k => XS.iloadN X0.here hx rfl (hb hby d5_26) rfl k)
  show own_Go p e below PO (s₁.setTop (mkF m 27 #[.val (.ref aB), .val (.int (6 : Int32)), .val (.int (0 : Int32)), .unset] [(.int (6 : Int32))]))
  refine own_back ?_ (fun t k => XS.iconst X0.here hx rfl (hb hby d5_27) k)
  show own_Go p e below PO (s₁.setTop (mkF m 28 #[.val (.ref aB), .val (.int (6 : Int32)), .val (.int (0 : Int32)), .unset] [(.int (3 : Int32)), (.int (6 : Int32))]))
  have hd28_16 : ¬ ((6 : Int32) < (3 : Int32)) := (by decide)
  refine own_back ?_ (fun t k => XS.icmpNo X0.here hx rfl (hb hby d5_28) rfl (flt hd28_16).1 k)
  show own_Go p e below PO (s₁.setTop (mkF m 31 #[.val (.ref aB), .val (.int (6 : Int32)), .val (.int (0 : Int32)), .unset] []))
  refine own_back ?_ (fun t k => XS.aloadN X0.here hx rfl (hb hby d5_31) rfl rfl k)
  show own_Go p e below PO (s₁.setTop (mkF m 32 #[.val (.ref aB), .val (.int (6 : Int32)), .val (.int (0 : Int32)), .unset] [(.ref aB)]))
  refine own_back ?_ (fun t k => XS.iloadN X0.here hx rfl (hb hby d5_32) rfl k)
  show own_Go p e below PO (s₁.setTop (mkF m 33 #[.val (.ref aB), .val (.int (6 : Int32)), .val (.int (0 : Int32)), .unset] [(.int (6 : Int32)), (.ref aB)]))
  refine own_back ?_ (fun t k => XS.iconst X0.here hx rfl (hb hby d5_33) k)
  show own_Go p e below PO (s₁.setTop (mkF m 34 #[.val (.ref aB), .val (.int (6 : Int32)), .val (.int (0 : Int32)), .unset] [(.int (3 : Int32)), (.int (6 : Int32)), (.ref aB)]))
  refine own_back ?_ (fun t k => XS.isub X0.here hx rfl (hb hby d5_34) rfl k)
  show own_Go p e below PO (s₁.setTop (mkF m 35 #[.val (.ref aB), .val (.int (6 : Int32)), .val (.int (0 : Int32)), .unset] [(.int (3 : Int32)), (.ref aB)]))
  refine own_back ?_ (own_ldB X0 hx hZ e0 VB (j := (3 : Int32)) (v := (.int (own_at xs 3))) ⟨by decide, by decide⟩ (own_getD xs _) (g := (mkF m 35 #[.val (.ref aB), .val (.int (6 : Int32)), .val (.int (0 : Int32)), .unset] [(.int (3 : Int32)), (.ref aB)])) rfl rfl (hb hby d5_35))
  show own_Go p e below PO (s₁.setTop (mkF m 36 #[.val (.ref aB), .val (.int (6 : Int32)), .val (.int (0 : Int32)), .unset] [(.int (own_at xs 3))]))
  refine own_back ?_ (fun t k => XS.bipush X0.here hx rfl (hb hby d5_36) k)
  show own_Go p e below PO (s₁.setTop (mkF m 38 #[.val (.ref aB), .val (.int (6 : Int32)), .val (.int (0 : Int32)), .unset] [(.int (10 : Int32)), (.int (own_at xs 3))]))
  by_cases hc38_17 : (own_at xs 3) = (10 : Int32)
  case pos =>
    refine own_back ?_ (fun t k => XS.icmpNo X0.here hx rfl (hb hby d5_38) rfl (teq hc38_17).2 k)
    show own_Go p e below PO (s₁.setTop (mkF m 41 #[.val (.ref aB), .val (.int (6 : Int32)), .val (.int (0 : Int32)), .unset] []))
    refine own_back ?_ (fun t k => XS.aloadN X0.here hx rfl (hb hby d5_41) rfl rfl k)
    show own_Go p e below PO (s₁.setTop (mkF m 42 #[.val (.ref aB), .val (.int (6 : Int32)), .val (.int (0 : Int32)), .unset] [(.ref aB)]))
    refine own_back ?_ (fun t k => XS.iloadN X0.here hx rfl (hb hby d5_42) rfl k)
    show own_Go p e below PO (s₁.setTop (mkF m 43 #[.val (.ref aB), .val (.int (6 : Int32)), .val (.int (0 : Int32)), .unset] [(.int (6 : Int32)), (.ref aB)]))
    refine own_back ?_ (fun t k => XS.iconst X0.here hx rfl (hb hby d5_43) k)
    show own_Go p e below PO (s₁.setTop (mkF m 44 #[.val (.ref aB), .val (.int (6 : Int32)), .val (.int (0 : Int32)), .unset] [(.int (2 : Int32)), (.int (6 : Int32)), (.ref aB)]))
    refine own_back ?_ (fun t k => XS.isub X0.here hx rfl (hb hby d5_44) rfl k)
    show own_Go p e below PO (s₁.setTop (mkF m 45 #[.val (.ref aB), .val (.int (6 : Int32)), .val (.int (0 : Int32)), .unset] [(.int (4 : Int32)), (.ref aB)]))
    refine own_back ?_ (own_ldB X0 hx hZ e0 VB (j := (4 : Int32)) (v := (.int (own_at xs 4))) ⟨by decide, by decide⟩ (own_getD xs _) (g := (mkF m 45 #[.val (.ref aB), .val (.int (6 : Int32)), .val (.int (0 : Int32)), .unset] [(.int (4 : Int32)), (.ref aB)])) rfl rfl (hb hby d5_45))
    show own_Go p e below PO (s₁.setTop (mkF m 46 #[.val (.ref aB), .val (.int (6 : Int32)), .val (.int (0 : Int32)), .unset] [(.int (own_at xs 4))]))
    refine own_back ?_ (fun t k => XS.bipush X0.here hx rfl (hb hby d5_46) k)
    show own_Go p e below PO (s₁.setTop (mkF m 48 #[.val (.ref aB), .val (.int (6 : Int32)), .val (.int (0 : Int32)), .unset] [(.int (13 : Int32)), (.int (own_at xs 4))]))
    by_cases hc48_18 : (own_at xs 4) = (13 : Int32)
    case pos =>
      refine own_back ?_ (fun t k => XS.icmpNo X0.here hx rfl (hb hby d5_48) rfl (teq hc48_18).2 k)
      show own_Go p e below PO (s₁.setTop (mkF m 51 #[.val (.ref aB), .val (.int (6 : Int32)), .val (.int (0 : Int32)), .unset] []))
      refine own_back ?_ (fun t k => XS.aloadN X0.here hx rfl (hb hby d5_51) rfl rfl k)
      show own_Go p e below PO (s₁.setTop (mkF m 52 #[.val (.ref aB), .val (.int (6 : Int32)), .val (.int (0 : Int32)), .unset] [(.ref aB)]))
      refine own_back ?_ (fun t k => XS.iloadN X0.here hx rfl (hb hby d5_52) rfl k)
      show own_Go p e below PO (s₁.setTop (mkF m 53 #[.val (.ref aB), .val (.int (6 : Int32)), .val (.int (0 : Int32)), .unset] [(.int (6 : Int32)), (.ref aB)]))
      refine own_back ?_ (fun t k => XS.iconst X0.here hx rfl (hb hby d5_53) k)
      show own_Go p e below PO (s₁.setTop (mkF m 54 #[.val (.ref aB), .val (.int (6 : Int32)), .val (.int (0 : Int32)), .unset] [(.int (1 : Int32)), (.int (6 : Int32)), (.ref aB)]))
      refine own_back ?_ (fun t k => XS.isub X0.here hx rfl (hb hby d5_54) rfl k)
      show own_Go p e below PO (s₁.setTop (mkF m 55 #[.val (.ref aB), .val (.int (6 : Int32)), .val (.int (0 : Int32)), .unset] [(.int (5 : Int32)), (.ref aB)]))
      refine own_back ?_ (own_ldB X0 hx hZ e0 VB (j := (5 : Int32)) (v := (.int (own_at xs 5))) ⟨by decide, by decide⟩ (own_getD xs _) (g := (mkF m 55 #[.val (.ref aB), .val (.int (6 : Int32)), .val (.int (0 : Int32)), .unset] [(.int (5 : Int32)), (.ref aB)])) rfl rfl (hb hby d5_55))
      show own_Go p e below PO (s₁.setTop (mkF m 56 #[.val (.ref aB), .val (.int (6 : Int32)), .val (.int (0 : Int32)), .unset] [(.int (own_at xs 5))]))
      refine own_back ?_ (fun t k => XS.bipush X0.here hx rfl (hb hby d5_56) k)
      show own_Go p e below PO (s₁.setTop (mkF m 58 #[.val (.ref aB), .val (.int (6 : Int32)), .val (.int (0 : Int32)), .unset] [(.int (10 : Int32)), (.int (own_at xs 5))]))
      by_cases hc58_19 : (own_at xs 5) = (10 : Int32)
      case pos =>
        refine own_back ?_ (fun t k => XS.icmpNo X0.here hx rfl (hb hby d5_58) rfl (teq hc58_19).2 k)
        show own_Go p e below PO (s₁.setTop (mkF m 61 #[.val (.ref aB), .val (.int (6 : Int32)), .val (.int (0 : Int32)), .unset] []))
        refine own_back ?_ (fun t k => XS.iconst X0.here hx rfl (hb hby d5_61) k)
        show own_Go p e below PO (s₁.setTop (mkF m 62 #[.val (.ref aB), .val (.int (6 : Int32)), .val (.int (0 : Int32)), .unset] [(.int (1 : Int32))]))
        refine own_back ?_ (fun t k => XS.goto X0.here hx rfl (pc0 := 62) (pc' := 66) rfl (hb hby d5_62) (by decide) (by decide) k)
        show own_Go p e below PO (s₁.setTop (mkF m 66 #[.val (.ref aB), .val (.int (6 : Int32)), .val (.int (0 : Int32)), .unset] [(.int (1 : Int32))]))
        refine own_back ?_ (fun t k => XS.istoreN X0.here hx rfl (hb hby d5_66) rfl (l' := #[.val (.ref aB), .val (.int (6 : Int32)), .val (.int (0 : Int32)), .val (.int (1 : Int32))]) rfl k)
        show own_Go p e below PO (s₁.setTop (mkF m 67 #[.val (.ref aB), .val (.int (6 : Int32)), .val (.int (0 : Int32)), .val (.int (1 : Int32))] []))
        refine own_back ?_ (fun t k => XS.iloadN X0.here hx rfl (hb hby d5_67) rfl k)
        show own_Go p e below PO (s₁.setTop (mkF m 68 #[.val (.ref aB), .val (.int (6 : Int32)), .val (.int (0 : Int32)), .val (.int (1 : Int32))] [(.int (0 : Int32))]))
        refine own_back ?_ (fun t k => XS.ifNo X0.here hx rfl (hb hby d5_68) rfl ((if0 _ _).trans (teq rfl).2) k)
        show own_Go p e below PO (s₁.setTop (mkF m 71 #[.val (.ref aB), .val (.int (6 : Int32)), .val (.int (0 : Int32)), .val (.int (1 : Int32))] []))
        refine own_back ?_ (fun t k => XS.iloadN X0.here hx rfl (hb hby d5_71) rfl k)
        show own_Go p e below PO (s₁.setTop (mkF m 72 #[.val (.ref aB), .val (.int (6 : Int32)), .val (.int (0 : Int32)), .val (.int (1 : Int32))] [(.int (1 : Int32))]))
        have hd72_20 : ¬ ((1 : Int32) = (0 : Int32)) := (by decide)
        refine own_back ?_ (fun t k => XS.ifNo X0.here hx rfl (hb hby d5_72) rfl ((if0 _ _).trans (feq hd72_20).1) k)
        show own_Go p e below PO (s₁.setTop (mkF m 75 #[.val (.ref aB), .val (.int (6 : Int32)), .val (.int (0 : Int32)), .val (.int (1 : Int32))] []))
        refine own_back ?_ (fun t k => XS.iconst X0.here hx rfl (hb hby d5_75) k)
        show own_Go p e below PO (s₁.setTop (mkF m 76 #[.val (.ref aB), .val (.int (6 : Int32)), .val (.int (0 : Int32)), .val (.int (1 : Int32))] [(.int (1 : Int32))]))
        refine own_back ?_ (fun t k => XS.goto X0.here hx rfl (pc0 := 76) (pc' := 80) rfl (hb hby d5_76) (by decide) (by decide) k)
        show own_Go p e below PO (s₁.setTop (mkF m 80 #[.val (.ref aB), .val (.int (6 : Int32)), .val (.int (0 : Int32)), .val (.int (1 : Int32))] [(.int (1 : Int32))]))
        refine own_retN X0 hx (t := .boolean) (rest := []) Bd.returns (by decide) (by simp) (hb hby d5_80) e0 (Bd.notSynchronized) ?_ (by decide) (by decide)
        exact ⟨by simp [own_ends, hc7_1, hc38_17, hc48_18, hc58_19], N0, rfl⟩
      refine own_back ?_ (fun t k => XS.icmpYes X0.here hx rfl (pc0 := 58) (pc' := 65) rfl (hb hby d5_58) rfl (feq hc58_19).2 (by decide) (by decide) k)
      show own_Go p e below PO (s₁.setTop (mkF m 65 #[.val (.ref aB), .val (.int (6 : Int32)), .val (.int (0 : Int32)), .unset] []))
      refine own_back ?_ (fun t k => XS.iconst X0.here hx rfl (hb hby d5_65) k)
      show own_Go p e below PO (s₁.setTop (mkF m 66 #[.val (.ref aB), .val (.int (6 : Int32)), .val (.int (0 : Int32)), .unset] [(.int (0 : Int32))]))
      refine own_back ?_ (fun t k => XS.istoreN X0.here hx rfl (hb hby d5_66) rfl (l' := #[.val (.ref aB), .val (.int (6 : Int32)), .val (.int (0 : Int32)), .val (.int (0 : Int32))]) rfl k)
      show own_Go p e below PO (s₁.setTop (mkF m 67 #[.val (.ref aB), .val (.int (6 : Int32)), .val (.int (0 : Int32)), .val (.int (0 : Int32))] []))
      refine own_back ?_ (fun t k => XS.iloadN X0.here hx rfl (hb hby d5_67) rfl k)
      show own_Go p e below PO (s₁.setTop (mkF m 68 #[.val (.ref aB), .val (.int (6 : Int32)), .val (.int (0 : Int32)), .val (.int (0 : Int32))] [(.int (0 : Int32))]))
      refine own_back ?_ (fun t k => XS.ifNo X0.here hx rfl (hb hby d5_68) rfl ((if0 _ _).trans (teq rfl).2) k)
      show own_Go p e below PO (s₁.setTop (mkF m 71 #[.val (.ref aB), .val (.int (6 : Int32)), .val (.int (0 : Int32)), .val (.int (0 : Int32))] []))
      refine own_back ?_ (fun t k => XS.iloadN X0.here hx rfl (hb hby d5_71) rfl k)
      show own_Go p e below PO (s₁.setTop (mkF m 72 #[.val (.ref aB), .val (.int (6 : Int32)), .val (.int (0 : Int32)), .val (.int (0 : Int32))] [(.int (0 : Int32))]))
      refine own_back ?_ (fun t k => XS.ifYes X0.here hx rfl (pc0 := 72) (pc' := 79) rfl (hb hby d5_72) rfl ((if0 _ _).trans (teq rfl).1) (by decide) (by decide) k)
      show own_Go p e below PO (s₁.setTop (mkF m 79 #[.val (.ref aB), .val (.int (6 : Int32)), .val (.int (0 : Int32)), .val (.int (0 : Int32))] []))
      refine own_back ?_ (fun t k => XS.iconst X0.here hx rfl (hb hby d5_79) k)
      show own_Go p e below PO (s₁.setTop (mkF m 80 #[.val (.ref aB), .val (.int (6 : Int32)), .val (.int (0 : Int32)), .val (.int (0 : Int32))] [(.int (0 : Int32))]))
      refine own_retN X0 hx (t := .boolean) (rest := []) Bd.returns (by decide) (by simp) (hb hby d5_80) e0 (Bd.notSynchronized) ?_ (by decide) (by decide)
      exact ⟨by simp [own_ends, hc7_1, hc38_17, hc48_18, hc58_19], N0, rfl⟩
    refine own_back ?_ (fun t k => XS.icmpYes X0.here hx rfl (pc0 := 48) (pc' := 65) rfl (hb hby d5_48) rfl (feq hc48_18).2 (by decide) (by decide) k)
    show own_Go p e below PO (s₁.setTop (mkF m 65 #[.val (.ref aB), .val (.int (6 : Int32)), .val (.int (0 : Int32)), .unset] []))
    refine own_back ?_ (fun t k => XS.iconst X0.here hx rfl (hb hby d5_65) k)
    show own_Go p e below PO (s₁.setTop (mkF m 66 #[.val (.ref aB), .val (.int (6 : Int32)), .val (.int (0 : Int32)), .unset] [(.int (0 : Int32))]))
    refine own_back ?_ (fun t k => XS.istoreN X0.here hx rfl (hb hby d5_66) rfl (l' := #[.val (.ref aB), .val (.int (6 : Int32)), .val (.int (0 : Int32)), .val (.int (0 : Int32))]) rfl k)
    show own_Go p e below PO (s₁.setTop (mkF m 67 #[.val (.ref aB), .val (.int (6 : Int32)), .val (.int (0 : Int32)), .val (.int (0 : Int32))] []))
    refine own_back ?_ (fun t k => XS.iloadN X0.here hx rfl (hb hby d5_67) rfl k)
    show own_Go p e below PO (s₁.setTop (mkF m 68 #[.val (.ref aB), .val (.int (6 : Int32)), .val (.int (0 : Int32)), .val (.int (0 : Int32))] [(.int (0 : Int32))]))
    refine own_back ?_ (fun t k => XS.ifNo X0.here hx rfl (hb hby d5_68) rfl ((if0 _ _).trans (teq rfl).2) k)
    show own_Go p e below PO (s₁.setTop (mkF m 71 #[.val (.ref aB), .val (.int (6 : Int32)), .val (.int (0 : Int32)), .val (.int (0 : Int32))] []))
    refine own_back ?_ (fun t k => XS.iloadN X0.here hx rfl (hb hby d5_71) rfl k)
    show own_Go p e below PO (s₁.setTop (mkF m 72 #[.val (.ref aB), .val (.int (6 : Int32)), .val (.int (0 : Int32)), .val (.int (0 : Int32))] [(.int (0 : Int32))]))
    refine own_back ?_ (fun t k => XS.ifYes X0.here hx rfl (pc0 := 72) (pc' := 79) rfl (hb hby d5_72) rfl ((if0 _ _).trans (teq rfl).1) (by decide) (by decide) k)
    show own_Go p e below PO (s₁.setTop (mkF m 79 #[.val (.ref aB), .val (.int (6 : Int32)), .val (.int (0 : Int32)), .val (.int (0 : Int32))] []))
    refine own_back ?_ (fun t k => XS.iconst X0.here hx rfl (hb hby d5_79) k)
    show own_Go p e below PO (s₁.setTop (mkF m 80 #[.val (.ref aB), .val (.int (6 : Int32)), .val (.int (0 : Int32)), .val (.int (0 : Int32))] [(.int (0 : Int32))]))
    refine own_retN X0 hx (t := .boolean) (rest := []) Bd.returns (by decide) (by simp) (hb hby d5_80) e0 (Bd.notSynchronized) ?_ (by decide) (by decide)
    exact ⟨by simp [own_ends, hc7_1, hc38_17, hc48_18], N0, rfl⟩
  refine own_back ?_ (fun t k => XS.icmpYes X0.here hx rfl (pc0 := 38) (pc' := 65) rfl (hb hby d5_38) rfl (feq hc38_17).2 (by decide) (by decide) k)
  show own_Go p e below PO (s₁.setTop (mkF m 65 #[.val (.ref aB), .val (.int (6 : Int32)), .val (.int (0 : Int32)), .unset] []))
  refine own_back ?_ (fun t k => XS.iconst X0.here hx rfl (hb hby d5_65) k)
  show own_Go p e below PO (s₁.setTop (mkF m 66 #[.val (.ref aB), .val (.int (6 : Int32)), .val (.int (0 : Int32)), .unset] [(.int (0 : Int32))]))
  refine own_back ?_ (fun t k => XS.istoreN X0.here hx rfl (hb hby d5_66) rfl (l' := #[.val (.ref aB), .val (.int (6 : Int32)), .val (.int (0 : Int32)), .val (.int (0 : Int32))]) rfl k)
  show own_Go p e below PO (s₁.setTop (mkF m 67 #[.val (.ref aB), .val (.int (6 : Int32)), .val (.int (0 : Int32)), .val (.int (0 : Int32))] []))
  refine own_back ?_ (fun t k => XS.iloadN X0.here hx rfl (hb hby d5_67) rfl k)
  show own_Go p e below PO (s₁.setTop (mkF m 68 #[.val (.ref aB), .val (.int (6 : Int32)), .val (.int (0 : Int32)), .val (.int (0 : Int32))] [(.int (0 : Int32))]))
  refine own_back ?_ (fun t k => XS.ifNo X0.here hx rfl (hb hby d5_68) rfl ((if0 _ _).trans (teq rfl).2) k)
  show own_Go p e below PO (s₁.setTop (mkF m 71 #[.val (.ref aB), .val (.int (6 : Int32)), .val (.int (0 : Int32)), .val (.int (0 : Int32))] []))
  refine own_back ?_ (fun t k => XS.iloadN X0.here hx rfl (hb hby d5_71) rfl k)
  show own_Go p e below PO (s₁.setTop (mkF m 72 #[.val (.ref aB), .val (.int (6 : Int32)), .val (.int (0 : Int32)), .val (.int (0 : Int32))] [(.int (0 : Int32))]))
  refine own_back ?_ (fun t k => XS.ifYes X0.here hx rfl (pc0 := 72) (pc' := 79) rfl (hb hby d5_72) rfl ((if0 _ _).trans (teq rfl).1) (by decide) (by decide) k)
  show own_Go p e below PO (s₁.setTop (mkF m 79 #[.val (.ref aB), .val (.int (6 : Int32)), .val (.int (0 : Int32)), .val (.int (0 : Int32))] []))
  refine own_back ?_ (fun t k => XS.iconst X0.here hx rfl (hb hby d5_79) k)
  show own_Go p e below PO (s₁.setTop (mkF m 80 #[.val (.ref aB), .val (.int (6 : Int32)), .val (.int (0 : Int32)), .val (.int (0 : Int32))] [(.int (0 : Int32))]))
  refine own_retN X0 hx (t := .boolean) (rest := []) Bd.returns (by decide) (by simp) (hb hby d5_80) e0 (Bd.notSynchronized) ?_ (by decide) (by decide)
  exact ⟨by simp [own_ends, hc7_1, hc38_17], N0, rfl⟩
theorem pd_0 : parseMethodDescriptor "([BI)Z" = some ⟨[(.array .byte), .int], some .boolean⟩ := by decide +kernel
theorem d2_0 : decode method_5_code 0 = .ok (.iload_n 1, 1) := by decide +kernel
theorem d2_1 : decode method_5_code 1 = .ok (.iconst 2, 1) := by decide +kernel
theorem d2_2 : decode method_5_code 2 = .ok (.if_icmp .lt 13, 3) := by decide +kernel
theorem d2_5 : decode method_5_code 5 = .ok (.aload_n 0, 1) := by decide +kernel
theorem d2_6 : decode method_5_code 6 = .ok (.iconst 2, 1) := by decide +kernel
theorem d2_7 : decode method_5_code 7 = .ok (.invokestatic 24, 3) := by decide +kernel
theorem d2_10 : decode method_5_code 10 = .ok (.ifCond .eq 5, 3) := by decide +kernel
theorem d2_13 : decode method_5_code 13 = .ok (.iconst 2, 1) := by decide +kernel
theorem d2_14 : decode method_5_code 14 = .ok (.ireturn, 1) := by decide +kernel
theorem d2_15 : decode method_5_code 15 = .ok (.iload_n 1, 1) := by decide +kernel
theorem d2_16 : decode method_5_code 16 = .ok (.iconst 3, 1) := by decide +kernel
theorem d2_17 : decode method_5_code 17 = .ok (.if_icmp .lt 13, 3) := by decide +kernel
theorem d2_20 : decode method_5_code 20 = .ok (.aload_n 0, 1) := by decide +kernel
theorem d2_21 : decode method_5_code 21 = .ok (.iconst 3, 1) := by decide +kernel
theorem d2_22 : decode method_5_code 22 = .ok (.invokestatic 24, 3) := by decide +kernel
theorem d2_25 : decode method_5_code 25 = .ok (.ifCond .eq 5, 3) := by decide +kernel
theorem d2_28 : decode method_5_code 28 = .ok (.iconst 3, 1) := by decide +kernel
theorem d2_29 : decode method_5_code 29 = .ok (.ireturn, 1) := by decide +kernel
theorem d2_30 : decode method_5_code 30 = .ok (.iload_n 1, 1) := by decide +kernel
theorem d2_31 : decode method_5_code 31 = .ok (.iconst 4, 1) := by decide +kernel
theorem d2_32 : decode method_5_code 32 = .ok (.if_icmp .lt 13, 3) := by decide +kernel
theorem d2_35 : decode method_5_code 35 = .ok (.aload_n 0, 1) := by decide +kernel
theorem d2_36 : decode method_5_code 36 = .ok (.iconst 4, 1) := by decide +kernel
theorem d2_37 : decode method_5_code 37 = .ok (.invokestatic 24, 3) := by decide +kernel
theorem d2_40 : decode method_5_code 40 = .ok (.ifCond .eq 5, 3) := by decide +kernel
theorem d2_43 : decode method_5_code 43 = .ok (.iconst 4, 1) := by decide +kernel
theorem d2_44 : decode method_5_code 44 = .ok (.ireturn, 1) := by decide +kernel
theorem d2_45 : decode method_5_code 45 = .ok (.iload_n 1, 1) := by decide +kernel
theorem d2_46 : decode method_5_code 46 = .ok (.iconst 5, 1) := by decide +kernel
theorem d2_47 : decode method_5_code 47 = .ok (.if_icmp .lt 13, 3) := by decide +kernel
theorem d2_50 : decode method_5_code 50 = .ok (.aload_n 0, 1) := by decide +kernel
theorem d2_51 : decode method_5_code 51 = .ok (.iconst 5, 1) := by decide +kernel
theorem d2_52 : decode method_5_code 52 = .ok (.invokestatic 24, 3) := by decide +kernel
theorem d2_55 : decode method_5_code 55 = .ok (.ifCond .eq 5, 3) := by decide +kernel
theorem d2_58 : decode method_5_code 58 = .ok (.iconst 5, 1) := by decide +kernel
theorem d2_59 : decode method_5_code 59 = .ok (.ireturn, 1) := by decide +kernel
theorem d2_60 : decode method_5_code 60 = .ok (.iload_n 1, 1) := by decide +kernel
theorem d2_61 : decode method_5_code 61 = .ok (.bipush 6, 2) := by decide +kernel
theorem d2_63 : decode method_5_code 63 = .ok (.if_icmp .lt 15, 3) := by decide +kernel
theorem d2_66 : decode method_5_code 66 = .ok (.aload_n 0, 1) := by decide +kernel
theorem d2_67 : decode method_5_code 67 = .ok (.bipush 6, 2) := by decide +kernel
theorem d2_69 : decode method_5_code 69 = .ok (.invokestatic 24, 3) := by decide +kernel
theorem d2_72 : decode method_5_code 72 = .ok (.ifCond .eq 6, 3) := by decide +kernel
theorem d2_75 : decode method_5_code 75 = .ok (.bipush 6, 2) := by decide +kernel
theorem d2_77 : decode method_5_code 77 = .ok (.ireturn, 1) := by decide +kernel
theorem d2_78 : decode method_5_code 78 = .ok (.iconst (-1), 1) := by decide +kernel
theorem d2_79 : decode method_5_code 79 = .ok (.ireturn, 1) := by decide +kernel
theorem ef_rm2 (m : MethodId) (x0 : Addr) (x1 : Int32) : entryFrame m #[(.ref x0), (.int x1)] 2 = mkF m 0 #[.val (.ref x0), .val (.int x1)] [] := by first | (simp [entryFrame, mkF, argsToLocals, Value.category]; done) | rfl
def Q_rm2 (xs : List Int32) (pT : Int32) (h0 : Heap) (n0 : Nat) (v : Option Value) (h : Heap) (L : List Loc) : Prop := v = some (.int (own_ref xs pT)) ∧ Fr n0 L ∧ h = h0
set_option maxRecDepth 65536 in
set_option maxHeartbeats 40000000 in
theorem rm2 (l : Launch) (Z : State) (a0 : Array Value) (hw : ∀ d ∈ tables_1, d.before a0 Z = true) (ws : List Jvm.Cond) (aB : Addr) (pT : Int32) (xs : List Int32) (kB : ClassId) (h0 : Heap) (n0 : Nat) (Z0 : n0 ≤ h0.size) (VB : Arv Z h0 aB kB .byte 6 (xs.map Value.int) (.int 0)) :
    MetFree l (⟨"com/example/execd/execd/io/RequestHeadEndPinLaw", "ref", "([BI)I"⟩ : MethodName) (head1 (Jvm.Cond.code (⟨"com/example/execd/execd/io/RequestHeadEndPinLaw", "ref", "([BI)I"⟩ : MethodName) method_5_code 2 (some .int) :: ws) ({ frames := 1, cells := 0, slots := 0, locals := 15 } : Room)) (fun a U => a = #[(.ref aB), (.int pT)] ∧ Z.Warmed39 U.vm ∧ U.heap = h0) (fun _ _ _ _ _ => True) (fun _ U o U' => ∃ v L, o = .returned v ∧ Q_rm2 xs pT h0 n0 v U'.heap L ∧ FrameEnd U o U' L ({ frames := 1, cells := 0, slots := 0, locals := 15 } : Room).cells ({ frames := 1, cells := 0, slots := 0, locals := 15 } : Room).slots) := by
  refine MetFree.of_bodySF (plainFor_of_name pn_0) hisR ?_
  intro p e s m args below meth c s₁ Bd hml0 hP hK
  obtain ⟨rfl, hZ, hh⟩ := hP
  have hx := Bd.exec
  have hby := Bd.bytes
  have hml : c.maxLocals = 2 := hml0
  have hown : s.vm.findClass "com/example/execd/execd/io/RequestHeadEndPinLaw" = some m.cls := findClass_of_methodNamed Bd.named
  have hnm := (name_of_methodNamed Bd.named Bd.method).1
  have X0 : Stand p l e ({ frames := 1, cells := 0, slots := 0, locals := 15 } : Room) s m #[(.ref aB), (.int pT)] below meth c s₁ [] 0 0 := Stand.of_body Bd
  have e0 : s₁.heap = h0 := by rw [← hh, Bd.state]; rfl
  have N0 := Fr.nil n0
  let PO : Outcome → State → Prop := own_PO s (Q_rm2 xs pT h0 n0) 0 0
  show own_Go p e below PO (s₁.setTop (entryFrame m #[(.ref aB), (.int pT)] 2))
  rw [ef_rm2]
  show own_Go p e below PO (s₁.setTop (mkF m 0 #[.val (.ref aB), .val (.int pT)] []))
  refine own_back ?_ (fun t k => XS.iloadN X0.here hx rfl (hb hby d2_0) rfl k)
  show own_Go p e below PO (s₁.setTop (mkF m 1 #[.val (.ref aB), .val (.int pT)] [(.int pT)]))
  refine own_back ?_ (fun t k => XS.iconst X0.here hx rfl (hb hby d2_1) k)
  show own_Go p e below PO (s₁.setTop (mkF m 2 #[.val (.ref aB), .val (.int pT)] [(.int (2 : Int32)), (.int pT)]))
  by_cases hc2_1 : pT < (2 : Int32)
  case pos =>
    refine own_back ?_ (fun t k => XS.icmpYes X0.here hx rfl (pc0 := 2) (pc' := 15) rfl (hb hby d2_2) rfl (tlt hc2_1).1 (by decide) (by decide) k)
    show own_Go p e below PO (s₁.setTop (mkF m 15 #[.val (.ref aB), .val (.int pT)] []))
    refine own_back ?_ (fun t k => XS.iloadN X0.here hx rfl (hb hby d2_15) rfl k)
    show own_Go p e below PO (s₁.setTop (mkF m 16 #[.val (.ref aB), .val (.int pT)] [(.int pT)]))
    refine own_back ?_ (fun t k => XS.iconst X0.here hx rfl (hb hby d2_16) k)
    show own_Go p e below PO (s₁.setTop (mkF m 17 #[.val (.ref aB), .val (.int pT)] [(.int (3 : Int32)), (.int pT)]))
    have hd17_2 : pT < (3 : Int32) := own_tr hc2_1 (by decide)
    refine own_back ?_ (fun t k => XS.icmpYes X0.here hx rfl (pc0 := 17) (pc' := 30) rfl (hb hby d2_17) rfl (tlt hd17_2).1 (by decide) (by decide) k)
    show own_Go p e below PO (s₁.setTop (mkF m 30 #[.val (.ref aB), .val (.int pT)] []))
    refine own_back ?_ (fun t k => XS.iloadN X0.here hx rfl (hb hby d2_30) rfl k)
    show own_Go p e below PO (s₁.setTop (mkF m 31 #[.val (.ref aB), .val (.int pT)] [(.int pT)]))
    refine own_back ?_ (fun t k => XS.iconst X0.here hx rfl (hb hby d2_31) k)
    show own_Go p e below PO (s₁.setTop (mkF m 32 #[.val (.ref aB), .val (.int pT)] [(.int (4 : Int32)), (.int pT)]))
    have hd32_3 : pT < (4 : Int32) := own_tr hc2_1 (by decide)
    refine own_back ?_ (fun t k => XS.icmpYes X0.here hx rfl (pc0 := 32) (pc' := 45) rfl (hb hby d2_32) rfl (tlt hd32_3).1 (by decide) (by decide) k)
    show own_Go p e below PO (s₁.setTop (mkF m 45 #[.val (.ref aB), .val (.int pT)] []))
    refine own_back ?_ (fun t k => XS.iloadN X0.here hx rfl (hb hby d2_45) rfl k)
    show own_Go p e below PO (s₁.setTop (mkF m 46 #[.val (.ref aB), .val (.int pT)] [(.int pT)]))
    refine own_back ?_ (fun t k => XS.iconst X0.here hx rfl (hb hby d2_46) k)
    show own_Go p e below PO (s₁.setTop (mkF m 47 #[.val (.ref aB), .val (.int pT)] [(.int (5 : Int32)), (.int pT)]))
    have hd47_4 : pT < (5 : Int32) := own_tr hc2_1 (by decide)
    refine own_back ?_ (fun t k => XS.icmpYes X0.here hx rfl (pc0 := 47) (pc' := 60) rfl (hb hby d2_47) rfl (tlt hd47_4).1 (by decide) (by decide) k)
    show own_Go p e below PO (s₁.setTop (mkF m 60 #[.val (.ref aB), .val (.int pT)] []))
    refine own_back ?_ (fun t k => XS.iloadN X0.here hx rfl (hb hby d2_60) rfl k)
    show own_Go p e below PO (s₁.setTop (mkF m 61 #[.val (.ref aB), .val (.int pT)] [(.int pT)]))
    refine own_back ?_ (fun t k => XS.bipush X0.here hx rfl (hb hby d2_61) k)
    show own_Go p e below PO (s₁.setTop (mkF m 63 #[.val (.ref aB), .val (.int pT)] [(.int (6 : Int32)), (.int pT)]))
    have hd63_5 : pT < (6 : Int32) := own_tr hc2_1 (by decide)
    refine own_back ?_ (fun t k => XS.icmpYes X0.here hx rfl (pc0 := 63) (pc' := 78) rfl (hb hby d2_63) rfl (tlt hd63_5).1 (by decide) (by decide) k)
    show own_Go p e below PO (s₁.setTop (mkF m 78 #[.val (.ref aB), .val (.int pT)] []))
    refine own_back ?_ (fun t k => XS.iconst X0.here hx rfl (hb hby d2_78) k)
    show own_Go p e below PO (s₁.setTop (mkF m 79 #[.val (.ref aB), .val (.int pT)] [(.int (-1 : Int32))]))
    refine own_retI X0 hx (rest := []) Bd.returns (hb hby d2_79) e0 (Bd.notSynchronized) ?_ (by decide) (by decide)
    exact ⟨by simp [own_ref, hc2_1, hd17_2, hd32_3, hd47_4, hd63_5], N0, rfl⟩
  refine own_back ?_ (fun t k => XS.icmpNo X0.here hx rfl (hb hby d2_2) rfl (flt hc2_1).1 k)
  show own_Go p e below PO (s₁.setTop (mkF m 5 #[.val (.ref aB), .val (.int pT)] []))
  refine own_back ?_ (fun t k => XS.aloadN X0.here hx rfl (hb hby d2_5) rfl rfl k)
  show own_Go p e below PO (s₁.setTop (mkF m 6 #[.val (.ref aB), .val (.int pT)] [(.ref aB)]))
  refine own_back ?_ (fun t k => XS.iconst X0.here hx rfl (hb hby d2_6) k)
  show own_Go p e below PO (s₁.setTop (mkF m 7 #[.val (.ref aB), .val (.int pT)] [(.int (2 : Int32)), (.ref aB)]))
  obtain ⟨_, _, ⟨T6, L6, k6, n6⟩, -, X6, ⟨Lc6, hQ6, l6, y6, z6⟩, st6⟩ := Jvm.LawKit.callS X0 hx (y := (⟨"com/example/execd/execd/io/RequestHeadEndPinLaw", "endsAt", "([BI)Z"⟩ : MethodName)) hown (mvT hZ (hw _ (List.mem_of_getElem? (i := 17) rfl))) (mvT hZ (hw _ (List.mem_of_getElem? (i := 18) rfl))) (mvT hZ (hw _ (List.mem_of_getElem? (i := 3) rfl))) (mvT hZ (hw _ (List.mem_of_getElem? (i := 19) rfl))) (by decide) (backOf (W := 0) (rm5_2 l Z a0 hw [] aB xs kB h0 n0 Z0 VB) hZ (hw _ (List.mem_of_getElem? (i := 19) rfl)) (hw _ (List.mem_of_getElem? (i := 3) rfl)) (by decide) (by decide)) (g := (mkF m 7 #[.val (.ref aB), .val (.int pT)] [(.int (2 : Int32)), (.ref aB)])) rfl (by rw [hml]; rfl) (argsL := [(.ref aB), (.int (2 : Int32))]) (rest := []) (lenOf pd_0 rfl) rfl (by show 2 * 0 + _ ≤ _; exact Nat.le_of_eq rfl) (hb hby d2_7) (fun _ _ => ⟨rfl, e0, (by decide : 0 + 0 ≤ _), (by decide : 0 + 0 ≤ _)⟩)
  dsimp only [Pt.U, Pt.locs, Pt.cells, Pt.slots] at X6 l6 y6 z6 st6 hQ6
  subst l6 y6 z6
  obtain ⟨rfl, N6q, e6⟩ := hQ6
  have N6 := Fr.app N0 N6q
  refine own_back ?_ st6
  show own_Go p e below PO (T6.setTop (mkF m 10 #[.val (.ref aB), .val (.int pT)] [(.int (own_ends xs 2))]))
  by_cases hc10_7 : (own_ends xs 2) = (0 : Int32)
  case pos =>
    refine own_back ?_ (fun t k => XS.ifYes X6.here hx rfl (pc0 := 10) (pc' := 15) rfl (hb hby d2_10) rfl ((if0 _ _).trans (teq hc10_7).1) (by decide) (by decide) k)
    show own_Go p e below PO (T6.setTop (mkF m 15 #[.val (.ref aB), .val (.int pT)] []))
    refine own_back ?_ (fun t k => XS.iloadN X6.here hx rfl (hb hby d2_15) rfl k)
    show own_Go p e below PO (T6.setTop (mkF m 16 #[.val (.ref aB), .val (.int pT)] [(.int pT)]))
    refine own_back ?_ (fun t k => XS.iconst X6.here hx rfl (hb hby d2_16) k)
    show own_Go p e below PO (T6.setTop (mkF m 17 #[.val (.ref aB), .val (.int pT)] [(.int (3 : Int32)), (.int pT)]))
    by_cases hc17_8 : pT < (3 : Int32)
    case pos =>
      refine own_back ?_ (fun t k => XS.icmpYes X6.here hx rfl (pc0 := 17) (pc' := 30) rfl (hb hby d2_17) rfl (tlt hc17_8).1 (by decide) (by decide) k)
      show own_Go p e below PO (T6.setTop (mkF m 30 #[.val (.ref aB), .val (.int pT)] []))
      refine own_back ?_ (fun t k => XS.iloadN X6.here hx rfl (hb hby d2_30) rfl k)
      show own_Go p e below PO (T6.setTop (mkF m 31 #[.val (.ref aB), .val (.int pT)] [(.int pT)]))
      refine own_back ?_ (fun t k => XS.iconst X6.here hx rfl (hb hby d2_31) k)
      show own_Go p e below PO (T6.setTop (mkF m 32 #[.val (.ref aB), .val (.int pT)] [(.int (4 : Int32)), (.int pT)]))
      have hd32_9 : pT < (4 : Int32) := own_tr hc17_8 (by decide)
      refine own_back ?_ (fun t k => XS.icmpYes X6.here hx rfl (pc0 := 32) (pc' := 45) rfl (hb hby d2_32) rfl (tlt hd32_9).1 (by decide) (by decide) k)
      show own_Go p e below PO (T6.setTop (mkF m 45 #[.val (.ref aB), .val (.int pT)] []))
      refine own_back ?_ (fun t k => XS.iloadN X6.here hx rfl (hb hby d2_45) rfl k)
      show own_Go p e below PO (T6.setTop (mkF m 46 #[.val (.ref aB), .val (.int pT)] [(.int pT)]))
      refine own_back ?_ (fun t k => XS.iconst X6.here hx rfl (hb hby d2_46) k)
      show own_Go p e below PO (T6.setTop (mkF m 47 #[.val (.ref aB), .val (.int pT)] [(.int (5 : Int32)), (.int pT)]))
      have hd47_10 : pT < (5 : Int32) := own_tr hc17_8 (by decide)
      refine own_back ?_ (fun t k => XS.icmpYes X6.here hx rfl (pc0 := 47) (pc' := 60) rfl (hb hby d2_47) rfl (tlt hd47_10).1 (by decide) (by decide) k)
      show own_Go p e below PO (T6.setTop (mkF m 60 #[.val (.ref aB), .val (.int pT)] []))
      refine own_back ?_ (fun t k => XS.iloadN X6.here hx rfl (hb hby d2_60) rfl k)
      show own_Go p e below PO (T6.setTop (mkF m 61 #[.val (.ref aB), .val (.int pT)] [(.int pT)]))
      refine own_back ?_ (fun t k => XS.bipush X6.here hx rfl (hb hby d2_61) k)
      show own_Go p e below PO (T6.setTop (mkF m 63 #[.val (.ref aB), .val (.int pT)] [(.int (6 : Int32)), (.int pT)]))
      have hd63_11 : pT < (6 : Int32) := own_tr hc17_8 (by decide)
      refine own_back ?_ (fun t k => XS.icmpYes X6.here hx rfl (pc0 := 63) (pc' := 78) rfl (hb hby d2_63) rfl (tlt hd63_11).1 (by decide) (by decide) k)
      show own_Go p e below PO (T6.setTop (mkF m 78 #[.val (.ref aB), .val (.int pT)] []))
      refine own_back ?_ (fun t k => XS.iconst X6.here hx rfl (hb hby d2_78) k)
      show own_Go p e below PO (T6.setTop (mkF m 79 #[.val (.ref aB), .val (.int pT)] [(.int (-1 : Int32))]))
      refine own_retI X6 hx (rest := []) Bd.returns (hb hby d2_79) e6 (Bd.notSynchronized) ?_ (by decide) (by decide)
      exact ⟨by simp [own_ref, hc2_1, hc10_7, hc17_8, hd32_9, hd47_10, hd63_11], N6, rfl⟩
    refine own_back ?_ (fun t k => XS.icmpNo X6.here hx rfl (hb hby d2_17) rfl (flt hc17_8).1 k)
    show own_Go p e below PO (T6.setTop (mkF m 20 #[.val (.ref aB), .val (.int pT)] []))
    refine own_back ?_ (fun t k => XS.aloadN X6.here hx rfl (hb hby d2_20) rfl rfl k)
    show own_Go p e below PO (T6.setTop (mkF m 21 #[.val (.ref aB), .val (.int pT)] [(.ref aB)]))
    refine own_back ?_ (fun t k => XS.iconst X6.here hx rfl (hb hby d2_21) k)
    show own_Go p e below PO (T6.setTop (mkF m 22 #[.val (.ref aB), .val (.int pT)] [(.int (3 : Int32)), (.ref aB)]))
    obtain ⟨_, _, ⟨T12, L12, k12, n12⟩, -, X12, ⟨Lc12, hQ12, l12, y12, z12⟩, st12⟩ := Jvm.LawKit.callS X6 hx (y := (⟨"com/example/execd/execd/io/RequestHeadEndPinLaw", "endsAt", "([BI)Z"⟩ : MethodName)) hown (mvT hZ (hw _ (List.mem_of_getElem? (i := 17) rfl))) (mvT hZ (hw _ (List.mem_of_getElem? (i := 18) rfl))) (mvT hZ (hw _ (List.mem_of_getElem? (i := 3) rfl))) (mvT hZ (hw _ (List.mem_of_getElem? (i := 19) rfl))) (by decide) (backOf (W := 0) (rm5_3 l Z a0 hw [] aB xs kB h0 n0 Z0 VB) hZ (hw _ (List.mem_of_getElem? (i := 19) rfl)) (hw _ (List.mem_of_getElem? (i := 3) rfl)) (by decide) (by decide)) (g := (mkF m 22 #[.val (.ref aB), .val (.int pT)] [(.int (3 : Int32)), (.ref aB)])) rfl (by rw [hml]; rfl) (argsL := [(.ref aB), (.int (3 : Int32))]) (rest := []) (lenOf pd_0 rfl) rfl (by show 2 * 0 + _ ≤ _; exact Nat.le_of_eq rfl) (hb hby d2_22) (fun _ _ => ⟨rfl, e6, (by decide : 0 + 0 ≤ _), (by decide : 0 + 0 ≤ _)⟩)
    dsimp only [Pt.U, Pt.locs, Pt.cells, Pt.slots] at X12 l12 y12 z12 st12 hQ12
    subst l12 y12 z12
    obtain ⟨rfl, N12q, e12⟩ := hQ12
    have N12 := Fr.app N6 N12q
    refine own_back ?_ st12
    show own_Go p e below PO (T12.setTop (mkF m 25 #[.val (.ref aB), .val (.int pT)] [(.int (own_ends xs 3))]))
    by_cases hc25_13 : (own_ends xs 3) = (0 : Int32)
    case pos =>
      refine own_back ?_ (fun t k => XS.ifYes X12.here hx rfl (pc0 := 25) (pc' := 30) rfl (hb hby d2_25) rfl ((if0 _ _).trans (teq hc25_13).1) (by decide) (by decide) k)
      show own_Go p e below PO (T12.setTop (mkF m 30 #[.val (.ref aB), .val (.int pT)] []))
      refine own_back ?_ (fun t k => XS.iloadN X12.here hx rfl (hb hby d2_30) rfl k)
      show own_Go p e below PO (T12.setTop (mkF m 31 #[.val (.ref aB), .val (.int pT)] [(.int pT)]))
      refine own_back ?_ (fun t k => XS.iconst X12.here hx rfl (hb hby d2_31) k)
      show own_Go p e below PO (T12.setTop (mkF m 32 #[.val (.ref aB), .val (.int pT)] [(.int (4 : Int32)), (.int pT)]))
      by_cases hc32_14 : pT < (4 : Int32)
      case pos =>
        refine own_back ?_ (fun t k => XS.icmpYes X12.here hx rfl (pc0 := 32) (pc' := 45) rfl (hb hby d2_32) rfl (tlt hc32_14).1 (by decide) (by decide) k)
        show own_Go p e below PO (T12.setTop (mkF m 45 #[.val (.ref aB), .val (.int pT)] []))
        refine own_back ?_ (fun t k => XS.iloadN X12.here hx rfl (hb hby d2_45) rfl k)
        show own_Go p e below PO (T12.setTop (mkF m 46 #[.val (.ref aB), .val (.int pT)] [(.int pT)]))
        refine own_back ?_ (fun t k => XS.iconst X12.here hx rfl (hb hby d2_46) k)
        show own_Go p e below PO (T12.setTop (mkF m 47 #[.val (.ref aB), .val (.int pT)] [(.int (5 : Int32)), (.int pT)]))
        have hd47_15 : pT < (5 : Int32) := own_tr hc32_14 (by decide)
        refine own_back ?_ (fun t k => XS.icmpYes X12.here hx rfl (pc0 := 47) (pc' := 60) rfl (hb hby d2_47) rfl (tlt hd47_15).1 (by decide) (by decide) k)
        show own_Go p e below PO (T12.setTop (mkF m 60 #[.val (.ref aB), .val (.int pT)] []))
        refine own_back ?_ (fun t k => XS.iloadN X12.here hx rfl (hb hby d2_60) rfl k)
        show own_Go p e below PO (T12.setTop (mkF m 61 #[.val (.ref aB), .val (.int pT)] [(.int pT)]))
        refine own_back ?_ (fun t k => XS.bipush X12.here hx rfl (hb hby d2_61) k)
        show own_Go p e below PO (T12.setTop (mkF m 63 #[.val (.ref aB), .val (.int pT)] [(.int (6 : Int32)), (.int pT)]))
        have hd63_16 : pT < (6 : Int32) := own_tr hc32_14 (by decide)
        refine own_back ?_ (fun t k => XS.icmpYes X12.here hx rfl (pc0 := 63) (pc' := 78) rfl (hb hby d2_63) rfl (tlt hd63_16).1 (by decide) (by decide) k)
        show own_Go p e below PO (T12.setTop (mkF m 78 #[.val (.ref aB), .val (.int pT)] []))
        refine own_back ?_ (fun t k => XS.iconst X12.here hx rfl (hb hby d2_78) k)
        show own_Go p e below PO (T12.setTop (mkF m 79 #[.val (.ref aB), .val (.int pT)] [(.int (-1 : Int32))]))
        refine own_retI X12 hx (rest := []) Bd.returns (hb hby d2_79) e12 (Bd.notSynchronized) ?_ (by decide) (by decide)
        exact ⟨by simp [own_ref, hc2_1, hc10_7, hc17_8, hc25_13, hc32_14, hd47_15, hd63_16], N12, rfl⟩
      refine own_back ?_ (fun t k => XS.icmpNo X12.here hx rfl (hb hby d2_32) rfl (flt hc32_14).1 k)
      show own_Go p e below PO (T12.setTop (mkF m 35 #[.val (.ref aB), .val (.int pT)] []))
      refine own_back ?_ (fun t k => XS.aloadN X12.here hx rfl (hb hby d2_35) rfl rfl k)
      show own_Go p e below PO (T12.setTop (mkF m 36 #[.val (.ref aB), .val (.int pT)] [(.ref aB)]))
      refine own_back ?_ (fun t k => XS.iconst X12.here hx rfl (hb hby d2_36) k)
      show own_Go p e below PO (T12.setTop (mkF m 37 #[.val (.ref aB), .val (.int pT)] [(.int (4 : Int32)), (.ref aB)]))
      obtain ⟨_, _, ⟨T17, L17, k17, n17⟩, -, X17, ⟨Lc17, hQ17, l17, y17, z17⟩, st17⟩ := Jvm.LawKit.callS X12 hx (y := (⟨"com/example/execd/execd/io/RequestHeadEndPinLaw", "endsAt", "([BI)Z"⟩ : MethodName)) hown (mvT hZ (hw _ (List.mem_of_getElem? (i := 17) rfl))) (mvT hZ (hw _ (List.mem_of_getElem? (i := 18) rfl))) (mvT hZ (hw _ (List.mem_of_getElem? (i := 3) rfl))) (mvT hZ (hw _ (List.mem_of_getElem? (i := 19) rfl))) (by decide) (backOf (W := 0) (rm5_4 l Z a0 hw [] aB xs kB h0 n0 Z0 VB) hZ (hw _ (List.mem_of_getElem? (i := 19) rfl)) (hw _ (List.mem_of_getElem? (i := 3) rfl)) (by decide) (by decide)) (g := (mkF m 37 #[.val (.ref aB), .val (.int pT)] [(.int (4 : Int32)), (.ref aB)])) rfl (by rw [hml]; rfl) (argsL := [(.ref aB), (.int (4 : Int32))]) (rest := []) (lenOf pd_0 rfl) rfl (by show 2 * 0 + _ ≤ _; exact Nat.le_of_eq rfl) (hb hby d2_37) (fun _ _ => ⟨rfl, e12, (by decide : 0 + 0 ≤ _), (by decide : 0 + 0 ≤ _)⟩)
      dsimp only [Pt.U, Pt.locs, Pt.cells, Pt.slots] at X17 l17 y17 z17 st17 hQ17
      subst l17 y17 z17
      obtain ⟨rfl, N17q, e17⟩ := hQ17
      have N17 := Fr.app N12 N17q
      refine own_back ?_ st17
      show own_Go p e below PO (T17.setTop (mkF m 40 #[.val (.ref aB), .val (.int pT)] [(.int (own_ends xs 4))]))
      by_cases hc40_18 : (own_ends xs 4) = (0 : Int32)
      case pos =>
        refine own_back ?_ (fun t k => XS.ifYes X17.here hx rfl (pc0 := 40) (pc' := 45) rfl (hb hby d2_40) rfl ((if0 _ _).trans (teq hc40_18).1) (by decide) (by decide) k)
        show own_Go p e below PO (T17.setTop (mkF m 45 #[.val (.ref aB), .val (.int pT)] []))
        refine own_back ?_ (fun t k => XS.iloadN X17.here hx rfl (hb hby d2_45) rfl k)
        show own_Go p e below PO (T17.setTop (mkF m 46 #[.val (.ref aB), .val (.int pT)] [(.int pT)]))
        refine own_back ?_ (fun t k => XS.iconst X17.here hx rfl (hb hby d2_46) k)
        show own_Go p e below PO (T17.setTop (mkF m 47 #[.val (.ref aB), .val (.int pT)] [(.int (5 : Int32)), (.int pT)]))
        by_cases hc47_19 : pT < (5 : Int32)
        case pos =>
          refine own_back ?_ (fun t k => XS.icmpYes X17.here hx rfl (pc0 := 47) (pc' := 60) rfl (hb hby d2_47) rfl (tlt hc47_19).1 (by decide) (by decide) k)
          show own_Go p e below PO (T17.setTop (mkF m 60 #[.val (.ref aB), .val (.int pT)] []))
          refine own_back ?_ (fun t k => XS.iloadN X17.here hx rfl (hb hby d2_60) rfl k)
          show own_Go p e below PO (T17.setTop (mkF m 61 #[.val (.ref aB), .val (.int pT)] [(.int pT)]))
          refine own_back ?_ (fun t k => XS.bipush X17.here hx rfl (hb hby d2_61) k)
          show own_Go p e below PO (T17.setTop (mkF m 63 #[.val (.ref aB), .val (.int pT)] [(.int (6 : Int32)), (.int pT)]))
          have hd63_20 : pT < (6 : Int32) := own_tr hc47_19 (by decide)
          refine own_back ?_ (fun t k => XS.icmpYes X17.here hx rfl (pc0 := 63) (pc' := 78) rfl (hb hby d2_63) rfl (tlt hd63_20).1 (by decide) (by decide) k)
          show own_Go p e below PO (T17.setTop (mkF m 78 #[.val (.ref aB), .val (.int pT)] []))
          refine own_back ?_ (fun t k => XS.iconst X17.here hx rfl (hb hby d2_78) k)
          show own_Go p e below PO (T17.setTop (mkF m 79 #[.val (.ref aB), .val (.int pT)] [(.int (-1 : Int32))]))
          refine own_retI X17 hx (rest := []) Bd.returns (hb hby d2_79) e17 (Bd.notSynchronized) ?_ (by decide) (by decide)
          exact ⟨by simp [own_ref, hc2_1, hc10_7, hc17_8, hc25_13, hc32_14, hc40_18, hc47_19, hd63_20], N17, rfl⟩
        refine own_back ?_ (fun t k => XS.icmpNo X17.here hx rfl (hb hby d2_47) rfl (flt hc47_19).1 k)
        show own_Go p e below PO (T17.setTop (mkF m 50 #[.val (.ref aB), .val (.int pT)] []))
        refine own_back ?_ (fun t k => XS.aloadN X17.here hx rfl (hb hby d2_50) rfl rfl k)
        show own_Go p e below PO (T17.setTop (mkF m 51 #[.val (.ref aB), .val (.int pT)] [(.ref aB)]))
        refine own_back ?_ (fun t k => XS.iconst X17.here hx rfl (hb hby d2_51) k)
        show own_Go p e below PO (T17.setTop (mkF m 52 #[.val (.ref aB), .val (.int pT)] [(.int (5 : Int32)), (.ref aB)]))
        obtain ⟨_, _, ⟨T21, L21, k21, n21⟩, -, X21, ⟨Lc21, hQ21, l21, y21, z21⟩, st21⟩ := Jvm.LawKit.callS X17 hx (y := (⟨"com/example/execd/execd/io/RequestHeadEndPinLaw", "endsAt", "([BI)Z"⟩ : MethodName)) hown (mvT hZ (hw _ (List.mem_of_getElem? (i := 17) rfl))) (mvT hZ (hw _ (List.mem_of_getElem? (i := 18) rfl))) (mvT hZ (hw _ (List.mem_of_getElem? (i := 3) rfl))) (mvT hZ (hw _ (List.mem_of_getElem? (i := 19) rfl))) (by decide) (backOf (W := 0) (rm5_5 l Z a0 hw [] aB xs kB h0 n0 Z0 VB) hZ (hw _ (List.mem_of_getElem? (i := 19) rfl)) (hw _ (List.mem_of_getElem? (i := 3) rfl)) (by decide) (by decide)) (g := (mkF m 52 #[.val (.ref aB), .val (.int pT)] [(.int (5 : Int32)), (.ref aB)])) rfl (by rw [hml]; rfl) (argsL := [(.ref aB), (.int (5 : Int32))]) (rest := []) (lenOf pd_0 rfl) rfl (by show 2 * 0 + _ ≤ _; exact Nat.le_of_eq rfl) (hb hby d2_52) (fun _ _ => ⟨rfl, e17, (by decide : 0 + 0 ≤ _), (by decide : 0 + 0 ≤ _)⟩)
        dsimp only [Pt.U, Pt.locs, Pt.cells, Pt.slots] at X21 l21 y21 z21 st21 hQ21
        subst l21 y21 z21
        obtain ⟨rfl, N21q, e21⟩ := hQ21
        have N21 := Fr.app N17 N21q
        refine own_back ?_ st21
        show own_Go p e below PO (T21.setTop (mkF m 55 #[.val (.ref aB), .val (.int pT)] [(.int (own_ends xs 5))]))
        by_cases hc55_22 : (own_ends xs 5) = (0 : Int32)
        case pos =>
          refine own_back ?_ (fun t k => XS.ifYes X21.here hx rfl (pc0 := 55) (pc' := 60) rfl (hb hby d2_55) rfl ((if0 _ _).trans (teq hc55_22).1) (by decide) (by decide) k)
          show own_Go p e below PO (T21.setTop (mkF m 60 #[.val (.ref aB), .val (.int pT)] []))
          refine own_back ?_ (fun t k => XS.iloadN X21.here hx rfl (hb hby d2_60) rfl k)
          show own_Go p e below PO (T21.setTop (mkF m 61 #[.val (.ref aB), .val (.int pT)] [(.int pT)]))
          refine own_back ?_ (fun t k => XS.bipush X21.here hx rfl (hb hby d2_61) k)
          show own_Go p e below PO (T21.setTop (mkF m 63 #[.val (.ref aB), .val (.int pT)] [(.int (6 : Int32)), (.int pT)]))
          by_cases hc63_23 : pT < (6 : Int32)
          case pos =>
            refine own_back ?_ (fun t k => XS.icmpYes X21.here hx rfl (pc0 := 63) (pc' := 78) rfl (hb hby d2_63) rfl (tlt hc63_23).1 (by decide) (by decide) k)
            show own_Go p e below PO (T21.setTop (mkF m 78 #[.val (.ref aB), .val (.int pT)] []))
            refine own_back ?_ (fun t k => XS.iconst X21.here hx rfl (hb hby d2_78) k)
            show own_Go p e below PO (T21.setTop (mkF m 79 #[.val (.ref aB), .val (.int pT)] [(.int (-1 : Int32))]))
            refine own_retI X21 hx (rest := []) Bd.returns (hb hby d2_79) e21 (Bd.notSynchronized) ?_ (by decide) (by decide)
            exact ⟨by simp [own_ref, hc2_1, hc10_7, hc17_8, hc25_13, hc32_14, hc40_18, hc47_19, hc55_22, hc63_23], N21, rfl⟩
          refine own_back ?_ (fun t k => XS.icmpNo X21.here hx rfl (hb hby d2_63) rfl (flt hc63_23).1 k)
          show own_Go p e below PO (T21.setTop (mkF m 66 #[.val (.ref aB), .val (.int pT)] []))
          refine own_back ?_ (fun t k => XS.aloadN X21.here hx rfl (hb hby d2_66) rfl rfl k)
          show own_Go p e below PO (T21.setTop (mkF m 67 #[.val (.ref aB), .val (.int pT)] [(.ref aB)]))
          refine own_back ?_ (fun t k => XS.bipush X21.here hx rfl (hb hby d2_67) k)
          show own_Go p e below PO (T21.setTop (mkF m 69 #[.val (.ref aB), .val (.int pT)] [(.int (6 : Int32)), (.ref aB)]))
          obtain ⟨_, _, ⟨T24, L24, k24, n24⟩, -, X24, ⟨Lc24, hQ24, l24, y24, z24⟩, st24⟩ := Jvm.LawKit.callS X21 hx (y := (⟨"com/example/execd/execd/io/RequestHeadEndPinLaw", "endsAt", "([BI)Z"⟩ : MethodName)) hown (mvT hZ (hw _ (List.mem_of_getElem? (i := 17) rfl))) (mvT hZ (hw _ (List.mem_of_getElem? (i := 18) rfl))) (mvT hZ (hw _ (List.mem_of_getElem? (i := 3) rfl))) (mvT hZ (hw _ (List.mem_of_getElem? (i := 19) rfl))) (by decide) (backOf (W := 0) (rm5_6 l Z a0 hw [] aB xs kB h0 n0 Z0 VB) hZ (hw _ (List.mem_of_getElem? (i := 19) rfl)) (hw _ (List.mem_of_getElem? (i := 3) rfl)) (by decide) (by decide)) (g := (mkF m 69 #[.val (.ref aB), .val (.int pT)] [(.int (6 : Int32)), (.ref aB)])) rfl (by rw [hml]; rfl) (argsL := [(.ref aB), (.int (6 : Int32))]) (rest := []) (lenOf pd_0 rfl) rfl (by show 2 * 0 + _ ≤ _; exact Nat.le_of_eq rfl) (hb hby d2_69) (fun _ _ => ⟨rfl, e21, (by decide : 0 + 0 ≤ _), (by decide : 0 + 0 ≤ _)⟩)
          dsimp only [Pt.U, Pt.locs, Pt.cells, Pt.slots] at X24 l24 y24 z24 st24 hQ24
          subst l24 y24 z24
          obtain ⟨rfl, N24q, e24⟩ := hQ24
          have N24 := Fr.app N21 N24q
          refine own_back ?_ st24
          show own_Go p e below PO (T24.setTop (mkF m 72 #[.val (.ref aB), .val (.int pT)] [(.int (own_ends xs 6))]))
          by_cases hc72_25 : (own_ends xs 6) = (0 : Int32)
          case pos =>
            refine own_back ?_ (fun t k => XS.ifYes X24.here hx rfl (pc0 := 72) (pc' := 78) rfl (hb hby d2_72) rfl ((if0 _ _).trans (teq hc72_25).1) (by decide) (by decide) k)
            show own_Go p e below PO (T24.setTop (mkF m 78 #[.val (.ref aB), .val (.int pT)] []))
            refine own_back ?_ (fun t k => XS.iconst X24.here hx rfl (hb hby d2_78) k)
            show own_Go p e below PO (T24.setTop (mkF m 79 #[.val (.ref aB), .val (.int pT)] [(.int (-1 : Int32))]))
            refine own_retI X24 hx (rest := []) Bd.returns (hb hby d2_79) e24 (Bd.notSynchronized) ?_ (by decide) (by decide)
            exact ⟨by simp [own_ref, hc2_1, hc10_7, hc17_8, hc25_13, hc32_14, hc40_18, hc47_19, hc55_22, hc63_23, hc72_25], N24, rfl⟩
          refine own_back ?_ (fun t k => XS.ifNo X24.here hx rfl (hb hby d2_72) rfl ((if0 _ _).trans (feq hc72_25).1) k)
          show own_Go p e below PO (T24.setTop (mkF m 75 #[.val (.ref aB), .val (.int pT)] []))
          refine own_back ?_ (fun t k => XS.bipush X24.here hx rfl (hb hby d2_75) k)
          show own_Go p e below PO (T24.setTop (mkF m 77 #[.val (.ref aB), .val (.int pT)] [(.int (6 : Int32))]))
          refine own_retI X24 hx (rest := []) Bd.returns (hb hby d2_77) e24 (Bd.notSynchronized) ?_ (by decide) (by decide)
          exact ⟨by simp [own_ref, hc2_1, hc10_7, hc17_8, hc25_13, hc32_14, hc40_18, hc47_19, hc55_22, hc63_23, hc72_25], N24, rfl⟩
        refine own_back ?_ (fun t k => XS.ifNo X21.here hx rfl (hb hby d2_55) rfl ((if0 _ _).trans (feq hc55_22).1) k)
        show own_Go p e below PO (T21.setTop (mkF m 58 #[.val (.ref aB), .val (.int pT)] []))
        refine own_back ?_ (fun t k => XS.iconst X21.here hx rfl (hb hby d2_58) k)
        show own_Go p e below PO (T21.setTop (mkF m 59 #[.val (.ref aB), .val (.int pT)] [(.int (5 : Int32))]))
        refine own_retI X21 hx (rest := []) Bd.returns (hb hby d2_59) e21 (Bd.notSynchronized) ?_ (by decide) (by decide)
        exact ⟨by simp [own_ref, hc2_1, hc10_7, hc17_8, hc25_13, hc32_14, hc40_18, hc47_19, hc55_22], N21, rfl⟩
      refine own_back ?_ (fun t k => XS.ifNo X17.here hx rfl (hb hby d2_40) rfl ((if0 _ _).trans (feq hc40_18).1) k)
      show own_Go p e below PO (T17.setTop (mkF m 43 #[.val (.ref aB), .val (.int pT)] []))
      refine own_back ?_ (fun t k => XS.iconst X17.here hx rfl (hb hby d2_43) k)
      show own_Go p e below PO (T17.setTop (mkF m 44 #[.val (.ref aB), .val (.int pT)] [(.int (4 : Int32))]))
      refine own_retI X17 hx (rest := []) Bd.returns (hb hby d2_44) e17 (Bd.notSynchronized) ?_ (by decide) (by decide)
      exact ⟨by simp [own_ref, hc2_1, hc10_7, hc17_8, hc25_13, hc32_14, hc40_18], N17, rfl⟩
    refine own_back ?_ (fun t k => XS.ifNo X12.here hx rfl (hb hby d2_25) rfl ((if0 _ _).trans (feq hc25_13).1) k)
    show own_Go p e below PO (T12.setTop (mkF m 28 #[.val (.ref aB), .val (.int pT)] []))
    refine own_back ?_ (fun t k => XS.iconst X12.here hx rfl (hb hby d2_28) k)
    show own_Go p e below PO (T12.setTop (mkF m 29 #[.val (.ref aB), .val (.int pT)] [(.int (3 : Int32))]))
    refine own_retI X12 hx (rest := []) Bd.returns (hb hby d2_29) e12 (Bd.notSynchronized) ?_ (by decide) (by decide)
    exact ⟨by simp [own_ref, hc2_1, hc10_7, hc17_8, hc25_13], N12, rfl⟩
  refine own_back ?_ (fun t k => XS.ifNo X6.here hx rfl (hb hby d2_10) rfl ((if0 _ _).trans (feq hc10_7).1) k)
  show own_Go p e below PO (T6.setTop (mkF m 13 #[.val (.ref aB), .val (.int pT)] []))
  refine own_back ?_ (fun t k => XS.iconst X6.here hx rfl (hb hby d2_13) k)
  show own_Go p e below PO (T6.setTop (mkF m 14 #[.val (.ref aB), .val (.int pT)] [(.int (2 : Int32))]))
  refine own_retI X6 hx (rest := []) Bd.returns (hb hby d2_14) e6 (Bd.notSynchronized) ?_ (by decide) (by decide)
  exact ⟨by simp [own_ref, hc2_1, hc10_7], N6, rfl⟩
theorem pd_1 : parseMethodDescriptor "(II)I" = some ⟨[.int, .int], some .int⟩ := by decide +kernel
theorem d3_0 : decode prog_11_method_2_code 0 = .ok (.iconst 0, 1) := by decide +kernel
theorem d3_1 : decode prog_11_method_2_code 1 = .ok (.iload_n 1, 1) := by decide +kernel
theorem d3_2 : decode prog_11_method_2_code 2 = .ok (.iconst 2, 1) := by decide +kernel
theorem d3_3 : decode prog_11_method_2_code 3 = .ok (.isub, 1) := by decide +kernel
theorem d3_4 : decode prog_11_method_2_code 4 = .ok (.invokestatic 60, 3) := by decide +kernel
theorem d3_7 : decode prog_11_method_2_code 7 = .ok (.istore_n 3, 1) := by decide +kernel
theorem d3_8 : decode prog_11_method_2_code 8 = .ok (.iload_n 3, 1) := by decide +kernel
theorem d3_9 : decode prog_11_method_2_code 9 = .ok (.iload_n 2, 1) := by decide +kernel
theorem d3_10 : decode prog_11_method_2_code 10 = .ok (.iconst 1, 1) := by decide +kernel
theorem d3_11 : decode prog_11_method_2_code 11 = .ok (.isub, 1) := by decide +kernel
theorem d3_12 : decode prog_11_method_2_code 12 = .ok (.if_icmp .ge 62, 3) := by decide +kernel
theorem d3_15 : decode prog_11_method_2_code 15 = .ok (.aload_n 0, 1) := by decide +kernel
theorem d3_16 : decode prog_11_method_2_code 16 = .ok (.iload_n 3, 1) := by decide +kernel
theorem d3_17 : decode prog_11_method_2_code 17 = .ok (.baload, 1) := by decide +kernel
theorem d3_18 : decode prog_11_method_2_code 18 = .ok (.bipush 10, 2) := by decide +kernel
theorem d3_20 : decode prog_11_method_2_code 20 = .ok (.if_icmp .ne 48, 3) := by decide +kernel
theorem d3_23 : decode prog_11_method_2_code 23 = .ok (.aload_n 0, 1) := by decide +kernel
theorem d3_24 : decode prog_11_method_2_code 24 = .ok (.iload_n 3, 1) := by decide +kernel
theorem d3_25 : decode prog_11_method_2_code 25 = .ok (.iconst 1, 1) := by decide +kernel
theorem d3_26 : decode prog_11_method_2_code 26 = .ok (.iadd, 1) := by decide +kernel
theorem d3_27 : decode prog_11_method_2_code 27 = .ok (.baload, 1) := by decide +kernel
theorem d3_28 : decode prog_11_method_2_code 28 = .ok (.bipush 10, 2) := by decide +kernel
theorem d3_30 : decode prog_11_method_2_code 30 = .ok (.if_icmp .ne 7, 3) := by decide +kernel
theorem d3_33 : decode prog_11_method_2_code 33 = .ok (.iload_n 3, 1) := by decide +kernel
theorem d3_34 : decode prog_11_method_2_code 34 = .ok (.iconst 2, 1) := by decide +kernel
theorem d3_35 : decode prog_11_method_2_code 35 = .ok (.iadd, 1) := by decide +kernel
theorem d3_36 : decode prog_11_method_2_code 36 = .ok (.ireturn, 1) := by decide +kernel
theorem d3_37 : decode prog_11_method_2_code 37 = .ok (.aload_n 0, 1) := by decide +kernel
theorem d3_38 : decode prog_11_method_2_code 38 = .ok (.iload_n 3, 1) := by decide +kernel
theorem d3_39 : decode prog_11_method_2_code 39 = .ok (.iconst 1, 1) := by decide +kernel
theorem d3_40 : decode prog_11_method_2_code 40 = .ok (.iadd, 1) := by decide +kernel
theorem d3_41 : decode prog_11_method_2_code 41 = .ok (.baload, 1) := by decide +kernel
theorem d3_42 : decode prog_11_method_2_code 42 = .ok (.bipush 13, 2) := by decide +kernel
theorem d3_44 : decode prog_11_method_2_code 44 = .ok (.if_icmp .ne 24, 3) := by decide +kernel
theorem d3_47 : decode prog_11_method_2_code 47 = .ok (.iload_n 3, 1) := by decide +kernel
theorem d3_48 : decode prog_11_method_2_code 48 = .ok (.iconst 2, 1) := by decide +kernel
theorem d3_49 : decode prog_11_method_2_code 49 = .ok (.iadd, 1) := by decide +kernel
theorem d3_50 : decode prog_11_method_2_code 50 = .ok (.iload_n 2, 1) := by decide +kernel
theorem d3_51 : decode prog_11_method_2_code 51 = .ok (.if_icmp .ge 17, 3) := by decide +kernel
theorem d3_54 : decode prog_11_method_2_code 54 = .ok (.aload_n 0, 1) := by decide +kernel
theorem d3_55 : decode prog_11_method_2_code 55 = .ok (.iload_n 3, 1) := by decide +kernel
theorem d3_56 : decode prog_11_method_2_code 56 = .ok (.iconst 2, 1) := by decide +kernel
theorem d3_57 : decode prog_11_method_2_code 57 = .ok (.iadd, 1) := by decide +kernel
theorem d3_58 : decode prog_11_method_2_code 58 = .ok (.baload, 1) := by decide +kernel
theorem d3_59 : decode prog_11_method_2_code 59 = .ok (.bipush 10, 2) := by decide +kernel
theorem d3_61 : decode prog_11_method_2_code 61 = .ok (.if_icmp .ne 7, 3) := by decide +kernel
theorem d3_64 : decode prog_11_method_2_code 64 = .ok (.iload_n 3, 1) := by decide +kernel
theorem d3_65 : decode prog_11_method_2_code 65 = .ok (.iconst 3, 1) := by decide +kernel
theorem d3_66 : decode prog_11_method_2_code 66 = .ok (.iadd, 1) := by decide +kernel
theorem d3_67 : decode prog_11_method_2_code 67 = .ok (.ireturn, 1) := by decide +kernel
theorem d3_68 : decode prog_11_method_2_code 68 = .ok (.iinc 3 1, 3) := by decide +kernel
theorem d3_71 : decode prog_11_method_2_code 71 = .ok (.goto (-63), 3) := by decide +kernel
theorem d3_74 : decode prog_11_method_2_code 74 = .ok (.iconst (-1), 1) := by decide +kernel
theorem d3_75 : decode prog_11_method_2_code 75 = .ok (.ireturn, 1) := by decide +kernel
theorem pn_1 : plainName "com/example/execd/execd/io/RequestHead" = true := by first | (simp [plainName, overriddenIn]; done) | decide +kernel
theorem ef_rm3 (m : MethodId) (x0 : Addr) (x1 : Int32) (x2 : Int32) : entryFrame m #[(.ref x0), (.int x1), (.int x2)] 4 = mkF m 0 #[.val (.ref x0), .val (.int x1), .val (.int x2), .unset] [] := by first | (simp [entryFrame, mkF, argsToLocals, Value.category]; done) | rfl
def Q_rm3 (xs : List Int32) (pF pT : Int32) (h0 : Heap) (n0 : Nat) (v : Option Value) (h : Heap) (L : List Loc) : Prop := v = some (.int (own_end xs pF pT)) ∧ Fr n0 L ∧ h = h0
set_option maxRecDepth 65536 in
set_option maxHeartbeats 40000000 in
theorem rm3 (l : Launch) (Z : State) (a0 : Array Value) (hw : ∀ d ∈ tables_1, d.before a0 Z = true) (ws : List Jvm.Cond) (aB : Addr) (pF : Int32) (pT : Int32) (xs : List Int32) (kB : ClassId) (h0 : Heap) (n0 : Nat) (Z0 : n0 ≤ h0.size) (VB : Arv Z h0 aB kB .byte 6 (xs.map Value.int) (.int 0)) (hT : 0 ≤ pT.toInt ∧ pT.toInt ≤ 6) :
    MetFree l (⟨"com/example/execd/execd/io/RequestHead", "end", "([BII)I"⟩ : MethodName) (head1 (Jvm.Cond.code (⟨"com/example/execd/execd/io/RequestHead", "end", "([BII)I"⟩ : MethodName) prog_11_method_2_code 4 (some .int) :: ws) ({ frames := 1, cells := 0, slots := 0, locals := 13 } : Room)) (fun a U => a = #[(.ref aB), (.int pF), (.int pT)] ∧ Z.Warmed39 U.vm ∧ U.heap = h0) (fun _ _ _ _ _ => True) (fun _ U o U' => ∃ v L, o = .returned v ∧ Q_rm3 xs pF pT h0 n0 v U'.heap L ∧ FrameEnd U o U' L ({ frames := 1, cells := 0, slots := 0, locals := 13 } : Room).cells ({ frames := 1, cells := 0, slots := 0, locals := 13 } : Room).slots) := by
  refine MetFree.of_bodySF (plainFor_of_name pn_1) hisR ?_
  intro p e s m args below meth c s₁ Bd hml0 hP hK
  obtain ⟨rfl, hZ, hh⟩ := hP
  have hx := Bd.exec
  have hby := Bd.bytes
  have hml : c.maxLocals = 4 := hml0
  have hown : s.vm.findClass "com/example/execd/execd/io/RequestHead" = some m.cls := findClass_of_methodNamed Bd.named
  have hnm := (name_of_methodNamed Bd.named Bd.method).1
  have X0 : Stand p l e ({ frames := 1, cells := 0, slots := 0, locals := 13 } : Room) s m #[(.ref aB), (.int pF), (.int pT)] below meth c s₁ [] 0 0 := Stand.of_body Bd
  have e0 : s₁.heap = h0 := by rw [← hh, Bd.state]; rfl
  have N0 := Fr.nil n0
  let PO : Outcome → State → Prop := own_PO s (Q_rm3 xs pF pT h0 n0) 0 0
  show own_Go p e below PO (s₁.setTop (entryFrame m #[(.ref aB), (.int pF), (.int pT)] 4))
  rw [ef_rm3]
  show own_Go p e below PO (s₁.setTop (mkF m 0 #[.val (.ref aB), .val (.int pF), .val (.int pT), .unset] []))
  refine own_back ?_ (fun t k => XS.iconst X0.here hx rfl (hb hby d3_0) k)
  show own_Go p e below PO (s₁.setTop (mkF m 1 #[.val (.ref aB), .val (.int pF), .val (.int pT), .unset] [(.int (0 : Int32))]))
  refine own_back ?_ (fun t k => XS.iloadN X0.here hx rfl (hb hby d3_1) rfl k)
  show own_Go p e below PO (s₁.setTop (mkF m 2 #[.val (.ref aB), .val (.int pF), .val (.int pT), .unset] [(.int pF), (.int (0 : Int32))]))
  refine own_back ?_ (fun t k => XS.iconst X0.here hx rfl (hb hby d3_2) k)
  show own_Go p e below PO (s₁.setTop (mkF m 3 #[.val (.ref aB), .val (.int pF), .val (.int pT), .unset] [(.int (2 : Int32)), (.int pF), (.int (0 : Int32))]))
  refine own_back ?_ (fun t k => XS.isub X0.here hx rfl (hb hby d3_3) rfl k)
  show own_Go p e below PO (s₁.setTop (mkF m 4 #[.val (.ref aB), .val (.int pF), .val (.int pT), .unset] [(.int (pF - (2 : Int32))), (.int (0 : Int32))]))
  obtain ⟨_, _, ⟨T1, L1, k1, n1⟩, -, X1, ⟨Lc1, hQ1, l1, y1, z1⟩, st1⟩ := Jvm.LawKit.callS X0 hx (y := (⟨"java/lang/Math", "max", "(II)I"⟩ : MethodName)) hown (mvT hZ (hw _ (List.mem_of_getElem? (i := 13) rfl))) (mvT hZ (hw _ (List.mem_of_getElem? (i := 14) rfl))) (mvT hZ (hw _ (List.mem_of_getElem? (i := 15) rfl))) (mvT hZ (hw _ (List.mem_of_getElem? (i := 16) rfl))) (by decide) (backOf (W := 0) (rm4 l Z a0 hw [] (0 : Int32) (pF - (2 : Int32))  h0 n0 Z0 ) hZ (hw _ (List.mem_of_getElem? (i := 16) rfl)) (hw _ (List.mem_of_getElem? (i := 15) rfl)) (by decide) (by decide)) (g := (mkF m 4 #[.val (.ref aB), .val (.int pF), .val (.int pT), .unset] [(.int (pF - (2 : Int32))), (.int (0 : Int32))])) rfl (by rw [hml]; rfl) (argsL := [(.int (0 : Int32)), (.int (pF - (2 : Int32)))]) (rest := []) (lenOf pd_1 rfl) rfl (by show 2 * 0 + _ ≤ _; exact Nat.le_of_eq rfl) (hb hby d3_4) (fun _ _ => ⟨rfl, e0, (by decide : 0 + 0 ≤ _), (by decide : 0 + 0 ≤ _)⟩)
  dsimp only [Pt.U, Pt.locs, Pt.cells, Pt.slots] at X1 l1 y1 z1 st1 hQ1
  subst l1 y1 z1
  obtain ⟨rfl, N1q, e1⟩ := hQ1
  have N1 := Fr.app N0 N1q
  refine own_back ?_ st1
  show own_Go p e below PO (T1.setTop (mkF m 7 #[.val (.ref aB), .val (.int pF), .val (.int pT), .unset] [(.int (own_max (0 : Int32) (pF - (2 : Int32))))]))
  refine own_gen (A := Int32) (own_max (0 : Int32) (pF - (2 : Int32))) (fun r4_2 => own_Go p e below PO (T1.setTop (mkF m 7 #[.val (.ref aB), .val (.int pF), .val (.int pT), .unset] [(.int r4_2)]))) ?_
  intro r4_2 h_r4_2
  show own_Go p e below PO (T1.setTop (mkF m 7 #[.val (.ref aB), .val (.int pF), .val (.int pT), .unset] [(.int r4_2)]))
  refine own_back ?_ (fun t k => XS.istoreN X1.here hx rfl (hb hby d3_7) rfl (l' := #[.val (.ref aB), .val (.int pF), .val (.int pT), .val (.int r4_2)]) rfl k)
  show own_Go p e below PO (T1.setTop (mkF m 8 #[.val (.ref aB), .val (.int pF), .val (.int pT), .val (.int r4_2)] []))
  have loop : ∀ (n : Nat) (i : Int32), 0 ≤ i.toInt → own_fuel pT i = n → own_scan xs pT n i = own_end xs pF pT → own_Go p e below PO (T1.setTop (mkF m 8 #[.val (.ref aB), .val (.int pF), .val (.int pT), .val (.int i)] [])) := by
    intro n
    induction n with
    | zero =>
      intro i hi hn hR
      show own_Go p e below PO (T1.setTop (mkF m 8 #[.val (.ref aB), .val (.int pF), .val (.int pT), .val (.int i)] []))
      refine own_back ?_ (fun t k => XS.iloadN X1.here hx rfl (hb hby d3_8) rfl k)
      show own_Go p e below PO (T1.setTop (mkF m 9 #[.val (.ref aB), .val (.int pF), .val (.int pT), .val (.int i)] [(.int i)]))
      refine own_back ?_ (fun t k => XS.iloadN X1.here hx rfl (hb hby d3_9) rfl k)
      show own_Go p e below PO (T1.setTop (mkF m 10 #[.val (.ref aB), .val (.int pF), .val (.int pT), .val (.int i)] [(.int pT), (.int i)]))
      refine own_back ?_ (fun t k => XS.iconst X1.here hx rfl (hb hby d3_10) k)
      show own_Go p e below PO (T1.setTop (mkF m 11 #[.val (.ref aB), .val (.int pF), .val (.int pT), .val (.int i)] [(.int (1 : Int32)), (.int pT), (.int i)]))
      refine own_back ?_ (fun t k => XS.isub X1.here hx rfl (hb hby d3_11) rfl k)
      show own_Go p e below PO (T1.setTop (mkF m 12 #[.val (.ref aB), .val (.int pF), .val (.int pT), .val (.int i)] [(.int (pT - (1 : Int32))), (.int i)]))
      have hd12_3 : ¬ (i < (pT - (1 : Int32))) := own_c1 hi hT hn
      refine own_back ?_ (fun t k => XS.icmpYes X1.here hx rfl (pc0 := 12) (pc' := 74) rfl (hb hby d3_12) rfl (flt hd12_3).2.1 (by decide) (by decide) k)
      show own_Go p e below PO (T1.setTop (mkF m 74 #[.val (.ref aB), .val (.int pF), .val (.int pT), .val (.int i)] []))
      refine own_back ?_ (fun t k => XS.iconst X1.here hx rfl (hb hby d3_74) k)
      show own_Go p e below PO (T1.setTop (mkF m 75 #[.val (.ref aB), .val (.int pF), .val (.int pT), .val (.int i)] [(.int (-1 : Int32))]))
      refine own_retI X1 hx (rest := []) Bd.returns (hb hby d3_75) e1 (Bd.notSynchronized) ?_ (by decide) (by decide)
      exact ⟨by rw [← hR]; rfl, N1, rfl⟩
    | succ n ih =>
      intro i hi hn hR
      obtain ⟨hlt, hli⟩ := own_c2 hi hT hn
      have h100 : i.toInt < 100 := by omega
      have a1 := own_addI (k := 1) (K := 1) hi h100 (by decide) (by decide)
      have a2 := own_addI (k := 2) (K := 2) hi h100 (by decide) (by decide)
      show own_Go p e below PO (T1.setTop (mkF m 8 #[.val (.ref aB), .val (.int pF), .val (.int pT), .val (.int i)] []))
      refine own_back ?_ (fun t k => XS.iloadN X1.here hx rfl (hb hby d3_8) rfl k)
      show own_Go p e below PO (T1.setTop (mkF m 9 #[.val (.ref aB), .val (.int pF), .val (.int pT), .val (.int i)] [(.int i)]))
      refine own_back ?_ (fun t k => XS.iloadN X1.here hx rfl (hb hby d3_9) rfl k)
      show own_Go p e below PO (T1.setTop (mkF m 10 #[.val (.ref aB), .val (.int pF), .val (.int pT), .val (.int i)] [(.int pT), (.int i)]))
      refine own_back ?_ (fun t k => XS.iconst X1.here hx rfl (hb hby d3_10) k)
      show own_Go p e below PO (T1.setTop (mkF m 11 #[.val (.ref aB), .val (.int pF), .val (.int pT), .val (.int i)] [(.int (1 : Int32)), (.int pT), (.int i)]))
      refine own_back ?_ (fun t k => XS.isub X1.here hx rfl (hb hby d3_11) rfl k)
      show own_Go p e below PO (T1.setTop (mkF m 12 #[.val (.ref aB), .val (.int pF), .val (.int pT), .val (.int i)] [(.int (pT - (1 : Int32))), (.int i)]))
      refine own_back ?_ (fun t k => XS.icmpNo X1.here hx rfl (hb hby d3_12) rfl (tlt hlt).2.1 k)
      show own_Go p e below PO (T1.setTop (mkF m 15 #[.val (.ref aB), .val (.int pF), .val (.int pT), .val (.int i)] []))
      refine own_back ?_ (fun t k => XS.aloadN X1.here hx rfl (hb hby d3_15) rfl rfl k)
      show own_Go p e below PO (T1.setTop (mkF m 16 #[.val (.ref aB), .val (.int pF), .val (.int pT), .val (.int i)] [(.ref aB)]))
      refine own_back ?_ (fun t k => XS.iloadN X1.here hx rfl (hb hby d3_16) rfl k)
      show own_Go p e below PO (T1.setTop (mkF m 17 #[.val (.ref aB), .val (.int pF), .val (.int pT), .val (.int i)] [(.int i), (.ref aB)]))
      refine own_back ?_ (own_ldB X1 hx hZ e1 VB (j := i) (v := (.int (own_at xs i.toNatClampNeg))) (own_in6 hi (by omega)) (own_getD xs _) (g := (mkF m 17 #[.val (.ref aB), .val (.int pF), .val (.int pT), .val (.int i)] [(.int i), (.ref aB)])) rfl rfl (hb hby d3_17))
      show own_Go p e below PO (T1.setTop (mkF m 18 #[.val (.ref aB), .val (.int pF), .val (.int pT), .val (.int i)] [(.int (own_at xs i.toNatClampNeg))]))
      refine own_back ?_ (fun t k => XS.bipush X1.here hx rfl (hb hby d3_18) k)
      show own_Go p e below PO (T1.setTop (mkF m 20 #[.val (.ref aB), .val (.int pF), .val (.int pT), .val (.int i)] [(.int (10 : Int32)), (.int (own_at xs i.toNatClampNeg))]))
      by_cases hc20_4 : (own_at xs i.toNatClampNeg) = (10 : Int32)
      case pos =>
        refine own_back ?_ (fun t k => XS.icmpNo X1.here hx rfl (hb hby d3_20) rfl (teq hc20_4).2 k)
        show own_Go p e below PO (T1.setTop (mkF m 23 #[.val (.ref aB), .val (.int pF), .val (.int pT), .val (.int i)] []))
        refine own_back ?_ (fun t k => XS.aloadN X1.here hx rfl (hb hby d3_23) rfl rfl k)
        show own_Go p e below PO (T1.setTop (mkF m 24 #[.val (.ref aB), .val (.int pF), .val (.int pT), .val (.int i)] [(.ref aB)]))
        refine own_back ?_ (fun t k => XS.iloadN X1.here hx rfl (hb hby d3_24) rfl k)
        show own_Go p e below PO (T1.setTop (mkF m 25 #[.val (.ref aB), .val (.int pF), .val (.int pT), .val (.int i)] [(.int i), (.ref aB)]))
        refine own_back ?_ (fun t k => XS.iconst X1.here hx rfl (hb hby d3_25) k)
        show own_Go p e below PO (T1.setTop (mkF m 26 #[.val (.ref aB), .val (.int pF), .val (.int pT), .val (.int i)] [(.int (1 : Int32)), (.int i), (.ref aB)]))
        refine own_back ?_ (fun t k => XS.iadd X1.here hx rfl (hb hby d3_26) rfl k)
        show own_Go p e below PO (T1.setTop (mkF m 27 #[.val (.ref aB), .val (.int pF), .val (.int pT), .val (.int i)] [(.int (i + (1 : Int32))), (.ref aB)]))
        refine own_back ?_ (own_ldB X1 hx hZ e1 VB (j := (i + (1 : Int32))) (v := (.int (own_at xs (i + (1 : Int32)).toNatClampNeg))) (own_in6 (by rw [a1]; omega) (by rw [a1]; omega)) (own_getD xs _) (g := (mkF m 27 #[.val (.ref aB), .val (.int pF), .val (.int pT), .val (.int i)] [(.int (i + (1 : Int32))), (.ref aB)])) rfl rfl (hb hby d3_27))
        show own_Go p e below PO (T1.setTop (mkF m 28 #[.val (.ref aB), .val (.int pF), .val (.int pT), .val (.int i)] [(.int (own_at xs (i + (1 : Int32)).toNatClampNeg))]))
        refine own_back ?_ (fun t k => XS.bipush X1.here hx rfl (hb hby d3_28) k)
        show own_Go p e below PO (T1.setTop (mkF m 30 #[.val (.ref aB), .val (.int pF), .val (.int pT), .val (.int i)] [(.int (10 : Int32)), (.int (own_at xs (i + (1 : Int32)).toNatClampNeg))]))
        by_cases hc30_5 : (own_at xs (i + (1 : Int32)).toNatClampNeg) = (10 : Int32)
        case pos =>
          refine own_back ?_ (fun t k => XS.icmpNo X1.here hx rfl (hb hby d3_30) rfl (teq hc30_5).2 k)
          show own_Go p e below PO (T1.setTop (mkF m 33 #[.val (.ref aB), .val (.int pF), .val (.int pT), .val (.int i)] []))
          refine own_back ?_ (fun t k => XS.iloadN X1.here hx rfl (hb hby d3_33) rfl k)
          show own_Go p e below PO (T1.setTop (mkF m 34 #[.val (.ref aB), .val (.int pF), .val (.int pT), .val (.int i)] [(.int i)]))
          refine own_back ?_ (fun t k => XS.iconst X1.here hx rfl (hb hby d3_34) k)
          show own_Go p e below PO (T1.setTop (mkF m 35 #[.val (.ref aB), .val (.int pF), .val (.int pT), .val (.int i)] [(.int (2 : Int32)), (.int i)]))
          refine own_back ?_ (fun t k => XS.iadd X1.here hx rfl (hb hby d3_35) rfl k)
          show own_Go p e below PO (T1.setTop (mkF m 36 #[.val (.ref aB), .val (.int pF), .val (.int pT), .val (.int i)] [(.int (i + (2 : Int32)))]))
          refine own_retI X1 hx (rest := []) Bd.returns (hb hby d3_36) e1 (Bd.notSynchronized) ?_ (by decide) (by decide)
          exact ⟨by rw [← hR]; simp [own_scan, hc20_4, hc30_5], N1, rfl⟩
        refine own_back ?_ (fun t k => XS.icmpYes X1.here hx rfl (pc0 := 30) (pc' := 37) rfl (hb hby d3_30) rfl (feq hc30_5).2 (by decide) (by decide) k)
        show own_Go p e below PO (T1.setTop (mkF m 37 #[.val (.ref aB), .val (.int pF), .val (.int pT), .val (.int i)] []))
        refine own_back ?_ (fun t k => XS.aloadN X1.here hx rfl (hb hby d3_37) rfl rfl k)
        show own_Go p e below PO (T1.setTop (mkF m 38 #[.val (.ref aB), .val (.int pF), .val (.int pT), .val (.int i)] [(.ref aB)]))
        refine own_back ?_ (fun t k => XS.iloadN X1.here hx rfl (hb hby d3_38) rfl k)
        show own_Go p e below PO (T1.setTop (mkF m 39 #[.val (.ref aB), .val (.int pF), .val (.int pT), .val (.int i)] [(.int i), (.ref aB)]))
        refine own_back ?_ (fun t k => XS.iconst X1.here hx rfl (hb hby d3_39) k)
        show own_Go p e below PO (T1.setTop (mkF m 40 #[.val (.ref aB), .val (.int pF), .val (.int pT), .val (.int i)] [(.int (1 : Int32)), (.int i), (.ref aB)]))
        refine own_back ?_ (fun t k => XS.iadd X1.here hx rfl (hb hby d3_40) rfl k)
        show own_Go p e below PO (T1.setTop (mkF m 41 #[.val (.ref aB), .val (.int pF), .val (.int pT), .val (.int i)] [(.int (i + (1 : Int32))), (.ref aB)]))
        refine own_back ?_ (own_ldB X1 hx hZ e1 VB (j := (i + (1 : Int32))) (v := (.int (own_at xs (i + (1 : Int32)).toNatClampNeg))) (own_in6 (by rw [a1]; omega) (by rw [a1]; omega)) (own_getD xs _) (g := (mkF m 41 #[.val (.ref aB), .val (.int pF), .val (.int pT), .val (.int i)] [(.int (i + (1 : Int32))), (.ref aB)])) rfl rfl (hb hby d3_41))
        show own_Go p e below PO (T1.setTop (mkF m 42 #[.val (.ref aB), .val (.int pF), .val (.int pT), .val (.int i)] [(.int (own_at xs (i + (1 : Int32)).toNatClampNeg))]))
        refine own_back ?_ (fun t k => XS.bipush X1.here hx rfl (hb hby d3_42) k)
        show own_Go p e below PO (T1.setTop (mkF m 44 #[.val (.ref aB), .val (.int pF), .val (.int pT), .val (.int i)] [(.int (13 : Int32)), (.int (own_at xs (i + (1 : Int32)).toNatClampNeg))]))
        by_cases hc44_6 : (own_at xs (i + (1 : Int32)).toNatClampNeg) = (13 : Int32)
        case pos =>
          refine own_back ?_ (fun t k => XS.icmpNo X1.here hx rfl (hb hby d3_44) rfl (teq hc44_6).2 k)
          show own_Go p e below PO (T1.setTop (mkF m 47 #[.val (.ref aB), .val (.int pF), .val (.int pT), .val (.int i)] []))
          refine own_back ?_ (fun t k => XS.iloadN X1.here hx rfl (hb hby d3_47) rfl k)
          show own_Go p e below PO (T1.setTop (mkF m 48 #[.val (.ref aB), .val (.int pF), .val (.int pT), .val (.int i)] [(.int i)]))
          refine own_back ?_ (fun t k => XS.iconst X1.here hx rfl (hb hby d3_48) k)
          show own_Go p e below PO (T1.setTop (mkF m 49 #[.val (.ref aB), .val (.int pF), .val (.int pT), .val (.int i)] [(.int (2 : Int32)), (.int i)]))
          refine own_back ?_ (fun t k => XS.iadd X1.here hx rfl (hb hby d3_49) rfl k)
          show own_Go p e below PO (T1.setTop (mkF m 50 #[.val (.ref aB), .val (.int pF), .val (.int pT), .val (.int i)] [(.int (i + (2 : Int32)))]))
          refine own_back ?_ (fun t k => XS.iloadN X1.here hx rfl (hb hby d3_50) rfl k)
          show own_Go p e below PO (T1.setTop (mkF m 51 #[.val (.ref aB), .val (.int pF), .val (.int pT), .val (.int i)] [(.int pT), (.int (i + (2 : Int32)))]))
          by_cases hc51_7 : (i + (2 : Int32)) < pT
          case pos =>
            refine own_back ?_ (fun t k => XS.icmpNo X1.here hx rfl (hb hby d3_51) rfl (tlt hc51_7).2.1 k)
            show own_Go p e below PO (T1.setTop (mkF m 54 #[.val (.ref aB), .val (.int pF), .val (.int pT), .val (.int i)] []))
            refine own_back ?_ (fun t k => XS.aloadN X1.here hx rfl (hb hby d3_54) rfl rfl k)
            show own_Go p e below PO (T1.setTop (mkF m 55 #[.val (.ref aB), .val (.int pF), .val (.int pT), .val (.int i)] [(.ref aB)]))
            refine own_back ?_ (fun t k => XS.iloadN X1.here hx rfl (hb hby d3_55) rfl k)
            show own_Go p e below PO (T1.setTop (mkF m 56 #[.val (.ref aB), .val (.int pF), .val (.int pT), .val (.int i)] [(.int i), (.ref aB)]))
            refine own_back ?_ (fun t k => XS.iconst X1.here hx rfl (hb hby d3_56) k)
            show own_Go p e below PO (T1.setTop (mkF m 57 #[.val (.ref aB), .val (.int pF), .val (.int pT), .val (.int i)] [(.int (2 : Int32)), (.int i), (.ref aB)]))
            refine own_back ?_ (fun t k => XS.iadd X1.here hx rfl (hb hby d3_57) rfl k)
            show own_Go p e below PO (T1.setTop (mkF m 58 #[.val (.ref aB), .val (.int pF), .val (.int pT), .val (.int i)] [(.int (i + (2 : Int32))), (.ref aB)]))
            refine own_back ?_ (own_ldB X1 hx hZ e1 VB (j := (i + (2 : Int32))) (v := (.int (own_at xs (i + (2 : Int32)).toNatClampNeg))) (own_in6 (by rw [a2]; omega) (by rw [Int32.lt_iff_toInt_lt] at hc51_7; omega)) (own_getD xs _) (g := (mkF m 58 #[.val (.ref aB), .val (.int pF), .val (.int pT), .val (.int i)] [(.int (i + (2 : Int32))), (.ref aB)])) rfl rfl (hb hby d3_58))
            show own_Go p e below PO (T1.setTop (mkF m 59 #[.val (.ref aB), .val (.int pF), .val (.int pT), .val (.int i)] [(.int (own_at xs (i + (2 : Int32)).toNatClampNeg))]))
            refine own_back ?_ (fun t k => XS.bipush X1.here hx rfl (hb hby d3_59) k)
            show own_Go p e below PO (T1.setTop (mkF m 61 #[.val (.ref aB), .val (.int pF), .val (.int pT), .val (.int i)] [(.int (10 : Int32)), (.int (own_at xs (i + (2 : Int32)).toNatClampNeg))]))
            by_cases hc61_8 : (own_at xs (i + (2 : Int32)).toNatClampNeg) = (10 : Int32)
            case pos =>
              refine own_back ?_ (fun t k => XS.icmpNo X1.here hx rfl (hb hby d3_61) rfl (teq hc61_8).2 k)
              show own_Go p e below PO (T1.setTop (mkF m 64 #[.val (.ref aB), .val (.int pF), .val (.int pT), .val (.int i)] []))
              refine own_back ?_ (fun t k => XS.iloadN X1.here hx rfl (hb hby d3_64) rfl k)
              show own_Go p e below PO (T1.setTop (mkF m 65 #[.val (.ref aB), .val (.int pF), .val (.int pT), .val (.int i)] [(.int i)]))
              refine own_back ?_ (fun t k => XS.iconst X1.here hx rfl (hb hby d3_65) k)
              show own_Go p e below PO (T1.setTop (mkF m 66 #[.val (.ref aB), .val (.int pF), .val (.int pT), .val (.int i)] [(.int (3 : Int32)), (.int i)]))
              refine own_back ?_ (fun t k => XS.iadd X1.here hx rfl (hb hby d3_66) rfl k)
              show own_Go p e below PO (T1.setTop (mkF m 67 #[.val (.ref aB), .val (.int pF), .val (.int pT), .val (.int i)] [(.int (i + (3 : Int32)))]))
              refine own_retI X1 hx (rest := []) Bd.returns (hb hby d3_67) e1 (Bd.notSynchronized) ?_ (by decide) (by decide)
              exact ⟨by rw [← hR]; simp [own_scan, hc20_4, hc30_5, hc44_6, hc51_7, hc61_8], N1, rfl⟩
            refine own_back ?_ (fun t k => XS.icmpYes X1.here hx rfl (pc0 := 61) (pc' := 68) rfl (hb hby d3_61) rfl (feq hc61_8).2 (by decide) (by decide) k)
            show own_Go p e below PO (T1.setTop (mkF m 68 #[.val (.ref aB), .val (.int pF), .val (.int pT), .val (.int i)] []))
            refine own_back ?_ (fun t k => XS.iinc X1.here hx rfl (hb hby d3_68) rfl (l' := #[.val (.ref aB), .val (.int pF), .val (.int pT), .val (.int (i + (1 : Int32)))]) rfl k)
            show own_Go p e below PO (T1.setTop (mkF m 71 #[.val (.ref aB), .val (.int pF), .val (.int pT), .val (.int (i + (1 : Int32)))] []))
            refine own_gen (A := Int32) (i + (1 : Int32)) (fun v3_9 => own_Go p e below PO (T1.setTop (mkF m 71 #[.val (.ref aB), .val (.int pF), .val (.int pT), .val (.int v3_9)] []))) ?_
            intro v3_9 h_v3_9
            show own_Go p e below PO (T1.setTop (mkF m 71 #[.val (.ref aB), .val (.int pF), .val (.int pT), .val (.int v3_9)] []))
            refine own_back ?_ (fun t k => XS.goto X1.here hx rfl (pc0 := 71) (pc' := 8) rfl (hb hby d3_71) (by decide) (by decide) k)
            show own_Go p e below PO (T1.setTop (mkF m 8 #[.val (.ref aB), .val (.int pF), .val (.int pT), .val (.int v3_9)] []))
            refine ih v3_9 (by rw [h_v3_9, a1]; omega) (by unfold own_fuel at hn ⊢; rw [h_v3_9, a1]; omega) ?_
            rw [h_v3_9, ← hR]
            simp [own_scan, hc20_4, hc30_5, hc44_6, hc51_7, hc61_8]
          refine own_back ?_ (fun t k => XS.icmpYes X1.here hx rfl (pc0 := 51) (pc' := 68) rfl (hb hby d3_51) rfl (flt hc51_7).2.1 (by decide) (by decide) k)
          show own_Go p e below PO (T1.setTop (mkF m 68 #[.val (.ref aB), .val (.int pF), .val (.int pT), .val (.int i)] []))
          refine own_back ?_ (fun t k => XS.iinc X1.here hx rfl (hb hby d3_68) rfl (l' := #[.val (.ref aB), .val (.int pF), .val (.int pT), .val (.int (i + (1 : Int32)))]) rfl k)
          show own_Go p e below PO (T1.setTop (mkF m 71 #[.val (.ref aB), .val (.int pF), .val (.int pT), .val (.int (i + (1 : Int32)))] []))
          refine own_gen (A := Int32) (i + (1 : Int32)) (fun v3_10 => own_Go p e below PO (T1.setTop (mkF m 71 #[.val (.ref aB), .val (.int pF), .val (.int pT), .val (.int v3_10)] []))) ?_
          intro v3_10 h_v3_10
          show own_Go p e below PO (T1.setTop (mkF m 71 #[.val (.ref aB), .val (.int pF), .val (.int pT), .val (.int v3_10)] []))
          refine own_back ?_ (fun t k => XS.goto X1.here hx rfl (pc0 := 71) (pc' := 8) rfl (hb hby d3_71) (by decide) (by decide) k)
          show own_Go p e below PO (T1.setTop (mkF m 8 #[.val (.ref aB), .val (.int pF), .val (.int pT), .val (.int v3_10)] []))
          refine ih v3_10 (by rw [h_v3_10, a1]; omega) (by unfold own_fuel at hn ⊢; rw [h_v3_10, a1]; omega) ?_
          rw [h_v3_10, ← hR]
          simp [own_scan, hc20_4, hc30_5, hc44_6, hc51_7]
        refine own_back ?_ (fun t k => XS.icmpYes X1.here hx rfl (pc0 := 44) (pc' := 68) rfl (hb hby d3_44) rfl (feq hc44_6).2 (by decide) (by decide) k)
        show own_Go p e below PO (T1.setTop (mkF m 68 #[.val (.ref aB), .val (.int pF), .val (.int pT), .val (.int i)] []))
        refine own_back ?_ (fun t k => XS.iinc X1.here hx rfl (hb hby d3_68) rfl (l' := #[.val (.ref aB), .val (.int pF), .val (.int pT), .val (.int (i + (1 : Int32)))]) rfl k)
        show own_Go p e below PO (T1.setTop (mkF m 71 #[.val (.ref aB), .val (.int pF), .val (.int pT), .val (.int (i + (1 : Int32)))] []))
        refine own_gen (A := Int32) (i + (1 : Int32)) (fun v3_11 => own_Go p e below PO (T1.setTop (mkF m 71 #[.val (.ref aB), .val (.int pF), .val (.int pT), .val (.int v3_11)] []))) ?_
        intro v3_11 h_v3_11
        show own_Go p e below PO (T1.setTop (mkF m 71 #[.val (.ref aB), .val (.int pF), .val (.int pT), .val (.int v3_11)] []))
        refine own_back ?_ (fun t k => XS.goto X1.here hx rfl (pc0 := 71) (pc' := 8) rfl (hb hby d3_71) (by decide) (by decide) k)
        show own_Go p e below PO (T1.setTop (mkF m 8 #[.val (.ref aB), .val (.int pF), .val (.int pT), .val (.int v3_11)] []))
        refine ih v3_11 (by rw [h_v3_11, a1]; omega) (by unfold own_fuel at hn ⊢; rw [h_v3_11, a1]; omega) ?_
        rw [h_v3_11, ← hR]
        simp [own_scan, hc20_4, hc30_5, hc44_6]
      refine own_back ?_ (fun t k => XS.icmpYes X1.here hx rfl (pc0 := 20) (pc' := 68) rfl (hb hby d3_20) rfl (feq hc20_4).2 (by decide) (by decide) k)
      show own_Go p e below PO (T1.setTop (mkF m 68 #[.val (.ref aB), .val (.int pF), .val (.int pT), .val (.int i)] []))
      refine own_back ?_ (fun t k => XS.iinc X1.here hx rfl (hb hby d3_68) rfl (l' := #[.val (.ref aB), .val (.int pF), .val (.int pT), .val (.int (i + (1 : Int32)))]) rfl k)
      show own_Go p e below PO (T1.setTop (mkF m 71 #[.val (.ref aB), .val (.int pF), .val (.int pT), .val (.int (i + (1 : Int32)))] []))
      refine own_gen (A := Int32) (i + (1 : Int32)) (fun v3_12 => own_Go p e below PO (T1.setTop (mkF m 71 #[.val (.ref aB), .val (.int pF), .val (.int pT), .val (.int v3_12)] []))) ?_
      intro v3_12 h_v3_12
      show own_Go p e below PO (T1.setTop (mkF m 71 #[.val (.ref aB), .val (.int pF), .val (.int pT), .val (.int v3_12)] []))
      refine own_back ?_ (fun t k => XS.goto X1.here hx rfl (pc0 := 71) (pc' := 8) rfl (hb hby d3_71) (by decide) (by decide) k)
      show own_Go p e below PO (T1.setTop (mkF m 8 #[.val (.ref aB), .val (.int pF), .val (.int pT), .val (.int v3_12)] []))
      refine ih v3_12 (by rw [h_v3_12, a1]; omega) (by unfold own_fuel at hn ⊢; rw [h_v3_12, a1]; omega) ?_
      rw [h_v3_12, ← hR]
      simp [own_scan, hc20_4]
  exact loop _ r4_2 (by rw [h_r4_2]; exact own_max0 _) rfl (by rw [h_r4_2]; rfl)
theorem pd_2 : parseMethodDescriptor "(IJI)B" = some ⟨[.int, .long, .int], some .byte⟩ := by decide +kernel
theorem pd_3 : parseMethodDescriptor "([BI)I" = some ⟨[(.array .byte), .int], some .int⟩ := by decide +kernel
theorem pd_4 : parseMethodDescriptor "([BII)I" = some ⟨[(.array .byte), .int, .int], some .int⟩ := by decide +kernel
theorem ef_rm0 (m : MethodId) (x0 : Int32) (x1 : Int64) (x2 : Int32) (x3 : Int32) : entryFrame m #[(.int x0), (.long x1), (.int x2), (.int x3)] maxLocals = mkF m 0 #[.val (.int x0), .val (.long x1), .second, .val (.int x2), .val (.int x3), .unset, .unset, .unset, .unset, .unset] [] := by first | (simp [entryFrame, mkF, argsToLocals, Value.category, maxLocals]; done) | rfl
def Q_rm0 (n0 : Nat) (v : Option Value) (h : Heap) (L : List Loc) : Prop := v = some (.int 1) ∧ Fr n0 L
set_option maxRecDepth 65536 in
set_option maxHeartbeats 40000000 in
theorem rm0 (l : Launch) (Z : State) (a0 : Array Value) (hw : ∀ d ∈ tables_1, d.before a0 Z = true) (ws : List Jvm.Cond) (pS : Int32) (jR : Int64) (pF : Int32) (pT : Int32)  (h0 : Heap) (n0 : Nat) (Z0 : n0 ≤ h0.size)  :
    MetFree l x (head1 (Jvm.Cond.code x code maxLocals ret :: ws) room_1) (fun a U => a = #[(.int pS), (.long jR), (.int pF), (.int pT)] ∧ Z.Warmed39 U.vm ∧ U.heap = h0) (fun _ _ _ _ _ => True) (fun _ U o U' => ∃ v L, o = .returned v ∧ Q_rm0 n0 v U'.heap L ∧ FrameEnd U o U' L room_1.cells room_1.slots) := by
  refine MetFree.of_bodySF (plainFor_of_name pn_0) hisR ?_
  intro p e s m args below meth c s₁ Bd hml0 hP hK
  obtain ⟨rfl, hZ, hh⟩ := hP
  have hx := Bd.exec
  have hby := Bd.bytes
  have hml : c.maxLocals = 10 := hml0
  have hown : s.vm.findClass "com/example/execd/execd/io/RequestHeadEndPinLaw" = some m.cls := findClass_of_methodNamed Bd.named
  have hnm := (name_of_methodNamed Bd.named Bd.method).1
  have X0 : Stand p l e room_1 s m #[(.int pS), (.long jR), (.int pF), (.int pT)] below meth c s₁ [] 0 0 := Stand.of_body Bd
  have e0 : s₁.heap = h0 := by rw [← hh, Bd.state]; rfl
  have N0 := Fr.nil n0
  let PO : Outcome → State → Prop := own_PO s (Q_rm0 n0) 16 128
  show own_Go p e below PO (s₁.setTop (entryFrame m #[(.int pS), (.long jR), (.int pF), (.int pT)] maxLocals))
  rw [ef_rm0]
  show own_Go p e below PO (s₁.setTop (mkF m 0 #[.val (.int pS), .val (.long jR), .second, .val (.int pF), .val (.int pT), .unset, .unset, .unset, .unset, .unset] []))
  refine own_back ?_ (fun t k => XS.bipush X0.here hx rfl (hb hby at_0) k)
  show own_Go p e below PO (s₁.setTop (mkF m 2 #[.val (.int pS), .val (.long jR), .second, .val (.int pF), .val (.int pT), .unset, .unset, .unset, .unset, .unset] [(.int (6 : Int32))]))
  obtain ⟨T1, h1, k1, X1, e1, E1, A1, Ex1, st1⟩ := newPE X0 hx hZ (hw _ (List.mem_of_getElem? (i := 0) rfl)) e0 (g := (mkF m 2 #[.val (.int pS), .val (.long jR), .second, .val (.int pF), .val (.int pT), .unset, .unset, .unset, .unset, .unset] [(.int (6 : Int32))])) rfl (hb hby at_2) rfl (by decide) (cap := 6) (by decide) (by decide) (by decide) (by decide) (ad := "[B") (by decide)
  obtain ⟨b1, g1⟩ : ∃ z, z = h0.size := ⟨_, rfl⟩
  rw [← g1] at A1 Ex1 st1
  have sz_b1 : h0.size ≤ b1 := Nat.le_of_eq g1.symm
  have gn_b1 : n0 ≤ b1 := Nat.le_trans Z0 sz_b1
  have K1 : Keep h0 h1 [] := (Keep.refl h0 []).ext E1
  have Zh1 : n0 ≤ h1.size := Nat.le_trans Z0 K1.1
  have V1 : Arv Z h1 b1 k1 .byte (6 : Int32) [(.int (0 : Int32)), (.int (0 : Int32)), (.int (0 : Int32)), (.int (0 : Int32)), (.int (0 : Int32)), (.int (0 : Int32))] (.int (0 : Int32)) := (Arv.new A1 (by decide)).pad (pad_rep [] (.int (0 : Int32)) 6)
  refine own_back ?_ st1
  show own_Go p e below PO (T1.setTop (mkF m 4 #[.val (.int pS), .val (.long jR), .second, .val (.int pF), .val (.int pT), .unset, .unset, .unset, .unset, .unset] [(.ref b1)]))
  refine own_back ?_ (fun t k => XS.astore X1.here hx rfl (hb hby at_4) rfl rfl (l' := #[.val (.int pS), .val (.long jR), .second, .val (.int pF), .val (.int pT), .val (.ref b1), .unset, .unset, .unset, .unset]) rfl k)
  show own_Go p e below PO (T1.setTop (mkF m 6 #[.val (.int pS), .val (.long jR), .second, .val (.int pF), .val (.int pT), .val (.ref b1), .unset, .unset, .unset, .unset] []))
  refine own_back ?_ (fun t k => XS.aload X1.here hx rfl (hb hby at_6) rfl rfl k)
  show own_Go p e below PO (T1.setTop (mkF m 8 #[.val (.int pS), .val (.long jR), .second, .val (.int pF), .val (.int pT), .val (.ref b1), .unset, .unset, .unset, .unset] [(.ref b1)]))
  refine own_back ?_ (fun t k => XS.iconst X1.here hx rfl (hb hby at_8) k)
  show own_Go p e below PO (T1.setTop (mkF m 9 #[.val (.int pS), .val (.long jR), .second, .val (.int pF), .val (.int pT), .val (.ref b1), .unset, .unset, .unset, .unset] [(.int (0 : Int32)), (.ref b1)]))
  refine own_back ?_ (fun t k => XS.iloadN X1.here hx rfl (hb hby at_9) rfl k)
  show own_Go p e below PO (T1.setTop (mkF m 10 #[.val (.int pS), .val (.long jR), .second, .val (.int pF), .val (.int pT), .val (.ref b1), .unset, .unset, .unset, .unset] [(.int pS), (.int (0 : Int32)), (.ref b1)]))
  refine own_back ?_ (fun t k => XS.lloadN X1.here hx rfl (hb hby at_10) rfl k)
  show own_Go p e below PO (T1.setTop (mkF m 11 #[.val (.int pS), .val (.long jR), .second, .val (.int pF), .val (.int pT), .val (.ref b1), .unset, .unset, .unset, .unset] [(.long jR), (.int pS), (.int (0 : Int32)), (.ref b1)]))
  refine own_back ?_ (fun t k => XS.iconst X1.here hx rfl (hb hby at_11) k)
  show own_Go p e below PO (T1.setTop (mkF m 12 #[.val (.int pS), .val (.long jR), .second, .val (.int pF), .val (.int pT), .val (.ref b1), .unset, .unset, .unset, .unset] [(.int (0 : Int32)), (.long jR), (.int pS), (.int (0 : Int32)), (.ref b1)]))
  obtain ⟨_, _, ⟨T2, L2, k2, n2⟩, -, X2, ⟨Lc2, hQ2, l2, y2, z2⟩, st2⟩ := Jvm.LawKit.callS X1 hx (y := (⟨"com/example/execd/execd/io/RequestHeadEndPinLaw", "pick", "(IJI)B"⟩ : MethodName)) hown (mvT hZ (hw _ (List.mem_of_getElem? (i := 1) rfl))) (mvT hZ (hw _ (List.mem_of_getElem? (i := 2) rfl))) (mvT hZ (hw _ (List.mem_of_getElem? (i := 3) rfl))) (mvT hZ (hw _ (List.mem_of_getElem? (i := 4) rfl))) (by decide) (backOf (W := 2) (rm1 l Z a0 hw [] pS jR (0 : Int32)  h1 n0 Zh1 ) hZ (hw _ (List.mem_of_getElem? (i := 4) rfl)) (hw _ (List.mem_of_getElem? (i := 3) rfl)) (by decide) (by decide)) (g := (mkF m 12 #[.val (.int pS), .val (.long jR), .second, .val (.int pF), .val (.int pT), .val (.ref b1), .unset, .unset, .unset, .unset] [(.int (0 : Int32)), (.long jR), (.int pS), (.int (0 : Int32)), (.ref b1)])) rfl (by rw [hml]; rfl) (argsL := [(.int pS), (.long jR), (.int (0 : Int32))]) (rest := [(.int (0 : Int32)), (.ref b1)]) (lenOf pd_2 rfl) rfl (by show 2 * 0 + _ ≤ _; exact Nat.le_of_eq rfl) (hb hby at_12) (fun _ _ => ⟨rfl, e1, (by decide : 1 + 0 ≤ _), (by decide : 6 + 0 ≤ _)⟩)
  dsimp only [Pt.U, Pt.locs, Pt.cells, Pt.slots] at X2 l2 y2 z2 st2 hQ2
  subst l2 y2 z2
  obtain ⟨rfl, N2q, e2⟩ := hQ2
  have N2 := Fr.app N0 N2q
  refine own_back ?_ st2
  show own_Go p e below PO (T2.setTop (mkF m 15 #[.val (.int pS), .val (.long jR), .second, .val (.int pF), .val (.int pT), .val (.ref b1), .unset, .unset, .unset, .unset] [(.int (own_pick pS jR (0 : Int32))), (.int (0 : Int32)), (.ref b1)]))
  refine own_gen (A := Int32) (own_pick pS jR (0 : Int32)) (fun r12_3 => own_Go p e below PO (T2.setTop (mkF m 15 #[.val (.int pS), .val (.long jR), .second, .val (.int pF), .val (.int pT), .val (.ref b1), .unset, .unset, .unset, .unset] [(.int r12_3), (.int (0 : Int32)), (.ref b1)]))) ?_
  intro r12_3 h_r12_3
  show own_Go p e below PO (T2.setTop (mkF m 15 #[.val (.int pS), .val (.long jR), .second, .val (.int pF), .val (.int pT), .val (.ref b1), .unset, .unset, .unset, .unset] [(.int r12_3), (.int (0 : Int32)), (.ref b1)]))
  obtain ⟨T4, h4, X4, e4, W4, V4, st4⟩ := own_stB X2 hx hZ e2 V1 (j := (0 : Int32)) ⟨by decide, by decide⟩ (i := 0) rfl (by show 0 < 6; decide) (g := (mkF m 15 #[.val (.int pS), .val (.long jR), .second, .val (.int pF), .val (.int pT), .val (.ref b1), .unset, .unset, .unset, .unset] [(.int r12_3), (.int (0 : Int32)), (.ref b1)])) rfl rfl (hb hby at_15)
  replace V4 : Arv Z h4 b1 k1 .byte (6 : Int32) [(.int (nar .byte r12_3)), (.int (0 : Int32)), (.int (0 : Int32)), (.int (0 : Int32)), (.int (0 : Int32)), (.int (0 : Int32))] (.int (0 : Int32)) := V4
  have f4_5 := Ex1.wr W4
  have K4 : Keep h0 h4 [] := (K1).wr W4 (Or.inr sz_b1)
  have N4 := Fr.snoc X4 N2 gn_b1
  have Zh4 : n0 ≤ h4.size := Nat.le_trans Z0 K4.1
  refine own_back ?_ st4
  show own_Go p e below PO (T4.setTop (mkF m 16 #[.val (.int pS), .val (.long jR), .second, .val (.int pF), .val (.int pT), .val (.ref b1), .unset, .unset, .unset, .unset] []))
  refine own_back ?_ (fun t k => XS.aload X4.here hx rfl (hb hby at_16) rfl rfl k)
  show own_Go p e below PO (T4.setTop (mkF m 18 #[.val (.int pS), .val (.long jR), .second, .val (.int pF), .val (.int pT), .val (.ref b1), .unset, .unset, .unset, .unset] [(.ref b1)]))
  refine own_back ?_ (fun t k => XS.iconst X4.here hx rfl (hb hby at_18) k)
  show own_Go p e below PO (T4.setTop (mkF m 19 #[.val (.int pS), .val (.long jR), .second, .val (.int pF), .val (.int pT), .val (.ref b1), .unset, .unset, .unset, .unset] [(.int (1 : Int32)), (.ref b1)]))
  refine own_back ?_ (fun t k => XS.iloadN X4.here hx rfl (hb hby at_19) rfl k)
  show own_Go p e below PO (T4.setTop (mkF m 20 #[.val (.int pS), .val (.long jR), .second, .val (.int pF), .val (.int pT), .val (.ref b1), .unset, .unset, .unset, .unset] [(.int pS), (.int (1 : Int32)), (.ref b1)]))
  refine own_back ?_ (fun t k => XS.lloadN X4.here hx rfl (hb hby at_20) rfl k)
  show own_Go p e below PO (T4.setTop (mkF m 21 #[.val (.int pS), .val (.long jR), .second, .val (.int pF), .val (.int pT), .val (.ref b1), .unset, .unset, .unset, .unset] [(.long jR), (.int pS), (.int (1 : Int32)), (.ref b1)]))
  refine own_back ?_ (fun t k => XS.iconst X4.here hx rfl (hb hby at_21) k)
  show own_Go p e below PO (T4.setTop (mkF m 22 #[.val (.int pS), .val (.long jR), .second, .val (.int pF), .val (.int pT), .val (.ref b1), .unset, .unset, .unset, .unset] [(.int (1 : Int32)), (.long jR), (.int pS), (.int (1 : Int32)), (.ref b1)]))
  obtain ⟨_, _, ⟨T6, L6, k6, n6⟩, -, X6, ⟨Lc6, hQ6, l6, y6, z6⟩, st6⟩ := Jvm.LawKit.callS X4 hx (y := (⟨"com/example/execd/execd/io/RequestHeadEndPinLaw", "pick", "(IJI)B"⟩ : MethodName)) hown (mvT hZ (hw _ (List.mem_of_getElem? (i := 1) rfl))) (mvT hZ (hw _ (List.mem_of_getElem? (i := 2) rfl))) (mvT hZ (hw _ (List.mem_of_getElem? (i := 3) rfl))) (mvT hZ (hw _ (List.mem_of_getElem? (i := 4) rfl))) (by decide) (backOf (W := 2) (rm1 l Z a0 hw [] pS jR (1 : Int32)  h4 n0 Zh4 ) hZ (hw _ (List.mem_of_getElem? (i := 4) rfl)) (hw _ (List.mem_of_getElem? (i := 3) rfl)) (by decide) (by decide)) (g := (mkF m 22 #[.val (.int pS), .val (.long jR), .second, .val (.int pF), .val (.int pT), .val (.ref b1), .unset, .unset, .unset, .unset] [(.int (1 : Int32)), (.long jR), (.int pS), (.int (1 : Int32)), (.ref b1)])) rfl (by rw [hml]; rfl) (argsL := [(.int pS), (.long jR), (.int (1 : Int32))]) (rest := [(.int (1 : Int32)), (.ref b1)]) (lenOf pd_2 rfl) rfl (by show 2 * 0 + _ ≤ _; exact Nat.le_of_eq rfl) (hb hby at_22) (fun _ _ => ⟨rfl, e4, (by decide : 1 + 0 ≤ _), (by decide : 6 + 0 ≤ _)⟩)
  dsimp only [Pt.U, Pt.locs, Pt.cells, Pt.slots] at X6 l6 y6 z6 st6 hQ6
  subst l6 y6 z6
  obtain ⟨rfl, N6q, e6⟩ := hQ6
  have N6 := Fr.app N4 N6q
  refine own_back ?_ st6
  show own_Go p e below PO (T6.setTop (mkF m 25 #[.val (.int pS), .val (.long jR), .second, .val (.int pF), .val (.int pT), .val (.ref b1), .unset, .unset, .unset, .unset] [(.int (own_pick pS jR (1 : Int32))), (.int (1 : Int32)), (.ref b1)]))
  refine own_gen (A := Int32) (own_pick pS jR (1 : Int32)) (fun r22_7 => own_Go p e below PO (T6.setTop (mkF m 25 #[.val (.int pS), .val (.long jR), .second, .val (.int pF), .val (.int pT), .val (.ref b1), .unset, .unset, .unset, .unset] [(.int r22_7), (.int (1 : Int32)), (.ref b1)]))) ?_
  intro r22_7 h_r22_7
  show own_Go p e below PO (T6.setTop (mkF m 25 #[.val (.int pS), .val (.long jR), .second, .val (.int pF), .val (.int pT), .val (.ref b1), .unset, .unset, .unset, .unset] [(.int r22_7), (.int (1 : Int32)), (.ref b1)]))
  obtain ⟨T8, h8, X8, e8, W8, V8, st8⟩ := own_stB X6 hx hZ e6 V4 (j := (1 : Int32)) ⟨by decide, by decide⟩ (i := 1) rfl (by show 1 < 6; decide) (g := (mkF m 25 #[.val (.int pS), .val (.long jR), .second, .val (.int pF), .val (.int pT), .val (.ref b1), .unset, .unset, .unset, .unset] [(.int r22_7), (.int (1 : Int32)), (.ref b1)])) rfl rfl (hb hby at_25)
  replace V8 : Arv Z h8 b1 k1 .byte (6 : Int32) [(.int (nar .byte r12_3)), (.int (nar .byte r22_7)), (.int (0 : Int32)), (.int (0 : Int32)), (.int (0 : Int32)), (.int (0 : Int32))] (.int (0 : Int32)) := V8
  have f8_9 := f4_5.wr W8
  have K8 : Keep h0 h8 [] := (K4).wr W8 (Or.inr sz_b1)
  have N8 := Fr.snoc X8 N6 gn_b1
  have Zh8 : n0 ≤ h8.size := Nat.le_trans Z0 K8.1
  refine own_back ?_ st8
  show own_Go p e below PO (T8.setTop (mkF m 26 #[.val (.int pS), .val (.long jR), .second, .val (.int pF), .val (.int pT), .val (.ref b1), .unset, .unset, .unset, .unset] []))
  refine own_back ?_ (fun t k => XS.aload X8.here hx rfl (hb hby at_26) rfl rfl k)
  show own_Go p e below PO (T8.setTop (mkF m 28 #[.val (.int pS), .val (.long jR), .second, .val (.int pF), .val (.int pT), .val (.ref b1), .unset, .unset, .unset, .unset] [(.ref b1)]))
  refine own_back ?_ (fun t k => XS.iconst X8.here hx rfl (hb hby at_28) k)
  show own_Go p e below PO (T8.setTop (mkF m 29 #[.val (.int pS), .val (.long jR), .second, .val (.int pF), .val (.int pT), .val (.ref b1), .unset, .unset, .unset, .unset] [(.int (2 : Int32)), (.ref b1)]))
  refine own_back ?_ (fun t k => XS.iloadN X8.here hx rfl (hb hby at_29) rfl k)
  show own_Go p e below PO (T8.setTop (mkF m 30 #[.val (.int pS), .val (.long jR), .second, .val (.int pF), .val (.int pT), .val (.ref b1), .unset, .unset, .unset, .unset] [(.int pS), (.int (2 : Int32)), (.ref b1)]))
  refine own_back ?_ (fun t k => XS.lloadN X8.here hx rfl (hb hby at_30) rfl k)
  show own_Go p e below PO (T8.setTop (mkF m 31 #[.val (.int pS), .val (.long jR), .second, .val (.int pF), .val (.int pT), .val (.ref b1), .unset, .unset, .unset, .unset] [(.long jR), (.int pS), (.int (2 : Int32)), (.ref b1)]))
  refine own_back ?_ (fun t k => XS.iconst X8.here hx rfl (hb hby at_31) k)
  show own_Go p e below PO (T8.setTop (mkF m 32 #[.val (.int pS), .val (.long jR), .second, .val (.int pF), .val (.int pT), .val (.ref b1), .unset, .unset, .unset, .unset] [(.int (2 : Int32)), (.long jR), (.int pS), (.int (2 : Int32)), (.ref b1)]))
  obtain ⟨_, _, ⟨T10, L10, k10, n10⟩, -, X10, ⟨Lc10, hQ10, l10, y10, z10⟩, st10⟩ := Jvm.LawKit.callS X8 hx (y := (⟨"com/example/execd/execd/io/RequestHeadEndPinLaw", "pick", "(IJI)B"⟩ : MethodName)) hown (mvT hZ (hw _ (List.mem_of_getElem? (i := 1) rfl))) (mvT hZ (hw _ (List.mem_of_getElem? (i := 2) rfl))) (mvT hZ (hw _ (List.mem_of_getElem? (i := 3) rfl))) (mvT hZ (hw _ (List.mem_of_getElem? (i := 4) rfl))) (by decide) (backOf (W := 2) (rm1 l Z a0 hw [] pS jR (2 : Int32)  h8 n0 Zh8 ) hZ (hw _ (List.mem_of_getElem? (i := 4) rfl)) (hw _ (List.mem_of_getElem? (i := 3) rfl)) (by decide) (by decide)) (g := (mkF m 32 #[.val (.int pS), .val (.long jR), .second, .val (.int pF), .val (.int pT), .val (.ref b1), .unset, .unset, .unset, .unset] [(.int (2 : Int32)), (.long jR), (.int pS), (.int (2 : Int32)), (.ref b1)])) rfl (by rw [hml]; rfl) (argsL := [(.int pS), (.long jR), (.int (2 : Int32))]) (rest := [(.int (2 : Int32)), (.ref b1)]) (lenOf pd_2 rfl) rfl (by show 2 * 0 + _ ≤ _; exact Nat.le_of_eq rfl) (hb hby at_32) (fun _ _ => ⟨rfl, e8, (by decide : 1 + 0 ≤ _), (by decide : 6 + 0 ≤ _)⟩)
  dsimp only [Pt.U, Pt.locs, Pt.cells, Pt.slots] at X10 l10 y10 z10 st10 hQ10
  subst l10 y10 z10
  obtain ⟨rfl, N10q, e10⟩ := hQ10
  have N10 := Fr.app N8 N10q
  refine own_back ?_ st10
  show own_Go p e below PO (T10.setTop (mkF m 35 #[.val (.int pS), .val (.long jR), .second, .val (.int pF), .val (.int pT), .val (.ref b1), .unset, .unset, .unset, .unset] [(.int (own_pick pS jR (2 : Int32))), (.int (2 : Int32)), (.ref b1)]))
  refine own_gen (A := Int32) (own_pick pS jR (2 : Int32)) (fun r32_11 => own_Go p e below PO (T10.setTop (mkF m 35 #[.val (.int pS), .val (.long jR), .second, .val (.int pF), .val (.int pT), .val (.ref b1), .unset, .unset, .unset, .unset] [(.int r32_11), (.int (2 : Int32)), (.ref b1)]))) ?_
  intro r32_11 h_r32_11
  show own_Go p e below PO (T10.setTop (mkF m 35 #[.val (.int pS), .val (.long jR), .second, .val (.int pF), .val (.int pT), .val (.ref b1), .unset, .unset, .unset, .unset] [(.int r32_11), (.int (2 : Int32)), (.ref b1)]))
  obtain ⟨T12, h12, X12, e12, W12, V12, st12⟩ := own_stB X10 hx hZ e10 V8 (j := (2 : Int32)) ⟨by decide, by decide⟩ (i := 2) rfl (by show 2 < 6; decide) (g := (mkF m 35 #[.val (.int pS), .val (.long jR), .second, .val (.int pF), .val (.int pT), .val (.ref b1), .unset, .unset, .unset, .unset] [(.int r32_11), (.int (2 : Int32)), (.ref b1)])) rfl rfl (hb hby at_35)
  replace V12 : Arv Z h12 b1 k1 .byte (6 : Int32) [(.int (nar .byte r12_3)), (.int (nar .byte r22_7)), (.int (nar .byte r32_11)), (.int (0 : Int32)), (.int (0 : Int32)), (.int (0 : Int32))] (.int (0 : Int32)) := V12
  have f12_13 := f8_9.wr W12
  have K12 : Keep h0 h12 [] := (K8).wr W12 (Or.inr sz_b1)
  have N12 := Fr.snoc X12 N10 gn_b1
  have Zh12 : n0 ≤ h12.size := Nat.le_trans Z0 K12.1
  refine own_back ?_ st12
  show own_Go p e below PO (T12.setTop (mkF m 36 #[.val (.int pS), .val (.long jR), .second, .val (.int pF), .val (.int pT), .val (.ref b1), .unset, .unset, .unset, .unset] []))
  refine own_back ?_ (fun t k => XS.aload X12.here hx rfl (hb hby at_36) rfl rfl k)
  show own_Go p e below PO (T12.setTop (mkF m 38 #[.val (.int pS), .val (.long jR), .second, .val (.int pF), .val (.int pT), .val (.ref b1), .unset, .unset, .unset, .unset] [(.ref b1)]))
  refine own_back ?_ (fun t k => XS.iconst X12.here hx rfl (hb hby at_38) k)
  show own_Go p e below PO (T12.setTop (mkF m 39 #[.val (.int pS), .val (.long jR), .second, .val (.int pF), .val (.int pT), .val (.ref b1), .unset, .unset, .unset, .unset] [(.int (3 : Int32)), (.ref b1)]))
  refine own_back ?_ (fun t k => XS.iloadN X12.here hx rfl (hb hby at_39) rfl k)
  show own_Go p e below PO (T12.setTop (mkF m 40 #[.val (.int pS), .val (.long jR), .second, .val (.int pF), .val (.int pT), .val (.ref b1), .unset, .unset, .unset, .unset] [(.int pS), (.int (3 : Int32)), (.ref b1)]))
  refine own_back ?_ (fun t k => XS.lloadN X12.here hx rfl (hb hby at_40) rfl k)
  show own_Go p e below PO (T12.setTop (mkF m 41 #[.val (.int pS), .val (.long jR), .second, .val (.int pF), .val (.int pT), .val (.ref b1), .unset, .unset, .unset, .unset] [(.long jR), (.int pS), (.int (3 : Int32)), (.ref b1)]))
  refine own_back ?_ (fun t k => XS.iconst X12.here hx rfl (hb hby at_41) k)
  show own_Go p e below PO (T12.setTop (mkF m 42 #[.val (.int pS), .val (.long jR), .second, .val (.int pF), .val (.int pT), .val (.ref b1), .unset, .unset, .unset, .unset] [(.int (3 : Int32)), (.long jR), (.int pS), (.int (3 : Int32)), (.ref b1)]))
  obtain ⟨_, _, ⟨T14, L14, k14, n14⟩, -, X14, ⟨Lc14, hQ14, l14, y14, z14⟩, st14⟩ := Jvm.LawKit.callS X12 hx (y := (⟨"com/example/execd/execd/io/RequestHeadEndPinLaw", "pick", "(IJI)B"⟩ : MethodName)) hown (mvT hZ (hw _ (List.mem_of_getElem? (i := 1) rfl))) (mvT hZ (hw _ (List.mem_of_getElem? (i := 2) rfl))) (mvT hZ (hw _ (List.mem_of_getElem? (i := 3) rfl))) (mvT hZ (hw _ (List.mem_of_getElem? (i := 4) rfl))) (by decide) (backOf (W := 2) (rm1 l Z a0 hw [] pS jR (3 : Int32)  h12 n0 Zh12 ) hZ (hw _ (List.mem_of_getElem? (i := 4) rfl)) (hw _ (List.mem_of_getElem? (i := 3) rfl)) (by decide) (by decide)) (g := (mkF m 42 #[.val (.int pS), .val (.long jR), .second, .val (.int pF), .val (.int pT), .val (.ref b1), .unset, .unset, .unset, .unset] [(.int (3 : Int32)), (.long jR), (.int pS), (.int (3 : Int32)), (.ref b1)])) rfl (by rw [hml]; rfl) (argsL := [(.int pS), (.long jR), (.int (3 : Int32))]) (rest := [(.int (3 : Int32)), (.ref b1)]) (lenOf pd_2 rfl) rfl (by show 2 * 0 + _ ≤ _; exact Nat.le_of_eq rfl) (hb hby at_42) (fun _ _ => ⟨rfl, e12, (by decide : 1 + 0 ≤ _), (by decide : 6 + 0 ≤ _)⟩)
  dsimp only [Pt.U, Pt.locs, Pt.cells, Pt.slots] at X14 l14 y14 z14 st14 hQ14
  subst l14 y14 z14
  obtain ⟨rfl, N14q, e14⟩ := hQ14
  have N14 := Fr.app N12 N14q
  refine own_back ?_ st14
  show own_Go p e below PO (T14.setTop (mkF m 45 #[.val (.int pS), .val (.long jR), .second, .val (.int pF), .val (.int pT), .val (.ref b1), .unset, .unset, .unset, .unset] [(.int (own_pick pS jR (3 : Int32))), (.int (3 : Int32)), (.ref b1)]))
  refine own_gen (A := Int32) (own_pick pS jR (3 : Int32)) (fun r42_15 => own_Go p e below PO (T14.setTop (mkF m 45 #[.val (.int pS), .val (.long jR), .second, .val (.int pF), .val (.int pT), .val (.ref b1), .unset, .unset, .unset, .unset] [(.int r42_15), (.int (3 : Int32)), (.ref b1)]))) ?_
  intro r42_15 h_r42_15
  show own_Go p e below PO (T14.setTop (mkF m 45 #[.val (.int pS), .val (.long jR), .second, .val (.int pF), .val (.int pT), .val (.ref b1), .unset, .unset, .unset, .unset] [(.int r42_15), (.int (3 : Int32)), (.ref b1)]))
  obtain ⟨T16, h16, X16, e16, W16, V16, st16⟩ := own_stB X14 hx hZ e14 V12 (j := (3 : Int32)) ⟨by decide, by decide⟩ (i := 3) rfl (by show 3 < 6; decide) (g := (mkF m 45 #[.val (.int pS), .val (.long jR), .second, .val (.int pF), .val (.int pT), .val (.ref b1), .unset, .unset, .unset, .unset] [(.int r42_15), (.int (3 : Int32)), (.ref b1)])) rfl rfl (hb hby at_45)
  replace V16 : Arv Z h16 b1 k1 .byte (6 : Int32) [(.int (nar .byte r12_3)), (.int (nar .byte r22_7)), (.int (nar .byte r32_11)), (.int (nar .byte r42_15)), (.int (0 : Int32)), (.int (0 : Int32))] (.int (0 : Int32)) := V16
  have f16_17 := f12_13.wr W16
  have K16 : Keep h0 h16 [] := (K12).wr W16 (Or.inr sz_b1)
  have N16 := Fr.snoc X16 N14 gn_b1
  have Zh16 : n0 ≤ h16.size := Nat.le_trans Z0 K16.1
  refine own_back ?_ st16
  show own_Go p e below PO (T16.setTop (mkF m 46 #[.val (.int pS), .val (.long jR), .second, .val (.int pF), .val (.int pT), .val (.ref b1), .unset, .unset, .unset, .unset] []))
  refine own_back ?_ (fun t k => XS.aload X16.here hx rfl (hb hby at_46) rfl rfl k)
  show own_Go p e below PO (T16.setTop (mkF m 48 #[.val (.int pS), .val (.long jR), .second, .val (.int pF), .val (.int pT), .val (.ref b1), .unset, .unset, .unset, .unset] [(.ref b1)]))
  refine own_back ?_ (fun t k => XS.iconst X16.here hx rfl (hb hby at_48) k)
  show own_Go p e below PO (T16.setTop (mkF m 49 #[.val (.int pS), .val (.long jR), .second, .val (.int pF), .val (.int pT), .val (.ref b1), .unset, .unset, .unset, .unset] [(.int (4 : Int32)), (.ref b1)]))
  refine own_back ?_ (fun t k => XS.iloadN X16.here hx rfl (hb hby at_49) rfl k)
  show own_Go p e below PO (T16.setTop (mkF m 50 #[.val (.int pS), .val (.long jR), .second, .val (.int pF), .val (.int pT), .val (.ref b1), .unset, .unset, .unset, .unset] [(.int pS), (.int (4 : Int32)), (.ref b1)]))
  refine own_back ?_ (fun t k => XS.lloadN X16.here hx rfl (hb hby at_50) rfl k)
  show own_Go p e below PO (T16.setTop (mkF m 51 #[.val (.int pS), .val (.long jR), .second, .val (.int pF), .val (.int pT), .val (.ref b1), .unset, .unset, .unset, .unset] [(.long jR), (.int pS), (.int (4 : Int32)), (.ref b1)]))
  refine own_back ?_ (fun t k => XS.iconst X16.here hx rfl (hb hby at_51) k)
  show own_Go p e below PO (T16.setTop (mkF m 52 #[.val (.int pS), .val (.long jR), .second, .val (.int pF), .val (.int pT), .val (.ref b1), .unset, .unset, .unset, .unset] [(.int (4 : Int32)), (.long jR), (.int pS), (.int (4 : Int32)), (.ref b1)]))
  obtain ⟨_, _, ⟨T18, L18, k18, n18⟩, -, X18, ⟨Lc18, hQ18, l18, y18, z18⟩, st18⟩ := Jvm.LawKit.callS X16 hx (y := (⟨"com/example/execd/execd/io/RequestHeadEndPinLaw", "pick", "(IJI)B"⟩ : MethodName)) hown (mvT hZ (hw _ (List.mem_of_getElem? (i := 1) rfl))) (mvT hZ (hw _ (List.mem_of_getElem? (i := 2) rfl))) (mvT hZ (hw _ (List.mem_of_getElem? (i := 3) rfl))) (mvT hZ (hw _ (List.mem_of_getElem? (i := 4) rfl))) (by decide) (backOf (W := 2) (rm1 l Z a0 hw [] pS jR (4 : Int32)  h16 n0 Zh16 ) hZ (hw _ (List.mem_of_getElem? (i := 4) rfl)) (hw _ (List.mem_of_getElem? (i := 3) rfl)) (by decide) (by decide)) (g := (mkF m 52 #[.val (.int pS), .val (.long jR), .second, .val (.int pF), .val (.int pT), .val (.ref b1), .unset, .unset, .unset, .unset] [(.int (4 : Int32)), (.long jR), (.int pS), (.int (4 : Int32)), (.ref b1)])) rfl (by rw [hml]; rfl) (argsL := [(.int pS), (.long jR), (.int (4 : Int32))]) (rest := [(.int (4 : Int32)), (.ref b1)]) (lenOf pd_2 rfl) rfl (by show 2 * 0 + _ ≤ _; exact Nat.le_of_eq rfl) (hb hby at_52) (fun _ _ => ⟨rfl, e16, (by decide : 1 + 0 ≤ _), (by decide : 6 + 0 ≤ _)⟩)
  dsimp only [Pt.U, Pt.locs, Pt.cells, Pt.slots] at X18 l18 y18 z18 st18 hQ18
  subst l18 y18 z18
  obtain ⟨rfl, N18q, e18⟩ := hQ18
  have N18 := Fr.app N16 N18q
  refine own_back ?_ st18
  show own_Go p e below PO (T18.setTop (mkF m 55 #[.val (.int pS), .val (.long jR), .second, .val (.int pF), .val (.int pT), .val (.ref b1), .unset, .unset, .unset, .unset] [(.int (own_pick pS jR (4 : Int32))), (.int (4 : Int32)), (.ref b1)]))
  refine own_gen (A := Int32) (own_pick pS jR (4 : Int32)) (fun r52_19 => own_Go p e below PO (T18.setTop (mkF m 55 #[.val (.int pS), .val (.long jR), .second, .val (.int pF), .val (.int pT), .val (.ref b1), .unset, .unset, .unset, .unset] [(.int r52_19), (.int (4 : Int32)), (.ref b1)]))) ?_
  intro r52_19 h_r52_19
  show own_Go p e below PO (T18.setTop (mkF m 55 #[.val (.int pS), .val (.long jR), .second, .val (.int pF), .val (.int pT), .val (.ref b1), .unset, .unset, .unset, .unset] [(.int r52_19), (.int (4 : Int32)), (.ref b1)]))
  obtain ⟨T20, h20, X20, e20, W20, V20, st20⟩ := own_stB X18 hx hZ e18 V16 (j := (4 : Int32)) ⟨by decide, by decide⟩ (i := 4) rfl (by show 4 < 6; decide) (g := (mkF m 55 #[.val (.int pS), .val (.long jR), .second, .val (.int pF), .val (.int pT), .val (.ref b1), .unset, .unset, .unset, .unset] [(.int r52_19), (.int (4 : Int32)), (.ref b1)])) rfl rfl (hb hby at_55)
  replace V20 : Arv Z h20 b1 k1 .byte (6 : Int32) [(.int (nar .byte r12_3)), (.int (nar .byte r22_7)), (.int (nar .byte r32_11)), (.int (nar .byte r42_15)), (.int (nar .byte r52_19)), (.int (0 : Int32))] (.int (0 : Int32)) := V20
  have f20_21 := f16_17.wr W20
  have K20 : Keep h0 h20 [] := (K16).wr W20 (Or.inr sz_b1)
  have N20 := Fr.snoc X20 N18 gn_b1
  have Zh20 : n0 ≤ h20.size := Nat.le_trans Z0 K20.1
  refine own_back ?_ st20
  show own_Go p e below PO (T20.setTop (mkF m 56 #[.val (.int pS), .val (.long jR), .second, .val (.int pF), .val (.int pT), .val (.ref b1), .unset, .unset, .unset, .unset] []))
  refine own_back ?_ (fun t k => XS.aload X20.here hx rfl (hb hby at_56) rfl rfl k)
  show own_Go p e below PO (T20.setTop (mkF m 58 #[.val (.int pS), .val (.long jR), .second, .val (.int pF), .val (.int pT), .val (.ref b1), .unset, .unset, .unset, .unset] [(.ref b1)]))
  refine own_back ?_ (fun t k => XS.iconst X20.here hx rfl (hb hby at_58) k)
  show own_Go p e below PO (T20.setTop (mkF m 59 #[.val (.int pS), .val (.long jR), .second, .val (.int pF), .val (.int pT), .val (.ref b1), .unset, .unset, .unset, .unset] [(.int (5 : Int32)), (.ref b1)]))
  refine own_back ?_ (fun t k => XS.iloadN X20.here hx rfl (hb hby at_59) rfl k)
  show own_Go p e below PO (T20.setTop (mkF m 60 #[.val (.int pS), .val (.long jR), .second, .val (.int pF), .val (.int pT), .val (.ref b1), .unset, .unset, .unset, .unset] [(.int pS), (.int (5 : Int32)), (.ref b1)]))
  refine own_back ?_ (fun t k => XS.lloadN X20.here hx rfl (hb hby at_60) rfl k)
  show own_Go p e below PO (T20.setTop (mkF m 61 #[.val (.int pS), .val (.long jR), .second, .val (.int pF), .val (.int pT), .val (.ref b1), .unset, .unset, .unset, .unset] [(.long jR), (.int pS), (.int (5 : Int32)), (.ref b1)]))
  refine own_back ?_ (fun t k => XS.iconst X20.here hx rfl (hb hby at_61) k)
  show own_Go p e below PO (T20.setTop (mkF m 62 #[.val (.int pS), .val (.long jR), .second, .val (.int pF), .val (.int pT), .val (.ref b1), .unset, .unset, .unset, .unset] [(.int (5 : Int32)), (.long jR), (.int pS), (.int (5 : Int32)), (.ref b1)]))
  obtain ⟨_, _, ⟨T22, L22, k22, n22⟩, -, X22, ⟨Lc22, hQ22, l22, y22, z22⟩, st22⟩ := Jvm.LawKit.callS X20 hx (y := (⟨"com/example/execd/execd/io/RequestHeadEndPinLaw", "pick", "(IJI)B"⟩ : MethodName)) hown (mvT hZ (hw _ (List.mem_of_getElem? (i := 1) rfl))) (mvT hZ (hw _ (List.mem_of_getElem? (i := 2) rfl))) (mvT hZ (hw _ (List.mem_of_getElem? (i := 3) rfl))) (mvT hZ (hw _ (List.mem_of_getElem? (i := 4) rfl))) (by decide) (backOf (W := 2) (rm1 l Z a0 hw [] pS jR (5 : Int32)  h20 n0 Zh20 ) hZ (hw _ (List.mem_of_getElem? (i := 4) rfl)) (hw _ (List.mem_of_getElem? (i := 3) rfl)) (by decide) (by decide)) (g := (mkF m 62 #[.val (.int pS), .val (.long jR), .second, .val (.int pF), .val (.int pT), .val (.ref b1), .unset, .unset, .unset, .unset] [(.int (5 : Int32)), (.long jR), (.int pS), (.int (5 : Int32)), (.ref b1)])) rfl (by rw [hml]; rfl) (argsL := [(.int pS), (.long jR), (.int (5 : Int32))]) (rest := [(.int (5 : Int32)), (.ref b1)]) (lenOf pd_2 rfl) rfl (by show 2 * 0 + _ ≤ _; exact Nat.le_of_eq rfl) (hb hby at_62) (fun _ _ => ⟨rfl, e20, (by decide : 1 + 0 ≤ _), (by decide : 6 + 0 ≤ _)⟩)
  dsimp only [Pt.U, Pt.locs, Pt.cells, Pt.slots] at X22 l22 y22 z22 st22 hQ22
  subst l22 y22 z22
  obtain ⟨rfl, N22q, e22⟩ := hQ22
  have N22 := Fr.app N20 N22q
  refine own_back ?_ st22
  show own_Go p e below PO (T22.setTop (mkF m 65 #[.val (.int pS), .val (.long jR), .second, .val (.int pF), .val (.int pT), .val (.ref b1), .unset, .unset, .unset, .unset] [(.int (own_pick pS jR (5 : Int32))), (.int (5 : Int32)), (.ref b1)]))
  refine own_gen (A := Int32) (own_pick pS jR (5 : Int32)) (fun r62_23 => own_Go p e below PO (T22.setTop (mkF m 65 #[.val (.int pS), .val (.long jR), .second, .val (.int pF), .val (.int pT), .val (.ref b1), .unset, .unset, .unset, .unset] [(.int r62_23), (.int (5 : Int32)), (.ref b1)]))) ?_
  intro r62_23 h_r62_23
  show own_Go p e below PO (T22.setTop (mkF m 65 #[.val (.int pS), .val (.long jR), .second, .val (.int pF), .val (.int pT), .val (.ref b1), .unset, .unset, .unset, .unset] [(.int r62_23), (.int (5 : Int32)), (.ref b1)]))
  obtain ⟨T24, h24, X24, e24, W24, V24, st24⟩ := own_stB X22 hx hZ e22 V20 (j := (5 : Int32)) ⟨by decide, by decide⟩ (i := 5) rfl (by show 5 < 6; decide) (g := (mkF m 65 #[.val (.int pS), .val (.long jR), .second, .val (.int pF), .val (.int pT), .val (.ref b1), .unset, .unset, .unset, .unset] [(.int r62_23), (.int (5 : Int32)), (.ref b1)])) rfl rfl (hb hby at_65)
  replace V24 : Arv Z h24 b1 k1 .byte (6 : Int32) [(.int (nar .byte r12_3)), (.int (nar .byte r22_7)), (.int (nar .byte r32_11)), (.int (nar .byte r42_15)), (.int (nar .byte r52_19)), (.int (nar .byte r62_23))] (.int (0 : Int32)) := V24
  have f24_25 := f20_21.wr W24
  have K24 : Keep h0 h24 [] := (K20).wr W24 (Or.inr sz_b1)
  have N24 := Fr.snoc X24 N22 gn_b1
  have Zh24 : n0 ≤ h24.size := Nat.le_trans Z0 K24.1
  refine own_back ?_ st24
  show own_Go p e below PO (T24.setTop (mkF m 66 #[.val (.int pS), .val (.long jR), .second, .val (.int pF), .val (.int pT), .val (.ref b1), .unset, .unset, .unset, .unset] []))
  refine own_back ?_ (fun t k => XS.iload X24.here hx rfl (hb hby at_66) rfl k)
  show own_Go p e below PO (T24.setTop (mkF m 68 #[.val (.int pS), .val (.long jR), .second, .val (.int pF), .val (.int pT), .val (.ref b1), .unset, .unset, .unset, .unset] [(.int pT)]))
  refine own_back ?_ (fun t k => X24.ldcInt hx hown (mvT hZ (hw _ (List.mem_of_getElem? (i := 5) rfl))) (g := (mkF m 68 #[.val (.int pS), .val (.long jR), .second, .val (.int pF), .val (.int pT), .val (.ref b1), .unset, .unset, .unset, .unset] [(.int pT)])) rfl (hb hby at_68) _ k)
  show own_Go p e below PO (T24.setTop (mkF m 70 #[.val (.int pS), .val (.long jR), .second, .val (.int pF), .val (.int pT), .val (.ref b1), .unset, .unset, .unset, .unset] [(.int (2147483647 : Int32)), (.int pT)]))
  refine own_back ?_ (fun t k => XS.iand X24.here hx rfl (hb hby at_70) rfl k)
  show own_Go p e below PO (T24.setTop (mkF m 71 #[.val (.int pS), .val (.long jR), .second, .val (.int pF), .val (.int pT), .val (.ref b1), .unset, .unset, .unset, .unset] [(.int (pT &&& (2147483647 : Int32)))]))
  refine own_back ?_ (fun t k => XS.bipush X24.here hx rfl (hb hby at_71) k)
  show own_Go p e below PO (T24.setTop (mkF m 73 #[.val (.int pS), .val (.long jR), .second, .val (.int pF), .val (.int pT), .val (.ref b1), .unset, .unset, .unset, .unset] [(.int (7 : Int32)), (.int (pT &&& (2147483647 : Int32)))]))
  refine own_back ?_ (fun t k => iremM X24 hx rfl (hb hby at_73) rfl (by decide) k)
  show own_Go p e below PO (T24.setTop (mkF m 74 #[.val (.int pS), .val (.long jR), .second, .val (.int pF), .val (.int pT), .val (.ref b1), .unset, .unset, .unset, .unset] [(.int ((pT &&& (2147483647 : Int32)) % (7 : Int32)))]))
  refine own_back ?_ (fun t k => XS.istore X24.here hx rfl (hb hby at_74) rfl (l' := #[.val (.int pS), .val (.long jR), .second, .val (.int pF), .val (.int pT), .val (.ref b1), .val (.int ((pT &&& (2147483647 : Int32)) % (7 : Int32))), .unset, .unset, .unset]) rfl k)
  show own_Go p e below PO (T24.setTop (mkF m 76 #[.val (.int pS), .val (.long jR), .second, .val (.int pF), .val (.int pT), .val (.ref b1), .val (.int ((pT &&& (2147483647 : Int32)) % (7 : Int32))), .unset, .unset, .unset] []))
  refine own_gen (A := Int32) ((pT &&& (2147483647 : Int32)) % (7 : Int32)) (fun v6_26 => own_Go p e below PO (T24.setTop (mkF m 76 #[.val (.int pS), .val (.long jR), .second, .val (.int pF), .val (.int pT), .val (.ref b1), .val (.int v6_26), .unset, .unset, .unset] []))) ?_
  intro v6_26 h_v6_26
  show own_Go p e below PO (T24.setTop (mkF m 76 #[.val (.int pS), .val (.long jR), .second, .val (.int pF), .val (.int pT), .val (.ref b1), .val (.int v6_26), .unset, .unset, .unset] []))
  refine own_back ?_ (fun t k => XS.iloadN X24.here hx rfl (hb hby at_76) rfl k)
  show own_Go p e below PO (T24.setTop (mkF m 77 #[.val (.int pS), .val (.long jR), .second, .val (.int pF), .val (.int pT), .val (.ref b1), .val (.int v6_26), .unset, .unset, .unset] [(.int pF)]))
  refine own_back ?_ (fun t k => X24.ldcInt hx hown (mvT hZ (hw _ (List.mem_of_getElem? (i := 5) rfl))) (g := (mkF m 77 #[.val (.int pS), .val (.long jR), .second, .val (.int pF), .val (.int pT), .val (.ref b1), .val (.int v6_26), .unset, .unset, .unset] [(.int pF)])) rfl (hb hby at_77) _ k)
  show own_Go p e below PO (T24.setTop (mkF m 79 #[.val (.int pS), .val (.long jR), .second, .val (.int pF), .val (.int pT), .val (.ref b1), .val (.int v6_26), .unset, .unset, .unset] [(.int (2147483647 : Int32)), (.int pF)]))
  refine own_back ?_ (fun t k => XS.iand X24.here hx rfl (hb hby at_79) rfl k)
  show own_Go p e below PO (T24.setTop (mkF m 80 #[.val (.int pS), .val (.long jR), .second, .val (.int pF), .val (.int pT), .val (.ref b1), .val (.int v6_26), .unset, .unset, .unset] [(.int (pF &&& (2147483647 : Int32)))]))
  refine own_back ?_ (fun t k => XS.iload X24.here hx rfl (hb hby at_80) rfl k)
  show own_Go p e below PO (T24.setTop (mkF m 82 #[.val (.int pS), .val (.long jR), .second, .val (.int pF), .val (.int pT), .val (.ref b1), .val (.int v6_26), .unset, .unset, .unset] [(.int v6_26), (.int (pF &&& (2147483647 : Int32)))]))
  refine own_back ?_ (fun t k => XS.iconst X24.here hx rfl (hb hby at_82) k)
  show own_Go p e below PO (T24.setTop (mkF m 83 #[.val (.int pS), .val (.long jR), .second, .val (.int pF), .val (.int pT), .val (.ref b1), .val (.int v6_26), .unset, .unset, .unset] [(.int (1 : Int32)), (.int v6_26), (.int (pF &&& (2147483647 : Int32)))]))
  refine own_back ?_ (fun t k => XS.iadd X24.here hx rfl (hb hby at_83) rfl k)
  show own_Go p e below PO (T24.setTop (mkF m 84 #[.val (.int pS), .val (.long jR), .second, .val (.int pF), .val (.int pT), .val (.ref b1), .val (.int v6_26), .unset, .unset, .unset] [(.int (v6_26 + (1 : Int32))), (.int (pF &&& (2147483647 : Int32)))]))
  refine own_back ?_ (fun t k => iremM X24 hx rfl (hb hby at_84) rfl (own_nz h_v6_26) k)
  show own_Go p e below PO (T24.setTop (mkF m 85 #[.val (.int pS), .val (.long jR), .second, .val (.int pF), .val (.int pT), .val (.ref b1), .val (.int v6_26), .unset, .unset, .unset] [(.int ((pF &&& (2147483647 : Int32)) % (v6_26 + (1 : Int32))))]))
  refine own_back ?_ (fun t k => XS.istore X24.here hx rfl (hb hby at_85) rfl (l' := #[.val (.int pS), .val (.long jR), .second, .val (.int pF), .val (.int pT), .val (.ref b1), .val (.int v6_26), .val (.int ((pF &&& (2147483647 : Int32)) % (v6_26 + (1 : Int32)))), .unset, .unset]) rfl k)
  show own_Go p e below PO (T24.setTop (mkF m 87 #[.val (.int pS), .val (.long jR), .second, .val (.int pF), .val (.int pT), .val (.ref b1), .val (.int v6_26), .val (.int ((pF &&& (2147483647 : Int32)) % (v6_26 + (1 : Int32)))), .unset, .unset] []))
  refine own_gen (A := Int32) ((pF &&& (2147483647 : Int32)) % (v6_26 + (1 : Int32))) (fun v7_27 => own_Go p e below PO (T24.setTop (mkF m 87 #[.val (.int pS), .val (.long jR), .second, .val (.int pF), .val (.int pT), .val (.ref b1), .val (.int v6_26), .val (.int v7_27), .unset, .unset] []))) ?_
  intro v7_27 h_v7_27
  show own_Go p e below PO (T24.setTop (mkF m 87 #[.val (.int pS), .val (.long jR), .second, .val (.int pF), .val (.int pT), .val (.ref b1), .val (.int v6_26), .val (.int v7_27), .unset, .unset] []))
  refine own_back ?_ (fun t k => XS.aload X24.here hx rfl (hb hby at_87) rfl rfl k)
  show own_Go p e below PO (T24.setTop (mkF m 89 #[.val (.int pS), .val (.long jR), .second, .val (.int pF), .val (.int pT), .val (.ref b1), .val (.int v6_26), .val (.int v7_27), .unset, .unset] [(.ref b1)]))
  refine own_back ?_ (fun t k => XS.iload X24.here hx rfl (hb hby at_89) rfl k)
  show own_Go p e below PO (T24.setTop (mkF m 91 #[.val (.int pS), .val (.long jR), .second, .val (.int pF), .val (.int pT), .val (.ref b1), .val (.int v6_26), .val (.int v7_27), .unset, .unset] [(.int v6_26), (.ref b1)]))
  obtain ⟨_, _, ⟨T28, L28, k28, n28⟩, -, X28, ⟨Lc28, hQ28, l28, y28, z28⟩, st28⟩ := Jvm.LawKit.callS X24 hx (y := (⟨"com/example/execd/execd/io/RequestHeadEndPinLaw", "ref", "([BI)I"⟩ : MethodName)) hown (mvT hZ (hw _ (List.mem_of_getElem? (i := 6) rfl))) (mvT hZ (hw _ (List.mem_of_getElem? (i := 7) rfl))) (mvT hZ (hw _ (List.mem_of_getElem? (i := 3) rfl))) (mvT hZ (hw _ (List.mem_of_getElem? (i := 8) rfl))) (by decide) (backOf (W := 0) (rm2 l Z a0 hw [] b1 v6_26 [(nar .byte r12_3), (nar .byte r22_7), (nar .byte r32_11), (nar .byte r42_15), (nar .byte r52_19), (nar .byte r62_23)] k1 h24 n0 Zh24 V24) hZ (hw _ (List.mem_of_getElem? (i := 8) rfl)) (hw _ (List.mem_of_getElem? (i := 3) rfl)) (by decide) (by decide)) (g := (mkF m 91 #[.val (.int pS), .val (.long jR), .second, .val (.int pF), .val (.int pT), .val (.ref b1), .val (.int v6_26), .val (.int v7_27), .unset, .unset] [(.int v6_26), (.ref b1)])) rfl (by rw [hml]; rfl) (argsL := [(.ref b1), (.int v6_26)]) (rest := []) (lenOf pd_3 rfl) rfl (by show 2 * 0 + _ ≤ _; exact Nat.le_of_eq rfl) (hb hby at_91) (fun _ _ => ⟨rfl, e24, (by decide : 1 + 0 ≤ _), (by decide : 6 + 0 ≤ _)⟩)
  dsimp only [Pt.U, Pt.locs, Pt.cells, Pt.slots] at X28 l28 y28 z28 st28 hQ28
  subst l28 y28 z28
  obtain ⟨rfl, N28q, e28⟩ := hQ28
  have N28 := Fr.app N24 N28q
  refine own_back ?_ st28
  show own_Go p e below PO (T28.setTop (mkF m 94 #[.val (.int pS), .val (.long jR), .second, .val (.int pF), .val (.int pT), .val (.ref b1), .val (.int v6_26), .val (.int v7_27), .unset, .unset] [(.int (own_ref [(nar .byte r12_3), (nar .byte r22_7), (nar .byte r32_11), (nar .byte r42_15), (nar .byte r52_19), (nar .byte r62_23)] v6_26))]))
  refine own_gen (A := Int32) (own_ref [(nar .byte r12_3), (nar .byte r22_7), (nar .byte r32_11), (nar .byte r42_15), (nar .byte r52_19), (nar .byte r62_23)] v6_26) (fun r91_29 => own_Go p e below PO (T28.setTop (mkF m 94 #[.val (.int pS), .val (.long jR), .second, .val (.int pF), .val (.int pT), .val (.ref b1), .val (.int v6_26), .val (.int v7_27), .unset, .unset] [(.int r91_29)]))) ?_
  intro r91_29 h_r91_29
  show own_Go p e below PO (T28.setTop (mkF m 94 #[.val (.int pS), .val (.long jR), .second, .val (.int pF), .val (.int pT), .val (.ref b1), .val (.int v6_26), .val (.int v7_27), .unset, .unset] [(.int r91_29)]))
  refine own_back ?_ (fun t k => XS.istore X28.here hx rfl (hb hby at_94) rfl (l' := #[.val (.int pS), .val (.long jR), .second, .val (.int pF), .val (.int pT), .val (.ref b1), .val (.int v6_26), .val (.int v7_27), .val (.int r91_29), .unset]) rfl k)
  show own_Go p e below PO (T28.setTop (mkF m 96 #[.val (.int pS), .val (.long jR), .second, .val (.int pF), .val (.int pT), .val (.ref b1), .val (.int v6_26), .val (.int v7_27), .val (.int r91_29), .unset] []))
  refine own_back ?_ (fun t k => XS.aload X28.here hx rfl (hb hby at_96) rfl rfl k)
  show own_Go p e below PO (T28.setTop (mkF m 98 #[.val (.int pS), .val (.long jR), .second, .val (.int pF), .val (.int pT), .val (.ref b1), .val (.int v6_26), .val (.int v7_27), .val (.int r91_29), .unset] [(.ref b1)]))
  refine own_back ?_ (fun t k => XS.iconst X28.here hx rfl (hb hby at_98) k)
  show own_Go p e below PO (T28.setTop (mkF m 99 #[.val (.int pS), .val (.long jR), .second, .val (.int pF), .val (.int pT), .val (.ref b1), .val (.int v6_26), .val (.int v7_27), .val (.int r91_29), .unset] [(.int (0 : Int32)), (.ref b1)]))
  refine own_back ?_ (fun t k => XS.iload X28.here hx rfl (hb hby at_99) rfl k)
  show own_Go p e below PO (T28.setTop (mkF m 101 #[.val (.int pS), .val (.long jR), .second, .val (.int pF), .val (.int pT), .val (.ref b1), .val (.int v6_26), .val (.int v7_27), .val (.int r91_29), .unset] [(.int v6_26), (.int (0 : Int32)), (.ref b1)]))
  obtain ⟨_, _, ⟨T30, L30, k30, n30⟩, -, X30, ⟨Lc30, hQ30, l30, y30, z30⟩, st30⟩ := Jvm.LawKit.callS X28 hx (y := (⟨"com/example/execd/execd/io/RequestHead", "end", "([BII)I"⟩ : MethodName)) hown (mvT hZ (hw _ (List.mem_of_getElem? (i := 9) rfl))) (mvT hZ (hw _ (List.mem_of_getElem? (i := 10) rfl))) (mvT hZ (hw _ (List.mem_of_getElem? (i := 11) rfl))) (mvT hZ (hw _ (List.mem_of_getElem? (i := 12) rfl))) (by decide) (backOf (W := 0) (rm3 l Z a0 hw [] b1 (0 : Int32) v6_26 [(nar .byte r12_3), (nar .byte r22_7), (nar .byte r32_11), (nar .byte r42_15), (nar .byte r52_19), (nar .byte r62_23)] k1 h24 n0 Zh24 V24 (own_t6 h_v6_26)) hZ (hw _ (List.mem_of_getElem? (i := 12) rfl)) (hw _ (List.mem_of_getElem? (i := 11) rfl)) (by decide) (by decide)) (g := (mkF m 101 #[.val (.int pS), .val (.long jR), .second, .val (.int pF), .val (.int pT), .val (.ref b1), .val (.int v6_26), .val (.int v7_27), .val (.int r91_29), .unset] [(.int v6_26), (.int (0 : Int32)), (.ref b1)])) rfl (by rw [hml]; rfl) (argsL := [(.ref b1), (.int (0 : Int32)), (.int v6_26)]) (rest := []) (lenOf pd_4 rfl) rfl (by show 2 * 0 + _ ≤ _; exact Nat.le_of_eq rfl) (hb hby at_101) (fun _ _ => ⟨rfl, e28, (by decide : 1 + 0 ≤ _), (by decide : 6 + 0 ≤ _)⟩)
  dsimp only [Pt.U, Pt.locs, Pt.cells, Pt.slots] at X30 l30 y30 z30 st30 hQ30
  subst l30 y30 z30
  obtain ⟨rfl, N30q, e30⟩ := hQ30
  have N30 := Fr.app N28 N30q
  refine own_back ?_ st30
  show own_Go p e below PO (T30.setTop (mkF m 104 #[.val (.int pS), .val (.long jR), .second, .val (.int pF), .val (.int pT), .val (.ref b1), .val (.int v6_26), .val (.int v7_27), .val (.int r91_29), .unset] [(.int (own_end [(nar .byte r12_3), (nar .byte r22_7), (nar .byte r32_11), (nar .byte r42_15), (nar .byte r52_19), (nar .byte r62_23)] (0 : Int32) v6_26))]))
  refine own_gen (A := Int32) (own_end [(nar .byte r12_3), (nar .byte r22_7), (nar .byte r32_11), (nar .byte r42_15), (nar .byte r52_19), (nar .byte r62_23)] (0 : Int32) v6_26) (fun r101_31 => own_Go p e below PO (T30.setTop (mkF m 104 #[.val (.int pS), .val (.long jR), .second, .val (.int pF), .val (.int pT), .val (.ref b1), .val (.int v6_26), .val (.int v7_27), .val (.int r91_29), .unset] [(.int r101_31)]))) ?_
  intro r101_31 h_r101_31
  show own_Go p e below PO (T30.setTop (mkF m 104 #[.val (.int pS), .val (.long jR), .second, .val (.int pF), .val (.int pT), .val (.ref b1), .val (.int v6_26), .val (.int v7_27), .val (.int r91_29), .unset] [(.int r101_31)]))
  refine own_back ?_ (fun t k => XS.iload X30.here hx rfl (hb hby at_104) rfl k)
  show own_Go p e below PO (T30.setTop (mkF m 106 #[.val (.int pS), .val (.long jR), .second, .val (.int pF), .val (.int pT), .val (.ref b1), .val (.int v6_26), .val (.int v7_27), .val (.int r91_29), .unset] [(.int r91_29), (.int r101_31)]))
  have hd106_32 : r101_31 = r91_29 := by rw [h_r101_31, h_r91_29]; exact own_whole _ rfl (own_t6 h_v6_26)
  refine own_back ?_ (fun t k => XS.icmpNo X30.here hx rfl (hb hby at_106) rfl (teq hd106_32).2 k)
  show own_Go p e below PO (T30.setTop (mkF m 109 #[.val (.int pS), .val (.long jR), .second, .val (.int pF), .val (.int pT), .val (.ref b1), .val (.int v6_26), .val (.int v7_27), .val (.int r91_29), .unset] []))
  refine own_back ?_ (fun t k => XS.iconst X30.here hx rfl (hb hby at_109) k)
  show own_Go p e below PO (T30.setTop (mkF m 110 #[.val (.int pS), .val (.long jR), .second, .val (.int pF), .val (.int pT), .val (.ref b1), .val (.int v6_26), .val (.int v7_27), .val (.int r91_29), .unset] [(.int (1 : Int32))]))
  refine own_back ?_ (fun t k => XS.goto X30.here hx rfl (pc0 := 110) (pc' := 114) rfl (hb hby at_110) (by decide) (by decide) k)
  show own_Go p e below PO (T30.setTop (mkF m 114 #[.val (.int pS), .val (.long jR), .second, .val (.int pF), .val (.int pT), .val (.ref b1), .val (.int v6_26), .val (.int v7_27), .val (.int r91_29), .unset] [(.int (1 : Int32))]))
  refine own_back ?_ (fun t k => XS.istore X30.here hx rfl (hb hby at_114) rfl (l' := #[.val (.int pS), .val (.long jR), .second, .val (.int pF), .val (.int pT), .val (.ref b1), .val (.int v6_26), .val (.int v7_27), .val (.int r91_29), .val (.int (1 : Int32))]) rfl k)
  show own_Go p e below PO (T30.setTop (mkF m 116 #[.val (.int pS), .val (.long jR), .second, .val (.int pF), .val (.int pT), .val (.ref b1), .val (.int v6_26), .val (.int v7_27), .val (.int r91_29), .val (.int (1 : Int32))] []))
  refine own_back ?_ (fun t k => XS.aload X30.here hx rfl (hb hby at_116) rfl rfl k)
  show own_Go p e below PO (T30.setTop (mkF m 118 #[.val (.int pS), .val (.long jR), .second, .val (.int pF), .val (.int pT), .val (.ref b1), .val (.int v6_26), .val (.int v7_27), .val (.int r91_29), .val (.int (1 : Int32))] [(.ref b1)]))
  refine own_back ?_ (fun t k => XS.iload X30.here hx rfl (hb hby at_118) rfl k)
  show own_Go p e below PO (T30.setTop (mkF m 120 #[.val (.int pS), .val (.long jR), .second, .val (.int pF), .val (.int pT), .val (.ref b1), .val (.int v6_26), .val (.int v7_27), .val (.int r91_29), .val (.int (1 : Int32))] [(.int v7_27), (.ref b1)]))
  obtain ⟨_, _, ⟨T33, L33, k33, n33⟩, -, X33, ⟨Lc33, hQ33, l33, y33, z33⟩, st33⟩ := Jvm.LawKit.callS X30 hx (y := (⟨"com/example/execd/execd/io/RequestHeadEndPinLaw", "ref", "([BI)I"⟩ : MethodName)) hown (mvT hZ (hw _ (List.mem_of_getElem? (i := 6) rfl))) (mvT hZ (hw _ (List.mem_of_getElem? (i := 7) rfl))) (mvT hZ (hw _ (List.mem_of_getElem? (i := 3) rfl))) (mvT hZ (hw _ (List.mem_of_getElem? (i := 8) rfl))) (by decide) (backOf (W := 0) (rm2 l Z a0 hw [] b1 v7_27 [(nar .byte r12_3), (nar .byte r22_7), (nar .byte r32_11), (nar .byte r42_15), (nar .byte r52_19), (nar .byte r62_23)] k1 h24 n0 Zh24 V24) hZ (hw _ (List.mem_of_getElem? (i := 8) rfl)) (hw _ (List.mem_of_getElem? (i := 3) rfl)) (by decide) (by decide)) (g := (mkF m 120 #[.val (.int pS), .val (.long jR), .second, .val (.int pF), .val (.int pT), .val (.ref b1), .val (.int v6_26), .val (.int v7_27), .val (.int r91_29), .val (.int (1 : Int32))] [(.int v7_27), (.ref b1)])) rfl (by rw [hml]; rfl) (argsL := [(.ref b1), (.int v7_27)]) (rest := []) (lenOf pd_3 rfl) rfl (by show 2 * 0 + _ ≤ _; exact Nat.le_of_eq rfl) (hb hby at_120) (fun _ _ => ⟨rfl, e30, (by decide : 1 + 0 ≤ _), (by decide : 6 + 0 ≤ _)⟩)
  dsimp only [Pt.U, Pt.locs, Pt.cells, Pt.slots] at X33 l33 y33 z33 st33 hQ33
  subst l33 y33 z33
  obtain ⟨rfl, N33q, e33⟩ := hQ33
  have N33 := Fr.app N30 N33q
  refine own_back ?_ st33
  show own_Go p e below PO (T33.setTop (mkF m 123 #[.val (.int pS), .val (.long jR), .second, .val (.int pF), .val (.int pT), .val (.ref b1), .val (.int v6_26), .val (.int v7_27), .val (.int r91_29), .val (.int (1 : Int32))] [(.int (own_ref [(nar .byte r12_3), (nar .byte r22_7), (nar .byte r32_11), (nar .byte r42_15), (nar .byte r52_19), (nar .byte r62_23)] v7_27))]))
  refine own_gen (A := Int32) (own_ref [(nar .byte r12_3), (nar .byte r22_7), (nar .byte r32_11), (nar .byte r42_15), (nar .byte r52_19), (nar .byte r62_23)] v7_27) (fun r120_34 => own_Go p e below PO (T33.setTop (mkF m 123 #[.val (.int pS), .val (.long jR), .second, .val (.int pF), .val (.int pT), .val (.ref b1), .val (.int v6_26), .val (.int v7_27), .val (.int r91_29), .val (.int (1 : Int32))] [(.int r120_34)]))) ?_
  intro r120_34 h_r120_34
  show own_Go p e below PO (T33.setTop (mkF m 123 #[.val (.int pS), .val (.long jR), .second, .val (.int pF), .val (.int pT), .val (.ref b1), .val (.int v6_26), .val (.int v7_27), .val (.int r91_29), .val (.int (1 : Int32))] [(.int r120_34)]))
  refine own_back ?_ (fun t k => XS.iconst X33.here hx rfl (hb hby at_123) k)
  show own_Go p e below PO (T33.setTop (mkF m 124 #[.val (.int pS), .val (.long jR), .second, .val (.int pF), .val (.int pT), .val (.ref b1), .val (.int v6_26), .val (.int v7_27), .val (.int r91_29), .val (.int (1 : Int32))] [(.int (-1 : Int32)), (.int r120_34)]))
  by_cases hc124_35 : r120_34 = (-1 : Int32)
  case pos =>
    refine own_back ?_ (fun t k => XS.icmpYes X33.here hx rfl (pc0 := 124) (pc' := 130) rfl (hb hby at_124) rfl (teq hc124_35).1 (by decide) (by decide) k)
    show own_Go p e below PO (T33.setTop (mkF m 130 #[.val (.int pS), .val (.long jR), .second, .val (.int pF), .val (.int pT), .val (.ref b1), .val (.int v6_26), .val (.int v7_27), .val (.int r91_29), .val (.int (1 : Int32))] []))
    refine own_back ?_ (fun t k => XS.iload X33.here hx rfl (hb hby at_130) rfl k)
    show own_Go p e below PO (T33.setTop (mkF m 132 #[.val (.int pS), .val (.long jR), .second, .val (.int pF), .val (.int pT), .val (.ref b1), .val (.int v6_26), .val (.int v7_27), .val (.int r91_29), .val (.int (1 : Int32))] [(.int (1 : Int32))]))
    have hd132_36 : ¬ ((1 : Int32) = (0 : Int32)) := (by decide)
    refine own_back ?_ (fun t k => XS.ifNo X33.here hx rfl (hb hby at_132) rfl ((if0 _ _).trans (feq hd132_36).1) k)
    show own_Go p e below PO (T33.setTop (mkF m 135 #[.val (.int pS), .val (.long jR), .second, .val (.int pF), .val (.int pT), .val (.ref b1), .val (.int v6_26), .val (.int v7_27), .val (.int r91_29), .val (.int (1 : Int32))] []))
    refine own_back ?_ (fun t k => XS.aload X33.here hx rfl (hb hby at_135) rfl rfl k)
    show own_Go p e below PO (T33.setTop (mkF m 137 #[.val (.int pS), .val (.long jR), .second, .val (.int pF), .val (.int pT), .val (.ref b1), .val (.int v6_26), .val (.int v7_27), .val (.int r91_29), .val (.int (1 : Int32))] [(.ref b1)]))
    refine own_back ?_ (fun t k => XS.iload X33.here hx rfl (hb hby at_137) rfl k)
    show own_Go p e below PO (T33.setTop (mkF m 139 #[.val (.int pS), .val (.long jR), .second, .val (.int pF), .val (.int pT), .val (.ref b1), .val (.int v6_26), .val (.int v7_27), .val (.int r91_29), .val (.int (1 : Int32))] [(.int v7_27), (.ref b1)]))
    refine own_back ?_ (fun t k => XS.iload X33.here hx rfl (hb hby at_139) rfl k)
    show own_Go p e below PO (T33.setTop (mkF m 141 #[.val (.int pS), .val (.long jR), .second, .val (.int pF), .val (.int pT), .val (.ref b1), .val (.int v6_26), .val (.int v7_27), .val (.int r91_29), .val (.int (1 : Int32))] [(.int v6_26), (.int v7_27), (.ref b1)]))
    obtain ⟨_, _, ⟨T37, L37, k37, n37⟩, -, X37, ⟨Lc37, hQ37, l37, y37, z37⟩, st37⟩ := Jvm.LawKit.callS X33 hx (y := (⟨"com/example/execd/execd/io/RequestHead", "end", "([BII)I"⟩ : MethodName)) hown (mvT hZ (hw _ (List.mem_of_getElem? (i := 9) rfl))) (mvT hZ (hw _ (List.mem_of_getElem? (i := 10) rfl))) (mvT hZ (hw _ (List.mem_of_getElem? (i := 11) rfl))) (mvT hZ (hw _ (List.mem_of_getElem? (i := 12) rfl))) (by decide) (backOf (W := 0) (rm3 l Z a0 hw [] b1 v7_27 v6_26 [(nar .byte r12_3), (nar .byte r22_7), (nar .byte r32_11), (nar .byte r42_15), (nar .byte r52_19), (nar .byte r62_23)] k1 h24 n0 Zh24 V24 (own_t6 h_v6_26)) hZ (hw _ (List.mem_of_getElem? (i := 12) rfl)) (hw _ (List.mem_of_getElem? (i := 11) rfl)) (by decide) (by decide)) (g := (mkF m 141 #[.val (.int pS), .val (.long jR), .second, .val (.int pF), .val (.int pT), .val (.ref b1), .val (.int v6_26), .val (.int v7_27), .val (.int r91_29), .val (.int (1 : Int32))] [(.int v6_26), (.int v7_27), (.ref b1)])) rfl (by rw [hml]; rfl) (argsL := [(.ref b1), (.int v7_27), (.int v6_26)]) (rest := []) (lenOf pd_4 rfl) rfl (by show 2 * 0 + _ ≤ _; exact Nat.le_of_eq rfl) (hb hby at_141) (fun _ _ => ⟨rfl, e33, (by decide : 1 + 0 ≤ _), (by decide : 6 + 0 ≤ _)⟩)
    dsimp only [Pt.U, Pt.locs, Pt.cells, Pt.slots] at X37 l37 y37 z37 st37 hQ37
    subst l37 y37 z37
    obtain ⟨rfl, N37q, e37⟩ := hQ37
    have N37 := Fr.app N33 N37q
    refine own_back ?_ st37
    show own_Go p e below PO (T37.setTop (mkF m 144 #[.val (.int pS), .val (.long jR), .second, .val (.int pF), .val (.int pT), .val (.ref b1), .val (.int v6_26), .val (.int v7_27), .val (.int r91_29), .val (.int (1 : Int32))] [(.int (own_end [(nar .byte r12_3), (nar .byte r22_7), (nar .byte r32_11), (nar .byte r42_15), (nar .byte r52_19), (nar .byte r62_23)] v7_27 v6_26))]))
    refine own_gen (A := Int32) (own_end [(nar .byte r12_3), (nar .byte r22_7), (nar .byte r32_11), (nar .byte r42_15), (nar .byte r52_19), (nar .byte r62_23)] v7_27 v6_26) (fun r141_38 => own_Go p e below PO (T37.setTop (mkF m 144 #[.val (.int pS), .val (.long jR), .second, .val (.int pF), .val (.int pT), .val (.ref b1), .val (.int v6_26), .val (.int v7_27), .val (.int r91_29), .val (.int (1 : Int32))] [(.int r141_38)]))) ?_
    intro r141_38 h_r141_38
    show own_Go p e below PO (T37.setTop (mkF m 144 #[.val (.int pS), .val (.long jR), .second, .val (.int pF), .val (.int pT), .val (.ref b1), .val (.int v6_26), .val (.int v7_27), .val (.int r91_29), .val (.int (1 : Int32))] [(.int r141_38)]))
    refine own_back ?_ (fun t k => XS.iload X37.here hx rfl (hb hby at_144) rfl k)
    show own_Go p e below PO (T37.setTop (mkF m 146 #[.val (.int pS), .val (.long jR), .second, .val (.int pF), .val (.int pT), .val (.ref b1), .val (.int v6_26), .val (.int v7_27), .val (.int r91_29), .val (.int (1 : Int32))] [(.int r91_29), (.int r141_38)]))
    have hd146_39 : r141_38 = r91_29 := by rw [h_r141_38, h_r91_29]; exact own_part _ rfl (own_t6 h_v6_26) (own_f6 h_v6_26 h_v7_27) (by rw [← h_r120_34]; exact hc124_35)
    refine own_back ?_ (fun t k => XS.icmpNo X37.here hx rfl (hb hby at_146) rfl (teq hd146_39).2 k)
    show own_Go p e below PO (T37.setTop (mkF m 149 #[.val (.int pS), .val (.long jR), .second, .val (.int pF), .val (.int pT), .val (.ref b1), .val (.int v6_26), .val (.int v7_27), .val (.int r91_29), .val (.int (1 : Int32))] []))
    refine own_back ?_ (fun t k => XS.iconst X37.here hx rfl (hb hby at_149) k)
    show own_Go p e below PO (T37.setTop (mkF m 150 #[.val (.int pS), .val (.long jR), .second, .val (.int pF), .val (.int pT), .val (.ref b1), .val (.int v6_26), .val (.int v7_27), .val (.int r91_29), .val (.int (1 : Int32))] [(.int (1 : Int32))]))
    refine own_back ?_ (fun t k => XS.goto X37.here hx rfl (pc0 := 150) (pc' := 154) rfl (hb hby at_150) (by decide) (by decide) k)
    show own_Go p e below PO (T37.setTop (mkF m 154 #[.val (.int pS), .val (.long jR), .second, .val (.int pF), .val (.int pT), .val (.ref b1), .val (.int v6_26), .val (.int v7_27), .val (.int r91_29), .val (.int (1 : Int32))] [(.int (1 : Int32))]))
    refine own_retN X37 hx (t := .boolean) (rest := []) Bd.returns (by decide) (by simp) (hb hby at_154) e37 (Bd.notSynchronized) ?_ (by decide) (by decide)
    exact ⟨rfl, N37⟩
  refine own_back ?_ (fun t k => XS.icmpNo X33.here hx rfl (hb hby at_124) rfl (feq hc124_35).1 k)
  show own_Go p e below PO (T33.setTop (mkF m 127 #[.val (.int pS), .val (.long jR), .second, .val (.int pF), .val (.int pT), .val (.ref b1), .val (.int v6_26), .val (.int v7_27), .val (.int r91_29), .val (.int (1 : Int32))] []))
  refine own_back ?_ (fun t k => XS.iload X33.here hx rfl (hb hby at_127) rfl k)
  show own_Go p e below PO (T33.setTop (mkF m 129 #[.val (.int pS), .val (.long jR), .second, .val (.int pF), .val (.int pT), .val (.ref b1), .val (.int v6_26), .val (.int v7_27), .val (.int r91_29), .val (.int (1 : Int32))] [(.int (1 : Int32))]))
  refine own_retN X33 hx (t := .boolean) (rest := []) Bd.returns (by decide) (by simp) (hb hby at_129) e33 (Bd.notSynchronized) ?_ (by decide) (by decide)
  exact ⟨rfl, N33⟩
set_option maxRecDepth 65536 in
set_option maxHeartbeats 40000000 in
theorem comes_1 {Post : Tables → Env → Array Value → State → Outcome → State → Prop} (hpost : ∀ tb e args s v u, (limb_1_1.after args s (.returned v) u = true ∧ limb_1_2.after args s (.returned v) u = true ∧ True) → FrameEnd s (.returned v) u (Jvm.fieldLocs frame_1_writes args s ++ Jvm.arrayLocs frame_1_arrays args s ++ Jvm.staticLocs frame_1_statics s) 16 128 → Post tb e args s (.returned v) u) :
    ArmFor flags0 classFile x code maxLocals ret World_1 tables_1 room_1 Calls_1 rest_1 Pre_1 Post := by
  intro l hfl _ _ p e ha hc hk s m args below hf hA hF happ hP
  obtain ⟨hcalls, hrest, hpre⟩ := hP
  obtain ⟨-, -, -, hnamed, -, -, -, hat⟩ := (Spec.applies_iff hf).mp happ
  obtain ⟨hg, hn⟩ := and_e (Cond.before_iff.mp (show (Jvm.Cond.and given_1 narrow_1).before args s = true from hpre))
  obtain ⟨gc, g0⟩ := and_e hg
  obtain ⟨ga0, g1⟩ := and_e g0
  obtain ⟨ga1, g2⟩ := and_e g1
  obtain ⟨ga2, g3⟩ := and_e g2
  obtain ⟨w0, w1, w2, w3, rfl⟩ : ∃ w0 w1 w2 w3 : Value, args = #[w0, w1, w2, w3] := by
    have hs : args.size = 4 := by simpa [Cond.value, given_1] using gc
    obtain ⟨L⟩ := args
    match L, hs with
    | [w0, w1, w2, w3], _ => exact ⟨w0, w1, w2, w3, rfl⟩
  have hw := fun d (hd : d ∈ tables_1) => atoms_spec (ws := Jvm.Cond.code x code maxLocals ret :: tables_1) hat d (List.mem_cons_of_mem _ hd)
  obtain ⟨i0, ei0⟩ := is_v ga0
  obtain rfl : w0 = (.int i0) := Option.some.inj ei0
  obtain ⟨i1, ei1⟩ := isL_v ga1
  obtain rfl : w1 = (.long i1) := Option.some.inj ei1
  obtain ⟨i2, ei2⟩ := is_v ga2
  obtain rfl : w2 = (.int i2) := Option.some.inj ei2
  obtain ⟨i3, ei3⟩ := is_v g3
  obtain rfl : w3 = (.int i3) := Option.some.inj ei3
  obtain ⟨n, o, h1, h2, h3, _, L, rfl, ⟨rfl, N⟩, hq⟩ := rm0 l s _ hw tables_1 i0 i1 i2 i3  s.heap s.heap.size (Nat.le_refl _)  p e ha hc hk s m _ below hf ((Spec.applies_iff_loose hf).mp happ).1 ⟨rfl, State.Warmed39.refl s, rfl⟩ trivial
  refine ⟨n, _, h1, h2, h3, hpost _ _ _ _ _ _ ⟨Cond.after_iff.mpr rfl, Cond.after_iff.mpr (eq_i res_at (Term.int_eval (1)) rfl), trivial⟩ ⟨hq.1, hq.2.1, (hq.2.2.sift fun y hy => Or.inr (N y hy)).mono (by decide) (by decide)⟩⟩
theorem main_1_1 : Claimed_1_1 := comes_1 fun _ _ _ _ _ _ h hF => ⟨h.1, hF⟩
theorem main_1_2 : Claimed_1_2 := comes_1 fun _ _ _ _ _ _ h hF => ⟨h.2.1, hF⟩
end Jvm.Pilot.@@N@@
namespace Jvm.Pilot.@@N@@
open Jvm Jvm.ClassFile Sem Op Lib Jvm.Free Jvm.Stand Jvm.Pilot.@@N@@.Jvm.D
/-! MADE BY PROGRAM (witnessworld.py) out of the Statement's table words and the real class files: 10 classes; the members and pool entries that the words name. The judged class is class 1, her method 1. -/
namespace start1
open Jvm.ClassFile
def u (s : String) : CpInfo := .utf8 (stringToUtf16 s)
/-- a pool by its gaps: so many unusable entries, then the entry; so many at the end -/
def gap : Nat → List CpInfo → List CpInfo
  | 0, r => r
  | n + 1, r => .unusable :: gap n r
def poolList (es : List (Nat × CpInfo)) (last : Nat) : List CpInfo := es.foldr (fun e r => gap e.1 (e.2 :: r)) (gap last [])
def pool (es : List (Nat × CpInfo)) (last : Nat) : Array CpInfo := ⟨poolList es last⟩
def fileOf (pool : Array CpInfo) (this : Nat) (attrs : Array Attribute := #[]) (ms : Array MethodInfo := #[]) (fl : Nat := 33) (sup : Nat := 0) (ifs : Array Nat := #[]) (fds : Array FieldInfo := #[]) : ClassFile where
  minorVersion := 0
  majorVersion := 65
  constantPool := pool
  accessFlags := fl
  thisClass := this
  superClass := sup
  interfaces := ifs
  fields := fds
  methods := ms
  attributes := attrs
def plain (name : String) (sup : Option ClassId) : Class where
  name := name
  kind := .ordinary
  loader := none
  accessFlags := 33
  super := sup
  interfaces := #[]
  cf := none
  fields := #[]
  methods := #[]
  instanceTypes := #[]
  staticTypes := #[]
  resolved := #[]
  callSites := []
  init := .initialized
  statics := none
  mirror := none

def pool0 : Array CpInfo := pool [(5, u "<init>"), (0, u "()V"), (1, .class_ 10), (1, u "java/lang/Object")] 113

def k0m0 : Method := { name := "<init>", desc := "()V", sig := { parameters := [], returnType := none }, accessFlags := 1, code := none }
/-- java/lang/Object -/
def k0 : Class := { plain "java/lang/Object" none with
  accessFlags := 33
  interfaces := #[]
  cf := some (fileOf pool0 8 #[] #[{ accessFlags := 1, nameIndex := 5, descriptorIndex := 6, attributes := #[] }] 33 0 #[] #[])
  fields := #[]
  methods := #[k0m0]
  instanceTypes := #[]
  staticTypes := #[]
  resolved := Array.replicate 124 none
  statics := none }

def pool1 : Array CpInfo := pool [(2, .class_ 4), (1, u "java/lang/Object"), (0, u "<init>"), (0, u "()V"), (0, .methodref 8 9), (0, .class_ 10), (0, .nameAndType 11 12), (0, u "com/example/execd/execd/io/RequestHeadEndPinLaw"), (0, u "pick"), (0, u "(IJI)B"), (0, .integer 2147483647), (0, .methodref 8 15), (0, .nameAndType 16 17), (0, u "ref"), (0, u "([BI)I"), (0, .methodref 19 20), (0, .class_ 21), (0, .nameAndType 22 23), (0, u "com/example/execd/execd/io/RequestHead"), (0, u "end"), (0, u "([BII)I"), (0, .methodref 8 25), (0, .nameAndType 26 27), (0, u "endsAt"), (0, u "([BI)Z"), (2, u "law"), (0, u "(IJII)Z")] 5

def k1m0 : Method := { name := "<init>", desc := "()V", sig := { parameters := [], returnType := none }, accessFlags := 1, code := none }
def k1c1 : Code := { maxStack := 6, maxLocals := 10, code := code, exceptionTable := #[], attributes := #[] }
def k1m1 : Method := { name := "law", desc := "(IJII)Z", sig := { parameters := [.int, .long, .int, .int], returnType := some .boolean }, accessFlags := 9, code := some k1c1 }
def k1c2 : Code := { maxStack := 4, maxLocals := 5, code := method_3_code, exceptionTable := #[], attributes := #[] }
def k1m2 : Method := { name := "pick", desc := "(IJI)B", sig := { parameters := [.int, .long, .int], returnType := some .byte }, accessFlags := 10, code := some k1c2 }
def k1c3 : Code := { maxStack := 3, maxLocals := 4, code := method_4_code, exceptionTable := #[], attributes := #[] }
def k1m3 : Method := { name := "endsAt", desc := "([BI)Z", sig := { parameters := [(.array .byte), .int], returnType := some .boolean }, accessFlags := 10, code := some k1c3 }
def k1c4 : Code := { maxStack := 2, maxLocals := 2, code := method_5_code, exceptionTable := #[], attributes := #[] }
def k1m4 : Method := { name := "ref", desc := "([BI)I", sig := { parameters := [(.array .byte), .int], returnType := some .int }, accessFlags := 10, code := some k1c4 }
/-- com/example/execd/execd/io/RequestHeadEndPinLaw -/
def k1 : Class := { plain "com/example/execd/execd/io/RequestHeadEndPinLaw" (some 0) with
  accessFlags := 49
  interfaces := #[]
  cf := some (fileOf pool1 8 #[] #[{ accessFlags := 1, nameIndex := 5, descriptorIndex := 6, attributes := #[] }, { accessFlags := 9, nameIndex := 30, descriptorIndex := 31, attributes := #[] }, { accessFlags := 10, nameIndex := 11, descriptorIndex := 12, attributes := #[] }, { accessFlags := 10, nameIndex := 26, descriptorIndex := 27, attributes := #[] }, { accessFlags := 10, nameIndex := 16, descriptorIndex := 17, attributes := #[] }] 49 2 #[] #[])
  fields := #[]
  methods := #[k1m0, k1m1, k1m2, k1m3, k1m4]
  instanceTypes := #[]
  staticTypes := #[]
  resolved := Array.replicate 37 none
  statics := none }

def pool2 : Array CpInfo := pool [(2, .class_ 4), (1, u "java/lang/Object"), (3, .class_ 10), (1, u "com/example/execd/execd/io/RequestHead"), (0, u "method"), (0, u "Ljava/lang/String;"), (2, u "path"), (2, u "http11"), (0, u "Z"), (2, u "fields"), (0, u "Ljava/util/Map;"), (16, u "contentLength"), (0, u "J"), (8, u "chunked"), (9, .methodref 61 62), (0, .class_ 63), (0, .nameAndType 64 65), (0, u "java/lang/Math"), (0, u "max"), (0, u "(II)I"), (196, u "NO_LENGTH"), (1, u "HTTP_1_1"), (0, u "HTTP_1_0"), (0, u "TOKEN_SYMBOLS"), (0, u "PLAIN_PATH_SYMBOLS"), (7, u "end"), (0, u "([BII)I")] 55

def k2c0 : Code := { maxStack := 3, maxLocals := 4, code := prog_11_method_2_code, exceptionTable := #[], attributes := #[] }
def k2m0 : Method := { name := "end", desc := "([BII)I", sig := { parameters := [(.array .byte), .int, .int], returnType := some .int }, accessFlags := 8, code := some k2c0 }
/-- com/example/execd/execd/io/RequestHead -/
def k2 : Class := { plain "com/example/execd/execd/io/RequestHead" (some 0) with
  accessFlags := 48
  interfaces := #[]
  cf := some (fileOf pool2 8 #[] #[{ accessFlags := 8, nameIndex := 275, descriptorIndex := 276, attributes := #[] }] 48 2 #[] #[{ accessFlags := 24, nameIndex := 262, descriptorIndex := 41, attributes := #[] }, { accessFlags := 26, nameIndex := 264, descriptorIndex := 12, attributes := #[] }, { accessFlags := 26, nameIndex := 265, descriptorIndex := 12, attributes := #[] }, { accessFlags := 26, nameIndex := 266, descriptorIndex := 12, attributes := #[] }, { accessFlags := 26, nameIndex := 267, descriptorIndex := 12, attributes := #[] }, { accessFlags := 18, nameIndex := 11, descriptorIndex := 12, attributes := #[] }, { accessFlags := 18, nameIndex := 15, descriptorIndex := 12, attributes := #[] }, { accessFlags := 18, nameIndex := 18, descriptorIndex := 19, attributes := #[] }, { accessFlags := 18, nameIndex := 22, descriptorIndex := 23, attributes := #[] }, { accessFlags := 18, nameIndex := 40, descriptorIndex := 41, attributes := #[] }, { accessFlags := 18, nameIndex := 50, descriptorIndex := 19, attributes := #[] }])
  fields := #[{ name := "NO_LENGTH", type := .long, accessFlags := 24, slot := 0, constantValue := 0 }, { name := "HTTP_1_1", type := (.object "java/lang/String"), accessFlags := 26, slot := 1, constantValue := 0 }, { name := "HTTP_1_0", type := (.object "java/lang/String"), accessFlags := 26, slot := 2, constantValue := 0 }, { name := "TOKEN_SYMBOLS", type := (.object "java/lang/String"), accessFlags := 26, slot := 3, constantValue := 0 }, { name := "PLAIN_PATH_SYMBOLS", type := (.object "java/lang/String"), accessFlags := 26, slot := 4, constantValue := 0 }, { name := "method", type := (.object "java/lang/String"), accessFlags := 18, slot := 0, constantValue := 0 }, { name := "path", type := (.object "java/lang/String"), accessFlags := 18, slot := 1, constantValue := 0 }, { name := "http11", type := .boolean, accessFlags := 18, slot := 2, constantValue := 0 }, { name := "fields", type := (.object "java/util/Map"), accessFlags := 18, slot := 3, constantValue := 0 }, { name := "contentLength", type := .long, accessFlags := 18, slot := 4, constantValue := 0 }, { name := "chunked", type := .boolean, accessFlags := 18, slot := 5, constantValue := 0 }]
  methods := #[k2m0]
  instanceTypes := #[(.object "java/lang/String"), (.object "java/lang/String"), .boolean, (.object "java/util/Map"), .long, .boolean]
  staticTypes := #[.long, (.object "java/lang/String"), (.object "java/lang/String"), (.object "java/lang/String"), (.object "java/lang/String")]
  resolved := Array.replicate 332 none
  statics := none }

def pool3 : Array CpInfo := pool [(1, .class_ 2), (0, u "java/lang/Math"), (1, .class_ 6), (1, u "java/lang/Object"), (0, u "<init>"), (0, u "()V"), (89, .class_ 100), (1, u "java/lang/Math$RandomNumberGeneratorHolder"), (71, u "negativeZeroFloatBits"), (0, u "J"), (2, u "negativeZeroDoubleBits"), (21, u "max"), (46, u "$assertionsDisabled"), (0, u "Z"), (88, u "(II)I"), (2, u "twoToTheDoubleScaleDown"), (0, u "D"), (4, u "twoToTheDoubleScaleUp"), (9, u "E"), (3, u "PI"), (2, u "TAU"), (2, u "DEGREES_TO_RADIANS"), (0, u "RADIANS_TO_DEGREES")] 94

def k3m0 : Method := { name := "<init>", desc := "()V", sig := { parameters := [], returnType := none }, accessFlags := 2, code := none }
def k3c1 : Code := { maxStack := 2, maxLocals := 2, code := jdk_29_method_65_code, exceptionTable := #[], attributes := #[] }
def k3m1 : Method := { name := "max", desc := "(II)I", sig := { parameters := [.int, .int], returnType := some .int }, accessFlags := 9, code := some k3c1 }
/-- java/lang/Math -/
def k3 : Class := { plain "java/lang/Math" (some 0) with
  accessFlags := 49
  interfaces := #[]
  cf := some (fileOf pool3 1 #[.nestMembers #[98]] #[{ accessFlags := 2, nameIndex := 7, descriptorIndex := 8, attributes := #[] }, { accessFlags := 9, nameIndex := 198, descriptorIndex := 335, attributes := #[] }] 49 4 #[] #[{ accessFlags := 25, nameIndex := 354, descriptorIndex := 339, attributes := #[] }, { accessFlags := 25, nameIndex := 358, descriptorIndex := 339, attributes := #[] }, { accessFlags := 25, nameIndex := 361, descriptorIndex := 339, attributes := #[] }, { accessFlags := 26, nameIndex := 364, descriptorIndex := 339, attributes := #[] }, { accessFlags := 26, nameIndex := 365, descriptorIndex := 339, attributes := #[] }, { accessFlags := 26, nameIndex := 172, descriptorIndex := 173, attributes := #[] }, { accessFlags := 26, nameIndex := 176, descriptorIndex := 173, attributes := #[] }, { accessFlags := 8, nameIndex := 344, descriptorIndex := 339, attributes := #[] }, { accessFlags := 8, nameIndex := 338, descriptorIndex := 339, attributes := #[] }, { accessFlags := 4120, nameIndex := 245, descriptorIndex := 246, attributes := #[] }])
  fields := #[{ name := "E", type := .double, accessFlags := 25, slot := 0, constantValue := 0 }, { name := "PI", type := .double, accessFlags := 25, slot := 1, constantValue := 0 }, { name := "TAU", type := .double, accessFlags := 25, slot := 2, constantValue := 0 }, { name := "DEGREES_TO_RADIANS", type := .double, accessFlags := 26, slot := 3, constantValue := 0 }, { name := "RADIANS_TO_DEGREES", type := .double, accessFlags := 26, slot := 4, constantValue := 0 }, { name := "negativeZeroFloatBits", type := .long, accessFlags := 26, slot := 5, constantValue := 0 }, { name := "negativeZeroDoubleBits", type := .long, accessFlags := 26, slot := 6, constantValue := 0 }, { name := "twoToTheDoubleScaleUp", type := .double, accessFlags := 8, slot := 7, constantValue := 0 }, { name := "twoToTheDoubleScaleDown", type := .double, accessFlags := 8, slot := 8, constantValue := 0 }, { name := "$assertionsDisabled", type := .boolean, accessFlags := 4120, slot := 9, constantValue := 0 }]
  methods := #[k3m0, k3m1]
  instanceTypes := #[]
  staticTypes := #[.double, .double, .double, .double, .double, .long, .long, .double, .double, .boolean]
  resolved := Array.replicate 460 none
  statics := none }

def pool4 : Array CpInfo := pool [(1, u "java/lang/Cloneable"), (0, .class_ 1), (0, u "java/lang/Object"), (0, .class_ 3)] 3

/-- java/lang/Cloneable -/
def k4 : Class := { plain "java/lang/Cloneable" (some 0) with
  accessFlags := 1537
  interfaces := #[]
  cf := some (fileOf pool4 2 #[] #[] 1537 4 #[] #[])
  fields := #[]
  methods := #[]
  instanceTypes := #[]
  staticTypes := #[]
  resolved := Array.replicate 8 none
  statics := none }

def pool5 : Array CpInfo := pool [(1, u "java/io/Serializable"), (0, .class_ 1), (0, u "java/lang/Object"), (0, .class_ 3)] 3

/-- java/io/Serializable -/
def k5 : Class := { plain "java/io/Serializable" (some 0) with
  accessFlags := 1537
  interfaces := #[]
  cf := some (fileOf pool5 2 #[] #[] 1537 4 #[] #[])
  fields := #[]
  methods := #[]
  instanceTypes := #[]
  staticTypes := #[]
  resolved := Array.replicate 8 none
  statics := none }

/-- the primitive byte -/
def k6 : Class := { plain "byte" none with kind := .primitive 'B', accessFlags := 0x411 }
/-- [B -/
def k7 : Class := { plain "[B" (some 0) with kind := .array 6 .byte, interfaces := #[4, 5], accessFlags := 1041 }

/-- the primitive int -/
def k8 : Class := { plain "int" none with kind := .primitive 'I', accessFlags := 0x411 }
/-- [I -/
def k9 : Class := { plain "[I" (some 0) with kind := .array 8 .int, interfaces := #[4, 5], accessFlags := 1041 }

def heap : Heap := #[]
def classes : Array Class := #[k0, k1, k2, k3, k4, k5, k6, k7, k8, k9]
def interned : List (Array UInt16 × Addr) := []
def slotsUsed : Nat := 0
def theMethod : MethodId := ⟨1, 1⟩
def args0 : Array Value := #[.int 5, .long 5, .int 5, .int 5]
def aboutOver (below : List Frame) : State where
  vm := { classes := classes, interned := interned.toArray }
  heap := heap
  slotsUsed := slotsUsed
  threads := #[{ frames := .invoking theMethod args0 :: below }]
def below0 : List Frame := [.native { method := ⟨0, 0⟩, args := #[] }]
def about1 : State := aboutOver below0
def p0 : Program := .bare "" "" ""
def e0 : Env := launch0.env 0 0 0
theorem w_frames : about1.frames = Frame.invoking theMethod args0 :: below0 := rfl
set_option maxRecDepth 65536 in
theorem w_args : argsFit about1.vm theMethod args0 = true := by decide +kernel
set_option maxRecDepth 65536 in
theorem w_heap : heapFits about1 = true := by decide +kernel
set_option maxRecDepth 65536 in
theorem w_runnable : about1.curStatus? = some .runnable := by decide +kernel
set_option maxRecDepth 65536 in
theorem w_alone : about1.alone = true := by decide +kernel
set_option maxRecDepth 65536 in
theorem w_named : about1.methodNamed? x = some theMethod := by decide +kernel
set_option maxRecDepth 65536 in
theorem w_hears : about1.hears theMethod below0 = true := by decide +kernel
set_option maxRecDepth 65536 in
theorem w_ripe : about1.ripe theMethod args0 below0 = true := by decide +kernel
theorem w_running : about1.status = .running := rfl
set_option maxRecDepth 65536 in
theorem w_room : about1.hasRoom e0.platform room_1 = true :=
  launch0.hasRoom_least _ room_1 (by decide +kernel) (by decide +kernel) (by decide +kernel) (by decide +kernel) (by decide +kernel) (by decide +kernel)
theorem allAtoms_all (ts : List Jvm.Cond) (a : Array Jvm.Value) (st : Jvm.State) : (allAtoms ts).before a st = ts.all (fun c => c.before a st) := by
  induction ts with
  | nil => rfl
  | cons c t ih =>
    show (Jvm.Cond.and c (allAtoms t)).before a st = _
    rw [Jvm.Cond.before_and, ih, List.all_cons]
def words1 : List Jvm.Cond := Jvm.Cond.code x code maxLocals ret :: tables_1
/-- a 'code' word, met by the world's own term for the bytes: nothing is compared byte by byte -/
theorem code_word {y : MethodName} {bytes : ByteArray} {mx : Nat} {rt : Option FieldType} {a : Array Value} {s : State} {m : MethodId} {meth : Method} {c : Code} (h1 : s.methodNamed? y = some m) (h2 : s.vm.method? m = some meth) (h3 : meth.code = some c) (h4 : c.code = bytes)
    (h5 : (c.maxLocals == mx && c.exceptionTable.isEmpty && decide (c.maxStack ≤ mostOperands) && decide (meth.sig.returnType = rt) && !meth.locks && decide (parseMethodDescriptor y.desc = some meth.sig)) = true) : (Jvm.Cond.code y bytes mx rt).before a s = true := by
  simp only [Bool.and_eq_true, beq_iff_eq, Bool.not_eq_true', decide_eq_true_eq] at h5
  obtain ⟨⟨⟨⟨⟨g1, g2⟩, g3⟩, g4⟩, g5⟩, g6⟩ := h5
  simp [Cond.before, Cond.holds, Cond.value, h1, h2, h3, h4, g1, g2, g3, g4, g5, g6]
def isCode : Jvm.Cond → Bool
  | .code _ _ _ _ => true
  | _ => false
theorem all_split {L : List Jvm.Cond} {P : Jvm.Cond → Bool} (h1 : L.all (fun c => isCode c || P c) = true) (h2 : ∀ c ∈ L.filter isCode, P c = true) : L.all P = true := by
  refine List.all_eq_true.mpr fun c hc => ?_
  have h := List.all_eq_true.mp h1 c hc
  rcases Bool.eq_false_or_eq_true (isCode c) with hi | hi
  · exact h2 c (List.mem_filter.mpr ⟨hc, hi⟩)
  · simpa [hi] using h
set_option maxRecDepth 65536 in
theorem w_c0 : (Jvm.Cond.code x code maxLocals ret).before args0 about1 = true := code_word (m := ⟨1, 1⟩) (meth := k1m1) (c := k1c1) (by decide +kernel) rfl rfl rfl (by decide +kernel)
set_option maxRecDepth 65536 in
theorem w_c1 : (Jvm.Cond.code ({ cls := "com/example/execd/execd/io/RequestHeadEndPinLaw", name := "pick", desc := "(IJI)B" } : Jvm.MethodName) method_3_code (5 : Nat) (Option.some Jvm.ClassFile.FieldType.byte)).before args0 about1 = true := code_word (m := ⟨1, 2⟩) (meth := k1m2) (c := k1c2) (by decide +kernel) rfl rfl rfl (by decide +kernel)
set_option maxRecDepth 65536 in
theorem w_c2 : (Jvm.Cond.code ({ cls := "com/example/execd/execd/io/RequestHeadEndPinLaw", name := "ref", desc := "([BI)I" } : Jvm.MethodName) method_5_code (2 : Nat) (Option.some Jvm.ClassFile.FieldType.int)).before args0 about1 = true := code_word (m := ⟨1, 4⟩) (meth := k1m4) (c := k1c4) (by decide +kernel) rfl rfl rfl (by decide +kernel)
set_option maxRecDepth 65536 in
theorem w_c3 : (Jvm.Cond.code ({ cls := "com/example/execd/execd/io/RequestHead", name := "end", desc := "([BII)I" } : Jvm.MethodName) prog_11_method_2_code (4 : Nat) (Option.some Jvm.ClassFile.FieldType.int)).before args0 about1 = true := code_word (m := ⟨2, 0⟩) (meth := k2m0) (c := k2c0) (by decide +kernel) rfl rfl rfl (by decide +kernel)
set_option maxRecDepth 65536 in
theorem w_c4 : (Jvm.Cond.code ({ cls := "java/lang/Math", name := "max", desc := "(II)I" } : Jvm.MethodName) jdk_29_method_65_code (2 : Nat) (Option.some Jvm.ClassFile.FieldType.int)).before args0 about1 = true := code_word (m := ⟨3, 1⟩) (meth := k3m1) (c := k3c1) (by decide +kernel) rfl rfl rfl (by decide +kernel)
set_option maxRecDepth 65536 in
theorem w_c5 : (Jvm.Cond.code ({ cls := "com/example/execd/execd/io/RequestHeadEndPinLaw", name := "endsAt", desc := "([BI)Z" } : Jvm.MethodName) method_4_code (4 : Nat) (Option.some Jvm.ClassFile.FieldType.boolean)).before args0 about1 = true := code_word (m := ⟨1, 3⟩) (meth := k1m3) (c := k1c3) (by decide +kernel) rfl rfl rfl (by decide +kernel)
def codes1 : List Jvm.Cond := [Jvm.Cond.code x code maxLocals ret, Jvm.Cond.code ({ cls := "com/example/execd/execd/io/RequestHeadEndPinLaw", name := "pick", desc := "(IJI)B" } : Jvm.MethodName) method_3_code (5 : Nat) (Option.some Jvm.ClassFile.FieldType.byte), Jvm.Cond.code ({ cls := "com/example/execd/execd/io/RequestHeadEndPinLaw", name := "ref", desc := "([BI)I" } : Jvm.MethodName) method_5_code (2 : Nat) (Option.some Jvm.ClassFile.FieldType.int), Jvm.Cond.code ({ cls := "com/example/execd/execd/io/RequestHead", name := "end", desc := "([BII)I" } : Jvm.MethodName) prog_11_method_2_code (4 : Nat) (Option.some Jvm.ClassFile.FieldType.int), Jvm.Cond.code ({ cls := "java/lang/Math", name := "max", desc := "(II)I" } : Jvm.MethodName) jdk_29_method_65_code (2 : Nat) (Option.some Jvm.ClassFile.FieldType.int), Jvm.Cond.code ({ cls := "com/example/execd/execd/io/RequestHeadEndPinLaw", name := "endsAt", desc := "([BI)Z" } : Jvm.MethodName) method_4_code (4 : Nat) (Option.some Jvm.ClassFile.FieldType.boolean)]
set_option maxRecDepth 65536 in
theorem codes_eq : words1.filter isCode = codes1 := rfl
theorem w_codes : ∀ c ∈ words1.filter isCode, c.before args0 about1 = true := by
  rw [codes_eq]
  intro c hc
  simp only [codes1, List.mem_cons, List.not_mem_nil, or_false] at hc
  rcases hc with rfl | rfl | rfl | rfl | rfl | rfl
  · exact w_c0
  · exact w_c1
  · exact w_c2
  · exact w_c3
  · exact w_c4
  · exact w_c5
set_option maxRecDepth 65536 in
theorem w_t1 : words1.all (fun c => isCode c || c.before args0 about1) = true := by decide +kernel
theorem w_tables : (allAtoms (Jvm.Cond.code x code maxLocals ret :: tables_1)).before args0 about1 = true := by
  rw [allAtoms_all]
  show words1.all (fun c => c.before args0 about1) = true
  refine all_split ?_ w_codes
  rw [w_t1]
set_option maxRecDepth 65536 in
theorem w_case : (Jvm.Cond.and given_1 narrow_1).before args0 about1 = true := by decide +kernel
theorem w_applies : (headSpec (Jvm.Cond.code x code maxLocals ret :: tables_1) room_1).applies x e0.platform about1 = true :=
  (Spec.applies_iff w_frames).mpr ⟨w_running, w_runnable, w_alone, w_named, w_hears, w_ripe, w_room, w_tables⟩
theorem atStart : AtStart classFile x code maxLocals ret World_1 tables_1 room_1 Calls_1 rest_1 Pre_1 launch0 p0 e0 about1 theMethod args0 below0 :=
  ⟨lists_1, trivial, launch0.admits_env _ _ _, launch0.least_env, fairChoices_fair.cas, fairChoices_fair.clock, w_frames, w_args, w_heap, w_applies, trivial, trivial, w_case⟩
end start1
theorem witness_1 : WitnessClaimed_1 := ⟨start1.p0, start1.e0, start1.about1, start1.theMethod, start1.args0, start1.below0, start1.atStart⟩
end Jvm.Pilot.@@N@@
