import JvmDerived
import JvmDerived.Pilot.@@N@@Statement
import JvmDerived.Pilot.@@N@@Code
set_option linter.unusedVariables false
set_option linter.unusedSimpArgs false
namespace Jvm.RoadKit
open Sem ClassFile Op Lib Jvm.Stand Jvm.Free Jvm.LawKit
/-! the goal of a walk, seen from where it stands -/
def own_Go (p : Program) (e : Env) (below : List Frame) (PO : Outcome → State → Prop) (U : State) : Prop :=
  ∃ s₂ o, Steps p.tables e below U s₂ ∧ s₂.status = .running ∧ Ended s₂ below o ∧ PO o s₂
def own_PO (s : State) (Q : Option Value → Heap → List Loc → Prop) (C N : Nat) : Outcome → State → Prop :=
  fun o U' => ∃ v L, o = .returned v ∧ Q v U'.heap L ∧ FrameEnd s o U' L C N
theorem own_back {p : Program} {e : Env} {below : List Frame} {PO : Outcome → State → Prop} {U V : State} (h : own_Go p e below PO V)
    (st : ∀ t, Steps p.tables e below V t → Steps p.tables e below U t) : own_Go p e below PO U := by
  obtain ⟨t, o, h1, h2⟩ := h
  exact ⟨t, o, st t h1, h2⟩
theorem own_gen {A : Type} (x : A) (P : A → Prop) (h : ∀ c, c = x → P c) : P x := h x rfl
section New
variable {p : Program} {l : Launch} {e : Env} {R : Room} {s : State} {m : MethodId} {args : Array Value} {below : List Frame} {meth : Method} {c : Code} {T : State} {locs : List Loc} {cells slots : Nat} {h : Heap}
  {Q : Option Value → Heap → List Loc → Prop} {C N : Nat}
theorem own_end (X : Stand p l e R s m args below meth c T locs cells slots) {v : Option Value} {U : State} (hv : meth.sig.returnType = none → v = none) (eT : T.heap = h) (hk : meth.locks = false)
    (st : ∀ fs, (∀ (f : JFrame) (acts : List Action), f.method = m → f.locked = none → f.entered = [] → (doReturn e (T.setTop f) acts v).1 = T.setFrames fs) → Steps p.tables e below U (T.setFrames fs))
    (hQ : Q v h locs) (hc : cells ≤ C) (hn : slots ≤ N) : own_Go p e below (own_PO s Q C N) U := by
  obtain ⟨fs, hr, hrun, hended, hW, hsame⟩ := X.leave (v := v) hv hk
  subst eT
  exact ⟨_, _, st fs hr, hrun, hended, _, _, rfl, hQ, ⟨_, rfl⟩, hW, hsame.mono hc hn⟩
theorem own_retV (X : Stand p l e R s m args below meth c T locs cells slots) (hx : p.tables.exec = Jvm.exec) {pc : Nat} {Ls : Array Slot} (hret : meth.sig.returnType = none) (hd : decode c.code pc = .ok (.return_, 1))
    (eT : T.heap = h) (hk : meth.locks = false) (hQ : Q none h locs) (hc : cells ≤ C) (hn : slots ≤ N) : own_Go p e below (own_PO s Q C N) (T.setTop (mkF m pc Ls [])) :=
  own_end X (fun _ => rfl) eT hk (fun fs hr => X.returnOut hx hret hd hr) hQ hc hn
theorem own_retI (X : Stand p l e R s m args below meth c T locs cells slots) (hx : p.tables.exec = Jvm.exec) {pc : Nat} {Ls : Array Slot} {z : Int32} {rest : List Value} (hret : meth.sig.returnType = some .int) (hd : decode c.code pc = .ok (.ireturn, 1))
    (eT : T.heap = h) (hk : meth.locks = false) (hQ : Q (some (.int z)) h locs) (hc : cells ≤ C) (hn : slots ≤ N) : own_Go p e below (own_PO s Q C N) (T.setTop (mkF m pc Ls (.int z :: rest))) :=
  own_end X (fun q => by rw [hret] at q; cases q) eT hk (fun fs hr => retOut X hx hret rfl (Or.inl ⟨rfl, Or.inl rfl, z, rfl⟩) hd hr) hQ hc hn
theorem own_retN (X : Stand p l e R s m args below meth c T locs cells slots) (hx : p.tables.exec = Jvm.exec) {pc : Nat} {Ls : Array Slot} {z : Int32} {t : FieldType} {rest : List Value} (hret : meth.sig.returnType = some t) (hz : nar t z = z) (ht : t = .boolean ∨ t = .byte ∨ t = .char ∨ t = .short) (hd : decode c.code pc = .ok (.ireturn, 1))
    (eT : T.heap = h) (hk : meth.locks = false) (hQ : Q (some (.int z)) h locs) (hc : cells ≤ C) (hn : slots ≤ N) : own_Go p e below (own_PO s Q C N) (T.setTop (mkF m pc Ls (.int z :: rest))) :=
  own_end X (fun q => by rw [hret] at q; cases q) eT hk (fun fs hr => retN X hx (t := t) hret ht hd (by rw [hz]; exact hr)) hQ hc hn
theorem own_retJ (X : Stand p l e R s m args below meth c T locs cells slots) (hx : p.tables.exec = Jvm.exec) {pc : Nat} {Ls : Array Slot} {z : Int64} {rest : List Value} (hret : meth.sig.returnType = some .long) (hd : decode c.code pc = .ok (.lreturn, 1))
    (eT : T.heap = h) (hk : meth.locks = false) (hQ : Q (some (.long z)) h locs) (hc : cells ≤ C) (hn : slots ≤ N) : own_Go p e below (own_PO s Q C N) (T.setTop (mkF m pc Ls (.long z :: rest))) :=
  own_end X (fun q => by rw [hret] at q; cases q) eT hk (fun fs hr => retOut X hx hret rfl (Or.inr (Or.inl ⟨rfl, rfl, z, rfl⟩)) hd hr) hQ hc hn
theorem own_retD (X : Stand p l e R s m args below meth c T locs cells slots) (hx : p.tables.exec = Jvm.exec) {pc : Nat} {Ls : Array Slot} {z : UInt64} {rest : List Value} (hret : meth.sig.returnType = some .double) (hd : decode c.code pc = .ok (.dreturn, 1))
    (eT : T.heap = h) (hk : meth.locks = false) (hQ : Q (some (.double z)) h locs) (hc : cells ≤ C) (hn : slots ≤ N) : own_Go p e below (own_PO s Q C N) (T.setTop (mkF m pc Ls (.double z :: rest))) :=
  own_end X (fun q => by rw [hret] at q; cases q) eT hk (fun fs hr => retOut X hx hret rfl (Or.inr (Or.inr (Or.inl ⟨rfl, rfl, z, rfl⟩))) hd hr) hQ hc hn
theorem own_retA (X : Stand p l e R s m args below meth c T locs cells slots) (hx : p.tables.exec = Jvm.exec) {pc : Nat} {Ls : Array Slot} {w : Value} {t : FieldType} {rest : List Value} (hret : meth.sig.returnType = some t) (ht : t.isReference = true) (hw : w.isRef = true) (hd : decode c.code pc = .ok (.areturn, 1))
    (eT : T.heap = h) (hk : meth.locks = false) (hQ : Q (some w) h locs) (hc : cells ≤ C) (hn : slots ≤ N) : own_Go p e below (own_PO s Q C N) (T.setTop (mkF m pc Ls (w :: rest))) :=
  own_end X (fun q => by rw [hret] at q; cases q) eT hk (fun fs hr => retOut X hx hret (by cases t <;> first | (cases ht; done) | (cases w <;> first | (cases hw; done) | rfl)) (Or.inr (Or.inr (Or.inr (Or.inr ⟨rfl, ht, hw⟩)))) hd hr) hQ hc hn
end New
end Jvm.RoadKit
namespace Jvm.RoadKit
open Sem ClassFile Op Lib Jvm.Stand Jvm.Free Jvm.LawKit
section Heap
variable {p : Program} {l : Launch} {e : Env} {R : Room} {s : State} {m : MethodId} {args : Array Value} {below : List Frame} {meth : Method} {c : Code} {T : State} {locs : List Loc} {cells slots : Nat} {h h' : Heap} {Z : State}
  {a : Addr} {k : ClassId} {n : Int32} {vs : List Value} {dv : Value} {ws ws' : List Addr} {C : String}
theorem own_keep_more (K : Keep h h' ws) (q : ∀ x ∈ ws, x ∈ ws') : Keep h h' ws' := ⟨K.1, fun x c hx r => K.2.1 x c hx fun z => r (q x z), K.2.2⟩
theorem own_sta_keep {C n d : String} {v : Value} (F : Sta Z h C n d v) (K : Keep h h' ws) (q : ∀ x ∈ ws, ∀ cell : Cell, h[x]? = some cell → cell.vm.isStatics = false) : Sta Z h' C n d v := by
  obtain ⟨cf, i, kk, f, st, cell, h1, h2, h3, h4, h5, h6, h7⟩ := F
  exact ⟨cf, i, kk, f, st, cell, h1, h2, h3, h4, K.2.1 st cell h5 (fun z => by rw [q st z cell h5] at h6; cases h6), h6, h7⟩
/-- a private method is selected of itself: the class is no interface, as another 'selects' word says -/
theorem own_selpriv {s : State} {args args' : Array Value} {y z w : MethodName} (hs : (Cond.selects y.cls z w).before args' s = true) (hpriv : s.PrivateAt y) (hinst : (Cond.instanceMethod y).before args s = true) (hy : y.cls ≠ "java/lang/invoke/MethodHandle" ∧ y.cls ≠ "java/lang/invoke/VarHandle") (hw : w.cls = y.cls := by rfl) :
    (Cond.selects y.cls y y).before args s = true := by
  obtain ⟨c2, r2, m2, q1, q2, q3, q4, kP, hkP, hkPi⟩ := Cond.selects_spec hs
  have hc := findClass_of_methodNamed q3
  rw [hw] at hc
  exact selects_self_of_private hc hkP hkPi hpriv hinst hy
theorem own_stI (X : Stand p l e R s m args below meth c T locs cells slots) (hx : p.tables.exec = Jvm.exec) (hZ : Z.Warmed39 s.vm) (eT : T.heap = h) (A : Arv Z h a k .int n vs dv) {j x : Int32} (hj : ¬ j < 0 ∧ j < n) {i : Nat} (hi : j.toNatClampNeg = i) (hl : i < vs.length) {g : JFrame} (hg : g.method = m) {rest : List Value} (hs : g.stack = .int x :: .int j :: .ref a :: rest) (hd : decode c.code g.pc = .ok (.iastore, 1)) :
    ∃ T' h', Stand p l e R s m args below meth c T' (locs ++ [⟨a, j.toNatClampNeg⟩]) cells slots ∧ T'.heap = h' ∧ Wr h h' a j.toNatClampNeg (.int x) ∧ Arv Z h' a k .int n (vs.set i (.int x)) dv ∧ ∀ target, Steps p.tables e below (T'.setTop { g with pc := g.pc + 1, stack := rest }) target → Steps p.tables e below (T.setTop g) target := by
  obtain ⟨cl, Ar, q, S, N, H, G⟩ := A
  obtain ⟨T', h', X', e', W, st⟩ := stI X hx hZ eT Ar (inb_of S hj) hg hs hd
  exact ⟨T', h', X', e', W, Arv.set Ar q S N H G rfl W i hi hl, st⟩
theorem own_stJ (X : Stand p l e R s m args below meth c T locs cells slots) (hx : p.tables.exec = Jvm.exec) (hZ : Z.Warmed39 s.vm) (eT : T.heap = h) (A : Arv Z h a k .long n vs dv) {j : Int32} {x : Int64} (hj : ¬ j < 0 ∧ j < n) {i : Nat} (hi : j.toNatClampNeg = i) (hl : i < vs.length) {g : JFrame} (hg : g.method = m) {rest : List Value} (hs : g.stack = .long x :: .int j :: .ref a :: rest) (hd : decode c.code g.pc = .ok (.lastore, 1)) :
    ∃ T' h', Stand p l e R s m args below meth c T' (locs ++ [⟨a, j.toNatClampNeg⟩]) cells slots ∧ T'.heap = h' ∧ Wr h h' a j.toNatClampNeg (.long x) ∧ Arv Z h' a k .long n (vs.set i (.long x)) dv ∧ ∀ target, Steps p.tables e below (T'.setTop { g with pc := g.pc + 1, stack := rest }) target → Steps p.tables e below (T.setTop g) target := by
  obtain ⟨cl, Ar, q, S, N, H, G⟩ := A
  obtain ⟨T', h', X', e', W, st⟩ := stJ X hx hZ eT Ar (inb_of S hj) hg hs hd
  exact ⟨T', h', X', e', W, Arv.set Ar q S N H G rfl W i hi hl, st⟩
theorem own_stD (X : Stand p l e R s m args below meth c T locs cells slots) (hx : p.tables.exec = Jvm.exec) (hZ : Z.Warmed39 s.vm) (eT : T.heap = h) (A : Arv Z h a k .double n vs dv) {j : Int32} {x : UInt64} (hj : ¬ j < 0 ∧ j < n) {i : Nat} (hi : j.toNatClampNeg = i) (hl : i < vs.length) {g : JFrame} (hg : g.method = m) {rest : List Value} (hs : g.stack = .double x :: .int j :: .ref a :: rest) (hd : decode c.code g.pc = .ok (.dastore, 1)) :
    ∃ T' h', Stand p l e R s m args below meth c T' (locs ++ [⟨a, j.toNatClampNeg⟩]) cells slots ∧ T'.heap = h' ∧ Wr h h' a j.toNatClampNeg (.double x) ∧ Arv Z h' a k .double n (vs.set i (.double x)) dv ∧ ∀ target, Steps p.tables e below (T'.setTop { g with pc := g.pc + 1, stack := rest }) target → Steps p.tables e below (T.setTop g) target := by
  obtain ⟨cl, Ar, q, S, N, H, G⟩ := A
  obtain ⟨T', h', X', e', W, st⟩ := stD X hx hZ eT Ar (inb_of S hj) hg hs hd
  exact ⟨T', h', X', e', W, Arv.set Ar q S N H G rfl W i hi hl, st⟩
theorem own_stB (X : Stand p l e R s m args below meth c T locs cells slots) (hx : p.tables.exec = Jvm.exec) (hZ : Z.Warmed39 s.vm) (eT : T.heap = h) (A : Arv Z h a k .byte n vs dv) {j x : Int32} (hj : ¬ j < 0 ∧ j < n) {i : Nat} (hi : j.toNatClampNeg = i) (hl : i < vs.length) {g : JFrame} (hg : g.method = m) {rest : List Value} (hs : g.stack = .int x :: .int j :: .ref a :: rest) (hd : decode c.code g.pc = .ok (.bastore, 1)) :
    ∃ T' h', Stand p l e R s m args below meth c T' (locs ++ [⟨a, j.toNatClampNeg⟩]) cells slots ∧ T'.heap = h' ∧ Wr h h' a j.toNatClampNeg (.int (nar .byte x)) ∧ Arv Z h' a k .byte n (vs.set i (.int (nar .byte x))) dv ∧ ∀ target, Steps p.tables e below (T'.setTop { g with pc := g.pc + 1, stack := rest }) target → Steps p.tables e below (T.setTop g) target := by
  obtain ⟨cl, Ar, q, S, N, H, G⟩ := A
  obtain ⟨T', h', X', e', W, st⟩ := stB X hx hZ eT Ar (inb_of S hj) hg hs hd
  exact ⟨T', h', X', e', W, Arv.set Ar q S N H G (fits_nar_byte x) W i hi hl, st⟩
theorem own_stZ (X : Stand p l e R s m args below meth c T locs cells slots) (hx : p.tables.exec = Jvm.exec) (hZ : Z.Warmed39 s.vm) (eT : T.heap = h) (A : Arv Z h a k .boolean n vs dv) {j x : Int32} (hj : ¬ j < 0 ∧ j < n) {i : Nat} (hi : j.toNatClampNeg = i) (hl : i < vs.length) {g : JFrame} (hg : g.method = m) {rest : List Value} (hs : g.stack = .int x :: .int j :: .ref a :: rest) (hd : decode c.code g.pc = .ok (.bastore, 1)) :
    ∃ T' h', Stand p l e R s m args below meth c T' (locs ++ [⟨a, j.toNatClampNeg⟩]) cells slots ∧ T'.heap = h' ∧ Wr h h' a j.toNatClampNeg (.int (nar .boolean x)) ∧ Arv Z h' a k .boolean n (vs.set i (.int (nar .boolean x))) dv ∧ ∀ target, Steps p.tables e below (T'.setTop { g with pc := g.pc + 1, stack := rest }) target → Steps p.tables e below (T.setTop g) target := by
  obtain ⟨cl, Ar, q, S, N, H, G⟩ := A
  obtain ⟨T', h', X', e', W, st⟩ := stZ X hx hZ eT Ar (inb_of S hj) hg hs hd
  exact ⟨T', h', X', e', W, Arv.set Ar q S N H G (fits_nar_bool x) W i hi hl, st⟩
theorem own_stC (X : Stand p l e R s m args below meth c T locs cells slots) (hx : p.tables.exec = Jvm.exec) (hZ : Z.Warmed39 s.vm) (eT : T.heap = h) (A : Arv Z h a k .char n vs dv) {j x : Int32} (hj : ¬ j < 0 ∧ j < n) {i : Nat} (hi : j.toNatClampNeg = i) (hl : i < vs.length) {g : JFrame} (hg : g.method = m) {rest : List Value} (hs : g.stack = .int x :: .int j :: .ref a :: rest) (hd : decode c.code g.pc = .ok (.castore, 1)) :
    ∃ T' h', Stand p l e R s m args below meth c T' (locs ++ [⟨a, j.toNatClampNeg⟩]) cells slots ∧ T'.heap = h' ∧ Wr h h' a j.toNatClampNeg (.int (nar .char x)) ∧ Arv Z h' a k .char n (vs.set i (.int (nar .char x))) dv ∧ ∀ target, Steps p.tables e below (T'.setTop { g with pc := g.pc + 1, stack := rest }) target → Steps p.tables e below (T.setTop g) target := by
  obtain ⟨cl, Ar, q, S, N, H, G⟩ := A
  obtain ⟨T', h', X', e', W, st⟩ := stC X hx hZ eT Ar (inb_of S hj) hg hs hd
  exact ⟨T', h', X', e', W, Arv.set Ar q S N H G (fits_nar_char x) W i hi hl, st⟩
theorem own_stR (X : Stand p l e R s m args below meth c T locs cells slots) (hx : p.tables.exec = Jvm.exec) (hZ : Z.Warmed39 s.vm) (eT : T.heap = h) (A : Arv Z h a k (.object C) n vs dv) (O : Ovr Z k C) {y : Addr} (I : Ins Z h y C true) {j : Int32} (hj : ¬ j < 0 ∧ j < n) {i : Nat} (hi : j.toNatClampNeg = i) (hl : i < vs.length) {g : JFrame} (hg : g.method = m) {rest : List Value} (hs : g.stack = .ref y :: .int j :: .ref a :: rest) (hd : decode c.code g.pc = .ok (.aastore, 1)) :
    ∃ T' h', Stand p l e R s m args below meth c T' (locs ++ [⟨a, j.toNatClampNeg⟩]) cells slots ∧ T'.heap = h' ∧ Wr h h' a j.toNatClampNeg (.ref y) ∧ Arv Z h' a k (.object C) n (vs.set i (.ref y)) dv ∧ ∀ target, Steps p.tables e below (T'.setTop { g with pc := g.pc + 1, stack := rest }) target → Steps p.tables e below (T.setTop g) target := by
  obtain ⟨cl, Ar, q, S, N, H, G⟩ := A
  obtain ⟨T', h', X', e', W, st⟩ := stR X hx hZ eT Ar (inb_of S hj) rfl (Sto.ofV Ar q O I) hg hs hd
  exact ⟨T', h', X', e', W, Arv.set Ar q S N H G rfl W i hi hl, st⟩
theorem own_ldI (X : Stand p l e R s m args below meth c T locs cells slots) (hx : p.tables.exec = Jvm.exec) (hZ : Z.Warmed39 s.vm) (eT : T.heap = h) (A : Arv Z h a k .int n vs dv) {j : Int32} {v : Value} (hj : ¬ j < 0 ∧ j < n) (hv : vs.getD j.toNatClampNeg dv = v) {g : JFrame} (hg : g.method = m) {rest : List Value} (hs : g.stack = .int j :: .ref a :: rest) (hd : decode c.code g.pc = .ok (.iaload, 1)) :
    ∀ target, Steps p.tables e below (T.setTop { g with pc := g.pc + 1, stack := v :: rest }) target → Steps p.tables e below (T.setTop g) target := by
  obtain ⟨cl, Ar, q, S, N, H, G⟩ := A
  exact fun t k => X.iaload hx (by rw [eT]; exact Ar.1) (State.isArrayOf_alike hZ.alike Ar.2.1) Ar.2.2 (inb_of S hj) (H.at (inb_of S hj) hv) hg hs hd t k
theorem own_ldJ (X : Stand p l e R s m args below meth c T locs cells slots) (hx : p.tables.exec = Jvm.exec) (hZ : Z.Warmed39 s.vm) (eT : T.heap = h) (A : Arv Z h a k .long n vs dv) {j : Int32} {v : Value} (hj : ¬ j < 0 ∧ j < n) (hv : vs.getD j.toNatClampNeg dv = v) {g : JFrame} (hg : g.method = m) {rest : List Value} (hs : g.stack = .int j :: .ref a :: rest) (hd : decode c.code g.pc = .ok (.laload, 1)) :
    ∀ target, Steps p.tables e below (T.setTop { g with pc := g.pc + 1, stack := v :: rest }) target → Steps p.tables e below (T.setTop g) target := by
  obtain ⟨cl, Ar, q, S, N, H, G⟩ := A
  exact fun t k => X.laload hx (by rw [eT]; exact Ar.1) (State.isArrayOf_alike hZ.alike Ar.2.1) Ar.2.2 (inb_of S hj) (H.at (inb_of S hj) hv) hg hs hd t k
theorem own_ldC (X : Stand p l e R s m args below meth c T locs cells slots) (hx : p.tables.exec = Jvm.exec) (hZ : Z.Warmed39 s.vm) (eT : T.heap = h) (A : Arv Z h a k .char n vs dv) {j : Int32} {v : Value} (hj : ¬ j < 0 ∧ j < n) (hv : vs.getD j.toNatClampNeg dv = v) {g : JFrame} (hg : g.method = m) {rest : List Value} (hs : g.stack = .int j :: .ref a :: rest) (hd : decode c.code g.pc = .ok (.caload, 1)) :
    ∀ target, Steps p.tables e below (T.setTop { g with pc := g.pc + 1, stack := v :: rest }) target → Steps p.tables e below (T.setTop g) target := by
  obtain ⟨cl, Ar, q, S, N, H, G⟩ := A
  exact fun t k => X.caload hx (by rw [eT]; exact Ar.1) (State.isArrayOf_alike hZ.alike Ar.2.1) Ar.2.2 (inb_of S hj) (H.at (inb_of S hj) hv) hg hs hd t k
theorem own_ldD (X : Stand p l e R s m args below meth c T locs cells slots) (hx : p.tables.exec = Jvm.exec) (hZ : Z.Warmed39 s.vm) (eT : T.heap = h) (A : Arv Z h a k .double n vs dv) {j : Int32} {v : Value} (hj : ¬ j < 0 ∧ j < n) (hv : vs.getD j.toNatClampNeg dv = v) {g : JFrame} (hg : g.method = m) {rest : List Value} (hs : g.stack = .int j :: .ref a :: rest) (hd : decode c.code g.pc = .ok (.daload, 1)) :
    ∀ target, Steps p.tables e below (T.setTop { g with pc := g.pc + 1, stack := v :: rest }) target → Steps p.tables e below (T.setTop g) target := by
  obtain ⟨cl, Ar, q, S, N, H, G⟩ := A
  exact fun t k => X.daload hx (by rw [eT]; exact Ar.1) (State.isArrayOf_alike hZ.alike Ar.2.1) Ar.2.2 (inb_of S hj) (H.at (inb_of S hj) hv) hg hs hd t k
theorem own_ldB (X : Stand p l e R s m args below meth c T locs cells slots) (hx : p.tables.exec = Jvm.exec) (hZ : Z.Warmed39 s.vm) (eT : T.heap = h) (A : Arv Z h a k .byte n vs dv) {j : Int32} {v : Value} (hj : ¬ j < 0 ∧ j < n) (hv : vs.getD j.toNatClampNeg dv = v) {g : JFrame} (hg : g.method = m) {rest : List Value} (hs : g.stack = .int j :: .ref a :: rest) (hd : decode c.code g.pc = .ok (.baload, 1)) :
    ∀ target, Steps p.tables e below (T.setTop { g with pc := g.pc + 1, stack := v :: rest }) target → Steps p.tables e below (T.setTop g) target := by
  obtain ⟨cl, Ar, q, S, N, H, G⟩ := A
  exact fun t k => X.baloadBytes hx (by rw [eT]; exact Ar.1) (State.isArrayOf_alike hZ.alike Ar.2.1) Ar.2.2 (inb_of S hj) (H.at (inb_of S hj) hv) hg hs hd t k
theorem own_ldR (X : Stand p l e R s m args below meth c T locs cells slots) (hx : p.tables.exec = Jvm.exec) (hZ : Z.Warmed39 s.vm) (eT : T.heap = h) {ty : FieldType} (A : Arv Z h a k ty n vs dv) (hty : ty.isReference = true) {j : Int32} {v : Value} (hj : ¬ j < 0 ∧ j < n) (hv : vs.getD j.toNatClampNeg dv = v) {g : JFrame} (hg : g.method = m) {rest : List Value} (hs : g.stack = .int j :: .ref a :: rest) (hd : decode c.code g.pc = .ok (.aaload, 1)) :
    ∀ target, Steps p.tables e below (T.setTop { g with pc := g.pc + 1, stack := v :: rest }) target → Steps p.tables e below (T.setTop g) target := by
  obtain ⟨cl, Ar, q, S, N, H, G⟩ := A
  exact fun t k => X.aaload hx (by rw [eT]; exact Ar.1) (State.isArrayOf_alike hZ.alike Ar.2.1) hty Ar.2.2 (inb_of S hj) (H.at (inb_of S hj) hv) hg hs hd t k
theorem own_len (X : Stand p l e R s m args below meth c T locs cells slots) (hx : p.tables.exec = Jvm.exec) (hZ : Z.Warmed39 s.vm) (eT : T.heap = h) {ty : FieldType} (A : Arv Z h a k ty n vs dv) {g : JFrame} (hg : g.method = m) {rest : List Value} (hs : g.stack = .ref a :: rest) (hd : decode c.code g.pc = .ok (.arraylength, 1)) :
    ∀ target, Steps p.tables e below (T.setTop { g with pc := g.pc + 1, stack := .int n :: rest }) target → Steps p.tables e below (T.setTop g) target := by
  obtain ⟨cl, Ar, q, S, N, H, G⟩ := A
  intro t kk
  refine X.arraylength hx (by rw [eT]; exact Ar.1) (State.isArrayOf_alike hZ.alike Ar.2.1) hg hs hd t ?_
  rw [len_of S N]; exact kk
end Heap
end Jvm.RoadKit
namespace Jvm.RoadKit
open Sem ClassFile Op Lib Jvm.Stand Jvm.Free Jvm.LawKit
def own_POW (s : State) (Q : Option Value → Heap → List Loc → Prop) (C N : Nat) : Outcome → State → Prop :=
  fun o U' => ∃ v L, o = .returned v ∧ Q v U'.heap L ∧ ReturnedEndW s o U' L C N
section NewW
variable {p : Program} {l : Launch} {e : Env} {R : Room} {s : State} {m : MethodId} {args : Array Value} {below : List Frame} {meth : Method} {c : Code} {T : State} {locs : List Loc} {cells slots : Nat} {h : Heap}
  {Q : Option Value → Heap → List Loc → Prop} {C N : Nat} {vm0 : Vm} {k0 : Nat}
theorem own_endW (X : Stand p l e R (s.setVm vm0) m args below meth c T locs cells slots) {v : Option Value} {U : State} (hv : meth.sig.returnType = none → v = none) (eT : T.heap = h) (hk : meth.locks = false)
    (st : ∀ fs, (∀ (f : JFrame) (acts : List Action), f.method = m → f.locked = none → f.entered = [] → (doReturn e (T.setTop f) acts v).1 = T.setFrames fs) → Steps p.tables e below U (T.setFrames fs))
    (hQ : Q v h locs) (hc : cells ≤ C) (hn : slots ≤ N) (hS : s.Since vm0 k0) (hk0 : k0 ≤ h.size) : own_Go p e below (own_POW s Q C N) U := by
  subst eT
  obtain ⟨fs, hr, hrun, hended, hW⟩ := X.leaveW hS hk0 (v := v) hv hk
  exact ⟨_, _, st fs hr, hrun, hended, _, _, rfl, hQ, hW.1, hW.2.1, hW.2.2.1, hW.2.2.2.mono hc hn⟩
theorem own_retVW (X : Stand p l e R (s.setVm vm0) m args below meth c T locs cells slots) (hx : p.tables.exec = Jvm.exec) {pc : Nat} {Ls : Array Slot} (hret : meth.sig.returnType = none) (hd : decode c.code pc = .ok (.return_, 1))
    (eT : T.heap = h) (hk : meth.locks = false) (hQ : Q none h locs) (hc : cells ≤ C) (hn : slots ≤ N) (hS : s.Since vm0 k0) (hk0 : k0 ≤ h.size) : own_Go p e below (own_POW s Q C N) (T.setTop (mkF m pc Ls [])) :=
  own_endW X (fun _ => rfl) eT hk (fun fs hr => X.returnOut hx hret hd hr) hQ hc hn hS hk0
theorem own_retIW (X : Stand p l e R (s.setVm vm0) m args below meth c T locs cells slots) (hx : p.tables.exec = Jvm.exec) {pc : Nat} {Ls : Array Slot} {z : Int32} {rest : List Value} (hret : meth.sig.returnType = some .int) (hd : decode c.code pc = .ok (.ireturn, 1))
    (eT : T.heap = h) (hk : meth.locks = false) (hQ : Q (some (.int z)) h locs) (hc : cells ≤ C) (hn : slots ≤ N) (hS : s.Since vm0 k0) (hk0 : k0 ≤ h.size) : own_Go p e below (own_POW s Q C N) (T.setTop (mkF m pc Ls (.int z :: rest))) :=
  own_endW X (fun q => by rw [hret] at q; cases q) eT hk (fun fs hr => retOut X hx hret rfl (Or.inl ⟨rfl, Or.inl rfl, z, rfl⟩) hd hr) hQ hc hn hS hk0
theorem own_retNW (X : Stand p l e R (s.setVm vm0) m args below meth c T locs cells slots) (hx : p.tables.exec = Jvm.exec) {pc : Nat} {Ls : Array Slot} {z : Int32} {t : FieldType} {rest : List Value} (hret : meth.sig.returnType = some t) (hz : nar t z = z) (ht : t = .boolean ∨ t = .byte ∨ t = .char ∨ t = .short) (hd : decode c.code pc = .ok (.ireturn, 1))
    (eT : T.heap = h) (hk : meth.locks = false) (hQ : Q (some (.int z)) h locs) (hc : cells ≤ C) (hn : slots ≤ N) (hS : s.Since vm0 k0) (hk0 : k0 ≤ h.size) : own_Go p e below (own_POW s Q C N) (T.setTop (mkF m pc Ls (.int z :: rest))) :=
  own_endW X (fun q => by rw [hret] at q; cases q) eT hk (fun fs hr => retN X hx (t := t) hret ht hd (by rw [hz]; exact hr)) hQ hc hn hS hk0
theorem own_retAW (X : Stand p l e R (s.setVm vm0) m args below meth c T locs cells slots) (hx : p.tables.exec = Jvm.exec) {pc : Nat} {Ls : Array Slot} {w : Value} {t : FieldType} {rest : List Value} (hret : meth.sig.returnType = some t) (ht : t.isReference = true) (hw : w.isRef = true) (hd : decode c.code pc = .ok (.areturn, 1))
    (eT : T.heap = h) (hk : meth.locks = false) (hQ : Q (some w) h locs) (hc : cells ≤ C) (hn : slots ≤ N) (hS : s.Since vm0 k0) (hk0 : k0 ≤ h.size) : own_Go p e below (own_POW s Q C N) (T.setTop (mkF m pc Ls (w :: rest))) :=
  own_endW X (fun q => by rw [hret] at q; cases q) eT hk (fun fs hr => retOut X hx hret (by cases t <;> first | (cases ht; done) | (cases w <;> first | (cases hw; done) | rfl)) (Or.inr (Or.inr (Or.inr (Or.inr ⟨rfl, ht, hw⟩)))) hd hr) hQ hc hn hS hk0
end NewW
end Jvm.RoadKit
namespace Jvm.RoadKit
open Sem ClassFile Op Lib Jvm.Stand Jvm.Free Jvm.LawKit
theorem own_ofNat {c : Int32} (h0 : 0 ≤ c.toInt) : c = Int32.ofNat c.toInt.toNat := by
  apply Int32.toInt_inj.mp
  show c.toInt = (Int32.ofNat c.toInt.toNat).toInt
  rw [Int32.toInt_ofNat_of_lt (by have := c.toInt_lt; omega), Int.toNat_of_nonneg h0]
theorem own_clamp {c : Int32} : c.toNatClampNeg = c.toInt.toNat := rfl
/-- a remainder of what a mask left -/
theorem own_pm (x : Int32) {y : Int32} {d : Int} (hy : y.toInt = d) (hd : 0 < d) : ((x &&& 2147483647) % y).toInt = x.toInt % 2147483648 % d ∧ 0 ≤ ((x &&& 2147483647) % y).toInt ∧ ((x &&& 2147483647) % y).toInt < d := by
  have e := c_mask x 2147483647 31 (by decide) (by decide)
  have e2 : ((2 ^ 31 : Nat) : Int) = 2147483648 := by decide
  rw [e2] at e
  have h0 : 0 ≤ (x &&& 2147483647).toInt := by rw [e]; exact Int.emod_nonneg _ (by decide)
  have q := (c_irem (x &&& 2147483647) y d hy).1 h0
  rw [e] at q
  have hd' : d ≠ 0 := by omega
  exact ⟨q, by rw [q]; exact Int.emod_nonneg _ hd', by rw [q]; exact Int.emod_lt_of_pos _ hd⟩
theorem own_r14 {x i : Int32} (h : i = (x &&& 2147483647) % 14) : i = 0 ∨ i = 1 ∨ i = 2 ∨ i = 3 ∨ i = 4 ∨ i = 5 ∨ i = 6 ∨ i = 7 ∨ i = 8 ∨ i = 9 ∨ i = 10 ∨ i = 11 ∨ i = 12 ∨ i = 13 := by
  obtain ⟨-, h1, h2⟩ := own_pm x (y := 14) (d := 14) (by decide) (by decide)
  rw [← h] at h1 h2
  have t : ∀ k : Fin 14, (Int32.ofNat k.1 = 0 ∨ Int32.ofNat k.1 = 1 ∨ Int32.ofNat k.1 = 2 ∨ Int32.ofNat k.1 = 3 ∨ Int32.ofNat k.1 = 4 ∨ Int32.ofNat k.1 = 5 ∨ Int32.ofNat k.1 = 6 ∨ Int32.ofNat k.1 = 7 ∨ Int32.ofNat k.1 = 8 ∨ Int32.ofNat k.1 = 9 ∨ Int32.ofNat k.1 = 10 ∨ Int32.ofNat k.1 = 11 ∨ Int32.ofNat k.1 = 12 ∨ Int32.ofNat k.1 = 13) := by decide +kernel
  have q := t ⟨i.toInt.toNat, by omega⟩
  rwa [← own_ofNat h1] at q
end Jvm.RoadKit
namespace Jvm.RoadKit
/-- what getQx reckons -/
def own_mix (r m f : UInt64) : UInt64 := FP.dadd (FP.dmul r m) (FP.dmul (FP.dsub (4607182418800017408 : UInt64) r) f)
def own_mixN (r m f : UInt64) : Prop := Jvm.Free.Fl.NoNaN64 (FP.dmul r m) ∧ Jvm.Free.Fl.NoNaN64 (FP.dsub (4607182418800017408 : UInt64) r) ∧ Jvm.Free.Fl.NoNaN64 (FP.dmul (FP.dsub (4607182418800017408 : UInt64) r) f) ∧ Jvm.Free.Fl.NoNaN64 (own_mix r m f)
end Jvm.RoadKit
namespace Jvm.Pilot.@@N@@
open Jvm Jvm.ClassFile Sem Op Lib Jvm.Free Jvm.Stand Jvm.LawKit Jvm.RoadKit Bundle Jvm.Pilot.@@N@@.Jvm.D
theorem own_wS {Z : State} {a0 : Array Value} (hw : ∀ d ∈ tables_1, d.before a0 Z = true) : ∀ a ∈ Bundle.stringAtoms, a.before a0 Z = true := by
  intro a ha
  simp only [Bundle.stringAtoms, List.mem_cons, List.not_mem_nil, or_false] at ha
  rcases ha with rfl | rfl | rfl | rfl | rfl | rfl | rfl
  · exact (hw _ (List.mem_of_getElem? (i := 39) rfl))
  · exact (hw _ (List.mem_of_getElem? (i := 40) rfl))
  · exact (hw _ (List.mem_of_getElem? (i := 41) rfl))
  · exact (hw _ (List.mem_of_getElem? (i := 42) rfl))
  · exact (hw _ (List.mem_of_getElem? (i := 43) rfl))
  · exact (hw _ (List.mem_of_getElem? (i := 44) rfl))
  · exact (hw _ (List.mem_of_getElem? (i := 45) rfl))

/-- a rate: neither below 0 nor above 1 -/
def own_ok (u : UInt64) : Prop := ¬ cmpValue (FP.dcmp u (0 : UInt64)) .l < 0 ∧ ¬ (0 : Int32) < cmpValue (FP.dcmp u (4607182418800017408 : UInt64)) .g
theorem own_ok1 : own_ok (4607182418800017408 : UInt64) := by unfold own_ok; decide +kernel
theorem own_ok0 : own_ok (0 : UInt64) := by unfold own_ok; decide +kernel
theorem d7_0 : decode prog_79_method_9_code 0 = .ok (.dload_n 0, 1) := by decide +kernel
theorem d7_1 : decode prog_79_method_9_code 1 = .ok (.dconst 0, 1) := by decide +kernel
theorem d7_2 : decode prog_79_method_9_code 2 = .ok (.dcmp .l, 1) := by decide +kernel
theorem d7_3 : decode prog_79_method_9_code 3 = .ok (.ifCond .lt 13, 3) := by decide +kernel
theorem d7_6 : decode prog_79_method_9_code 6 = .ok (.dload_n 0, 1) := by decide +kernel
theorem d7_7 : decode prog_79_method_9_code 7 = .ok (.dconst 1, 1) := by decide +kernel
theorem d7_8 : decode prog_79_method_9_code 8 = .ok (.dcmp .g, 1) := by decide +kernel
theorem d7_9 : decode prog_79_method_9_code 9 = .ok (.ifCond .gt 7, 3) := by decide +kernel
theorem d7_12 : decode prog_79_method_9_code 12 = .ok (.iconst 1, 1) := by decide +kernel
theorem d7_13 : decode prog_79_method_9_code 13 = .ok (.goto 4, 3) := by decide +kernel
theorem d7_17 : decode prog_79_method_9_code 17 = .ok (.ireturn, 1) := by decide +kernel
theorem pn_0 : plainName "com/example/overcap/overcap/model/MortalityTable" = true := by first | (simp [plainName, overriddenIn]; done) | decide +kernel
theorem ef_rmIs (m : MethodId) (x0 : UInt64) : entryFrame m #[(.double x0)] 2 = mkF m 0 #[.val (.double x0), .second] [] := by first | (simp [entryFrame, mkF, argsToLocals, Value.category]; done) | rfl
def Q_rmIs (h0 : Heap) (n0 : Nat) (v : Option Value) (h : Heap) (L : List Loc) : Prop := v = some (.int 1) ∧ Fr n0 L ∧ h = h0
set_option maxRecDepth 65536 in
set_option maxHeartbeats 40000000 in
theorem rmIs (l : Launch) (Z : State) (a0 : Array Value) (hw : ∀ d ∈ tables_1, d.before a0 Z = true) (ws : List Jvm.Cond) (uA : UInt64)  (h0 : Heap) (n0 : Nat) (Z0 : n0 ≤ h0.size) (hOk : own_ok uA) :
    MetFree l (⟨"com/example/overcap/overcap/model/MortalityTable", "isFromZeroToOne", "(D)Z"⟩ : MethodName) (head1 (Jvm.Cond.code (⟨"com/example/overcap/overcap/model/MortalityTable", "isFromZeroToOne", "(D)Z"⟩ : MethodName) prog_79_method_9_code 2 (some .boolean) :: ws) ({ frames := 0, cells := 0, slots := 0, locals := 0 } : Room)) (fun a U => a = #[(.double uA)] ∧ Z.Warmed39 U.vm ∧ U.heap = h0) (fun _ _ _ _ _ => True) (fun _ U o U' => ∃ v L, o = .returned v ∧ Q_rmIs h0 n0 v U'.heap L ∧ FrameEnd U o U' L ({ frames := 0, cells := 0, slots := 0, locals := 0 } : Room).cells ({ frames := 0, cells := 0, slots := 0, locals := 0 } : Room).slots) := by
  refine MetFree.of_bodySF (plainFor_of_name pn_0) hisR ?_
  intro p e s m args below meth c s₁ Bd hml0 hP hK
  obtain ⟨rfl, hZ, hh⟩ := hP
  have hx := Bd.exec
  have hby := Bd.bytes
  have hml : c.maxLocals = 2 := hml0
  have hown : s.vm.findClass "com/example/overcap/overcap/model/MortalityTable" = some m.cls := findClass_of_methodNamed Bd.named
  have hnm := (name_of_methodNamed Bd.named Bd.method).1
  have X0 : Stand p l e ({ frames := 0, cells := 0, slots := 0, locals := 0 } : Room) s m #[(.double uA)] below meth c s₁ [] 0 0 := Stand.of_body Bd
  have e0 : s₁.heap = h0 := by rw [← hh, Bd.state]; rfl
  have N0 := Fr.nil n0
  let PO : Outcome → State → Prop := own_PO s (Q_rmIs h0 n0) 0 0
  show own_Go p e below PO (s₁.setTop (entryFrame m #[(.double uA)] 2))
  rw [ef_rmIs]
  show own_Go p e below PO (s₁.setTop (mkF m 0 #[.val (.double uA), .second] []))
  refine own_back ?_ (fun t k => XS.dloadN X0.here hx rfl (hb hby d7_0) rfl k)
  show own_Go p e below PO (s₁.setTop (mkF m 1 #[.val (.double uA), .second] [(.double uA)]))
  refine own_back ?_ (fun t k => XS.dconst0 X0.here hx rfl (v := (0 : UInt64)) (hb hby d7_1) (by decide +kernel) k)
  show own_Go p e below PO (s₁.setTop (mkF m 2 #[.val (.double uA), .second] [(.double (0 : UInt64)), (.double uA)]))
  refine own_back ?_ (fun t k => XS.dcmpS X0.here hx rfl (v := (cmpValue (FP.dcmp uA (0 : UInt64)) .l)) (hb hby d7_2) rfl rfl k)
  show own_Go p e below PO (s₁.setTop (mkF m 3 #[.val (.double uA), .second] [(.int (cmpValue (FP.dcmp uA (0 : UInt64)) .l))]))
  refine own_back ?_ (fun t k => XS.ifNo X0.here hx rfl (hb hby d7_3) rfl ((if0 _ _).trans (flt hOk.1).1) k)
  show own_Go p e below PO (s₁.setTop (mkF m 6 #[.val (.double uA), .second] []))
  refine own_back ?_ (fun t k => XS.dloadN X0.here hx rfl (hb hby d7_6) rfl k)
  show own_Go p e below PO (s₁.setTop (mkF m 7 #[.val (.double uA), .second] [(.double uA)]))
  refine own_back ?_ (fun t k => XS.dconst1 X0.here hx rfl (v := (4607182418800017408 : UInt64)) (hb hby d7_7) (by decide +kernel) k)
  show own_Go p e below PO (s₁.setTop (mkF m 8 #[.val (.double uA), .second] [(.double (4607182418800017408 : UInt64)), (.double uA)]))
  refine own_back ?_ (fun t k => XS.dcmpS X0.here hx rfl (v := (cmpValue (FP.dcmp uA (4607182418800017408 : UInt64)) .g)) (hb hby d7_8) rfl rfl k)
  show own_Go p e below PO (s₁.setTop (mkF m 9 #[.val (.double uA), .second] [(.int (cmpValue (FP.dcmp uA (4607182418800017408 : UInt64)) .g))]))
  refine own_back ?_ (fun t k => XS.ifNo X0.here hx rfl (hb hby d7_9) rfl ((if0 _ _).trans (flt hOk.2).2.2.1) k)
  show own_Go p e below PO (s₁.setTop (mkF m 12 #[.val (.double uA), .second] []))
  refine own_back ?_ (fun t k => XS.iconst X0.here hx rfl (hb hby d7_12) k)
  show own_Go p e below PO (s₁.setTop (mkF m 13 #[.val (.double uA), .second] [(.int (1 : Int32))]))
  refine own_back ?_ (fun t k => XS.goto X0.here hx rfl (pc0 := 13) (pc' := 17) rfl (hb hby d7_13) (by decide) (by decide) k)
  show own_Go p e below PO (s₁.setTop (mkF m 17 #[.val (.double uA), .second] [(.int (1 : Int32))]))
  refine own_retN X0 hx (t := .boolean) (rest := []) Bd.returns (by decide) (by simp) (hb hby d7_17) e0 (Bd.notSynchronized) ?_ (by decide) (by decide)
  exact ⟨rfl, N0, rfl⟩
theorem pd_0 : parseMethodDescriptor "(D)Z" = some ⟨[.double], some .boolean⟩ := by decide +kernel
theorem d6_0 : decode prog_79_method_7_code 0 = .ok (.dload_n 2, 1) := by decide +kernel
theorem d6_1 : decode prog_79_method_7_code 1 = .ok (.invokestatic 77, 3) := by decide +kernel
theorem d6_4 : decode prog_79_method_7_code 4 = .ok (.ifCond .ne 42, 3) := by decide +kernel
theorem d6_46 : decode prog_79_method_7_code 46 = .ok (.return_, 1) := by decide +kernel
theorem ef_rmRate (m : MethodId) (x0 : Addr) (x1 : Int32) (x2 : UInt64) : entryFrame m #[(.ref x0), (.int x1), (.double x2)] 5 = mkF m 0 #[.val (.ref x0), .val (.int x1), .val (.double x2), .second, .unset] [] := by first | (simp [entryFrame, mkF, argsToLocals, Value.category]; done) | rfl
def Q_rmRate (h0 : Heap) (n0 : Nat) (v : Option Value) (h : Heap) (L : List Loc) : Prop := v = none ∧ Fr n0 L ∧ h = h0
set_option maxRecDepth 65536 in
set_option maxHeartbeats 40000000 in
theorem rmRate (l : Launch) (Z : State) (a0 : Array Value) (hw : ∀ d ∈ tables_1, d.before a0 Z = true) (ws : List Jvm.Cond) (aS : Addr) (pA : Int32) (uA : UInt64)  (h0 : Heap) (n0 : Nat) (Z0 : n0 ≤ h0.size) (hOk : own_ok uA) :
    MetFree l (⟨"com/example/overcap/overcap/model/MortalityTable", "checkRate", "(Ljava/lang/String;ID)V"⟩ : MethodName) (head1 (Jvm.Cond.code (⟨"com/example/overcap/overcap/model/MortalityTable", "checkRate", "(Ljava/lang/String;ID)V"⟩ : MethodName) prog_79_method_7_code 5 none :: ws) ({ frames := 1, cells := 0, slots := 0, locals := 13 } : Room)) (fun a U => a = #[(.ref aS), (.int pA), (.double uA)] ∧ Z.Warmed39 U.vm ∧ U.heap = h0) (fun _ _ _ _ _ => True) (fun _ U o U' => ∃ v L, o = .returned v ∧ Q_rmRate h0 n0 v U'.heap L ∧ FrameEnd U o U' L ({ frames := 1, cells := 0, slots := 0, locals := 13 } : Room).cells ({ frames := 1, cells := 0, slots := 0, locals := 13 } : Room).slots) := by
  refine MetFree.of_bodySF (plainFor_of_name pn_0) hisR ?_
  intro p e s m args below meth c s₁ Bd hml0 hP hK
  obtain ⟨rfl, hZ, hh⟩ := hP
  have hx := Bd.exec
  have hby := Bd.bytes
  have hml : c.maxLocals = 5 := hml0
  have hown : s.vm.findClass "com/example/overcap/overcap/model/MortalityTable" = some m.cls := findClass_of_methodNamed Bd.named
  have hnm := (name_of_methodNamed Bd.named Bd.method).1
  have X0 : Stand p l e ({ frames := 1, cells := 0, slots := 0, locals := 13 } : Room) s m #[(.ref aS), (.int pA), (.double uA)] below meth c s₁ [] 0 0 := Stand.of_body Bd
  have e0 : s₁.heap = h0 := by rw [← hh, Bd.state]; rfl
  have N0 := Fr.nil n0
  let PO : Outcome → State → Prop := own_PO s (Q_rmRate h0 n0) 0 0
  show own_Go p e below PO (s₁.setTop (entryFrame m #[(.ref aS), (.int pA), (.double uA)] 5))
  rw [ef_rmRate]
  show own_Go p e below PO (s₁.setTop (mkF m 0 #[.val (.ref aS), .val (.int pA), .val (.double uA), .second, .unset] []))
  refine own_back ?_ (fun t k => XS.dloadN X0.here hx rfl (hb hby d6_0) rfl k)
  show own_Go p e below PO (s₁.setTop (mkF m 1 #[.val (.ref aS), .val (.int pA), .val (.double uA), .second, .unset] [(.double uA)]))
  obtain ⟨_, _, ⟨T1, L1, k1, n1⟩, -, X1, ⟨Lc1, hQ1, l1, y1, z1⟩, st1⟩ := Jvm.LawKit.callS X0 hx (y := (⟨"com/example/overcap/overcap/model/MortalityTable", "isFromZeroToOne", "(D)Z"⟩ : MethodName)) hown (mvT hZ (hw _ (List.mem_of_getElem? (i := 49) rfl))) (mvT hZ (hw _ (List.mem_of_getElem? (i := 50) rfl))) (mvT hZ (hw _ (List.mem_of_getElem? (i := 10) rfl))) (mvT hZ (hw _ (List.mem_of_getElem? (i := 51) rfl))) (by decide) (backOf (W := 0) (rmIs l Z a0 hw [] uA  h0 n0 Z0 hOk) hZ (hw _ (List.mem_of_getElem? (i := 51) rfl)) (hw _ (List.mem_of_getElem? (i := 10) rfl)) (by decide) (by decide)) (g := (mkF m 1 #[.val (.ref aS), .val (.int pA), .val (.double uA), .second, .unset] [(.double uA)])) rfl (by rw [hml]; rfl) (argsL := [(.double uA)]) (rest := []) (lenOf pd_0 rfl) rfl (by show 2 * 0 + _ ≤ _; exact Nat.le_of_eq rfl) (hb hby d6_1) (fun _ _ => ⟨rfl, e0, (by decide : 0 + 0 ≤ _), (by decide : 0 + 0 ≤ _)⟩)
  dsimp only [Pt.U, Pt.locs, Pt.cells, Pt.slots] at X1 l1 y1 z1 st1 hQ1
  subst l1 y1 z1
  obtain ⟨rfl, N1q, e1⟩ := hQ1
  have N1 := Fr.app N0 N1q
  refine own_back ?_ st1
  show own_Go p e below PO (T1.setTop (mkF m 4 #[.val (.ref aS), .val (.int pA), .val (.double uA), .second, .unset] [(.int (1 : Int32))]))
  have hd4_2 : ¬ ((1 : Int32) = (0 : Int32)) := (by decide)
  refine own_back ?_ (fun t k => XS.ifYes X1.here hx rfl (pc0 := 4) (pc' := 46) rfl (hb hby d6_4) rfl ((if0 _ _).trans (feq hd4_2).2) (by decide) (by decide) k)
  show own_Go p e below PO (T1.setTop (mkF m 46 #[.val (.ref aS), .val (.int pA), .val (.double uA), .second, .unset] []))
  refine own_retV X1 hx Bd.returns (hb hby d6_46) e1 (Bd.notSynchronized) ?_ (by decide) (by decide)
  exact ⟨rfl, N1, rfl⟩
theorem pd_1 : parseMethodDescriptor "(Ljava/lang/String;ID)V" = some ⟨[(.object "java/lang/String"), .int, .double], none⟩ := by decide +kernel
theorem d5_0 : decode prog_79_method_3_code 0 = .ok (.ldc 54, 2) := by decide +kernel
theorem d5_2 : decode prog_79_method_3_code 2 = .ok (.iload_n 0, 1) := by decide +kernel
theorem d5_3 : decode prog_79_method_3_code 3 = .ok (.dload_n 1, 1) := by decide +kernel
theorem d5_4 : decode prog_79_method_3_code 4 = .ok (.invokestatic 66, 3) := by decide +kernel
theorem d5_7 : decode prog_79_method_3_code 7 = .ok (.ldc 60, 2) := by decide +kernel
theorem d5_9 : decode prog_79_method_3_code 9 = .ok (.iload_n 0, 1) := by decide +kernel
theorem d5_10 : decode prog_79_method_3_code 10 = .ok (.dload_n 3, 1) := by decide +kernel
theorem d5_11 : decode prog_79_method_3_code 11 = .ok (.invokestatic 66, 3) := by decide +kernel
theorem d5_14 : decode prog_79_method_3_code 14 = .ok (.return_, 1) := by decide +kernel
theorem ef_rmRates (m : MethodId) (x0 : Int32) (x1 : UInt64) (x2 : UInt64) : entryFrame m #[(.int x0), (.double x1), (.double x2)] 5 = mkF m 0 #[.val (.int x0), .val (.double x1), .second, .val (.double x2), .second] [] := by first | (simp [entryFrame, mkF, argsToLocals, Value.category]; done) | rfl
def Q_rmRates (h0 : Heap) (n0 : Nat) (v : Option Value) (h : Heap) (L : List Loc) : Prop := v = none ∧ Fr n0 L ∧ Keep h0 h []
set_option maxRecDepth 65536 in
set_option maxHeartbeats 40000000 in
theorem rmRates (l : Launch) (Z : State) (a0 : Array Value) (hw : ∀ d ∈ tables_1, d.before a0 Z = true) (ws : List Jvm.Cond) (pA : Int32) (uM : UInt64) (uF : UInt64)  (h0 : Heap) (n0 : Nat) (Z0 : n0 ≤ h0.size) (hM : own_ok uM) (hF : own_ok uF) :
    MetFree l (⟨"com/example/overcap/overcap/model/MortalityTable", "checkRates", "(IDD)V"⟩ : MethodName) (head1 (Jvm.Cond.code (⟨"com/example/overcap/overcap/model/MortalityTable", "checkRates", "(IDD)V"⟩ : MethodName) prog_79_method_3_code 5 none :: ws) ({ frames := 2, cells := 4, slots := 48, locals := 29 } : Room)) (fun a U => a = #[(.int pA), (.double uM), (.double uF)] ∧ Z.Warmed39 U.vm ∧ U.heap = h0) (fun _ _ _ _ _ => True) (fun _ U o U' => ∃ v L, o = .returned v ∧ Q_rmRates h0 n0 v U'.heap L ∧ ReturnedEndW U o U' L ({ frames := 2, cells := 4, slots := 48, locals := 29 } : Room).cells ({ frames := 2, cells := 4, slots := 48, locals := 29 } : Room).slots) := by
  refine MetFree.of_bodySF (plainFor_of_name pn_0) hisR ?_
  intro p e s m args below meth c s₁ Bd hml0 hP hK
  obtain ⟨rfl, hZ, hh⟩ := hP
  have hx := Bd.exec
  have hby := Bd.bytes
  have hml : c.maxLocals = 5 := hml0
  have hown : s.vm.findClass "com/example/overcap/overcap/model/MortalityTable" = some m.cls := findClass_of_methodNamed Bd.named
  have hnm := (name_of_methodNamed Bd.named Bd.method).1
  have X0 : Stand p l e ({ frames := 2, cells := 4, slots := 48, locals := 29 } : Room) s m #[(.int pA), (.double uM), (.double uF)] below meth c s₁ [] 0 0 := Stand.of_body Bd
  have e0 : s₁.heap = h0 := by rw [← hh, Bd.state]; rfl
  have N0 := Fr.nil n0
  have hS0 : s.Since s.vm 0 := (State.WarmedH.refl s).since 0
  let PO : Outcome → State → Prop := own_POW s (Q_rmRates h0 n0) 4 48
  show own_Go p e below PO (s₁.setTop (entryFrame m #[(.int pA), (.double uM), (.double uF)] 5))
  rw [ef_rmRates]
  show own_Go p e below PO (s₁.setTop (mkF m 0 #[.val (.int pA), .val (.double uM), .second, .val (.double uF), .second] []))
  obtain ⟨aS1, T1, h1, k1, X1, e1, E1, hS1, hk1, hZ, hown, st1⟩ := ldcS (s := s) (vm0 := s.vm) X0 hx hZ hown (hw _ (List.mem_of_getElem? (i := 38) rfl)) (own_wS hw) e0 hS0 (Nat.zero_le _) (g := (mkF m 0 #[.val (.int pA), .val (.double uM), .second, .val (.double uF), .second] [])) rfl (hb hby d5_0) (n := 16) (by decide) (by decide) (by decide) (by decide)
  have K1 : Keep h0 h1 [] := (Keep.refl h0 []).ext E1
  have Zh1 : n0 ≤ h1.size := Nat.le_trans Z0 K1.1
  refine own_back ?_ st1
  show own_Go p e below PO (T1.setTop (mkF m 2 #[.val (.int pA), .val (.double uM), .second, .val (.double uF), .second] [(.ref aS1)]))
  refine own_back ?_ (fun t k => XS.iloadN X1.here hx rfl (hb hby d5_2) rfl k)
  show own_Go p e below PO (T1.setTop (mkF m 3 #[.val (.int pA), .val (.double uM), .second, .val (.double uF), .second] [(.int pA), (.ref aS1)]))
  refine own_back ?_ (fun t k => XS.dloadN X1.here hx rfl (hb hby d5_3) rfl k)
  show own_Go p e below PO (T1.setTop (mkF m 4 #[.val (.int pA), .val (.double uM), .second, .val (.double uF), .second] [(.double uM), (.int pA), (.ref aS1)]))
  obtain ⟨_, _, ⟨T2, L2, k2, n2⟩, -, X2, ⟨Lc2, hQ2, l2, y2, z2⟩, st2⟩ := Jvm.LawKit.callS X1 hx (y := (⟨"com/example/overcap/overcap/model/MortalityTable", "checkRate", "(Ljava/lang/String;ID)V"⟩ : MethodName)) hown (mvT hZ (hw _ (List.mem_of_getElem? (i := 46) rfl))) (mvT hZ (hw _ (List.mem_of_getElem? (i := 47) rfl))) (mvT hZ (hw _ (List.mem_of_getElem? (i := 10) rfl))) (mvT hZ (hw _ (List.mem_of_getElem? (i := 48) rfl))) (by decide) (backOf (W := 0) (rmRate l Z a0 hw [] aS1 pA uM  h1 n0 Zh1 hM) hZ (hw _ (List.mem_of_getElem? (i := 48) rfl)) (hw _ (List.mem_of_getElem? (i := 10) rfl)) (by decide) (by decide)) (g := (mkF m 4 #[.val (.int pA), .val (.double uM), .second, .val (.double uF), .second] [(.double uM), (.int pA), (.ref aS1)])) rfl (by rw [hml]; rfl) (argsL := [(.ref aS1), (.int pA), (.double uM)]) (rest := []) (lenOf pd_1 rfl) rfl (by show 2 * 0 + _ ≤ _; exact Nat.le_of_eq rfl) (hb hby d5_4) (fun _ _ => ⟨rfl, e1, (by decide : 2 + 0 ≤ _), (by decide : 20 + 0 ≤ _)⟩)
  dsimp only [Pt.U, Pt.locs, Pt.cells, Pt.slots] at X2 l2 y2 z2 st2 hQ2
  subst l2 y2 z2
  obtain ⟨rfl, N2q, e2⟩ := hQ2
  have N2 := Fr.app N0 N2q
  refine own_back ?_ st2
  show own_Go p e below PO (T2.setTop (mkF m 7 #[.val (.int pA), .val (.double uM), .second, .val (.double uF), .second] []))
  obtain ⟨aS3, T3, h3, k3, X3, e3, E3, hS3, hk3, hZ, hown, st3⟩ := ldcS (s := s) (vm0 := T1.vm) X2 hx hZ hown (hw _ (List.mem_of_getElem? (i := 52) rfl)) (own_wS hw) e2 hS1 hk1 (g := (mkF m 7 #[.val (.int pA), .val (.double uM), .second, .val (.double uF), .second] [])) rfl (hb hby d5_7) (n := 24) (by decide) (by decide) (by decide) (by decide)
  have K3 : Keep h0 h3 [] := (K1).ext E3
  have Zh3 : n0 ≤ h3.size := Nat.le_trans Z0 K3.1
  refine own_back ?_ st3
  show own_Go p e below PO (T3.setTop (mkF m 9 #[.val (.int pA), .val (.double uM), .second, .val (.double uF), .second] [(.ref aS3)]))
  refine own_back ?_ (fun t k => XS.iloadN X3.here hx rfl (hb hby d5_9) rfl k)
  show own_Go p e below PO (T3.setTop (mkF m 10 #[.val (.int pA), .val (.double uM), .second, .val (.double uF), .second] [(.int pA), (.ref aS3)]))
  refine own_back ?_ (fun t k => XS.dloadN X3.here hx rfl (hb hby d5_10) rfl k)
  show own_Go p e below PO (T3.setTop (mkF m 11 #[.val (.int pA), .val (.double uM), .second, .val (.double uF), .second] [(.double uF), (.int pA), (.ref aS3)]))
  obtain ⟨_, _, ⟨T4, L4, k4, n4⟩, -, X4, ⟨Lc4, hQ4, l4, y4, z4⟩, st4⟩ := Jvm.LawKit.callS X3 hx (y := (⟨"com/example/overcap/overcap/model/MortalityTable", "checkRate", "(Ljava/lang/String;ID)V"⟩ : MethodName)) hown (mvT hZ (hw _ (List.mem_of_getElem? (i := 46) rfl))) (mvT hZ (hw _ (List.mem_of_getElem? (i := 47) rfl))) (mvT hZ (hw _ (List.mem_of_getElem? (i := 10) rfl))) (mvT hZ (hw _ (List.mem_of_getElem? (i := 48) rfl))) (by decide) (backOf (W := 0) (rmRate l Z a0 hw [] aS3 pA uF  h3 n0 Zh3 hF) hZ (hw _ (List.mem_of_getElem? (i := 48) rfl)) (hw _ (List.mem_of_getElem? (i := 10) rfl)) (by decide) (by decide)) (g := (mkF m 11 #[.val (.int pA), .val (.double uM), .second, .val (.double uF), .second] [(.double uF), (.int pA), (.ref aS3)])) rfl (by rw [hml]; rfl) (argsL := [(.ref aS3), (.int pA), (.double uF)]) (rest := []) (lenOf pd_1 rfl) rfl (by show 2 * 0 + _ ≤ _; exact Nat.le_of_eq rfl) (hb hby d5_11) (fun _ _ => ⟨rfl, e3, (by decide : 4 + 0 ≤ _), (by decide : 48 + 0 ≤ _)⟩)
  dsimp only [Pt.U, Pt.locs, Pt.cells, Pt.slots] at X4 l4 y4 z4 st4 hQ4
  subst l4 y4 z4
  obtain ⟨rfl, N4q, e4⟩ := hQ4
  have N4 := Fr.app N2 N4q
  refine own_back ?_ st4
  show own_Go p e below PO (T4.setTop (mkF m 14 #[.val (.int pA), .val (.double uM), .second, .val (.double uF), .second] []))
  refine own_retVW X4 hx Bd.returns (hb hby d5_14) e4 (Bd.notSynchronized) ?_ (by decide) (by decide) (s := s) (vm0 := T3.vm) hS3 hk3
  exact ⟨rfl, N4, K3⟩
theorem d4_0 : decode prog_79_method_2_code 0 = .ok (.iload_n 0, 1) := by decide +kernel
theorem d4_1 : decode prog_79_method_2_code 1 = .ok (.ifCond .ge 17, 3) := by decide +kernel
theorem d4_18 : decode prog_79_method_2_code 18 = .ok (.return_, 1) := by decide +kernel
theorem ef_rmFirst (m : MethodId) (x0 : Int32) : entryFrame m #[(.int x0)] 1 = mkF m 0 #[.val (.int x0)] [] := by first | (simp [entryFrame, mkF, argsToLocals, Value.category]; done) | rfl
def Q_rmFirst (h0 : Heap) (n0 : Nat) (v : Option Value) (h : Heap) (L : List Loc) : Prop := v = none ∧ Fr n0 L ∧ h = h0
set_option maxRecDepth 65536 in
set_option maxHeartbeats 40000000 in
theorem rmFirst (l : Launch) (Z : State) (a0 : Array Value) (hw : ∀ d ∈ tables_1, d.before a0 Z = true) (ws : List Jvm.Cond) (pA : Int32)  (h0 : Heap) (n0 : Nat) (Z0 : n0 ≤ h0.size) (hA : ¬ pA < 0) :
    MetFree l (⟨"com/example/overcap/overcap/model/MortalityTable", "checkFirstAge", "(I)V"⟩ : MethodName) (head1 (Jvm.Cond.code (⟨"com/example/overcap/overcap/model/MortalityTable", "checkFirstAge", "(I)V"⟩ : MethodName) prog_79_method_2_code 1 none :: ws) ({ frames := 0, cells := 0, slots := 0, locals := 0 } : Room)) (fun a U => a = #[(.int pA)] ∧ Z.Warmed39 U.vm ∧ U.heap = h0) (fun _ _ _ _ _ => True) (fun _ U o U' => ∃ v L, o = .returned v ∧ Q_rmFirst h0 n0 v U'.heap L ∧ FrameEnd U o U' L ({ frames := 0, cells := 0, slots := 0, locals := 0 } : Room).cells ({ frames := 0, cells := 0, slots := 0, locals := 0 } : Room).slots) := by
  refine MetFree.of_bodySF (plainFor_of_name pn_0) hisR ?_
  intro p e s m args below meth c s₁ Bd hml0 hP hK
  obtain ⟨rfl, hZ, hh⟩ := hP
  have hx := Bd.exec
  have hby := Bd.bytes
  have hml : c.maxLocals = 1 := hml0
  have hown : s.vm.findClass "com/example/overcap/overcap/model/MortalityTable" = some m.cls := findClass_of_methodNamed Bd.named
  have hnm := (name_of_methodNamed Bd.named Bd.method).1
  have X0 : Stand p l e ({ frames := 0, cells := 0, slots := 0, locals := 0 } : Room) s m #[(.int pA)] below meth c s₁ [] 0 0 := Stand.of_body Bd
  have e0 : s₁.heap = h0 := by rw [← hh, Bd.state]; rfl
  have N0 := Fr.nil n0
  let PO : Outcome → State → Prop := own_PO s (Q_rmFirst h0 n0) 0 0
  show own_Go p e below PO (s₁.setTop (entryFrame m #[(.int pA)] 1))
  rw [ef_rmFirst]
  show own_Go p e below PO (s₁.setTop (mkF m 0 #[.val (.int pA)] []))
  refine own_back ?_ (fun t k => XS.iloadN X0.here hx rfl (hb hby d4_0) rfl k)
  show own_Go p e below PO (s₁.setTop (mkF m 1 #[.val (.int pA)] [(.int pA)]))
  refine own_back ?_ (fun t k => XS.ifYes X0.here hx rfl (pc0 := 1) (pc' := 18) rfl (hb hby d4_1) rfl ((if0 _ _).trans (flt hA).2.1) (by decide) (by decide) k)
  show own_Go p e below PO (s₁.setTop (mkF m 18 #[.val (.int pA)] []))
  refine own_retV X0 hx Bd.returns (hb hby d4_18) e0 (Bd.notSynchronized) ?_ (by decide) (by decide)
  exact ⟨rfl, N0, rfl⟩
theorem d8_0 : decode prog_79_method_8_code 0 = .ok (.aload_n 2, 1) := by decide +kernel
theorem d8_1 : decode prog_79_method_8_code 1 = .ok (.aload_n 2, 1) := by decide +kernel
theorem d8_2 : decode prog_79_method_8_code 2 = .ok (.arraylength, 1) := by decide +kernel
theorem d8_3 : decode prog_79_method_8_code 3 = .ok (.iconst 1, 1) := by decide +kernel
theorem d8_4 : decode prog_79_method_8_code 4 = .ok (.isub, 1) := by decide +kernel
theorem d8_5 : decode prog_79_method_8_code 5 = .ok (.daload, 1) := by decide +kernel
theorem d8_6 : decode prog_79_method_8_code 6 = .ok (.dconst 1, 1) := by decide +kernel
theorem d8_7 : decode prog_79_method_8_code 7 = .ok (.dcmp .l, 1) := by decide +kernel
theorem d8_8 : decode prog_79_method_8_code 8 = .ok (.ifCond .eq 48, 3) := by decide +kernel
theorem d8_56 : decode prog_79_method_8_code 56 = .ok (.return_, 1) := by decide +kernel
theorem ef_rmLast_1 (m : MethodId) (x0 : Addr) (x1 : Addr) (x2 : Addr) : entryFrame m #[(.ref x0), (.ref x1), (.ref x2)] 4 = mkF m 0 #[.val (.ref x0), .val (.ref x1), .val (.ref x2), .unset] [] := by first | (simp [entryFrame, mkF, argsToLocals, Value.category]; done) | rfl
def Q_rmLast_1 (h0 : Heap) (n0 : Nat) (v : Option Value) (h : Heap) (L : List Loc) : Prop := v = none ∧ Fr n0 L ∧ h = h0
set_option maxRecDepth 65536 in
set_option maxHeartbeats 40000000 in
theorem rmLast_1 (l : Launch) (Z : State) (a0 : Array Value) (hw : ∀ d ∈ tables_1, d.before a0 Z = true) (ws : List Jvm.Cond) (aT : Addr) (aS : Addr) (aA : Addr) (kA : ClassId)  (h0 : Heap) (n0 : Nat) (Z0 : n0 ≤ h0.size) (V_A : Arv Z h0 aA kA .double (1 : Int32) [(.double (4607182418800017408 : UInt64))] (.double (0 : UInt64))) :
    MetFree l (⟨"com/example/overcap/overcap/model/MortalityTable", "checkLastRate", "(Ljava/lang/String;[D)V"⟩ : MethodName) (head1 (Jvm.Cond.code (⟨"com/example/overcap/overcap/model/MortalityTable", "checkLastRate", "(Ljava/lang/String;[D)V"⟩ : MethodName) prog_79_method_8_code 4 none :: ws) ({ frames := 0, cells := 0, slots := 0, locals := 0 } : Room)) (fun a U => a = #[(.ref aT), (.ref aS), (.ref aA)] ∧ Z.Warmed39 U.vm ∧ U.heap = h0) (fun _ _ _ _ _ => True) (fun _ U o U' => ∃ v L, o = .returned v ∧ Q_rmLast_1 h0 n0 v U'.heap L ∧ FrameEnd U o U' L ({ frames := 0, cells := 0, slots := 0, locals := 0 } : Room).cells ({ frames := 0, cells := 0, slots := 0, locals := 0 } : Room).slots) := by
  refine MetFree.of_bodySF (plainFor_of_name pn_0) hisR ?_
  intro p e s m args below meth c s₁ Bd hml0 hP hK
  obtain ⟨rfl, hZ, hh⟩ := hP
  have hx := Bd.exec
  have hby := Bd.bytes
  have hml : c.maxLocals = 4 := hml0
  have hown : s.vm.findClass "com/example/overcap/overcap/model/MortalityTable" = some m.cls := findClass_of_methodNamed Bd.named
  have hnm := (name_of_methodNamed Bd.named Bd.method).1
  have X0 : Stand p l e ({ frames := 0, cells := 0, slots := 0, locals := 0 } : Room) s m #[(.ref aT), (.ref aS), (.ref aA)] below meth c s₁ [] 0 0 := Stand.of_body Bd
  have e0 : s₁.heap = h0 := by rw [← hh, Bd.state]; rfl
  have N0 := Fr.nil n0
  let PO : Outcome → State → Prop := own_PO s (Q_rmLast_1 h0 n0) 0 0
  show own_Go p e below PO (s₁.setTop (entryFrame m #[(.ref aT), (.ref aS), (.ref aA)] 4))
  rw [ef_rmLast_1]
  show own_Go p e below PO (s₁.setTop (mkF m 0 #[.val (.ref aT), .val (.ref aS), .val (.ref aA), .unset] []))
  refine own_back ?_ (fun t k => XS.aloadN X0.here hx rfl (hb hby d8_0) rfl rfl k)
  show own_Go p e below PO (s₁.setTop (mkF m 1 #[.val (.ref aT), .val (.ref aS), .val (.ref aA), .unset] [(.ref aA)]))
  refine own_back ?_ (fun t k => XS.aloadN X0.here hx rfl (hb hby d8_1) rfl rfl k)
  show own_Go p e below PO (s₁.setTop (mkF m 2 #[.val (.ref aT), .val (.ref aS), .val (.ref aA), .unset] [(.ref aA), (.ref aA)]))
  refine own_back ?_ (own_len X0 hx hZ e0 V_A (g := (mkF m 2 #[.val (.ref aT), .val (.ref aS), .val (.ref aA), .unset] [(.ref aA), (.ref aA)])) rfl rfl (hb hby d8_2))
  show own_Go p e below PO (s₁.setTop (mkF m 3 #[.val (.ref aT), .val (.ref aS), .val (.ref aA), .unset] [(.int (1 : Int32)), (.ref aA)]))
  refine own_back ?_ (fun t k => XS.iconst X0.here hx rfl (hb hby d8_3) k)
  show own_Go p e below PO (s₁.setTop (mkF m 4 #[.val (.ref aT), .val (.ref aS), .val (.ref aA), .unset] [(.int (1 : Int32)), (.int (1 : Int32)), (.ref aA)]))
  refine own_back ?_ (fun t k => XS.isub X0.here hx rfl (hb hby d8_4) rfl k)
  show own_Go p e below PO (s₁.setTop (mkF m 5 #[.val (.ref aT), .val (.ref aS), .val (.ref aA), .unset] [(.int (0 : Int32)), (.ref aA)]))
  refine own_back ?_ (own_ldD X0 hx hZ e0 V_A (j := (0 : Int32)) (v := (.double (4607182418800017408 : UInt64))) ⟨by decide, by decide⟩ rfl (g := (mkF m 5 #[.val (.ref aT), .val (.ref aS), .val (.ref aA), .unset] [(.int (0 : Int32)), (.ref aA)])) rfl rfl (hb hby d8_5))
  show own_Go p e below PO (s₁.setTop (mkF m 6 #[.val (.ref aT), .val (.ref aS), .val (.ref aA), .unset] [(.double (4607182418800017408 : UInt64))]))
  refine own_back ?_ (fun t k => XS.dconst1 X0.here hx rfl (v := (4607182418800017408 : UInt64)) (hb hby d8_6) (by decide +kernel) k)
  show own_Go p e below PO (s₁.setTop (mkF m 7 #[.val (.ref aT), .val (.ref aS), .val (.ref aA), .unset] [(.double (4607182418800017408 : UInt64)), (.double (4607182418800017408 : UInt64))]))
  refine own_back ?_ (fun t k => XS.dcmpS X0.here hx rfl (v := (0 : Int32)) (hb hby d8_7) rfl (by decide +kernel) k)
  show own_Go p e below PO (s₁.setTop (mkF m 8 #[.val (.ref aT), .val (.ref aS), .val (.ref aA), .unset] [(.int (0 : Int32))]))
  refine own_back ?_ (fun t k => XS.ifYes X0.here hx rfl (pc0 := 8) (pc' := 56) rfl (hb hby d8_8) rfl ((if0 _ _).trans (teq rfl).1) (by decide) (by decide) k)
  show own_Go p e below PO (s₁.setTop (mkF m 56 #[.val (.ref aT), .val (.ref aS), .val (.ref aA), .unset] []))
  refine own_retV X0 hx Bd.returns (hb hby d8_56) e0 (Bd.notSynchronized) ?_ (by decide) (by decide)
  exact ⟨rfl, N0, rfl⟩
theorem pd_2 : parseMethodDescriptor "(I)V" = some ⟨[.int], none⟩ := by decide +kernel
theorem pd_3 : parseMethodDescriptor "(IDD)V" = some ⟨[.int, .double, .double], none⟩ := by decide +kernel
theorem pd_4 : parseMethodDescriptor "(Ljava/lang/String;[D)V" = some ⟨[(.object "java/lang/String"), (.array .double)], none⟩ := by decide +kernel
theorem d2_0 : decode prog_79_method_1_code 0 = .ok (.aload_n 0, 1) := by decide +kernel
theorem d2_1 : decode prog_79_method_1_code 1 = .ok (.invokespecial 1, 3) := by decide +kernel
theorem d2_4 : decode prog_79_method_1_code 4 = .ok (.iload_n 1, 1) := by decide +kernel
theorem d2_5 : decode prog_79_method_1_code 5 = .ok (.invokestatic 7, 3) := by decide +kernel
theorem d2_8 : decode prog_79_method_1_code 8 = .ok (.aload_n 2, 1) := by decide +kernel
theorem d2_9 : decode prog_79_method_1_code 9 = .ok (.arraylength, 1) := by decide +kernel
theorem d2_10 : decode prog_79_method_1_code 10 = .ok (.ifCond .ne 13, 3) := by decide +kernel
theorem d2_23 : decode prog_79_method_1_code 23 = .ok (.aload_n 2, 1) := by decide +kernel
theorem d2_24 : decode prog_79_method_1_code 24 = .ok (.arraylength, 1) := by decide +kernel
theorem d2_25 : decode prog_79_method_1_code 25 = .ok (.aload_n 3, 1) := by decide +kernel
theorem d2_26 : decode prog_79_method_1_code 26 = .ok (.arraylength, 1) := by decide +kernel
theorem d2_27 : decode prog_79_method_1_code 27 = .ok (.if_icmp .eq 40, 3) := by decide +kernel
theorem d2_67 : decode prog_79_method_1_code 67 = .ok (.aload_n 0, 1) := by decide +kernel
theorem d2_68 : decode prog_79_method_1_code 68 = .ok (.iload_n 1, 1) := by decide +kernel
theorem d2_69 : decode prog_79_method_1_code 69 = .ok (.putfield 34, 3) := by decide +kernel
theorem d2_72 : decode prog_79_method_1_code 72 = .ok (.aload_n 0, 1) := by decide +kernel
theorem d2_73 : decode prog_79_method_1_code 73 = .ok (.aload_n 2, 1) := by decide +kernel
theorem d2_74 : decode prog_79_method_1_code 74 = .ok (.invokevirtual 38, 3) := by decide +kernel
theorem d2_77 : decode prog_79_method_1_code 77 = .ok (.checkcast 39, 3) := by decide +kernel
theorem d2_80 : decode prog_79_method_1_code 80 = .ok (.putfield 44, 3) := by decide +kernel
theorem d2_83 : decode prog_79_method_1_code 83 = .ok (.aload_n 0, 1) := by decide +kernel
theorem d2_84 : decode prog_79_method_1_code 84 = .ok (.aload_n 3, 1) := by decide +kernel
theorem d2_85 : decode prog_79_method_1_code 85 = .ok (.invokevirtual 38, 3) := by decide +kernel
theorem d2_88 : decode prog_79_method_1_code 88 = .ok (.checkcast 39, 3) := by decide +kernel
theorem d2_91 : decode prog_79_method_1_code 91 = .ok (.putfield 47, 3) := by decide +kernel
theorem d2_94 : decode prog_79_method_1_code 94 = .ok (.iconst 0, 1) := by decide +kernel
theorem d2_95 : decode prog_79_method_1_code 95 = .ok (.istore 4, 2) := by decide +kernel
theorem d2_97 : decode prog_79_method_1_code 97 = .ok (.iload 4, 2) := by decide +kernel
theorem d2_99 : decode prog_79_method_1_code 99 = .ok (.aload_n 0, 1) := by decide +kernel
theorem d2_100 : decode prog_79_method_1_code 100 = .ok (.getfield 44, 3) := by decide +kernel
theorem d2_103 : decode prog_79_method_1_code 103 = .ok (.arraylength, 1) := by decide +kernel
theorem d2_104 : decode prog_79_method_1_code 104 = .ok (.if_icmp .ge 30, 3) := by decide +kernel
theorem d2_107 : decode prog_79_method_1_code 107 = .ok (.iload_n 1, 1) := by decide +kernel
theorem d2_108 : decode prog_79_method_1_code 108 = .ok (.iload 4, 2) := by decide +kernel
theorem d2_110 : decode prog_79_method_1_code 110 = .ok (.iadd, 1) := by decide +kernel
theorem d2_111 : decode prog_79_method_1_code 111 = .ok (.aload_n 0, 1) := by decide +kernel
theorem d2_112 : decode prog_79_method_1_code 112 = .ok (.getfield 44, 3) := by decide +kernel
theorem d2_115 : decode prog_79_method_1_code 115 = .ok (.iload 4, 2) := by decide +kernel
theorem d2_117 : decode prog_79_method_1_code 117 = .ok (.daload, 1) := by decide +kernel
theorem d2_118 : decode prog_79_method_1_code 118 = .ok (.aload_n 0, 1) := by decide +kernel
theorem d2_119 : decode prog_79_method_1_code 119 = .ok (.getfield 47, 3) := by decide +kernel
theorem d2_122 : decode prog_79_method_1_code 122 = .ok (.iload 4, 2) := by decide +kernel
theorem d2_124 : decode prog_79_method_1_code 124 = .ok (.daload, 1) := by decide +kernel
theorem d2_125 : decode prog_79_method_1_code 125 = .ok (.invokestatic 50, 3) := by decide +kernel
theorem d2_128 : decode prog_79_method_1_code 128 = .ok (.iinc 4 1, 3) := by decide +kernel
theorem d2_131 : decode prog_79_method_1_code 131 = .ok (.goto (-34), 3) := by decide +kernel
theorem d2_134 : decode prog_79_method_1_code 134 = .ok (.aload_n 0, 1) := by decide +kernel
theorem d2_135 : decode prog_79_method_1_code 135 = .ok (.ldc 54, 2) := by decide +kernel
theorem d2_137 : decode prog_79_method_1_code 137 = .ok (.aload_n 0, 1) := by decide +kernel
theorem d2_138 : decode prog_79_method_1_code 138 = .ok (.getfield 44, 3) := by decide +kernel
theorem d2_141 : decode prog_79_method_1_code 141 = .ok (.invokevirtual 56, 3) := by decide +kernel
theorem d2_144 : decode prog_79_method_1_code 144 = .ok (.aload_n 0, 1) := by decide +kernel
theorem d2_145 : decode prog_79_method_1_code 145 = .ok (.ldc 60, 2) := by decide +kernel
theorem d2_147 : decode prog_79_method_1_code 147 = .ok (.aload_n 0, 1) := by decide +kernel
theorem d2_148 : decode prog_79_method_1_code 148 = .ok (.getfield 47, 3) := by decide +kernel
theorem d2_151 : decode prog_79_method_1_code 151 = .ok (.invokevirtual 56, 3) := by decide +kernel
theorem d2_154 : decode prog_79_method_1_code 154 = .ok (.return_, 1) := by decide +kernel
theorem ef_rmI_1 (m : MethodId) (x0 : Addr) (x1 : Int32) (x2 : Addr) (x3 : Addr) : entryFrame m #[(.ref x0), (.int x1), (.ref x2), (.ref x3)] 5 = mkF m 0 #[.val (.ref x0), .val (.int x1), .val (.ref x2), .val (.ref x3), .unset] [] := by first | (simp [entryFrame, mkF, argsToLocals, Value.category]; done) | rfl
def Q_rmI_1 (Z : State) (aT : Addr) (pF : Int32) (kM kF : ClassId)  (h0 : Heap) (n0 : Nat) (v : Option Value) (h : Heap) (L : List Loc) : Prop := v = none ∧ Fr n0 L ∧ Keep h0 h [aT] ∧ Fld Z h aT "com/example/overcap/overcap/model/MortalityTable" "firstAge" "I" (.int pF) ∧ ∃ bM bF : Addr, h0.size ≤ bM ∧ h0.size ≤ bF ∧ Fld Z h aT "com/example/overcap/overcap/model/MortalityTable" "maleQx" "[D" (.ref bM) ∧ Fld Z h aT "com/example/overcap/overcap/model/MortalityTable" "femaleQx" "[D" (.ref bF) ∧ Arv Z h bM kM .double (1 : Int32) [(.double (4607182418800017408 : UInt64))] (.double (0 : UInt64)) ∧ Arv Z h bF kF .double (1 : Int32) [(.double (4607182418800017408 : UInt64))] (.double (0 : UInt64))
set_option maxRecDepth 65536 in
set_option maxHeartbeats 40000000 in
theorem rmI_1 (l : Launch) (Z : State) (a0 : Array Value) (hw : ∀ d ∈ tables_1, d.before a0 Z = true) (ws : List Jvm.Cond) (aT : Addr) (pF : Int32) (aM : Addr) (aF : Addr) (kM kF : ClassId)  (h0 : Heap) (n0 : Nat) (Z0 : n0 ≤ h0.size) (E_T : Exa Z h0 aT "com/example/overcap/overcap/model/MortalityTable") (F_firstAge : Fld Z h0 aT "com/example/overcap/overcap/model/MortalityTable" "firstAge" "I" (.int (0 : Int32))) (F_maleQx : Fld Z h0 aT "com/example/overcap/overcap/model/MortalityTable" "maleQx" "[D" .null) (F_femaleQx : Fld Z h0 aT "com/example/overcap/overcap/model/MortalityTable" "femaleQx" "[D" .null) (E_M : Exa Z h0 aM "[D") (V_M : Arv Z h0 aM kM .double (1 : Int32) [(.double (4607182418800017408 : UInt64))] (.double (0 : UInt64))) (E_F : Exa Z h0 aF "[D") (V_F : Arv Z h0 aF kF .double (1 : Int32) [(.double (4607182418800017408 : UInt64))] (.double (0 : UInt64))) (nM : aM ≠ aT) (nF : aF ≠ aT) (gn_aT : n0 ≤ aT) (hA : ¬ pF < 0)  :
    MetFree l (⟨"com/example/overcap/overcap/model/MortalityTable", "<init>", "(I[D[D)V"⟩ : MethodName) (head1 (Jvm.Cond.code (⟨"com/example/overcap/overcap/model/MortalityTable", "<init>", "(I[D[D)V"⟩ : MethodName) prog_79_method_1_code 5 none :: ws) ({ frames := 3, cells := 10, slots := 98, locals := 45 } : Room)) (fun a U => a = #[(.ref aT), (.int pF), (.ref aM), (.ref aF)] ∧ Z.Warmed39 U.vm ∧ U.heap = h0) (fun _ _ _ _ _ => True) (fun _ U o U' => ∃ v L, o = .returned v ∧ Q_rmI_1 Z aT pF kM kF  h0 n0 v U'.heap L ∧ ReturnedEndW U o U' L ({ frames := 3, cells := 10, slots := 98, locals := 45 } : Room).cells ({ frames := 3, cells := 10, slots := 98, locals := 45 } : Room).slots) := by
  refine MetFree.of_bodySF (plainFor_of_name pn_0) hisR ?_
  intro p e s m args below meth c s₁ Bd hml0 hP hK
  obtain ⟨rfl, hZ, hh⟩ := hP
  have hx := Bd.exec
  have hby := Bd.bytes
  have hml : c.maxLocals = 5 := hml0
  have hown : s.vm.findClass "com/example/overcap/overcap/model/MortalityTable" = some m.cls := findClass_of_methodNamed Bd.named
  have hnm := (name_of_methodNamed Bd.named Bd.method).1
  have X0 : Stand p l e ({ frames := 3, cells := 10, slots := 98, locals := 45 } : Room) s m #[(.ref aT), (.int pF), (.ref aM), (.ref aF)] below meth c s₁ [] 0 0 := Stand.of_body Bd
  have e0 : s₁.heap = h0 := by rw [← hh, Bd.state]; rfl
  have N0 := Fr.nil n0
  have hS0 : s.Since s.vm 0 := (State.WarmedH.refl s).since 0
  let PO : Outcome → State → Prop := own_POW s (Q_rmI_1 Z aT pF kM kF  h0 n0) 10 98
  show own_Go p e below PO (s₁.setTop (entryFrame m #[(.ref aT), (.int pF), (.ref aM), (.ref aF)] 5))
  rw [ef_rmI_1]
  show own_Go p e below PO (s₁.setTop (mkF m 0 #[.val (.ref aT), .val (.int pF), .val (.ref aM), .val (.ref aF), .unset] []))
  refine own_back ?_ (fun t k => XS.aloadN X0.here hx rfl (hb hby d2_0) rfl rfl k)
  show own_Go p e below PO (s₁.setTop (mkF m 1 #[.val (.ref aT), .val (.int pF), .val (.ref aM), .val (.ref aF), .unset] [(.ref aT)]))
  obtain ⟨T1, X1, e1, st1⟩ := initO X0 hx hZ hown (hw _ (List.mem_of_getElem? (i := 14) rfl)) (hw _ (List.mem_of_getElem? (i := 15) rfl)) (hw _ (List.mem_of_getElem? (i := 16) rfl)) e0 (g := (mkF m 1 #[.val (.ref aT), .val (.int pF), .val (.ref aM), .val (.ref aF), .unset] [(.ref aT)])) rfl (by rw [hml]; rfl) rfl (hb hby d2_1) (by decide) (W := 0) (by show 2 * 0 + _ ≤ _; exact Nat.le_of_eq rfl) (by decide)
  refine own_back ?_ st1
  show own_Go p e below PO (T1.setTop (mkF m 4 #[.val (.ref aT), .val (.int pF), .val (.ref aM), .val (.ref aF), .unset] []))
  refine own_back ?_ (fun t k => XS.iloadN X1.here hx rfl (hb hby d2_4) rfl k)
  show own_Go p e below PO (T1.setTop (mkF m 5 #[.val (.ref aT), .val (.int pF), .val (.ref aM), .val (.ref aF), .unset] [(.int pF)]))
  obtain ⟨_, _, ⟨T2, L2, k2, n2⟩, -, X2, ⟨Lc2, hQ2, l2, y2, z2⟩, st2⟩ := Jvm.LawKit.callS X1 hx (y := (⟨"com/example/overcap/overcap/model/MortalityTable", "checkFirstAge", "(I)V"⟩ : MethodName)) hown (mvT hZ (hw _ (List.mem_of_getElem? (i := 17) rfl))) (mvT hZ (hw _ (List.mem_of_getElem? (i := 18) rfl))) (mvT hZ (hw _ (List.mem_of_getElem? (i := 10) rfl))) (mvT hZ (hw _ (List.mem_of_getElem? (i := 19) rfl))) (by decide) (backOf (W := 0) (rmFirst l Z a0 hw [] pF  h0 n0 Z0 hA) hZ (hw _ (List.mem_of_getElem? (i := 19) rfl)) (hw _ (List.mem_of_getElem? (i := 10) rfl)) (by decide) (by decide)) (g := (mkF m 5 #[.val (.ref aT), .val (.int pF), .val (.ref aM), .val (.ref aF), .unset] [(.int pF)])) rfl (by rw [hml]; rfl) (argsL := [(.int pF)]) (rest := []) (lenOf pd_2 rfl) rfl (by show 2 * 0 + _ ≤ _; exact Nat.le_of_eq rfl) (hb hby d2_5) (fun _ _ => ⟨rfl, e1, (by decide : 0 + 0 ≤ _), (by decide : 0 + 0 ≤ _)⟩)
  dsimp only [Pt.U, Pt.locs, Pt.cells, Pt.slots] at X2 l2 y2 z2 st2 hQ2
  subst l2 y2 z2
  obtain ⟨rfl, N2q, e2⟩ := hQ2
  have N2 := Fr.app N0 N2q
  refine own_back ?_ st2
  show own_Go p e below PO (T2.setTop (mkF m 8 #[.val (.ref aT), .val (.int pF), .val (.ref aM), .val (.ref aF), .unset] []))
  refine own_back ?_ (fun t k => XS.aloadN X2.here hx rfl (hb hby d2_8) rfl rfl k)
  show own_Go p e below PO (T2.setTop (mkF m 9 #[.val (.ref aT), .val (.int pF), .val (.ref aM), .val (.ref aF), .unset] [(.ref aM)]))
  refine own_back ?_ (own_len X2 hx hZ e2 V_M (g := (mkF m 9 #[.val (.ref aT), .val (.int pF), .val (.ref aM), .val (.ref aF), .unset] [(.ref aM)])) rfl rfl (hb hby d2_9))
  show own_Go p e below PO (T2.setTop (mkF m 10 #[.val (.ref aT), .val (.int pF), .val (.ref aM), .val (.ref aF), .unset] [(.int (1 : Int32))]))
  have hd10_3 : ¬ ((1 : Int32) = (0 : Int32)) := (by decide)
  refine own_back ?_ (fun t k => XS.ifYes X2.here hx rfl (pc0 := 10) (pc' := 23) rfl (hb hby d2_10) rfl ((if0 _ _).trans (feq hd10_3).2) (by decide) (by decide) k)
  show own_Go p e below PO (T2.setTop (mkF m 23 #[.val (.ref aT), .val (.int pF), .val (.ref aM), .val (.ref aF), .unset] []))
  refine own_back ?_ (fun t k => XS.aloadN X2.here hx rfl (hb hby d2_23) rfl rfl k)
  show own_Go p e below PO (T2.setTop (mkF m 24 #[.val (.ref aT), .val (.int pF), .val (.ref aM), .val (.ref aF), .unset] [(.ref aM)]))
  refine own_back ?_ (own_len X2 hx hZ e2 V_M (g := (mkF m 24 #[.val (.ref aT), .val (.int pF), .val (.ref aM), .val (.ref aF), .unset] [(.ref aM)])) rfl rfl (hb hby d2_24))
  show own_Go p e below PO (T2.setTop (mkF m 25 #[.val (.ref aT), .val (.int pF), .val (.ref aM), .val (.ref aF), .unset] [(.int (1 : Int32))]))
  refine own_back ?_ (fun t k => XS.aloadN X2.here hx rfl (hb hby d2_25) rfl rfl k)
  show own_Go p e below PO (T2.setTop (mkF m 26 #[.val (.ref aT), .val (.int pF), .val (.ref aM), .val (.ref aF), .unset] [(.ref aF), (.int (1 : Int32))]))
  refine own_back ?_ (own_len X2 hx hZ e2 V_F (g := (mkF m 26 #[.val (.ref aT), .val (.int pF), .val (.ref aM), .val (.ref aF), .unset] [(.ref aF), (.int (1 : Int32))])) rfl rfl (hb hby d2_26))
  show own_Go p e below PO (T2.setTop (mkF m 27 #[.val (.ref aT), .val (.int pF), .val (.ref aM), .val (.ref aF), .unset] [(.int (1 : Int32)), (.int (1 : Int32))]))
  refine own_back ?_ (fun t k => XS.icmpYes X2.here hx rfl (pc0 := 27) (pc' := 67) rfl (hb hby d2_27) rfl (teq rfl).1 (by decide) (by decide) k)
  show own_Go p e below PO (T2.setTop (mkF m 67 #[.val (.ref aT), .val (.int pF), .val (.ref aM), .val (.ref aF), .unset] []))
  refine own_back ?_ (fun t k => XS.aloadN X2.here hx rfl (hb hby d2_67) rfl rfl k)
  show own_Go p e below PO (T2.setTop (mkF m 68 #[.val (.ref aT), .val (.int pF), .val (.ref aM), .val (.ref aF), .unset] [(.ref aT)]))
  refine own_back ?_ (fun t k => XS.iloadN X2.here hx rfl (hb hby d2_68) rfl k)
  show own_Go p e below PO (T2.setTop (mkF m 69 #[.val (.ref aT), .val (.int pF), .val (.ref aM), .val (.ref aF), .unset] [(.int pF), (.ref aT)]))
  obtain ⟨T4, h4, X4, e4, W4, st4⟩ := putF X2 hx hZ hown (host := "") (Or.inl (hw _ (List.mem_of_getElem? (i := 20) rfl))) Via.refl e2 F_firstAge E_T (Or.inr ⟨(hw _ (List.mem_of_getElem? (i := 21) rfl)), rfl, hnm⟩) (hw _ (List.mem_of_getElem? (i := 9) rfl)) (ty := .int) (by decide) rfl rfl (g := (mkF m 69 #[.val (.ref aT), .val (.int pF), .val (.ref aM), .val (.ref aF), .unset] [(.int pF), (.ref aT)])) rfl rfl (hb hby d2_69)
  have Fw4 := F_firstAge.same W4
  have f4_5 := E_T.wr W4
  have f4_6 := F_maleQx.other W4 (Or.inr (slot_ne (Or.inr (hw _ (List.mem_of_getElem? (i := 32) rfl))) (Or.inr (hw _ (List.mem_of_getElem? (i := 21) rfl))) (by decide) (t := (.array .double)) (t' := .int) (by decide) (by decide)))
  have f4_7 := F_femaleQx.other W4 (Or.inr (slot_ne (Or.inr (hw _ (List.mem_of_getElem? (i := 34) rfl))) (Or.inr (hw _ (List.mem_of_getElem? (i := 21) rfl))) (by decide) (t := (.array .double)) (t' := .int) (by decide) (by decide)))
  have K4 : Keep h0 h4 [aT] := (Keep.refl h0 [aT]).wr W4 (Or.inl (by simp))
  have N4 := Fr.snoc X4 N2 gn_aT
  have Zh4 : n0 ≤ h4.size := Nat.le_trans Z0 K4.1
  refine own_back ?_ st4
  show own_Go p e below PO (T4.setTop (mkF m 72 #[.val (.ref aT), .val (.int pF), .val (.ref aM), .val (.ref aF), .unset] []))
  refine own_back ?_ (fun t k => XS.aloadN X4.here hx rfl (hb hby d2_72) rfl rfl k)
  show own_Go p e below PO (T4.setTop (mkF m 73 #[.val (.ref aT), .val (.int pF), .val (.ref aM), .val (.ref aF), .unset] [(.ref aT)]))
  refine own_back ?_ (fun t k => XS.aloadN X4.here hx rfl (hb hby d2_73) rfl rfl k)
  show own_Go p e below PO (T4.setTop (mkF m 74 #[.val (.ref aT), .val (.int pF), .val (.ref aM), .val (.ref aF), .unset] [(.ref aM), (.ref aT)]))
  obtain ⟨T8, h8, X8, e8, E8, A8, Ex8, st8⟩ := cloneH X4 hx hZ hown (hw _ (List.mem_of_getElem? (i := 22) rfl)) (hw _ (List.mem_of_getElem? (i := 23) rfl)) (hw _ (List.mem_of_getElem? (i := 27) rfl)) (hw _ (List.mem_of_getElem? (i := 25) rfl)) (hw _ (List.mem_of_getElem? (i := 26) rfl)) (hw _ (List.mem_of_getElem? (i := 28) rfl)) e4 ((V_M.keep K4 (ninS nM nin0))).arh (E_M.keep K4) (g := (mkF m 74 #[.val (.ref aT), .val (.int pF), .val (.ref aM), .val (.ref aF), .unset] [(.ref aM), (.ref aT)])) rfl (by rw [hml]; rfl) rfl (hb hby d2_74) (by decide) (W := 1) (by show 2 * 0 + _ ≤ _; exact Nat.le_of_eq rfl) (by decide) (cap := 1) (by decide) (by decide) (by decide)
  obtain ⟨b8, g8⟩ : ∃ z, z = h4.size := ⟨_, rfl⟩
  rw [← g8] at A8 Ex8 st8
  have ne_aF_b8 : aF ≠ b8 := Nat.ne_of_lt (Nat.lt_of_lt_of_le (V_F.keep K4 (ninS nF nin0)).lt (Nat.le_of_eq g8.symm))
  have ne_aM_b8 : aM ≠ b8 := Nat.ne_of_lt (Nat.lt_of_lt_of_le (V_M.keep K4 (ninS nM nin0)).lt (Nat.le_of_eq g8.symm))
  have ne_aT_b8 : aT ≠ b8 := Nat.ne_of_lt (Nat.lt_of_lt_of_le f4_5.lt (Nat.le_of_eq g8.symm))
  have sz_b8 : h0.size ≤ b8 := Nat.le_trans K4.1 (Nat.le_of_eq g8.symm)
  have gn_b8 : n0 ≤ b8 := Nat.le_trans Z0 sz_b8
  have f8_9 := f4_5.ext E8
  have f8_10 := Fw4.ext E8
  have f8_11 := f4_6.ext E8
  have f8_12 := f4_7.ext E8
  have K8 : Keep h0 h8 [aT] := (K4).ext E8
  have Zh8 : n0 ≤ h8.size := Nat.le_trans Z0 K8.1
  have V8 : Arv Z h8 b8 kM .double (1 : Int32) [(.double (4607182418800017408 : UInt64))] (.double (0 : UInt64)) := A8
  refine own_back ?_ st8
  show own_Go p e below PO (T8.setTop (mkF m 77 #[.val (.ref aT), .val (.int pF), .val (.ref aM), .val (.ref aF), .unset] [(.ref b8), (.ref aT)]))
  obtain ⟨T13, X13, e13, st13⟩ := castY X8 hx hZ hown (hw _ (List.mem_of_getElem? (i := 29) rfl)) e8 (Ins.self Ex8) (g := (mkF m 77 #[.val (.ref aT), .val (.int pF), .val (.ref aM), .val (.ref aF), .unset] [(.ref b8), (.ref aT)])) rfl rfl (hb hby d2_77)
  refine own_back ?_ st13
  show own_Go p e below PO (T13.setTop (mkF m 80 #[.val (.ref aT), .val (.int pF), .val (.ref aM), .val (.ref aF), .unset] [(.ref b8), (.ref aT)]))
  obtain ⟨T14, h14, X14, e14, W14, st14⟩ := putF X13 hx hZ hown (host := "") (Or.inl (hw _ (List.mem_of_getElem? (i := 31) rfl))) Via.refl e13 f8_11 f8_9 (Or.inr ⟨(hw _ (List.mem_of_getElem? (i := 32) rfl)), rfl, hnm⟩) (hw _ (List.mem_of_getElem? (i := 9) rfl)) (ty := (.array .double)) (by decide) rfl rfl (g := (mkF m 80 #[.val (.ref aT), .val (.int pF), .val (.ref aM), .val (.ref aF), .unset] [(.ref b8), (.ref aT)])) rfl rfl (hb hby d2_80)
  have Fw14 := f8_11.same W14
  have f14_15 := f8_9.wr W14
  have f14_16 := f8_10.other W14 (Or.inr (slot_ne (Or.inr (hw _ (List.mem_of_getElem? (i := 21) rfl))) (Or.inr (hw _ (List.mem_of_getElem? (i := 32) rfl))) (by decide) (t := .int) (t' := (.array .double)) (by decide) (by decide)))
  have f14_17 := f8_12.other W14 (Or.inr (slot_ne (Or.inr (hw _ (List.mem_of_getElem? (i := 34) rfl))) (Or.inr (hw _ (List.mem_of_getElem? (i := 32) rfl))) (by decide) (t := (.array .double)) (t' := (.array .double)) (by decide) (by decide)))
  have f14_18 := Ex8.wr W14
  have f14_19 := V8.other W14 (Ne.symm ne_aT_b8)
  have K14 : Keep h0 h14 [aT] := (K8).wr W14 (Or.inl (by simp))
  have N14 := Fr.snoc X14 N4 gn_aT
  have Zh14 : n0 ≤ h14.size := Nat.le_trans Z0 K14.1
  refine own_back ?_ st14
  show own_Go p e below PO (T14.setTop (mkF m 83 #[.val (.ref aT), .val (.int pF), .val (.ref aM), .val (.ref aF), .unset] []))
  refine own_back ?_ (fun t k => XS.aloadN X14.here hx rfl (hb hby d2_83) rfl rfl k)
  show own_Go p e below PO (T14.setTop (mkF m 84 #[.val (.ref aT), .val (.int pF), .val (.ref aM), .val (.ref aF), .unset] [(.ref aT)]))
  refine own_back ?_ (fun t k => XS.aloadN X14.here hx rfl (hb hby d2_84) rfl rfl k)
  show own_Go p e below PO (T14.setTop (mkF m 85 #[.val (.ref aT), .val (.int pF), .val (.ref aM), .val (.ref aF), .unset] [(.ref aF), (.ref aT)]))
  obtain ⟨T20, h20, X20, e20, E20, A20, Ex20, st20⟩ := cloneH X14 hx hZ hown (hw _ (List.mem_of_getElem? (i := 22) rfl)) (hw _ (List.mem_of_getElem? (i := 23) rfl)) (hw _ (List.mem_of_getElem? (i := 27) rfl)) (hw _ (List.mem_of_getElem? (i := 25) rfl)) (hw _ (List.mem_of_getElem? (i := 26) rfl)) (hw _ (List.mem_of_getElem? (i := 28) rfl)) e14 ((V_F.keep K14 (ninS nF nin0))).arh (E_F.keep K14) (g := (mkF m 85 #[.val (.ref aT), .val (.int pF), .val (.ref aM), .val (.ref aF), .unset] [(.ref aF), (.ref aT)])) rfl (by rw [hml]; rfl) rfl (hb hby d2_85) (by decide) (W := 1) (by show 2 * 0 + _ ≤ _; exact Nat.le_of_eq rfl) (by decide) (cap := 1) (by decide) (by decide) (by decide)
  obtain ⟨b20, g20⟩ : ∃ z, z = h14.size := ⟨_, rfl⟩
  rw [← g20] at A20 Ex20 st20
  have ne_aF_b20 : aF ≠ b20 := Nat.ne_of_lt (Nat.lt_of_lt_of_le (V_F.keep K14 (ninS nF nin0)).lt (Nat.le_of_eq g20.symm))
  have ne_aM_b20 : aM ≠ b20 := Nat.ne_of_lt (Nat.lt_of_lt_of_le (V_M.keep K14 (ninS nM nin0)).lt (Nat.le_of_eq g20.symm))
  have ne_aT_b20 : aT ≠ b20 := Nat.ne_of_lt (Nat.lt_of_lt_of_le f14_15.lt (Nat.le_of_eq g20.symm))
  have ne_b8_b20 : b8 ≠ b20 := Nat.ne_of_lt (Nat.lt_of_lt_of_le f14_18.lt (Nat.le_of_eq g20.symm))
  have sz_b20 : h0.size ≤ b20 := Nat.le_trans K14.1 (Nat.le_of_eq g20.symm)
  have gn_b20 : n0 ≤ b20 := Nat.le_trans Z0 sz_b20
  have f20_21 := f14_15.ext E20
  have f20_22 := f14_16.ext E20
  have f20_23 := Fw14.ext E20
  have f20_24 := f14_17.ext E20
  have f20_25 := f14_18.ext E20
  have f20_26 := f14_19.ext E20
  have K20 : Keep h0 h20 [aT] := (K14).ext E20
  have Zh20 : n0 ≤ h20.size := Nat.le_trans Z0 K20.1
  have V20 : Arv Z h20 b20 kF .double (1 : Int32) [(.double (4607182418800017408 : UInt64))] (.double (0 : UInt64)) := A20
  refine own_back ?_ st20
  show own_Go p e below PO (T20.setTop (mkF m 88 #[.val (.ref aT), .val (.int pF), .val (.ref aM), .val (.ref aF), .unset] [(.ref b20), (.ref aT)]))
  obtain ⟨T27, X27, e27, st27⟩ := castY X20 hx hZ hown (hw _ (List.mem_of_getElem? (i := 29) rfl)) e20 (Ins.self Ex20) (g := (mkF m 88 #[.val (.ref aT), .val (.int pF), .val (.ref aM), .val (.ref aF), .unset] [(.ref b20), (.ref aT)])) rfl rfl (hb hby d2_88)
  refine own_back ?_ st27
  show own_Go p e below PO (T27.setTop (mkF m 91 #[.val (.ref aT), .val (.int pF), .val (.ref aM), .val (.ref aF), .unset] [(.ref b20), (.ref aT)]))
  obtain ⟨T28, h28, X28, e28, W28, st28⟩ := putF X27 hx hZ hown (host := "") (Or.inl (hw _ (List.mem_of_getElem? (i := 33) rfl))) Via.refl e27 f20_24 f20_21 (Or.inr ⟨(hw _ (List.mem_of_getElem? (i := 34) rfl)), rfl, hnm⟩) (hw _ (List.mem_of_getElem? (i := 9) rfl)) (ty := (.array .double)) (by decide) rfl rfl (g := (mkF m 91 #[.val (.ref aT), .val (.int pF), .val (.ref aM), .val (.ref aF), .unset] [(.ref b20), (.ref aT)])) rfl rfl (hb hby d2_91)
  have Fw28 := f20_24.same W28
  have f28_29 := f20_21.wr W28
  have f28_30 := f20_22.other W28 (Or.inr (slot_ne (Or.inr (hw _ (List.mem_of_getElem? (i := 21) rfl))) (Or.inr (hw _ (List.mem_of_getElem? (i := 34) rfl))) (by decide) (t := .int) (t' := (.array .double)) (by decide) (by decide)))
  have f28_31 := f20_23.other W28 (Or.inr (slot_ne (Or.inr (hw _ (List.mem_of_getElem? (i := 32) rfl))) (Or.inr (hw _ (List.mem_of_getElem? (i := 34) rfl))) (by decide) (t := (.array .double)) (t' := (.array .double)) (by decide) (by decide)))
  have f28_32 := f20_25.wr W28
  have f28_33 := f20_26.other W28 (Ne.symm ne_aT_b8)
  have f28_34 := Ex20.wr W28
  have f28_35 := V20.other W28 (Ne.symm ne_aT_b20)
  have K28 : Keep h0 h28 [aT] := (K20).wr W28 (Or.inl (by simp))
  have N28 := Fr.snoc X28 N14 gn_aT
  have Zh28 : n0 ≤ h28.size := Nat.le_trans Z0 K28.1
  refine own_back ?_ st28
  show own_Go p e below PO (T28.setTop (mkF m 94 #[.val (.ref aT), .val (.int pF), .val (.ref aM), .val (.ref aF), .unset] []))
  refine own_back ?_ (fun t k => XS.iconst X28.here hx rfl (hb hby d2_94) k)
  show own_Go p e below PO (T28.setTop (mkF m 95 #[.val (.ref aT), .val (.int pF), .val (.ref aM), .val (.ref aF), .unset] [(.int (0 : Int32))]))
  refine own_back ?_ (fun t k => XS.istore X28.here hx rfl (hb hby d2_95) rfl (l' := #[.val (.ref aT), .val (.int pF), .val (.ref aM), .val (.ref aF), .val (.int (0 : Int32))]) rfl k)
  show own_Go p e below PO (T28.setTop (mkF m 97 #[.val (.ref aT), .val (.int pF), .val (.ref aM), .val (.ref aF), .val (.int (0 : Int32))] []))
  refine own_back ?_ (fun t k => XS.iload X28.here hx rfl (hb hby d2_97) rfl k)
  show own_Go p e below PO (T28.setTop (mkF m 99 #[.val (.ref aT), .val (.int pF), .val (.ref aM), .val (.ref aF), .val (.int (0 : Int32))] [(.int (0 : Int32))]))
  refine own_back ?_ (fun t k => XS.aloadN X28.here hx rfl (hb hby d2_99) rfl rfl k)
  show own_Go p e below PO (T28.setTop (mkF m 100 #[.val (.ref aT), .val (.int pF), .val (.ref aM), .val (.ref aF), .val (.int (0 : Int32))] [(.ref aT), (.int (0 : Int32))]))
  obtain ⟨T36, X36, e36, st36⟩ := getF X28 hx hZ hown (host := "") (Or.inl (hw _ (List.mem_of_getElem? (i := 31) rfl))) Via.refl e28 f28_31 (g := (mkF m 100 #[.val (.ref aT), .val (.int pF), .val (.ref aM), .val (.ref aF), .val (.int (0 : Int32))] [(.ref aT), (.int (0 : Int32))])) rfl rfl (hb hby d2_100)
  refine own_back ?_ st36
  show own_Go p e below PO (T36.setTop (mkF m 103 #[.val (.ref aT), .val (.int pF), .val (.ref aM), .val (.ref aF), .val (.int (0 : Int32))] [(.ref b8), (.int (0 : Int32))]))
  refine own_back ?_ (own_len X36 hx hZ e36 f28_33 (g := (mkF m 103 #[.val (.ref aT), .val (.int pF), .val (.ref aM), .val (.ref aF), .val (.int (0 : Int32))] [(.ref b8), (.int (0 : Int32))])) rfl rfl (hb hby d2_103))
  show own_Go p e below PO (T36.setTop (mkF m 104 #[.val (.ref aT), .val (.int pF), .val (.ref aM), .val (.ref aF), .val (.int (0 : Int32))] [(.int (1 : Int32)), (.int (0 : Int32))]))
  have hd104_37 : (0 : Int32) < (1 : Int32) := (by decide)
  refine own_back ?_ (fun t k => XS.icmpNo X36.here hx rfl (hb hby d2_104) rfl (tlt hd104_37).2.1 k)
  show own_Go p e below PO (T36.setTop (mkF m 107 #[.val (.ref aT), .val (.int pF), .val (.ref aM), .val (.ref aF), .val (.int (0 : Int32))] []))
  refine own_back ?_ (fun t k => XS.iloadN X36.here hx rfl (hb hby d2_107) rfl k)
  show own_Go p e below PO (T36.setTop (mkF m 108 #[.val (.ref aT), .val (.int pF), .val (.ref aM), .val (.ref aF), .val (.int (0 : Int32))] [(.int pF)]))
  refine own_back ?_ (fun t k => XS.iload X36.here hx rfl (hb hby d2_108) rfl k)
  show own_Go p e below PO (T36.setTop (mkF m 110 #[.val (.ref aT), .val (.int pF), .val (.ref aM), .val (.ref aF), .val (.int (0 : Int32))] [(.int (0 : Int32)), (.int pF)]))
  refine own_back ?_ (fun t k => XS.iadd X36.here hx rfl (hb hby d2_110) rfl k)
  show own_Go p e below PO (T36.setTop (mkF m 111 #[.val (.ref aT), .val (.int pF), .val (.ref aM), .val (.ref aF), .val (.int (0 : Int32))] [(.int (pF + (0 : Int32)))]))
  refine own_back ?_ (fun t k => XS.aloadN X36.here hx rfl (hb hby d2_111) rfl rfl k)
  show own_Go p e below PO (T36.setTop (mkF m 112 #[.val (.ref aT), .val (.int pF), .val (.ref aM), .val (.ref aF), .val (.int (0 : Int32))] [(.ref aT), (.int (pF + (0 : Int32)))]))
  obtain ⟨T38, X38, e38, st38⟩ := getF X36 hx hZ hown (host := "") (Or.inl (hw _ (List.mem_of_getElem? (i := 31) rfl))) Via.refl e36 f28_31 (g := (mkF m 112 #[.val (.ref aT), .val (.int pF), .val (.ref aM), .val (.ref aF), .val (.int (0 : Int32))] [(.ref aT), (.int (pF + (0 : Int32)))])) rfl rfl (hb hby d2_112)
  refine own_back ?_ st38
  show own_Go p e below PO (T38.setTop (mkF m 115 #[.val (.ref aT), .val (.int pF), .val (.ref aM), .val (.ref aF), .val (.int (0 : Int32))] [(.ref b8), (.int (pF + (0 : Int32)))]))
  refine own_back ?_ (fun t k => XS.iload X38.here hx rfl (hb hby d2_115) rfl k)
  show own_Go p e below PO (T38.setTop (mkF m 117 #[.val (.ref aT), .val (.int pF), .val (.ref aM), .val (.ref aF), .val (.int (0 : Int32))] [(.int (0 : Int32)), (.ref b8), (.int (pF + (0 : Int32)))]))
  refine own_back ?_ (own_ldD X38 hx hZ e38 f28_33 (j := (0 : Int32)) (v := (.double (4607182418800017408 : UInt64))) ⟨by decide, by decide⟩ rfl (g := (mkF m 117 #[.val (.ref aT), .val (.int pF), .val (.ref aM), .val (.ref aF), .val (.int (0 : Int32))] [(.int (0 : Int32)), (.ref b8), (.int (pF + (0 : Int32)))])) rfl rfl (hb hby d2_117))
  show own_Go p e below PO (T38.setTop (mkF m 118 #[.val (.ref aT), .val (.int pF), .val (.ref aM), .val (.ref aF), .val (.int (0 : Int32))] [(.double (4607182418800017408 : UInt64)), (.int (pF + (0 : Int32)))]))
  refine own_back ?_ (fun t k => XS.aloadN X38.here hx rfl (hb hby d2_118) rfl rfl k)
  show own_Go p e below PO (T38.setTop (mkF m 119 #[.val (.ref aT), .val (.int pF), .val (.ref aM), .val (.ref aF), .val (.int (0 : Int32))] [(.ref aT), (.double (4607182418800017408 : UInt64)), (.int (pF + (0 : Int32)))]))
  obtain ⟨T39, X39, e39, st39⟩ := getF X38 hx hZ hown (host := "") (Or.inl (hw _ (List.mem_of_getElem? (i := 33) rfl))) Via.refl e38 Fw28 (g := (mkF m 119 #[.val (.ref aT), .val (.int pF), .val (.ref aM), .val (.ref aF), .val (.int (0 : Int32))] [(.ref aT), (.double (4607182418800017408 : UInt64)), (.int (pF + (0 : Int32)))])) rfl rfl (hb hby d2_119)
  refine own_back ?_ st39
  show own_Go p e below PO (T39.setTop (mkF m 122 #[.val (.ref aT), .val (.int pF), .val (.ref aM), .val (.ref aF), .val (.int (0 : Int32))] [(.ref b20), (.double (4607182418800017408 : UInt64)), (.int (pF + (0 : Int32)))]))
  refine own_back ?_ (fun t k => XS.iload X39.here hx rfl (hb hby d2_122) rfl k)
  show own_Go p e below PO (T39.setTop (mkF m 124 #[.val (.ref aT), .val (.int pF), .val (.ref aM), .val (.ref aF), .val (.int (0 : Int32))] [(.int (0 : Int32)), (.ref b20), (.double (4607182418800017408 : UInt64)), (.int (pF + (0 : Int32)))]))
  refine own_back ?_ (own_ldD X39 hx hZ e39 f28_35 (j := (0 : Int32)) (v := (.double (4607182418800017408 : UInt64))) ⟨by decide, by decide⟩ rfl (g := (mkF m 124 #[.val (.ref aT), .val (.int pF), .val (.ref aM), .val (.ref aF), .val (.int (0 : Int32))] [(.int (0 : Int32)), (.ref b20), (.double (4607182418800017408 : UInt64)), (.int (pF + (0 : Int32)))])) rfl rfl (hb hby d2_124))
  show own_Go p e below PO (T39.setTop (mkF m 125 #[.val (.ref aT), .val (.int pF), .val (.ref aM), .val (.ref aF), .val (.int (0 : Int32))] [(.double (4607182418800017408 : UInt64)), (.double (4607182418800017408 : UInt64)), (.int (pF + (0 : Int32)))]))
  obtain ⟨_, _, ⟨T40, L40, k40, n40⟩, -, X40, hSn40, hgr40, ⟨Lc40, hQ40, l40, y40, z40⟩, st40⟩ := callSS X39 hx (y := (⟨"com/example/overcap/overcap/model/MortalityTable", "checkRates", "(IDD)V"⟩ : MethodName)) hown (mvT hZ (hw _ (List.mem_of_getElem? (i := 35) rfl))) (mvT hZ (hw _ (List.mem_of_getElem? (i := 36) rfl))) (mvT hZ (hw _ (List.mem_of_getElem? (i := 10) rfl))) (mvT hZ (hw _ (List.mem_of_getElem? (i := 37) rfl))) (by decide) (backOfS (W := 0) (rmRates l Z a0 hw [] (pF + (0 : Int32)) (4607182418800017408 : UInt64) (4607182418800017408 : UInt64)  h28 n0 Zh28 own_ok1 own_ok1) hZ (hw _ (List.mem_of_getElem? (i := 37) rfl)) (hw _ (List.mem_of_getElem? (i := 10) rfl)) (by decide) (by decide)) (g := (mkF m 125 #[.val (.ref aT), .val (.int pF), .val (.ref aM), .val (.ref aF), .val (.int (0 : Int32))] [(.double (4607182418800017408 : UInt64)), (.double (4607182418800017408 : UInt64)), (.int (pF + (0 : Int32)))])) rfl (by rw [hml]; rfl) (argsL := [(.int (pF + (0 : Int32))), (.double (4607182418800017408 : UInt64)), (.double (4607182418800017408 : UInt64))]) (rest := []) (lenOf pd_3 rfl) rfl (by show 2 * 0 + _ ≤ _; exact Nat.le_of_eq rfl) (hb hby d2_125) (fun _ _ => ⟨rfl, e39, (by decide : 2 + 4 ≤ _), (by decide : 2 + 48 ≤ _)⟩)
  dsimp only [Pt.U, Pt.locs, Pt.cells, Pt.slots] at X40 l40 y40 z40 st40 hQ40
  subst l40 y40 z40
  replace X40 : Stand p l e ({ frames := 3, cells := 10, slots := 98, locals := 45 } : Room) (s.setVm T40.vm) m #[(.ref aT), (.int pF), (.ref aM), (.ref aF)] below meth c T40 _ _ _ := X40
  have hS40 : s.Since T40.vm T40.heap.size := foldS (s := s) (vm0 := s.vm) (T := T39) hS0 (by rw [e39]; exact (Nat.zero_le _)) hSn40 hgr40
  have hZ : Z.Warmed39 (s.setVm T40.vm).vm := State.Warmed39.trans (t := s.setVm s.vm) hZ hSn40.1
  have hown : (s.setVm T40.vm).vm.findClass "com/example/overcap/overcap/model/MortalityTable" = some m.cls := by rw [show (s.setVm T40.vm).vm = T40.vm from rfl, hSn40.1.alike.findClass]; exact hown
  obtain ⟨rfl, N40q, Kc40⟩ := hQ40
  have N40 := Fr.app N28 N40q
  have f40_41 := f28_29.keep Kc40
  have f40_42 := f28_30.keep Kc40 nin0
  have f40_43 := f28_31.keep Kc40 nin0
  have f40_44 := Fw28.keep Kc40 nin0
  have f40_45 := f28_32.keep Kc40
  have f40_46 := f28_33.keep Kc40 nin0
  have f40_47 := f28_34.keep Kc40
  have f40_48 := f28_35.keep Kc40 nin0
  have K40 : Keep h0 T40.heap [aT] := (K28).trans Kc40 all0
  have Zh40 : n0 ≤ T40.heap.size := Nat.le_trans Z0 K40.1
  refine own_back ?_ (fun t k => st40.trans k)
  show own_Go p e below PO (T40.setTop (mkF m 128 #[.val (.ref aT), .val (.int pF), .val (.ref aM), .val (.ref aF), .val (.int (0 : Int32))] []))
  refine own_back ?_ (fun t k => XS.iinc X40.here hx rfl (hb hby d2_128) rfl (l' := #[.val (.ref aT), .val (.int pF), .val (.ref aM), .val (.ref aF), .val (.int (1 : Int32))]) rfl k)
  show own_Go p e below PO (T40.setTop (mkF m 131 #[.val (.ref aT), .val (.int pF), .val (.ref aM), .val (.ref aF), .val (.int (1 : Int32))] []))
  refine own_back ?_ (fun t k => XS.goto X40.here hx rfl (pc0 := 131) (pc' := 97) rfl (hb hby d2_131) (by decide) (by decide) k)
  show own_Go p e below PO (T40.setTop (mkF m 97 #[.val (.ref aT), .val (.int pF), .val (.ref aM), .val (.ref aF), .val (.int (1 : Int32))] []))
  refine own_back ?_ (fun t k => XS.iload X40.here hx rfl (hb hby d2_97) rfl k)
  show own_Go p e below PO (T40.setTop (mkF m 99 #[.val (.ref aT), .val (.int pF), .val (.ref aM), .val (.ref aF), .val (.int (1 : Int32))] [(.int (1 : Int32))]))
  refine own_back ?_ (fun t k => XS.aloadN X40.here hx rfl (hb hby d2_99) rfl rfl k)
  show own_Go p e below PO (T40.setTop (mkF m 100 #[.val (.ref aT), .val (.int pF), .val (.ref aM), .val (.ref aF), .val (.int (1 : Int32))] [(.ref aT), (.int (1 : Int32))]))
  obtain ⟨T49, X49, e49, st49⟩ := getF X40 hx hZ hown (host := "") (Or.inl (hw _ (List.mem_of_getElem? (i := 31) rfl))) Via.refl rfl f40_43 (g := (mkF m 100 #[.val (.ref aT), .val (.int pF), .val (.ref aM), .val (.ref aF), .val (.int (1 : Int32))] [(.ref aT), (.int (1 : Int32))])) rfl rfl (hb hby d2_100)
  refine own_back ?_ st49
  show own_Go p e below PO (T49.setTop (mkF m 103 #[.val (.ref aT), .val (.int pF), .val (.ref aM), .val (.ref aF), .val (.int (1 : Int32))] [(.ref b8), (.int (1 : Int32))]))
  refine own_back ?_ (own_len X49 hx hZ e49 f40_46 (g := (mkF m 103 #[.val (.ref aT), .val (.int pF), .val (.ref aM), .val (.ref aF), .val (.int (1 : Int32))] [(.ref b8), (.int (1 : Int32))])) rfl rfl (hb hby d2_103))
  show own_Go p e below PO (T49.setTop (mkF m 104 #[.val (.ref aT), .val (.int pF), .val (.ref aM), .val (.ref aF), .val (.int (1 : Int32))] [(.int (1 : Int32)), (.int (1 : Int32))]))
  refine own_back ?_ (fun t k => XS.icmpYes X49.here hx rfl (pc0 := 104) (pc' := 134) rfl (hb hby d2_104) rfl (flt Int32.lt_irrefl).2.1 (by decide) (by decide) k)
  show own_Go p e below PO (T49.setTop (mkF m 134 #[.val (.ref aT), .val (.int pF), .val (.ref aM), .val (.ref aF), .val (.int (1 : Int32))] []))
  refine own_back ?_ (fun t k => XS.aloadN X49.here hx rfl (hb hby d2_134) rfl rfl k)
  show own_Go p e below PO (T49.setTop (mkF m 135 #[.val (.ref aT), .val (.int pF), .val (.ref aM), .val (.ref aF), .val (.int (1 : Int32))] [(.ref aT)]))
  obtain ⟨aS50, T50, h50, k50, X50, e50, E50, hS50, hk50, hZ, hown, st50⟩ := ldcS (s := s) (vm0 := T40.vm) X49 hx hZ hown (hw _ (List.mem_of_getElem? (i := 38) rfl)) (own_wS hw) e49 hS40 (Nat.le_refl _) (g := (mkF m 135 #[.val (.ref aT), .val (.int pF), .val (.ref aM), .val (.ref aF), .val (.int (1 : Int32))] [(.ref aT)])) rfl (hb hby d2_135) (n := 16) (by decide) (by decide) (by decide) (by decide)
  have f50_51 := f40_41.ext E50
  have f50_52 := f40_42.ext E50
  have f50_53 := f40_43.ext E50
  have f50_54 := f40_44.ext E50
  have f50_55 := f40_45.ext E50
  have f50_56 := f40_46.ext E50
  have f50_57 := f40_47.ext E50
  have f50_58 := f40_48.ext E50
  have K50 : Keep h0 h50 [aT] := (K40).ext E50
  have Zh50 : n0 ≤ h50.size := Nat.le_trans Z0 K50.1
  refine own_back ?_ st50
  show own_Go p e below PO (T50.setTop (mkF m 137 #[.val (.ref aT), .val (.int pF), .val (.ref aM), .val (.ref aF), .val (.int (1 : Int32))] [(.ref aS50), (.ref aT)]))
  refine own_back ?_ (fun t k => XS.aloadN X50.here hx rfl (hb hby d2_137) rfl rfl k)
  show own_Go p e below PO (T50.setTop (mkF m 138 #[.val (.ref aT), .val (.int pF), .val (.ref aM), .val (.ref aF), .val (.int (1 : Int32))] [(.ref aT), (.ref aS50), (.ref aT)]))
  obtain ⟨T59, X59, e59, st59⟩ := getF X50 hx hZ hown (host := "") (Or.inl (hw _ (List.mem_of_getElem? (i := 31) rfl))) Via.refl e50 f50_53 (g := (mkF m 138 #[.val (.ref aT), .val (.int pF), .val (.ref aM), .val (.ref aF), .val (.int (1 : Int32))] [(.ref aT), (.ref aS50), (.ref aT)])) rfl rfl (hb hby d2_138)
  refine own_back ?_ st59
  show own_Go p e below PO (T59.setTop (mkF m 141 #[.val (.ref aT), .val (.int pF), .val (.ref aM), .val (.ref aF), .val (.int (1 : Int32))] [(.ref b8), (.ref aS50), (.ref aT)]))
  obtain ⟨cq60, q60, q60'⟩ := f50_51.cell
  obtain ⟨_, _, ⟨T60, L60, k60, n60⟩, -, X60, ⟨Lc60, hQ60, l60, y60, z60⟩, st60⟩ := X59.privateBack hx (y := (⟨"com/example/overcap/overcap/model/MortalityTable", "checkLastRate", "(Ljava/lang/String;[D)V"⟩ : MethodName)) hown (mvT hZ (hw _ (List.mem_of_getElem? (i := 53) rfl))) (mvT hZ (hw _ (List.mem_of_getElem? (i := 54) rfl))) (own_selpriv (args' := #[]) (mvT hZ (hw _ (List.mem_of_getElem? (i := 60) rfl))) (Cond.privateMethod_at (mvP hZ (hw _ (List.mem_of_getElem? (i := 55) rfl)) (args := #[]))) (mvT hZ (hw _ (List.mem_of_getElem? (i := 54) rfl))) (by decide)) (Cond.privateMethod_at (mvP hZ (hw _ (List.mem_of_getElem? (i := 55) rfl)) (args := #[]))) (mvT hZ (hw _ (List.mem_of_getElem? (i := 56) rfl))) (by decide) (backOf (W := 0) (rmLast_1 l Z a0 hw [] aT aS50 b8 kM  h50 n0 Zh50 f50_56) hZ (hw _ (List.mem_of_getElem? (i := 56) rfl)) (hw _ (List.mem_of_getElem? (i := 10) rfl)) (by decide) (by decide)) (g := (mkF m 141 #[.val (.ref aT), .val (.int pF), .val (.ref aM), .val (.ref aF), .val (.int (1 : Int32))] [(.ref b8), (.ref aS50), (.ref aT)])) rfl (by rw [hml]; rfl) (Steps.refl _) (a := aT) (by rw [e59]; exact q60) q60' (argsL := [(.ref aS50), (.ref b8)]) (rest := []) (lenOf pd_4 rfl) rfl (by show 2 * 0 + _ ≤ _; exact Nat.le_of_eq rfl) (hb hby d2_141) (fun _ _ => ⟨rfl, e59, (by decide : 8 + 0 ≤ _), (by decide : 70 + 0 ≤ _)⟩)
  dsimp only [Pt.U, Pt.locs, Pt.cells, Pt.slots] at X60 l60 y60 z60 st60 hQ60
  subst l60 y60 z60
  obtain ⟨rfl, N60q, e60⟩ := hQ60
  have N60 := Fr.app N40 N60q
  refine own_back ?_ (fun t k => st60.trans k)
  show own_Go p e below PO (T60.setTop (mkF m 144 #[.val (.ref aT), .val (.int pF), .val (.ref aM), .val (.ref aF), .val (.int (1 : Int32))] []))
  refine own_back ?_ (fun t k => XS.aloadN X60.here hx rfl (hb hby d2_144) rfl rfl k)
  show own_Go p e below PO (T60.setTop (mkF m 145 #[.val (.ref aT), .val (.int pF), .val (.ref aM), .val (.ref aF), .val (.int (1 : Int32))] [(.ref aT)]))
  obtain ⟨aS61, T61, h61, k61, X61, e61, E61, hS61, hk61, hZ, hown, st61⟩ := ldcS (s := s) (vm0 := T50.vm) X60 hx hZ hown (hw _ (List.mem_of_getElem? (i := 52) rfl)) (own_wS hw) e60 hS50 hk50 (g := (mkF m 145 #[.val (.ref aT), .val (.int pF), .val (.ref aM), .val (.ref aF), .val (.int (1 : Int32))] [(.ref aT)])) rfl (hb hby d2_145) (n := 24) (by decide) (by decide) (by decide) (by decide)
  have f61_62 := f50_51.ext E61
  have f61_63 := f50_52.ext E61
  have f61_64 := f50_53.ext E61
  have f61_65 := f50_54.ext E61
  have f61_66 := f50_55.ext E61
  have f61_67 := f50_56.ext E61
  have f61_68 := f50_57.ext E61
  have f61_69 := f50_58.ext E61
  have K61 : Keep h0 h61 [aT] := (K50).ext E61
  have Zh61 : n0 ≤ h61.size := Nat.le_trans Z0 K61.1
  refine own_back ?_ st61
  show own_Go p e below PO (T61.setTop (mkF m 147 #[.val (.ref aT), .val (.int pF), .val (.ref aM), .val (.ref aF), .val (.int (1 : Int32))] [(.ref aS61), (.ref aT)]))
  refine own_back ?_ (fun t k => XS.aloadN X61.here hx rfl (hb hby d2_147) rfl rfl k)
  show own_Go p e below PO (T61.setTop (mkF m 148 #[.val (.ref aT), .val (.int pF), .val (.ref aM), .val (.ref aF), .val (.int (1 : Int32))] [(.ref aT), (.ref aS61), (.ref aT)]))
  obtain ⟨T70, X70, e70, st70⟩ := getF X61 hx hZ hown (host := "") (Or.inl (hw _ (List.mem_of_getElem? (i := 33) rfl))) Via.refl e61 f61_65 (g := (mkF m 148 #[.val (.ref aT), .val (.int pF), .val (.ref aM), .val (.ref aF), .val (.int (1 : Int32))] [(.ref aT), (.ref aS61), (.ref aT)])) rfl rfl (hb hby d2_148)
  refine own_back ?_ st70
  show own_Go p e below PO (T70.setTop (mkF m 151 #[.val (.ref aT), .val (.int pF), .val (.ref aM), .val (.ref aF), .val (.int (1 : Int32))] [(.ref b20), (.ref aS61), (.ref aT)]))
  obtain ⟨cq71, q71, q71'⟩ := f61_62.cell
  obtain ⟨_, _, ⟨T71, L71, k71, n71⟩, -, X71, ⟨Lc71, hQ71, l71, y71, z71⟩, st71⟩ := X70.privateBack hx (y := (⟨"com/example/overcap/overcap/model/MortalityTable", "checkLastRate", "(Ljava/lang/String;[D)V"⟩ : MethodName)) hown (mvT hZ (hw _ (List.mem_of_getElem? (i := 53) rfl))) (mvT hZ (hw _ (List.mem_of_getElem? (i := 54) rfl))) (own_selpriv (args' := #[]) (mvT hZ (hw _ (List.mem_of_getElem? (i := 60) rfl))) (Cond.privateMethod_at (mvP hZ (hw _ (List.mem_of_getElem? (i := 55) rfl)) (args := #[]))) (mvT hZ (hw _ (List.mem_of_getElem? (i := 54) rfl))) (by decide)) (Cond.privateMethod_at (mvP hZ (hw _ (List.mem_of_getElem? (i := 55) rfl)) (args := #[]))) (mvT hZ (hw _ (List.mem_of_getElem? (i := 56) rfl))) (by decide) (backOf (W := 0) (rmLast_1 l Z a0 hw [] aT aS61 b20 kF  h61 n0 Zh61 f61_69) hZ (hw _ (List.mem_of_getElem? (i := 56) rfl)) (hw _ (List.mem_of_getElem? (i := 10) rfl)) (by decide) (by decide)) (g := (mkF m 151 #[.val (.ref aT), .val (.int pF), .val (.ref aM), .val (.ref aF), .val (.int (1 : Int32))] [(.ref b20), (.ref aS61), (.ref aT)])) rfl (by rw [hml]; rfl) (Steps.refl _) (a := aT) (by rw [e70]; exact q71) q71' (argsL := [(.ref aS61), (.ref b20)]) (rest := []) (lenOf pd_4 rfl) rfl (by show 2 * 0 + _ ≤ _; exact Nat.le_of_eq rfl) (hb hby d2_151) (fun _ _ => ⟨rfl, e70, (by decide : 10 + 0 ≤ _), (by decide : 98 + 0 ≤ _)⟩)
  dsimp only [Pt.U, Pt.locs, Pt.cells, Pt.slots] at X71 l71 y71 z71 st71 hQ71
  subst l71 y71 z71
  obtain ⟨rfl, N71q, e71⟩ := hQ71
  have N71 := Fr.app N60 N71q
  refine own_back ?_ (fun t k => st71.trans k)
  show own_Go p e below PO (T71.setTop (mkF m 154 #[.val (.ref aT), .val (.int pF), .val (.ref aM), .val (.ref aF), .val (.int (1 : Int32))] []))
  refine own_retVW X71 hx Bd.returns (hb hby d2_154) e71 (Bd.notSynchronized) ?_ (by decide) (by decide) (s := s) (vm0 := T61.vm) hS61 hk61
  exact ⟨rfl, N71, K61, f61_63, b8, b20, sz_b8, sz_b20, f61_64, f61_65, f61_67, f61_69⟩
theorem d9_0 : decode prog_79_method_5_code 0 = .ok (.aload_n 0, 1) := by decide +kernel
theorem d9_1 : decode prog_79_method_5_code 1 = .ok (.getfield 34, 3) := by decide +kernel
theorem d9_4 : decode prog_79_method_5_code 4 = .ok (.aload_n 0, 1) := by decide +kernel
theorem d9_5 : decode prog_79_method_5_code 5 = .ok (.getfield 44, 3) := by decide +kernel
theorem d9_8 : decode prog_79_method_5_code 8 = .ok (.arraylength, 1) := by decide +kernel
theorem d9_9 : decode prog_79_method_5_code 9 = .ok (.iadd, 1) := by decide +kernel
theorem d9_10 : decode prog_79_method_5_code 10 = .ok (.iconst 1, 1) := by decide +kernel
theorem d9_11 : decode prog_79_method_5_code 11 = .ok (.isub, 1) := by decide +kernel
theorem d9_12 : decode prog_79_method_5_code 12 = .ok (.ireturn, 1) := by decide +kernel
theorem ef_rmLA_1 (m : MethodId) (x0 : Addr) : entryFrame m #[(.ref x0)] 1 = mkF m 0 #[.val (.ref x0)] [] := by first | (simp [entryFrame, mkF, argsToLocals, Value.category]; done) | rfl
def Q_rmLA_1 (pF : Int32) (h0 : Heap) (n0 : Nat) (v : Option Value) (h : Heap) (L : List Loc) : Prop := v = some (.int ((pF + (1 : Int32)) - (1 : Int32))) ∧ Fr n0 L ∧ h = h0
set_option maxRecDepth 65536 in
set_option maxHeartbeats 40000000 in
theorem rmLA_1 (l : Launch) (Z : State) (a0 : Array Value) (hw : ∀ d ∈ tables_1, d.before a0 Z = true) (ws : List Jvm.Cond) (aT : Addr) (pF : Int32) (aM aF : Addr) (kM kF : ClassId)  (h0 : Heap) (n0 : Nat) (Z0 : n0 ≤ h0.size) (E_T : Exa Z h0 aT "com/example/overcap/overcap/model/MortalityTable") (FA : Fld Z h0 aT "com/example/overcap/overcap/model/MortalityTable" "firstAge" "I" (.int pF)) (FM : Fld Z h0 aT "com/example/overcap/overcap/model/MortalityTable" "maleQx" "[D" (.ref aM)) (FF : Fld Z h0 aT "com/example/overcap/overcap/model/MortalityTable" "femaleQx" "[D" (.ref aF)) (V_M : Arv Z h0 aM kM .double (1 : Int32) [(.double (4607182418800017408 : UInt64))] (.double (0 : UInt64))) (V_F : Arv Z h0 aF kF .double (1 : Int32) [(.double (4607182418800017408 : UInt64))] (.double (0 : UInt64))) :
    MetFree l (⟨"com/example/overcap/overcap/model/MortalityTable", "getLastAge", "()I"⟩ : MethodName) (head1 (Jvm.Cond.code (⟨"com/example/overcap/overcap/model/MortalityTable", "getLastAge", "()I"⟩ : MethodName) prog_79_method_5_code 1 (some .int) :: ws) ({ frames := 0, cells := 0, slots := 0, locals := 0 } : Room)) (fun a U => a = #[(.ref aT)] ∧ Z.Warmed39 U.vm ∧ U.heap = h0) (fun _ _ _ _ _ => True) (fun _ U o U' => ∃ v L, o = .returned v ∧ Q_rmLA_1 pF h0 n0 v U'.heap L ∧ FrameEnd U o U' L ({ frames := 0, cells := 0, slots := 0, locals := 0 } : Room).cells ({ frames := 0, cells := 0, slots := 0, locals := 0 } : Room).slots) := by
  refine MetFree.of_bodySF (plainFor_of_name pn_0) hisR ?_
  intro p e s m args below meth c s₁ Bd hml0 hP hK
  obtain ⟨rfl, hZ, hh⟩ := hP
  have hx := Bd.exec
  have hby := Bd.bytes
  have hml : c.maxLocals = 1 := hml0
  have hown : s.vm.findClass "com/example/overcap/overcap/model/MortalityTable" = some m.cls := findClass_of_methodNamed Bd.named
  have hnm := (name_of_methodNamed Bd.named Bd.method).1
  have X0 : Stand p l e ({ frames := 0, cells := 0, slots := 0, locals := 0 } : Room) s m #[(.ref aT)] below meth c s₁ [] 0 0 := Stand.of_body Bd
  have e0 : s₁.heap = h0 := by rw [← hh, Bd.state]; rfl
  have N0 := Fr.nil n0
  let PO : Outcome → State → Prop := own_PO s (Q_rmLA_1 pF h0 n0) 0 0
  show own_Go p e below PO (s₁.setTop (entryFrame m #[(.ref aT)] 1))
  rw [ef_rmLA_1]
  show own_Go p e below PO (s₁.setTop (mkF m 0 #[.val (.ref aT)] []))
  refine own_back ?_ (fun t k => XS.aloadN X0.here hx rfl (hb hby d9_0) rfl rfl k)
  show own_Go p e below PO (s₁.setTop (mkF m 1 #[.val (.ref aT)] [(.ref aT)]))
  obtain ⟨T1, X1, e1, st1⟩ := getF X0 hx hZ hown (host := "") (Or.inl (hw _ (List.mem_of_getElem? (i := 20) rfl))) Via.refl e0 FA (g := (mkF m 1 #[.val (.ref aT)] [(.ref aT)])) rfl rfl (hb hby d9_1)
  refine own_back ?_ st1
  show own_Go p e below PO (T1.setTop (mkF m 4 #[.val (.ref aT)] [(.int pF)]))
  refine own_back ?_ (fun t k => XS.aloadN X1.here hx rfl (hb hby d9_4) rfl rfl k)
  show own_Go p e below PO (T1.setTop (mkF m 5 #[.val (.ref aT)] [(.ref aT), (.int pF)]))
  obtain ⟨T2, X2, e2, st2⟩ := getF X1 hx hZ hown (host := "") (Or.inl (hw _ (List.mem_of_getElem? (i := 31) rfl))) Via.refl e1 FM (g := (mkF m 5 #[.val (.ref aT)] [(.ref aT), (.int pF)])) rfl rfl (hb hby d9_5)
  refine own_back ?_ st2
  show own_Go p e below PO (T2.setTop (mkF m 8 #[.val (.ref aT)] [(.ref aM), (.int pF)]))
  refine own_back ?_ (own_len X2 hx hZ e2 V_M (g := (mkF m 8 #[.val (.ref aT)] [(.ref aM), (.int pF)])) rfl rfl (hb hby d9_8))
  show own_Go p e below PO (T2.setTop (mkF m 9 #[.val (.ref aT)] [(.int (1 : Int32)), (.int pF)]))
  refine own_back ?_ (fun t k => XS.iadd X2.here hx rfl (hb hby d9_9) rfl k)
  show own_Go p e below PO (T2.setTop (mkF m 10 #[.val (.ref aT)] [(.int (pF + (1 : Int32)))]))
  refine own_back ?_ (fun t k => XS.iconst X2.here hx rfl (hb hby d9_10) k)
  show own_Go p e below PO (T2.setTop (mkF m 11 #[.val (.ref aT)] [(.int (1 : Int32)), (.int (pF + (1 : Int32)))]))
  refine own_back ?_ (fun t k => XS.isub X2.here hx rfl (hb hby d9_11) rfl k)
  show own_Go p e below PO (T2.setTop (mkF m 12 #[.val (.ref aT)] [(.int ((pF + (1 : Int32)) - (1 : Int32)))]))
  refine own_retI X2 hx (rest := []) Bd.returns (hb hby d9_12) e2 (Bd.notSynchronized) ?_ (by decide) (by decide)
  exact ⟨rfl, N0, rfl⟩
theorem pd_5 : parseMethodDescriptor "()I" = some ⟨[], some .int⟩ := by decide +kernel
theorem d11_0 : decode prog_79_method_6_code 0 = .ok (.iload_n 1, 1) := by decide +kernel
theorem d11_1 : decode prog_79_method_6_code 1 = .ok (.aload_n 0, 1) := by decide +kernel
theorem d11_2 : decode prog_79_method_6_code 2 = .ok (.getfield 34, 3) := by decide +kernel
theorem d11_5 : decode prog_79_method_6_code 5 = .ok (.if_icmp .lt 11, 3) := by decide +kernel
theorem d11_8 : decode prog_79_method_6_code 8 = .ok (.iload_n 1, 1) := by decide +kernel
theorem d11_9 : decode prog_79_method_6_code 9 = .ok (.aload_n 0, 1) := by decide +kernel
theorem d11_10 : decode prog_79_method_6_code 10 = .ok (.invokevirtual 70, 3) := by decide +kernel
theorem d11_13 : decode prog_79_method_6_code 13 = .ok (.if_icmp .le 25, 3) := by decide +kernel
theorem d11_38 : decode prog_79_method_6_code 38 = .ok (.dload_n 2, 1) := by decide +kernel
theorem d11_39 : decode prog_79_method_6_code 39 = .ok (.invokestatic 77, 3) := by decide +kernel
theorem d11_42 : decode prog_79_method_6_code 42 = .ok (.ifCond .ne 17, 3) := by decide +kernel
theorem d11_59 : decode prog_79_method_6_code 59 = .ok (.iload_n 1, 1) := by decide +kernel
theorem d11_60 : decode prog_79_method_6_code 60 = .ok (.aload_n 0, 1) := by decide +kernel
theorem d11_61 : decode prog_79_method_6_code 61 = .ok (.getfield 34, 3) := by decide +kernel
theorem d11_64 : decode prog_79_method_6_code 64 = .ok (.isub, 1) := by decide +kernel
theorem d11_65 : decode prog_79_method_6_code 65 = .ok (.istore 4, 2) := by decide +kernel
theorem d11_67 : decode prog_79_method_6_code 67 = .ok (.dload_n 2, 1) := by decide +kernel
theorem d11_68 : decode prog_79_method_6_code 68 = .ok (.aload_n 0, 1) := by decide +kernel
theorem d11_69 : decode prog_79_method_6_code 69 = .ok (.getfield 44, 3) := by decide +kernel
theorem d11_72 : decode prog_79_method_6_code 72 = .ok (.iload 4, 2) := by decide +kernel
theorem d11_74 : decode prog_79_method_6_code 74 = .ok (.daload, 1) := by decide +kernel
theorem d11_75 : decode prog_79_method_6_code 75 = .ok (.dmul, 1) := by decide +kernel
theorem d11_76 : decode prog_79_method_6_code 76 = .ok (.dconst 1, 1) := by decide +kernel
theorem d11_77 : decode prog_79_method_6_code 77 = .ok (.dload_n 2, 1) := by decide +kernel
theorem d11_78 : decode prog_79_method_6_code 78 = .ok (.dsub, 1) := by decide +kernel
theorem d11_79 : decode prog_79_method_6_code 79 = .ok (.aload_n 0, 1) := by decide +kernel
theorem d11_80 : decode prog_79_method_6_code 80 = .ok (.getfield 47, 3) := by decide +kernel
theorem d11_83 : decode prog_79_method_6_code 83 = .ok (.iload 4, 2) := by decide +kernel
theorem d11_85 : decode prog_79_method_6_code 85 = .ok (.daload, 1) := by decide +kernel
theorem d11_86 : decode prog_79_method_6_code 86 = .ok (.dmul, 1) := by decide +kernel
theorem d11_87 : decode prog_79_method_6_code 87 = .ok (.dadd, 1) := by decide +kernel
theorem d11_88 : decode prog_79_method_6_code 88 = .ok (.dreturn, 1) := by decide +kernel
theorem ef_rmQx_1_0 (m : MethodId) (x0 : Addr) (x1 : Int32) (x2 : UInt64) : entryFrame m #[(.ref x0), (.int x1), (.double x2)] 5 = mkF m 0 #[.val (.ref x0), .val (.int x1), .val (.double x2), .second, .unset] [] := by first | (simp [entryFrame, mkF, argsToLocals, Value.category]; done) | rfl
def Q_rmQx_1_0 (uR : UInt64)  (h0 : Heap) (n0 : Nat) (v : Option Value) (h : Heap) (L : List Loc) : Prop := v = some (.double (own_mix uR (4607182418800017408 : UInt64) (4607182418800017408 : UInt64))) ∧ Fr n0 L ∧ h = h0
set_option maxRecDepth 65536 in
set_option maxHeartbeats 40000000 in
theorem rmQx_1_0 (l : Launch) (Z : State) (a0 : Array Value) (hw : ∀ d ∈ tables_1, d.before a0 Z = true) (ws : List Jvm.Cond) (aT : Addr) (pA : Int32) (uR : UInt64) (pF : Int32) (aM aF : Addr) (kM kF : ClassId)  (h0 : Heap) (n0 : Nat) (Z0 : n0 ≤ h0.size) (E_T : Exa Z h0 aT "com/example/overcap/overcap/model/MortalityTable") (FA : Fld Z h0 aT "com/example/overcap/overcap/model/MortalityTable" "firstAge" "I" (.int pF)) (FM : Fld Z h0 aT "com/example/overcap/overcap/model/MortalityTable" "maleQx" "[D" (.ref aM)) (FF : Fld Z h0 aT "com/example/overcap/overcap/model/MortalityTable" "femaleQx" "[D" (.ref aF)) (V_M : Arv Z h0 aM kM .double (1 : Int32) [(.double (4607182418800017408 : UInt64))] (.double (0 : UInt64))) (V_F : Arv Z h0 aF kF .double (1 : Int32) [(.double (4607182418800017408 : UInt64))] (.double (0 : UInt64))) (hlo : ¬ pA < pF) (hhi : ¬ ((pF + (1 : Int32)) - (1 : Int32)) < pA) (hix : pA - pF = (0 : Int32)) (hR : own_ok uR) (hn : own_mixN uR (4607182418800017408 : UInt64) (4607182418800017408 : UInt64)) :
    MetFree l (⟨"com/example/overcap/overcap/model/MortalityTable", "getQx", "(ID)D"⟩ : MethodName) (head1 (Jvm.Cond.code (⟨"com/example/overcap/overcap/model/MortalityTable", "getQx", "(ID)D"⟩ : MethodName) prog_79_method_6_code 5 (some .double) :: ws) ({ frames := 1, cells := 0, slots := 0, locals := 13 } : Room)) (fun a U => a = #[(.ref aT), (.int pA), (.double uR)] ∧ Z.Warmed39 U.vm ∧ U.heap = h0) (fun _ _ _ _ _ => True) (fun _ U o U' => ∃ v L, o = .returned v ∧ Q_rmQx_1_0 uR  h0 n0 v U'.heap L ∧ FrameEnd U o U' L ({ frames := 1, cells := 0, slots := 0, locals := 13 } : Room).cells ({ frames := 1, cells := 0, slots := 0, locals := 13 } : Room).slots) := by
  refine MetFree.of_bodySF (plainFor_of_name pn_0) hisR ?_
  intro p e s m args below meth c s₁ Bd hml0 hP hK
  obtain ⟨rfl, hZ, hh⟩ := hP
  have hx := Bd.exec
  have hby := Bd.bytes
  have hml : c.maxLocals = 5 := hml0
  have hown : s.vm.findClass "com/example/overcap/overcap/model/MortalityTable" = some m.cls := findClass_of_methodNamed Bd.named
  have hnm := (name_of_methodNamed Bd.named Bd.method).1
  have X0 : Stand p l e ({ frames := 1, cells := 0, slots := 0, locals := 13 } : Room) s m #[(.ref aT), (.int pA), (.double uR)] below meth c s₁ [] 0 0 := Stand.of_body Bd
  have e0 : s₁.heap = h0 := by rw [← hh, Bd.state]; rfl
  have N0 := Fr.nil n0
  let PO : Outcome → State → Prop := own_PO s (Q_rmQx_1_0 uR  h0 n0) 0 0
  show own_Go p e below PO (s₁.setTop (entryFrame m #[(.ref aT), (.int pA), (.double uR)] 5))
  rw [ef_rmQx_1_0]
  show own_Go p e below PO (s₁.setTop (mkF m 0 #[.val (.ref aT), .val (.int pA), .val (.double uR), .second, .unset] []))
  refine own_back ?_ (fun t k => XS.iloadN X0.here hx rfl (hb hby d11_0) rfl k)
  show own_Go p e below PO (s₁.setTop (mkF m 1 #[.val (.ref aT), .val (.int pA), .val (.double uR), .second, .unset] [(.int pA)]))
  refine own_back ?_ (fun t k => XS.aloadN X0.here hx rfl (hb hby d11_1) rfl rfl k)
  show own_Go p e below PO (s₁.setTop (mkF m 2 #[.val (.ref aT), .val (.int pA), .val (.double uR), .second, .unset] [(.ref aT), (.int pA)]))
  obtain ⟨T1, X1, e1, st1⟩ := getF X0 hx hZ hown (host := "") (Or.inl (hw _ (List.mem_of_getElem? (i := 20) rfl))) Via.refl e0 FA (g := (mkF m 2 #[.val (.ref aT), .val (.int pA), .val (.double uR), .second, .unset] [(.ref aT), (.int pA)])) rfl rfl (hb hby d11_2)
  refine own_back ?_ st1
  show own_Go p e below PO (T1.setTop (mkF m 5 #[.val (.ref aT), .val (.int pA), .val (.double uR), .second, .unset] [(.int pF), (.int pA)]))
  refine own_back ?_ (fun t k => XS.icmpNo X1.here hx rfl (hb hby d11_5) rfl (flt hlo).1 k)
  show own_Go p e below PO (T1.setTop (mkF m 8 #[.val (.ref aT), .val (.int pA), .val (.double uR), .second, .unset] []))
  refine own_back ?_ (fun t k => XS.iloadN X1.here hx rfl (hb hby d11_8) rfl k)
  show own_Go p e below PO (T1.setTop (mkF m 9 #[.val (.ref aT), .val (.int pA), .val (.double uR), .second, .unset] [(.int pA)]))
  refine own_back ?_ (fun t k => XS.aloadN X1.here hx rfl (hb hby d11_9) rfl rfl k)
  show own_Go p e below PO (T1.setTop (mkF m 10 #[.val (.ref aT), .val (.int pA), .val (.double uR), .second, .unset] [(.ref aT), (.int pA)]))
  obtain ⟨cq2, kq2, q2a, q2b, q2c⟩ := isOf hZ e1 E_T
  obtain ⟨_, _, ⟨T2, L2, k2, n2⟩, -, X2, ⟨Lc2, hQ2, l2, y2, z2⟩, st2⟩ := X1.virtualBack hx (y := (⟨"com/example/overcap/overcap/model/MortalityTable", "getLastAge", "()I"⟩ : MethodName)) (z := (⟨"com/example/overcap/overcap/model/MortalityTable", "getLastAge", "()I"⟩ : MethodName)) hown (mvT hZ (hw _ (List.mem_of_getElem? (i := 72) rfl))) (mvT hZ (hw _ (List.mem_of_getElem? (i := 58) rfl))) (notFace_of_selects (args := #[]) (mvT hZ (hw _ (List.mem_of_getElem? (i := 60) rfl)))) (mvT hZ (hw _ (List.mem_of_getElem? (i := 60) rfl))) (mvT hZ (hw _ (List.mem_of_getElem? (i := 59) rfl))) (by decide) (backOf (W := 1) (rmLA_1 l Z a0 hw [] aT pF aM aF kM kF  h0 n0 Z0 E_T FA FM FF V_M V_F) hZ (hw _ (List.mem_of_getElem? (i := 61) rfl)) (hw _ (List.mem_of_getElem? (i := 10) rfl)) (by decide) (by decide)) q2a q2c (g := (mkF m 10 #[.val (.ref aT), .val (.int pA), .val (.double uR), .second, .unset] [(.ref aT), (.int pA)])) rfl (by rw [hml]; rfl) (Steps.refl _) (argsL := []) (rest := [(.int pA)]) (lenOf pd_5 rfl) rfl (by show 2 * 0 + _ ≤ _; exact Nat.le_of_eq rfl) (hb hby d11_10) (fun _ _ => ⟨rfl, e1, (by decide : 0 + 0 ≤ _), (by decide : 0 + 0 ≤ _)⟩)
  dsimp only [Pt.U, Pt.locs, Pt.cells, Pt.slots] at X2 l2 y2 z2 st2 hQ2
  subst l2 y2 z2
  obtain ⟨rfl, N2q, e2⟩ := hQ2
  have N2 := Fr.app N0 N2q
  refine own_back ?_ (fun t k => st2.trans k)
  show own_Go p e below PO (T2.setTop (mkF m 13 #[.val (.ref aT), .val (.int pA), .val (.double uR), .second, .unset] [(.int ((pF + (1 : Int32)) - (1 : Int32))), (.int pA)]))
  refine own_back ?_ (fun t k => XS.icmpYes X2.here hx rfl (pc0 := 13) (pc' := 38) rfl (hb hby d11_13) rfl (flt hhi).2.2.2 (by decide) (by decide) k)
  show own_Go p e below PO (T2.setTop (mkF m 38 #[.val (.ref aT), .val (.int pA), .val (.double uR), .second, .unset] []))
  refine own_back ?_ (fun t k => XS.dloadN X2.here hx rfl (hb hby d11_38) rfl k)
  show own_Go p e below PO (T2.setTop (mkF m 39 #[.val (.ref aT), .val (.int pA), .val (.double uR), .second, .unset] [(.double uR)]))
  obtain ⟨_, _, ⟨T3, L3, k3, n3⟩, -, X3, ⟨Lc3, hQ3, l3, y3, z3⟩, st3⟩ := Jvm.LawKit.callS X2 hx (y := (⟨"com/example/overcap/overcap/model/MortalityTable", "isFromZeroToOne", "(D)Z"⟩ : MethodName)) hown (mvT hZ (hw _ (List.mem_of_getElem? (i := 49) rfl))) (mvT hZ (hw _ (List.mem_of_getElem? (i := 50) rfl))) (mvT hZ (hw _ (List.mem_of_getElem? (i := 10) rfl))) (mvT hZ (hw _ (List.mem_of_getElem? (i := 51) rfl))) (by decide) (backOf (W := 0) (rmIs l Z a0 hw [] uR  h0 n0 Z0 hR) hZ (hw _ (List.mem_of_getElem? (i := 51) rfl)) (hw _ (List.mem_of_getElem? (i := 10) rfl)) (by decide) (by decide)) (g := (mkF m 39 #[.val (.ref aT), .val (.int pA), .val (.double uR), .second, .unset] [(.double uR)])) rfl (by rw [hml]; rfl) (argsL := [(.double uR)]) (rest := []) (lenOf pd_0 rfl) rfl (by show 2 * 0 + _ ≤ _; exact Nat.le_of_eq rfl) (hb hby d11_39) (fun _ _ => ⟨rfl, e2, (by decide : 0 + 0 ≤ _), (by decide : 0 + 0 ≤ _)⟩)
  dsimp only [Pt.U, Pt.locs, Pt.cells, Pt.slots] at X3 l3 y3 z3 st3 hQ3
  subst l3 y3 z3
  obtain ⟨rfl, N3q, e3⟩ := hQ3
  have N3 := Fr.app N2 N3q
  refine own_back ?_ st3
  show own_Go p e below PO (T3.setTop (mkF m 42 #[.val (.ref aT), .val (.int pA), .val (.double uR), .second, .unset] [(.int (1 : Int32))]))
  have hd42_4 : ¬ ((1 : Int32) = (0 : Int32)) := (by decide)
  refine own_back ?_ (fun t k => XS.ifYes X3.here hx rfl (pc0 := 42) (pc' := 59) rfl (hb hby d11_42) rfl ((if0 _ _).trans (feq hd42_4).2) (by decide) (by decide) k)
  show own_Go p e below PO (T3.setTop (mkF m 59 #[.val (.ref aT), .val (.int pA), .val (.double uR), .second, .unset] []))
  refine own_back ?_ (fun t k => XS.iloadN X3.here hx rfl (hb hby d11_59) rfl k)
  show own_Go p e below PO (T3.setTop (mkF m 60 #[.val (.ref aT), .val (.int pA), .val (.double uR), .second, .unset] [(.int pA)]))
  refine own_back ?_ (fun t k => XS.aloadN X3.here hx rfl (hb hby d11_60) rfl rfl k)
  show own_Go p e below PO (T3.setTop (mkF m 61 #[.val (.ref aT), .val (.int pA), .val (.double uR), .second, .unset] [(.ref aT), (.int pA)]))
  obtain ⟨T5, X5, e5, st5⟩ := getF X3 hx hZ hown (host := "") (Or.inl (hw _ (List.mem_of_getElem? (i := 20) rfl))) Via.refl e3 FA (g := (mkF m 61 #[.val (.ref aT), .val (.int pA), .val (.double uR), .second, .unset] [(.ref aT), (.int pA)])) rfl rfl (hb hby d11_61)
  refine own_back ?_ st5
  show own_Go p e below PO (T5.setTop (mkF m 64 #[.val (.ref aT), .val (.int pA), .val (.double uR), .second, .unset] [(.int pF), (.int pA)]))
  refine own_back ?_ (fun t k => XS.isub X5.here hx rfl (hb hby d11_64) rfl k)
  show own_Go p e below PO (T5.setTop (mkF m 65 #[.val (.ref aT), .val (.int pA), .val (.double uR), .second, .unset] [(.int (pA - pF))]))
  refine own_back ?_ (fun t k => XS.istore X5.here hx rfl (hb hby d11_65) rfl (l' := #[.val (.ref aT), .val (.int pA), .val (.double uR), .second, .val (.int (pA - pF))]) rfl k)
  show own_Go p e below PO (T5.setTop (mkF m 67 #[.val (.ref aT), .val (.int pA), .val (.double uR), .second, .val (.int (pA - pF))] []))
  refine own_gen (A := Int32) (pA - pF) (fun v4_6 => own_Go p e below PO (T5.setTop (mkF m 67 #[.val (.ref aT), .val (.int pA), .val (.double uR), .second, .val (.int v4_6)] []))) ?_
  intro v4_6 h_v4_6
  show own_Go p e below PO (T5.setTop (mkF m 67 #[.val (.ref aT), .val (.int pA), .val (.double uR), .second, .val (.int v4_6)] []))
  have q4 : v4_6 = (0 : Int32) := h_v4_6.trans hix
  subst q4
  show own_Go p e below PO (T5.setTop (mkF m 67 #[.val (.ref aT), .val (.int pA), .val (.double uR), .second, .val (.int (0 : Int32))] []))
  refine own_back ?_ (fun t k => XS.dloadN X5.here hx rfl (hb hby d11_67) rfl k)
  show own_Go p e below PO (T5.setTop (mkF m 68 #[.val (.ref aT), .val (.int pA), .val (.double uR), .second, .val (.int (0 : Int32))] [(.double uR)]))
  refine own_back ?_ (fun t k => XS.aloadN X5.here hx rfl (hb hby d11_68) rfl rfl k)
  show own_Go p e below PO (T5.setTop (mkF m 69 #[.val (.ref aT), .val (.int pA), .val (.double uR), .second, .val (.int (0 : Int32))] [(.ref aT), (.double uR)]))
  obtain ⟨T7, X7, e7, st7⟩ := getF X5 hx hZ hown (host := "") (Or.inl (hw _ (List.mem_of_getElem? (i := 31) rfl))) Via.refl e5 FM (g := (mkF m 69 #[.val (.ref aT), .val (.int pA), .val (.double uR), .second, .val (.int (0 : Int32))] [(.ref aT), (.double uR)])) rfl rfl (hb hby d11_69)
  refine own_back ?_ st7
  show own_Go p e below PO (T7.setTop (mkF m 72 #[.val (.ref aT), .val (.int pA), .val (.double uR), .second, .val (.int (0 : Int32))] [(.ref aM), (.double uR)]))
  refine own_back ?_ (fun t k => XS.iload X7.here hx rfl (hb hby d11_72) rfl k)
  show own_Go p e below PO (T7.setTop (mkF m 74 #[.val (.ref aT), .val (.int pA), .val (.double uR), .second, .val (.int (0 : Int32))] [(.int (0 : Int32)), (.ref aM), (.double uR)]))
  refine own_back ?_ (own_ldD X7 hx hZ e7 V_M (j := (0 : Int32)) (v := (.double (4607182418800017408 : UInt64))) ⟨by decide, by decide⟩ rfl (g := (mkF m 74 #[.val (.ref aT), .val (.int pA), .val (.double uR), .second, .val (.int (0 : Int32))] [(.int (0 : Int32)), (.ref aM), (.double uR)])) rfl rfl (hb hby d11_74))
  show own_Go p e below PO (T7.setTop (mkF m 75 #[.val (.ref aT), .val (.int pA), .val (.double uR), .second, .val (.int (0 : Int32))] [(.double (4607182418800017408 : UInt64)), (.double uR)]))
  refine own_back ?_ (fun t k => XS.dmulS X7.here hx rfl (v := (FP.dmul uR (4607182418800017408 : UInt64))) (hb hby d11_75) rfl hn.1 rfl k)
  show own_Go p e below PO (T7.setTop (mkF m 76 #[.val (.ref aT), .val (.int pA), .val (.double uR), .second, .val (.int (0 : Int32))] [(.double (FP.dmul uR (4607182418800017408 : UInt64)))]))
  refine own_back ?_ (fun t k => XS.dconst1 X7.here hx rfl (v := (4607182418800017408 : UInt64)) (hb hby d11_76) (by decide +kernel) k)
  show own_Go p e below PO (T7.setTop (mkF m 77 #[.val (.ref aT), .val (.int pA), .val (.double uR), .second, .val (.int (0 : Int32))] [(.double (4607182418800017408 : UInt64)), (.double (FP.dmul uR (4607182418800017408 : UInt64)))]))
  refine own_back ?_ (fun t k => XS.dloadN X7.here hx rfl (hb hby d11_77) rfl k)
  show own_Go p e below PO (T7.setTop (mkF m 78 #[.val (.ref aT), .val (.int pA), .val (.double uR), .second, .val (.int (0 : Int32))] [(.double uR), (.double (4607182418800017408 : UInt64)), (.double (FP.dmul uR (4607182418800017408 : UInt64)))]))
  refine own_back ?_ (fun t k => XS.dsubS X7.here hx rfl (v := (FP.dsub (4607182418800017408 : UInt64) uR)) (hb hby d11_78) rfl hn.2.1 rfl k)
  show own_Go p e below PO (T7.setTop (mkF m 79 #[.val (.ref aT), .val (.int pA), .val (.double uR), .second, .val (.int (0 : Int32))] [(.double (FP.dsub (4607182418800017408 : UInt64) uR)), (.double (FP.dmul uR (4607182418800017408 : UInt64)))]))
  refine own_back ?_ (fun t k => XS.aloadN X7.here hx rfl (hb hby d11_79) rfl rfl k)
  show own_Go p e below PO (T7.setTop (mkF m 80 #[.val (.ref aT), .val (.int pA), .val (.double uR), .second, .val (.int (0 : Int32))] [(.ref aT), (.double (FP.dsub (4607182418800017408 : UInt64) uR)), (.double (FP.dmul uR (4607182418800017408 : UInt64)))]))
  obtain ⟨T8, X8, e8, st8⟩ := getF X7 hx hZ hown (host := "") (Or.inl (hw _ (List.mem_of_getElem? (i := 33) rfl))) Via.refl e7 FF (g := (mkF m 80 #[.val (.ref aT), .val (.int pA), .val (.double uR), .second, .val (.int (0 : Int32))] [(.ref aT), (.double (FP.dsub (4607182418800017408 : UInt64) uR)), (.double (FP.dmul uR (4607182418800017408 : UInt64)))])) rfl rfl (hb hby d11_80)
  refine own_back ?_ st8
  show own_Go p e below PO (T8.setTop (mkF m 83 #[.val (.ref aT), .val (.int pA), .val (.double uR), .second, .val (.int (0 : Int32))] [(.ref aF), (.double (FP.dsub (4607182418800017408 : UInt64) uR)), (.double (FP.dmul uR (4607182418800017408 : UInt64)))]))
  refine own_back ?_ (fun t k => XS.iload X8.here hx rfl (hb hby d11_83) rfl k)
  show own_Go p e below PO (T8.setTop (mkF m 85 #[.val (.ref aT), .val (.int pA), .val (.double uR), .second, .val (.int (0 : Int32))] [(.int (0 : Int32)), (.ref aF), (.double (FP.dsub (4607182418800017408 : UInt64) uR)), (.double (FP.dmul uR (4607182418800017408 : UInt64)))]))
  refine own_back ?_ (own_ldD X8 hx hZ e8 V_F (j := (0 : Int32)) (v := (.double (4607182418800017408 : UInt64))) ⟨by decide, by decide⟩ rfl (g := (mkF m 85 #[.val (.ref aT), .val (.int pA), .val (.double uR), .second, .val (.int (0 : Int32))] [(.int (0 : Int32)), (.ref aF), (.double (FP.dsub (4607182418800017408 : UInt64) uR)), (.double (FP.dmul uR (4607182418800017408 : UInt64)))])) rfl rfl (hb hby d11_85))
  show own_Go p e below PO (T8.setTop (mkF m 86 #[.val (.ref aT), .val (.int pA), .val (.double uR), .second, .val (.int (0 : Int32))] [(.double (4607182418800017408 : UInt64)), (.double (FP.dsub (4607182418800017408 : UInt64) uR)), (.double (FP.dmul uR (4607182418800017408 : UInt64)))]))
  refine own_back ?_ (fun t k => XS.dmulS X8.here hx rfl (v := (FP.dmul (FP.dsub (4607182418800017408 : UInt64) uR) (4607182418800017408 : UInt64))) (hb hby d11_86) rfl hn.2.2.1 rfl k)
  show own_Go p e below PO (T8.setTop (mkF m 87 #[.val (.ref aT), .val (.int pA), .val (.double uR), .second, .val (.int (0 : Int32))] [(.double (FP.dmul (FP.dsub (4607182418800017408 : UInt64) uR) (4607182418800017408 : UInt64))), (.double (FP.dmul uR (4607182418800017408 : UInt64)))]))
  refine own_back ?_ (fun t k => XS.daddS X8.here hx rfl (v := (FP.dadd (FP.dmul uR (4607182418800017408 : UInt64)) (FP.dmul (FP.dsub (4607182418800017408 : UInt64) uR) (4607182418800017408 : UInt64)))) (hb hby d11_87) rfl hn.2.2.2 rfl k)
  show own_Go p e below PO (T8.setTop (mkF m 88 #[.val (.ref aT), .val (.int pA), .val (.double uR), .second, .val (.int (0 : Int32))] [(.double (FP.dadd (FP.dmul uR (4607182418800017408 : UInt64)) (FP.dmul (FP.dsub (4607182418800017408 : UInt64) uR) (4607182418800017408 : UInt64))))]))
  refine own_retD X8 hx (rest := []) Bd.returns (hb hby d11_88) e8 (Bd.notSynchronized) ?_ (by decide) (by decide)
  exact ⟨rfl, N3, rfl⟩
theorem ef_rmLast_2 (m : MethodId) (x0 : Addr) (x1 : Addr) (x2 : Addr) : entryFrame m #[(.ref x0), (.ref x1), (.ref x2)] 4 = mkF m 0 #[.val (.ref x0), .val (.ref x1), .val (.ref x2), .unset] [] := by first | (simp [entryFrame, mkF, argsToLocals, Value.category]; done) | rfl
def Q_rmLast_2 (h0 : Heap) (n0 : Nat) (v : Option Value) (h : Heap) (L : List Loc) : Prop := v = none ∧ Fr n0 L ∧ h = h0
set_option maxRecDepth 65536 in
set_option maxHeartbeats 40000000 in
theorem rmLast_2 (l : Launch) (Z : State) (a0 : Array Value) (hw : ∀ d ∈ tables_1, d.before a0 Z = true) (ws : List Jvm.Cond) (aT : Addr) (aS : Addr) (aA : Addr) (kA : ClassId) (y0 : UInt64) (h0 : Heap) (n0 : Nat) (Z0 : n0 ≤ h0.size) (V_A : Arv Z h0 aA kA .double (2 : Int32) [(.double y0), (.double (4607182418800017408 : UInt64))] (.double (0 : UInt64))) :
    MetFree l (⟨"com/example/overcap/overcap/model/MortalityTable", "checkLastRate", "(Ljava/lang/String;[D)V"⟩ : MethodName) (head1 (Jvm.Cond.code (⟨"com/example/overcap/overcap/model/MortalityTable", "checkLastRate", "(Ljava/lang/String;[D)V"⟩ : MethodName) prog_79_method_8_code 4 none :: ws) ({ frames := 0, cells := 0, slots := 0, locals := 0 } : Room)) (fun a U => a = #[(.ref aT), (.ref aS), (.ref aA)] ∧ Z.Warmed39 U.vm ∧ U.heap = h0) (fun _ _ _ _ _ => True) (fun _ U o U' => ∃ v L, o = .returned v ∧ Q_rmLast_2 h0 n0 v U'.heap L ∧ FrameEnd U o U' L ({ frames := 0, cells := 0, slots := 0, locals := 0 } : Room).cells ({ frames := 0, cells := 0, slots := 0, locals := 0 } : Room).slots) := by
  refine MetFree.of_bodySF (plainFor_of_name pn_0) hisR ?_
  intro p e s m args below meth c s₁ Bd hml0 hP hK
  obtain ⟨rfl, hZ, hh⟩ := hP
  have hx := Bd.exec
  have hby := Bd.bytes
  have hml : c.maxLocals = 4 := hml0
  have hown : s.vm.findClass "com/example/overcap/overcap/model/MortalityTable" = some m.cls := findClass_of_methodNamed Bd.named
  have hnm := (name_of_methodNamed Bd.named Bd.method).1
  have X0 : Stand p l e ({ frames := 0, cells := 0, slots := 0, locals := 0 } : Room) s m #[(.ref aT), (.ref aS), (.ref aA)] below meth c s₁ [] 0 0 := Stand.of_body Bd
  have e0 : s₁.heap = h0 := by rw [← hh, Bd.state]; rfl
  have N0 := Fr.nil n0
  let PO : Outcome → State → Prop := own_PO s (Q_rmLast_2 h0 n0) 0 0
  show own_Go p e below PO (s₁.setTop (entryFrame m #[(.ref aT), (.ref aS), (.ref aA)] 4))
  rw [ef_rmLast_2]
  show own_Go p e below PO (s₁.setTop (mkF m 0 #[.val (.ref aT), .val (.ref aS), .val (.ref aA), .unset] []))
  refine own_back ?_ (fun t k => XS.aloadN X0.here hx rfl (hb hby d8_0) rfl rfl k)
  show own_Go p e below PO (s₁.setTop (mkF m 1 #[.val (.ref aT), .val (.ref aS), .val (.ref aA), .unset] [(.ref aA)]))
  refine own_back ?_ (fun t k => XS.aloadN X0.here hx rfl (hb hby d8_1) rfl rfl k)
  show own_Go p e below PO (s₁.setTop (mkF m 2 #[.val (.ref aT), .val (.ref aS), .val (.ref aA), .unset] [(.ref aA), (.ref aA)]))
  refine own_back ?_ (own_len X0 hx hZ e0 V_A (g := (mkF m 2 #[.val (.ref aT), .val (.ref aS), .val (.ref aA), .unset] [(.ref aA), (.ref aA)])) rfl rfl (hb hby d8_2))
  show own_Go p e below PO (s₁.setTop (mkF m 3 #[.val (.ref aT), .val (.ref aS), .val (.ref aA), .unset] [(.int (2 : Int32)), (.ref aA)]))
  refine own_back ?_ (fun t k => XS.iconst X0.here hx rfl (hb hby d8_3) k)
  show own_Go p e below PO (s₁.setTop (mkF m 4 #[.val (.ref aT), .val (.ref aS), .val (.ref aA), .unset] [(.int (1 : Int32)), (.int (2 : Int32)), (.ref aA)]))
  refine own_back ?_ (fun t k => XS.isub X0.here hx rfl (hb hby d8_4) rfl k)
  show own_Go p e below PO (s₁.setTop (mkF m 5 #[.val (.ref aT), .val (.ref aS), .val (.ref aA), .unset] [(.int (1 : Int32)), (.ref aA)]))
  refine own_back ?_ (own_ldD X0 hx hZ e0 V_A (j := (1 : Int32)) (v := (.double (4607182418800017408 : UInt64))) ⟨by decide, by decide⟩ rfl (g := (mkF m 5 #[.val (.ref aT), .val (.ref aS), .val (.ref aA), .unset] [(.int (1 : Int32)), (.ref aA)])) rfl rfl (hb hby d8_5))
  show own_Go p e below PO (s₁.setTop (mkF m 6 #[.val (.ref aT), .val (.ref aS), .val (.ref aA), .unset] [(.double (4607182418800017408 : UInt64))]))
  refine own_back ?_ (fun t k => XS.dconst1 X0.here hx rfl (v := (4607182418800017408 : UInt64)) (hb hby d8_6) (by decide +kernel) k)
  show own_Go p e below PO (s₁.setTop (mkF m 7 #[.val (.ref aT), .val (.ref aS), .val (.ref aA), .unset] [(.double (4607182418800017408 : UInt64)), (.double (4607182418800017408 : UInt64))]))
  refine own_back ?_ (fun t k => XS.dcmpS X0.here hx rfl (v := (0 : Int32)) (hb hby d8_7) rfl (by decide +kernel) k)
  show own_Go p e below PO (s₁.setTop (mkF m 8 #[.val (.ref aT), .val (.ref aS), .val (.ref aA), .unset] [(.int (0 : Int32))]))
  refine own_back ?_ (fun t k => XS.ifYes X0.here hx rfl (pc0 := 8) (pc' := 56) rfl (hb hby d8_8) rfl ((if0 _ _).trans (teq rfl).1) (by decide) (by decide) k)
  show own_Go p e below PO (s₁.setTop (mkF m 56 #[.val (.ref aT), .val (.ref aS), .val (.ref aA), .unset] []))
  refine own_retV X0 hx Bd.returns (hb hby d8_56) e0 (Bd.notSynchronized) ?_ (by decide) (by decide)
  exact ⟨rfl, N0, rfl⟩
theorem ef_rmI_2 (m : MethodId) (x0 : Addr) (x1 : Int32) (x2 : Addr) (x3 : Addr) : entryFrame m #[(.ref x0), (.int x1), (.ref x2), (.ref x3)] 5 = mkF m 0 #[.val (.ref x0), .val (.int x1), .val (.ref x2), .val (.ref x3), .unset] [] := by first | (simp [entryFrame, mkF, argsToLocals, Value.category]; done) | rfl
def Q_rmI_2 (Z : State) (aT : Addr) (pF : Int32) (kM kF : ClassId) (m0 f0 : UInt64) (h0 : Heap) (n0 : Nat) (v : Option Value) (h : Heap) (L : List Loc) : Prop := v = none ∧ Fr n0 L ∧ Keep h0 h [aT] ∧ Fld Z h aT "com/example/overcap/overcap/model/MortalityTable" "firstAge" "I" (.int pF) ∧ ∃ bM bF : Addr, h0.size ≤ bM ∧ h0.size ≤ bF ∧ Fld Z h aT "com/example/overcap/overcap/model/MortalityTable" "maleQx" "[D" (.ref bM) ∧ Fld Z h aT "com/example/overcap/overcap/model/MortalityTable" "femaleQx" "[D" (.ref bF) ∧ Arv Z h bM kM .double (2 : Int32) [(.double m0), (.double (4607182418800017408 : UInt64))] (.double (0 : UInt64)) ∧ Arv Z h bF kF .double (2 : Int32) [(.double f0), (.double (4607182418800017408 : UInt64))] (.double (0 : UInt64))
set_option maxRecDepth 65536 in
set_option maxHeartbeats 40000000 in
theorem rmI_2 (l : Launch) (Z : State) (a0 : Array Value) (hw : ∀ d ∈ tables_1, d.before a0 Z = true) (ws : List Jvm.Cond) (aT : Addr) (pF : Int32) (aM : Addr) (aF : Addr) (kM kF : ClassId) (m0 f0 : UInt64) (h0 : Heap) (n0 : Nat) (Z0 : n0 ≤ h0.size) (E_T : Exa Z h0 aT "com/example/overcap/overcap/model/MortalityTable") (F_firstAge : Fld Z h0 aT "com/example/overcap/overcap/model/MortalityTable" "firstAge" "I" (.int (0 : Int32))) (F_maleQx : Fld Z h0 aT "com/example/overcap/overcap/model/MortalityTable" "maleQx" "[D" .null) (F_femaleQx : Fld Z h0 aT "com/example/overcap/overcap/model/MortalityTable" "femaleQx" "[D" .null) (E_M : Exa Z h0 aM "[D") (V_M : Arv Z h0 aM kM .double (2 : Int32) [(.double m0), (.double (4607182418800017408 : UInt64))] (.double (0 : UInt64))) (E_F : Exa Z h0 aF "[D") (V_F : Arv Z h0 aF kF .double (2 : Int32) [(.double f0), (.double (4607182418800017408 : UInt64))] (.double (0 : UInt64))) (nM : aM ≠ aT) (nF : aF ≠ aT) (gn_aT : n0 ≤ aT) (hA : ¬ pF < 0) (om0 : own_ok m0) (of0 : own_ok f0) :
    MetFree l (⟨"com/example/overcap/overcap/model/MortalityTable", "<init>", "(I[D[D)V"⟩ : MethodName) (head1 (Jvm.Cond.code (⟨"com/example/overcap/overcap/model/MortalityTable", "<init>", "(I[D[D)V"⟩ : MethodName) prog_79_method_1_code 5 none :: ws) ({ frames := 3, cells := 14, slots := 148, locals := 45 } : Room)) (fun a U => a = #[(.ref aT), (.int pF), (.ref aM), (.ref aF)] ∧ Z.Warmed39 U.vm ∧ U.heap = h0) (fun _ _ _ _ _ => True) (fun _ U o U' => ∃ v L, o = .returned v ∧ Q_rmI_2 Z aT pF kM kF m0 f0 h0 n0 v U'.heap L ∧ ReturnedEndW U o U' L ({ frames := 3, cells := 14, slots := 148, locals := 45 } : Room).cells ({ frames := 3, cells := 14, slots := 148, locals := 45 } : Room).slots) := by
  refine MetFree.of_bodySF (plainFor_of_name pn_0) hisR ?_
  intro p e s m args below meth c s₁ Bd hml0 hP hK
  obtain ⟨rfl, hZ, hh⟩ := hP
  have hx := Bd.exec
  have hby := Bd.bytes
  have hml : c.maxLocals = 5 := hml0
  have hown : s.vm.findClass "com/example/overcap/overcap/model/MortalityTable" = some m.cls := findClass_of_methodNamed Bd.named
  have hnm := (name_of_methodNamed Bd.named Bd.method).1
  have X0 : Stand p l e ({ frames := 3, cells := 14, slots := 148, locals := 45 } : Room) s m #[(.ref aT), (.int pF), (.ref aM), (.ref aF)] below meth c s₁ [] 0 0 := Stand.of_body Bd
  have e0 : s₁.heap = h0 := by rw [← hh, Bd.state]; rfl
  have N0 := Fr.nil n0
  have hS0 : s.Since s.vm 0 := (State.WarmedH.refl s).since 0
  let PO : Outcome → State → Prop := own_POW s (Q_rmI_2 Z aT pF kM kF m0 f0 h0 n0) 14 148
  show own_Go p e below PO (s₁.setTop (entryFrame m #[(.ref aT), (.int pF), (.ref aM), (.ref aF)] 5))
  rw [ef_rmI_2]
  show own_Go p e below PO (s₁.setTop (mkF m 0 #[.val (.ref aT), .val (.int pF), .val (.ref aM), .val (.ref aF), .unset] []))
  refine own_back ?_ (fun t k => XS.aloadN X0.here hx rfl (hb hby d2_0) rfl rfl k)
  show own_Go p e below PO (s₁.setTop (mkF m 1 #[.val (.ref aT), .val (.int pF), .val (.ref aM), .val (.ref aF), .unset] [(.ref aT)]))
  obtain ⟨T1, X1, e1, st1⟩ := initO X0 hx hZ hown (hw _ (List.mem_of_getElem? (i := 14) rfl)) (hw _ (List.mem_of_getElem? (i := 15) rfl)) (hw _ (List.mem_of_getElem? (i := 16) rfl)) e0 (g := (mkF m 1 #[.val (.ref aT), .val (.int pF), .val (.ref aM), .val (.ref aF), .unset] [(.ref aT)])) rfl (by rw [hml]; rfl) rfl (hb hby d2_1) (by decide) (W := 0) (by show 2 * 0 + _ ≤ _; exact Nat.le_of_eq rfl) (by decide)
  refine own_back ?_ st1
  show own_Go p e below PO (T1.setTop (mkF m 4 #[.val (.ref aT), .val (.int pF), .val (.ref aM), .val (.ref aF), .unset] []))
  refine own_back ?_ (fun t k => XS.iloadN X1.here hx rfl (hb hby d2_4) rfl k)
  show own_Go p e below PO (T1.setTop (mkF m 5 #[.val (.ref aT), .val (.int pF), .val (.ref aM), .val (.ref aF), .unset] [(.int pF)]))
  obtain ⟨_, _, ⟨T2, L2, k2, n2⟩, -, X2, ⟨Lc2, hQ2, l2, y2, z2⟩, st2⟩ := Jvm.LawKit.callS X1 hx (y := (⟨"com/example/overcap/overcap/model/MortalityTable", "checkFirstAge", "(I)V"⟩ : MethodName)) hown (mvT hZ (hw _ (List.mem_of_getElem? (i := 17) rfl))) (mvT hZ (hw _ (List.mem_of_getElem? (i := 18) rfl))) (mvT hZ (hw _ (List.mem_of_getElem? (i := 10) rfl))) (mvT hZ (hw _ (List.mem_of_getElem? (i := 19) rfl))) (by decide) (backOf (W := 0) (rmFirst l Z a0 hw [] pF  h0 n0 Z0 hA) hZ (hw _ (List.mem_of_getElem? (i := 19) rfl)) (hw _ (List.mem_of_getElem? (i := 10) rfl)) (by decide) (by decide)) (g := (mkF m 5 #[.val (.ref aT), .val (.int pF), .val (.ref aM), .val (.ref aF), .unset] [(.int pF)])) rfl (by rw [hml]; rfl) (argsL := [(.int pF)]) (rest := []) (lenOf pd_2 rfl) rfl (by show 2 * 0 + _ ≤ _; exact Nat.le_of_eq rfl) (hb hby d2_5) (fun _ _ => ⟨rfl, e1, (by decide : 0 + 0 ≤ _), (by decide : 0 + 0 ≤ _)⟩)
  dsimp only [Pt.U, Pt.locs, Pt.cells, Pt.slots] at X2 l2 y2 z2 st2 hQ2
  subst l2 y2 z2
  obtain ⟨rfl, N2q, e2⟩ := hQ2
  have N2 := Fr.app N0 N2q
  refine own_back ?_ st2
  show own_Go p e below PO (T2.setTop (mkF m 8 #[.val (.ref aT), .val (.int pF), .val (.ref aM), .val (.ref aF), .unset] []))
  refine own_back ?_ (fun t k => XS.aloadN X2.here hx rfl (hb hby d2_8) rfl rfl k)
  show own_Go p e below PO (T2.setTop (mkF m 9 #[.val (.ref aT), .val (.int pF), .val (.ref aM), .val (.ref aF), .unset] [(.ref aM)]))
  refine own_back ?_ (own_len X2 hx hZ e2 V_M (g := (mkF m 9 #[.val (.ref aT), .val (.int pF), .val (.ref aM), .val (.ref aF), .unset] [(.ref aM)])) rfl rfl (hb hby d2_9))
  show own_Go p e below PO (T2.setTop (mkF m 10 #[.val (.ref aT), .val (.int pF), .val (.ref aM), .val (.ref aF), .unset] [(.int (2 : Int32))]))
  have hd10_3 : ¬ ((2 : Int32) = (0 : Int32)) := (by decide)
  refine own_back ?_ (fun t k => XS.ifYes X2.here hx rfl (pc0 := 10) (pc' := 23) rfl (hb hby d2_10) rfl ((if0 _ _).trans (feq hd10_3).2) (by decide) (by decide) k)
  show own_Go p e below PO (T2.setTop (mkF m 23 #[.val (.ref aT), .val (.int pF), .val (.ref aM), .val (.ref aF), .unset] []))
  refine own_back ?_ (fun t k => XS.aloadN X2.here hx rfl (hb hby d2_23) rfl rfl k)
  show own_Go p e below PO (T2.setTop (mkF m 24 #[.val (.ref aT), .val (.int pF), .val (.ref aM), .val (.ref aF), .unset] [(.ref aM)]))
  refine own_back ?_ (own_len X2 hx hZ e2 V_M (g := (mkF m 24 #[.val (.ref aT), .val (.int pF), .val (.ref aM), .val (.ref aF), .unset] [(.ref aM)])) rfl rfl (hb hby d2_24))
  show own_Go p e below PO (T2.setTop (mkF m 25 #[.val (.ref aT), .val (.int pF), .val (.ref aM), .val (.ref aF), .unset] [(.int (2 : Int32))]))
  refine own_back ?_ (fun t k => XS.aloadN X2.here hx rfl (hb hby d2_25) rfl rfl k)
  show own_Go p e below PO (T2.setTop (mkF m 26 #[.val (.ref aT), .val (.int pF), .val (.ref aM), .val (.ref aF), .unset] [(.ref aF), (.int (2 : Int32))]))
  refine own_back ?_ (own_len X2 hx hZ e2 V_F (g := (mkF m 26 #[.val (.ref aT), .val (.int pF), .val (.ref aM), .val (.ref aF), .unset] [(.ref aF), (.int (2 : Int32))])) rfl rfl (hb hby d2_26))
  show own_Go p e below PO (T2.setTop (mkF m 27 #[.val (.ref aT), .val (.int pF), .val (.ref aM), .val (.ref aF), .unset] [(.int (2 : Int32)), (.int (2 : Int32))]))
  refine own_back ?_ (fun t k => XS.icmpYes X2.here hx rfl (pc0 := 27) (pc' := 67) rfl (hb hby d2_27) rfl (teq rfl).1 (by decide) (by decide) k)
  show own_Go p e below PO (T2.setTop (mkF m 67 #[.val (.ref aT), .val (.int pF), .val (.ref aM), .val (.ref aF), .unset] []))
  refine own_back ?_ (fun t k => XS.aloadN X2.here hx rfl (hb hby d2_67) rfl rfl k)
  show own_Go p e below PO (T2.setTop (mkF m 68 #[.val (.ref aT), .val (.int pF), .val (.ref aM), .val (.ref aF), .unset] [(.ref aT)]))
  refine own_back ?_ (fun t k => XS.iloadN X2.here hx rfl (hb hby d2_68) rfl k)
  show own_Go p e below PO (T2.setTop (mkF m 69 #[.val (.ref aT), .val (.int pF), .val (.ref aM), .val (.ref aF), .unset] [(.int pF), (.ref aT)]))
  obtain ⟨T4, h4, X4, e4, W4, st4⟩ := putF X2 hx hZ hown (host := "") (Or.inl (hw _ (List.mem_of_getElem? (i := 20) rfl))) Via.refl e2 F_firstAge E_T (Or.inr ⟨(hw _ (List.mem_of_getElem? (i := 21) rfl)), rfl, hnm⟩) (hw _ (List.mem_of_getElem? (i := 9) rfl)) (ty := .int) (by decide) rfl rfl (g := (mkF m 69 #[.val (.ref aT), .val (.int pF), .val (.ref aM), .val (.ref aF), .unset] [(.int pF), (.ref aT)])) rfl rfl (hb hby d2_69)
  have Fw4 := F_firstAge.same W4
  have f4_5 := E_T.wr W4
  have f4_6 := F_maleQx.other W4 (Or.inr (slot_ne (Or.inr (hw _ (List.mem_of_getElem? (i := 32) rfl))) (Or.inr (hw _ (List.mem_of_getElem? (i := 21) rfl))) (by decide) (t := (.array .double)) (t' := .int) (by decide) (by decide)))
  have f4_7 := F_femaleQx.other W4 (Or.inr (slot_ne (Or.inr (hw _ (List.mem_of_getElem? (i := 34) rfl))) (Or.inr (hw _ (List.mem_of_getElem? (i := 21) rfl))) (by decide) (t := (.array .double)) (t' := .int) (by decide) (by decide)))
  have K4 : Keep h0 h4 [aT] := (Keep.refl h0 [aT]).wr W4 (Or.inl (by simp))
  have N4 := Fr.snoc X4 N2 gn_aT
  have Zh4 : n0 ≤ h4.size := Nat.le_trans Z0 K4.1
  refine own_back ?_ st4
  show own_Go p e below PO (T4.setTop (mkF m 72 #[.val (.ref aT), .val (.int pF), .val (.ref aM), .val (.ref aF), .unset] []))
  refine own_back ?_ (fun t k => XS.aloadN X4.here hx rfl (hb hby d2_72) rfl rfl k)
  show own_Go p e below PO (T4.setTop (mkF m 73 #[.val (.ref aT), .val (.int pF), .val (.ref aM), .val (.ref aF), .unset] [(.ref aT)]))
  refine own_back ?_ (fun t k => XS.aloadN X4.here hx rfl (hb hby d2_73) rfl rfl k)
  show own_Go p e below PO (T4.setTop (mkF m 74 #[.val (.ref aT), .val (.int pF), .val (.ref aM), .val (.ref aF), .unset] [(.ref aM), (.ref aT)]))
  obtain ⟨T8, h8, X8, e8, E8, A8, Ex8, st8⟩ := cloneH X4 hx hZ hown (hw _ (List.mem_of_getElem? (i := 22) rfl)) (hw _ (List.mem_of_getElem? (i := 23) rfl)) (hw _ (List.mem_of_getElem? (i := 27) rfl)) (hw _ (List.mem_of_getElem? (i := 25) rfl)) (hw _ (List.mem_of_getElem? (i := 26) rfl)) (hw _ (List.mem_of_getElem? (i := 28) rfl)) e4 ((V_M.keep K4 (ninS nM nin0))).arh (E_M.keep K4) (g := (mkF m 74 #[.val (.ref aT), .val (.int pF), .val (.ref aM), .val (.ref aF), .unset] [(.ref aM), (.ref aT)])) rfl (by rw [hml]; rfl) rfl (hb hby d2_74) (by decide) (W := 1) (by show 2 * 0 + _ ≤ _; exact Nat.le_of_eq rfl) (by decide) (cap := 2) (by decide) (by decide) (by decide)
  obtain ⟨b8, g8⟩ : ∃ z, z = h4.size := ⟨_, rfl⟩
  rw [← g8] at A8 Ex8 st8
  have ne_aF_b8 : aF ≠ b8 := Nat.ne_of_lt (Nat.lt_of_lt_of_le (V_F.keep K4 (ninS nF nin0)).lt (Nat.le_of_eq g8.symm))
  have ne_aM_b8 : aM ≠ b8 := Nat.ne_of_lt (Nat.lt_of_lt_of_le (V_M.keep K4 (ninS nM nin0)).lt (Nat.le_of_eq g8.symm))
  have ne_aT_b8 : aT ≠ b8 := Nat.ne_of_lt (Nat.lt_of_lt_of_le f4_5.lt (Nat.le_of_eq g8.symm))
  have sz_b8 : h0.size ≤ b8 := Nat.le_trans K4.1 (Nat.le_of_eq g8.symm)
  have gn_b8 : n0 ≤ b8 := Nat.le_trans Z0 sz_b8
  have f8_9 := f4_5.ext E8
  have f8_10 := Fw4.ext E8
  have f8_11 := f4_6.ext E8
  have f8_12 := f4_7.ext E8
  have K8 : Keep h0 h8 [aT] := (K4).ext E8
  have Zh8 : n0 ≤ h8.size := Nat.le_trans Z0 K8.1
  have V8 : Arv Z h8 b8 kM .double (2 : Int32) [(.double m0), (.double (4607182418800017408 : UInt64))] (.double (0 : UInt64)) := A8
  refine own_back ?_ st8
  show own_Go p e below PO (T8.setTop (mkF m 77 #[.val (.ref aT), .val (.int pF), .val (.ref aM), .val (.ref aF), .unset] [(.ref b8), (.ref aT)]))
  obtain ⟨T13, X13, e13, st13⟩ := castY X8 hx hZ hown (hw _ (List.mem_of_getElem? (i := 29) rfl)) e8 (Ins.self Ex8) (g := (mkF m 77 #[.val (.ref aT), .val (.int pF), .val (.ref aM), .val (.ref aF), .unset] [(.ref b8), (.ref aT)])) rfl rfl (hb hby d2_77)
  refine own_back ?_ st13
  show own_Go p e below PO (T13.setTop (mkF m 80 #[.val (.ref aT), .val (.int pF), .val (.ref aM), .val (.ref aF), .unset] [(.ref b8), (.ref aT)]))
  obtain ⟨T14, h14, X14, e14, W14, st14⟩ := putF X13 hx hZ hown (host := "") (Or.inl (hw _ (List.mem_of_getElem? (i := 31) rfl))) Via.refl e13 f8_11 f8_9 (Or.inr ⟨(hw _ (List.mem_of_getElem? (i := 32) rfl)), rfl, hnm⟩) (hw _ (List.mem_of_getElem? (i := 9) rfl)) (ty := (.array .double)) (by decide) rfl rfl (g := (mkF m 80 #[.val (.ref aT), .val (.int pF), .val (.ref aM), .val (.ref aF), .unset] [(.ref b8), (.ref aT)])) rfl rfl (hb hby d2_80)
  have Fw14 := f8_11.same W14
  have f14_15 := f8_9.wr W14
  have f14_16 := f8_10.other W14 (Or.inr (slot_ne (Or.inr (hw _ (List.mem_of_getElem? (i := 21) rfl))) (Or.inr (hw _ (List.mem_of_getElem? (i := 32) rfl))) (by decide) (t := .int) (t' := (.array .double)) (by decide) (by decide)))
  have f14_17 := f8_12.other W14 (Or.inr (slot_ne (Or.inr (hw _ (List.mem_of_getElem? (i := 34) rfl))) (Or.inr (hw _ (List.mem_of_getElem? (i := 32) rfl))) (by decide) (t := (.array .double)) (t' := (.array .double)) (by decide) (by decide)))
  have f14_18 := Ex8.wr W14
  have f14_19 := V8.other W14 (Ne.symm ne_aT_b8)
  have K14 : Keep h0 h14 [aT] := (K8).wr W14 (Or.inl (by simp))
  have N14 := Fr.snoc X14 N4 gn_aT
  have Zh14 : n0 ≤ h14.size := Nat.le_trans Z0 K14.1
  refine own_back ?_ st14
  show own_Go p e below PO (T14.setTop (mkF m 83 #[.val (.ref aT), .val (.int pF), .val (.ref aM), .val (.ref aF), .unset] []))
  refine own_back ?_ (fun t k => XS.aloadN X14.here hx rfl (hb hby d2_83) rfl rfl k)
  show own_Go p e below PO (T14.setTop (mkF m 84 #[.val (.ref aT), .val (.int pF), .val (.ref aM), .val (.ref aF), .unset] [(.ref aT)]))
  refine own_back ?_ (fun t k => XS.aloadN X14.here hx rfl (hb hby d2_84) rfl rfl k)
  show own_Go p e below PO (T14.setTop (mkF m 85 #[.val (.ref aT), .val (.int pF), .val (.ref aM), .val (.ref aF), .unset] [(.ref aF), (.ref aT)]))
  obtain ⟨T20, h20, X20, e20, E20, A20, Ex20, st20⟩ := cloneH X14 hx hZ hown (hw _ (List.mem_of_getElem? (i := 22) rfl)) (hw _ (List.mem_of_getElem? (i := 23) rfl)) (hw _ (List.mem_of_getElem? (i := 27) rfl)) (hw _ (List.mem_of_getElem? (i := 25) rfl)) (hw _ (List.mem_of_getElem? (i := 26) rfl)) (hw _ (List.mem_of_getElem? (i := 28) rfl)) e14 ((V_F.keep K14 (ninS nF nin0))).arh (E_F.keep K14) (g := (mkF m 85 #[.val (.ref aT), .val (.int pF), .val (.ref aM), .val (.ref aF), .unset] [(.ref aF), (.ref aT)])) rfl (by rw [hml]; rfl) rfl (hb hby d2_85) (by decide) (W := 1) (by show 2 * 0 + _ ≤ _; exact Nat.le_of_eq rfl) (by decide) (cap := 2) (by decide) (by decide) (by decide)
  obtain ⟨b20, g20⟩ : ∃ z, z = h14.size := ⟨_, rfl⟩
  rw [← g20] at A20 Ex20 st20
  have ne_aF_b20 : aF ≠ b20 := Nat.ne_of_lt (Nat.lt_of_lt_of_le (V_F.keep K14 (ninS nF nin0)).lt (Nat.le_of_eq g20.symm))
  have ne_aM_b20 : aM ≠ b20 := Nat.ne_of_lt (Nat.lt_of_lt_of_le (V_M.keep K14 (ninS nM nin0)).lt (Nat.le_of_eq g20.symm))
  have ne_aT_b20 : aT ≠ b20 := Nat.ne_of_lt (Nat.lt_of_lt_of_le f14_15.lt (Nat.le_of_eq g20.symm))
  have ne_b8_b20 : b8 ≠ b20 := Nat.ne_of_lt (Nat.lt_of_lt_of_le f14_18.lt (Nat.le_of_eq g20.symm))
  have sz_b20 : h0.size ≤ b20 := Nat.le_trans K14.1 (Nat.le_of_eq g20.symm)
  have gn_b20 : n0 ≤ b20 := Nat.le_trans Z0 sz_b20
  have f20_21 := f14_15.ext E20
  have f20_22 := f14_16.ext E20
  have f20_23 := Fw14.ext E20
  have f20_24 := f14_17.ext E20
  have f20_25 := f14_18.ext E20
  have f20_26 := f14_19.ext E20
  have K20 : Keep h0 h20 [aT] := (K14).ext E20
  have Zh20 : n0 ≤ h20.size := Nat.le_trans Z0 K20.1
  have V20 : Arv Z h20 b20 kF .double (2 : Int32) [(.double f0), (.double (4607182418800017408 : UInt64))] (.double (0 : UInt64)) := A20
  refine own_back ?_ st20
  show own_Go p e below PO (T20.setTop (mkF m 88 #[.val (.ref aT), .val (.int pF), .val (.ref aM), .val (.ref aF), .unset] [(.ref b20), (.ref aT)]))
  obtain ⟨T27, X27, e27, st27⟩ := castY X20 hx hZ hown (hw _ (List.mem_of_getElem? (i := 29) rfl)) e20 (Ins.self Ex20) (g := (mkF m 88 #[.val (.ref aT), .val (.int pF), .val (.ref aM), .val (.ref aF), .unset] [(.ref b20), (.ref aT)])) rfl rfl (hb hby d2_88)
  refine own_back ?_ st27
  show own_Go p e below PO (T27.setTop (mkF m 91 #[.val (.ref aT), .val (.int pF), .val (.ref aM), .val (.ref aF), .unset] [(.ref b20), (.ref aT)]))
  obtain ⟨T28, h28, X28, e28, W28, st28⟩ := putF X27 hx hZ hown (host := "") (Or.inl (hw _ (List.mem_of_getElem? (i := 33) rfl))) Via.refl e27 f20_24 f20_21 (Or.inr ⟨(hw _ (List.mem_of_getElem? (i := 34) rfl)), rfl, hnm⟩) (hw _ (List.mem_of_getElem? (i := 9) rfl)) (ty := (.array .double)) (by decide) rfl rfl (g := (mkF m 91 #[.val (.ref aT), .val (.int pF), .val (.ref aM), .val (.ref aF), .unset] [(.ref b20), (.ref aT)])) rfl rfl (hb hby d2_91)
  have Fw28 := f20_24.same W28
  have f28_29 := f20_21.wr W28
  have f28_30 := f20_22.other W28 (Or.inr (slot_ne (Or.inr (hw _ (List.mem_of_getElem? (i := 21) rfl))) (Or.inr (hw _ (List.mem_of_getElem? (i := 34) rfl))) (by decide) (t := .int) (t' := (.array .double)) (by decide) (by decide)))
  have f28_31 := f20_23.other W28 (Or.inr (slot_ne (Or.inr (hw _ (List.mem_of_getElem? (i := 32) rfl))) (Or.inr (hw _ (List.mem_of_getElem? (i := 34) rfl))) (by decide) (t := (.array .double)) (t' := (.array .double)) (by decide) (by decide)))
  have f28_32 := f20_25.wr W28
  have f28_33 := f20_26.other W28 (Ne.symm ne_aT_b8)
  have f28_34 := Ex20.wr W28
  have f28_35 := V20.other W28 (Ne.symm ne_aT_b20)
  have K28 : Keep h0 h28 [aT] := (K20).wr W28 (Or.inl (by simp))
  have N28 := Fr.snoc X28 N14 gn_aT
  have Zh28 : n0 ≤ h28.size := Nat.le_trans Z0 K28.1
  refine own_back ?_ st28
  show own_Go p e below PO (T28.setTop (mkF m 94 #[.val (.ref aT), .val (.int pF), .val (.ref aM), .val (.ref aF), .unset] []))
  refine own_back ?_ (fun t k => XS.iconst X28.here hx rfl (hb hby d2_94) k)
  show own_Go p e below PO (T28.setTop (mkF m 95 #[.val (.ref aT), .val (.int pF), .val (.ref aM), .val (.ref aF), .unset] [(.int (0 : Int32))]))
  refine own_back ?_ (fun t k => XS.istore X28.here hx rfl (hb hby d2_95) rfl (l' := #[.val (.ref aT), .val (.int pF), .val (.ref aM), .val (.ref aF), .val (.int (0 : Int32))]) rfl k)
  show own_Go p e below PO (T28.setTop (mkF m 97 #[.val (.ref aT), .val (.int pF), .val (.ref aM), .val (.ref aF), .val (.int (0 : Int32))] []))
  refine own_back ?_ (fun t k => XS.iload X28.here hx rfl (hb hby d2_97) rfl k)
  show own_Go p e below PO (T28.setTop (mkF m 99 #[.val (.ref aT), .val (.int pF), .val (.ref aM), .val (.ref aF), .val (.int (0 : Int32))] [(.int (0 : Int32))]))
  refine own_back ?_ (fun t k => XS.aloadN X28.here hx rfl (hb hby d2_99) rfl rfl k)
  show own_Go p e below PO (T28.setTop (mkF m 100 #[.val (.ref aT), .val (.int pF), .val (.ref aM), .val (.ref aF), .val (.int (0 : Int32))] [(.ref aT), (.int (0 : Int32))]))
  obtain ⟨T36, X36, e36, st36⟩ := getF X28 hx hZ hown (host := "") (Or.inl (hw _ (List.mem_of_getElem? (i := 31) rfl))) Via.refl e28 f28_31 (g := (mkF m 100 #[.val (.ref aT), .val (.int pF), .val (.ref aM), .val (.ref aF), .val (.int (0 : Int32))] [(.ref aT), (.int (0 : Int32))])) rfl rfl (hb hby d2_100)
  refine own_back ?_ st36
  show own_Go p e below PO (T36.setTop (mkF m 103 #[.val (.ref aT), .val (.int pF), .val (.ref aM), .val (.ref aF), .val (.int (0 : Int32))] [(.ref b8), (.int (0 : Int32))]))
  refine own_back ?_ (own_len X36 hx hZ e36 f28_33 (g := (mkF m 103 #[.val (.ref aT), .val (.int pF), .val (.ref aM), .val (.ref aF), .val (.int (0 : Int32))] [(.ref b8), (.int (0 : Int32))])) rfl rfl (hb hby d2_103))
  show own_Go p e below PO (T36.setTop (mkF m 104 #[.val (.ref aT), .val (.int pF), .val (.ref aM), .val (.ref aF), .val (.int (0 : Int32))] [(.int (2 : Int32)), (.int (0 : Int32))]))
  have hd104_37 : (0 : Int32) < (2 : Int32) := (by decide)
  refine own_back ?_ (fun t k => XS.icmpNo X36.here hx rfl (hb hby d2_104) rfl (tlt hd104_37).2.1 k)
  show own_Go p e below PO (T36.setTop (mkF m 107 #[.val (.ref aT), .val (.int pF), .val (.ref aM), .val (.ref aF), .val (.int (0 : Int32))] []))
  refine own_back ?_ (fun t k => XS.iloadN X36.here hx rfl (hb hby d2_107) rfl k)
  show own_Go p e below PO (T36.setTop (mkF m 108 #[.val (.ref aT), .val (.int pF), .val (.ref aM), .val (.ref aF), .val (.int (0 : Int32))] [(.int pF)]))
  refine own_back ?_ (fun t k => XS.iload X36.here hx rfl (hb hby d2_108) rfl k)
  show own_Go p e below PO (T36.setTop (mkF m 110 #[.val (.ref aT), .val (.int pF), .val (.ref aM), .val (.ref aF), .val (.int (0 : Int32))] [(.int (0 : Int32)), (.int pF)]))
  refine own_back ?_ (fun t k => XS.iadd X36.here hx rfl (hb hby d2_110) rfl k)
  show own_Go p e below PO (T36.setTop (mkF m 111 #[.val (.ref aT), .val (.int pF), .val (.ref aM), .val (.ref aF), .val (.int (0 : Int32))] [(.int (pF + (0 : Int32)))]))
  refine own_back ?_ (fun t k => XS.aloadN X36.here hx rfl (hb hby d2_111) rfl rfl k)
  show own_Go p e below PO (T36.setTop (mkF m 112 #[.val (.ref aT), .val (.int pF), .val (.ref aM), .val (.ref aF), .val (.int (0 : Int32))] [(.ref aT), (.int (pF + (0 : Int32)))]))
  obtain ⟨T38, X38, e38, st38⟩ := getF X36 hx hZ hown (host := "") (Or.inl (hw _ (List.mem_of_getElem? (i := 31) rfl))) Via.refl e36 f28_31 (g := (mkF m 112 #[.val (.ref aT), .val (.int pF), .val (.ref aM), .val (.ref aF), .val (.int (0 : Int32))] [(.ref aT), (.int (pF + (0 : Int32)))])) rfl rfl (hb hby d2_112)
  refine own_back ?_ st38
  show own_Go p e below PO (T38.setTop (mkF m 115 #[.val (.ref aT), .val (.int pF), .val (.ref aM), .val (.ref aF), .val (.int (0 : Int32))] [(.ref b8), (.int (pF + (0 : Int32)))]))
  refine own_back ?_ (fun t k => XS.iload X38.here hx rfl (hb hby d2_115) rfl k)
  show own_Go p e below PO (T38.setTop (mkF m 117 #[.val (.ref aT), .val (.int pF), .val (.ref aM), .val (.ref aF), .val (.int (0 : Int32))] [(.int (0 : Int32)), (.ref b8), (.int (pF + (0 : Int32)))]))
  refine own_back ?_ (own_ldD X38 hx hZ e38 f28_33 (j := (0 : Int32)) (v := (.double m0)) ⟨by decide, by decide⟩ rfl (g := (mkF m 117 #[.val (.ref aT), .val (.int pF), .val (.ref aM), .val (.ref aF), .val (.int (0 : Int32))] [(.int (0 : Int32)), (.ref b8), (.int (pF + (0 : Int32)))])) rfl rfl (hb hby d2_117))
  show own_Go p e below PO (T38.setTop (mkF m 118 #[.val (.ref aT), .val (.int pF), .val (.ref aM), .val (.ref aF), .val (.int (0 : Int32))] [(.double m0), (.int (pF + (0 : Int32)))]))
  refine own_back ?_ (fun t k => XS.aloadN X38.here hx rfl (hb hby d2_118) rfl rfl k)
  show own_Go p e below PO (T38.setTop (mkF m 119 #[.val (.ref aT), .val (.int pF), .val (.ref aM), .val (.ref aF), .val (.int (0 : Int32))] [(.ref aT), (.double m0), (.int (pF + (0 : Int32)))]))
  obtain ⟨T39, X39, e39, st39⟩ := getF X38 hx hZ hown (host := "") (Or.inl (hw _ (List.mem_of_getElem? (i := 33) rfl))) Via.refl e38 Fw28 (g := (mkF m 119 #[.val (.ref aT), .val (.int pF), .val (.ref aM), .val (.ref aF), .val (.int (0 : Int32))] [(.ref aT), (.double m0), (.int (pF + (0 : Int32)))])) rfl rfl (hb hby d2_119)
  refine own_back ?_ st39
  show own_Go p e below PO (T39.setTop (mkF m 122 #[.val (.ref aT), .val (.int pF), .val (.ref aM), .val (.ref aF), .val (.int (0 : Int32))] [(.ref b20), (.double m0), (.int (pF + (0 : Int32)))]))
  refine own_back ?_ (fun t k => XS.iload X39.here hx rfl (hb hby d2_122) rfl k)
  show own_Go p e below PO (T39.setTop (mkF m 124 #[.val (.ref aT), .val (.int pF), .val (.ref aM), .val (.ref aF), .val (.int (0 : Int32))] [(.int (0 : Int32)), (.ref b20), (.double m0), (.int (pF + (0 : Int32)))]))
  refine own_back ?_ (own_ldD X39 hx hZ e39 f28_35 (j := (0 : Int32)) (v := (.double f0)) ⟨by decide, by decide⟩ rfl (g := (mkF m 124 #[.val (.ref aT), .val (.int pF), .val (.ref aM), .val (.ref aF), .val (.int (0 : Int32))] [(.int (0 : Int32)), (.ref b20), (.double m0), (.int (pF + (0 : Int32)))])) rfl rfl (hb hby d2_124))
  show own_Go p e below PO (T39.setTop (mkF m 125 #[.val (.ref aT), .val (.int pF), .val (.ref aM), .val (.ref aF), .val (.int (0 : Int32))] [(.double f0), (.double m0), (.int (pF + (0 : Int32)))]))
  obtain ⟨_, _, ⟨T40, L40, k40, n40⟩, -, X40, hSn40, hgr40, ⟨Lc40, hQ40, l40, y40, z40⟩, st40⟩ := callSS X39 hx (y := (⟨"com/example/overcap/overcap/model/MortalityTable", "checkRates", "(IDD)V"⟩ : MethodName)) hown (mvT hZ (hw _ (List.mem_of_getElem? (i := 35) rfl))) (mvT hZ (hw _ (List.mem_of_getElem? (i := 36) rfl))) (mvT hZ (hw _ (List.mem_of_getElem? (i := 10) rfl))) (mvT hZ (hw _ (List.mem_of_getElem? (i := 37) rfl))) (by decide) (backOfS (W := 0) (rmRates l Z a0 hw [] (pF + (0 : Int32)) m0 f0  h28 n0 Zh28 om0 of0) hZ (hw _ (List.mem_of_getElem? (i := 37) rfl)) (hw _ (List.mem_of_getElem? (i := 10) rfl)) (by decide) (by decide)) (g := (mkF m 125 #[.val (.ref aT), .val (.int pF), .val (.ref aM), .val (.ref aF), .val (.int (0 : Int32))] [(.double f0), (.double m0), (.int (pF + (0 : Int32)))])) rfl (by rw [hml]; rfl) (argsL := [(.int (pF + (0 : Int32))), (.double m0), (.double f0)]) (rest := []) (lenOf pd_3 rfl) rfl (by show 2 * 0 + _ ≤ _; exact Nat.le_of_eq rfl) (hb hby d2_125) (fun _ _ => ⟨rfl, e39, (by decide : 2 + 4 ≤ _), (by decide : 4 + 48 ≤ _)⟩)
  dsimp only [Pt.U, Pt.locs, Pt.cells, Pt.slots] at X40 l40 y40 z40 st40 hQ40
  subst l40 y40 z40
  replace X40 : Stand p l e ({ frames := 3, cells := 14, slots := 148, locals := 45 } : Room) (s.setVm T40.vm) m #[(.ref aT), (.int pF), (.ref aM), (.ref aF)] below meth c T40 _ _ _ := X40
  have hS40 : s.Since T40.vm T40.heap.size := foldS (s := s) (vm0 := s.vm) (T := T39) hS0 (by rw [e39]; exact (Nat.zero_le _)) hSn40 hgr40
  have hZ : Z.Warmed39 (s.setVm T40.vm).vm := State.Warmed39.trans (t := s.setVm s.vm) hZ hSn40.1
  have hown : (s.setVm T40.vm).vm.findClass "com/example/overcap/overcap/model/MortalityTable" = some m.cls := by rw [show (s.setVm T40.vm).vm = T40.vm from rfl, hSn40.1.alike.findClass]; exact hown
  obtain ⟨rfl, N40q, Kc40⟩ := hQ40
  have N40 := Fr.app N28 N40q
  have f40_41 := f28_29.keep Kc40
  have f40_42 := f28_30.keep Kc40 nin0
  have f40_43 := f28_31.keep Kc40 nin0
  have f40_44 := Fw28.keep Kc40 nin0
  have f40_45 := f28_32.keep Kc40
  have f40_46 := f28_33.keep Kc40 nin0
  have f40_47 := f28_34.keep Kc40
  have f40_48 := f28_35.keep Kc40 nin0
  have K40 : Keep h0 T40.heap [aT] := (K28).trans Kc40 all0
  have Zh40 : n0 ≤ T40.heap.size := Nat.le_trans Z0 K40.1
  refine own_back ?_ (fun t k => st40.trans k)
  show own_Go p e below PO (T40.setTop (mkF m 128 #[.val (.ref aT), .val (.int pF), .val (.ref aM), .val (.ref aF), .val (.int (0 : Int32))] []))
  refine own_back ?_ (fun t k => XS.iinc X40.here hx rfl (hb hby d2_128) rfl (l' := #[.val (.ref aT), .val (.int pF), .val (.ref aM), .val (.ref aF), .val (.int (1 : Int32))]) rfl k)
  show own_Go p e below PO (T40.setTop (mkF m 131 #[.val (.ref aT), .val (.int pF), .val (.ref aM), .val (.ref aF), .val (.int (1 : Int32))] []))
  refine own_back ?_ (fun t k => XS.goto X40.here hx rfl (pc0 := 131) (pc' := 97) rfl (hb hby d2_131) (by decide) (by decide) k)
  show own_Go p e below PO (T40.setTop (mkF m 97 #[.val (.ref aT), .val (.int pF), .val (.ref aM), .val (.ref aF), .val (.int (1 : Int32))] []))
  refine own_back ?_ (fun t k => XS.iload X40.here hx rfl (hb hby d2_97) rfl k)
  show own_Go p e below PO (T40.setTop (mkF m 99 #[.val (.ref aT), .val (.int pF), .val (.ref aM), .val (.ref aF), .val (.int (1 : Int32))] [(.int (1 : Int32))]))
  refine own_back ?_ (fun t k => XS.aloadN X40.here hx rfl (hb hby d2_99) rfl rfl k)
  show own_Go p e below PO (T40.setTop (mkF m 100 #[.val (.ref aT), .val (.int pF), .val (.ref aM), .val (.ref aF), .val (.int (1 : Int32))] [(.ref aT), (.int (1 : Int32))]))
  obtain ⟨T49, X49, e49, st49⟩ := getF X40 hx hZ hown (host := "") (Or.inl (hw _ (List.mem_of_getElem? (i := 31) rfl))) Via.refl rfl f40_43 (g := (mkF m 100 #[.val (.ref aT), .val (.int pF), .val (.ref aM), .val (.ref aF), .val (.int (1 : Int32))] [(.ref aT), (.int (1 : Int32))])) rfl rfl (hb hby d2_100)
  refine own_back ?_ st49
  show own_Go p e below PO (T49.setTop (mkF m 103 #[.val (.ref aT), .val (.int pF), .val (.ref aM), .val (.ref aF), .val (.int (1 : Int32))] [(.ref b8), (.int (1 : Int32))]))
  refine own_back ?_ (own_len X49 hx hZ e49 f40_46 (g := (mkF m 103 #[.val (.ref aT), .val (.int pF), .val (.ref aM), .val (.ref aF), .val (.int (1 : Int32))] [(.ref b8), (.int (1 : Int32))])) rfl rfl (hb hby d2_103))
  show own_Go p e below PO (T49.setTop (mkF m 104 #[.val (.ref aT), .val (.int pF), .val (.ref aM), .val (.ref aF), .val (.int (1 : Int32))] [(.int (2 : Int32)), (.int (1 : Int32))]))
  have hd104_50 : (1 : Int32) < (2 : Int32) := (by decide)
  refine own_back ?_ (fun t k => XS.icmpNo X49.here hx rfl (hb hby d2_104) rfl (tlt hd104_50).2.1 k)
  show own_Go p e below PO (T49.setTop (mkF m 107 #[.val (.ref aT), .val (.int pF), .val (.ref aM), .val (.ref aF), .val (.int (1 : Int32))] []))
  refine own_back ?_ (fun t k => XS.iloadN X49.here hx rfl (hb hby d2_107) rfl k)
  show own_Go p e below PO (T49.setTop (mkF m 108 #[.val (.ref aT), .val (.int pF), .val (.ref aM), .val (.ref aF), .val (.int (1 : Int32))] [(.int pF)]))
  refine own_back ?_ (fun t k => XS.iload X49.here hx rfl (hb hby d2_108) rfl k)
  show own_Go p e below PO (T49.setTop (mkF m 110 #[.val (.ref aT), .val (.int pF), .val (.ref aM), .val (.ref aF), .val (.int (1 : Int32))] [(.int (1 : Int32)), (.int pF)]))
  refine own_back ?_ (fun t k => XS.iadd X49.here hx rfl (hb hby d2_110) rfl k)
  show own_Go p e below PO (T49.setTop (mkF m 111 #[.val (.ref aT), .val (.int pF), .val (.ref aM), .val (.ref aF), .val (.int (1 : Int32))] [(.int (pF + (1 : Int32)))]))
  refine own_back ?_ (fun t k => XS.aloadN X49.here hx rfl (hb hby d2_111) rfl rfl k)
  show own_Go p e below PO (T49.setTop (mkF m 112 #[.val (.ref aT), .val (.int pF), .val (.ref aM), .val (.ref aF), .val (.int (1 : Int32))] [(.ref aT), (.int (pF + (1 : Int32)))]))
  obtain ⟨T51, X51, e51, st51⟩ := getF X49 hx hZ hown (host := "") (Or.inl (hw _ (List.mem_of_getElem? (i := 31) rfl))) Via.refl e49 f40_43 (g := (mkF m 112 #[.val (.ref aT), .val (.int pF), .val (.ref aM), .val (.ref aF), .val (.int (1 : Int32))] [(.ref aT), (.int (pF + (1 : Int32)))])) rfl rfl (hb hby d2_112)
  refine own_back ?_ st51
  show own_Go p e below PO (T51.setTop (mkF m 115 #[.val (.ref aT), .val (.int pF), .val (.ref aM), .val (.ref aF), .val (.int (1 : Int32))] [(.ref b8), (.int (pF + (1 : Int32)))]))
  refine own_back ?_ (fun t k => XS.iload X51.here hx rfl (hb hby d2_115) rfl k)
  show own_Go p e below PO (T51.setTop (mkF m 117 #[.val (.ref aT), .val (.int pF), .val (.ref aM), .val (.ref aF), .val (.int (1 : Int32))] [(.int (1 : Int32)), (.ref b8), (.int (pF + (1 : Int32)))]))
  refine own_back ?_ (own_ldD X51 hx hZ e51 f40_46 (j := (1 : Int32)) (v := (.double (4607182418800017408 : UInt64))) ⟨by decide, by decide⟩ rfl (g := (mkF m 117 #[.val (.ref aT), .val (.int pF), .val (.ref aM), .val (.ref aF), .val (.int (1 : Int32))] [(.int (1 : Int32)), (.ref b8), (.int (pF + (1 : Int32)))])) rfl rfl (hb hby d2_117))
  show own_Go p e below PO (T51.setTop (mkF m 118 #[.val (.ref aT), .val (.int pF), .val (.ref aM), .val (.ref aF), .val (.int (1 : Int32))] [(.double (4607182418800017408 : UInt64)), (.int (pF + (1 : Int32)))]))
  refine own_back ?_ (fun t k => XS.aloadN X51.here hx rfl (hb hby d2_118) rfl rfl k)
  show own_Go p e below PO (T51.setTop (mkF m 119 #[.val (.ref aT), .val (.int pF), .val (.ref aM), .val (.ref aF), .val (.int (1 : Int32))] [(.ref aT), (.double (4607182418800017408 : UInt64)), (.int (pF + (1 : Int32)))]))
  obtain ⟨T52, X52, e52, st52⟩ := getF X51 hx hZ hown (host := "") (Or.inl (hw _ (List.mem_of_getElem? (i := 33) rfl))) Via.refl e51 f40_44 (g := (mkF m 119 #[.val (.ref aT), .val (.int pF), .val (.ref aM), .val (.ref aF), .val (.int (1 : Int32))] [(.ref aT), (.double (4607182418800017408 : UInt64)), (.int (pF + (1 : Int32)))])) rfl rfl (hb hby d2_119)
  refine own_back ?_ st52
  show own_Go p e below PO (T52.setTop (mkF m 122 #[.val (.ref aT), .val (.int pF), .val (.ref aM), .val (.ref aF), .val (.int (1 : Int32))] [(.ref b20), (.double (4607182418800017408 : UInt64)), (.int (pF + (1 : Int32)))]))
  refine own_back ?_ (fun t k => XS.iload X52.here hx rfl (hb hby d2_122) rfl k)
  show own_Go p e below PO (T52.setTop (mkF m 124 #[.val (.ref aT), .val (.int pF), .val (.ref aM), .val (.ref aF), .val (.int (1 : Int32))] [(.int (1 : Int32)), (.ref b20), (.double (4607182418800017408 : UInt64)), (.int (pF + (1 : Int32)))]))
  refine own_back ?_ (own_ldD X52 hx hZ e52 f40_48 (j := (1 : Int32)) (v := (.double (4607182418800017408 : UInt64))) ⟨by decide, by decide⟩ rfl (g := (mkF m 124 #[.val (.ref aT), .val (.int pF), .val (.ref aM), .val (.ref aF), .val (.int (1 : Int32))] [(.int (1 : Int32)), (.ref b20), (.double (4607182418800017408 : UInt64)), (.int (pF + (1 : Int32)))])) rfl rfl (hb hby d2_124))
  show own_Go p e below PO (T52.setTop (mkF m 125 #[.val (.ref aT), .val (.int pF), .val (.ref aM), .val (.ref aF), .val (.int (1 : Int32))] [(.double (4607182418800017408 : UInt64)), (.double (4607182418800017408 : UInt64)), (.int (pF + (1 : Int32)))]))
  obtain ⟨_, _, ⟨T53, L53, k53, n53⟩, -, X53, hSn53, hgr53, ⟨Lc53, hQ53, l53, y53, z53⟩, st53⟩ := callSS X52 hx (y := (⟨"com/example/overcap/overcap/model/MortalityTable", "checkRates", "(IDD)V"⟩ : MethodName)) hown (mvT hZ (hw _ (List.mem_of_getElem? (i := 35) rfl))) (mvT hZ (hw _ (List.mem_of_getElem? (i := 36) rfl))) (mvT hZ (hw _ (List.mem_of_getElem? (i := 10) rfl))) (mvT hZ (hw _ (List.mem_of_getElem? (i := 37) rfl))) (by decide) (backOfS (W := 0) (rmRates l Z a0 hw [] (pF + (1 : Int32)) (4607182418800017408 : UInt64) (4607182418800017408 : UInt64)  T40.heap n0 Zh40 own_ok1 own_ok1) hZ (hw _ (List.mem_of_getElem? (i := 37) rfl)) (hw _ (List.mem_of_getElem? (i := 10) rfl)) (by decide) (by decide)) (g := (mkF m 125 #[.val (.ref aT), .val (.int pF), .val (.ref aM), .val (.ref aF), .val (.int (1 : Int32))] [(.double (4607182418800017408 : UInt64)), (.double (4607182418800017408 : UInt64)), (.int (pF + (1 : Int32)))])) rfl (by rw [hml]; rfl) (argsL := [(.int (pF + (1 : Int32))), (.double (4607182418800017408 : UInt64)), (.double (4607182418800017408 : UInt64))]) (rest := []) (lenOf pd_3 rfl) rfl (by show 2 * 0 + _ ≤ _; exact Nat.le_of_eq rfl) (hb hby d2_125) (fun _ _ => ⟨rfl, e52, (by decide : 6 + 4 ≤ _), (by decide : 52 + 48 ≤ _)⟩)
  dsimp only [Pt.U, Pt.locs, Pt.cells, Pt.slots] at X53 l53 y53 z53 st53 hQ53
  subst l53 y53 z53
  replace X53 : Stand p l e ({ frames := 3, cells := 14, slots := 148, locals := 45 } : Room) (s.setVm T53.vm) m #[(.ref aT), (.int pF), (.ref aM), (.ref aF)] below meth c T53 _ _ _ := X53
  have hS53 : s.Since T53.vm T53.heap.size := foldS (s := s) (vm0 := T40.vm) (T := T52) hS40 (by rw [e52]; exact (Nat.le_refl _)) hSn53 hgr53
  have hZ : Z.Warmed39 (s.setVm T53.vm).vm := State.Warmed39.trans (t := s.setVm T40.vm) hZ hSn53.1
  have hown : (s.setVm T53.vm).vm.findClass "com/example/overcap/overcap/model/MortalityTable" = some m.cls := by rw [show (s.setVm T53.vm).vm = T53.vm from rfl, hSn53.1.alike.findClass]; exact hown
  obtain ⟨rfl, N53q, Kc53⟩ := hQ53
  have N53 := Fr.app N40 N53q
  have f53_54 := f40_41.keep Kc53
  have f53_55 := f40_42.keep Kc53 nin0
  have f53_56 := f40_43.keep Kc53 nin0
  have f53_57 := f40_44.keep Kc53 nin0
  have f53_58 := f40_45.keep Kc53
  have f53_59 := f40_46.keep Kc53 nin0
  have f53_60 := f40_47.keep Kc53
  have f53_61 := f40_48.keep Kc53 nin0
  have K53 : Keep h0 T53.heap [aT] := (K40).trans Kc53 all0
  have Zh53 : n0 ≤ T53.heap.size := Nat.le_trans Z0 K53.1
  refine own_back ?_ (fun t k => st53.trans k)
  show own_Go p e below PO (T53.setTop (mkF m 128 #[.val (.ref aT), .val (.int pF), .val (.ref aM), .val (.ref aF), .val (.int (1 : Int32))] []))
  refine own_back ?_ (fun t k => XS.iinc X53.here hx rfl (hb hby d2_128) rfl (l' := #[.val (.ref aT), .val (.int pF), .val (.ref aM), .val (.ref aF), .val (.int (2 : Int32))]) rfl k)
  show own_Go p e below PO (T53.setTop (mkF m 131 #[.val (.ref aT), .val (.int pF), .val (.ref aM), .val (.ref aF), .val (.int (2 : Int32))] []))
  refine own_back ?_ (fun t k => XS.goto X53.here hx rfl (pc0 := 131) (pc' := 97) rfl (hb hby d2_131) (by decide) (by decide) k)
  show own_Go p e below PO (T53.setTop (mkF m 97 #[.val (.ref aT), .val (.int pF), .val (.ref aM), .val (.ref aF), .val (.int (2 : Int32))] []))
  refine own_back ?_ (fun t k => XS.iload X53.here hx rfl (hb hby d2_97) rfl k)
  show own_Go p e below PO (T53.setTop (mkF m 99 #[.val (.ref aT), .val (.int pF), .val (.ref aM), .val (.ref aF), .val (.int (2 : Int32))] [(.int (2 : Int32))]))
  refine own_back ?_ (fun t k => XS.aloadN X53.here hx rfl (hb hby d2_99) rfl rfl k)
  show own_Go p e below PO (T53.setTop (mkF m 100 #[.val (.ref aT), .val (.int pF), .val (.ref aM), .val (.ref aF), .val (.int (2 : Int32))] [(.ref aT), (.int (2 : Int32))]))
  obtain ⟨T62, X62, e62, st62⟩ := getF X53 hx hZ hown (host := "") (Or.inl (hw _ (List.mem_of_getElem? (i := 31) rfl))) Via.refl rfl f53_56 (g := (mkF m 100 #[.val (.ref aT), .val (.int pF), .val (.ref aM), .val (.ref aF), .val (.int (2 : Int32))] [(.ref aT), (.int (2 : Int32))])) rfl rfl (hb hby d2_100)
  refine own_back ?_ st62
  show own_Go p e below PO (T62.setTop (mkF m 103 #[.val (.ref aT), .val (.int pF), .val (.ref aM), .val (.ref aF), .val (.int (2 : Int32))] [(.ref b8), (.int (2 : Int32))]))
  refine own_back ?_ (own_len X62 hx hZ e62 f53_59 (g := (mkF m 103 #[.val (.ref aT), .val (.int pF), .val (.ref aM), .val (.ref aF), .val (.int (2 : Int32))] [(.ref b8), (.int (2 : Int32))])) rfl rfl (hb hby d2_103))
  show own_Go p e below PO (T62.setTop (mkF m 104 #[.val (.ref aT), .val (.int pF), .val (.ref aM), .val (.ref aF), .val (.int (2 : Int32))] [(.int (2 : Int32)), (.int (2 : Int32))]))
  refine own_back ?_ (fun t k => XS.icmpYes X62.here hx rfl (pc0 := 104) (pc' := 134) rfl (hb hby d2_104) rfl (flt Int32.lt_irrefl).2.1 (by decide) (by decide) k)
  show own_Go p e below PO (T62.setTop (mkF m 134 #[.val (.ref aT), .val (.int pF), .val (.ref aM), .val (.ref aF), .val (.int (2 : Int32))] []))
  refine own_back ?_ (fun t k => XS.aloadN X62.here hx rfl (hb hby d2_134) rfl rfl k)
  show own_Go p e below PO (T62.setTop (mkF m 135 #[.val (.ref aT), .val (.int pF), .val (.ref aM), .val (.ref aF), .val (.int (2 : Int32))] [(.ref aT)]))
  obtain ⟨aS63, T63, h63, k63, X63, e63, E63, hS63, hk63, hZ, hown, st63⟩ := ldcS (s := s) (vm0 := T53.vm) X62 hx hZ hown (hw _ (List.mem_of_getElem? (i := 38) rfl)) (own_wS hw) e62 hS53 (Nat.le_refl _) (g := (mkF m 135 #[.val (.ref aT), .val (.int pF), .val (.ref aM), .val (.ref aF), .val (.int (2 : Int32))] [(.ref aT)])) rfl (hb hby d2_135) (n := 16) (by decide) (by decide) (by decide) (by decide)
  have f63_64 := f53_54.ext E63
  have f63_65 := f53_55.ext E63
  have f63_66 := f53_56.ext E63
  have f63_67 := f53_57.ext E63
  have f63_68 := f53_58.ext E63
  have f63_69 := f53_59.ext E63
  have f63_70 := f53_60.ext E63
  have f63_71 := f53_61.ext E63
  have K63 : Keep h0 h63 [aT] := (K53).ext E63
  have Zh63 : n0 ≤ h63.size := Nat.le_trans Z0 K63.1
  refine own_back ?_ st63
  show own_Go p e below PO (T63.setTop (mkF m 137 #[.val (.ref aT), .val (.int pF), .val (.ref aM), .val (.ref aF), .val (.int (2 : Int32))] [(.ref aS63), (.ref aT)]))
  refine own_back ?_ (fun t k => XS.aloadN X63.here hx rfl (hb hby d2_137) rfl rfl k)
  show own_Go p e below PO (T63.setTop (mkF m 138 #[.val (.ref aT), .val (.int pF), .val (.ref aM), .val (.ref aF), .val (.int (2 : Int32))] [(.ref aT), (.ref aS63), (.ref aT)]))
  obtain ⟨T72, X72, e72, st72⟩ := getF X63 hx hZ hown (host := "") (Or.inl (hw _ (List.mem_of_getElem? (i := 31) rfl))) Via.refl e63 f63_66 (g := (mkF m 138 #[.val (.ref aT), .val (.int pF), .val (.ref aM), .val (.ref aF), .val (.int (2 : Int32))] [(.ref aT), (.ref aS63), (.ref aT)])) rfl rfl (hb hby d2_138)
  refine own_back ?_ st72
  show own_Go p e below PO (T72.setTop (mkF m 141 #[.val (.ref aT), .val (.int pF), .val (.ref aM), .val (.ref aF), .val (.int (2 : Int32))] [(.ref b8), (.ref aS63), (.ref aT)]))
  obtain ⟨cq73, q73, q73'⟩ := f63_64.cell
  obtain ⟨_, _, ⟨T73, L73, k73, n73⟩, -, X73, ⟨Lc73, hQ73, l73, y73, z73⟩, st73⟩ := X72.privateBack hx (y := (⟨"com/example/overcap/overcap/model/MortalityTable", "checkLastRate", "(Ljava/lang/String;[D)V"⟩ : MethodName)) hown (mvT hZ (hw _ (List.mem_of_getElem? (i := 53) rfl))) (mvT hZ (hw _ (List.mem_of_getElem? (i := 54) rfl))) (own_selpriv (args' := #[]) (mvT hZ (hw _ (List.mem_of_getElem? (i := 60) rfl))) (Cond.privateMethod_at (mvP hZ (hw _ (List.mem_of_getElem? (i := 55) rfl)) (args := #[]))) (mvT hZ (hw _ (List.mem_of_getElem? (i := 54) rfl))) (by decide)) (Cond.privateMethod_at (mvP hZ (hw _ (List.mem_of_getElem? (i := 55) rfl)) (args := #[]))) (mvT hZ (hw _ (List.mem_of_getElem? (i := 56) rfl))) (by decide) (backOf (W := 0) (rmLast_2 l Z a0 hw [] aT aS63 b8 kM m0 h63 n0 Zh63 f63_69) hZ (hw _ (List.mem_of_getElem? (i := 56) rfl)) (hw _ (List.mem_of_getElem? (i := 10) rfl)) (by decide) (by decide)) (g := (mkF m 141 #[.val (.ref aT), .val (.int pF), .val (.ref aM), .val (.ref aF), .val (.int (2 : Int32))] [(.ref b8), (.ref aS63), (.ref aT)])) rfl (by rw [hml]; rfl) (Steps.refl _) (a := aT) (by rw [e72]; exact q73) q73' (argsL := [(.ref aS63), (.ref b8)]) (rest := []) (lenOf pd_4 rfl) rfl (by show 2 * 0 + _ ≤ _; exact Nat.le_of_eq rfl) (hb hby d2_141) (fun _ _ => ⟨rfl, e72, (by decide : 12 + 0 ≤ _), (by decide : 120 + 0 ≤ _)⟩)
  dsimp only [Pt.U, Pt.locs, Pt.cells, Pt.slots] at X73 l73 y73 z73 st73 hQ73
  subst l73 y73 z73
  obtain ⟨rfl, N73q, e73⟩ := hQ73
  have N73 := Fr.app N53 N73q
  refine own_back ?_ (fun t k => st73.trans k)
  show own_Go p e below PO (T73.setTop (mkF m 144 #[.val (.ref aT), .val (.int pF), .val (.ref aM), .val (.ref aF), .val (.int (2 : Int32))] []))
  refine own_back ?_ (fun t k => XS.aloadN X73.here hx rfl (hb hby d2_144) rfl rfl k)
  show own_Go p e below PO (T73.setTop (mkF m 145 #[.val (.ref aT), .val (.int pF), .val (.ref aM), .val (.ref aF), .val (.int (2 : Int32))] [(.ref aT)]))
  obtain ⟨aS74, T74, h74, k74, X74, e74, E74, hS74, hk74, hZ, hown, st74⟩ := ldcS (s := s) (vm0 := T63.vm) X73 hx hZ hown (hw _ (List.mem_of_getElem? (i := 52) rfl)) (own_wS hw) e73 hS63 hk63 (g := (mkF m 145 #[.val (.ref aT), .val (.int pF), .val (.ref aM), .val (.ref aF), .val (.int (2 : Int32))] [(.ref aT)])) rfl (hb hby d2_145) (n := 24) (by decide) (by decide) (by decide) (by decide)
  have f74_75 := f63_64.ext E74
  have f74_76 := f63_65.ext E74
  have f74_77 := f63_66.ext E74
  have f74_78 := f63_67.ext E74
  have f74_79 := f63_68.ext E74
  have f74_80 := f63_69.ext E74
  have f74_81 := f63_70.ext E74
  have f74_82 := f63_71.ext E74
  have K74 : Keep h0 h74 [aT] := (K63).ext E74
  have Zh74 : n0 ≤ h74.size := Nat.le_trans Z0 K74.1
  refine own_back ?_ st74
  show own_Go p e below PO (T74.setTop (mkF m 147 #[.val (.ref aT), .val (.int pF), .val (.ref aM), .val (.ref aF), .val (.int (2 : Int32))] [(.ref aS74), (.ref aT)]))
  refine own_back ?_ (fun t k => XS.aloadN X74.here hx rfl (hb hby d2_147) rfl rfl k)
  show own_Go p e below PO (T74.setTop (mkF m 148 #[.val (.ref aT), .val (.int pF), .val (.ref aM), .val (.ref aF), .val (.int (2 : Int32))] [(.ref aT), (.ref aS74), (.ref aT)]))
  obtain ⟨T83, X83, e83, st83⟩ := getF X74 hx hZ hown (host := "") (Or.inl (hw _ (List.mem_of_getElem? (i := 33) rfl))) Via.refl e74 f74_78 (g := (mkF m 148 #[.val (.ref aT), .val (.int pF), .val (.ref aM), .val (.ref aF), .val (.int (2 : Int32))] [(.ref aT), (.ref aS74), (.ref aT)])) rfl rfl (hb hby d2_148)
  refine own_back ?_ st83
  show own_Go p e below PO (T83.setTop (mkF m 151 #[.val (.ref aT), .val (.int pF), .val (.ref aM), .val (.ref aF), .val (.int (2 : Int32))] [(.ref b20), (.ref aS74), (.ref aT)]))
  obtain ⟨cq84, q84, q84'⟩ := f74_75.cell
  obtain ⟨_, _, ⟨T84, L84, k84, n84⟩, -, X84, ⟨Lc84, hQ84, l84, y84, z84⟩, st84⟩ := X83.privateBack hx (y := (⟨"com/example/overcap/overcap/model/MortalityTable", "checkLastRate", "(Ljava/lang/String;[D)V"⟩ : MethodName)) hown (mvT hZ (hw _ (List.mem_of_getElem? (i := 53) rfl))) (mvT hZ (hw _ (List.mem_of_getElem? (i := 54) rfl))) (own_selpriv (args' := #[]) (mvT hZ (hw _ (List.mem_of_getElem? (i := 60) rfl))) (Cond.privateMethod_at (mvP hZ (hw _ (List.mem_of_getElem? (i := 55) rfl)) (args := #[]))) (mvT hZ (hw _ (List.mem_of_getElem? (i := 54) rfl))) (by decide)) (Cond.privateMethod_at (mvP hZ (hw _ (List.mem_of_getElem? (i := 55) rfl)) (args := #[]))) (mvT hZ (hw _ (List.mem_of_getElem? (i := 56) rfl))) (by decide) (backOf (W := 0) (rmLast_2 l Z a0 hw [] aT aS74 b20 kF f0 h74 n0 Zh74 f74_82) hZ (hw _ (List.mem_of_getElem? (i := 56) rfl)) (hw _ (List.mem_of_getElem? (i := 10) rfl)) (by decide) (by decide)) (g := (mkF m 151 #[.val (.ref aT), .val (.int pF), .val (.ref aM), .val (.ref aF), .val (.int (2 : Int32))] [(.ref b20), (.ref aS74), (.ref aT)])) rfl (by rw [hml]; rfl) (Steps.refl _) (a := aT) (by rw [e83]; exact q84) q84' (argsL := [(.ref aS74), (.ref b20)]) (rest := []) (lenOf pd_4 rfl) rfl (by show 2 * 0 + _ ≤ _; exact Nat.le_of_eq rfl) (hb hby d2_151) (fun _ _ => ⟨rfl, e83, (by decide : 14 + 0 ≤ _), (by decide : 148 + 0 ≤ _)⟩)
  dsimp only [Pt.U, Pt.locs, Pt.cells, Pt.slots] at X84 l84 y84 z84 st84 hQ84
  subst l84 y84 z84
  obtain ⟨rfl, N84q, e84⟩ := hQ84
  have N84 := Fr.app N73 N84q
  refine own_back ?_ (fun t k => st84.trans k)
  show own_Go p e below PO (T84.setTop (mkF m 154 #[.val (.ref aT), .val (.int pF), .val (.ref aM), .val (.ref aF), .val (.int (2 : Int32))] []))
  refine own_retVW X84 hx Bd.returns (hb hby d2_154) e84 (Bd.notSynchronized) ?_ (by decide) (by decide) (s := s) (vm0 := T74.vm) hS74 hk74
  exact ⟨rfl, N84, K74, f74_76, b8, b20, sz_b8, sz_b20, f74_77, f74_78, f74_80, f74_82⟩
theorem ef_rmLA_2 (m : MethodId) (x0 : Addr) : entryFrame m #[(.ref x0)] 1 = mkF m 0 #[.val (.ref x0)] [] := by first | (simp [entryFrame, mkF, argsToLocals, Value.category]; done) | rfl
def Q_rmLA_2 (pF : Int32) (h0 : Heap) (n0 : Nat) (v : Option Value) (h : Heap) (L : List Loc) : Prop := v = some (.int ((pF + (2 : Int32)) - (1 : Int32))) ∧ Fr n0 L ∧ h = h0
set_option maxRecDepth 65536 in
set_option maxHeartbeats 40000000 in
theorem rmLA_2 (l : Launch) (Z : State) (a0 : Array Value) (hw : ∀ d ∈ tables_1, d.before a0 Z = true) (ws : List Jvm.Cond) (aT : Addr) (pF : Int32) (aM aF : Addr) (kM kF : ClassId) (m0 f0 : UInt64) (h0 : Heap) (n0 : Nat) (Z0 : n0 ≤ h0.size) (E_T : Exa Z h0 aT "com/example/overcap/overcap/model/MortalityTable") (FA : Fld Z h0 aT "com/example/overcap/overcap/model/MortalityTable" "firstAge" "I" (.int pF)) (FM : Fld Z h0 aT "com/example/overcap/overcap/model/MortalityTable" "maleQx" "[D" (.ref aM)) (FF : Fld Z h0 aT "com/example/overcap/overcap/model/MortalityTable" "femaleQx" "[D" (.ref aF)) (V_M : Arv Z h0 aM kM .double (2 : Int32) [(.double m0), (.double (4607182418800017408 : UInt64))] (.double (0 : UInt64))) (V_F : Arv Z h0 aF kF .double (2 : Int32) [(.double f0), (.double (4607182418800017408 : UInt64))] (.double (0 : UInt64))) :
    MetFree l (⟨"com/example/overcap/overcap/model/MortalityTable", "getLastAge", "()I"⟩ : MethodName) (head1 (Jvm.Cond.code (⟨"com/example/overcap/overcap/model/MortalityTable", "getLastAge", "()I"⟩ : MethodName) prog_79_method_5_code 1 (some .int) :: ws) ({ frames := 0, cells := 0, slots := 0, locals := 0 } : Room)) (fun a U => a = #[(.ref aT)] ∧ Z.Warmed39 U.vm ∧ U.heap = h0) (fun _ _ _ _ _ => True) (fun _ U o U' => ∃ v L, o = .returned v ∧ Q_rmLA_2 pF h0 n0 v U'.heap L ∧ FrameEnd U o U' L ({ frames := 0, cells := 0, slots := 0, locals := 0 } : Room).cells ({ frames := 0, cells := 0, slots := 0, locals := 0 } : Room).slots) := by
  refine MetFree.of_bodySF (plainFor_of_name pn_0) hisR ?_
  intro p e s m args below meth c s₁ Bd hml0 hP hK
  obtain ⟨rfl, hZ, hh⟩ := hP
  have hx := Bd.exec
  have hby := Bd.bytes
  have hml : c.maxLocals = 1 := hml0
  have hown : s.vm.findClass "com/example/overcap/overcap/model/MortalityTable" = some m.cls := findClass_of_methodNamed Bd.named
  have hnm := (name_of_methodNamed Bd.named Bd.method).1
  have X0 : Stand p l e ({ frames := 0, cells := 0, slots := 0, locals := 0 } : Room) s m #[(.ref aT)] below meth c s₁ [] 0 0 := Stand.of_body Bd
  have e0 : s₁.heap = h0 := by rw [← hh, Bd.state]; rfl
  have N0 := Fr.nil n0
  let PO : Outcome → State → Prop := own_PO s (Q_rmLA_2 pF h0 n0) 0 0
  show own_Go p e below PO (s₁.setTop (entryFrame m #[(.ref aT)] 1))
  rw [ef_rmLA_2]
  show own_Go p e below PO (s₁.setTop (mkF m 0 #[.val (.ref aT)] []))
  refine own_back ?_ (fun t k => XS.aloadN X0.here hx rfl (hb hby d9_0) rfl rfl k)
  show own_Go p e below PO (s₁.setTop (mkF m 1 #[.val (.ref aT)] [(.ref aT)]))
  obtain ⟨T1, X1, e1, st1⟩ := getF X0 hx hZ hown (host := "") (Or.inl (hw _ (List.mem_of_getElem? (i := 20) rfl))) Via.refl e0 FA (g := (mkF m 1 #[.val (.ref aT)] [(.ref aT)])) rfl rfl (hb hby d9_1)
  refine own_back ?_ st1
  show own_Go p e below PO (T1.setTop (mkF m 4 #[.val (.ref aT)] [(.int pF)]))
  refine own_back ?_ (fun t k => XS.aloadN X1.here hx rfl (hb hby d9_4) rfl rfl k)
  show own_Go p e below PO (T1.setTop (mkF m 5 #[.val (.ref aT)] [(.ref aT), (.int pF)]))
  obtain ⟨T2, X2, e2, st2⟩ := getF X1 hx hZ hown (host := "") (Or.inl (hw _ (List.mem_of_getElem? (i := 31) rfl))) Via.refl e1 FM (g := (mkF m 5 #[.val (.ref aT)] [(.ref aT), (.int pF)])) rfl rfl (hb hby d9_5)
  refine own_back ?_ st2
  show own_Go p e below PO (T2.setTop (mkF m 8 #[.val (.ref aT)] [(.ref aM), (.int pF)]))
  refine own_back ?_ (own_len X2 hx hZ e2 V_M (g := (mkF m 8 #[.val (.ref aT)] [(.ref aM), (.int pF)])) rfl rfl (hb hby d9_8))
  show own_Go p e below PO (T2.setTop (mkF m 9 #[.val (.ref aT)] [(.int (2 : Int32)), (.int pF)]))
  refine own_back ?_ (fun t k => XS.iadd X2.here hx rfl (hb hby d9_9) rfl k)
  show own_Go p e below PO (T2.setTop (mkF m 10 #[.val (.ref aT)] [(.int (pF + (2 : Int32)))]))
  refine own_back ?_ (fun t k => XS.iconst X2.here hx rfl (hb hby d9_10) k)
  show own_Go p e below PO (T2.setTop (mkF m 11 #[.val (.ref aT)] [(.int (1 : Int32)), (.int (pF + (2 : Int32)))]))
  refine own_back ?_ (fun t k => XS.isub X2.here hx rfl (hb hby d9_11) rfl k)
  show own_Go p e below PO (T2.setTop (mkF m 12 #[.val (.ref aT)] [(.int ((pF + (2 : Int32)) - (1 : Int32)))]))
  refine own_retI X2 hx (rest := []) Bd.returns (hb hby d9_12) e2 (Bd.notSynchronized) ?_ (by decide) (by decide)
  exact ⟨rfl, N0, rfl⟩
theorem ef_rmQx_2_0 (m : MethodId) (x0 : Addr) (x1 : Int32) (x2 : UInt64) : entryFrame m #[(.ref x0), (.int x1), (.double x2)] 5 = mkF m 0 #[.val (.ref x0), .val (.int x1), .val (.double x2), .second, .unset] [] := by first | (simp [entryFrame, mkF, argsToLocals, Value.category]; done) | rfl
def Q_rmQx_2_0 (uR : UInt64) (m0 f0 : UInt64) (h0 : Heap) (n0 : Nat) (v : Option Value) (h : Heap) (L : List Loc) : Prop := v = some (.double (own_mix uR m0 f0)) ∧ Fr n0 L ∧ h = h0
set_option maxRecDepth 65536 in
set_option maxHeartbeats 40000000 in
theorem rmQx_2_0 (l : Launch) (Z : State) (a0 : Array Value) (hw : ∀ d ∈ tables_1, d.before a0 Z = true) (ws : List Jvm.Cond) (aT : Addr) (pA : Int32) (uR : UInt64) (pF : Int32) (aM aF : Addr) (kM kF : ClassId) (m0 f0 : UInt64) (h0 : Heap) (n0 : Nat) (Z0 : n0 ≤ h0.size) (E_T : Exa Z h0 aT "com/example/overcap/overcap/model/MortalityTable") (FA : Fld Z h0 aT "com/example/overcap/overcap/model/MortalityTable" "firstAge" "I" (.int pF)) (FM : Fld Z h0 aT "com/example/overcap/overcap/model/MortalityTable" "maleQx" "[D" (.ref aM)) (FF : Fld Z h0 aT "com/example/overcap/overcap/model/MortalityTable" "femaleQx" "[D" (.ref aF)) (V_M : Arv Z h0 aM kM .double (2 : Int32) [(.double m0), (.double (4607182418800017408 : UInt64))] (.double (0 : UInt64))) (V_F : Arv Z h0 aF kF .double (2 : Int32) [(.double f0), (.double (4607182418800017408 : UInt64))] (.double (0 : UInt64))) (hlo : ¬ pA < pF) (hhi : ¬ ((pF + (2 : Int32)) - (1 : Int32)) < pA) (hix : pA - pF = (0 : Int32)) (hR : own_ok uR) (hn : own_mixN uR m0 f0) :
    MetFree l (⟨"com/example/overcap/overcap/model/MortalityTable", "getQx", "(ID)D"⟩ : MethodName) (head1 (Jvm.Cond.code (⟨"com/example/overcap/overcap/model/MortalityTable", "getQx", "(ID)D"⟩ : MethodName) prog_79_method_6_code 5 (some .double) :: ws) ({ frames := 1, cells := 0, slots := 0, locals := 13 } : Room)) (fun a U => a = #[(.ref aT), (.int pA), (.double uR)] ∧ Z.Warmed39 U.vm ∧ U.heap = h0) (fun _ _ _ _ _ => True) (fun _ U o U' => ∃ v L, o = .returned v ∧ Q_rmQx_2_0 uR m0 f0 h0 n0 v U'.heap L ∧ FrameEnd U o U' L ({ frames := 1, cells := 0, slots := 0, locals := 13 } : Room).cells ({ frames := 1, cells := 0, slots := 0, locals := 13 } : Room).slots) := by
  refine MetFree.of_bodySF (plainFor_of_name pn_0) hisR ?_
  intro p e s m args below meth c s₁ Bd hml0 hP hK
  obtain ⟨rfl, hZ, hh⟩ := hP
  have hx := Bd.exec
  have hby := Bd.bytes
  have hml : c.maxLocals = 5 := hml0
  have hown : s.vm.findClass "com/example/overcap/overcap/model/MortalityTable" = some m.cls := findClass_of_methodNamed Bd.named
  have hnm := (name_of_methodNamed Bd.named Bd.method).1
  have X0 : Stand p l e ({ frames := 1, cells := 0, slots := 0, locals := 13 } : Room) s m #[(.ref aT), (.int pA), (.double uR)] below meth c s₁ [] 0 0 := Stand.of_body Bd
  have e0 : s₁.heap = h0 := by rw [← hh, Bd.state]; rfl
  have N0 := Fr.nil n0
  let PO : Outcome → State → Prop := own_PO s (Q_rmQx_2_0 uR m0 f0 h0 n0) 0 0
  show own_Go p e below PO (s₁.setTop (entryFrame m #[(.ref aT), (.int pA), (.double uR)] 5))
  rw [ef_rmQx_2_0]
  show own_Go p e below PO (s₁.setTop (mkF m 0 #[.val (.ref aT), .val (.int pA), .val (.double uR), .second, .unset] []))
  refine own_back ?_ (fun t k => XS.iloadN X0.here hx rfl (hb hby d11_0) rfl k)
  show own_Go p e below PO (s₁.setTop (mkF m 1 #[.val (.ref aT), .val (.int pA), .val (.double uR), .second, .unset] [(.int pA)]))
  refine own_back ?_ (fun t k => XS.aloadN X0.here hx rfl (hb hby d11_1) rfl rfl k)
  show own_Go p e below PO (s₁.setTop (mkF m 2 #[.val (.ref aT), .val (.int pA), .val (.double uR), .second, .unset] [(.ref aT), (.int pA)]))
  obtain ⟨T1, X1, e1, st1⟩ := getF X0 hx hZ hown (host := "") (Or.inl (hw _ (List.mem_of_getElem? (i := 20) rfl))) Via.refl e0 FA (g := (mkF m 2 #[.val (.ref aT), .val (.int pA), .val (.double uR), .second, .unset] [(.ref aT), (.int pA)])) rfl rfl (hb hby d11_2)
  refine own_back ?_ st1
  show own_Go p e below PO (T1.setTop (mkF m 5 #[.val (.ref aT), .val (.int pA), .val (.double uR), .second, .unset] [(.int pF), (.int pA)]))
  refine own_back ?_ (fun t k => XS.icmpNo X1.here hx rfl (hb hby d11_5) rfl (flt hlo).1 k)
  show own_Go p e below PO (T1.setTop (mkF m 8 #[.val (.ref aT), .val (.int pA), .val (.double uR), .second, .unset] []))
  refine own_back ?_ (fun t k => XS.iloadN X1.here hx rfl (hb hby d11_8) rfl k)
  show own_Go p e below PO (T1.setTop (mkF m 9 #[.val (.ref aT), .val (.int pA), .val (.double uR), .second, .unset] [(.int pA)]))
  refine own_back ?_ (fun t k => XS.aloadN X1.here hx rfl (hb hby d11_9) rfl rfl k)
  show own_Go p e below PO (T1.setTop (mkF m 10 #[.val (.ref aT), .val (.int pA), .val (.double uR), .second, .unset] [(.ref aT), (.int pA)]))
  obtain ⟨cq2, kq2, q2a, q2b, q2c⟩ := isOf hZ e1 E_T
  obtain ⟨_, _, ⟨T2, L2, k2, n2⟩, -, X2, ⟨Lc2, hQ2, l2, y2, z2⟩, st2⟩ := X1.virtualBack hx (y := (⟨"com/example/overcap/overcap/model/MortalityTable", "getLastAge", "()I"⟩ : MethodName)) (z := (⟨"com/example/overcap/overcap/model/MortalityTable", "getLastAge", "()I"⟩ : MethodName)) hown (mvT hZ (hw _ (List.mem_of_getElem? (i := 72) rfl))) (mvT hZ (hw _ (List.mem_of_getElem? (i := 58) rfl))) (notFace_of_selects (args := #[]) (mvT hZ (hw _ (List.mem_of_getElem? (i := 60) rfl)))) (mvT hZ (hw _ (List.mem_of_getElem? (i := 60) rfl))) (mvT hZ (hw _ (List.mem_of_getElem? (i := 59) rfl))) (by decide) (backOf (W := 1) (rmLA_2 l Z a0 hw [] aT pF aM aF kM kF m0 f0 h0 n0 Z0 E_T FA FM FF V_M V_F) hZ (hw _ (List.mem_of_getElem? (i := 61) rfl)) (hw _ (List.mem_of_getElem? (i := 10) rfl)) (by decide) (by decide)) q2a q2c (g := (mkF m 10 #[.val (.ref aT), .val (.int pA), .val (.double uR), .second, .unset] [(.ref aT), (.int pA)])) rfl (by rw [hml]; rfl) (Steps.refl _) (argsL := []) (rest := [(.int pA)]) (lenOf pd_5 rfl) rfl (by show 2 * 0 + _ ≤ _; exact Nat.le_of_eq rfl) (hb hby d11_10) (fun _ _ => ⟨rfl, e1, (by decide : 0 + 0 ≤ _), (by decide : 0 + 0 ≤ _)⟩)
  dsimp only [Pt.U, Pt.locs, Pt.cells, Pt.slots] at X2 l2 y2 z2 st2 hQ2
  subst l2 y2 z2
  obtain ⟨rfl, N2q, e2⟩ := hQ2
  have N2 := Fr.app N0 N2q
  refine own_back ?_ (fun t k => st2.trans k)
  show own_Go p e below PO (T2.setTop (mkF m 13 #[.val (.ref aT), .val (.int pA), .val (.double uR), .second, .unset] [(.int ((pF + (2 : Int32)) - (1 : Int32))), (.int pA)]))
  refine own_back ?_ (fun t k => XS.icmpYes X2.here hx rfl (pc0 := 13) (pc' := 38) rfl (hb hby d11_13) rfl (flt hhi).2.2.2 (by decide) (by decide) k)
  show own_Go p e below PO (T2.setTop (mkF m 38 #[.val (.ref aT), .val (.int pA), .val (.double uR), .second, .unset] []))
  refine own_back ?_ (fun t k => XS.dloadN X2.here hx rfl (hb hby d11_38) rfl k)
  show own_Go p e below PO (T2.setTop (mkF m 39 #[.val (.ref aT), .val (.int pA), .val (.double uR), .second, .unset] [(.double uR)]))
  obtain ⟨_, _, ⟨T3, L3, k3, n3⟩, -, X3, ⟨Lc3, hQ3, l3, y3, z3⟩, st3⟩ := Jvm.LawKit.callS X2 hx (y := (⟨"com/example/overcap/overcap/model/MortalityTable", "isFromZeroToOne", "(D)Z"⟩ : MethodName)) hown (mvT hZ (hw _ (List.mem_of_getElem? (i := 49) rfl))) (mvT hZ (hw _ (List.mem_of_getElem? (i := 50) rfl))) (mvT hZ (hw _ (List.mem_of_getElem? (i := 10) rfl))) (mvT hZ (hw _ (List.mem_of_getElem? (i := 51) rfl))) (by decide) (backOf (W := 0) (rmIs l Z a0 hw [] uR  h0 n0 Z0 hR) hZ (hw _ (List.mem_of_getElem? (i := 51) rfl)) (hw _ (List.mem_of_getElem? (i := 10) rfl)) (by decide) (by decide)) (g := (mkF m 39 #[.val (.ref aT), .val (.int pA), .val (.double uR), .second, .unset] [(.double uR)])) rfl (by rw [hml]; rfl) (argsL := [(.double uR)]) (rest := []) (lenOf pd_0 rfl) rfl (by show 2 * 0 + _ ≤ _; exact Nat.le_of_eq rfl) (hb hby d11_39) (fun _ _ => ⟨rfl, e2, (by decide : 0 + 0 ≤ _), (by decide : 0 + 0 ≤ _)⟩)
  dsimp only [Pt.U, Pt.locs, Pt.cells, Pt.slots] at X3 l3 y3 z3 st3 hQ3
  subst l3 y3 z3
  obtain ⟨rfl, N3q, e3⟩ := hQ3
  have N3 := Fr.app N2 N3q
  refine own_back ?_ st3
  show own_Go p e below PO (T3.setTop (mkF m 42 #[.val (.ref aT), .val (.int pA), .val (.double uR), .second, .unset] [(.int (1 : Int32))]))
  have hd42_4 : ¬ ((1 : Int32) = (0 : Int32)) := (by decide)
  refine own_back ?_ (fun t k => XS.ifYes X3.here hx rfl (pc0 := 42) (pc' := 59) rfl (hb hby d11_42) rfl ((if0 _ _).trans (feq hd42_4).2) (by decide) (by decide) k)
  show own_Go p e below PO (T3.setTop (mkF m 59 #[.val (.ref aT), .val (.int pA), .val (.double uR), .second, .unset] []))
  refine own_back ?_ (fun t k => XS.iloadN X3.here hx rfl (hb hby d11_59) rfl k)
  show own_Go p e below PO (T3.setTop (mkF m 60 #[.val (.ref aT), .val (.int pA), .val (.double uR), .second, .unset] [(.int pA)]))
  refine own_back ?_ (fun t k => XS.aloadN X3.here hx rfl (hb hby d11_60) rfl rfl k)
  show own_Go p e below PO (T3.setTop (mkF m 61 #[.val (.ref aT), .val (.int pA), .val (.double uR), .second, .unset] [(.ref aT), (.int pA)]))
  obtain ⟨T5, X5, e5, st5⟩ := getF X3 hx hZ hown (host := "") (Or.inl (hw _ (List.mem_of_getElem? (i := 20) rfl))) Via.refl e3 FA (g := (mkF m 61 #[.val (.ref aT), .val (.int pA), .val (.double uR), .second, .unset] [(.ref aT), (.int pA)])) rfl rfl (hb hby d11_61)
  refine own_back ?_ st5
  show own_Go p e below PO (T5.setTop (mkF m 64 #[.val (.ref aT), .val (.int pA), .val (.double uR), .second, .unset] [(.int pF), (.int pA)]))
  refine own_back ?_ (fun t k => XS.isub X5.here hx rfl (hb hby d11_64) rfl k)
  show own_Go p e below PO (T5.setTop (mkF m 65 #[.val (.ref aT), .val (.int pA), .val (.double uR), .second, .unset] [(.int (pA - pF))]))
  refine own_back ?_ (fun t k => XS.istore X5.here hx rfl (hb hby d11_65) rfl (l' := #[.val (.ref aT), .val (.int pA), .val (.double uR), .second, .val (.int (pA - pF))]) rfl k)
  show own_Go p e below PO (T5.setTop (mkF m 67 #[.val (.ref aT), .val (.int pA), .val (.double uR), .second, .val (.int (pA - pF))] []))
  refine own_gen (A := Int32) (pA - pF) (fun v4_6 => own_Go p e below PO (T5.setTop (mkF m 67 #[.val (.ref aT), .val (.int pA), .val (.double uR), .second, .val (.int v4_6)] []))) ?_
  intro v4_6 h_v4_6
  show own_Go p e below PO (T5.setTop (mkF m 67 #[.val (.ref aT), .val (.int pA), .val (.double uR), .second, .val (.int v4_6)] []))
  have q4 : v4_6 = (0 : Int32) := h_v4_6.trans hix
  subst q4
  show own_Go p e below PO (T5.setTop (mkF m 67 #[.val (.ref aT), .val (.int pA), .val (.double uR), .second, .val (.int (0 : Int32))] []))
  refine own_back ?_ (fun t k => XS.dloadN X5.here hx rfl (hb hby d11_67) rfl k)
  show own_Go p e below PO (T5.setTop (mkF m 68 #[.val (.ref aT), .val (.int pA), .val (.double uR), .second, .val (.int (0 : Int32))] [(.double uR)]))
  refine own_back ?_ (fun t k => XS.aloadN X5.here hx rfl (hb hby d11_68) rfl rfl k)
  show own_Go p e below PO (T5.setTop (mkF m 69 #[.val (.ref aT), .val (.int pA), .val (.double uR), .second, .val (.int (0 : Int32))] [(.ref aT), (.double uR)]))
  obtain ⟨T7, X7, e7, st7⟩ := getF X5 hx hZ hown (host := "") (Or.inl (hw _ (List.mem_of_getElem? (i := 31) rfl))) Via.refl e5 FM (g := (mkF m 69 #[.val (.ref aT), .val (.int pA), .val (.double uR), .second, .val (.int (0 : Int32))] [(.ref aT), (.double uR)])) rfl rfl (hb hby d11_69)
  refine own_back ?_ st7
  show own_Go p e below PO (T7.setTop (mkF m 72 #[.val (.ref aT), .val (.int pA), .val (.double uR), .second, .val (.int (0 : Int32))] [(.ref aM), (.double uR)]))
  refine own_back ?_ (fun t k => XS.iload X7.here hx rfl (hb hby d11_72) rfl k)
  show own_Go p e below PO (T7.setTop (mkF m 74 #[.val (.ref aT), .val (.int pA), .val (.double uR), .second, .val (.int (0 : Int32))] [(.int (0 : Int32)), (.ref aM), (.double uR)]))
  refine own_back ?_ (own_ldD X7 hx hZ e7 V_M (j := (0 : Int32)) (v := (.double m0)) ⟨by decide, by decide⟩ rfl (g := (mkF m 74 #[.val (.ref aT), .val (.int pA), .val (.double uR), .second, .val (.int (0 : Int32))] [(.int (0 : Int32)), (.ref aM), (.double uR)])) rfl rfl (hb hby d11_74))
  show own_Go p e below PO (T7.setTop (mkF m 75 #[.val (.ref aT), .val (.int pA), .val (.double uR), .second, .val (.int (0 : Int32))] [(.double m0), (.double uR)]))
  refine own_back ?_ (fun t k => XS.dmulS X7.here hx rfl (v := (FP.dmul uR m0)) (hb hby d11_75) rfl hn.1 rfl k)
  show own_Go p e below PO (T7.setTop (mkF m 76 #[.val (.ref aT), .val (.int pA), .val (.double uR), .second, .val (.int (0 : Int32))] [(.double (FP.dmul uR m0))]))
  refine own_back ?_ (fun t k => XS.dconst1 X7.here hx rfl (v := (4607182418800017408 : UInt64)) (hb hby d11_76) (by decide +kernel) k)
  show own_Go p e below PO (T7.setTop (mkF m 77 #[.val (.ref aT), .val (.int pA), .val (.double uR), .second, .val (.int (0 : Int32))] [(.double (4607182418800017408 : UInt64)), (.double (FP.dmul uR m0))]))
  refine own_back ?_ (fun t k => XS.dloadN X7.here hx rfl (hb hby d11_77) rfl k)
  show own_Go p e below PO (T7.setTop (mkF m 78 #[.val (.ref aT), .val (.int pA), .val (.double uR), .second, .val (.int (0 : Int32))] [(.double uR), (.double (4607182418800017408 : UInt64)), (.double (FP.dmul uR m0))]))
  refine own_back ?_ (fun t k => XS.dsubS X7.here hx rfl (v := (FP.dsub (4607182418800017408 : UInt64) uR)) (hb hby d11_78) rfl hn.2.1 rfl k)
  show own_Go p e below PO (T7.setTop (mkF m 79 #[.val (.ref aT), .val (.int pA), .val (.double uR), .second, .val (.int (0 : Int32))] [(.double (FP.dsub (4607182418800017408 : UInt64) uR)), (.double (FP.dmul uR m0))]))
  refine own_back ?_ (fun t k => XS.aloadN X7.here hx rfl (hb hby d11_79) rfl rfl k)
  show own_Go p e below PO (T7.setTop (mkF m 80 #[.val (.ref aT), .val (.int pA), .val (.double uR), .second, .val (.int (0 : Int32))] [(.ref aT), (.double (FP.dsub (4607182418800017408 : UInt64) uR)), (.double (FP.dmul uR m0))]))
  obtain ⟨T8, X8, e8, st8⟩ := getF X7 hx hZ hown (host := "") (Or.inl (hw _ (List.mem_of_getElem? (i := 33) rfl))) Via.refl e7 FF (g := (mkF m 80 #[.val (.ref aT), .val (.int pA), .val (.double uR), .second, .val (.int (0 : Int32))] [(.ref aT), (.double (FP.dsub (4607182418800017408 : UInt64) uR)), (.double (FP.dmul uR m0))])) rfl rfl (hb hby d11_80)
  refine own_back ?_ st8
  show own_Go p e below PO (T8.setTop (mkF m 83 #[.val (.ref aT), .val (.int pA), .val (.double uR), .second, .val (.int (0 : Int32))] [(.ref aF), (.double (FP.dsub (4607182418800017408 : UInt64) uR)), (.double (FP.dmul uR m0))]))
  refine own_back ?_ (fun t k => XS.iload X8.here hx rfl (hb hby d11_83) rfl k)
  show own_Go p e below PO (T8.setTop (mkF m 85 #[.val (.ref aT), .val (.int pA), .val (.double uR), .second, .val (.int (0 : Int32))] [(.int (0 : Int32)), (.ref aF), (.double (FP.dsub (4607182418800017408 : UInt64) uR)), (.double (FP.dmul uR m0))]))
  refine own_back ?_ (own_ldD X8 hx hZ e8 V_F (j := (0 : Int32)) (v := (.double f0)) ⟨by decide, by decide⟩ rfl (g := (mkF m 85 #[.val (.ref aT), .val (.int pA), .val (.double uR), .second, .val (.int (0 : Int32))] [(.int (0 : Int32)), (.ref aF), (.double (FP.dsub (4607182418800017408 : UInt64) uR)), (.double (FP.dmul uR m0))])) rfl rfl (hb hby d11_85))
  show own_Go p e below PO (T8.setTop (mkF m 86 #[.val (.ref aT), .val (.int pA), .val (.double uR), .second, .val (.int (0 : Int32))] [(.double f0), (.double (FP.dsub (4607182418800017408 : UInt64) uR)), (.double (FP.dmul uR m0))]))
  refine own_back ?_ (fun t k => XS.dmulS X8.here hx rfl (v := (FP.dmul (FP.dsub (4607182418800017408 : UInt64) uR) f0)) (hb hby d11_86) rfl hn.2.2.1 rfl k)
  show own_Go p e below PO (T8.setTop (mkF m 87 #[.val (.ref aT), .val (.int pA), .val (.double uR), .second, .val (.int (0 : Int32))] [(.double (FP.dmul (FP.dsub (4607182418800017408 : UInt64) uR) f0)), (.double (FP.dmul uR m0))]))
  refine own_back ?_ (fun t k => XS.daddS X8.here hx rfl (v := (FP.dadd (FP.dmul uR m0) (FP.dmul (FP.dsub (4607182418800017408 : UInt64) uR) f0))) (hb hby d11_87) rfl hn.2.2.2 rfl k)
  show own_Go p e below PO (T8.setTop (mkF m 88 #[.val (.ref aT), .val (.int pA), .val (.double uR), .second, .val (.int (0 : Int32))] [(.double (FP.dadd (FP.dmul uR m0) (FP.dmul (FP.dsub (4607182418800017408 : UInt64) uR) f0)))]))
  refine own_retD X8 hx (rest := []) Bd.returns (hb hby d11_88) e8 (Bd.notSynchronized) ?_ (by decide) (by decide)
  exact ⟨rfl, N3, rfl⟩
theorem ef_rmQx_2_1 (m : MethodId) (x0 : Addr) (x1 : Int32) (x2 : UInt64) : entryFrame m #[(.ref x0), (.int x1), (.double x2)] 5 = mkF m 0 #[.val (.ref x0), .val (.int x1), .val (.double x2), .second, .unset] [] := by first | (simp [entryFrame, mkF, argsToLocals, Value.category]; done) | rfl
def Q_rmQx_2_1 (uR : UInt64) (m0 f0 : UInt64) (h0 : Heap) (n0 : Nat) (v : Option Value) (h : Heap) (L : List Loc) : Prop := v = some (.double (own_mix uR (4607182418800017408 : UInt64) (4607182418800017408 : UInt64))) ∧ Fr n0 L ∧ h = h0
set_option maxRecDepth 65536 in
set_option maxHeartbeats 40000000 in
theorem rmQx_2_1 (l : Launch) (Z : State) (a0 : Array Value) (hw : ∀ d ∈ tables_1, d.before a0 Z = true) (ws : List Jvm.Cond) (aT : Addr) (pA : Int32) (uR : UInt64) (pF : Int32) (aM aF : Addr) (kM kF : ClassId) (m0 f0 : UInt64) (h0 : Heap) (n0 : Nat) (Z0 : n0 ≤ h0.size) (E_T : Exa Z h0 aT "com/example/overcap/overcap/model/MortalityTable") (FA : Fld Z h0 aT "com/example/overcap/overcap/model/MortalityTable" "firstAge" "I" (.int pF)) (FM : Fld Z h0 aT "com/example/overcap/overcap/model/MortalityTable" "maleQx" "[D" (.ref aM)) (FF : Fld Z h0 aT "com/example/overcap/overcap/model/MortalityTable" "femaleQx" "[D" (.ref aF)) (V_M : Arv Z h0 aM kM .double (2 : Int32) [(.double m0), (.double (4607182418800017408 : UInt64))] (.double (0 : UInt64))) (V_F : Arv Z h0 aF kF .double (2 : Int32) [(.double f0), (.double (4607182418800017408 : UInt64))] (.double (0 : UInt64))) (hlo : ¬ pA < pF) (hhi : ¬ ((pF + (2 : Int32)) - (1 : Int32)) < pA) (hix : pA - pF = (1 : Int32)) (hR : own_ok uR) (hn : own_mixN uR (4607182418800017408 : UInt64) (4607182418800017408 : UInt64)) :
    MetFree l (⟨"com/example/overcap/overcap/model/MortalityTable", "getQx", "(ID)D"⟩ : MethodName) (head1 (Jvm.Cond.code (⟨"com/example/overcap/overcap/model/MortalityTable", "getQx", "(ID)D"⟩ : MethodName) prog_79_method_6_code 5 (some .double) :: ws) ({ frames := 1, cells := 0, slots := 0, locals := 13 } : Room)) (fun a U => a = #[(.ref aT), (.int pA), (.double uR)] ∧ Z.Warmed39 U.vm ∧ U.heap = h0) (fun _ _ _ _ _ => True) (fun _ U o U' => ∃ v L, o = .returned v ∧ Q_rmQx_2_1 uR m0 f0 h0 n0 v U'.heap L ∧ FrameEnd U o U' L ({ frames := 1, cells := 0, slots := 0, locals := 13 } : Room).cells ({ frames := 1, cells := 0, slots := 0, locals := 13 } : Room).slots) := by
  refine MetFree.of_bodySF (plainFor_of_name pn_0) hisR ?_
  intro p e s m args below meth c s₁ Bd hml0 hP hK
  obtain ⟨rfl, hZ, hh⟩ := hP
  have hx := Bd.exec
  have hby := Bd.bytes
  have hml : c.maxLocals = 5 := hml0
  have hown : s.vm.findClass "com/example/overcap/overcap/model/MortalityTable" = some m.cls := findClass_of_methodNamed Bd.named
  have hnm := (name_of_methodNamed Bd.named Bd.method).1
  have X0 : Stand p l e ({ frames := 1, cells := 0, slots := 0, locals := 13 } : Room) s m #[(.ref aT), (.int pA), (.double uR)] below meth c s₁ [] 0 0 := Stand.of_body Bd
  have e0 : s₁.heap = h0 := by rw [← hh, Bd.state]; rfl
  have N0 := Fr.nil n0
  let PO : Outcome → State → Prop := own_PO s (Q_rmQx_2_1 uR m0 f0 h0 n0) 0 0
  show own_Go p e below PO (s₁.setTop (entryFrame m #[(.ref aT), (.int pA), (.double uR)] 5))
  rw [ef_rmQx_2_1]
  show own_Go p e below PO (s₁.setTop (mkF m 0 #[.val (.ref aT), .val (.int pA), .val (.double uR), .second, .unset] []))
  refine own_back ?_ (fun t k => XS.iloadN X0.here hx rfl (hb hby d11_0) rfl k)
  show own_Go p e below PO (s₁.setTop (mkF m 1 #[.val (.ref aT), .val (.int pA), .val (.double uR), .second, .unset] [(.int pA)]))
  refine own_back ?_ (fun t k => XS.aloadN X0.here hx rfl (hb hby d11_1) rfl rfl k)
  show own_Go p e below PO (s₁.setTop (mkF m 2 #[.val (.ref aT), .val (.int pA), .val (.double uR), .second, .unset] [(.ref aT), (.int pA)]))
  obtain ⟨T1, X1, e1, st1⟩ := getF X0 hx hZ hown (host := "") (Or.inl (hw _ (List.mem_of_getElem? (i := 20) rfl))) Via.refl e0 FA (g := (mkF m 2 #[.val (.ref aT), .val (.int pA), .val (.double uR), .second, .unset] [(.ref aT), (.int pA)])) rfl rfl (hb hby d11_2)
  refine own_back ?_ st1
  show own_Go p e below PO (T1.setTop (mkF m 5 #[.val (.ref aT), .val (.int pA), .val (.double uR), .second, .unset] [(.int pF), (.int pA)]))
  refine own_back ?_ (fun t k => XS.icmpNo X1.here hx rfl (hb hby d11_5) rfl (flt hlo).1 k)
  show own_Go p e below PO (T1.setTop (mkF m 8 #[.val (.ref aT), .val (.int pA), .val (.double uR), .second, .unset] []))
  refine own_back ?_ (fun t k => XS.iloadN X1.here hx rfl (hb hby d11_8) rfl k)
  show own_Go p e below PO (T1.setTop (mkF m 9 #[.val (.ref aT), .val (.int pA), .val (.double uR), .second, .unset] [(.int pA)]))
  refine own_back ?_ (fun t k => XS.aloadN X1.here hx rfl (hb hby d11_9) rfl rfl k)
  show own_Go p e below PO (T1.setTop (mkF m 10 #[.val (.ref aT), .val (.int pA), .val (.double uR), .second, .unset] [(.ref aT), (.int pA)]))
  obtain ⟨cq2, kq2, q2a, q2b, q2c⟩ := isOf hZ e1 E_T
  obtain ⟨_, _, ⟨T2, L2, k2, n2⟩, -, X2, ⟨Lc2, hQ2, l2, y2, z2⟩, st2⟩ := X1.virtualBack hx (y := (⟨"com/example/overcap/overcap/model/MortalityTable", "getLastAge", "()I"⟩ : MethodName)) (z := (⟨"com/example/overcap/overcap/model/MortalityTable", "getLastAge", "()I"⟩ : MethodName)) hown (mvT hZ (hw _ (List.mem_of_getElem? (i := 72) rfl))) (mvT hZ (hw _ (List.mem_of_getElem? (i := 58) rfl))) (notFace_of_selects (args := #[]) (mvT hZ (hw _ (List.mem_of_getElem? (i := 60) rfl)))) (mvT hZ (hw _ (List.mem_of_getElem? (i := 60) rfl))) (mvT hZ (hw _ (List.mem_of_getElem? (i := 59) rfl))) (by decide) (backOf (W := 1) (rmLA_2 l Z a0 hw [] aT pF aM aF kM kF m0 f0 h0 n0 Z0 E_T FA FM FF V_M V_F) hZ (hw _ (List.mem_of_getElem? (i := 61) rfl)) (hw _ (List.mem_of_getElem? (i := 10) rfl)) (by decide) (by decide)) q2a q2c (g := (mkF m 10 #[.val (.ref aT), .val (.int pA), .val (.double uR), .second, .unset] [(.ref aT), (.int pA)])) rfl (by rw [hml]; rfl) (Steps.refl _) (argsL := []) (rest := [(.int pA)]) (lenOf pd_5 rfl) rfl (by show 2 * 0 + _ ≤ _; exact Nat.le_of_eq rfl) (hb hby d11_10) (fun _ _ => ⟨rfl, e1, (by decide : 0 + 0 ≤ _), (by decide : 0 + 0 ≤ _)⟩)
  dsimp only [Pt.U, Pt.locs, Pt.cells, Pt.slots] at X2 l2 y2 z2 st2 hQ2
  subst l2 y2 z2
  obtain ⟨rfl, N2q, e2⟩ := hQ2
  have N2 := Fr.app N0 N2q
  refine own_back ?_ (fun t k => st2.trans k)
  show own_Go p e below PO (T2.setTop (mkF m 13 #[.val (.ref aT), .val (.int pA), .val (.double uR), .second, .unset] [(.int ((pF + (2 : Int32)) - (1 : Int32))), (.int pA)]))
  refine own_back ?_ (fun t k => XS.icmpYes X2.here hx rfl (pc0 := 13) (pc' := 38) rfl (hb hby d11_13) rfl (flt hhi).2.2.2 (by decide) (by decide) k)
  show own_Go p e below PO (T2.setTop (mkF m 38 #[.val (.ref aT), .val (.int pA), .val (.double uR), .second, .unset] []))
  refine own_back ?_ (fun t k => XS.dloadN X2.here hx rfl (hb hby d11_38) rfl k)
  show own_Go p e below PO (T2.setTop (mkF m 39 #[.val (.ref aT), .val (.int pA), .val (.double uR), .second, .unset] [(.double uR)]))
  obtain ⟨_, _, ⟨T3, L3, k3, n3⟩, -, X3, ⟨Lc3, hQ3, l3, y3, z3⟩, st3⟩ := Jvm.LawKit.callS X2 hx (y := (⟨"com/example/overcap/overcap/model/MortalityTable", "isFromZeroToOne", "(D)Z"⟩ : MethodName)) hown (mvT hZ (hw _ (List.mem_of_getElem? (i := 49) rfl))) (mvT hZ (hw _ (List.mem_of_getElem? (i := 50) rfl))) (mvT hZ (hw _ (List.mem_of_getElem? (i := 10) rfl))) (mvT hZ (hw _ (List.mem_of_getElem? (i := 51) rfl))) (by decide) (backOf (W := 0) (rmIs l Z a0 hw [] uR  h0 n0 Z0 hR) hZ (hw _ (List.mem_of_getElem? (i := 51) rfl)) (hw _ (List.mem_of_getElem? (i := 10) rfl)) (by decide) (by decide)) (g := (mkF m 39 #[.val (.ref aT), .val (.int pA), .val (.double uR), .second, .unset] [(.double uR)])) rfl (by rw [hml]; rfl) (argsL := [(.double uR)]) (rest := []) (lenOf pd_0 rfl) rfl (by show 2 * 0 + _ ≤ _; exact Nat.le_of_eq rfl) (hb hby d11_39) (fun _ _ => ⟨rfl, e2, (by decide : 0 + 0 ≤ _), (by decide : 0 + 0 ≤ _)⟩)
  dsimp only [Pt.U, Pt.locs, Pt.cells, Pt.slots] at X3 l3 y3 z3 st3 hQ3
  subst l3 y3 z3
  obtain ⟨rfl, N3q, e3⟩ := hQ3
  have N3 := Fr.app N2 N3q
  refine own_back ?_ st3
  show own_Go p e below PO (T3.setTop (mkF m 42 #[.val (.ref aT), .val (.int pA), .val (.double uR), .second, .unset] [(.int (1 : Int32))]))
  have hd42_4 : ¬ ((1 : Int32) = (0 : Int32)) := (by decide)
  refine own_back ?_ (fun t k => XS.ifYes X3.here hx rfl (pc0 := 42) (pc' := 59) rfl (hb hby d11_42) rfl ((if0 _ _).trans (feq hd42_4).2) (by decide) (by decide) k)
  show own_Go p e below PO (T3.setTop (mkF m 59 #[.val (.ref aT), .val (.int pA), .val (.double uR), .second, .unset] []))
  refine own_back ?_ (fun t k => XS.iloadN X3.here hx rfl (hb hby d11_59) rfl k)
  show own_Go p e below PO (T3.setTop (mkF m 60 #[.val (.ref aT), .val (.int pA), .val (.double uR), .second, .unset] [(.int pA)]))
  refine own_back ?_ (fun t k => XS.aloadN X3.here hx rfl (hb hby d11_60) rfl rfl k)
  show own_Go p e below PO (T3.setTop (mkF m 61 #[.val (.ref aT), .val (.int pA), .val (.double uR), .second, .unset] [(.ref aT), (.int pA)]))
  obtain ⟨T5, X5, e5, st5⟩ := getF X3 hx hZ hown (host := "") (Or.inl (hw _ (List.mem_of_getElem? (i := 20) rfl))) Via.refl e3 FA (g := (mkF m 61 #[.val (.ref aT), .val (.int pA), .val (.double uR), .second, .unset] [(.ref aT), (.int pA)])) rfl rfl (hb hby d11_61)
  refine own_back ?_ st5
  show own_Go p e below PO (T5.setTop (mkF m 64 #[.val (.ref aT), .val (.int pA), .val (.double uR), .second, .unset] [(.int pF), (.int pA)]))
  refine own_back ?_ (fun t k => XS.isub X5.here hx rfl (hb hby d11_64) rfl k)
  show own_Go p e below PO (T5.setTop (mkF m 65 #[.val (.ref aT), .val (.int pA), .val (.double uR), .second, .unset] [(.int (pA - pF))]))
  refine own_back ?_ (fun t k => XS.istore X5.here hx rfl (hb hby d11_65) rfl (l' := #[.val (.ref aT), .val (.int pA), .val (.double uR), .second, .val (.int (pA - pF))]) rfl k)
  show own_Go p e below PO (T5.setTop (mkF m 67 #[.val (.ref aT), .val (.int pA), .val (.double uR), .second, .val (.int (pA - pF))] []))
  refine own_gen (A := Int32) (pA - pF) (fun v4_6 => own_Go p e below PO (T5.setTop (mkF m 67 #[.val (.ref aT), .val (.int pA), .val (.double uR), .second, .val (.int v4_6)] []))) ?_
  intro v4_6 h_v4_6
  show own_Go p e below PO (T5.setTop (mkF m 67 #[.val (.ref aT), .val (.int pA), .val (.double uR), .second, .val (.int v4_6)] []))
  have q4 : v4_6 = (1 : Int32) := h_v4_6.trans hix
  subst q4
  show own_Go p e below PO (T5.setTop (mkF m 67 #[.val (.ref aT), .val (.int pA), .val (.double uR), .second, .val (.int (1 : Int32))] []))
  refine own_back ?_ (fun t k => XS.dloadN X5.here hx rfl (hb hby d11_67) rfl k)
  show own_Go p e below PO (T5.setTop (mkF m 68 #[.val (.ref aT), .val (.int pA), .val (.double uR), .second, .val (.int (1 : Int32))] [(.double uR)]))
  refine own_back ?_ (fun t k => XS.aloadN X5.here hx rfl (hb hby d11_68) rfl rfl k)
  show own_Go p e below PO (T5.setTop (mkF m 69 #[.val (.ref aT), .val (.int pA), .val (.double uR), .second, .val (.int (1 : Int32))] [(.ref aT), (.double uR)]))
  obtain ⟨T7, X7, e7, st7⟩ := getF X5 hx hZ hown (host := "") (Or.inl (hw _ (List.mem_of_getElem? (i := 31) rfl))) Via.refl e5 FM (g := (mkF m 69 #[.val (.ref aT), .val (.int pA), .val (.double uR), .second, .val (.int (1 : Int32))] [(.ref aT), (.double uR)])) rfl rfl (hb hby d11_69)
  refine own_back ?_ st7
  show own_Go p e below PO (T7.setTop (mkF m 72 #[.val (.ref aT), .val (.int pA), .val (.double uR), .second, .val (.int (1 : Int32))] [(.ref aM), (.double uR)]))
  refine own_back ?_ (fun t k => XS.iload X7.here hx rfl (hb hby d11_72) rfl k)
  show own_Go p e below PO (T7.setTop (mkF m 74 #[.val (.ref aT), .val (.int pA), .val (.double uR), .second, .val (.int (1 : Int32))] [(.int (1 : Int32)), (.ref aM), (.double uR)]))
  refine own_back ?_ (own_ldD X7 hx hZ e7 V_M (j := (1 : Int32)) (v := (.double (4607182418800017408 : UInt64))) ⟨by decide, by decide⟩ rfl (g := (mkF m 74 #[.val (.ref aT), .val (.int pA), .val (.double uR), .second, .val (.int (1 : Int32))] [(.int (1 : Int32)), (.ref aM), (.double uR)])) rfl rfl (hb hby d11_74))
  show own_Go p e below PO (T7.setTop (mkF m 75 #[.val (.ref aT), .val (.int pA), .val (.double uR), .second, .val (.int (1 : Int32))] [(.double (4607182418800017408 : UInt64)), (.double uR)]))
  refine own_back ?_ (fun t k => XS.dmulS X7.here hx rfl (v := (FP.dmul uR (4607182418800017408 : UInt64))) (hb hby d11_75) rfl hn.1 rfl k)
  show own_Go p e below PO (T7.setTop (mkF m 76 #[.val (.ref aT), .val (.int pA), .val (.double uR), .second, .val (.int (1 : Int32))] [(.double (FP.dmul uR (4607182418800017408 : UInt64)))]))
  refine own_back ?_ (fun t k => XS.dconst1 X7.here hx rfl (v := (4607182418800017408 : UInt64)) (hb hby d11_76) (by decide +kernel) k)
  show own_Go p e below PO (T7.setTop (mkF m 77 #[.val (.ref aT), .val (.int pA), .val (.double uR), .second, .val (.int (1 : Int32))] [(.double (4607182418800017408 : UInt64)), (.double (FP.dmul uR (4607182418800017408 : UInt64)))]))
  refine own_back ?_ (fun t k => XS.dloadN X7.here hx rfl (hb hby d11_77) rfl k)
  show own_Go p e below PO (T7.setTop (mkF m 78 #[.val (.ref aT), .val (.int pA), .val (.double uR), .second, .val (.int (1 : Int32))] [(.double uR), (.double (4607182418800017408 : UInt64)), (.double (FP.dmul uR (4607182418800017408 : UInt64)))]))
  refine own_back ?_ (fun t k => XS.dsubS X7.here hx rfl (v := (FP.dsub (4607182418800017408 : UInt64) uR)) (hb hby d11_78) rfl hn.2.1 rfl k)
  show own_Go p e below PO (T7.setTop (mkF m 79 #[.val (.ref aT), .val (.int pA), .val (.double uR), .second, .val (.int (1 : Int32))] [(.double (FP.dsub (4607182418800017408 : UInt64) uR)), (.double (FP.dmul uR (4607182418800017408 : UInt64)))]))
  refine own_back ?_ (fun t k => XS.aloadN X7.here hx rfl (hb hby d11_79) rfl rfl k)
  show own_Go p e below PO (T7.setTop (mkF m 80 #[.val (.ref aT), .val (.int pA), .val (.double uR), .second, .val (.int (1 : Int32))] [(.ref aT), (.double (FP.dsub (4607182418800017408 : UInt64) uR)), (.double (FP.dmul uR (4607182418800017408 : UInt64)))]))
  obtain ⟨T8, X8, e8, st8⟩ := getF X7 hx hZ hown (host := "") (Or.inl (hw _ (List.mem_of_getElem? (i := 33) rfl))) Via.refl e7 FF (g := (mkF m 80 #[.val (.ref aT), .val (.int pA), .val (.double uR), .second, .val (.int (1 : Int32))] [(.ref aT), (.double (FP.dsub (4607182418800017408 : UInt64) uR)), (.double (FP.dmul uR (4607182418800017408 : UInt64)))])) rfl rfl (hb hby d11_80)
  refine own_back ?_ st8
  show own_Go p e below PO (T8.setTop (mkF m 83 #[.val (.ref aT), .val (.int pA), .val (.double uR), .second, .val (.int (1 : Int32))] [(.ref aF), (.double (FP.dsub (4607182418800017408 : UInt64) uR)), (.double (FP.dmul uR (4607182418800017408 : UInt64)))]))
  refine own_back ?_ (fun t k => XS.iload X8.here hx rfl (hb hby d11_83) rfl k)
  show own_Go p e below PO (T8.setTop (mkF m 85 #[.val (.ref aT), .val (.int pA), .val (.double uR), .second, .val (.int (1 : Int32))] [(.int (1 : Int32)), (.ref aF), (.double (FP.dsub (4607182418800017408 : UInt64) uR)), (.double (FP.dmul uR (4607182418800017408 : UInt64)))]))
  refine own_back ?_ (own_ldD X8 hx hZ e8 V_F (j := (1 : Int32)) (v := (.double (4607182418800017408 : UInt64))) ⟨by decide, by decide⟩ rfl (g := (mkF m 85 #[.val (.ref aT), .val (.int pA), .val (.double uR), .second, .val (.int (1 : Int32))] [(.int (1 : Int32)), (.ref aF), (.double (FP.dsub (4607182418800017408 : UInt64) uR)), (.double (FP.dmul uR (4607182418800017408 : UInt64)))])) rfl rfl (hb hby d11_85))
  show own_Go p e below PO (T8.setTop (mkF m 86 #[.val (.ref aT), .val (.int pA), .val (.double uR), .second, .val (.int (1 : Int32))] [(.double (4607182418800017408 : UInt64)), (.double (FP.dsub (4607182418800017408 : UInt64) uR)), (.double (FP.dmul uR (4607182418800017408 : UInt64)))]))
  refine own_back ?_ (fun t k => XS.dmulS X8.here hx rfl (v := (FP.dmul (FP.dsub (4607182418800017408 : UInt64) uR) (4607182418800017408 : UInt64))) (hb hby d11_86) rfl hn.2.2.1 rfl k)
  show own_Go p e below PO (T8.setTop (mkF m 87 #[.val (.ref aT), .val (.int pA), .val (.double uR), .second, .val (.int (1 : Int32))] [(.double (FP.dmul (FP.dsub (4607182418800017408 : UInt64) uR) (4607182418800017408 : UInt64))), (.double (FP.dmul uR (4607182418800017408 : UInt64)))]))
  refine own_back ?_ (fun t k => XS.daddS X8.here hx rfl (v := (FP.dadd (FP.dmul uR (4607182418800017408 : UInt64)) (FP.dmul (FP.dsub (4607182418800017408 : UInt64) uR) (4607182418800017408 : UInt64)))) (hb hby d11_87) rfl hn.2.2.2 rfl k)
  show own_Go p e below PO (T8.setTop (mkF m 88 #[.val (.ref aT), .val (.int pA), .val (.double uR), .second, .val (.int (1 : Int32))] [(.double (FP.dadd (FP.dmul uR (4607182418800017408 : UInt64)) (FP.dmul (FP.dsub (4607182418800017408 : UInt64) uR) (4607182418800017408 : UInt64))))]))
  refine own_retD X8 hx (rest := []) Bd.returns (hb hby d11_88) e8 (Bd.notSynchronized) ?_ (by decide) (by decide)
  exact ⟨rfl, N3, rfl⟩
theorem ef_rmLast_3 (m : MethodId) (x0 : Addr) (x1 : Addr) (x2 : Addr) : entryFrame m #[(.ref x0), (.ref x1), (.ref x2)] 4 = mkF m 0 #[.val (.ref x0), .val (.ref x1), .val (.ref x2), .unset] [] := by first | (simp [entryFrame, mkF, argsToLocals, Value.category]; done) | rfl
def Q_rmLast_3 (h0 : Heap) (n0 : Nat) (v : Option Value) (h : Heap) (L : List Loc) : Prop := v = none ∧ Fr n0 L ∧ h = h0
set_option maxRecDepth 65536 in
set_option maxHeartbeats 40000000 in
theorem rmLast_3 (l : Launch) (Z : State) (a0 : Array Value) (hw : ∀ d ∈ tables_1, d.before a0 Z = true) (ws : List Jvm.Cond) (aT : Addr) (aS : Addr) (aA : Addr) (kA : ClassId) (y0 y1 : UInt64) (h0 : Heap) (n0 : Nat) (Z0 : n0 ≤ h0.size) (V_A : Arv Z h0 aA kA .double (3 : Int32) [(.double y0), (.double y1), (.double (4607182418800017408 : UInt64))] (.double (0 : UInt64))) :
    MetFree l (⟨"com/example/overcap/overcap/model/MortalityTable", "checkLastRate", "(Ljava/lang/String;[D)V"⟩ : MethodName) (head1 (Jvm.Cond.code (⟨"com/example/overcap/overcap/model/MortalityTable", "checkLastRate", "(Ljava/lang/String;[D)V"⟩ : MethodName) prog_79_method_8_code 4 none :: ws) ({ frames := 0, cells := 0, slots := 0, locals := 0 } : Room)) (fun a U => a = #[(.ref aT), (.ref aS), (.ref aA)] ∧ Z.Warmed39 U.vm ∧ U.heap = h0) (fun _ _ _ _ _ => True) (fun _ U o U' => ∃ v L, o = .returned v ∧ Q_rmLast_3 h0 n0 v U'.heap L ∧ FrameEnd U o U' L ({ frames := 0, cells := 0, slots := 0, locals := 0 } : Room).cells ({ frames := 0, cells := 0, slots := 0, locals := 0 } : Room).slots) := by
  refine MetFree.of_bodySF (plainFor_of_name pn_0) hisR ?_
  intro p e s m args below meth c s₁ Bd hml0 hP hK
  obtain ⟨rfl, hZ, hh⟩ := hP
  have hx := Bd.exec
  have hby := Bd.bytes
  have hml : c.maxLocals = 4 := hml0
  have hown : s.vm.findClass "com/example/overcap/overcap/model/MortalityTable" = some m.cls := findClass_of_methodNamed Bd.named
  have hnm := (name_of_methodNamed Bd.named Bd.method).1
  have X0 : Stand p l e ({ frames := 0, cells := 0, slots := 0, locals := 0 } : Room) s m #[(.ref aT), (.ref aS), (.ref aA)] below meth c s₁ [] 0 0 := Stand.of_body Bd
  have e0 : s₁.heap = h0 := by rw [← hh, Bd.state]; rfl
  have N0 := Fr.nil n0
  let PO : Outcome → State → Prop := own_PO s (Q_rmLast_3 h0 n0) 0 0
  show own_Go p e below PO (s₁.setTop (entryFrame m #[(.ref aT), (.ref aS), (.ref aA)] 4))
  rw [ef_rmLast_3]
  show own_Go p e below PO (s₁.setTop (mkF m 0 #[.val (.ref aT), .val (.ref aS), .val (.ref aA), .unset] []))
  refine own_back ?_ (fun t k => XS.aloadN X0.here hx rfl (hb hby d8_0) rfl rfl k)
  show own_Go p e below PO (s₁.setTop (mkF m 1 #[.val (.ref aT), .val (.ref aS), .val (.ref aA), .unset] [(.ref aA)]))
  refine own_back ?_ (fun t k => XS.aloadN X0.here hx rfl (hb hby d8_1) rfl rfl k)
  show own_Go p e below PO (s₁.setTop (mkF m 2 #[.val (.ref aT), .val (.ref aS), .val (.ref aA), .unset] [(.ref aA), (.ref aA)]))
  refine own_back ?_ (own_len X0 hx hZ e0 V_A (g := (mkF m 2 #[.val (.ref aT), .val (.ref aS), .val (.ref aA), .unset] [(.ref aA), (.ref aA)])) rfl rfl (hb hby d8_2))
  show own_Go p e below PO (s₁.setTop (mkF m 3 #[.val (.ref aT), .val (.ref aS), .val (.ref aA), .unset] [(.int (3 : Int32)), (.ref aA)]))
  refine own_back ?_ (fun t k => XS.iconst X0.here hx rfl (hb hby d8_3) k)
  show own_Go p e below PO (s₁.setTop (mkF m 4 #[.val (.ref aT), .val (.ref aS), .val (.ref aA), .unset] [(.int (1 : Int32)), (.int (3 : Int32)), (.ref aA)]))
  refine own_back ?_ (fun t k => XS.isub X0.here hx rfl (hb hby d8_4) rfl k)
  show own_Go p e below PO (s₁.setTop (mkF m 5 #[.val (.ref aT), .val (.ref aS), .val (.ref aA), .unset] [(.int (2 : Int32)), (.ref aA)]))
  refine own_back ?_ (own_ldD X0 hx hZ e0 V_A (j := (2 : Int32)) (v := (.double (4607182418800017408 : UInt64))) ⟨by decide, by decide⟩ rfl (g := (mkF m 5 #[.val (.ref aT), .val (.ref aS), .val (.ref aA), .unset] [(.int (2 : Int32)), (.ref aA)])) rfl rfl (hb hby d8_5))
  show own_Go p e below PO (s₁.setTop (mkF m 6 #[.val (.ref aT), .val (.ref aS), .val (.ref aA), .unset] [(.double (4607182418800017408 : UInt64))]))
  refine own_back ?_ (fun t k => XS.dconst1 X0.here hx rfl (v := (4607182418800017408 : UInt64)) (hb hby d8_6) (by decide +kernel) k)
  show own_Go p e below PO (s₁.setTop (mkF m 7 #[.val (.ref aT), .val (.ref aS), .val (.ref aA), .unset] [(.double (4607182418800017408 : UInt64)), (.double (4607182418800017408 : UInt64))]))
  refine own_back ?_ (fun t k => XS.dcmpS X0.here hx rfl (v := (0 : Int32)) (hb hby d8_7) rfl (by decide +kernel) k)
  show own_Go p e below PO (s₁.setTop (mkF m 8 #[.val (.ref aT), .val (.ref aS), .val (.ref aA), .unset] [(.int (0 : Int32))]))
  refine own_back ?_ (fun t k => XS.ifYes X0.here hx rfl (pc0 := 8) (pc' := 56) rfl (hb hby d8_8) rfl ((if0 _ _).trans (teq rfl).1) (by decide) (by decide) k)
  show own_Go p e below PO (s₁.setTop (mkF m 56 #[.val (.ref aT), .val (.ref aS), .val (.ref aA), .unset] []))
  refine own_retV X0 hx Bd.returns (hb hby d8_56) e0 (Bd.notSynchronized) ?_ (by decide) (by decide)
  exact ⟨rfl, N0, rfl⟩
theorem ef_rmI_3 (m : MethodId) (x0 : Addr) (x1 : Int32) (x2 : Addr) (x3 : Addr) : entryFrame m #[(.ref x0), (.int x1), (.ref x2), (.ref x3)] 5 = mkF m 0 #[.val (.ref x0), .val (.int x1), .val (.ref x2), .val (.ref x3), .unset] [] := by first | (simp [entryFrame, mkF, argsToLocals, Value.category]; done) | rfl
def Q_rmI_3 (Z : State) (aT : Addr) (pF : Int32) (kM kF : ClassId) (m0 f0 m1 f1 : UInt64) (h0 : Heap) (n0 : Nat) (v : Option Value) (h : Heap) (L : List Loc) : Prop := v = none ∧ Fr n0 L ∧ Keep h0 h [aT] ∧ Fld Z h aT "com/example/overcap/overcap/model/MortalityTable" "firstAge" "I" (.int pF) ∧ ∃ bM bF : Addr, h0.size ≤ bM ∧ h0.size ≤ bF ∧ Fld Z h aT "com/example/overcap/overcap/model/MortalityTable" "maleQx" "[D" (.ref bM) ∧ Fld Z h aT "com/example/overcap/overcap/model/MortalityTable" "femaleQx" "[D" (.ref bF) ∧ Arv Z h bM kM .double (3 : Int32) [(.double m0), (.double m1), (.double (4607182418800017408 : UInt64))] (.double (0 : UInt64)) ∧ Arv Z h bF kF .double (3 : Int32) [(.double f0), (.double f1), (.double (4607182418800017408 : UInt64))] (.double (0 : UInt64))
set_option maxRecDepth 65536 in
set_option maxHeartbeats 40000000 in
theorem rmI_3 (l : Launch) (Z : State) (a0 : Array Value) (hw : ∀ d ∈ tables_1, d.before a0 Z = true) (ws : List Jvm.Cond) (aT : Addr) (pF : Int32) (aM : Addr) (aF : Addr) (kM kF : ClassId) (m0 f0 m1 f1 : UInt64) (h0 : Heap) (n0 : Nat) (Z0 : n0 ≤ h0.size) (E_T : Exa Z h0 aT "com/example/overcap/overcap/model/MortalityTable") (F_firstAge : Fld Z h0 aT "com/example/overcap/overcap/model/MortalityTable" "firstAge" "I" (.int (0 : Int32))) (F_maleQx : Fld Z h0 aT "com/example/overcap/overcap/model/MortalityTable" "maleQx" "[D" .null) (F_femaleQx : Fld Z h0 aT "com/example/overcap/overcap/model/MortalityTable" "femaleQx" "[D" .null) (E_M : Exa Z h0 aM "[D") (V_M : Arv Z h0 aM kM .double (3 : Int32) [(.double m0), (.double m1), (.double (4607182418800017408 : UInt64))] (.double (0 : UInt64))) (E_F : Exa Z h0 aF "[D") (V_F : Arv Z h0 aF kF .double (3 : Int32) [(.double f0), (.double f1), (.double (4607182418800017408 : UInt64))] (.double (0 : UInt64))) (nM : aM ≠ aT) (nF : aF ≠ aT) (gn_aT : n0 ≤ aT) (hA : ¬ pF < 0) (om0 : own_ok m0) (of0 : own_ok f0) (om1 : own_ok m1) (of1 : own_ok f1) :
    MetFree l (⟨"com/example/overcap/overcap/model/MortalityTable", "<init>", "(I[D[D)V"⟩ : MethodName) (head1 (Jvm.Cond.code (⟨"com/example/overcap/overcap/model/MortalityTable", "<init>", "(I[D[D)V"⟩ : MethodName) prog_79_method_1_code 5 none :: ws) ({ frames := 3, cells := 18, slots := 198, locals := 45 } : Room)) (fun a U => a = #[(.ref aT), (.int pF), (.ref aM), (.ref aF)] ∧ Z.Warmed39 U.vm ∧ U.heap = h0) (fun _ _ _ _ _ => True) (fun _ U o U' => ∃ v L, o = .returned v ∧ Q_rmI_3 Z aT pF kM kF m0 f0 m1 f1 h0 n0 v U'.heap L ∧ ReturnedEndW U o U' L ({ frames := 3, cells := 18, slots := 198, locals := 45 } : Room).cells ({ frames := 3, cells := 18, slots := 198, locals := 45 } : Room).slots) := by
  refine MetFree.of_bodySF (plainFor_of_name pn_0) hisR ?_
  intro p e s m args below meth c s₁ Bd hml0 hP hK
  obtain ⟨rfl, hZ, hh⟩ := hP
  have hx := Bd.exec
  have hby := Bd.bytes
  have hml : c.maxLocals = 5 := hml0
  have hown : s.vm.findClass "com/example/overcap/overcap/model/MortalityTable" = some m.cls := findClass_of_methodNamed Bd.named
  have hnm := (name_of_methodNamed Bd.named Bd.method).1
  have X0 : Stand p l e ({ frames := 3, cells := 18, slots := 198, locals := 45 } : Room) s m #[(.ref aT), (.int pF), (.ref aM), (.ref aF)] below meth c s₁ [] 0 0 := Stand.of_body Bd
  have e0 : s₁.heap = h0 := by rw [← hh, Bd.state]; rfl
  have N0 := Fr.nil n0
  have hS0 : s.Since s.vm 0 := (State.WarmedH.refl s).since 0
  let PO : Outcome → State → Prop := own_POW s (Q_rmI_3 Z aT pF kM kF m0 f0 m1 f1 h0 n0) 18 198
  show own_Go p e below PO (s₁.setTop (entryFrame m #[(.ref aT), (.int pF), (.ref aM), (.ref aF)] 5))
  rw [ef_rmI_3]
  show own_Go p e below PO (s₁.setTop (mkF m 0 #[.val (.ref aT), .val (.int pF), .val (.ref aM), .val (.ref aF), .unset] []))
  refine own_back ?_ (fun t k => XS.aloadN X0.here hx rfl (hb hby d2_0) rfl rfl k)
  show own_Go p e below PO (s₁.setTop (mkF m 1 #[.val (.ref aT), .val (.int pF), .val (.ref aM), .val (.ref aF), .unset] [(.ref aT)]))
  obtain ⟨T1, X1, e1, st1⟩ := initO X0 hx hZ hown (hw _ (List.mem_of_getElem? (i := 14) rfl)) (hw _ (List.mem_of_getElem? (i := 15) rfl)) (hw _ (List.mem_of_getElem? (i := 16) rfl)) e0 (g := (mkF m 1 #[.val (.ref aT), .val (.int pF), .val (.ref aM), .val (.ref aF), .unset] [(.ref aT)])) rfl (by rw [hml]; rfl) rfl (hb hby d2_1) (by decide) (W := 0) (by show 2 * 0 + _ ≤ _; exact Nat.le_of_eq rfl) (by decide)
  refine own_back ?_ st1
  show own_Go p e below PO (T1.setTop (mkF m 4 #[.val (.ref aT), .val (.int pF), .val (.ref aM), .val (.ref aF), .unset] []))
  refine own_back ?_ (fun t k => XS.iloadN X1.here hx rfl (hb hby d2_4) rfl k)
  show own_Go p e below PO (T1.setTop (mkF m 5 #[.val (.ref aT), .val (.int pF), .val (.ref aM), .val (.ref aF), .unset] [(.int pF)]))
  obtain ⟨_, _, ⟨T2, L2, k2, n2⟩, -, X2, ⟨Lc2, hQ2, l2, y2, z2⟩, st2⟩ := Jvm.LawKit.callS X1 hx (y := (⟨"com/example/overcap/overcap/model/MortalityTable", "checkFirstAge", "(I)V"⟩ : MethodName)) hown (mvT hZ (hw _ (List.mem_of_getElem? (i := 17) rfl))) (mvT hZ (hw _ (List.mem_of_getElem? (i := 18) rfl))) (mvT hZ (hw _ (List.mem_of_getElem? (i := 10) rfl))) (mvT hZ (hw _ (List.mem_of_getElem? (i := 19) rfl))) (by decide) (backOf (W := 0) (rmFirst l Z a0 hw [] pF  h0 n0 Z0 hA) hZ (hw _ (List.mem_of_getElem? (i := 19) rfl)) (hw _ (List.mem_of_getElem? (i := 10) rfl)) (by decide) (by decide)) (g := (mkF m 5 #[.val (.ref aT), .val (.int pF), .val (.ref aM), .val (.ref aF), .unset] [(.int pF)])) rfl (by rw [hml]; rfl) (argsL := [(.int pF)]) (rest := []) (lenOf pd_2 rfl) rfl (by show 2 * 0 + _ ≤ _; exact Nat.le_of_eq rfl) (hb hby d2_5) (fun _ _ => ⟨rfl, e1, (by decide : 0 + 0 ≤ _), (by decide : 0 + 0 ≤ _)⟩)
  dsimp only [Pt.U, Pt.locs, Pt.cells, Pt.slots] at X2 l2 y2 z2 st2 hQ2
  subst l2 y2 z2
  obtain ⟨rfl, N2q, e2⟩ := hQ2
  have N2 := Fr.app N0 N2q
  refine own_back ?_ st2
  show own_Go p e below PO (T2.setTop (mkF m 8 #[.val (.ref aT), .val (.int pF), .val (.ref aM), .val (.ref aF), .unset] []))
  refine own_back ?_ (fun t k => XS.aloadN X2.here hx rfl (hb hby d2_8) rfl rfl k)
  show own_Go p e below PO (T2.setTop (mkF m 9 #[.val (.ref aT), .val (.int pF), .val (.ref aM), .val (.ref aF), .unset] [(.ref aM)]))
  refine own_back ?_ (own_len X2 hx hZ e2 V_M (g := (mkF m 9 #[.val (.ref aT), .val (.int pF), .val (.ref aM), .val (.ref aF), .unset] [(.ref aM)])) rfl rfl (hb hby d2_9))
  show own_Go p e below PO (T2.setTop (mkF m 10 #[.val (.ref aT), .val (.int pF), .val (.ref aM), .val (.ref aF), .unset] [(.int (3 : Int32))]))
  have hd10_3 : ¬ ((3 : Int32) = (0 : Int32)) := (by decide)
  refine own_back ?_ (fun t k => XS.ifYes X2.here hx rfl (pc0 := 10) (pc' := 23) rfl (hb hby d2_10) rfl ((if0 _ _).trans (feq hd10_3).2) (by decide) (by decide) k)
  show own_Go p e below PO (T2.setTop (mkF m 23 #[.val (.ref aT), .val (.int pF), .val (.ref aM), .val (.ref aF), .unset] []))
  refine own_back ?_ (fun t k => XS.aloadN X2.here hx rfl (hb hby d2_23) rfl rfl k)
  show own_Go p e below PO (T2.setTop (mkF m 24 #[.val (.ref aT), .val (.int pF), .val (.ref aM), .val (.ref aF), .unset] [(.ref aM)]))
  refine own_back ?_ (own_len X2 hx hZ e2 V_M (g := (mkF m 24 #[.val (.ref aT), .val (.int pF), .val (.ref aM), .val (.ref aF), .unset] [(.ref aM)])) rfl rfl (hb hby d2_24))
  show own_Go p e below PO (T2.setTop (mkF m 25 #[.val (.ref aT), .val (.int pF), .val (.ref aM), .val (.ref aF), .unset] [(.int (3 : Int32))]))
  refine own_back ?_ (fun t k => XS.aloadN X2.here hx rfl (hb hby d2_25) rfl rfl k)
  show own_Go p e below PO (T2.setTop (mkF m 26 #[.val (.ref aT), .val (.int pF), .val (.ref aM), .val (.ref aF), .unset] [(.ref aF), (.int (3 : Int32))]))
  refine own_back ?_ (own_len X2 hx hZ e2 V_F (g := (mkF m 26 #[.val (.ref aT), .val (.int pF), .val (.ref aM), .val (.ref aF), .unset] [(.ref aF), (.int (3 : Int32))])) rfl rfl (hb hby d2_26))
  show own_Go p e below PO (T2.setTop (mkF m 27 #[.val (.ref aT), .val (.int pF), .val (.ref aM), .val (.ref aF), .unset] [(.int (3 : Int32)), (.int (3 : Int32))]))
  refine own_back ?_ (fun t k => XS.icmpYes X2.here hx rfl (pc0 := 27) (pc' := 67) rfl (hb hby d2_27) rfl (teq rfl).1 (by decide) (by decide) k)
  show own_Go p e below PO (T2.setTop (mkF m 67 #[.val (.ref aT), .val (.int pF), .val (.ref aM), .val (.ref aF), .unset] []))
  refine own_back ?_ (fun t k => XS.aloadN X2.here hx rfl (hb hby d2_67) rfl rfl k)
  show own_Go p e below PO (T2.setTop (mkF m 68 #[.val (.ref aT), .val (.int pF), .val (.ref aM), .val (.ref aF), .unset] [(.ref aT)]))
  refine own_back ?_ (fun t k => XS.iloadN X2.here hx rfl (hb hby d2_68) rfl k)
  show own_Go p e below PO (T2.setTop (mkF m 69 #[.val (.ref aT), .val (.int pF), .val (.ref aM), .val (.ref aF), .unset] [(.int pF), (.ref aT)]))
  obtain ⟨T4, h4, X4, e4, W4, st4⟩ := putF X2 hx hZ hown (host := "") (Or.inl (hw _ (List.mem_of_getElem? (i := 20) rfl))) Via.refl e2 F_firstAge E_T (Or.inr ⟨(hw _ (List.mem_of_getElem? (i := 21) rfl)), rfl, hnm⟩) (hw _ (List.mem_of_getElem? (i := 9) rfl)) (ty := .int) (by decide) rfl rfl (g := (mkF m 69 #[.val (.ref aT), .val (.int pF), .val (.ref aM), .val (.ref aF), .unset] [(.int pF), (.ref aT)])) rfl rfl (hb hby d2_69)
  have Fw4 := F_firstAge.same W4
  have f4_5 := E_T.wr W4
  have f4_6 := F_maleQx.other W4 (Or.inr (slot_ne (Or.inr (hw _ (List.mem_of_getElem? (i := 32) rfl))) (Or.inr (hw _ (List.mem_of_getElem? (i := 21) rfl))) (by decide) (t := (.array .double)) (t' := .int) (by decide) (by decide)))
  have f4_7 := F_femaleQx.other W4 (Or.inr (slot_ne (Or.inr (hw _ (List.mem_of_getElem? (i := 34) rfl))) (Or.inr (hw _ (List.mem_of_getElem? (i := 21) rfl))) (by decide) (t := (.array .double)) (t' := .int) (by decide) (by decide)))
  have K4 : Keep h0 h4 [aT] := (Keep.refl h0 [aT]).wr W4 (Or.inl (by simp))
  have N4 := Fr.snoc X4 N2 gn_aT
  have Zh4 : n0 ≤ h4.size := Nat.le_trans Z0 K4.1
  refine own_back ?_ st4
  show own_Go p e below PO (T4.setTop (mkF m 72 #[.val (.ref aT), .val (.int pF), .val (.ref aM), .val (.ref aF), .unset] []))
  refine own_back ?_ (fun t k => XS.aloadN X4.here hx rfl (hb hby d2_72) rfl rfl k)
  show own_Go p e below PO (T4.setTop (mkF m 73 #[.val (.ref aT), .val (.int pF), .val (.ref aM), .val (.ref aF), .unset] [(.ref aT)]))
  refine own_back ?_ (fun t k => XS.aloadN X4.here hx rfl (hb hby d2_73) rfl rfl k)
  show own_Go p e below PO (T4.setTop (mkF m 74 #[.val (.ref aT), .val (.int pF), .val (.ref aM), .val (.ref aF), .unset] [(.ref aM), (.ref aT)]))
  obtain ⟨T8, h8, X8, e8, E8, A8, Ex8, st8⟩ := cloneH X4 hx hZ hown (hw _ (List.mem_of_getElem? (i := 22) rfl)) (hw _ (List.mem_of_getElem? (i := 23) rfl)) (hw _ (List.mem_of_getElem? (i := 27) rfl)) (hw _ (List.mem_of_getElem? (i := 25) rfl)) (hw _ (List.mem_of_getElem? (i := 26) rfl)) (hw _ (List.mem_of_getElem? (i := 28) rfl)) e4 ((V_M.keep K4 (ninS nM nin0))).arh (E_M.keep K4) (g := (mkF m 74 #[.val (.ref aT), .val (.int pF), .val (.ref aM), .val (.ref aF), .unset] [(.ref aM), (.ref aT)])) rfl (by rw [hml]; rfl) rfl (hb hby d2_74) (by decide) (W := 1) (by show 2 * 0 + _ ≤ _; exact Nat.le_of_eq rfl) (by decide) (cap := 3) (by decide) (by decide) (by decide)
  obtain ⟨b8, g8⟩ : ∃ z, z = h4.size := ⟨_, rfl⟩
  rw [← g8] at A8 Ex8 st8
  have ne_aF_b8 : aF ≠ b8 := Nat.ne_of_lt (Nat.lt_of_lt_of_le (V_F.keep K4 (ninS nF nin0)).lt (Nat.le_of_eq g8.symm))
  have ne_aM_b8 : aM ≠ b8 := Nat.ne_of_lt (Nat.lt_of_lt_of_le (V_M.keep K4 (ninS nM nin0)).lt (Nat.le_of_eq g8.symm))
  have ne_aT_b8 : aT ≠ b8 := Nat.ne_of_lt (Nat.lt_of_lt_of_le f4_5.lt (Nat.le_of_eq g8.symm))
  have sz_b8 : h0.size ≤ b8 := Nat.le_trans K4.1 (Nat.le_of_eq g8.symm)
  have gn_b8 : n0 ≤ b8 := Nat.le_trans Z0 sz_b8
  have f8_9 := f4_5.ext E8
  have f8_10 := Fw4.ext E8
  have f8_11 := f4_6.ext E8
  have f8_12 := f4_7.ext E8
  have K8 : Keep h0 h8 [aT] := (K4).ext E8
  have Zh8 : n0 ≤ h8.size := Nat.le_trans Z0 K8.1
  have V8 : Arv Z h8 b8 kM .double (3 : Int32) [(.double m0), (.double m1), (.double (4607182418800017408 : UInt64))] (.double (0 : UInt64)) := A8
  refine own_back ?_ st8
  show own_Go p e below PO (T8.setTop (mkF m 77 #[.val (.ref aT), .val (.int pF), .val (.ref aM), .val (.ref aF), .unset] [(.ref b8), (.ref aT)]))
  obtain ⟨T13, X13, e13, st13⟩ := castY X8 hx hZ hown (hw _ (List.mem_of_getElem? (i := 29) rfl)) e8 (Ins.self Ex8) (g := (mkF m 77 #[.val (.ref aT), .val (.int pF), .val (.ref aM), .val (.ref aF), .unset] [(.ref b8), (.ref aT)])) rfl rfl (hb hby d2_77)
  refine own_back ?_ st13
  show own_Go p e below PO (T13.setTop (mkF m 80 #[.val (.ref aT), .val (.int pF), .val (.ref aM), .val (.ref aF), .unset] [(.ref b8), (.ref aT)]))
  obtain ⟨T14, h14, X14, e14, W14, st14⟩ := putF X13 hx hZ hown (host := "") (Or.inl (hw _ (List.mem_of_getElem? (i := 31) rfl))) Via.refl e13 f8_11 f8_9 (Or.inr ⟨(hw _ (List.mem_of_getElem? (i := 32) rfl)), rfl, hnm⟩) (hw _ (List.mem_of_getElem? (i := 9) rfl)) (ty := (.array .double)) (by decide) rfl rfl (g := (mkF m 80 #[.val (.ref aT), .val (.int pF), .val (.ref aM), .val (.ref aF), .unset] [(.ref b8), (.ref aT)])) rfl rfl (hb hby d2_80)
  have Fw14 := f8_11.same W14
  have f14_15 := f8_9.wr W14
  have f14_16 := f8_10.other W14 (Or.inr (slot_ne (Or.inr (hw _ (List.mem_of_getElem? (i := 21) rfl))) (Or.inr (hw _ (List.mem_of_getElem? (i := 32) rfl))) (by decide) (t := .int) (t' := (.array .double)) (by decide) (by decide)))
  have f14_17 := f8_12.other W14 (Or.inr (slot_ne (Or.inr (hw _ (List.mem_of_getElem? (i := 34) rfl))) (Or.inr (hw _ (List.mem_of_getElem? (i := 32) rfl))) (by decide) (t := (.array .double)) (t' := (.array .double)) (by decide) (by decide)))
  have f14_18 := Ex8.wr W14
  have f14_19 := V8.other W14 (Ne.symm ne_aT_b8)
  have K14 : Keep h0 h14 [aT] := (K8).wr W14 (Or.inl (by simp))
  have N14 := Fr.snoc X14 N4 gn_aT
  have Zh14 : n0 ≤ h14.size := Nat.le_trans Z0 K14.1
  refine own_back ?_ st14
  show own_Go p e below PO (T14.setTop (mkF m 83 #[.val (.ref aT), .val (.int pF), .val (.ref aM), .val (.ref aF), .unset] []))
  refine own_back ?_ (fun t k => XS.aloadN X14.here hx rfl (hb hby d2_83) rfl rfl k)
  show own_Go p e below PO (T14.setTop (mkF m 84 #[.val (.ref aT), .val (.int pF), .val (.ref aM), .val (.ref aF), .unset] [(.ref aT)]))
  refine own_back ?_ (fun t k => XS.aloadN X14.here hx rfl (hb hby d2_84) rfl rfl k)
  show own_Go p e below PO (T14.setTop (mkF m 85 #[.val (.ref aT), .val (.int pF), .val (.ref aM), .val (.ref aF), .unset] [(.ref aF), (.ref aT)]))
  obtain ⟨T20, h20, X20, e20, E20, A20, Ex20, st20⟩ := cloneH X14 hx hZ hown (hw _ (List.mem_of_getElem? (i := 22) rfl)) (hw _ (List.mem_of_getElem? (i := 23) rfl)) (hw _ (List.mem_of_getElem? (i := 27) rfl)) (hw _ (List.mem_of_getElem? (i := 25) rfl)) (hw _ (List.mem_of_getElem? (i := 26) rfl)) (hw _ (List.mem_of_getElem? (i := 28) rfl)) e14 ((V_F.keep K14 (ninS nF nin0))).arh (E_F.keep K14) (g := (mkF m 85 #[.val (.ref aT), .val (.int pF), .val (.ref aM), .val (.ref aF), .unset] [(.ref aF), (.ref aT)])) rfl (by rw [hml]; rfl) rfl (hb hby d2_85) (by decide) (W := 1) (by show 2 * 0 + _ ≤ _; exact Nat.le_of_eq rfl) (by decide) (cap := 3) (by decide) (by decide) (by decide)
  obtain ⟨b20, g20⟩ : ∃ z, z = h14.size := ⟨_, rfl⟩
  rw [← g20] at A20 Ex20 st20
  have ne_aF_b20 : aF ≠ b20 := Nat.ne_of_lt (Nat.lt_of_lt_of_le (V_F.keep K14 (ninS nF nin0)).lt (Nat.le_of_eq g20.symm))
  have ne_aM_b20 : aM ≠ b20 := Nat.ne_of_lt (Nat.lt_of_lt_of_le (V_M.keep K14 (ninS nM nin0)).lt (Nat.le_of_eq g20.symm))
  have ne_aT_b20 : aT ≠ b20 := Nat.ne_of_lt (Nat.lt_of_lt_of_le f14_15.lt (Nat.le_of_eq g20.symm))
  have ne_b8_b20 : b8 ≠ b20 := Nat.ne_of_lt (Nat.lt_of_lt_of_le f14_18.lt (Nat.le_of_eq g20.symm))
  have sz_b20 : h0.size ≤ b20 := Nat.le_trans K14.1 (Nat.le_of_eq g20.symm)
  have gn_b20 : n0 ≤ b20 := Nat.le_trans Z0 sz_b20
  have f20_21 := f14_15.ext E20
  have f20_22 := f14_16.ext E20
  have f20_23 := Fw14.ext E20
  have f20_24 := f14_17.ext E20
  have f20_25 := f14_18.ext E20
  have f20_26 := f14_19.ext E20
  have K20 : Keep h0 h20 [aT] := (K14).ext E20
  have Zh20 : n0 ≤ h20.size := Nat.le_trans Z0 K20.1
  have V20 : Arv Z h20 b20 kF .double (3 : Int32) [(.double f0), (.double f1), (.double (4607182418800017408 : UInt64))] (.double (0 : UInt64)) := A20
  refine own_back ?_ st20
  show own_Go p e below PO (T20.setTop (mkF m 88 #[.val (.ref aT), .val (.int pF), .val (.ref aM), .val (.ref aF), .unset] [(.ref b20), (.ref aT)]))
  obtain ⟨T27, X27, e27, st27⟩ := castY X20 hx hZ hown (hw _ (List.mem_of_getElem? (i := 29) rfl)) e20 (Ins.self Ex20) (g := (mkF m 88 #[.val (.ref aT), .val (.int pF), .val (.ref aM), .val (.ref aF), .unset] [(.ref b20), (.ref aT)])) rfl rfl (hb hby d2_88)
  refine own_back ?_ st27
  show own_Go p e below PO (T27.setTop (mkF m 91 #[.val (.ref aT), .val (.int pF), .val (.ref aM), .val (.ref aF), .unset] [(.ref b20), (.ref aT)]))
  obtain ⟨T28, h28, X28, e28, W28, st28⟩ := putF X27 hx hZ hown (host := "") (Or.inl (hw _ (List.mem_of_getElem? (i := 33) rfl))) Via.refl e27 f20_24 f20_21 (Or.inr ⟨(hw _ (List.mem_of_getElem? (i := 34) rfl)), rfl, hnm⟩) (hw _ (List.mem_of_getElem? (i := 9) rfl)) (ty := (.array .double)) (by decide) rfl rfl (g := (mkF m 91 #[.val (.ref aT), .val (.int pF), .val (.ref aM), .val (.ref aF), .unset] [(.ref b20), (.ref aT)])) rfl rfl (hb hby d2_91)
  have Fw28 := f20_24.same W28
  have f28_29 := f20_21.wr W28
  have f28_30 := f20_22.other W28 (Or.inr (slot_ne (Or.inr (hw _ (List.mem_of_getElem? (i := 21) rfl))) (Or.inr (hw _ (List.mem_of_getElem? (i := 34) rfl))) (by decide) (t := .int) (t' := (.array .double)) (by decide) (by decide)))
  have f28_31 := f20_23.other W28 (Or.inr (slot_ne (Or.inr (hw _ (List.mem_of_getElem? (i := 32) rfl))) (Or.inr (hw _ (List.mem_of_getElem? (i := 34) rfl))) (by decide) (t := (.array .double)) (t' := (.array .double)) (by decide) (by decide)))
  have f28_32 := f20_25.wr W28
  have f28_33 := f20_26.other W28 (Ne.symm ne_aT_b8)
  have f28_34 := Ex20.wr W28
  have f28_35 := V20.other W28 (Ne.symm ne_aT_b20)
  have K28 : Keep h0 h28 [aT] := (K20).wr W28 (Or.inl (by simp))
  have N28 := Fr.snoc X28 N14 gn_aT
  have Zh28 : n0 ≤ h28.size := Nat.le_trans Z0 K28.1
  refine own_back ?_ st28
  show own_Go p e below PO (T28.setTop (mkF m 94 #[.val (.ref aT), .val (.int pF), .val (.ref aM), .val (.ref aF), .unset] []))
  refine own_back ?_ (fun t k => XS.iconst X28.here hx rfl (hb hby d2_94) k)
  show own_Go p e below PO (T28.setTop (mkF m 95 #[.val (.ref aT), .val (.int pF), .val (.ref aM), .val (.ref aF), .unset] [(.int (0 : Int32))]))
  refine own_back ?_ (fun t k => XS.istore X28.here hx rfl (hb hby d2_95) rfl (l' := #[.val (.ref aT), .val (.int pF), .val (.ref aM), .val (.ref aF), .val (.int (0 : Int32))]) rfl k)
  show own_Go p e below PO (T28.setTop (mkF m 97 #[.val (.ref aT), .val (.int pF), .val (.ref aM), .val (.ref aF), .val (.int (0 : Int32))] []))
  refine own_back ?_ (fun t k => XS.iload X28.here hx rfl (hb hby d2_97) rfl k)
  show own_Go p e below PO (T28.setTop (mkF m 99 #[.val (.ref aT), .val (.int pF), .val (.ref aM), .val (.ref aF), .val (.int (0 : Int32))] [(.int (0 : Int32))]))
  refine own_back ?_ (fun t k => XS.aloadN X28.here hx rfl (hb hby d2_99) rfl rfl k)
  show own_Go p e below PO (T28.setTop (mkF m 100 #[.val (.ref aT), .val (.int pF), .val (.ref aM), .val (.ref aF), .val (.int (0 : Int32))] [(.ref aT), (.int (0 : Int32))]))
  obtain ⟨T36, X36, e36, st36⟩ := getF X28 hx hZ hown (host := "") (Or.inl (hw _ (List.mem_of_getElem? (i := 31) rfl))) Via.refl e28 f28_31 (g := (mkF m 100 #[.val (.ref aT), .val (.int pF), .val (.ref aM), .val (.ref aF), .val (.int (0 : Int32))] [(.ref aT), (.int (0 : Int32))])) rfl rfl (hb hby d2_100)
  refine own_back ?_ st36
  show own_Go p e below PO (T36.setTop (mkF m 103 #[.val (.ref aT), .val (.int pF), .val (.ref aM), .val (.ref aF), .val (.int (0 : Int32))] [(.ref b8), (.int (0 : Int32))]))
  refine own_back ?_ (own_len X36 hx hZ e36 f28_33 (g := (mkF m 103 #[.val (.ref aT), .val (.int pF), .val (.ref aM), .val (.ref aF), .val (.int (0 : Int32))] [(.ref b8), (.int (0 : Int32))])) rfl rfl (hb hby d2_103))
  show own_Go p e below PO (T36.setTop (mkF m 104 #[.val (.ref aT), .val (.int pF), .val (.ref aM), .val (.ref aF), .val (.int (0 : Int32))] [(.int (3 : Int32)), (.int (0 : Int32))]))
  have hd104_37 : (0 : Int32) < (3 : Int32) := (by decide)
  refine own_back ?_ (fun t k => XS.icmpNo X36.here hx rfl (hb hby d2_104) rfl (tlt hd104_37).2.1 k)
  show own_Go p e below PO (T36.setTop (mkF m 107 #[.val (.ref aT), .val (.int pF), .val (.ref aM), .val (.ref aF), .val (.int (0 : Int32))] []))
  refine own_back ?_ (fun t k => XS.iloadN X36.here hx rfl (hb hby d2_107) rfl k)
  show own_Go p e below PO (T36.setTop (mkF m 108 #[.val (.ref aT), .val (.int pF), .val (.ref aM), .val (.ref aF), .val (.int (0 : Int32))] [(.int pF)]))
  refine own_back ?_ (fun t k => XS.iload X36.here hx rfl (hb hby d2_108) rfl k)
  show own_Go p e below PO (T36.setTop (mkF m 110 #[.val (.ref aT), .val (.int pF), .val (.ref aM), .val (.ref aF), .val (.int (0 : Int32))] [(.int (0 : Int32)), (.int pF)]))
  refine own_back ?_ (fun t k => XS.iadd X36.here hx rfl (hb hby d2_110) rfl k)
  show own_Go p e below PO (T36.setTop (mkF m 111 #[.val (.ref aT), .val (.int pF), .val (.ref aM), .val (.ref aF), .val (.int (0 : Int32))] [(.int (pF + (0 : Int32)))]))
  refine own_back ?_ (fun t k => XS.aloadN X36.here hx rfl (hb hby d2_111) rfl rfl k)
  show own_Go p e below PO (T36.setTop (mkF m 112 #[.val (.ref aT), .val (.int pF), .val (.ref aM), .val (.ref aF), .val (.int (0 : Int32))] [(.ref aT), (.int (pF + (0 : Int32)))]))
  obtain ⟨T38, X38, e38, st38⟩ := getF X36 hx hZ hown (host := "") (Or.inl (hw _ (List.mem_of_getElem? (i := 31) rfl))) Via.refl e36 f28_31 (g := (mkF m 112 #[.val (.ref aT), .val (.int pF), .val (.ref aM), .val (.ref aF), .val (.int (0 : Int32))] [(.ref aT), (.int (pF + (0 : Int32)))])) rfl rfl (hb hby d2_112)
  refine own_back ?_ st38
  show own_Go p e below PO (T38.setTop (mkF m 115 #[.val (.ref aT), .val (.int pF), .val (.ref aM), .val (.ref aF), .val (.int (0 : Int32))] [(.ref b8), (.int (pF + (0 : Int32)))]))
  refine own_back ?_ (fun t k => XS.iload X38.here hx rfl (hb hby d2_115) rfl k)
  show own_Go p e below PO (T38.setTop (mkF m 117 #[.val (.ref aT), .val (.int pF), .val (.ref aM), .val (.ref aF), .val (.int (0 : Int32))] [(.int (0 : Int32)), (.ref b8), (.int (pF + (0 : Int32)))]))
  refine own_back ?_ (own_ldD X38 hx hZ e38 f28_33 (j := (0 : Int32)) (v := (.double m0)) ⟨by decide, by decide⟩ rfl (g := (mkF m 117 #[.val (.ref aT), .val (.int pF), .val (.ref aM), .val (.ref aF), .val (.int (0 : Int32))] [(.int (0 : Int32)), (.ref b8), (.int (pF + (0 : Int32)))])) rfl rfl (hb hby d2_117))
  show own_Go p e below PO (T38.setTop (mkF m 118 #[.val (.ref aT), .val (.int pF), .val (.ref aM), .val (.ref aF), .val (.int (0 : Int32))] [(.double m0), (.int (pF + (0 : Int32)))]))
  refine own_back ?_ (fun t k => XS.aloadN X38.here hx rfl (hb hby d2_118) rfl rfl k)
  show own_Go p e below PO (T38.setTop (mkF m 119 #[.val (.ref aT), .val (.int pF), .val (.ref aM), .val (.ref aF), .val (.int (0 : Int32))] [(.ref aT), (.double m0), (.int (pF + (0 : Int32)))]))
  obtain ⟨T39, X39, e39, st39⟩ := getF X38 hx hZ hown (host := "") (Or.inl (hw _ (List.mem_of_getElem? (i := 33) rfl))) Via.refl e38 Fw28 (g := (mkF m 119 #[.val (.ref aT), .val (.int pF), .val (.ref aM), .val (.ref aF), .val (.int (0 : Int32))] [(.ref aT), (.double m0), (.int (pF + (0 : Int32)))])) rfl rfl (hb hby d2_119)
  refine own_back ?_ st39
  show own_Go p e below PO (T39.setTop (mkF m 122 #[.val (.ref aT), .val (.int pF), .val (.ref aM), .val (.ref aF), .val (.int (0 : Int32))] [(.ref b20), (.double m0), (.int (pF + (0 : Int32)))]))
  refine own_back ?_ (fun t k => XS.iload X39.here hx rfl (hb hby d2_122) rfl k)
  show own_Go p e below PO (T39.setTop (mkF m 124 #[.val (.ref aT), .val (.int pF), .val (.ref aM), .val (.ref aF), .val (.int (0 : Int32))] [(.int (0 : Int32)), (.ref b20), (.double m0), (.int (pF + (0 : Int32)))]))
  refine own_back ?_ (own_ldD X39 hx hZ e39 f28_35 (j := (0 : Int32)) (v := (.double f0)) ⟨by decide, by decide⟩ rfl (g := (mkF m 124 #[.val (.ref aT), .val (.int pF), .val (.ref aM), .val (.ref aF), .val (.int (0 : Int32))] [(.int (0 : Int32)), (.ref b20), (.double m0), (.int (pF + (0 : Int32)))])) rfl rfl (hb hby d2_124))
  show own_Go p e below PO (T39.setTop (mkF m 125 #[.val (.ref aT), .val (.int pF), .val (.ref aM), .val (.ref aF), .val (.int (0 : Int32))] [(.double f0), (.double m0), (.int (pF + (0 : Int32)))]))
  obtain ⟨_, _, ⟨T40, L40, k40, n40⟩, -, X40, hSn40, hgr40, ⟨Lc40, hQ40, l40, y40, z40⟩, st40⟩ := callSS X39 hx (y := (⟨"com/example/overcap/overcap/model/MortalityTable", "checkRates", "(IDD)V"⟩ : MethodName)) hown (mvT hZ (hw _ (List.mem_of_getElem? (i := 35) rfl))) (mvT hZ (hw _ (List.mem_of_getElem? (i := 36) rfl))) (mvT hZ (hw _ (List.mem_of_getElem? (i := 10) rfl))) (mvT hZ (hw _ (List.mem_of_getElem? (i := 37) rfl))) (by decide) (backOfS (W := 0) (rmRates l Z a0 hw [] (pF + (0 : Int32)) m0 f0  h28 n0 Zh28 om0 of0) hZ (hw _ (List.mem_of_getElem? (i := 37) rfl)) (hw _ (List.mem_of_getElem? (i := 10) rfl)) (by decide) (by decide)) (g := (mkF m 125 #[.val (.ref aT), .val (.int pF), .val (.ref aM), .val (.ref aF), .val (.int (0 : Int32))] [(.double f0), (.double m0), (.int (pF + (0 : Int32)))])) rfl (by rw [hml]; rfl) (argsL := [(.int (pF + (0 : Int32))), (.double m0), (.double f0)]) (rest := []) (lenOf pd_3 rfl) rfl (by show 2 * 0 + _ ≤ _; exact Nat.le_of_eq rfl) (hb hby d2_125) (fun _ _ => ⟨rfl, e39, (by decide : 2 + 4 ≤ _), (by decide : 6 + 48 ≤ _)⟩)
  dsimp only [Pt.U, Pt.locs, Pt.cells, Pt.slots] at X40 l40 y40 z40 st40 hQ40
  subst l40 y40 z40
  replace X40 : Stand p l e ({ frames := 3, cells := 18, slots := 198, locals := 45 } : Room) (s.setVm T40.vm) m #[(.ref aT), (.int pF), (.ref aM), (.ref aF)] below meth c T40 _ _ _ := X40
  have hS40 : s.Since T40.vm T40.heap.size := foldS (s := s) (vm0 := s.vm) (T := T39) hS0 (by rw [e39]; exact (Nat.zero_le _)) hSn40 hgr40
  have hZ : Z.Warmed39 (s.setVm T40.vm).vm := State.Warmed39.trans (t := s.setVm s.vm) hZ hSn40.1
  have hown : (s.setVm T40.vm).vm.findClass "com/example/overcap/overcap/model/MortalityTable" = some m.cls := by rw [show (s.setVm T40.vm).vm = T40.vm from rfl, hSn40.1.alike.findClass]; exact hown
  obtain ⟨rfl, N40q, Kc40⟩ := hQ40
  have N40 := Fr.app N28 N40q
  have f40_41 := f28_29.keep Kc40
  have f40_42 := f28_30.keep Kc40 nin0
  have f40_43 := f28_31.keep Kc40 nin0
  have f40_44 := Fw28.keep Kc40 nin0
  have f40_45 := f28_32.keep Kc40
  have f40_46 := f28_33.keep Kc40 nin0
  have f40_47 := f28_34.keep Kc40
  have f40_48 := f28_35.keep Kc40 nin0
  have K40 : Keep h0 T40.heap [aT] := (K28).trans Kc40 all0
  have Zh40 : n0 ≤ T40.heap.size := Nat.le_trans Z0 K40.1
  refine own_back ?_ (fun t k => st40.trans k)
  show own_Go p e below PO (T40.setTop (mkF m 128 #[.val (.ref aT), .val (.int pF), .val (.ref aM), .val (.ref aF), .val (.int (0 : Int32))] []))
  refine own_back ?_ (fun t k => XS.iinc X40.here hx rfl (hb hby d2_128) rfl (l' := #[.val (.ref aT), .val (.int pF), .val (.ref aM), .val (.ref aF), .val (.int (1 : Int32))]) rfl k)
  show own_Go p e below PO (T40.setTop (mkF m 131 #[.val (.ref aT), .val (.int pF), .val (.ref aM), .val (.ref aF), .val (.int (1 : Int32))] []))
  refine own_back ?_ (fun t k => XS.goto X40.here hx rfl (pc0 := 131) (pc' := 97) rfl (hb hby d2_131) (by decide) (by decide) k)
  show own_Go p e below PO (T40.setTop (mkF m 97 #[.val (.ref aT), .val (.int pF), .val (.ref aM), .val (.ref aF), .val (.int (1 : Int32))] []))
  refine own_back ?_ (fun t k => XS.iload X40.here hx rfl (hb hby d2_97) rfl k)
  show own_Go p e below PO (T40.setTop (mkF m 99 #[.val (.ref aT), .val (.int pF), .val (.ref aM), .val (.ref aF), .val (.int (1 : Int32))] [(.int (1 : Int32))]))
  refine own_back ?_ (fun t k => XS.aloadN X40.here hx rfl (hb hby d2_99) rfl rfl k)
  show own_Go p e below PO (T40.setTop (mkF m 100 #[.val (.ref aT), .val (.int pF), .val (.ref aM), .val (.ref aF), .val (.int (1 : Int32))] [(.ref aT), (.int (1 : Int32))]))
  obtain ⟨T49, X49, e49, st49⟩ := getF X40 hx hZ hown (host := "") (Or.inl (hw _ (List.mem_of_getElem? (i := 31) rfl))) Via.refl rfl f40_43 (g := (mkF m 100 #[.val (.ref aT), .val (.int pF), .val (.ref aM), .val (.ref aF), .val (.int (1 : Int32))] [(.ref aT), (.int (1 : Int32))])) rfl rfl (hb hby d2_100)
  refine own_back ?_ st49
  show own_Go p e below PO (T49.setTop (mkF m 103 #[.val (.ref aT), .val (.int pF), .val (.ref aM), .val (.ref aF), .val (.int (1 : Int32))] [(.ref b8), (.int (1 : Int32))]))
  refine own_back ?_ (own_len X49 hx hZ e49 f40_46 (g := (mkF m 103 #[.val (.ref aT), .val (.int pF), .val (.ref aM), .val (.ref aF), .val (.int (1 : Int32))] [(.ref b8), (.int (1 : Int32))])) rfl rfl (hb hby d2_103))
  show own_Go p e below PO (T49.setTop (mkF m 104 #[.val (.ref aT), .val (.int pF), .val (.ref aM), .val (.ref aF), .val (.int (1 : Int32))] [(.int (3 : Int32)), (.int (1 : Int32))]))
  have hd104_50 : (1 : Int32) < (3 : Int32) := (by decide)
  refine own_back ?_ (fun t k => XS.icmpNo X49.here hx rfl (hb hby d2_104) rfl (tlt hd104_50).2.1 k)
  show own_Go p e below PO (T49.setTop (mkF m 107 #[.val (.ref aT), .val (.int pF), .val (.ref aM), .val (.ref aF), .val (.int (1 : Int32))] []))
  refine own_back ?_ (fun t k => XS.iloadN X49.here hx rfl (hb hby d2_107) rfl k)
  show own_Go p e below PO (T49.setTop (mkF m 108 #[.val (.ref aT), .val (.int pF), .val (.ref aM), .val (.ref aF), .val (.int (1 : Int32))] [(.int pF)]))
  refine own_back ?_ (fun t k => XS.iload X49.here hx rfl (hb hby d2_108) rfl k)
  show own_Go p e below PO (T49.setTop (mkF m 110 #[.val (.ref aT), .val (.int pF), .val (.ref aM), .val (.ref aF), .val (.int (1 : Int32))] [(.int (1 : Int32)), (.int pF)]))
  refine own_back ?_ (fun t k => XS.iadd X49.here hx rfl (hb hby d2_110) rfl k)
  show own_Go p e below PO (T49.setTop (mkF m 111 #[.val (.ref aT), .val (.int pF), .val (.ref aM), .val (.ref aF), .val (.int (1 : Int32))] [(.int (pF + (1 : Int32)))]))
  refine own_back ?_ (fun t k => XS.aloadN X49.here hx rfl (hb hby d2_111) rfl rfl k)
  show own_Go p e below PO (T49.setTop (mkF m 112 #[.val (.ref aT), .val (.int pF), .val (.ref aM), .val (.ref aF), .val (.int (1 : Int32))] [(.ref aT), (.int (pF + (1 : Int32)))]))
  obtain ⟨T51, X51, e51, st51⟩ := getF X49 hx hZ hown (host := "") (Or.inl (hw _ (List.mem_of_getElem? (i := 31) rfl))) Via.refl e49 f40_43 (g := (mkF m 112 #[.val (.ref aT), .val (.int pF), .val (.ref aM), .val (.ref aF), .val (.int (1 : Int32))] [(.ref aT), (.int (pF + (1 : Int32)))])) rfl rfl (hb hby d2_112)
  refine own_back ?_ st51
  show own_Go p e below PO (T51.setTop (mkF m 115 #[.val (.ref aT), .val (.int pF), .val (.ref aM), .val (.ref aF), .val (.int (1 : Int32))] [(.ref b8), (.int (pF + (1 : Int32)))]))
  refine own_back ?_ (fun t k => XS.iload X51.here hx rfl (hb hby d2_115) rfl k)
  show own_Go p e below PO (T51.setTop (mkF m 117 #[.val (.ref aT), .val (.int pF), .val (.ref aM), .val (.ref aF), .val (.int (1 : Int32))] [(.int (1 : Int32)), (.ref b8), (.int (pF + (1 : Int32)))]))
  refine own_back ?_ (own_ldD X51 hx hZ e51 f40_46 (j := (1 : Int32)) (v := (.double m1)) ⟨by decide, by decide⟩ rfl (g := (mkF m 117 #[.val (.ref aT), .val (.int pF), .val (.ref aM), .val (.ref aF), .val (.int (1 : Int32))] [(.int (1 : Int32)), (.ref b8), (.int (pF + (1 : Int32)))])) rfl rfl (hb hby d2_117))
  show own_Go p e below PO (T51.setTop (mkF m 118 #[.val (.ref aT), .val (.int pF), .val (.ref aM), .val (.ref aF), .val (.int (1 : Int32))] [(.double m1), (.int (pF + (1 : Int32)))]))
  refine own_back ?_ (fun t k => XS.aloadN X51.here hx rfl (hb hby d2_118) rfl rfl k)
  show own_Go p e below PO (T51.setTop (mkF m 119 #[.val (.ref aT), .val (.int pF), .val (.ref aM), .val (.ref aF), .val (.int (1 : Int32))] [(.ref aT), (.double m1), (.int (pF + (1 : Int32)))]))
  obtain ⟨T52, X52, e52, st52⟩ := getF X51 hx hZ hown (host := "") (Or.inl (hw _ (List.mem_of_getElem? (i := 33) rfl))) Via.refl e51 f40_44 (g := (mkF m 119 #[.val (.ref aT), .val (.int pF), .val (.ref aM), .val (.ref aF), .val (.int (1 : Int32))] [(.ref aT), (.double m1), (.int (pF + (1 : Int32)))])) rfl rfl (hb hby d2_119)
  refine own_back ?_ st52
  show own_Go p e below PO (T52.setTop (mkF m 122 #[.val (.ref aT), .val (.int pF), .val (.ref aM), .val (.ref aF), .val (.int (1 : Int32))] [(.ref b20), (.double m1), (.int (pF + (1 : Int32)))]))
  refine own_back ?_ (fun t k => XS.iload X52.here hx rfl (hb hby d2_122) rfl k)
  show own_Go p e below PO (T52.setTop (mkF m 124 #[.val (.ref aT), .val (.int pF), .val (.ref aM), .val (.ref aF), .val (.int (1 : Int32))] [(.int (1 : Int32)), (.ref b20), (.double m1), (.int (pF + (1 : Int32)))]))
  refine own_back ?_ (own_ldD X52 hx hZ e52 f40_48 (j := (1 : Int32)) (v := (.double f1)) ⟨by decide, by decide⟩ rfl (g := (mkF m 124 #[.val (.ref aT), .val (.int pF), .val (.ref aM), .val (.ref aF), .val (.int (1 : Int32))] [(.int (1 : Int32)), (.ref b20), (.double m1), (.int (pF + (1 : Int32)))])) rfl rfl (hb hby d2_124))
  show own_Go p e below PO (T52.setTop (mkF m 125 #[.val (.ref aT), .val (.int pF), .val (.ref aM), .val (.ref aF), .val (.int (1 : Int32))] [(.double f1), (.double m1), (.int (pF + (1 : Int32)))]))
  obtain ⟨_, _, ⟨T53, L53, k53, n53⟩, -, X53, hSn53, hgr53, ⟨Lc53, hQ53, l53, y53, z53⟩, st53⟩ := callSS X52 hx (y := (⟨"com/example/overcap/overcap/model/MortalityTable", "checkRates", "(IDD)V"⟩ : MethodName)) hown (mvT hZ (hw _ (List.mem_of_getElem? (i := 35) rfl))) (mvT hZ (hw _ (List.mem_of_getElem? (i := 36) rfl))) (mvT hZ (hw _ (List.mem_of_getElem? (i := 10) rfl))) (mvT hZ (hw _ (List.mem_of_getElem? (i := 37) rfl))) (by decide) (backOfS (W := 0) (rmRates l Z a0 hw [] (pF + (1 : Int32)) m1 f1  T40.heap n0 Zh40 om1 of1) hZ (hw _ (List.mem_of_getElem? (i := 37) rfl)) (hw _ (List.mem_of_getElem? (i := 10) rfl)) (by decide) (by decide)) (g := (mkF m 125 #[.val (.ref aT), .val (.int pF), .val (.ref aM), .val (.ref aF), .val (.int (1 : Int32))] [(.double f1), (.double m1), (.int (pF + (1 : Int32)))])) rfl (by rw [hml]; rfl) (argsL := [(.int (pF + (1 : Int32))), (.double m1), (.double f1)]) (rest := []) (lenOf pd_3 rfl) rfl (by show 2 * 0 + _ ≤ _; exact Nat.le_of_eq rfl) (hb hby d2_125) (fun _ _ => ⟨rfl, e52, (by decide : 6 + 4 ≤ _), (by decide : 54 + 48 ≤ _)⟩)
  dsimp only [Pt.U, Pt.locs, Pt.cells, Pt.slots] at X53 l53 y53 z53 st53 hQ53
  subst l53 y53 z53
  replace X53 : Stand p l e ({ frames := 3, cells := 18, slots := 198, locals := 45 } : Room) (s.setVm T53.vm) m #[(.ref aT), (.int pF), (.ref aM), (.ref aF)] below meth c T53 _ _ _ := X53
  have hS53 : s.Since T53.vm T53.heap.size := foldS (s := s) (vm0 := T40.vm) (T := T52) hS40 (by rw [e52]; exact (Nat.le_refl _)) hSn53 hgr53
  have hZ : Z.Warmed39 (s.setVm T53.vm).vm := State.Warmed39.trans (t := s.setVm T40.vm) hZ hSn53.1
  have hown : (s.setVm T53.vm).vm.findClass "com/example/overcap/overcap/model/MortalityTable" = some m.cls := by rw [show (s.setVm T53.vm).vm = T53.vm from rfl, hSn53.1.alike.findClass]; exact hown
  obtain ⟨rfl, N53q, Kc53⟩ := hQ53
  have N53 := Fr.app N40 N53q
  have f53_54 := f40_41.keep Kc53
  have f53_55 := f40_42.keep Kc53 nin0
  have f53_56 := f40_43.keep Kc53 nin0
  have f53_57 := f40_44.keep Kc53 nin0
  have f53_58 := f40_45.keep Kc53
  have f53_59 := f40_46.keep Kc53 nin0
  have f53_60 := f40_47.keep Kc53
  have f53_61 := f40_48.keep Kc53 nin0
  have K53 : Keep h0 T53.heap [aT] := (K40).trans Kc53 all0
  have Zh53 : n0 ≤ T53.heap.size := Nat.le_trans Z0 K53.1
  refine own_back ?_ (fun t k => st53.trans k)
  show own_Go p e below PO (T53.setTop (mkF m 128 #[.val (.ref aT), .val (.int pF), .val (.ref aM), .val (.ref aF), .val (.int (1 : Int32))] []))
  refine own_back ?_ (fun t k => XS.iinc X53.here hx rfl (hb hby d2_128) rfl (l' := #[.val (.ref aT), .val (.int pF), .val (.ref aM), .val (.ref aF), .val (.int (2 : Int32))]) rfl k)
  show own_Go p e below PO (T53.setTop (mkF m 131 #[.val (.ref aT), .val (.int pF), .val (.ref aM), .val (.ref aF), .val (.int (2 : Int32))] []))
  refine own_back ?_ (fun t k => XS.goto X53.here hx rfl (pc0 := 131) (pc' := 97) rfl (hb hby d2_131) (by decide) (by decide) k)
  show own_Go p e below PO (T53.setTop (mkF m 97 #[.val (.ref aT), .val (.int pF), .val (.ref aM), .val (.ref aF), .val (.int (2 : Int32))] []))
  refine own_back ?_ (fun t k => XS.iload X53.here hx rfl (hb hby d2_97) rfl k)
  show own_Go p e below PO (T53.setTop (mkF m 99 #[.val (.ref aT), .val (.int pF), .val (.ref aM), .val (.ref aF), .val (.int (2 : Int32))] [(.int (2 : Int32))]))
  refine own_back ?_ (fun t k => XS.aloadN X53.here hx rfl (hb hby d2_99) rfl rfl k)
  show own_Go p e below PO (T53.setTop (mkF m 100 #[.val (.ref aT), .val (.int pF), .val (.ref aM), .val (.ref aF), .val (.int (2 : Int32))] [(.ref aT), (.int (2 : Int32))]))
  obtain ⟨T62, X62, e62, st62⟩ := getF X53 hx hZ hown (host := "") (Or.inl (hw _ (List.mem_of_getElem? (i := 31) rfl))) Via.refl rfl f53_56 (g := (mkF m 100 #[.val (.ref aT), .val (.int pF), .val (.ref aM), .val (.ref aF), .val (.int (2 : Int32))] [(.ref aT), (.int (2 : Int32))])) rfl rfl (hb hby d2_100)
  refine own_back ?_ st62
  show own_Go p e below PO (T62.setTop (mkF m 103 #[.val (.ref aT), .val (.int pF), .val (.ref aM), .val (.ref aF), .val (.int (2 : Int32))] [(.ref b8), (.int (2 : Int32))]))
  refine own_back ?_ (own_len X62 hx hZ e62 f53_59 (g := (mkF m 103 #[.val (.ref aT), .val (.int pF), .val (.ref aM), .val (.ref aF), .val (.int (2 : Int32))] [(.ref b8), (.int (2 : Int32))])) rfl rfl (hb hby d2_103))
  show own_Go p e below PO (T62.setTop (mkF m 104 #[.val (.ref aT), .val (.int pF), .val (.ref aM), .val (.ref aF), .val (.int (2 : Int32))] [(.int (3 : Int32)), (.int (2 : Int32))]))
  have hd104_63 : (2 : Int32) < (3 : Int32) := (by decide)
  refine own_back ?_ (fun t k => XS.icmpNo X62.here hx rfl (hb hby d2_104) rfl (tlt hd104_63).2.1 k)
  show own_Go p e below PO (T62.setTop (mkF m 107 #[.val (.ref aT), .val (.int pF), .val (.ref aM), .val (.ref aF), .val (.int (2 : Int32))] []))
  refine own_back ?_ (fun t k => XS.iloadN X62.here hx rfl (hb hby d2_107) rfl k)
  show own_Go p e below PO (T62.setTop (mkF m 108 #[.val (.ref aT), .val (.int pF), .val (.ref aM), .val (.ref aF), .val (.int (2 : Int32))] [(.int pF)]))
  refine own_back ?_ (fun t k => XS.iload X62.here hx rfl (hb hby d2_108) rfl k)
  show own_Go p e below PO (T62.setTop (mkF m 110 #[.val (.ref aT), .val (.int pF), .val (.ref aM), .val (.ref aF), .val (.int (2 : Int32))] [(.int (2 : Int32)), (.int pF)]))
  refine own_back ?_ (fun t k => XS.iadd X62.here hx rfl (hb hby d2_110) rfl k)
  show own_Go p e below PO (T62.setTop (mkF m 111 #[.val (.ref aT), .val (.int pF), .val (.ref aM), .val (.ref aF), .val (.int (2 : Int32))] [(.int (pF + (2 : Int32)))]))
  refine own_back ?_ (fun t k => XS.aloadN X62.here hx rfl (hb hby d2_111) rfl rfl k)
  show own_Go p e below PO (T62.setTop (mkF m 112 #[.val (.ref aT), .val (.int pF), .val (.ref aM), .val (.ref aF), .val (.int (2 : Int32))] [(.ref aT), (.int (pF + (2 : Int32)))]))
  obtain ⟨T64, X64, e64, st64⟩ := getF X62 hx hZ hown (host := "") (Or.inl (hw _ (List.mem_of_getElem? (i := 31) rfl))) Via.refl e62 f53_56 (g := (mkF m 112 #[.val (.ref aT), .val (.int pF), .val (.ref aM), .val (.ref aF), .val (.int (2 : Int32))] [(.ref aT), (.int (pF + (2 : Int32)))])) rfl rfl (hb hby d2_112)
  refine own_back ?_ st64
  show own_Go p e below PO (T64.setTop (mkF m 115 #[.val (.ref aT), .val (.int pF), .val (.ref aM), .val (.ref aF), .val (.int (2 : Int32))] [(.ref b8), (.int (pF + (2 : Int32)))]))
  refine own_back ?_ (fun t k => XS.iload X64.here hx rfl (hb hby d2_115) rfl k)
  show own_Go p e below PO (T64.setTop (mkF m 117 #[.val (.ref aT), .val (.int pF), .val (.ref aM), .val (.ref aF), .val (.int (2 : Int32))] [(.int (2 : Int32)), (.ref b8), (.int (pF + (2 : Int32)))]))
  refine own_back ?_ (own_ldD X64 hx hZ e64 f53_59 (j := (2 : Int32)) (v := (.double (4607182418800017408 : UInt64))) ⟨by decide, by decide⟩ rfl (g := (mkF m 117 #[.val (.ref aT), .val (.int pF), .val (.ref aM), .val (.ref aF), .val (.int (2 : Int32))] [(.int (2 : Int32)), (.ref b8), (.int (pF + (2 : Int32)))])) rfl rfl (hb hby d2_117))
  show own_Go p e below PO (T64.setTop (mkF m 118 #[.val (.ref aT), .val (.int pF), .val (.ref aM), .val (.ref aF), .val (.int (2 : Int32))] [(.double (4607182418800017408 : UInt64)), (.int (pF + (2 : Int32)))]))
  refine own_back ?_ (fun t k => XS.aloadN X64.here hx rfl (hb hby d2_118) rfl rfl k)
  show own_Go p e below PO (T64.setTop (mkF m 119 #[.val (.ref aT), .val (.int pF), .val (.ref aM), .val (.ref aF), .val (.int (2 : Int32))] [(.ref aT), (.double (4607182418800017408 : UInt64)), (.int (pF + (2 : Int32)))]))
  obtain ⟨T65, X65, e65, st65⟩ := getF X64 hx hZ hown (host := "") (Or.inl (hw _ (List.mem_of_getElem? (i := 33) rfl))) Via.refl e64 f53_57 (g := (mkF m 119 #[.val (.ref aT), .val (.int pF), .val (.ref aM), .val (.ref aF), .val (.int (2 : Int32))] [(.ref aT), (.double (4607182418800017408 : UInt64)), (.int (pF + (2 : Int32)))])) rfl rfl (hb hby d2_119)
  refine own_back ?_ st65
  show own_Go p e below PO (T65.setTop (mkF m 122 #[.val (.ref aT), .val (.int pF), .val (.ref aM), .val (.ref aF), .val (.int (2 : Int32))] [(.ref b20), (.double (4607182418800017408 : UInt64)), (.int (pF + (2 : Int32)))]))
  refine own_back ?_ (fun t k => XS.iload X65.here hx rfl (hb hby d2_122) rfl k)
  show own_Go p e below PO (T65.setTop (mkF m 124 #[.val (.ref aT), .val (.int pF), .val (.ref aM), .val (.ref aF), .val (.int (2 : Int32))] [(.int (2 : Int32)), (.ref b20), (.double (4607182418800017408 : UInt64)), (.int (pF + (2 : Int32)))]))
  refine own_back ?_ (own_ldD X65 hx hZ e65 f53_61 (j := (2 : Int32)) (v := (.double (4607182418800017408 : UInt64))) ⟨by decide, by decide⟩ rfl (g := (mkF m 124 #[.val (.ref aT), .val (.int pF), .val (.ref aM), .val (.ref aF), .val (.int (2 : Int32))] [(.int (2 : Int32)), (.ref b20), (.double (4607182418800017408 : UInt64)), (.int (pF + (2 : Int32)))])) rfl rfl (hb hby d2_124))
  show own_Go p e below PO (T65.setTop (mkF m 125 #[.val (.ref aT), .val (.int pF), .val (.ref aM), .val (.ref aF), .val (.int (2 : Int32))] [(.double (4607182418800017408 : UInt64)), (.double (4607182418800017408 : UInt64)), (.int (pF + (2 : Int32)))]))
  obtain ⟨_, _, ⟨T66, L66, k66, n66⟩, -, X66, hSn66, hgr66, ⟨Lc66, hQ66, l66, y66, z66⟩, st66⟩ := callSS X65 hx (y := (⟨"com/example/overcap/overcap/model/MortalityTable", "checkRates", "(IDD)V"⟩ : MethodName)) hown (mvT hZ (hw _ (List.mem_of_getElem? (i := 35) rfl))) (mvT hZ (hw _ (List.mem_of_getElem? (i := 36) rfl))) (mvT hZ (hw _ (List.mem_of_getElem? (i := 10) rfl))) (mvT hZ (hw _ (List.mem_of_getElem? (i := 37) rfl))) (by decide) (backOfS (W := 0) (rmRates l Z a0 hw [] (pF + (2 : Int32)) (4607182418800017408 : UInt64) (4607182418800017408 : UInt64)  T53.heap n0 Zh53 own_ok1 own_ok1) hZ (hw _ (List.mem_of_getElem? (i := 37) rfl)) (hw _ (List.mem_of_getElem? (i := 10) rfl)) (by decide) (by decide)) (g := (mkF m 125 #[.val (.ref aT), .val (.int pF), .val (.ref aM), .val (.ref aF), .val (.int (2 : Int32))] [(.double (4607182418800017408 : UInt64)), (.double (4607182418800017408 : UInt64)), (.int (pF + (2 : Int32)))])) rfl (by rw [hml]; rfl) (argsL := [(.int (pF + (2 : Int32))), (.double (4607182418800017408 : UInt64)), (.double (4607182418800017408 : UInt64))]) (rest := []) (lenOf pd_3 rfl) rfl (by show 2 * 0 + _ ≤ _; exact Nat.le_of_eq rfl) (hb hby d2_125) (fun _ _ => ⟨rfl, e65, (by decide : 10 + 4 ≤ _), (by decide : 102 + 48 ≤ _)⟩)
  dsimp only [Pt.U, Pt.locs, Pt.cells, Pt.slots] at X66 l66 y66 z66 st66 hQ66
  subst l66 y66 z66
  replace X66 : Stand p l e ({ frames := 3, cells := 18, slots := 198, locals := 45 } : Room) (s.setVm T66.vm) m #[(.ref aT), (.int pF), (.ref aM), (.ref aF)] below meth c T66 _ _ _ := X66
  have hS66 : s.Since T66.vm T66.heap.size := foldS (s := s) (vm0 := T53.vm) (T := T65) hS53 (by rw [e65]; exact (Nat.le_refl _)) hSn66 hgr66
  have hZ : Z.Warmed39 (s.setVm T66.vm).vm := State.Warmed39.trans (t := s.setVm T53.vm) hZ hSn66.1
  have hown : (s.setVm T66.vm).vm.findClass "com/example/overcap/overcap/model/MortalityTable" = some m.cls := by rw [show (s.setVm T66.vm).vm = T66.vm from rfl, hSn66.1.alike.findClass]; exact hown
  obtain ⟨rfl, N66q, Kc66⟩ := hQ66
  have N66 := Fr.app N53 N66q
  have f66_67 := f53_54.keep Kc66
  have f66_68 := f53_55.keep Kc66 nin0
  have f66_69 := f53_56.keep Kc66 nin0
  have f66_70 := f53_57.keep Kc66 nin0
  have f66_71 := f53_58.keep Kc66
  have f66_72 := f53_59.keep Kc66 nin0
  have f66_73 := f53_60.keep Kc66
  have f66_74 := f53_61.keep Kc66 nin0
  have K66 : Keep h0 T66.heap [aT] := (K53).trans Kc66 all0
  have Zh66 : n0 ≤ T66.heap.size := Nat.le_trans Z0 K66.1
  refine own_back ?_ (fun t k => st66.trans k)
  show own_Go p e below PO (T66.setTop (mkF m 128 #[.val (.ref aT), .val (.int pF), .val (.ref aM), .val (.ref aF), .val (.int (2 : Int32))] []))
  refine own_back ?_ (fun t k => XS.iinc X66.here hx rfl (hb hby d2_128) rfl (l' := #[.val (.ref aT), .val (.int pF), .val (.ref aM), .val (.ref aF), .val (.int (3 : Int32))]) rfl k)
  show own_Go p e below PO (T66.setTop (mkF m 131 #[.val (.ref aT), .val (.int pF), .val (.ref aM), .val (.ref aF), .val (.int (3 : Int32))] []))
  refine own_back ?_ (fun t k => XS.goto X66.here hx rfl (pc0 := 131) (pc' := 97) rfl (hb hby d2_131) (by decide) (by decide) k)
  show own_Go p e below PO (T66.setTop (mkF m 97 #[.val (.ref aT), .val (.int pF), .val (.ref aM), .val (.ref aF), .val (.int (3 : Int32))] []))
  refine own_back ?_ (fun t k => XS.iload X66.here hx rfl (hb hby d2_97) rfl k)
  show own_Go p e below PO (T66.setTop (mkF m 99 #[.val (.ref aT), .val (.int pF), .val (.ref aM), .val (.ref aF), .val (.int (3 : Int32))] [(.int (3 : Int32))]))
  refine own_back ?_ (fun t k => XS.aloadN X66.here hx rfl (hb hby d2_99) rfl rfl k)
  show own_Go p e below PO (T66.setTop (mkF m 100 #[.val (.ref aT), .val (.int pF), .val (.ref aM), .val (.ref aF), .val (.int (3 : Int32))] [(.ref aT), (.int (3 : Int32))]))
  obtain ⟨T75, X75, e75, st75⟩ := getF X66 hx hZ hown (host := "") (Or.inl (hw _ (List.mem_of_getElem? (i := 31) rfl))) Via.refl rfl f66_69 (g := (mkF m 100 #[.val (.ref aT), .val (.int pF), .val (.ref aM), .val (.ref aF), .val (.int (3 : Int32))] [(.ref aT), (.int (3 : Int32))])) rfl rfl (hb hby d2_100)
  refine own_back ?_ st75
  show own_Go p e below PO (T75.setTop (mkF m 103 #[.val (.ref aT), .val (.int pF), .val (.ref aM), .val (.ref aF), .val (.int (3 : Int32))] [(.ref b8), (.int (3 : Int32))]))
  refine own_back ?_ (own_len X75 hx hZ e75 f66_72 (g := (mkF m 103 #[.val (.ref aT), .val (.int pF), .val (.ref aM), .val (.ref aF), .val (.int (3 : Int32))] [(.ref b8), (.int (3 : Int32))])) rfl rfl (hb hby d2_103))
  show own_Go p e below PO (T75.setTop (mkF m 104 #[.val (.ref aT), .val (.int pF), .val (.ref aM), .val (.ref aF), .val (.int (3 : Int32))] [(.int (3 : Int32)), (.int (3 : Int32))]))
  refine own_back ?_ (fun t k => XS.icmpYes X75.here hx rfl (pc0 := 104) (pc' := 134) rfl (hb hby d2_104) rfl (flt Int32.lt_irrefl).2.1 (by decide) (by decide) k)
  show own_Go p e below PO (T75.setTop (mkF m 134 #[.val (.ref aT), .val (.int pF), .val (.ref aM), .val (.ref aF), .val (.int (3 : Int32))] []))
  refine own_back ?_ (fun t k => XS.aloadN X75.here hx rfl (hb hby d2_134) rfl rfl k)
  show own_Go p e below PO (T75.setTop (mkF m 135 #[.val (.ref aT), .val (.int pF), .val (.ref aM), .val (.ref aF), .val (.int (3 : Int32))] [(.ref aT)]))
  obtain ⟨aS76, T76, h76, k76, X76, e76, E76, hS76, hk76, hZ, hown, st76⟩ := ldcS (s := s) (vm0 := T66.vm) X75 hx hZ hown (hw _ (List.mem_of_getElem? (i := 38) rfl)) (own_wS hw) e75 hS66 (Nat.le_refl _) (g := (mkF m 135 #[.val (.ref aT), .val (.int pF), .val (.ref aM), .val (.ref aF), .val (.int (3 : Int32))] [(.ref aT)])) rfl (hb hby d2_135) (n := 16) (by decide) (by decide) (by decide) (by decide)
  have f76_77 := f66_67.ext E76
  have f76_78 := f66_68.ext E76
  have f76_79 := f66_69.ext E76
  have f76_80 := f66_70.ext E76
  have f76_81 := f66_71.ext E76
  have f76_82 := f66_72.ext E76
  have f76_83 := f66_73.ext E76
  have f76_84 := f66_74.ext E76
  have K76 : Keep h0 h76 [aT] := (K66).ext E76
  have Zh76 : n0 ≤ h76.size := Nat.le_trans Z0 K76.1
  refine own_back ?_ st76
  show own_Go p e below PO (T76.setTop (mkF m 137 #[.val (.ref aT), .val (.int pF), .val (.ref aM), .val (.ref aF), .val (.int (3 : Int32))] [(.ref aS76), (.ref aT)]))
  refine own_back ?_ (fun t k => XS.aloadN X76.here hx rfl (hb hby d2_137) rfl rfl k)
  show own_Go p e below PO (T76.setTop (mkF m 138 #[.val (.ref aT), .val (.int pF), .val (.ref aM), .val (.ref aF), .val (.int (3 : Int32))] [(.ref aT), (.ref aS76), (.ref aT)]))
  obtain ⟨T85, X85, e85, st85⟩ := getF X76 hx hZ hown (host := "") (Or.inl (hw _ (List.mem_of_getElem? (i := 31) rfl))) Via.refl e76 f76_79 (g := (mkF m 138 #[.val (.ref aT), .val (.int pF), .val (.ref aM), .val (.ref aF), .val (.int (3 : Int32))] [(.ref aT), (.ref aS76), (.ref aT)])) rfl rfl (hb hby d2_138)
  refine own_back ?_ st85
  show own_Go p e below PO (T85.setTop (mkF m 141 #[.val (.ref aT), .val (.int pF), .val (.ref aM), .val (.ref aF), .val (.int (3 : Int32))] [(.ref b8), (.ref aS76), (.ref aT)]))
  obtain ⟨cq86, q86, q86'⟩ := f76_77.cell
  obtain ⟨_, _, ⟨T86, L86, k86, n86⟩, -, X86, ⟨Lc86, hQ86, l86, y86, z86⟩, st86⟩ := X85.privateBack hx (y := (⟨"com/example/overcap/overcap/model/MortalityTable", "checkLastRate", "(Ljava/lang/String;[D)V"⟩ : MethodName)) hown (mvT hZ (hw _ (List.mem_of_getElem? (i := 53) rfl))) (mvT hZ (hw _ (List.mem_of_getElem? (i := 54) rfl))) (own_selpriv (args' := #[]) (mvT hZ (hw _ (List.mem_of_getElem? (i := 60) rfl))) (Cond.privateMethod_at (mvP hZ (hw _ (List.mem_of_getElem? (i := 55) rfl)) (args := #[]))) (mvT hZ (hw _ (List.mem_of_getElem? (i := 54) rfl))) (by decide)) (Cond.privateMethod_at (mvP hZ (hw _ (List.mem_of_getElem? (i := 55) rfl)) (args := #[]))) (mvT hZ (hw _ (List.mem_of_getElem? (i := 56) rfl))) (by decide) (backOf (W := 0) (rmLast_3 l Z a0 hw [] aT aS76 b8 kM m0 m1 h76 n0 Zh76 f76_82) hZ (hw _ (List.mem_of_getElem? (i := 56) rfl)) (hw _ (List.mem_of_getElem? (i := 10) rfl)) (by decide) (by decide)) (g := (mkF m 141 #[.val (.ref aT), .val (.int pF), .val (.ref aM), .val (.ref aF), .val (.int (3 : Int32))] [(.ref b8), (.ref aS76), (.ref aT)])) rfl (by rw [hml]; rfl) (Steps.refl _) (a := aT) (by rw [e85]; exact q86) q86' (argsL := [(.ref aS76), (.ref b8)]) (rest := []) (lenOf pd_4 rfl) rfl (by show 2 * 0 + _ ≤ _; exact Nat.le_of_eq rfl) (hb hby d2_141) (fun _ _ => ⟨rfl, e85, (by decide : 16 + 0 ≤ _), (by decide : 170 + 0 ≤ _)⟩)
  dsimp only [Pt.U, Pt.locs, Pt.cells, Pt.slots] at X86 l86 y86 z86 st86 hQ86
  subst l86 y86 z86
  obtain ⟨rfl, N86q, e86⟩ := hQ86
  have N86 := Fr.app N66 N86q
  refine own_back ?_ (fun t k => st86.trans k)
  show own_Go p e below PO (T86.setTop (mkF m 144 #[.val (.ref aT), .val (.int pF), .val (.ref aM), .val (.ref aF), .val (.int (3 : Int32))] []))
  refine own_back ?_ (fun t k => XS.aloadN X86.here hx rfl (hb hby d2_144) rfl rfl k)
  show own_Go p e below PO (T86.setTop (mkF m 145 #[.val (.ref aT), .val (.int pF), .val (.ref aM), .val (.ref aF), .val (.int (3 : Int32))] [(.ref aT)]))
  obtain ⟨aS87, T87, h87, k87, X87, e87, E87, hS87, hk87, hZ, hown, st87⟩ := ldcS (s := s) (vm0 := T76.vm) X86 hx hZ hown (hw _ (List.mem_of_getElem? (i := 52) rfl)) (own_wS hw) e86 hS76 hk76 (g := (mkF m 145 #[.val (.ref aT), .val (.int pF), .val (.ref aM), .val (.ref aF), .val (.int (3 : Int32))] [(.ref aT)])) rfl (hb hby d2_145) (n := 24) (by decide) (by decide) (by decide) (by decide)
  have f87_88 := f76_77.ext E87
  have f87_89 := f76_78.ext E87
  have f87_90 := f76_79.ext E87
  have f87_91 := f76_80.ext E87
  have f87_92 := f76_81.ext E87
  have f87_93 := f76_82.ext E87
  have f87_94 := f76_83.ext E87
  have f87_95 := f76_84.ext E87
  have K87 : Keep h0 h87 [aT] := (K76).ext E87
  have Zh87 : n0 ≤ h87.size := Nat.le_trans Z0 K87.1
  refine own_back ?_ st87
  show own_Go p e below PO (T87.setTop (mkF m 147 #[.val (.ref aT), .val (.int pF), .val (.ref aM), .val (.ref aF), .val (.int (3 : Int32))] [(.ref aS87), (.ref aT)]))
  refine own_back ?_ (fun t k => XS.aloadN X87.here hx rfl (hb hby d2_147) rfl rfl k)
  show own_Go p e below PO (T87.setTop (mkF m 148 #[.val (.ref aT), .val (.int pF), .val (.ref aM), .val (.ref aF), .val (.int (3 : Int32))] [(.ref aT), (.ref aS87), (.ref aT)]))
  obtain ⟨T96, X96, e96, st96⟩ := getF X87 hx hZ hown (host := "") (Or.inl (hw _ (List.mem_of_getElem? (i := 33) rfl))) Via.refl e87 f87_91 (g := (mkF m 148 #[.val (.ref aT), .val (.int pF), .val (.ref aM), .val (.ref aF), .val (.int (3 : Int32))] [(.ref aT), (.ref aS87), (.ref aT)])) rfl rfl (hb hby d2_148)
  refine own_back ?_ st96
  show own_Go p e below PO (T96.setTop (mkF m 151 #[.val (.ref aT), .val (.int pF), .val (.ref aM), .val (.ref aF), .val (.int (3 : Int32))] [(.ref b20), (.ref aS87), (.ref aT)]))
  obtain ⟨cq97, q97, q97'⟩ := f87_88.cell
  obtain ⟨_, _, ⟨T97, L97, k97, n97⟩, -, X97, ⟨Lc97, hQ97, l97, y97, z97⟩, st97⟩ := X96.privateBack hx (y := (⟨"com/example/overcap/overcap/model/MortalityTable", "checkLastRate", "(Ljava/lang/String;[D)V"⟩ : MethodName)) hown (mvT hZ (hw _ (List.mem_of_getElem? (i := 53) rfl))) (mvT hZ (hw _ (List.mem_of_getElem? (i := 54) rfl))) (own_selpriv (args' := #[]) (mvT hZ (hw _ (List.mem_of_getElem? (i := 60) rfl))) (Cond.privateMethod_at (mvP hZ (hw _ (List.mem_of_getElem? (i := 55) rfl)) (args := #[]))) (mvT hZ (hw _ (List.mem_of_getElem? (i := 54) rfl))) (by decide)) (Cond.privateMethod_at (mvP hZ (hw _ (List.mem_of_getElem? (i := 55) rfl)) (args := #[]))) (mvT hZ (hw _ (List.mem_of_getElem? (i := 56) rfl))) (by decide) (backOf (W := 0) (rmLast_3 l Z a0 hw [] aT aS87 b20 kF f0 f1 h87 n0 Zh87 f87_95) hZ (hw _ (List.mem_of_getElem? (i := 56) rfl)) (hw _ (List.mem_of_getElem? (i := 10) rfl)) (by decide) (by decide)) (g := (mkF m 151 #[.val (.ref aT), .val (.int pF), .val (.ref aM), .val (.ref aF), .val (.int (3 : Int32))] [(.ref b20), (.ref aS87), (.ref aT)])) rfl (by rw [hml]; rfl) (Steps.refl _) (a := aT) (by rw [e96]; exact q97) q97' (argsL := [(.ref aS87), (.ref b20)]) (rest := []) (lenOf pd_4 rfl) rfl (by show 2 * 0 + _ ≤ _; exact Nat.le_of_eq rfl) (hb hby d2_151) (fun _ _ => ⟨rfl, e96, (by decide : 18 + 0 ≤ _), (by decide : 198 + 0 ≤ _)⟩)
  dsimp only [Pt.U, Pt.locs, Pt.cells, Pt.slots] at X97 l97 y97 z97 st97 hQ97
  subst l97 y97 z97
  obtain ⟨rfl, N97q, e97⟩ := hQ97
  have N97 := Fr.app N86 N97q
  refine own_back ?_ (fun t k => st97.trans k)
  show own_Go p e below PO (T97.setTop (mkF m 154 #[.val (.ref aT), .val (.int pF), .val (.ref aM), .val (.ref aF), .val (.int (3 : Int32))] []))
  refine own_retVW X97 hx Bd.returns (hb hby d2_154) e97 (Bd.notSynchronized) ?_ (by decide) (by decide) (s := s) (vm0 := T87.vm) hS87 hk87
  exact ⟨rfl, N97, K87, f87_89, b8, b20, sz_b8, sz_b20, f87_90, f87_91, f87_93, f87_95⟩
theorem ef_rmLA_3 (m : MethodId) (x0 : Addr) : entryFrame m #[(.ref x0)] 1 = mkF m 0 #[.val (.ref x0)] [] := by first | (simp [entryFrame, mkF, argsToLocals, Value.category]; done) | rfl
def Q_rmLA_3 (pF : Int32) (h0 : Heap) (n0 : Nat) (v : Option Value) (h : Heap) (L : List Loc) : Prop := v = some (.int ((pF + (3 : Int32)) - (1 : Int32))) ∧ Fr n0 L ∧ h = h0
set_option maxRecDepth 65536 in
set_option maxHeartbeats 40000000 in
theorem rmLA_3 (l : Launch) (Z : State) (a0 : Array Value) (hw : ∀ d ∈ tables_1, d.before a0 Z = true) (ws : List Jvm.Cond) (aT : Addr) (pF : Int32) (aM aF : Addr) (kM kF : ClassId) (m0 f0 m1 f1 : UInt64) (h0 : Heap) (n0 : Nat) (Z0 : n0 ≤ h0.size) (E_T : Exa Z h0 aT "com/example/overcap/overcap/model/MortalityTable") (FA : Fld Z h0 aT "com/example/overcap/overcap/model/MortalityTable" "firstAge" "I" (.int pF)) (FM : Fld Z h0 aT "com/example/overcap/overcap/model/MortalityTable" "maleQx" "[D" (.ref aM)) (FF : Fld Z h0 aT "com/example/overcap/overcap/model/MortalityTable" "femaleQx" "[D" (.ref aF)) (V_M : Arv Z h0 aM kM .double (3 : Int32) [(.double m0), (.double m1), (.double (4607182418800017408 : UInt64))] (.double (0 : UInt64))) (V_F : Arv Z h0 aF kF .double (3 : Int32) [(.double f0), (.double f1), (.double (4607182418800017408 : UInt64))] (.double (0 : UInt64))) :
    MetFree l (⟨"com/example/overcap/overcap/model/MortalityTable", "getLastAge", "()I"⟩ : MethodName) (head1 (Jvm.Cond.code (⟨"com/example/overcap/overcap/model/MortalityTable", "getLastAge", "()I"⟩ : MethodName) prog_79_method_5_code 1 (some .int) :: ws) ({ frames := 0, cells := 0, slots := 0, locals := 0 } : Room)) (fun a U => a = #[(.ref aT)] ∧ Z.Warmed39 U.vm ∧ U.heap = h0) (fun _ _ _ _ _ => True) (fun _ U o U' => ∃ v L, o = .returned v ∧ Q_rmLA_3 pF h0 n0 v U'.heap L ∧ FrameEnd U o U' L ({ frames := 0, cells := 0, slots := 0, locals := 0 } : Room).cells ({ frames := 0, cells := 0, slots := 0, locals := 0 } : Room).slots) := by
  refine MetFree.of_bodySF (plainFor_of_name pn_0) hisR ?_
  intro p e s m args below meth c s₁ Bd hml0 hP hK
  obtain ⟨rfl, hZ, hh⟩ := hP
  have hx := Bd.exec
  have hby := Bd.bytes
  have hml : c.maxLocals = 1 := hml0
  have hown : s.vm.findClass "com/example/overcap/overcap/model/MortalityTable" = some m.cls := findClass_of_methodNamed Bd.named
  have hnm := (name_of_methodNamed Bd.named Bd.method).1
  have X0 : Stand p l e ({ frames := 0, cells := 0, slots := 0, locals := 0 } : Room) s m #[(.ref aT)] below meth c s₁ [] 0 0 := Stand.of_body Bd
  have e0 : s₁.heap = h0 := by rw [← hh, Bd.state]; rfl
  have N0 := Fr.nil n0
  let PO : Outcome → State → Prop := own_PO s (Q_rmLA_3 pF h0 n0) 0 0
  show own_Go p e below PO (s₁.setTop (entryFrame m #[(.ref aT)] 1))
  rw [ef_rmLA_3]
  show own_Go p e below PO (s₁.setTop (mkF m 0 #[.val (.ref aT)] []))
  refine own_back ?_ (fun t k => XS.aloadN X0.here hx rfl (hb hby d9_0) rfl rfl k)
  show own_Go p e below PO (s₁.setTop (mkF m 1 #[.val (.ref aT)] [(.ref aT)]))
  obtain ⟨T1, X1, e1, st1⟩ := getF X0 hx hZ hown (host := "") (Or.inl (hw _ (List.mem_of_getElem? (i := 20) rfl))) Via.refl e0 FA (g := (mkF m 1 #[.val (.ref aT)] [(.ref aT)])) rfl rfl (hb hby d9_1)
  refine own_back ?_ st1
  show own_Go p e below PO (T1.setTop (mkF m 4 #[.val (.ref aT)] [(.int pF)]))
  refine own_back ?_ (fun t k => XS.aloadN X1.here hx rfl (hb hby d9_4) rfl rfl k)
  show own_Go p e below PO (T1.setTop (mkF m 5 #[.val (.ref aT)] [(.ref aT), (.int pF)]))
  obtain ⟨T2, X2, e2, st2⟩ := getF X1 hx hZ hown (host := "") (Or.inl (hw _ (List.mem_of_getElem? (i := 31) rfl))) Via.refl e1 FM (g := (mkF m 5 #[.val (.ref aT)] [(.ref aT), (.int pF)])) rfl rfl (hb hby d9_5)
  refine own_back ?_ st2
  show own_Go p e below PO (T2.setTop (mkF m 8 #[.val (.ref aT)] [(.ref aM), (.int pF)]))
  refine own_back ?_ (own_len X2 hx hZ e2 V_M (g := (mkF m 8 #[.val (.ref aT)] [(.ref aM), (.int pF)])) rfl rfl (hb hby d9_8))
  show own_Go p e below PO (T2.setTop (mkF m 9 #[.val (.ref aT)] [(.int (3 : Int32)), (.int pF)]))
  refine own_back ?_ (fun t k => XS.iadd X2.here hx rfl (hb hby d9_9) rfl k)
  show own_Go p e below PO (T2.setTop (mkF m 10 #[.val (.ref aT)] [(.int (pF + (3 : Int32)))]))
  refine own_back ?_ (fun t k => XS.iconst X2.here hx rfl (hb hby d9_10) k)
  show own_Go p e below PO (T2.setTop (mkF m 11 #[.val (.ref aT)] [(.int (1 : Int32)), (.int (pF + (3 : Int32)))]))
  refine own_back ?_ (fun t k => XS.isub X2.here hx rfl (hb hby d9_11) rfl k)
  show own_Go p e below PO (T2.setTop (mkF m 12 #[.val (.ref aT)] [(.int ((pF + (3 : Int32)) - (1 : Int32)))]))
  refine own_retI X2 hx (rest := []) Bd.returns (hb hby d9_12) e2 (Bd.notSynchronized) ?_ (by decide) (by decide)
  exact ⟨rfl, N0, rfl⟩
theorem ef_rmQx_3_0 (m : MethodId) (x0 : Addr) (x1 : Int32) (x2 : UInt64) : entryFrame m #[(.ref x0), (.int x1), (.double x2)] 5 = mkF m 0 #[.val (.ref x0), .val (.int x1), .val (.double x2), .second, .unset] [] := by first | (simp [entryFrame, mkF, argsToLocals, Value.category]; done) | rfl
def Q_rmQx_3_0 (uR : UInt64) (m0 f0 m1 f1 : UInt64) (h0 : Heap) (n0 : Nat) (v : Option Value) (h : Heap) (L : List Loc) : Prop := v = some (.double (own_mix uR m0 f0)) ∧ Fr n0 L ∧ h = h0
set_option maxRecDepth 65536 in
set_option maxHeartbeats 40000000 in
theorem rmQx_3_0 (l : Launch) (Z : State) (a0 : Array Value) (hw : ∀ d ∈ tables_1, d.before a0 Z = true) (ws : List Jvm.Cond) (aT : Addr) (pA : Int32) (uR : UInt64) (pF : Int32) (aM aF : Addr) (kM kF : ClassId) (m0 f0 m1 f1 : UInt64) (h0 : Heap) (n0 : Nat) (Z0 : n0 ≤ h0.size) (E_T : Exa Z h0 aT "com/example/overcap/overcap/model/MortalityTable") (FA : Fld Z h0 aT "com/example/overcap/overcap/model/MortalityTable" "firstAge" "I" (.int pF)) (FM : Fld Z h0 aT "com/example/overcap/overcap/model/MortalityTable" "maleQx" "[D" (.ref aM)) (FF : Fld Z h0 aT "com/example/overcap/overcap/model/MortalityTable" "femaleQx" "[D" (.ref aF)) (V_M : Arv Z h0 aM kM .double (3 : Int32) [(.double m0), (.double m1), (.double (4607182418800017408 : UInt64))] (.double (0 : UInt64))) (V_F : Arv Z h0 aF kF .double (3 : Int32) [(.double f0), (.double f1), (.double (4607182418800017408 : UInt64))] (.double (0 : UInt64))) (hlo : ¬ pA < pF) (hhi : ¬ ((pF + (3 : Int32)) - (1 : Int32)) < pA) (hix : pA - pF = (0 : Int32)) (hR : own_ok uR) (hn : own_mixN uR m0 f0) :
    MetFree l (⟨"com/example/overcap/overcap/model/MortalityTable", "getQx", "(ID)D"⟩ : MethodName) (head1 (Jvm.Cond.code (⟨"com/example/overcap/overcap/model/MortalityTable", "getQx", "(ID)D"⟩ : MethodName) prog_79_method_6_code 5 (some .double) :: ws) ({ frames := 1, cells := 0, slots := 0, locals := 13 } : Room)) (fun a U => a = #[(.ref aT), (.int pA), (.double uR)] ∧ Z.Warmed39 U.vm ∧ U.heap = h0) (fun _ _ _ _ _ => True) (fun _ U o U' => ∃ v L, o = .returned v ∧ Q_rmQx_3_0 uR m0 f0 m1 f1 h0 n0 v U'.heap L ∧ FrameEnd U o U' L ({ frames := 1, cells := 0, slots := 0, locals := 13 } : Room).cells ({ frames := 1, cells := 0, slots := 0, locals := 13 } : Room).slots) := by
  refine MetFree.of_bodySF (plainFor_of_name pn_0) hisR ?_
  intro p e s m args below meth c s₁ Bd hml0 hP hK
  obtain ⟨rfl, hZ, hh⟩ := hP
  have hx := Bd.exec
  have hby := Bd.bytes
  have hml : c.maxLocals = 5 := hml0
  have hown : s.vm.findClass "com/example/overcap/overcap/model/MortalityTable" = some m.cls := findClass_of_methodNamed Bd.named
  have hnm := (name_of_methodNamed Bd.named Bd.method).1
  have X0 : Stand p l e ({ frames := 1, cells := 0, slots := 0, locals := 13 } : Room) s m #[(.ref aT), (.int pA), (.double uR)] below meth c s₁ [] 0 0 := Stand.of_body Bd
  have e0 : s₁.heap = h0 := by rw [← hh, Bd.state]; rfl
  have N0 := Fr.nil n0
  let PO : Outcome → State → Prop := own_PO s (Q_rmQx_3_0 uR m0 f0 m1 f1 h0 n0) 0 0
  show own_Go p e below PO (s₁.setTop (entryFrame m #[(.ref aT), (.int pA), (.double uR)] 5))
  rw [ef_rmQx_3_0]
  show own_Go p e below PO (s₁.setTop (mkF m 0 #[.val (.ref aT), .val (.int pA), .val (.double uR), .second, .unset] []))
  refine own_back ?_ (fun t k => XS.iloadN X0.here hx rfl (hb hby d11_0) rfl k)
  show own_Go p e below PO (s₁.setTop (mkF m 1 #[.val (.ref aT), .val (.int pA), .val (.double uR), .second, .unset] [(.int pA)]))
  refine own_back ?_ (fun t k => XS.aloadN X0.here hx rfl (hb hby d11_1) rfl rfl k)
  show own_Go p e below PO (s₁.setTop (mkF m 2 #[.val (.ref aT), .val (.int pA), .val (.double uR), .second, .unset] [(.ref aT), (.int pA)]))
  obtain ⟨T1, X1, e1, st1⟩ := getF X0 hx hZ hown (host := "") (Or.inl (hw _ (List.mem_of_getElem? (i := 20) rfl))) Via.refl e0 FA (g := (mkF m 2 #[.val (.ref aT), .val (.int pA), .val (.double uR), .second, .unset] [(.ref aT), (.int pA)])) rfl rfl (hb hby d11_2)
  refine own_back ?_ st1
  show own_Go p e below PO (T1.setTop (mkF m 5 #[.val (.ref aT), .val (.int pA), .val (.double uR), .second, .unset] [(.int pF), (.int pA)]))
  refine own_back ?_ (fun t k => XS.icmpNo X1.here hx rfl (hb hby d11_5) rfl (flt hlo).1 k)
  show own_Go p e below PO (T1.setTop (mkF m 8 #[.val (.ref aT), .val (.int pA), .val (.double uR), .second, .unset] []))
  refine own_back ?_ (fun t k => XS.iloadN X1.here hx rfl (hb hby d11_8) rfl k)
  show own_Go p e below PO (T1.setTop (mkF m 9 #[.val (.ref aT), .val (.int pA), .val (.double uR), .second, .unset] [(.int pA)]))
  refine own_back ?_ (fun t k => XS.aloadN X1.here hx rfl (hb hby d11_9) rfl rfl k)
  show own_Go p e below PO (T1.setTop (mkF m 10 #[.val (.ref aT), .val (.int pA), .val (.double uR), .second, .unset] [(.ref aT), (.int pA)]))
  obtain ⟨cq2, kq2, q2a, q2b, q2c⟩ := isOf hZ e1 E_T
  obtain ⟨_, _, ⟨T2, L2, k2, n2⟩, -, X2, ⟨Lc2, hQ2, l2, y2, z2⟩, st2⟩ := X1.virtualBack hx (y := (⟨"com/example/overcap/overcap/model/MortalityTable", "getLastAge", "()I"⟩ : MethodName)) (z := (⟨"com/example/overcap/overcap/model/MortalityTable", "getLastAge", "()I"⟩ : MethodName)) hown (mvT hZ (hw _ (List.mem_of_getElem? (i := 72) rfl))) (mvT hZ (hw _ (List.mem_of_getElem? (i := 58) rfl))) (notFace_of_selects (args := #[]) (mvT hZ (hw _ (List.mem_of_getElem? (i := 60) rfl)))) (mvT hZ (hw _ (List.mem_of_getElem? (i := 60) rfl))) (mvT hZ (hw _ (List.mem_of_getElem? (i := 59) rfl))) (by decide) (backOf (W := 1) (rmLA_3 l Z a0 hw [] aT pF aM aF kM kF m0 f0 m1 f1 h0 n0 Z0 E_T FA FM FF V_M V_F) hZ (hw _ (List.mem_of_getElem? (i := 61) rfl)) (hw _ (List.mem_of_getElem? (i := 10) rfl)) (by decide) (by decide)) q2a q2c (g := (mkF m 10 #[.val (.ref aT), .val (.int pA), .val (.double uR), .second, .unset] [(.ref aT), (.int pA)])) rfl (by rw [hml]; rfl) (Steps.refl _) (argsL := []) (rest := [(.int pA)]) (lenOf pd_5 rfl) rfl (by show 2 * 0 + _ ≤ _; exact Nat.le_of_eq rfl) (hb hby d11_10) (fun _ _ => ⟨rfl, e1, (by decide : 0 + 0 ≤ _), (by decide : 0 + 0 ≤ _)⟩)
  dsimp only [Pt.U, Pt.locs, Pt.cells, Pt.slots] at X2 l2 y2 z2 st2 hQ2
  subst l2 y2 z2
  obtain ⟨rfl, N2q, e2⟩ := hQ2
  have N2 := Fr.app N0 N2q
  refine own_back ?_ (fun t k => st2.trans k)
  show own_Go p e below PO (T2.setTop (mkF m 13 #[.val (.ref aT), .val (.int pA), .val (.double uR), .second, .unset] [(.int ((pF + (3 : Int32)) - (1 : Int32))), (.int pA)]))
  refine own_back ?_ (fun t k => XS.icmpYes X2.here hx rfl (pc0 := 13) (pc' := 38) rfl (hb hby d11_13) rfl (flt hhi).2.2.2 (by decide) (by decide) k)
  show own_Go p e below PO (T2.setTop (mkF m 38 #[.val (.ref aT), .val (.int pA), .val (.double uR), .second, .unset] []))
  refine own_back ?_ (fun t k => XS.dloadN X2.here hx rfl (hb hby d11_38) rfl k)
  show own_Go p e below PO (T2.setTop (mkF m 39 #[.val (.ref aT), .val (.int pA), .val (.double uR), .second, .unset] [(.double uR)]))
  obtain ⟨_, _, ⟨T3, L3, k3, n3⟩, -, X3, ⟨Lc3, hQ3, l3, y3, z3⟩, st3⟩ := Jvm.LawKit.callS X2 hx (y := (⟨"com/example/overcap/overcap/model/MortalityTable", "isFromZeroToOne", "(D)Z"⟩ : MethodName)) hown (mvT hZ (hw _ (List.mem_of_getElem? (i := 49) rfl))) (mvT hZ (hw _ (List.mem_of_getElem? (i := 50) rfl))) (mvT hZ (hw _ (List.mem_of_getElem? (i := 10) rfl))) (mvT hZ (hw _ (List.mem_of_getElem? (i := 51) rfl))) (by decide) (backOf (W := 0) (rmIs l Z a0 hw [] uR  h0 n0 Z0 hR) hZ (hw _ (List.mem_of_getElem? (i := 51) rfl)) (hw _ (List.mem_of_getElem? (i := 10) rfl)) (by decide) (by decide)) (g := (mkF m 39 #[.val (.ref aT), .val (.int pA), .val (.double uR), .second, .unset] [(.double uR)])) rfl (by rw [hml]; rfl) (argsL := [(.double uR)]) (rest := []) (lenOf pd_0 rfl) rfl (by show 2 * 0 + _ ≤ _; exact Nat.le_of_eq rfl) (hb hby d11_39) (fun _ _ => ⟨rfl, e2, (by decide : 0 + 0 ≤ _), (by decide : 0 + 0 ≤ _)⟩)
  dsimp only [Pt.U, Pt.locs, Pt.cells, Pt.slots] at X3 l3 y3 z3 st3 hQ3
  subst l3 y3 z3
  obtain ⟨rfl, N3q, e3⟩ := hQ3
  have N3 := Fr.app N2 N3q
  refine own_back ?_ st3
  show own_Go p e below PO (T3.setTop (mkF m 42 #[.val (.ref aT), .val (.int pA), .val (.double uR), .second, .unset] [(.int (1 : Int32))]))
  have hd42_4 : ¬ ((1 : Int32) = (0 : Int32)) := (by decide)
  refine own_back ?_ (fun t k => XS.ifYes X3.here hx rfl (pc0 := 42) (pc' := 59) rfl (hb hby d11_42) rfl ((if0 _ _).trans (feq hd42_4).2) (by decide) (by decide) k)
  show own_Go p e below PO (T3.setTop (mkF m 59 #[.val (.ref aT), .val (.int pA), .val (.double uR), .second, .unset] []))
  refine own_back ?_ (fun t k => XS.iloadN X3.here hx rfl (hb hby d11_59) rfl k)
  show own_Go p e below PO (T3.setTop (mkF m 60 #[.val (.ref aT), .val (.int pA), .val (.double uR), .second, .unset] [(.int pA)]))
  refine own_back ?_ (fun t k => XS.aloadN X3.here hx rfl (hb hby d11_60) rfl rfl k)
  show own_Go p e below PO (T3.setTop (mkF m 61 #[.val (.ref aT), .val (.int pA), .val (.double uR), .second, .unset] [(.ref aT), (.int pA)]))
  obtain ⟨T5, X5, e5, st5⟩ := getF X3 hx hZ hown (host := "") (Or.inl (hw _ (List.mem_of_getElem? (i := 20) rfl))) Via.refl e3 FA (g := (mkF m 61 #[.val (.ref aT), .val (.int pA), .val (.double uR), .second, .unset] [(.ref aT), (.int pA)])) rfl rfl (hb hby d11_61)
  refine own_back ?_ st5
  show own_Go p e below PO (T5.setTop (mkF m 64 #[.val (.ref aT), .val (.int pA), .val (.double uR), .second, .unset] [(.int pF), (.int pA)]))
  refine own_back ?_ (fun t k => XS.isub X5.here hx rfl (hb hby d11_64) rfl k)
  show own_Go p e below PO (T5.setTop (mkF m 65 #[.val (.ref aT), .val (.int pA), .val (.double uR), .second, .unset] [(.int (pA - pF))]))
  refine own_back ?_ (fun t k => XS.istore X5.here hx rfl (hb hby d11_65) rfl (l' := #[.val (.ref aT), .val (.int pA), .val (.double uR), .second, .val (.int (pA - pF))]) rfl k)
  show own_Go p e below PO (T5.setTop (mkF m 67 #[.val (.ref aT), .val (.int pA), .val (.double uR), .second, .val (.int (pA - pF))] []))
  refine own_gen (A := Int32) (pA - pF) (fun v4_6 => own_Go p e below PO (T5.setTop (mkF m 67 #[.val (.ref aT), .val (.int pA), .val (.double uR), .second, .val (.int v4_6)] []))) ?_
  intro v4_6 h_v4_6
  show own_Go p e below PO (T5.setTop (mkF m 67 #[.val (.ref aT), .val (.int pA), .val (.double uR), .second, .val (.int v4_6)] []))
  have q4 : v4_6 = (0 : Int32) := h_v4_6.trans hix
  subst q4
  show own_Go p e below PO (T5.setTop (mkF m 67 #[.val (.ref aT), .val (.int pA), .val (.double uR), .second, .val (.int (0 : Int32))] []))
  refine own_back ?_ (fun t k => XS.dloadN X5.here hx rfl (hb hby d11_67) rfl k)
  show own_Go p e below PO (T5.setTop (mkF m 68 #[.val (.ref aT), .val (.int pA), .val (.double uR), .second, .val (.int (0 : Int32))] [(.double uR)]))
  refine own_back ?_ (fun t k => XS.aloadN X5.here hx rfl (hb hby d11_68) rfl rfl k)
  show own_Go p e below PO (T5.setTop (mkF m 69 #[.val (.ref aT), .val (.int pA), .val (.double uR), .second, .val (.int (0 : Int32))] [(.ref aT), (.double uR)]))
  obtain ⟨T7, X7, e7, st7⟩ := getF X5 hx hZ hown (host := "") (Or.inl (hw _ (List.mem_of_getElem? (i := 31) rfl))) Via.refl e5 FM (g := (mkF m 69 #[.val (.ref aT), .val (.int pA), .val (.double uR), .second, .val (.int (0 : Int32))] [(.ref aT), (.double uR)])) rfl rfl (hb hby d11_69)
  refine own_back ?_ st7
  show own_Go p e below PO (T7.setTop (mkF m 72 #[.val (.ref aT), .val (.int pA), .val (.double uR), .second, .val (.int (0 : Int32))] [(.ref aM), (.double uR)]))
  refine own_back ?_ (fun t k => XS.iload X7.here hx rfl (hb hby d11_72) rfl k)
  show own_Go p e below PO (T7.setTop (mkF m 74 #[.val (.ref aT), .val (.int pA), .val (.double uR), .second, .val (.int (0 : Int32))] [(.int (0 : Int32)), (.ref aM), (.double uR)]))
  refine own_back ?_ (own_ldD X7 hx hZ e7 V_M (j := (0 : Int32)) (v := (.double m0)) ⟨by decide, by decide⟩ rfl (g := (mkF m 74 #[.val (.ref aT), .val (.int pA), .val (.double uR), .second, .val (.int (0 : Int32))] [(.int (0 : Int32)), (.ref aM), (.double uR)])) rfl rfl (hb hby d11_74))
  show own_Go p e below PO (T7.setTop (mkF m 75 #[.val (.ref aT), .val (.int pA), .val (.double uR), .second, .val (.int (0 : Int32))] [(.double m0), (.double uR)]))
  refine own_back ?_ (fun t k => XS.dmulS X7.here hx rfl (v := (FP.dmul uR m0)) (hb hby d11_75) rfl hn.1 rfl k)
  show own_Go p e below PO (T7.setTop (mkF m 76 #[.val (.ref aT), .val (.int pA), .val (.double uR), .second, .val (.int (0 : Int32))] [(.double (FP.dmul uR m0))]))
  refine own_back ?_ (fun t k => XS.dconst1 X7.here hx rfl (v := (4607182418800017408 : UInt64)) (hb hby d11_76) (by decide +kernel) k)
  show own_Go p e below PO (T7.setTop (mkF m 77 #[.val (.ref aT), .val (.int pA), .val (.double uR), .second, .val (.int (0 : Int32))] [(.double (4607182418800017408 : UInt64)), (.double (FP.dmul uR m0))]))
  refine own_back ?_ (fun t k => XS.dloadN X7.here hx rfl (hb hby d11_77) rfl k)
  show own_Go p e below PO (T7.setTop (mkF m 78 #[.val (.ref aT), .val (.int pA), .val (.double uR), .second, .val (.int (0 : Int32))] [(.double uR), (.double (4607182418800017408 : UInt64)), (.double (FP.dmul uR m0))]))
  refine own_back ?_ (fun t k => XS.dsubS X7.here hx rfl (v := (FP.dsub (4607182418800017408 : UInt64) uR)) (hb hby d11_78) rfl hn.2.1 rfl k)
  show own_Go p e below PO (T7.setTop (mkF m 79 #[.val (.ref aT), .val (.int pA), .val (.double uR), .second, .val (.int (0 : Int32))] [(.double (FP.dsub (4607182418800017408 : UInt64) uR)), (.double (FP.dmul uR m0))]))
  refine own_back ?_ (fun t k => XS.aloadN X7.here hx rfl (hb hby d11_79) rfl rfl k)
  show own_Go p e below PO (T7.setTop (mkF m 80 #[.val (.ref aT), .val (.int pA), .val (.double uR), .second, .val (.int (0 : Int32))] [(.ref aT), (.double (FP.dsub (4607182418800017408 : UInt64) uR)), (.double (FP.dmul uR m0))]))
  obtain ⟨T8, X8, e8, st8⟩ := getF X7 hx hZ hown (host := "") (Or.inl (hw _ (List.mem_of_getElem? (i := 33) rfl))) Via.refl e7 FF (g := (mkF m 80 #[.val (.ref aT), .val (.int pA), .val (.double uR), .second, .val (.int (0 : Int32))] [(.ref aT), (.double (FP.dsub (4607182418800017408 : UInt64) uR)), (.double (FP.dmul uR m0))])) rfl rfl (hb hby d11_80)
  refine own_back ?_ st8
  show own_Go p e below PO (T8.setTop (mkF m 83 #[.val (.ref aT), .val (.int pA), .val (.double uR), .second, .val (.int (0 : Int32))] [(.ref aF), (.double (FP.dsub (4607182418800017408 : UInt64) uR)), (.double (FP.dmul uR m0))]))
  refine own_back ?_ (fun t k => XS.iload X8.here hx rfl (hb hby d11_83) rfl k)
  show own_Go p e below PO (T8.setTop (mkF m 85 #[.val (.ref aT), .val (.int pA), .val (.double uR), .second, .val (.int (0 : Int32))] [(.int (0 : Int32)), (.ref aF), (.double (FP.dsub (4607182418800017408 : UInt64) uR)), (.double (FP.dmul uR m0))]))
  refine own_back ?_ (own_ldD X8 hx hZ e8 V_F (j := (0 : Int32)) (v := (.double f0)) ⟨by decide, by decide⟩ rfl (g := (mkF m 85 #[.val (.ref aT), .val (.int pA), .val (.double uR), .second, .val (.int (0 : Int32))] [(.int (0 : Int32)), (.ref aF), (.double (FP.dsub (4607182418800017408 : UInt64) uR)), (.double (FP.dmul uR m0))])) rfl rfl (hb hby d11_85))
  show own_Go p e below PO (T8.setTop (mkF m 86 #[.val (.ref aT), .val (.int pA), .val (.double uR), .second, .val (.int (0 : Int32))] [(.double f0), (.double (FP.dsub (4607182418800017408 : UInt64) uR)), (.double (FP.dmul uR m0))]))
  refine own_back ?_ (fun t k => XS.dmulS X8.here hx rfl (v := (FP.dmul (FP.dsub (4607182418800017408 : UInt64) uR) f0)) (hb hby d11_86) rfl hn.2.2.1 rfl k)
  show own_Go p e below PO (T8.setTop (mkF m 87 #[.val (.ref aT), .val (.int pA), .val (.double uR), .second, .val (.int (0 : Int32))] [(.double (FP.dmul (FP.dsub (4607182418800017408 : UInt64) uR) f0)), (.double (FP.dmul uR m0))]))
  refine own_back ?_ (fun t k => XS.daddS X8.here hx rfl (v := (FP.dadd (FP.dmul uR m0) (FP.dmul (FP.dsub (4607182418800017408 : UInt64) uR) f0))) (hb hby d11_87) rfl hn.2.2.2 rfl k)
  show own_Go p e below PO (T8.setTop (mkF m 88 #[.val (.ref aT), .val (.int pA), .val (.double uR), .second, .val (.int (0 : Int32))] [(.double (FP.dadd (FP.dmul uR m0) (FP.dmul (FP.dsub (4607182418800017408 : UInt64) uR) f0)))]))
  refine own_retD X8 hx (rest := []) Bd.returns (hb hby d11_88) e8 (Bd.notSynchronized) ?_ (by decide) (by decide)
  exact ⟨rfl, N3, rfl⟩
theorem ef_rmQx_3_1 (m : MethodId) (x0 : Addr) (x1 : Int32) (x2 : UInt64) : entryFrame m #[(.ref x0), (.int x1), (.double x2)] 5 = mkF m 0 #[.val (.ref x0), .val (.int x1), .val (.double x2), .second, .unset] [] := by first | (simp [entryFrame, mkF, argsToLocals, Value.category]; done) | rfl
def Q_rmQx_3_1 (uR : UInt64) (m0 f0 m1 f1 : UInt64) (h0 : Heap) (n0 : Nat) (v : Option Value) (h : Heap) (L : List Loc) : Prop := v = some (.double (own_mix uR m1 f1)) ∧ Fr n0 L ∧ h = h0
set_option maxRecDepth 65536 in
set_option maxHeartbeats 40000000 in
theorem rmQx_3_1 (l : Launch) (Z : State) (a0 : Array Value) (hw : ∀ d ∈ tables_1, d.before a0 Z = true) (ws : List Jvm.Cond) (aT : Addr) (pA : Int32) (uR : UInt64) (pF : Int32) (aM aF : Addr) (kM kF : ClassId) (m0 f0 m1 f1 : UInt64) (h0 : Heap) (n0 : Nat) (Z0 : n0 ≤ h0.size) (E_T : Exa Z h0 aT "com/example/overcap/overcap/model/MortalityTable") (FA : Fld Z h0 aT "com/example/overcap/overcap/model/MortalityTable" "firstAge" "I" (.int pF)) (FM : Fld Z h0 aT "com/example/overcap/overcap/model/MortalityTable" "maleQx" "[D" (.ref aM)) (FF : Fld Z h0 aT "com/example/overcap/overcap/model/MortalityTable" "femaleQx" "[D" (.ref aF)) (V_M : Arv Z h0 aM kM .double (3 : Int32) [(.double m0), (.double m1), (.double (4607182418800017408 : UInt64))] (.double (0 : UInt64))) (V_F : Arv Z h0 aF kF .double (3 : Int32) [(.double f0), (.double f1), (.double (4607182418800017408 : UInt64))] (.double (0 : UInt64))) (hlo : ¬ pA < pF) (hhi : ¬ ((pF + (3 : Int32)) - (1 : Int32)) < pA) (hix : pA - pF = (1 : Int32)) (hR : own_ok uR) (hn : own_mixN uR m1 f1) :
    MetFree l (⟨"com/example/overcap/overcap/model/MortalityTable", "getQx", "(ID)D"⟩ : MethodName) (head1 (Jvm.Cond.code (⟨"com/example/overcap/overcap/model/MortalityTable", "getQx", "(ID)D"⟩ : MethodName) prog_79_method_6_code 5 (some .double) :: ws) ({ frames := 1, cells := 0, slots := 0, locals := 13 } : Room)) (fun a U => a = #[(.ref aT), (.int pA), (.double uR)] ∧ Z.Warmed39 U.vm ∧ U.heap = h0) (fun _ _ _ _ _ => True) (fun _ U o U' => ∃ v L, o = .returned v ∧ Q_rmQx_3_1 uR m0 f0 m1 f1 h0 n0 v U'.heap L ∧ FrameEnd U o U' L ({ frames := 1, cells := 0, slots := 0, locals := 13 } : Room).cells ({ frames := 1, cells := 0, slots := 0, locals := 13 } : Room).slots) := by
  refine MetFree.of_bodySF (plainFor_of_name pn_0) hisR ?_
  intro p e s m args below meth c s₁ Bd hml0 hP hK
  obtain ⟨rfl, hZ, hh⟩ := hP
  have hx := Bd.exec
  have hby := Bd.bytes
  have hml : c.maxLocals = 5 := hml0
  have hown : s.vm.findClass "com/example/overcap/overcap/model/MortalityTable" = some m.cls := findClass_of_methodNamed Bd.named
  have hnm := (name_of_methodNamed Bd.named Bd.method).1
  have X0 : Stand p l e ({ frames := 1, cells := 0, slots := 0, locals := 13 } : Room) s m #[(.ref aT), (.int pA), (.double uR)] below meth c s₁ [] 0 0 := Stand.of_body Bd
  have e0 : s₁.heap = h0 := by rw [← hh, Bd.state]; rfl
  have N0 := Fr.nil n0
  let PO : Outcome → State → Prop := own_PO s (Q_rmQx_3_1 uR m0 f0 m1 f1 h0 n0) 0 0
  show own_Go p e below PO (s₁.setTop (entryFrame m #[(.ref aT), (.int pA), (.double uR)] 5))
  rw [ef_rmQx_3_1]
  show own_Go p e below PO (s₁.setTop (mkF m 0 #[.val (.ref aT), .val (.int pA), .val (.double uR), .second, .unset] []))
  refine own_back ?_ (fun t k => XS.iloadN X0.here hx rfl (hb hby d11_0) rfl k)
  show own_Go p e below PO (s₁.setTop (mkF m 1 #[.val (.ref aT), .val (.int pA), .val (.double uR), .second, .unset] [(.int pA)]))
  refine own_back ?_ (fun t k => XS.aloadN X0.here hx rfl (hb hby d11_1) rfl rfl k)
  show own_Go p e below PO (s₁.setTop (mkF m 2 #[.val (.ref aT), .val (.int pA), .val (.double uR), .second, .unset] [(.ref aT), (.int pA)]))
  obtain ⟨T1, X1, e1, st1⟩ := getF X0 hx hZ hown (host := "") (Or.inl (hw _ (List.mem_of_getElem? (i := 20) rfl))) Via.refl e0 FA (g := (mkF m 2 #[.val (.ref aT), .val (.int pA), .val (.double uR), .second, .unset] [(.ref aT), (.int pA)])) rfl rfl (hb hby d11_2)
  refine own_back ?_ st1
  show own_Go p e below PO (T1.setTop (mkF m 5 #[.val (.ref aT), .val (.int pA), .val (.double uR), .second, .unset] [(.int pF), (.int pA)]))
  refine own_back ?_ (fun t k => XS.icmpNo X1.here hx rfl (hb hby d11_5) rfl (flt hlo).1 k)
  show own_Go p e below PO (T1.setTop (mkF m 8 #[.val (.ref aT), .val (.int pA), .val (.double uR), .second, .unset] []))
  refine own_back ?_ (fun t k => XS.iloadN X1.here hx rfl (hb hby d11_8) rfl k)
  show own_Go p e below PO (T1.setTop (mkF m 9 #[.val (.ref aT), .val (.int pA), .val (.double uR), .second, .unset] [(.int pA)]))
  refine own_back ?_ (fun t k => XS.aloadN X1.here hx rfl (hb hby d11_9) rfl rfl k)
  show own_Go p e below PO (T1.setTop (mkF m 10 #[.val (.ref aT), .val (.int pA), .val (.double uR), .second, .unset] [(.ref aT), (.int pA)]))
  obtain ⟨cq2, kq2, q2a, q2b, q2c⟩ := isOf hZ e1 E_T
  obtain ⟨_, _, ⟨T2, L2, k2, n2⟩, -, X2, ⟨Lc2, hQ2, l2, y2, z2⟩, st2⟩ := X1.virtualBack hx (y := (⟨"com/example/overcap/overcap/model/MortalityTable", "getLastAge", "()I"⟩ : MethodName)) (z := (⟨"com/example/overcap/overcap/model/MortalityTable", "getLastAge", "()I"⟩ : MethodName)) hown (mvT hZ (hw _ (List.mem_of_getElem? (i := 72) rfl))) (mvT hZ (hw _ (List.mem_of_getElem? (i := 58) rfl))) (notFace_of_selects (args := #[]) (mvT hZ (hw _ (List.mem_of_getElem? (i := 60) rfl)))) (mvT hZ (hw _ (List.mem_of_getElem? (i := 60) rfl))) (mvT hZ (hw _ (List.mem_of_getElem? (i := 59) rfl))) (by decide) (backOf (W := 1) (rmLA_3 l Z a0 hw [] aT pF aM aF kM kF m0 f0 m1 f1 h0 n0 Z0 E_T FA FM FF V_M V_F) hZ (hw _ (List.mem_of_getElem? (i := 61) rfl)) (hw _ (List.mem_of_getElem? (i := 10) rfl)) (by decide) (by decide)) q2a q2c (g := (mkF m 10 #[.val (.ref aT), .val (.int pA), .val (.double uR), .second, .unset] [(.ref aT), (.int pA)])) rfl (by rw [hml]; rfl) (Steps.refl _) (argsL := []) (rest := [(.int pA)]) (lenOf pd_5 rfl) rfl (by show 2 * 0 + _ ≤ _; exact Nat.le_of_eq rfl) (hb hby d11_10) (fun _ _ => ⟨rfl, e1, (by decide : 0 + 0 ≤ _), (by decide : 0 + 0 ≤ _)⟩)
  dsimp only [Pt.U, Pt.locs, Pt.cells, Pt.slots] at X2 l2 y2 z2 st2 hQ2
  subst l2 y2 z2
  obtain ⟨rfl, N2q, e2⟩ := hQ2
  have N2 := Fr.app N0 N2q
  refine own_back ?_ (fun t k => st2.trans k)
  show own_Go p e below PO (T2.setTop (mkF m 13 #[.val (.ref aT), .val (.int pA), .val (.double uR), .second, .unset] [(.int ((pF + (3 : Int32)) - (1 : Int32))), (.int pA)]))
  refine own_back ?_ (fun t k => XS.icmpYes X2.here hx rfl (pc0 := 13) (pc' := 38) rfl (hb hby d11_13) rfl (flt hhi).2.2.2 (by decide) (by decide) k)
  show own_Go p e below PO (T2.setTop (mkF m 38 #[.val (.ref aT), .val (.int pA), .val (.double uR), .second, .unset] []))
  refine own_back ?_ (fun t k => XS.dloadN X2.here hx rfl (hb hby d11_38) rfl k)
  show own_Go p e below PO (T2.setTop (mkF m 39 #[.val (.ref aT), .val (.int pA), .val (.double uR), .second, .unset] [(.double uR)]))
  obtain ⟨_, _, ⟨T3, L3, k3, n3⟩, -, X3, ⟨Lc3, hQ3, l3, y3, z3⟩, st3⟩ := Jvm.LawKit.callS X2 hx (y := (⟨"com/example/overcap/overcap/model/MortalityTable", "isFromZeroToOne", "(D)Z"⟩ : MethodName)) hown (mvT hZ (hw _ (List.mem_of_getElem? (i := 49) rfl))) (mvT hZ (hw _ (List.mem_of_getElem? (i := 50) rfl))) (mvT hZ (hw _ (List.mem_of_getElem? (i := 10) rfl))) (mvT hZ (hw _ (List.mem_of_getElem? (i := 51) rfl))) (by decide) (backOf (W := 0) (rmIs l Z a0 hw [] uR  h0 n0 Z0 hR) hZ (hw _ (List.mem_of_getElem? (i := 51) rfl)) (hw _ (List.mem_of_getElem? (i := 10) rfl)) (by decide) (by decide)) (g := (mkF m 39 #[.val (.ref aT), .val (.int pA), .val (.double uR), .second, .unset] [(.double uR)])) rfl (by rw [hml]; rfl) (argsL := [(.double uR)]) (rest := []) (lenOf pd_0 rfl) rfl (by show 2 * 0 + _ ≤ _; exact Nat.le_of_eq rfl) (hb hby d11_39) (fun _ _ => ⟨rfl, e2, (by decide : 0 + 0 ≤ _), (by decide : 0 + 0 ≤ _)⟩)
  dsimp only [Pt.U, Pt.locs, Pt.cells, Pt.slots] at X3 l3 y3 z3 st3 hQ3
  subst l3 y3 z3
  obtain ⟨rfl, N3q, e3⟩ := hQ3
  have N3 := Fr.app N2 N3q
  refine own_back ?_ st3
  show own_Go p e below PO (T3.setTop (mkF m 42 #[.val (.ref aT), .val (.int pA), .val (.double uR), .second, .unset] [(.int (1 : Int32))]))
  have hd42_4 : ¬ ((1 : Int32) = (0 : Int32)) := (by decide)
  refine own_back ?_ (fun t k => XS.ifYes X3.here hx rfl (pc0 := 42) (pc' := 59) rfl (hb hby d11_42) rfl ((if0 _ _).trans (feq hd42_4).2) (by decide) (by decide) k)
  show own_Go p e below PO (T3.setTop (mkF m 59 #[.val (.ref aT), .val (.int pA), .val (.double uR), .second, .unset] []))
  refine own_back ?_ (fun t k => XS.iloadN X3.here hx rfl (hb hby d11_59) rfl k)
  show own_Go p e below PO (T3.setTop (mkF m 60 #[.val (.ref aT), .val (.int pA), .val (.double uR), .second, .unset] [(.int pA)]))
  refine own_back ?_ (fun t k => XS.aloadN X3.here hx rfl (hb hby d11_60) rfl rfl k)
  show own_Go p e below PO (T3.setTop (mkF m 61 #[.val (.ref aT), .val (.int pA), .val (.double uR), .second, .unset] [(.ref aT), (.int pA)]))
  obtain ⟨T5, X5, e5, st5⟩ := getF X3 hx hZ hown (host := "") (Or.inl (hw _ (List.mem_of_getElem? (i := 20) rfl))) Via.refl e3 FA (g := (mkF m 61 #[.val (.ref aT), .val (.int pA), .val (.double uR), .second, .unset] [(.ref aT), (.int pA)])) rfl rfl (hb hby d11_61)
  refine own_back ?_ st5
  show own_Go p e below PO (T5.setTop (mkF m 64 #[.val (.ref aT), .val (.int pA), .val (.double uR), .second, .unset] [(.int pF), (.int pA)]))
  refine own_back ?_ (fun t k => XS.isub X5.here hx rfl (hb hby d11_64) rfl k)
  show own_Go p e below PO (T5.setTop (mkF m 65 #[.val (.ref aT), .val (.int pA), .val (.double uR), .second, .unset] [(.int (pA - pF))]))
  refine own_back ?_ (fun t k => XS.istore X5.here hx rfl (hb hby d11_65) rfl (l' := #[.val (.ref aT), .val (.int pA), .val (.double uR), .second, .val (.int (pA - pF))]) rfl k)
  show own_Go p e below PO (T5.setTop (mkF m 67 #[.val (.ref aT), .val (.int pA), .val (.double uR), .second, .val (.int (pA - pF))] []))
  refine own_gen (A := Int32) (pA - pF) (fun v4_6 => own_Go p e below PO (T5.setTop (mkF m 67 #[.val (.ref aT), .val (.int pA), .val (.double uR), .second, .val (.int v4_6)] []))) ?_
  intro v4_6 h_v4_6
  show own_Go p e below PO (T5.setTop (mkF m 67 #[.val (.ref aT), .val (.int pA), .val (.double uR), .second, .val (.int v4_6)] []))
  have q4 : v4_6 = (1 : Int32) := h_v4_6.trans hix
  subst q4
  show own_Go p e below PO (T5.setTop (mkF m 67 #[.val (.ref aT), .val (.int pA), .val (.double uR), .second, .val (.int (1 : Int32))] []))
  refine own_back ?_ (fun t k => XS.dloadN X5.here hx rfl (hb hby d11_67) rfl k)
  show own_Go p e below PO (T5.setTop (mkF m 68 #[.val (.ref aT), .val (.int pA), .val (.double uR), .second, .val (.int (1 : Int32))] [(.double uR)]))
  refine own_back ?_ (fun t k => XS.aloadN X5.here hx rfl (hb hby d11_68) rfl rfl k)
  show own_Go p e below PO (T5.setTop (mkF m 69 #[.val (.ref aT), .val (.int pA), .val (.double uR), .second, .val (.int (1 : Int32))] [(.ref aT), (.double uR)]))
  obtain ⟨T7, X7, e7, st7⟩ := getF X5 hx hZ hown (host := "") (Or.inl (hw _ (List.mem_of_getElem? (i := 31) rfl))) Via.refl e5 FM (g := (mkF m 69 #[.val (.ref aT), .val (.int pA), .val (.double uR), .second, .val (.int (1 : Int32))] [(.ref aT), (.double uR)])) rfl rfl (hb hby d11_69)
  refine own_back ?_ st7
  show own_Go p e below PO (T7.setTop (mkF m 72 #[.val (.ref aT), .val (.int pA), .val (.double uR), .second, .val (.int (1 : Int32))] [(.ref aM), (.double uR)]))
  refine own_back ?_ (fun t k => XS.iload X7.here hx rfl (hb hby d11_72) rfl k)
  show own_Go p e below PO (T7.setTop (mkF m 74 #[.val (.ref aT), .val (.int pA), .val (.double uR), .second, .val (.int (1 : Int32))] [(.int (1 : Int32)), (.ref aM), (.double uR)]))
  refine own_back ?_ (own_ldD X7 hx hZ e7 V_M (j := (1 : Int32)) (v := (.double m1)) ⟨by decide, by decide⟩ rfl (g := (mkF m 74 #[.val (.ref aT), .val (.int pA), .val (.double uR), .second, .val (.int (1 : Int32))] [(.int (1 : Int32)), (.ref aM), (.double uR)])) rfl rfl (hb hby d11_74))
  show own_Go p e below PO (T7.setTop (mkF m 75 #[.val (.ref aT), .val (.int pA), .val (.double uR), .second, .val (.int (1 : Int32))] [(.double m1), (.double uR)]))
  refine own_back ?_ (fun t k => XS.dmulS X7.here hx rfl (v := (FP.dmul uR m1)) (hb hby d11_75) rfl hn.1 rfl k)
  show own_Go p e below PO (T7.setTop (mkF m 76 #[.val (.ref aT), .val (.int pA), .val (.double uR), .second, .val (.int (1 : Int32))] [(.double (FP.dmul uR m1))]))
  refine own_back ?_ (fun t k => XS.dconst1 X7.here hx rfl (v := (4607182418800017408 : UInt64)) (hb hby d11_76) (by decide +kernel) k)
  show own_Go p e below PO (T7.setTop (mkF m 77 #[.val (.ref aT), .val (.int pA), .val (.double uR), .second, .val (.int (1 : Int32))] [(.double (4607182418800017408 : UInt64)), (.double (FP.dmul uR m1))]))
  refine own_back ?_ (fun t k => XS.dloadN X7.here hx rfl (hb hby d11_77) rfl k)
  show own_Go p e below PO (T7.setTop (mkF m 78 #[.val (.ref aT), .val (.int pA), .val (.double uR), .second, .val (.int (1 : Int32))] [(.double uR), (.double (4607182418800017408 : UInt64)), (.double (FP.dmul uR m1))]))
  refine own_back ?_ (fun t k => XS.dsubS X7.here hx rfl (v := (FP.dsub (4607182418800017408 : UInt64) uR)) (hb hby d11_78) rfl hn.2.1 rfl k)
  show own_Go p e below PO (T7.setTop (mkF m 79 #[.val (.ref aT), .val (.int pA), .val (.double uR), .second, .val (.int (1 : Int32))] [(.double (FP.dsub (4607182418800017408 : UInt64) uR)), (.double (FP.dmul uR m1))]))
  refine own_back ?_ (fun t k => XS.aloadN X7.here hx rfl (hb hby d11_79) rfl rfl k)
  show own_Go p e below PO (T7.setTop (mkF m 80 #[.val (.ref aT), .val (.int pA), .val (.double uR), .second, .val (.int (1 : Int32))] [(.ref aT), (.double (FP.dsub (4607182418800017408 : UInt64) uR)), (.double (FP.dmul uR m1))]))
  obtain ⟨T8, X8, e8, st8⟩ := getF X7 hx hZ hown (host := "") (Or.inl (hw _ (List.mem_of_getElem? (i := 33) rfl))) Via.refl e7 FF (g := (mkF m 80 #[.val (.ref aT), .val (.int pA), .val (.double uR), .second, .val (.int (1 : Int32))] [(.ref aT), (.double (FP.dsub (4607182418800017408 : UInt64) uR)), (.double (FP.dmul uR m1))])) rfl rfl (hb hby d11_80)
  refine own_back ?_ st8
  show own_Go p e below PO (T8.setTop (mkF m 83 #[.val (.ref aT), .val (.int pA), .val (.double uR), .second, .val (.int (1 : Int32))] [(.ref aF), (.double (FP.dsub (4607182418800017408 : UInt64) uR)), (.double (FP.dmul uR m1))]))
  refine own_back ?_ (fun t k => XS.iload X8.here hx rfl (hb hby d11_83) rfl k)
  show own_Go p e below PO (T8.setTop (mkF m 85 #[.val (.ref aT), .val (.int pA), .val (.double uR), .second, .val (.int (1 : Int32))] [(.int (1 : Int32)), (.ref aF), (.double (FP.dsub (4607182418800017408 : UInt64) uR)), (.double (FP.dmul uR m1))]))
  refine own_back ?_ (own_ldD X8 hx hZ e8 V_F (j := (1 : Int32)) (v := (.double f1)) ⟨by decide, by decide⟩ rfl (g := (mkF m 85 #[.val (.ref aT), .val (.int pA), .val (.double uR), .second, .val (.int (1 : Int32))] [(.int (1 : Int32)), (.ref aF), (.double (FP.dsub (4607182418800017408 : UInt64) uR)), (.double (FP.dmul uR m1))])) rfl rfl (hb hby d11_85))
  show own_Go p e below PO (T8.setTop (mkF m 86 #[.val (.ref aT), .val (.int pA), .val (.double uR), .second, .val (.int (1 : Int32))] [(.double f1), (.double (FP.dsub (4607182418800017408 : UInt64) uR)), (.double (FP.dmul uR m1))]))
  refine own_back ?_ (fun t k => XS.dmulS X8.here hx rfl (v := (FP.dmul (FP.dsub (4607182418800017408 : UInt64) uR) f1)) (hb hby d11_86) rfl hn.2.2.1 rfl k)
  show own_Go p e below PO (T8.setTop (mkF m 87 #[.val (.ref aT), .val (.int pA), .val (.double uR), .second, .val (.int (1 : Int32))] [(.double (FP.dmul (FP.dsub (4607182418800017408 : UInt64) uR) f1)), (.double (FP.dmul uR m1))]))
  refine own_back ?_ (fun t k => XS.daddS X8.here hx rfl (v := (FP.dadd (FP.dmul uR m1) (FP.dmul (FP.dsub (4607182418800017408 : UInt64) uR) f1))) (hb hby d11_87) rfl hn.2.2.2 rfl k)
  show own_Go p e below PO (T8.setTop (mkF m 88 #[.val (.ref aT), .val (.int pA), .val (.double uR), .second, .val (.int (1 : Int32))] [(.double (FP.dadd (FP.dmul uR m1) (FP.dmul (FP.dsub (4607182418800017408 : UInt64) uR) f1)))]))
  refine own_retD X8 hx (rest := []) Bd.returns (hb hby d11_88) e8 (Bd.notSynchronized) ?_ (by decide) (by decide)
  exact ⟨rfl, N3, rfl⟩
theorem ef_rmQx_3_2 (m : MethodId) (x0 : Addr) (x1 : Int32) (x2 : UInt64) : entryFrame m #[(.ref x0), (.int x1), (.double x2)] 5 = mkF m 0 #[.val (.ref x0), .val (.int x1), .val (.double x2), .second, .unset] [] := by first | (simp [entryFrame, mkF, argsToLocals, Value.category]; done) | rfl
def Q_rmQx_3_2 (uR : UInt64) (m0 f0 m1 f1 : UInt64) (h0 : Heap) (n0 : Nat) (v : Option Value) (h : Heap) (L : List Loc) : Prop := v = some (.double (own_mix uR (4607182418800017408 : UInt64) (4607182418800017408 : UInt64))) ∧ Fr n0 L ∧ h = h0
set_option maxRecDepth 65536 in
set_option maxHeartbeats 40000000 in
theorem rmQx_3_2 (l : Launch) (Z : State) (a0 : Array Value) (hw : ∀ d ∈ tables_1, d.before a0 Z = true) (ws : List Jvm.Cond) (aT : Addr) (pA : Int32) (uR : UInt64) (pF : Int32) (aM aF : Addr) (kM kF : ClassId) (m0 f0 m1 f1 : UInt64) (h0 : Heap) (n0 : Nat) (Z0 : n0 ≤ h0.size) (E_T : Exa Z h0 aT "com/example/overcap/overcap/model/MortalityTable") (FA : Fld Z h0 aT "com/example/overcap/overcap/model/MortalityTable" "firstAge" "I" (.int pF)) (FM : Fld Z h0 aT "com/example/overcap/overcap/model/MortalityTable" "maleQx" "[D" (.ref aM)) (FF : Fld Z h0 aT "com/example/overcap/overcap/model/MortalityTable" "femaleQx" "[D" (.ref aF)) (V_M : Arv Z h0 aM kM .double (3 : Int32) [(.double m0), (.double m1), (.double (4607182418800017408 : UInt64))] (.double (0 : UInt64))) (V_F : Arv Z h0 aF kF .double (3 : Int32) [(.double f0), (.double f1), (.double (4607182418800017408 : UInt64))] (.double (0 : UInt64))) (hlo : ¬ pA < pF) (hhi : ¬ ((pF + (3 : Int32)) - (1 : Int32)) < pA) (hix : pA - pF = (2 : Int32)) (hR : own_ok uR) (hn : own_mixN uR (4607182418800017408 : UInt64) (4607182418800017408 : UInt64)) :
    MetFree l (⟨"com/example/overcap/overcap/model/MortalityTable", "getQx", "(ID)D"⟩ : MethodName) (head1 (Jvm.Cond.code (⟨"com/example/overcap/overcap/model/MortalityTable", "getQx", "(ID)D"⟩ : MethodName) prog_79_method_6_code 5 (some .double) :: ws) ({ frames := 1, cells := 0, slots := 0, locals := 13 } : Room)) (fun a U => a = #[(.ref aT), (.int pA), (.double uR)] ∧ Z.Warmed39 U.vm ∧ U.heap = h0) (fun _ _ _ _ _ => True) (fun _ U o U' => ∃ v L, o = .returned v ∧ Q_rmQx_3_2 uR m0 f0 m1 f1 h0 n0 v U'.heap L ∧ FrameEnd U o U' L ({ frames := 1, cells := 0, slots := 0, locals := 13 } : Room).cells ({ frames := 1, cells := 0, slots := 0, locals := 13 } : Room).slots) := by
  refine MetFree.of_bodySF (plainFor_of_name pn_0) hisR ?_
  intro p e s m args below meth c s₁ Bd hml0 hP hK
  obtain ⟨rfl, hZ, hh⟩ := hP
  have hx := Bd.exec
  have hby := Bd.bytes
  have hml : c.maxLocals = 5 := hml0
  have hown : s.vm.findClass "com/example/overcap/overcap/model/MortalityTable" = some m.cls := findClass_of_methodNamed Bd.named
  have hnm := (name_of_methodNamed Bd.named Bd.method).1
  have X0 : Stand p l e ({ frames := 1, cells := 0, slots := 0, locals := 13 } : Room) s m #[(.ref aT), (.int pA), (.double uR)] below meth c s₁ [] 0 0 := Stand.of_body Bd
  have e0 : s₁.heap = h0 := by rw [← hh, Bd.state]; rfl
  have N0 := Fr.nil n0
  let PO : Outcome → State → Prop := own_PO s (Q_rmQx_3_2 uR m0 f0 m1 f1 h0 n0) 0 0
  show own_Go p e below PO (s₁.setTop (entryFrame m #[(.ref aT), (.int pA), (.double uR)] 5))
  rw [ef_rmQx_3_2]
  show own_Go p e below PO (s₁.setTop (mkF m 0 #[.val (.ref aT), .val (.int pA), .val (.double uR), .second, .unset] []))
  refine own_back ?_ (fun t k => XS.iloadN X0.here hx rfl (hb hby d11_0) rfl k)
  show own_Go p e below PO (s₁.setTop (mkF m 1 #[.val (.ref aT), .val (.int pA), .val (.double uR), .second, .unset] [(.int pA)]))
  refine own_back ?_ (fun t k => XS.aloadN X0.here hx rfl (hb hby d11_1) rfl rfl k)
  show own_Go p e below PO (s₁.setTop (mkF m 2 #[.val (.ref aT), .val (.int pA), .val (.double uR), .second, .unset] [(.ref aT), (.int pA)]))
  obtain ⟨T1, X1, e1, st1⟩ := getF X0 hx hZ hown (host := "") (Or.inl (hw _ (List.mem_of_getElem? (i := 20) rfl))) Via.refl e0 FA (g := (mkF m 2 #[.val (.ref aT), .val (.int pA), .val (.double uR), .second, .unset] [(.ref aT), (.int pA)])) rfl rfl (hb hby d11_2)
  refine own_back ?_ st1
  show own_Go p e below PO (T1.setTop (mkF m 5 #[.val (.ref aT), .val (.int pA), .val (.double uR), .second, .unset] [(.int pF), (.int pA)]))
  refine own_back ?_ (fun t k => XS.icmpNo X1.here hx rfl (hb hby d11_5) rfl (flt hlo).1 k)
  show own_Go p e below PO (T1.setTop (mkF m 8 #[.val (.ref aT), .val (.int pA), .val (.double uR), .second, .unset] []))
  refine own_back ?_ (fun t k => XS.iloadN X1.here hx rfl (hb hby d11_8) rfl k)
  show own_Go p e below PO (T1.setTop (mkF m 9 #[.val (.ref aT), .val (.int pA), .val (.double uR), .second, .unset] [(.int pA)]))
  refine own_back ?_ (fun t k => XS.aloadN X1.here hx rfl (hb hby d11_9) rfl rfl k)
  show own_Go p e below PO (T1.setTop (mkF m 10 #[.val (.ref aT), .val (.int pA), .val (.double uR), .second, .unset] [(.ref aT), (.int pA)]))
  obtain ⟨cq2, kq2, q2a, q2b, q2c⟩ := isOf hZ e1 E_T
  obtain ⟨_, _, ⟨T2, L2, k2, n2⟩, -, X2, ⟨Lc2, hQ2, l2, y2, z2⟩, st2⟩ := X1.virtualBack hx (y := (⟨"com/example/overcap/overcap/model/MortalityTable", "getLastAge", "()I"⟩ : MethodName)) (z := (⟨"com/example/overcap/overcap/model/MortalityTable", "getLastAge", "()I"⟩ : MethodName)) hown (mvT hZ (hw _ (List.mem_of_getElem? (i := 72) rfl))) (mvT hZ (hw _ (List.mem_of_getElem? (i := 58) rfl))) (notFace_of_selects (args := #[]) (mvT hZ (hw _ (List.mem_of_getElem? (i := 60) rfl)))) (mvT hZ (hw _ (List.mem_of_getElem? (i := 60) rfl))) (mvT hZ (hw _ (List.mem_of_getElem? (i := 59) rfl))) (by decide) (backOf (W := 1) (rmLA_3 l Z a0 hw [] aT pF aM aF kM kF m0 f0 m1 f1 h0 n0 Z0 E_T FA FM FF V_M V_F) hZ (hw _ (List.mem_of_getElem? (i := 61) rfl)) (hw _ (List.mem_of_getElem? (i := 10) rfl)) (by decide) (by decide)) q2a q2c (g := (mkF m 10 #[.val (.ref aT), .val (.int pA), .val (.double uR), .second, .unset] [(.ref aT), (.int pA)])) rfl (by rw [hml]; rfl) (Steps.refl _) (argsL := []) (rest := [(.int pA)]) (lenOf pd_5 rfl) rfl (by show 2 * 0 + _ ≤ _; exact Nat.le_of_eq rfl) (hb hby d11_10) (fun _ _ => ⟨rfl, e1, (by decide : 0 + 0 ≤ _), (by decide : 0 + 0 ≤ _)⟩)
  dsimp only [Pt.U, Pt.locs, Pt.cells, Pt.slots] at X2 l2 y2 z2 st2 hQ2
  subst l2 y2 z2
  obtain ⟨rfl, N2q, e2⟩ := hQ2
  have N2 := Fr.app N0 N2q
  refine own_back ?_ (fun t k => st2.trans k)
  show own_Go p e below PO (T2.setTop (mkF m 13 #[.val (.ref aT), .val (.int pA), .val (.double uR), .second, .unset] [(.int ((pF + (3 : Int32)) - (1 : Int32))), (.int pA)]))
  refine own_back ?_ (fun t k => XS.icmpYes X2.here hx rfl (pc0 := 13) (pc' := 38) rfl (hb hby d11_13) rfl (flt hhi).2.2.2 (by decide) (by decide) k)
  show own_Go p e below PO (T2.setTop (mkF m 38 #[.val (.ref aT), .val (.int pA), .val (.double uR), .second, .unset] []))
  refine own_back ?_ (fun t k => XS.dloadN X2.here hx rfl (hb hby d11_38) rfl k)
  show own_Go p e below PO (T2.setTop (mkF m 39 #[.val (.ref aT), .val (.int pA), .val (.double uR), .second, .unset] [(.double uR)]))
  obtain ⟨_, _, ⟨T3, L3, k3, n3⟩, -, X3, ⟨Lc3, hQ3, l3, y3, z3⟩, st3⟩ := Jvm.LawKit.callS X2 hx (y := (⟨"com/example/overcap/overcap/model/MortalityTable", "isFromZeroToOne", "(D)Z"⟩ : MethodName)) hown (mvT hZ (hw _ (List.mem_of_getElem? (i := 49) rfl))) (mvT hZ (hw _ (List.mem_of_getElem? (i := 50) rfl))) (mvT hZ (hw _ (List.mem_of_getElem? (i := 10) rfl))) (mvT hZ (hw _ (List.mem_of_getElem? (i := 51) rfl))) (by decide) (backOf (W := 0) (rmIs l Z a0 hw [] uR  h0 n0 Z0 hR) hZ (hw _ (List.mem_of_getElem? (i := 51) rfl)) (hw _ (List.mem_of_getElem? (i := 10) rfl)) (by decide) (by decide)) (g := (mkF m 39 #[.val (.ref aT), .val (.int pA), .val (.double uR), .second, .unset] [(.double uR)])) rfl (by rw [hml]; rfl) (argsL := [(.double uR)]) (rest := []) (lenOf pd_0 rfl) rfl (by show 2 * 0 + _ ≤ _; exact Nat.le_of_eq rfl) (hb hby d11_39) (fun _ _ => ⟨rfl, e2, (by decide : 0 + 0 ≤ _), (by decide : 0 + 0 ≤ _)⟩)
  dsimp only [Pt.U, Pt.locs, Pt.cells, Pt.slots] at X3 l3 y3 z3 st3 hQ3
  subst l3 y3 z3
  obtain ⟨rfl, N3q, e3⟩ := hQ3
  have N3 := Fr.app N2 N3q
  refine own_back ?_ st3
  show own_Go p e below PO (T3.setTop (mkF m 42 #[.val (.ref aT), .val (.int pA), .val (.double uR), .second, .unset] [(.int (1 : Int32))]))
  have hd42_4 : ¬ ((1 : Int32) = (0 : Int32)) := (by decide)
  refine own_back ?_ (fun t k => XS.ifYes X3.here hx rfl (pc0 := 42) (pc' := 59) rfl (hb hby d11_42) rfl ((if0 _ _).trans (feq hd42_4).2) (by decide) (by decide) k)
  show own_Go p e below PO (T3.setTop (mkF m 59 #[.val (.ref aT), .val (.int pA), .val (.double uR), .second, .unset] []))
  refine own_back ?_ (fun t k => XS.iloadN X3.here hx rfl (hb hby d11_59) rfl k)
  show own_Go p e below PO (T3.setTop (mkF m 60 #[.val (.ref aT), .val (.int pA), .val (.double uR), .second, .unset] [(.int pA)]))
  refine own_back ?_ (fun t k => XS.aloadN X3.here hx rfl (hb hby d11_60) rfl rfl k)
  show own_Go p e below PO (T3.setTop (mkF m 61 #[.val (.ref aT), .val (.int pA), .val (.double uR), .second, .unset] [(.ref aT), (.int pA)]))
  obtain ⟨T5, X5, e5, st5⟩ := getF X3 hx hZ hown (host := "") (Or.inl (hw _ (List.mem_of_getElem? (i := 20) rfl))) Via.refl e3 FA (g := (mkF m 61 #[.val (.ref aT), .val (.int pA), .val (.double uR), .second, .unset] [(.ref aT), (.int pA)])) rfl rfl (hb hby d11_61)
  refine own_back ?_ st5
  show own_Go p e below PO (T5.setTop (mkF m 64 #[.val (.ref aT), .val (.int pA), .val (.double uR), .second, .unset] [(.int pF), (.int pA)]))
  refine own_back ?_ (fun t k => XS.isub X5.here hx rfl (hb hby d11_64) rfl k)
  show own_Go p e below PO (T5.setTop (mkF m 65 #[.val (.ref aT), .val (.int pA), .val (.double uR), .second, .unset] [(.int (pA - pF))]))
  refine own_back ?_ (fun t k => XS.istore X5.here hx rfl (hb hby d11_65) rfl (l' := #[.val (.ref aT), .val (.int pA), .val (.double uR), .second, .val (.int (pA - pF))]) rfl k)
  show own_Go p e below PO (T5.setTop (mkF m 67 #[.val (.ref aT), .val (.int pA), .val (.double uR), .second, .val (.int (pA - pF))] []))
  refine own_gen (A := Int32) (pA - pF) (fun v4_6 => own_Go p e below PO (T5.setTop (mkF m 67 #[.val (.ref aT), .val (.int pA), .val (.double uR), .second, .val (.int v4_6)] []))) ?_
  intro v4_6 h_v4_6
  show own_Go p e below PO (T5.setTop (mkF m 67 #[.val (.ref aT), .val (.int pA), .val (.double uR), .second, .val (.int v4_6)] []))
  have q4 : v4_6 = (2 : Int32) := h_v4_6.trans hix
  subst q4
  show own_Go p e below PO (T5.setTop (mkF m 67 #[.val (.ref aT), .val (.int pA), .val (.double uR), .second, .val (.int (2 : Int32))] []))
  refine own_back ?_ (fun t k => XS.dloadN X5.here hx rfl (hb hby d11_67) rfl k)
  show own_Go p e below PO (T5.setTop (mkF m 68 #[.val (.ref aT), .val (.int pA), .val (.double uR), .second, .val (.int (2 : Int32))] [(.double uR)]))
  refine own_back ?_ (fun t k => XS.aloadN X5.here hx rfl (hb hby d11_68) rfl rfl k)
  show own_Go p e below PO (T5.setTop (mkF m 69 #[.val (.ref aT), .val (.int pA), .val (.double uR), .second, .val (.int (2 : Int32))] [(.ref aT), (.double uR)]))
  obtain ⟨T7, X7, e7, st7⟩ := getF X5 hx hZ hown (host := "") (Or.inl (hw _ (List.mem_of_getElem? (i := 31) rfl))) Via.refl e5 FM (g := (mkF m 69 #[.val (.ref aT), .val (.int pA), .val (.double uR), .second, .val (.int (2 : Int32))] [(.ref aT), (.double uR)])) rfl rfl (hb hby d11_69)
  refine own_back ?_ st7
  show own_Go p e below PO (T7.setTop (mkF m 72 #[.val (.ref aT), .val (.int pA), .val (.double uR), .second, .val (.int (2 : Int32))] [(.ref aM), (.double uR)]))
  refine own_back ?_ (fun t k => XS.iload X7.here hx rfl (hb hby d11_72) rfl k)
  show own_Go p e below PO (T7.setTop (mkF m 74 #[.val (.ref aT), .val (.int pA), .val (.double uR), .second, .val (.int (2 : Int32))] [(.int (2 : Int32)), (.ref aM), (.double uR)]))
  refine own_back ?_ (own_ldD X7 hx hZ e7 V_M (j := (2 : Int32)) (v := (.double (4607182418800017408 : UInt64))) ⟨by decide, by decide⟩ rfl (g := (mkF m 74 #[.val (.ref aT), .val (.int pA), .val (.double uR), .second, .val (.int (2 : Int32))] [(.int (2 : Int32)), (.ref aM), (.double uR)])) rfl rfl (hb hby d11_74))
  show own_Go p e below PO (T7.setTop (mkF m 75 #[.val (.ref aT), .val (.int pA), .val (.double uR), .second, .val (.int (2 : Int32))] [(.double (4607182418800017408 : UInt64)), (.double uR)]))
  refine own_back ?_ (fun t k => XS.dmulS X7.here hx rfl (v := (FP.dmul uR (4607182418800017408 : UInt64))) (hb hby d11_75) rfl hn.1 rfl k)
  show own_Go p e below PO (T7.setTop (mkF m 76 #[.val (.ref aT), .val (.int pA), .val (.double uR), .second, .val (.int (2 : Int32))] [(.double (FP.dmul uR (4607182418800017408 : UInt64)))]))
  refine own_back ?_ (fun t k => XS.dconst1 X7.here hx rfl (v := (4607182418800017408 : UInt64)) (hb hby d11_76) (by decide +kernel) k)
  show own_Go p e below PO (T7.setTop (mkF m 77 #[.val (.ref aT), .val (.int pA), .val (.double uR), .second, .val (.int (2 : Int32))] [(.double (4607182418800017408 : UInt64)), (.double (FP.dmul uR (4607182418800017408 : UInt64)))]))
  refine own_back ?_ (fun t k => XS.dloadN X7.here hx rfl (hb hby d11_77) rfl k)
  show own_Go p e below PO (T7.setTop (mkF m 78 #[.val (.ref aT), .val (.int pA), .val (.double uR), .second, .val (.int (2 : Int32))] [(.double uR), (.double (4607182418800017408 : UInt64)), (.double (FP.dmul uR (4607182418800017408 : UInt64)))]))
  refine own_back ?_ (fun t k => XS.dsubS X7.here hx rfl (v := (FP.dsub (4607182418800017408 : UInt64) uR)) (hb hby d11_78) rfl hn.2.1 rfl k)
  show own_Go p e below PO (T7.setTop (mkF m 79 #[.val (.ref aT), .val (.int pA), .val (.double uR), .second, .val (.int (2 : Int32))] [(.double (FP.dsub (4607182418800017408 : UInt64) uR)), (.double (FP.dmul uR (4607182418800017408 : UInt64)))]))
  refine own_back ?_ (fun t k => XS.aloadN X7.here hx rfl (hb hby d11_79) rfl rfl k)
  show own_Go p e below PO (T7.setTop (mkF m 80 #[.val (.ref aT), .val (.int pA), .val (.double uR), .second, .val (.int (2 : Int32))] [(.ref aT), (.double (FP.dsub (4607182418800017408 : UInt64) uR)), (.double (FP.dmul uR (4607182418800017408 : UInt64)))]))
  obtain ⟨T8, X8, e8, st8⟩ := getF X7 hx hZ hown (host := "") (Or.inl (hw _ (List.mem_of_getElem? (i := 33) rfl))) Via.refl e7 FF (g := (mkF m 80 #[.val (.ref aT), .val (.int pA), .val (.double uR), .second, .val (.int (2 : Int32))] [(.ref aT), (.double (FP.dsub (4607182418800017408 : UInt64) uR)), (.double (FP.dmul uR (4607182418800017408 : UInt64)))])) rfl rfl (hb hby d11_80)
  refine own_back ?_ st8
  show own_Go p e below PO (T8.setTop (mkF m 83 #[.val (.ref aT), .val (.int pA), .val (.double uR), .second, .val (.int (2 : Int32))] [(.ref aF), (.double (FP.dsub (4607182418800017408 : UInt64) uR)), (.double (FP.dmul uR (4607182418800017408 : UInt64)))]))
  refine own_back ?_ (fun t k => XS.iload X8.here hx rfl (hb hby d11_83) rfl k)
  show own_Go p e below PO (T8.setTop (mkF m 85 #[.val (.ref aT), .val (.int pA), .val (.double uR), .second, .val (.int (2 : Int32))] [(.int (2 : Int32)), (.ref aF), (.double (FP.dsub (4607182418800017408 : UInt64) uR)), (.double (FP.dmul uR (4607182418800017408 : UInt64)))]))
  refine own_back ?_ (own_ldD X8 hx hZ e8 V_F (j := (2 : Int32)) (v := (.double (4607182418800017408 : UInt64))) ⟨by decide, by decide⟩ rfl (g := (mkF m 85 #[.val (.ref aT), .val (.int pA), .val (.double uR), .second, .val (.int (2 : Int32))] [(.int (2 : Int32)), (.ref aF), (.double (FP.dsub (4607182418800017408 : UInt64) uR)), (.double (FP.dmul uR (4607182418800017408 : UInt64)))])) rfl rfl (hb hby d11_85))
  show own_Go p e below PO (T8.setTop (mkF m 86 #[.val (.ref aT), .val (.int pA), .val (.double uR), .second, .val (.int (2 : Int32))] [(.double (4607182418800017408 : UInt64)), (.double (FP.dsub (4607182418800017408 : UInt64) uR)), (.double (FP.dmul uR (4607182418800017408 : UInt64)))]))
  refine own_back ?_ (fun t k => XS.dmulS X8.here hx rfl (v := (FP.dmul (FP.dsub (4607182418800017408 : UInt64) uR) (4607182418800017408 : UInt64))) (hb hby d11_86) rfl hn.2.2.1 rfl k)
  show own_Go p e below PO (T8.setTop (mkF m 87 #[.val (.ref aT), .val (.int pA), .val (.double uR), .second, .val (.int (2 : Int32))] [(.double (FP.dmul (FP.dsub (4607182418800017408 : UInt64) uR) (4607182418800017408 : UInt64))), (.double (FP.dmul uR (4607182418800017408 : UInt64)))]))
  refine own_back ?_ (fun t k => XS.daddS X8.here hx rfl (v := (FP.dadd (FP.dmul uR (4607182418800017408 : UInt64)) (FP.dmul (FP.dsub (4607182418800017408 : UInt64) uR) (4607182418800017408 : UInt64)))) (hb hby d11_87) rfl hn.2.2.2 rfl k)
  show own_Go p e below PO (T8.setTop (mkF m 88 #[.val (.ref aT), .val (.int pA), .val (.double uR), .second, .val (.int (2 : Int32))] [(.double (FP.dadd (FP.dmul uR (4607182418800017408 : UInt64)) (FP.dmul (FP.dsub (4607182418800017408 : UInt64) uR) (4607182418800017408 : UInt64))))]))
  refine own_retD X8 hx (rest := []) Bd.returns (hb hby d11_88) e8 (Bd.notSynchronized) ?_ (by decide) (by decide)
  exact ⟨rfl, N3, rfl⟩

/-! the plain law -/
def own_q (x : Int32) : UInt64 := FP.ddiv (FP.i2d x) (4620693217682128896 : UInt64)
def own_qn (u : UInt64) : Prop := ∃ k : Fin 8, u = own_q (Int32.ofNat k.1)
theorem own_k7 (x : Int32) : ∃ k : Fin 8, (x &&& 7) = Int32.ofNat k.1 := by
  have e := c_mask x 7 3 (by decide) (by decide)
  have e2 : ((2 ^ 3 : Nat) : Int) = 8 := by decide
  rw [e2] at e
  have h0 : 0 ≤ (x &&& 7).toInt := by rw [e]; omega
  exact ⟨⟨(x &&& 7).toInt.toNat, by omega⟩, own_ofNat h0⟩
theorem own_q7 (x : Int32) : own_qn (own_q (x &&& 7)) := by obtain ⟨k, e⟩ := own_k7 x; exact ⟨k, by rw [e]⟩
theorem own_tabN : ∀ k : Fin 8, (FP.ddiv (FP.i2d (Int32.ofNat k.1)) (4620693217682128896 : UInt64)) &&& 0x7fffffffffffffff ≤ 0x7ff0000000000000 := by decide +kernel
theorem own_divN (x : Int32) : Jvm.Free.Fl.NoNaN64 (FP.ddiv (FP.i2d (x &&& 7)) (4620693217682128896 : UInt64)) := by obtain ⟨k, e⟩ := own_k7 x; rw [e]; exact own_tabN k
theorem own_tabOk : ∀ k : Fin 8, ¬ cmpValue (FP.dcmp (own_q (Int32.ofNat k.1)) (0 : UInt64)) .l < 0 ∧ ¬ (0 : Int32) < cmpValue (FP.dcmp (own_q (Int32.ofNat k.1)) (4607182418800017408 : UInt64)) .g := by decide +kernel
theorem own_okq {u : UInt64} (h : own_qn u) : own_ok u := by obtain ⟨k, rfl⟩ := h; exact own_tabOk k
def own_nn (x : UInt64) : Bool := decide (x &&& 0x7fffffffffffffff ≤ 0x7ff0000000000000)
def own_nm (r m f : UInt64) : Bool := own_nn (FP.dmul r m) && own_nn (FP.dsub (4607182418800017408 : UInt64) r) && own_nn (FP.dmul (FP.dsub (4607182418800017408 : UInt64) r) f) && own_nn (own_mix r m f)
theorem own_nm_of {r m f : UInt64} (h : own_nm r m f = true) : own_mixN r m f := by
  simp only [own_nm, own_nn, Bool.and_eq_true, decide_eq_true_eq] at h
  exact ⟨h.1.1.1, h.1.1.2, h.1.2, h.2⟩
theorem own_tab1 : ∀ k j : Fin 8, own_nm (4607182418800017408 : UInt64) (own_q (Int32.ofNat k.1)) (own_q (Int32.ofNat j.1)) = true ∧ cmpValue (FP.dcmp (own_mix (4607182418800017408 : UInt64) (own_q (Int32.ofNat k.1)) (own_q (Int32.ofNat j.1))) (own_q (Int32.ofNat k.1))) .l = 0 := by decide +kernel
theorem own_tab0 : ∀ k j : Fin 8, own_nm (0 : UInt64) (own_q (Int32.ofNat k.1)) (own_q (Int32.ofNat j.1)) = true ∧ cmpValue (FP.dcmp (own_mix (0 : UInt64) (own_q (Int32.ofNat k.1)) (own_q (Int32.ofNat j.1))) (own_q (Int32.ofNat j.1))) .l = 0 := by decide +kernel
theorem own_m1 {m f : UInt64} (hm : own_qn m) (hf : own_qn f) : own_mixN (4607182418800017408 : UInt64) m f ∧ cmpValue (FP.dcmp (own_mix (4607182418800017408 : UInt64) m f) m) .l = 0 := by
  obtain ⟨k, rfl⟩ := hm; obtain ⟨j, rfl⟩ := hf; exact ⟨own_nm_of (own_tab1 k j).1, (own_tab1 k j).2⟩
theorem own_m0 {m f : UInt64} (hm : own_qn m) (hf : own_qn f) : own_mixN (0 : UInt64) m f ∧ cmpValue (FP.dcmp (own_mix (0 : UInt64) m f) f) .l = 0 := by
  obtain ⟨k, rfl⟩ := hm; obtain ⟨j, rfl⟩ := hf; exact ⟨own_nm_of (own_tab0 k j).1, (own_tab0 k j).2⟩
theorem own_one1 : own_mixN (4607182418800017408 : UInt64) (4607182418800017408 : UInt64) (4607182418800017408 : UInt64) := own_nm_of (by decide +kernel)
theorem own_one0 : own_mixN (0 : UInt64) (4607182418800017408 : UInt64) (4607182418800017408 : UInt64) := own_nm_of (by decide +kernel)
theorem own_c3 {x n : Int32} (h : n = 1 + (x &&& 2147483647) % 3) : n = 1 ∨ n = 2 ∨ n = 3 := by
  obtain ⟨-, h1, h2⟩ := own_pm x (y := 3) (d := 3) (by decide) (by decide)
  generalize (x &&& 2147483647) % 3 = y at *
  have a := c_iadd 1 y
  have r := rng32 (1 + y)
  have e1 : (1 : Int32).toInt = 1 := by decide
  have e2 : (2 : Int32).toInt = 2 := by decide
  have e3 : (3 : Int32).toInt = 3 := by decide
  rw [← h] at a r
  have : n.toInt = 1 ∨ n.toInt = 2 ∨ n.toInt = 3 := by omega
  rcases this with t | t | t
  · exact Or.inl (Int32.toInt_inj.mp (t.trans e1.symm))
  · exact Or.inr (Or.inl (Int32.toInt_inj.mp (t.trans e2.symm)))
  · exact Or.inr (Or.inr (Int32.toInt_inj.mp (t.trans e3.symm)))
theorem own_f {x f : Int32} (h : f = (x &&& 2147483647) % 2147483646) : 0 ≤ f.toInt ∧ f.toInt < 2147483646 := by
  obtain ⟨-, h1, h2⟩ := own_pm x (y := 2147483646) (d := 2147483646) (by decide) (by decide)
  rw [← h] at h1 h2; exact ⟨h1, h2⟩
theorem own_f0 {f : Int32} (h : 0 ≤ f.toInt ∧ f.toInt < 2147483646) : ¬ f < 0 := by
  rw [Int32.lt_iff_toInt_lt]; have e0 : (0 : Int32).toInt = 0 := by decide
  omega
/-- the last age, for n = 1, 2, 3 -/
theorem own_la {f n : Int32} {N : Int} (h : 0 ≤ f.toInt ∧ f.toInt < 2147483646) (hn : n.toInt = N) (hN : 1 ≤ N ∧ N ≤ 3) : (f + n - 1).toInt = f.toInt + N - 1 := by
  have a := c_iadd f n; have b := c_isub (f + n) 1; have r := rng32 (f + n - 1); have e1 : (1 : Int32).toInt = 1 := by decide
  omega
theorem own_lo {f n : Int32} {N : Int} (h : 0 ≤ f.toInt ∧ f.toInt < 2147483646) (hn : n.toInt = N) (hN : 1 ≤ N ∧ N ≤ 3) : ¬ f + n - 1 < f := by
  rw [Int32.lt_iff_toInt_lt, own_la h hn hN]; omega
theorem own_ix {f n k : Int32} {N : Int} (h : 0 ≤ f.toInt ∧ f.toInt < 2147483646) (hn : n.toInt = N) (hN : 1 ≤ N ∧ N ≤ 3) (hk : k.toInt = N - 1) : f + n - 1 - f = k := by
  apply Int32.toInt_inj.mp
  have a := own_la h hn hN
  have b := c_isub (f + n - 1) f; have r := rng32 (f + n - 1 - f)
  omega
theorem own_la2 {f n : Int32} {N : Int} (h : 0 ≤ f.toInt ∧ f.toInt < 2147483646) (hn : n.toInt = N) (hN : 2 ≤ N ∧ N ≤ 3) : (f + n - 1 - 1).toInt = f.toInt + N - 2 := by
  have a := own_la h hn (by omega); have b := c_isub (f + n - 1) 1; have r := rng32 (f + n - 1 - 1); have e1 : (1 : Int32).toInt = 1 := by decide
  omega
theorem own_lo2 {f n : Int32} {N : Int} (h : 0 ≤ f.toInt ∧ f.toInt < 2147483646) (hn : n.toInt = N) (hN : 2 ≤ N ∧ N ≤ 3) : ¬ f + n - 1 - 1 < f := by
  rw [Int32.lt_iff_toInt_lt, own_la2 h hn hN]; omega
theorem own_hi2 {f n : Int32} {N : Int} (h : 0 ≤ f.toInt ∧ f.toInt < 2147483646) (hn : n.toInt = N) (hN : 2 ≤ N ∧ N ≤ 3) : ¬ f + n - 1 < f + n - 1 - 1 := by
  rw [Int32.lt_iff_toInt_lt, own_la2 h hn hN, own_la h hn (by omega)]; omega
theorem own_ix2 {f n k : Int32} {N : Int} (h : 0 ≤ f.toInt ∧ f.toInt < 2147483646) (hn : n.toInt = N) (hN : 2 ≤ N ∧ N ≤ 3) (hk : k.toInt = N - 2) : f + n - 1 - 1 - f = k := by
  apply Int32.toInt_inj.mp
  have a := own_la2 h hn hN
  have b := c_isub (f + n - 1 - 1) f; have r := rng32 (f + n - 1 - 1 - f)
  omega
theorem d1_0 : decode method_2_code 0 = .ok (.iload_n 0, 1) := by decide +kernel
theorem d1_1 : decode method_2_code 1 = .ok (.iconst 1, 1) := by decide +kernel
theorem d1_2 : decode method_2_code 2 = .ok (.if_icmp .ne 11, 3) := by decide +kernel
theorem d1_5 : decode method_2_code 5 = .ok (.iconst 1, 1) := by decide +kernel
theorem d1_6 : decode method_2_code 6 = .ok (.newarray .double, 2) := by decide +kernel
theorem d1_8 : decode method_2_code 8 = .ok (.dup, 1) := by decide +kernel
theorem d1_9 : decode method_2_code 9 = .ok (.iconst 0, 1) := by decide +kernel
theorem d1_10 : decode method_2_code 10 = .ok (.dconst 1, 1) := by decide +kernel
theorem d1_11 : decode method_2_code 11 = .ok (.dastore, 1) := by decide +kernel
theorem d1_12 : decode method_2_code 12 = .ok (.areturn, 1) := by decide +kernel
theorem pn_1 : plainName "com/example/overcap/overcap/model/MortalityTableGetLastAgePinLaw" = true := by first | (simp [plainName, overriddenIn]; done) | decide +kernel
theorem ef_rmR_1 (m : MethodId) (x0 : Int32) (x1 : UInt64) (x2 : UInt64) : entryFrame m #[(.int x0), (.double x1), (.double x2)] 5 = mkF m 0 #[.val (.int x0), .val (.double x1), .second, .val (.double x2), .second] [] := by first | (simp [entryFrame, mkF, argsToLocals, Value.category]; done) | rfl
def Q_rmR_1 (Z : State) (uX uY : UInt64) (h0 : Heap) (n0 : Nat) (v : Option Value) (h : Heap) (L : List Loc) : Prop := ∃ (aN : Addr) (kN : ClassId), v = some (.ref aN) ∧ Fr n0 L ∧ Keep h0 h [] ∧ h0.size ≤ aN ∧ Exa Z h aN "[D" ∧ Arv Z h aN kN .double (1 : Int32) [(.double (4607182418800017408 : UInt64))] (.double (0 : UInt64))
set_option maxRecDepth 65536 in
set_option maxHeartbeats 40000000 in
theorem rmR_1 (l : Launch) (Z : State) (a0 : Array Value) (hw : ∀ d ∈ tables_1, d.before a0 Z = true) (ws : List Jvm.Cond) (uX : UInt64) (uY : UInt64)  (h0 : Heap) (n0 : Nat) (Z0 : n0 ≤ h0.size)  :
    MetFree l (⟨"com/example/overcap/overcap/model/MortalityTableGetLastAgePinLaw", "rates", "(IDD)[D"⟩ : MethodName) (head1 (Jvm.Cond.code (⟨"com/example/overcap/overcap/model/MortalityTableGetLastAgePinLaw", "rates", "(IDD)[D"⟩ : MethodName) method_2_code 5 (some (.array .double)) :: ws) ({ frames := 0, cells := 1, slots := 1, locals := 0 } : Room)) (fun a U => a = #[(.int (1 : Int32)), (.double uX), (.double uY)] ∧ Z.Warmed39 U.vm ∧ U.heap = h0) (fun _ _ _ _ _ => True) (fun _ U o U' => ∃ v L, o = .returned v ∧ Q_rmR_1 Z uX uY h0 n0 v U'.heap L ∧ FrameEnd U o U' L ({ frames := 0, cells := 1, slots := 1, locals := 0 } : Room).cells ({ frames := 0, cells := 1, slots := 1, locals := 0 } : Room).slots) := by
  refine MetFree.of_bodySF (plainFor_of_name pn_1) hisR ?_
  intro p e s m args below meth c s₁ Bd hml0 hP hK
  obtain ⟨rfl, hZ, hh⟩ := hP
  have hx := Bd.exec
  have hby := Bd.bytes
  have hml : c.maxLocals = 5 := hml0
  have hown : s.vm.findClass "com/example/overcap/overcap/model/MortalityTableGetLastAgePinLaw" = some m.cls := findClass_of_methodNamed Bd.named
  have hnm := (name_of_methodNamed Bd.named Bd.method).1
  have X0 : Stand p l e ({ frames := 0, cells := 1, slots := 1, locals := 0 } : Room) s m #[(.int (1 : Int32)), (.double uX), (.double uY)] below meth c s₁ [] 0 0 := Stand.of_body Bd
  have e0 : s₁.heap = h0 := by rw [← hh, Bd.state]; rfl
  have N0 := Fr.nil n0
  let PO : Outcome → State → Prop := own_PO s (Q_rmR_1 Z uX uY h0 n0) 1 1
  show own_Go p e below PO (s₁.setTop (entryFrame m #[(.int (1 : Int32)), (.double uX), (.double uY)] 5))
  rw [ef_rmR_1]
  show own_Go p e below PO (s₁.setTop (mkF m 0 #[.val (.int (1 : Int32)), .val (.double uX), .second, .val (.double uY), .second] []))
  refine own_back ?_ (fun t k => XS.iloadN X0.here hx rfl (hb hby d1_0) rfl k)
  show own_Go p e below PO (s₁.setTop (mkF m 1 #[.val (.int (1 : Int32)), .val (.double uX), .second, .val (.double uY), .second] [(.int (1 : Int32))]))
  refine own_back ?_ (fun t k => XS.iconst X0.here hx rfl (hb hby d1_1) k)
  show own_Go p e below PO (s₁.setTop (mkF m 2 #[.val (.int (1 : Int32)), .val (.double uX), .second, .val (.double uY), .second] [(.int (1 : Int32)), (.int (1 : Int32))]))
  refine own_back ?_ (fun t k => XS.icmpNo X0.here hx rfl (hb hby d1_2) rfl (teq rfl).2 k)
  show own_Go p e below PO (s₁.setTop (mkF m 5 #[.val (.int (1 : Int32)), .val (.double uX), .second, .val (.double uY), .second] []))
  refine own_back ?_ (fun t k => XS.iconst X0.here hx rfl (hb hby d1_5) k)
  show own_Go p e below PO (s₁.setTop (mkF m 6 #[.val (.int (1 : Int32)), .val (.double uX), .second, .val (.double uY), .second] [(.int (1 : Int32))]))
  obtain ⟨T1, h1, k1, X1, e1, E1, A1, Ex1, st1⟩ := newPE X0 hx hZ (hw _ (List.mem_of_getElem? (i := 7) rfl)) e0 (g := (mkF m 6 #[.val (.int (1 : Int32)), .val (.double uX), .second, .val (.double uY), .second] [(.int (1 : Int32))])) rfl (hb hby d1_6) rfl (by decide) (cap := 1) (by decide) (by decide) (by decide) (by decide) (ad := "[D") (by decide)
  obtain ⟨b1, g1⟩ : ∃ z, z = h0.size := ⟨_, rfl⟩
  rw [← g1] at A1 Ex1 st1
  have sz_b1 : h0.size ≤ b1 := Nat.le_of_eq g1.symm
  have gn_b1 : n0 ≤ b1 := Nat.le_trans Z0 sz_b1
  have K1 : Keep h0 h1 [] := (Keep.refl h0 []).ext E1
  have Zh1 : n0 ≤ h1.size := Nat.le_trans Z0 K1.1
  have V1 : Arv Z h1 b1 k1 .double (1 : Int32) [(.double (0 : UInt64))] (.double (0 : UInt64)) := (Arv.new A1 (by decide)).pad (pad_rep [] (.double (0 : UInt64)) 1)
  refine own_back ?_ st1
  show own_Go p e below PO (T1.setTop (mkF m 8 #[.val (.int (1 : Int32)), .val (.double uX), .second, .val (.double uY), .second] [(.ref b1)]))
  refine own_back ?_ (fun t k => XS.dup X1.here hx rfl (hb hby d1_8) rfl rfl k)
  show own_Go p e below PO (T1.setTop (mkF m 9 #[.val (.int (1 : Int32)), .val (.double uX), .second, .val (.double uY), .second] [(.ref b1), (.ref b1)]))
  refine own_back ?_ (fun t k => XS.iconst X1.here hx rfl (hb hby d1_9) k)
  show own_Go p e below PO (T1.setTop (mkF m 10 #[.val (.int (1 : Int32)), .val (.double uX), .second, .val (.double uY), .second] [(.int (0 : Int32)), (.ref b1), (.ref b1)]))
  refine own_back ?_ (fun t k => XS.dconst1 X1.here hx rfl (v := (4607182418800017408 : UInt64)) (hb hby d1_10) (by decide +kernel) k)
  show own_Go p e below PO (T1.setTop (mkF m 11 #[.val (.int (1 : Int32)), .val (.double uX), .second, .val (.double uY), .second] [(.double (4607182418800017408 : UInt64)), (.int (0 : Int32)), (.ref b1), (.ref b1)]))
  obtain ⟨T2, h2, X2, e2, W2, V2, st2⟩ := own_stD X1 hx hZ e1 V1 (j := (0 : Int32)) ⟨by decide, by decide⟩ (i := 0) rfl (by show 0 < 1; decide) (g := (mkF m 11 #[.val (.int (1 : Int32)), .val (.double uX), .second, .val (.double uY), .second] [(.double (4607182418800017408 : UInt64)), (.int (0 : Int32)), (.ref b1), (.ref b1)])) rfl rfl (hb hby d1_11)
  replace V2 : Arv Z h2 b1 k1 .double (1 : Int32) [(.double (4607182418800017408 : UInt64))] (.double (0 : UInt64)) := V2
  have f2_3 := Ex1.wr W2
  have K2 : Keep h0 h2 [] := (K1).wr W2 (Or.inr sz_b1)
  have N2 := Fr.snoc X2 N0 gn_b1
  have Zh2 : n0 ≤ h2.size := Nat.le_trans Z0 K2.1
  refine own_back ?_ st2
  show own_Go p e below PO (T2.setTop (mkF m 12 #[.val (.int (1 : Int32)), .val (.double uX), .second, .val (.double uY), .second] [(.ref b1)]))
  refine own_retA X2 hx (w := (.ref b1)) (rest := []) Bd.returns rfl rfl (hb hby d1_12) e2 (Bd.notSynchronized) ?_ (by decide) (by decide)
  exact ⟨b1, k1, rfl, N2, K2, sz_b1, f2_3, V2⟩
theorem d1_13 : decode method_2_code 13 = .ok (.iload_n 0, 1) := by decide +kernel
theorem d1_14 : decode method_2_code 14 = .ok (.iconst 2, 1) := by decide +kernel
theorem d1_15 : decode method_2_code 15 = .ok (.if_icmp .ne 15, 3) := by decide +kernel
theorem d1_18 : decode method_2_code 18 = .ok (.iconst 2, 1) := by decide +kernel
theorem d1_19 : decode method_2_code 19 = .ok (.newarray .double, 2) := by decide +kernel
theorem d1_21 : decode method_2_code 21 = .ok (.dup, 1) := by decide +kernel
theorem d1_22 : decode method_2_code 22 = .ok (.iconst 0, 1) := by decide +kernel
theorem d1_23 : decode method_2_code 23 = .ok (.dload_n 3, 1) := by decide +kernel
theorem d1_24 : decode method_2_code 24 = .ok (.dastore, 1) := by decide +kernel
theorem d1_25 : decode method_2_code 25 = .ok (.dup, 1) := by decide +kernel
theorem d1_26 : decode method_2_code 26 = .ok (.iconst 1, 1) := by decide +kernel
theorem d1_27 : decode method_2_code 27 = .ok (.dconst 1, 1) := by decide +kernel
theorem d1_28 : decode method_2_code 28 = .ok (.dastore, 1) := by decide +kernel
theorem d1_29 : decode method_2_code 29 = .ok (.areturn, 1) := by decide +kernel
theorem ef_rmR_2 (m : MethodId) (x0 : Int32) (x1 : UInt64) (x2 : UInt64) : entryFrame m #[(.int x0), (.double x1), (.double x2)] 5 = mkF m 0 #[.val (.int x0), .val (.double x1), .second, .val (.double x2), .second] [] := by first | (simp [entryFrame, mkF, argsToLocals, Value.category]; done) | rfl
def Q_rmR_2 (Z : State) (uX uY : UInt64) (h0 : Heap) (n0 : Nat) (v : Option Value) (h : Heap) (L : List Loc) : Prop := ∃ (aN : Addr) (kN : ClassId), v = some (.ref aN) ∧ Fr n0 L ∧ Keep h0 h [] ∧ h0.size ≤ aN ∧ Exa Z h aN "[D" ∧ Arv Z h aN kN .double (2 : Int32) [(.double uY), (.double (4607182418800017408 : UInt64))] (.double (0 : UInt64))
set_option maxRecDepth 65536 in
set_option maxHeartbeats 40000000 in
theorem rmR_2 (l : Launch) (Z : State) (a0 : Array Value) (hw : ∀ d ∈ tables_1, d.before a0 Z = true) (ws : List Jvm.Cond) (uX : UInt64) (uY : UInt64)  (h0 : Heap) (n0 : Nat) (Z0 : n0 ≤ h0.size)  :
    MetFree l (⟨"com/example/overcap/overcap/model/MortalityTableGetLastAgePinLaw", "rates", "(IDD)[D"⟩ : MethodName) (head1 (Jvm.Cond.code (⟨"com/example/overcap/overcap/model/MortalityTableGetLastAgePinLaw", "rates", "(IDD)[D"⟩ : MethodName) method_2_code 5 (some (.array .double)) :: ws) ({ frames := 0, cells := 1, slots := 2, locals := 0 } : Room)) (fun a U => a = #[(.int (2 : Int32)), (.double uX), (.double uY)] ∧ Z.Warmed39 U.vm ∧ U.heap = h0) (fun _ _ _ _ _ => True) (fun _ U o U' => ∃ v L, o = .returned v ∧ Q_rmR_2 Z uX uY h0 n0 v U'.heap L ∧ FrameEnd U o U' L ({ frames := 0, cells := 1, slots := 2, locals := 0 } : Room).cells ({ frames := 0, cells := 1, slots := 2, locals := 0 } : Room).slots) := by
  refine MetFree.of_bodySF (plainFor_of_name pn_1) hisR ?_
  intro p e s m args below meth c s₁ Bd hml0 hP hK
  obtain ⟨rfl, hZ, hh⟩ := hP
  have hx := Bd.exec
  have hby := Bd.bytes
  have hml : c.maxLocals = 5 := hml0
  have hown : s.vm.findClass "com/example/overcap/overcap/model/MortalityTableGetLastAgePinLaw" = some m.cls := findClass_of_methodNamed Bd.named
  have hnm := (name_of_methodNamed Bd.named Bd.method).1
  have X0 : Stand p l e ({ frames := 0, cells := 1, slots := 2, locals := 0 } : Room) s m #[(.int (2 : Int32)), (.double uX), (.double uY)] below meth c s₁ [] 0 0 := Stand.of_body Bd
  have e0 : s₁.heap = h0 := by rw [← hh, Bd.state]; rfl
  have N0 := Fr.nil n0
  let PO : Outcome → State → Prop := own_PO s (Q_rmR_2 Z uX uY h0 n0) 1 2
  show own_Go p e below PO (s₁.setTop (entryFrame m #[(.int (2 : Int32)), (.double uX), (.double uY)] 5))
  rw [ef_rmR_2]
  show own_Go p e below PO (s₁.setTop (mkF m 0 #[.val (.int (2 : Int32)), .val (.double uX), .second, .val (.double uY), .second] []))
  refine own_back ?_ (fun t k => XS.iloadN X0.here hx rfl (hb hby d1_0) rfl k)
  show own_Go p e below PO (s₁.setTop (mkF m 1 #[.val (.int (2 : Int32)), .val (.double uX), .second, .val (.double uY), .second] [(.int (2 : Int32))]))
  refine own_back ?_ (fun t k => XS.iconst X0.here hx rfl (hb hby d1_1) k)
  show own_Go p e below PO (s₁.setTop (mkF m 2 #[.val (.int (2 : Int32)), .val (.double uX), .second, .val (.double uY), .second] [(.int (1 : Int32)), (.int (2 : Int32))]))
  have hd2_1 : ¬ ((2 : Int32) = (1 : Int32)) := (by decide)
  refine own_back ?_ (fun t k => XS.icmpYes X0.here hx rfl (pc0 := 2) (pc' := 13) rfl (hb hby d1_2) rfl (feq hd2_1).2 (by decide) (by decide) k)
  show own_Go p e below PO (s₁.setTop (mkF m 13 #[.val (.int (2 : Int32)), .val (.double uX), .second, .val (.double uY), .second] []))
  refine own_back ?_ (fun t k => XS.iloadN X0.here hx rfl (hb hby d1_13) rfl k)
  show own_Go p e below PO (s₁.setTop (mkF m 14 #[.val (.int (2 : Int32)), .val (.double uX), .second, .val (.double uY), .second] [(.int (2 : Int32))]))
  refine own_back ?_ (fun t k => XS.iconst X0.here hx rfl (hb hby d1_14) k)
  show own_Go p e below PO (s₁.setTop (mkF m 15 #[.val (.int (2 : Int32)), .val (.double uX), .second, .val (.double uY), .second] [(.int (2 : Int32)), (.int (2 : Int32))]))
  refine own_back ?_ (fun t k => XS.icmpNo X0.here hx rfl (hb hby d1_15) rfl (teq rfl).2 k)
  show own_Go p e below PO (s₁.setTop (mkF m 18 #[.val (.int (2 : Int32)), .val (.double uX), .second, .val (.double uY), .second] []))
  refine own_back ?_ (fun t k => XS.iconst X0.here hx rfl (hb hby d1_18) k)
  show own_Go p e below PO (s₁.setTop (mkF m 19 #[.val (.int (2 : Int32)), .val (.double uX), .second, .val (.double uY), .second] [(.int (2 : Int32))]))
  obtain ⟨T2, h2, k2, X2, e2, E2, A2, Ex2, st2⟩ := newPE X0 hx hZ (hw _ (List.mem_of_getElem? (i := 7) rfl)) e0 (g := (mkF m 19 #[.val (.int (2 : Int32)), .val (.double uX), .second, .val (.double uY), .second] [(.int (2 : Int32))])) rfl (hb hby d1_19) rfl (by decide) (cap := 2) (by decide) (by decide) (by decide) (by decide) (ad := "[D") (by decide)
  obtain ⟨b2, g2⟩ : ∃ z, z = h0.size := ⟨_, rfl⟩
  rw [← g2] at A2 Ex2 st2
  have sz_b2 : h0.size ≤ b2 := Nat.le_of_eq g2.symm
  have gn_b2 : n0 ≤ b2 := Nat.le_trans Z0 sz_b2
  have K2 : Keep h0 h2 [] := (Keep.refl h0 []).ext E2
  have Zh2 : n0 ≤ h2.size := Nat.le_trans Z0 K2.1
  have V2 : Arv Z h2 b2 k2 .double (2 : Int32) [(.double (0 : UInt64)), (.double (0 : UInt64))] (.double (0 : UInt64)) := (Arv.new A2 (by decide)).pad (pad_rep [] (.double (0 : UInt64)) 2)
  refine own_back ?_ st2
  show own_Go p e below PO (T2.setTop (mkF m 21 #[.val (.int (2 : Int32)), .val (.double uX), .second, .val (.double uY), .second] [(.ref b2)]))
  refine own_back ?_ (fun t k => XS.dup X2.here hx rfl (hb hby d1_21) rfl rfl k)
  show own_Go p e below PO (T2.setTop (mkF m 22 #[.val (.int (2 : Int32)), .val (.double uX), .second, .val (.double uY), .second] [(.ref b2), (.ref b2)]))
  refine own_back ?_ (fun t k => XS.iconst X2.here hx rfl (hb hby d1_22) k)
  show own_Go p e below PO (T2.setTop (mkF m 23 #[.val (.int (2 : Int32)), .val (.double uX), .second, .val (.double uY), .second] [(.int (0 : Int32)), (.ref b2), (.ref b2)]))
  refine own_back ?_ (fun t k => XS.dloadN X2.here hx rfl (hb hby d1_23) rfl k)
  show own_Go p e below PO (T2.setTop (mkF m 24 #[.val (.int (2 : Int32)), .val (.double uX), .second, .val (.double uY), .second] [(.double uY), (.int (0 : Int32)), (.ref b2), (.ref b2)]))
  obtain ⟨T3, h3, X3, e3, W3, V3, st3⟩ := own_stD X2 hx hZ e2 V2 (j := (0 : Int32)) ⟨by decide, by decide⟩ (i := 0) rfl (by show 0 < 2; decide) (g := (mkF m 24 #[.val (.int (2 : Int32)), .val (.double uX), .second, .val (.double uY), .second] [(.double uY), (.int (0 : Int32)), (.ref b2), (.ref b2)])) rfl rfl (hb hby d1_24)
  replace V3 : Arv Z h3 b2 k2 .double (2 : Int32) [(.double uY), (.double (0 : UInt64))] (.double (0 : UInt64)) := V3
  have f3_4 := Ex2.wr W3
  have K3 : Keep h0 h3 [] := (K2).wr W3 (Or.inr sz_b2)
  have N3 := Fr.snoc X3 N0 gn_b2
  have Zh3 : n0 ≤ h3.size := Nat.le_trans Z0 K3.1
  refine own_back ?_ st3
  show own_Go p e below PO (T3.setTop (mkF m 25 #[.val (.int (2 : Int32)), .val (.double uX), .second, .val (.double uY), .second] [(.ref b2)]))
  refine own_back ?_ (fun t k => XS.dup X3.here hx rfl (hb hby d1_25) rfl rfl k)
  show own_Go p e below PO (T3.setTop (mkF m 26 #[.val (.int (2 : Int32)), .val (.double uX), .second, .val (.double uY), .second] [(.ref b2), (.ref b2)]))
  refine own_back ?_ (fun t k => XS.iconst X3.here hx rfl (hb hby d1_26) k)
  show own_Go p e below PO (T3.setTop (mkF m 27 #[.val (.int (2 : Int32)), .val (.double uX), .second, .val (.double uY), .second] [(.int (1 : Int32)), (.ref b2), (.ref b2)]))
  refine own_back ?_ (fun t k => XS.dconst1 X3.here hx rfl (v := (4607182418800017408 : UInt64)) (hb hby d1_27) (by decide +kernel) k)
  show own_Go p e below PO (T3.setTop (mkF m 28 #[.val (.int (2 : Int32)), .val (.double uX), .second, .val (.double uY), .second] [(.double (4607182418800017408 : UInt64)), (.int (1 : Int32)), (.ref b2), (.ref b2)]))
  obtain ⟨T5, h5, X5, e5, W5, V5, st5⟩ := own_stD X3 hx hZ e3 V3 (j := (1 : Int32)) ⟨by decide, by decide⟩ (i := 1) rfl (by show 1 < 2; decide) (g := (mkF m 28 #[.val (.int (2 : Int32)), .val (.double uX), .second, .val (.double uY), .second] [(.double (4607182418800017408 : UInt64)), (.int (1 : Int32)), (.ref b2), (.ref b2)])) rfl rfl (hb hby d1_28)
  replace V5 : Arv Z h5 b2 k2 .double (2 : Int32) [(.double uY), (.double (4607182418800017408 : UInt64))] (.double (0 : UInt64)) := V5
  have f5_6 := f3_4.wr W5
  have K5 : Keep h0 h5 [] := (K3).wr W5 (Or.inr sz_b2)
  have N5 := Fr.snoc X5 N3 gn_b2
  have Zh5 : n0 ≤ h5.size := Nat.le_trans Z0 K5.1
  refine own_back ?_ st5
  show own_Go p e below PO (T5.setTop (mkF m 29 #[.val (.int (2 : Int32)), .val (.double uX), .second, .val (.double uY), .second] [(.ref b2)]))
  refine own_retA X5 hx (w := (.ref b2)) (rest := []) Bd.returns rfl rfl (hb hby d1_29) e5 (Bd.notSynchronized) ?_ (by decide) (by decide)
  exact ⟨b2, k2, rfl, N5, K5, sz_b2, f5_6, V5⟩
theorem d1_30 : decode method_2_code 30 = .ok (.iconst 3, 1) := by decide +kernel
theorem d1_31 : decode method_2_code 31 = .ok (.newarray .double, 2) := by decide +kernel
theorem d1_33 : decode method_2_code 33 = .ok (.dup, 1) := by decide +kernel
theorem d1_34 : decode method_2_code 34 = .ok (.iconst 0, 1) := by decide +kernel
theorem d1_35 : decode method_2_code 35 = .ok (.dload_n 1, 1) := by decide +kernel
theorem d1_36 : decode method_2_code 36 = .ok (.dastore, 1) := by decide +kernel
theorem d1_37 : decode method_2_code 37 = .ok (.dup, 1) := by decide +kernel
theorem d1_38 : decode method_2_code 38 = .ok (.iconst 1, 1) := by decide +kernel
theorem d1_39 : decode method_2_code 39 = .ok (.dload_n 3, 1) := by decide +kernel
theorem d1_40 : decode method_2_code 40 = .ok (.dastore, 1) := by decide +kernel
theorem d1_41 : decode method_2_code 41 = .ok (.dup, 1) := by decide +kernel
theorem d1_42 : decode method_2_code 42 = .ok (.iconst 2, 1) := by decide +kernel
theorem d1_43 : decode method_2_code 43 = .ok (.dconst 1, 1) := by decide +kernel
theorem d1_44 : decode method_2_code 44 = .ok (.dastore, 1) := by decide +kernel
theorem d1_45 : decode method_2_code 45 = .ok (.areturn, 1) := by decide +kernel
theorem ef_rmR_3 (m : MethodId) (x0 : Int32) (x1 : UInt64) (x2 : UInt64) : entryFrame m #[(.int x0), (.double x1), (.double x2)] 5 = mkF m 0 #[.val (.int x0), .val (.double x1), .second, .val (.double x2), .second] [] := by first | (simp [entryFrame, mkF, argsToLocals, Value.category]; done) | rfl
def Q_rmR_3 (Z : State) (uX uY : UInt64) (h0 : Heap) (n0 : Nat) (v : Option Value) (h : Heap) (L : List Loc) : Prop := ∃ (aN : Addr) (kN : ClassId), v = some (.ref aN) ∧ Fr n0 L ∧ Keep h0 h [] ∧ h0.size ≤ aN ∧ Exa Z h aN "[D" ∧ Arv Z h aN kN .double (3 : Int32) [(.double uX), (.double uY), (.double (4607182418800017408 : UInt64))] (.double (0 : UInt64))
set_option maxRecDepth 65536 in
set_option maxHeartbeats 40000000 in
theorem rmR_3 (l : Launch) (Z : State) (a0 : Array Value) (hw : ∀ d ∈ tables_1, d.before a0 Z = true) (ws : List Jvm.Cond) (uX : UInt64) (uY : UInt64)  (h0 : Heap) (n0 : Nat) (Z0 : n0 ≤ h0.size)  :
    MetFree l (⟨"com/example/overcap/overcap/model/MortalityTableGetLastAgePinLaw", "rates", "(IDD)[D"⟩ : MethodName) (head1 (Jvm.Cond.code (⟨"com/example/overcap/overcap/model/MortalityTableGetLastAgePinLaw", "rates", "(IDD)[D"⟩ : MethodName) method_2_code 5 (some (.array .double)) :: ws) ({ frames := 0, cells := 1, slots := 3, locals := 0 } : Room)) (fun a U => a = #[(.int (3 : Int32)), (.double uX), (.double uY)] ∧ Z.Warmed39 U.vm ∧ U.heap = h0) (fun _ _ _ _ _ => True) (fun _ U o U' => ∃ v L, o = .returned v ∧ Q_rmR_3 Z uX uY h0 n0 v U'.heap L ∧ FrameEnd U o U' L ({ frames := 0, cells := 1, slots := 3, locals := 0 } : Room).cells ({ frames := 0, cells := 1, slots := 3, locals := 0 } : Room).slots) := by
  refine MetFree.of_bodySF (plainFor_of_name pn_1) hisR ?_
  intro p e s m args below meth c s₁ Bd hml0 hP hK
  obtain ⟨rfl, hZ, hh⟩ := hP
  have hx := Bd.exec
  have hby := Bd.bytes
  have hml : c.maxLocals = 5 := hml0
  have hown : s.vm.findClass "com/example/overcap/overcap/model/MortalityTableGetLastAgePinLaw" = some m.cls := findClass_of_methodNamed Bd.named
  have hnm := (name_of_methodNamed Bd.named Bd.method).1
  have X0 : Stand p l e ({ frames := 0, cells := 1, slots := 3, locals := 0 } : Room) s m #[(.int (3 : Int32)), (.double uX), (.double uY)] below meth c s₁ [] 0 0 := Stand.of_body Bd
  have e0 : s₁.heap = h0 := by rw [← hh, Bd.state]; rfl
  have N0 := Fr.nil n0
  let PO : Outcome → State → Prop := own_PO s (Q_rmR_3 Z uX uY h0 n0) 1 3
  show own_Go p e below PO (s₁.setTop (entryFrame m #[(.int (3 : Int32)), (.double uX), (.double uY)] 5))
  rw [ef_rmR_3]
  show own_Go p e below PO (s₁.setTop (mkF m 0 #[.val (.int (3 : Int32)), .val (.double uX), .second, .val (.double uY), .second] []))
  refine own_back ?_ (fun t k => XS.iloadN X0.here hx rfl (hb hby d1_0) rfl k)
  show own_Go p e below PO (s₁.setTop (mkF m 1 #[.val (.int (3 : Int32)), .val (.double uX), .second, .val (.double uY), .second] [(.int (3 : Int32))]))
  refine own_back ?_ (fun t k => XS.iconst X0.here hx rfl (hb hby d1_1) k)
  show own_Go p e below PO (s₁.setTop (mkF m 2 #[.val (.int (3 : Int32)), .val (.double uX), .second, .val (.double uY), .second] [(.int (1 : Int32)), (.int (3 : Int32))]))
  have hd2_1 : ¬ ((3 : Int32) = (1 : Int32)) := (by decide)
  refine own_back ?_ (fun t k => XS.icmpYes X0.here hx rfl (pc0 := 2) (pc' := 13) rfl (hb hby d1_2) rfl (feq hd2_1).2 (by decide) (by decide) k)
  show own_Go p e below PO (s₁.setTop (mkF m 13 #[.val (.int (3 : Int32)), .val (.double uX), .second, .val (.double uY), .second] []))
  refine own_back ?_ (fun t k => XS.iloadN X0.here hx rfl (hb hby d1_13) rfl k)
  show own_Go p e below PO (s₁.setTop (mkF m 14 #[.val (.int (3 : Int32)), .val (.double uX), .second, .val (.double uY), .second] [(.int (3 : Int32))]))
  refine own_back ?_ (fun t k => XS.iconst X0.here hx rfl (hb hby d1_14) k)
  show own_Go p e below PO (s₁.setTop (mkF m 15 #[.val (.int (3 : Int32)), .val (.double uX), .second, .val (.double uY), .second] [(.int (2 : Int32)), (.int (3 : Int32))]))
  have hd15_2 : ¬ ((3 : Int32) = (2 : Int32)) := (by decide)
  refine own_back ?_ (fun t k => XS.icmpYes X0.here hx rfl (pc0 := 15) (pc' := 30) rfl (hb hby d1_15) rfl (feq hd15_2).2 (by decide) (by decide) k)
  show own_Go p e below PO (s₁.setTop (mkF m 30 #[.val (.int (3 : Int32)), .val (.double uX), .second, .val (.double uY), .second] []))
  refine own_back ?_ (fun t k => XS.iconst X0.here hx rfl (hb hby d1_30) k)
  show own_Go p e below PO (s₁.setTop (mkF m 31 #[.val (.int (3 : Int32)), .val (.double uX), .second, .val (.double uY), .second] [(.int (3 : Int32))]))
  obtain ⟨T3, h3, k3, X3, e3, E3, A3, Ex3, st3⟩ := newPE X0 hx hZ (hw _ (List.mem_of_getElem? (i := 7) rfl)) e0 (g := (mkF m 31 #[.val (.int (3 : Int32)), .val (.double uX), .second, .val (.double uY), .second] [(.int (3 : Int32))])) rfl (hb hby d1_31) rfl (by decide) (cap := 3) (by decide) (by decide) (by decide) (by decide) (ad := "[D") (by decide)
  obtain ⟨b3, g3⟩ : ∃ z, z = h0.size := ⟨_, rfl⟩
  rw [← g3] at A3 Ex3 st3
  have sz_b3 : h0.size ≤ b3 := Nat.le_of_eq g3.symm
  have gn_b3 : n0 ≤ b3 := Nat.le_trans Z0 sz_b3
  have K3 : Keep h0 h3 [] := (Keep.refl h0 []).ext E3
  have Zh3 : n0 ≤ h3.size := Nat.le_trans Z0 K3.1
  have V3 : Arv Z h3 b3 k3 .double (3 : Int32) [(.double (0 : UInt64)), (.double (0 : UInt64)), (.double (0 : UInt64))] (.double (0 : UInt64)) := (Arv.new A3 (by decide)).pad (pad_rep [] (.double (0 : UInt64)) 3)
  refine own_back ?_ st3
  show own_Go p e below PO (T3.setTop (mkF m 33 #[.val (.int (3 : Int32)), .val (.double uX), .second, .val (.double uY), .second] [(.ref b3)]))
  refine own_back ?_ (fun t k => XS.dup X3.here hx rfl (hb hby d1_33) rfl rfl k)
  show own_Go p e below PO (T3.setTop (mkF m 34 #[.val (.int (3 : Int32)), .val (.double uX), .second, .val (.double uY), .second] [(.ref b3), (.ref b3)]))
  refine own_back ?_ (fun t k => XS.iconst X3.here hx rfl (hb hby d1_34) k)
  show own_Go p e below PO (T3.setTop (mkF m 35 #[.val (.int (3 : Int32)), .val (.double uX), .second, .val (.double uY), .second] [(.int (0 : Int32)), (.ref b3), (.ref b3)]))
  refine own_back ?_ (fun t k => XS.dloadN X3.here hx rfl (hb hby d1_35) rfl k)
  show own_Go p e below PO (T3.setTop (mkF m 36 #[.val (.int (3 : Int32)), .val (.double uX), .second, .val (.double uY), .second] [(.double uX), (.int (0 : Int32)), (.ref b3), (.ref b3)]))
  obtain ⟨T4, h4, X4, e4, W4, V4, st4⟩ := own_stD X3 hx hZ e3 V3 (j := (0 : Int32)) ⟨by decide, by decide⟩ (i := 0) rfl (by show 0 < 3; decide) (g := (mkF m 36 #[.val (.int (3 : Int32)), .val (.double uX), .second, .val (.double uY), .second] [(.double uX), (.int (0 : Int32)), (.ref b3), (.ref b3)])) rfl rfl (hb hby d1_36)
  replace V4 : Arv Z h4 b3 k3 .double (3 : Int32) [(.double uX), (.double (0 : UInt64)), (.double (0 : UInt64))] (.double (0 : UInt64)) := V4
  have f4_5 := Ex3.wr W4
  have K4 : Keep h0 h4 [] := (K3).wr W4 (Or.inr sz_b3)
  have N4 := Fr.snoc X4 N0 gn_b3
  have Zh4 : n0 ≤ h4.size := Nat.le_trans Z0 K4.1
  refine own_back ?_ st4
  show own_Go p e below PO (T4.setTop (mkF m 37 #[.val (.int (3 : Int32)), .val (.double uX), .second, .val (.double uY), .second] [(.ref b3)]))
  refine own_back ?_ (fun t k => XS.dup X4.here hx rfl (hb hby d1_37) rfl rfl k)
  show own_Go p e below PO (T4.setTop (mkF m 38 #[.val (.int (3 : Int32)), .val (.double uX), .second, .val (.double uY), .second] [(.ref b3), (.ref b3)]))
  refine own_back ?_ (fun t k => XS.iconst X4.here hx rfl (hb hby d1_38) k)
  show own_Go p e below PO (T4.setTop (mkF m 39 #[.val (.int (3 : Int32)), .val (.double uX), .second, .val (.double uY), .second] [(.int (1 : Int32)), (.ref b3), (.ref b3)]))
  refine own_back ?_ (fun t k => XS.dloadN X4.here hx rfl (hb hby d1_39) rfl k)
  show own_Go p e below PO (T4.setTop (mkF m 40 #[.val (.int (3 : Int32)), .val (.double uX), .second, .val (.double uY), .second] [(.double uY), (.int (1 : Int32)), (.ref b3), (.ref b3)]))
  obtain ⟨T6, h6, X6, e6, W6, V6, st6⟩ := own_stD X4 hx hZ e4 V4 (j := (1 : Int32)) ⟨by decide, by decide⟩ (i := 1) rfl (by show 1 < 3; decide) (g := (mkF m 40 #[.val (.int (3 : Int32)), .val (.double uX), .second, .val (.double uY), .second] [(.double uY), (.int (1 : Int32)), (.ref b3), (.ref b3)])) rfl rfl (hb hby d1_40)
  replace V6 : Arv Z h6 b3 k3 .double (3 : Int32) [(.double uX), (.double uY), (.double (0 : UInt64))] (.double (0 : UInt64)) := V6
  have f6_7 := f4_5.wr W6
  have K6 : Keep h0 h6 [] := (K4).wr W6 (Or.inr sz_b3)
  have N6 := Fr.snoc X6 N4 gn_b3
  have Zh6 : n0 ≤ h6.size := Nat.le_trans Z0 K6.1
  refine own_back ?_ st6
  show own_Go p e below PO (T6.setTop (mkF m 41 #[.val (.int (3 : Int32)), .val (.double uX), .second, .val (.double uY), .second] [(.ref b3)]))
  refine own_back ?_ (fun t k => XS.dup X6.here hx rfl (hb hby d1_41) rfl rfl k)
  show own_Go p e below PO (T6.setTop (mkF m 42 #[.val (.int (3 : Int32)), .val (.double uX), .second, .val (.double uY), .second] [(.ref b3), (.ref b3)]))
  refine own_back ?_ (fun t k => XS.iconst X6.here hx rfl (hb hby d1_42) k)
  show own_Go p e below PO (T6.setTop (mkF m 43 #[.val (.int (3 : Int32)), .val (.double uX), .second, .val (.double uY), .second] [(.int (2 : Int32)), (.ref b3), (.ref b3)]))
  refine own_back ?_ (fun t k => XS.dconst1 X6.here hx rfl (v := (4607182418800017408 : UInt64)) (hb hby d1_43) (by decide +kernel) k)
  show own_Go p e below PO (T6.setTop (mkF m 44 #[.val (.int (3 : Int32)), .val (.double uX), .second, .val (.double uY), .second] [(.double (4607182418800017408 : UInt64)), (.int (2 : Int32)), (.ref b3), (.ref b3)]))
  obtain ⟨T8, h8, X8, e8, W8, V8, st8⟩ := own_stD X6 hx hZ e6 V6 (j := (2 : Int32)) ⟨by decide, by decide⟩ (i := 2) rfl (by show 2 < 3; decide) (g := (mkF m 44 #[.val (.int (3 : Int32)), .val (.double uX), .second, .val (.double uY), .second] [(.double (4607182418800017408 : UInt64)), (.int (2 : Int32)), (.ref b3), (.ref b3)])) rfl rfl (hb hby d1_44)
  replace V8 : Arv Z h8 b3 k3 .double (3 : Int32) [(.double uX), (.double uY), (.double (4607182418800017408 : UInt64))] (.double (0 : UInt64)) := V8
  have f8_9 := f6_7.wr W8
  have K8 : Keep h0 h8 [] := (K6).wr W8 (Or.inr sz_b3)
  have N8 := Fr.snoc X8 N6 gn_b3
  have Zh8 : n0 ≤ h8.size := Nat.le_trans Z0 K8.1
  refine own_back ?_ st8
  show own_Go p e below PO (T8.setTop (mkF m 45 #[.val (.int (3 : Int32)), .val (.double uX), .second, .val (.double uY), .second] [(.ref b3)]))
  refine own_retA X8 hx (w := (.ref b3)) (rest := []) Bd.returns rfl rfl (hb hby d1_45) e8 (Bd.notSynchronized) ?_ (by decide) (by decide)
  exact ⟨b3, k3, rfl, N8, K8, sz_b3, f8_9, V8⟩
theorem d10_0 : decode prog_79_method_4_code 0 = .ok (.aload_n 0, 1) := by decide +kernel
theorem d10_1 : decode prog_79_method_4_code 1 = .ok (.getfield 34, 3) := by decide +kernel
theorem d10_4 : decode prog_79_method_4_code 4 = .ok (.ireturn, 1) := by decide +kernel
theorem ef_rmFA (m : MethodId) (x0 : Addr) : entryFrame m #[(.ref x0)] 1 = mkF m 0 #[.val (.ref x0)] [] := by first | (simp [entryFrame, mkF, argsToLocals, Value.category]; done) | rfl
def Q_rmFA (pF : Int32) (h0 : Heap) (n0 : Nat) (v : Option Value) (h : Heap) (L : List Loc) : Prop := v = some (.int pF) ∧ Fr n0 L ∧ h = h0
set_option maxRecDepth 65536 in
set_option maxHeartbeats 40000000 in
theorem rmFA (l : Launch) (Z : State) (a0 : Array Value) (hw : ∀ d ∈ tables_1, d.before a0 Z = true) (ws : List Jvm.Cond) (aT : Addr) (pF : Int32) (h0 : Heap) (n0 : Nat) (Z0 : n0 ≤ h0.size) (FA : Fld Z h0 aT "com/example/overcap/overcap/model/MortalityTable" "firstAge" "I" (.int pF)) :
    MetFree l (⟨"com/example/overcap/overcap/model/MortalityTable", "getFirstAge", "()I"⟩ : MethodName) (head1 (Jvm.Cond.code (⟨"com/example/overcap/overcap/model/MortalityTable", "getFirstAge", "()I"⟩ : MethodName) prog_79_method_4_code 1 (some .int) :: ws) ({ frames := 0, cells := 0, slots := 0, locals := 0 } : Room)) (fun a U => a = #[(.ref aT)] ∧ Z.Warmed39 U.vm ∧ U.heap = h0) (fun _ _ _ _ _ => True) (fun _ U o U' => ∃ v L, o = .returned v ∧ Q_rmFA pF h0 n0 v U'.heap L ∧ FrameEnd U o U' L ({ frames := 0, cells := 0, slots := 0, locals := 0 } : Room).cells ({ frames := 0, cells := 0, slots := 0, locals := 0 } : Room).slots) := by
  refine MetFree.of_bodySF (plainFor_of_name pn_0) hisR ?_
  intro p e s m args below meth c s₁ Bd hml0 hP hK
  obtain ⟨rfl, hZ, hh⟩ := hP
  have hx := Bd.exec
  have hby := Bd.bytes
  have hml : c.maxLocals = 1 := hml0
  have hown : s.vm.findClass "com/example/overcap/overcap/model/MortalityTable" = some m.cls := findClass_of_methodNamed Bd.named
  have hnm := (name_of_methodNamed Bd.named Bd.method).1
  have X0 : Stand p l e ({ frames := 0, cells := 0, slots := 0, locals := 0 } : Room) s m #[(.ref aT)] below meth c s₁ [] 0 0 := Stand.of_body Bd
  have e0 : s₁.heap = h0 := by rw [← hh, Bd.state]; rfl
  have N0 := Fr.nil n0
  let PO : Outcome → State → Prop := own_PO s (Q_rmFA pF h0 n0) 0 0
  show own_Go p e below PO (s₁.setTop (entryFrame m #[(.ref aT)] 1))
  rw [ef_rmFA]
  show own_Go p e below PO (s₁.setTop (mkF m 0 #[.val (.ref aT)] []))
  refine own_back ?_ (fun t k => XS.aloadN X0.here hx rfl (hb hby d10_0) rfl rfl k)
  show own_Go p e below PO (s₁.setTop (mkF m 1 #[.val (.ref aT)] [(.ref aT)]))
  obtain ⟨T1, X1, e1, st1⟩ := getF X0 hx hZ hown (host := "") (Or.inl (hw _ (List.mem_of_getElem? (i := 20) rfl))) Via.refl e0 FA (g := (mkF m 1 #[.val (.ref aT)] [(.ref aT)])) rfl rfl (hb hby d10_1)
  refine own_back ?_ st1
  show own_Go p e below PO (T1.setTop (mkF m 4 #[.val (.ref aT)] [(.int pF)]))
  refine own_retI X1 hx (rest := []) Bd.returns (hb hby d10_4) e1 (Bd.notSynchronized) ?_ (by decide) (by decide)
  exact ⟨rfl, N0, rfl⟩
theorem pd_6 : parseMethodDescriptor "(IDD)[D" = some ⟨[.int, .double, .double], some (.array .double)⟩ := by decide +kernel
theorem pd_7 : parseMethodDescriptor "(I[D[D)V" = some ⟨[.int, (.array .double), (.array .double)], none⟩ := by decide +kernel
theorem pd_8 : parseMethodDescriptor "(ID)D" = some ⟨[.int, .double], some .double⟩ := by decide +kernel
theorem ef_rm0 (m : MethodId) (x0 : Int32) (x1 : Int32) (x2 : Int32) (x3 : Int32) : entryFrame m #[(.int x0), (.int x1), (.int x2), (.int x3)] maxLocals = mkF m 0 #[.val (.int x0), .val (.int x1), .val (.int x2), .val (.int x3), .unset, .unset, .unset, .unset, .unset, .unset, .unset, .unset, .unset, .unset, .unset, .unset, .unset, .unset] [] := by first | (simp [entryFrame, mkF, argsToLocals, Value.category, maxLocals]; done) | rfl
def Q_rm0 (n0 : Nat) (v : Option Value) (h : Heap) (L : List Loc) : Prop := v = some (.int 1) ∧ Fr n0 L
set_option maxRecDepth 65536 in
set_option maxHeartbeats 40000000 in
theorem rm0 (l : Launch) (Z : State) (a0 : Array Value) (hw : ∀ d ∈ tables_1, d.before a0 Z = true) (ws : List Jvm.Cond) (pA : Int32) (pB : Int32) (pC : Int32) (pD : Int32)  (h0 : Heap) (n0 : Nat) (Z0 : n0 ≤ h0.size)  :
    MetFree l x (head1 (Jvm.Cond.code x code maxLocals ret :: ws) room_1) (fun a U => a = #[(.int pA), (.int pB), (.int pC), (.int pD)] ∧ Z.Warmed39 U.vm ∧ U.heap = h0) (fun _ _ _ _ _ => True) (fun _ U o U' => ∃ v L, o = .returned v ∧ Q_rm0 n0 v U'.heap L ∧ ReturnedEndW U o U' L room_1.cells room_1.slots) := by
  refine MetFree.of_bodySF (plainFor_of_name pn_1) hisR ?_
  intro p e s m args below meth c s₁ Bd hml0 hP hK
  obtain ⟨rfl, hZ, hh⟩ := hP
  have hx := Bd.exec
  have hby := Bd.bytes
  have hml : c.maxLocals = 18 := hml0
  have hown : s.vm.findClass "com/example/overcap/overcap/model/MortalityTableGetLastAgePinLaw" = some m.cls := findClass_of_methodNamed Bd.named
  have hnm := (name_of_methodNamed Bd.named Bd.method).1
  have X0 : Stand p l e room_1 s m #[(.int pA), (.int pB), (.int pC), (.int pD)] below meth c s₁ [] 0 0 := Stand.of_body Bd
  have e0 : s₁.heap = h0 := by rw [← hh, Bd.state]; rfl
  have N0 := Fr.nil n0
  have hS0 : s.Since s.vm 0 := (State.WarmedH.refl s).since 0
  let PO : Outcome → State → Prop := own_POW s (Q_rm0 n0) 24 2176
  show own_Go p e below PO (s₁.setTop (entryFrame m #[(.int pA), (.int pB), (.int pC), (.int pD)] maxLocals))
  rw [ef_rm0]
  show own_Go p e below PO (s₁.setTop (mkF m 0 #[.val (.int pA), .val (.int pB), .val (.int pC), .val (.int pD), .unset, .unset, .unset, .unset, .unset, .unset, .unset, .unset, .unset, .unset, .unset, .unset, .unset, .unset] []))
  refine own_back ?_ (fun t k => XS.iloadN X0.here hx rfl (hb hby at_0) rfl k)
  show own_Go p e below PO (s₁.setTop (mkF m 1 #[.val (.int pA), .val (.int pB), .val (.int pC), .val (.int pD), .unset, .unset, .unset, .unset, .unset, .unset, .unset, .unset, .unset, .unset, .unset, .unset, .unset, .unset] [(.int pA)]))
  refine own_back ?_ (fun t k => X0.ldcInt hx hown (mvT hZ (hw _ (List.mem_of_getElem? (i := 0) rfl))) (g := (mkF m 1 #[.val (.int pA), .val (.int pB), .val (.int pC), .val (.int pD), .unset, .unset, .unset, .unset, .unset, .unset, .unset, .unset, .unset, .unset, .unset, .unset, .unset, .unset] [(.int pA)])) rfl (hb hby at_1) _ k)
  show own_Go p e below PO (s₁.setTop (mkF m 3 #[.val (.int pA), .val (.int pB), .val (.int pC), .val (.int pD), .unset, .unset, .unset, .unset, .unset, .unset, .unset, .unset, .unset, .unset, .unset, .unset, .unset, .unset] [(.int (2147483647 : Int32)), (.int pA)]))
  refine own_back ?_ (fun t k => XS.iand X0.here hx rfl (hb hby at_3) rfl k)
  show own_Go p e below PO (s₁.setTop (mkF m 4 #[.val (.int pA), .val (.int pB), .val (.int pC), .val (.int pD), .unset, .unset, .unset, .unset, .unset, .unset, .unset, .unset, .unset, .unset, .unset, .unset, .unset, .unset] [(.int (pA &&& (2147483647 : Int32)))]))
  refine own_back ?_ (fun t k => X0.ldcInt hx hown (mvT hZ (hw _ (List.mem_of_getElem? (i := 1) rfl))) (g := (mkF m 4 #[.val (.int pA), .val (.int pB), .val (.int pC), .val (.int pD), .unset, .unset, .unset, .unset, .unset, .unset, .unset, .unset, .unset, .unset, .unset, .unset, .unset, .unset] [(.int (pA &&& (2147483647 : Int32)))])) rfl (hb hby at_4) _ k)
  show own_Go p e below PO (s₁.setTop (mkF m 6 #[.val (.int pA), .val (.int pB), .val (.int pC), .val (.int pD), .unset, .unset, .unset, .unset, .unset, .unset, .unset, .unset, .unset, .unset, .unset, .unset, .unset, .unset] [(.int (2147483646 : Int32)), (.int (pA &&& (2147483647 : Int32)))]))
  refine own_back ?_ (fun t k => iremM X0 hx rfl (hb hby at_6) rfl (by decide) k)
  show own_Go p e below PO (s₁.setTop (mkF m 7 #[.val (.int pA), .val (.int pB), .val (.int pC), .val (.int pD), .unset, .unset, .unset, .unset, .unset, .unset, .unset, .unset, .unset, .unset, .unset, .unset, .unset, .unset] [(.int ((pA &&& (2147483647 : Int32)) % (2147483646 : Int32)))]))
  refine own_back ?_ (fun t k => XS.istore X0.here hx rfl (hb hby at_7) rfl (l' := #[.val (.int pA), .val (.int pB), .val (.int pC), .val (.int pD), .val (.int ((pA &&& (2147483647 : Int32)) % (2147483646 : Int32))), .unset, .unset, .unset, .unset, .unset, .unset, .unset, .unset, .unset, .unset, .unset, .unset, .unset]) rfl k)
  show own_Go p e below PO (s₁.setTop (mkF m 9 #[.val (.int pA), .val (.int pB), .val (.int pC), .val (.int pD), .val (.int ((pA &&& (2147483647 : Int32)) % (2147483646 : Int32))), .unset, .unset, .unset, .unset, .unset, .unset, .unset, .unset, .unset, .unset, .unset, .unset, .unset] []))
  refine own_gen (A := Int32) ((pA &&& (2147483647 : Int32)) % (2147483646 : Int32)) (fun v4_1 => own_Go p e below PO (s₁.setTop (mkF m 9 #[.val (.int pA), .val (.int pB), .val (.int pC), .val (.int pD), .val (.int v4_1), .unset, .unset, .unset, .unset, .unset, .unset, .unset, .unset, .unset, .unset, .unset, .unset, .unset] []))) ?_
  intro v4_1 h_v4_1
  show own_Go p e below PO (s₁.setTop (mkF m 9 #[.val (.int pA), .val (.int pB), .val (.int pC), .val (.int pD), .val (.int v4_1), .unset, .unset, .unset, .unset, .unset, .unset, .unset, .unset, .unset, .unset, .unset, .unset, .unset] []))
  refine own_back ?_ (fun t k => XS.iconst X0.here hx rfl (hb hby at_9) k)
  show own_Go p e below PO (s₁.setTop (mkF m 10 #[.val (.int pA), .val (.int pB), .val (.int pC), .val (.int pD), .val (.int v4_1), .unset, .unset, .unset, .unset, .unset, .unset, .unset, .unset, .unset, .unset, .unset, .unset, .unset] [(.int (1 : Int32))]))
  refine own_back ?_ (fun t k => XS.iloadN X0.here hx rfl (hb hby at_10) rfl k)
  show own_Go p e below PO (s₁.setTop (mkF m 11 #[.val (.int pA), .val (.int pB), .val (.int pC), .val (.int pD), .val (.int v4_1), .unset, .unset, .unset, .unset, .unset, .unset, .unset, .unset, .unset, .unset, .unset, .unset, .unset] [(.int pB), (.int (1 : Int32))]))
  refine own_back ?_ (fun t k => X0.ldcInt hx hown (mvT hZ (hw _ (List.mem_of_getElem? (i := 0) rfl))) (g := (mkF m 11 #[.val (.int pA), .val (.int pB), .val (.int pC), .val (.int pD), .val (.int v4_1), .unset, .unset, .unset, .unset, .unset, .unset, .unset, .unset, .unset, .unset, .unset, .unset, .unset] [(.int pB), (.int (1 : Int32))])) rfl (hb hby at_11) _ k)
  show own_Go p e below PO (s₁.setTop (mkF m 13 #[.val (.int pA), .val (.int pB), .val (.int pC), .val (.int pD), .val (.int v4_1), .unset, .unset, .unset, .unset, .unset, .unset, .unset, .unset, .unset, .unset, .unset, .unset, .unset] [(.int (2147483647 : Int32)), (.int pB), (.int (1 : Int32))]))
  refine own_back ?_ (fun t k => XS.iand X0.here hx rfl (hb hby at_13) rfl k)
  show own_Go p e below PO (s₁.setTop (mkF m 14 #[.val (.int pA), .val (.int pB), .val (.int pC), .val (.int pD), .val (.int v4_1), .unset, .unset, .unset, .unset, .unset, .unset, .unset, .unset, .unset, .unset, .unset, .unset, .unset] [(.int (pB &&& (2147483647 : Int32))), (.int (1 : Int32))]))
  refine own_back ?_ (fun t k => XS.iconst X0.here hx rfl (hb hby at_14) k)
  show own_Go p e below PO (s₁.setTop (mkF m 15 #[.val (.int pA), .val (.int pB), .val (.int pC), .val (.int pD), .val (.int v4_1), .unset, .unset, .unset, .unset, .unset, .unset, .unset, .unset, .unset, .unset, .unset, .unset, .unset] [(.int (3 : Int32)), (.int (pB &&& (2147483647 : Int32))), (.int (1 : Int32))]))
  refine own_back ?_ (fun t k => iremM X0 hx rfl (hb hby at_15) rfl (by decide) k)
  show own_Go p e below PO (s₁.setTop (mkF m 16 #[.val (.int pA), .val (.int pB), .val (.int pC), .val (.int pD), .val (.int v4_1), .unset, .unset, .unset, .unset, .unset, .unset, .unset, .unset, .unset, .unset, .unset, .unset, .unset] [(.int ((pB &&& (2147483647 : Int32)) % (3 : Int32))), (.int (1 : Int32))]))
  refine own_back ?_ (fun t k => XS.iadd X0.here hx rfl (hb hby at_16) rfl k)
  show own_Go p e below PO (s₁.setTop (mkF m 17 #[.val (.int pA), .val (.int pB), .val (.int pC), .val (.int pD), .val (.int v4_1), .unset, .unset, .unset, .unset, .unset, .unset, .unset, .unset, .unset, .unset, .unset, .unset, .unset] [(.int ((1 : Int32) + ((pB &&& (2147483647 : Int32)) % (3 : Int32))))]))
  refine own_back ?_ (fun t k => XS.istore X0.here hx rfl (hb hby at_17) rfl (l' := #[.val (.int pA), .val (.int pB), .val (.int pC), .val (.int pD), .val (.int v4_1), .val (.int ((1 : Int32) + ((pB &&& (2147483647 : Int32)) % (3 : Int32)))), .unset, .unset, .unset, .unset, .unset, .unset, .unset, .unset, .unset, .unset, .unset, .unset]) rfl k)
  show own_Go p e below PO (s₁.setTop (mkF m 19 #[.val (.int pA), .val (.int pB), .val (.int pC), .val (.int pD), .val (.int v4_1), .val (.int ((1 : Int32) + ((pB &&& (2147483647 : Int32)) % (3 : Int32)))), .unset, .unset, .unset, .unset, .unset, .unset, .unset, .unset, .unset, .unset, .unset, .unset] []))
  refine own_gen (A := Int32) ((1 : Int32) + ((pB &&& (2147483647 : Int32)) % (3 : Int32))) (fun v5_2 => own_Go p e below PO (s₁.setTop (mkF m 19 #[.val (.int pA), .val (.int pB), .val (.int pC), .val (.int pD), .val (.int v4_1), .val (.int v5_2), .unset, .unset, .unset, .unset, .unset, .unset, .unset, .unset, .unset, .unset, .unset, .unset] []))) ?_
  intro v5_2 h_v5_2
  show own_Go p e below PO (s₁.setTop (mkF m 19 #[.val (.int pA), .val (.int pB), .val (.int pC), .val (.int pD), .val (.int v4_1), .val (.int v5_2), .unset, .unset, .unset, .unset, .unset, .unset, .unset, .unset, .unset, .unset, .unset, .unset] []))
  have hf := own_f h_v4_1
  rcases own_c3 h_v5_2 with q3 | q3 | q3
  · subst q3
    show own_Go p e below PO (s₁.setTop (mkF m 19 #[.val (.int pA), .val (.int pB), .val (.int pC), .val (.int pD), .val (.int v4_1), .val (.int (1 : Int32)), .unset, .unset, .unset, .unset, .unset, .unset, .unset, .unset, .unset, .unset, .unset, .unset] []))
    refine own_back ?_ (fun t k => XS.iloadN X0.here hx rfl (hb hby at_19) rfl k)
    show own_Go p e below PO (s₁.setTop (mkF m 20 #[.val (.int pA), .val (.int pB), .val (.int pC), .val (.int pD), .val (.int v4_1), .val (.int (1 : Int32)), .unset, .unset, .unset, .unset, .unset, .unset, .unset, .unset, .unset, .unset, .unset, .unset] [(.int pC)]))
    refine own_back ?_ (fun t k => XS.bipush X0.here hx rfl (hb hby at_20) k)
    show own_Go p e below PO (s₁.setTop (mkF m 22 #[.val (.int pA), .val (.int pB), .val (.int pC), .val (.int pD), .val (.int v4_1), .val (.int (1 : Int32)), .unset, .unset, .unset, .unset, .unset, .unset, .unset, .unset, .unset, .unset, .unset, .unset] [(.int (7 : Int32)), (.int pC)]))
    refine own_back ?_ (fun t k => XS.iand X0.here hx rfl (hb hby at_22) rfl k)
    show own_Go p e below PO (s₁.setTop (mkF m 23 #[.val (.int pA), .val (.int pB), .val (.int pC), .val (.int pD), .val (.int v4_1), .val (.int (1 : Int32)), .unset, .unset, .unset, .unset, .unset, .unset, .unset, .unset, .unset, .unset, .unset, .unset] [(.int (pC &&& (7 : Int32)))]))
    refine own_back ?_ (fun t k => XS.i2dS X0.here hx rfl (v := (FP.i2d (pC &&& (7 : Int32)))) (hb hby at_23) rfl rfl k)
    show own_Go p e below PO (s₁.setTop (mkF m 24 #[.val (.int pA), .val (.int pB), .val (.int pC), .val (.int pD), .val (.int v4_1), .val (.int (1 : Int32)), .unset, .unset, .unset, .unset, .unset, .unset, .unset, .unset, .unset, .unset, .unset, .unset] [(.double (FP.i2d (pC &&& (7 : Int32))))]))
    refine own_back ?_ (fun t k => X0.ldc2DoubleC hx hown (mvT hZ (hw _ (List.mem_of_getElem? (i := 2) rfl))) (g := (mkF m 24 #[.val (.int pA), .val (.int pB), .val (.int pC), .val (.int pD), .val (.int v4_1), .val (.int (1 : Int32)), .unset, .unset, .unset, .unset, .unset, .unset, .unset, .unset, .unset, .unset, .unset, .unset] [(.double (FP.i2d (pC &&& (7 : Int32))))])) rfl (hb hby at_24) _ k)
    show own_Go p e below PO (s₁.setTop (mkF m 27 #[.val (.int pA), .val (.int pB), .val (.int pC), .val (.int pD), .val (.int v4_1), .val (.int (1 : Int32)), .unset, .unset, .unset, .unset, .unset, .unset, .unset, .unset, .unset, .unset, .unset, .unset] [(.double (4620693217682128896 : UInt64)), (.double (FP.i2d (pC &&& (7 : Int32))))]))
    refine own_back ?_ (fun t k => XS.ddivS X0.here hx rfl (v := (own_q (pC &&& (7 : Int32)))) (hb hby at_27) rfl (own_divN _) rfl k)
    show own_Go p e below PO (s₁.setTop (mkF m 28 #[.val (.int pA), .val (.int pB), .val (.int pC), .val (.int pD), .val (.int v4_1), .val (.int (1 : Int32)), .unset, .unset, .unset, .unset, .unset, .unset, .unset, .unset, .unset, .unset, .unset, .unset] [(.double (own_q (pC &&& (7 : Int32))))]))
    refine own_back ?_ (fun t k => XS.dstore X0.here hx rfl (hb hby at_28) rfl (l' := #[.val (.int pA), .val (.int pB), .val (.int pC), .val (.int pD), .val (.int v4_1), .val (.int (1 : Int32)), .val (.double (own_q (pC &&& (7 : Int32)))), .second, .unset, .unset, .unset, .unset, .unset, .unset, .unset, .unset, .unset, .unset]) rfl k)
    show own_Go p e below PO (s₁.setTop (mkF m 30 #[.val (.int pA), .val (.int pB), .val (.int pC), .val (.int pD), .val (.int v4_1), .val (.int (1 : Int32)), .val (.double (own_q (pC &&& (7 : Int32)))), .second, .unset, .unset, .unset, .unset, .unset, .unset, .unset, .unset, .unset, .unset] []))
    refine own_gen (A := UInt64) (own_q (pC &&& (7 : Int32))) (fun v6_4 => own_Go p e below PO (s₁.setTop (mkF m 30 #[.val (.int pA), .val (.int pB), .val (.int pC), .val (.int pD), .val (.int v4_1), .val (.int (1 : Int32)), .val (.double v6_4), .second, .unset, .unset, .unset, .unset, .unset, .unset, .unset, .unset, .unset, .unset] []))) ?_
    intro v6_4 h_v6_4
    show own_Go p e below PO (s₁.setTop (mkF m 30 #[.val (.int pA), .val (.int pB), .val (.int pC), .val (.int pD), .val (.int v4_1), .val (.int (1 : Int32)), .val (.double v6_4), .second, .unset, .unset, .unset, .unset, .unset, .unset, .unset, .unset, .unset, .unset] []))
    have hq6 : own_qn v6_4 := by rw [h_v6_4]; exact own_q7 _
    refine own_back ?_ (fun t k => XS.iloadN X0.here hx rfl (hb hby at_30) rfl k)
    show own_Go p e below PO (s₁.setTop (mkF m 31 #[.val (.int pA), .val (.int pB), .val (.int pC), .val (.int pD), .val (.int v4_1), .val (.int (1 : Int32)), .val (.double v6_4), .second, .unset, .unset, .unset, .unset, .unset, .unset, .unset, .unset, .unset, .unset] [(.int pC)]))
    refine own_back ?_ (fun t k => XS.iconst X0.here hx rfl (hb hby at_31) k)
    show own_Go p e below PO (s₁.setTop (mkF m 32 #[.val (.int pA), .val (.int pB), .val (.int pC), .val (.int pD), .val (.int v4_1), .val (.int (1 : Int32)), .val (.double v6_4), .second, .unset, .unset, .unset, .unset, .unset, .unset, .unset, .unset, .unset, .unset] [(.int (3 : Int32)), (.int pC)]))
    refine own_back ?_ (fun t k => XS.iushr X0.here hx rfl (hb hby at_32) rfl k)
    show own_Go p e below PO (s₁.setTop (mkF m 33 #[.val (.int pA), .val (.int pB), .val (.int pC), .val (.int pD), .val (.int v4_1), .val (.int (1 : Int32)), .val (.double v6_4), .second, .unset, .unset, .unset, .unset, .unset, .unset, .unset, .unset, .unset, .unset] [(.int ((pC.toUInt32 >>> ((3 : Int32) &&& 31).toUInt32).toInt32))]))
    refine own_back ?_ (fun t k => XS.bipush X0.here hx rfl (hb hby at_33) k)
    show own_Go p e below PO (s₁.setTop (mkF m 35 #[.val (.int pA), .val (.int pB), .val (.int pC), .val (.int pD), .val (.int v4_1), .val (.int (1 : Int32)), .val (.double v6_4), .second, .unset, .unset, .unset, .unset, .unset, .unset, .unset, .unset, .unset, .unset] [(.int (7 : Int32)), (.int ((pC.toUInt32 >>> ((3 : Int32) &&& 31).toUInt32).toInt32))]))
    refine own_back ?_ (fun t k => XS.iand X0.here hx rfl (hb hby at_35) rfl k)
    show own_Go p e below PO (s₁.setTop (mkF m 36 #[.val (.int pA), .val (.int pB), .val (.int pC), .val (.int pD), .val (.int v4_1), .val (.int (1 : Int32)), .val (.double v6_4), .second, .unset, .unset, .unset, .unset, .unset, .unset, .unset, .unset, .unset, .unset] [(.int (((pC.toUInt32 >>> ((3 : Int32) &&& 31).toUInt32).toInt32) &&& (7 : Int32)))]))
    refine own_back ?_ (fun t k => XS.i2dS X0.here hx rfl (v := (FP.i2d (((pC.toUInt32 >>> ((3 : Int32) &&& 31).toUInt32).toInt32) &&& (7 : Int32)))) (hb hby at_36) rfl rfl k)
    show own_Go p e below PO (s₁.setTop (mkF m 37 #[.val (.int pA), .val (.int pB), .val (.int pC), .val (.int pD), .val (.int v4_1), .val (.int (1 : Int32)), .val (.double v6_4), .second, .unset, .unset, .unset, .unset, .unset, .unset, .unset, .unset, .unset, .unset] [(.double (FP.i2d (((pC.toUInt32 >>> ((3 : Int32) &&& 31).toUInt32).toInt32) &&& (7 : Int32))))]))
    refine own_back ?_ (fun t k => X0.ldc2DoubleC hx hown (mvT hZ (hw _ (List.mem_of_getElem? (i := 2) rfl))) (g := (mkF m 37 #[.val (.int pA), .val (.int pB), .val (.int pC), .val (.int pD), .val (.int v4_1), .val (.int (1 : Int32)), .val (.double v6_4), .second, .unset, .unset, .unset, .unset, .unset, .unset, .unset, .unset, .unset, .unset] [(.double (FP.i2d (((pC.toUInt32 >>> ((3 : Int32) &&& 31).toUInt32).toInt32) &&& (7 : Int32))))])) rfl (hb hby at_37) _ k)
    show own_Go p e below PO (s₁.setTop (mkF m 40 #[.val (.int pA), .val (.int pB), .val (.int pC), .val (.int pD), .val (.int v4_1), .val (.int (1 : Int32)), .val (.double v6_4), .second, .unset, .unset, .unset, .unset, .unset, .unset, .unset, .unset, .unset, .unset] [(.double (4620693217682128896 : UInt64)), (.double (FP.i2d (((pC.toUInt32 >>> ((3 : Int32) &&& 31).toUInt32).toInt32) &&& (7 : Int32))))]))
    refine own_back ?_ (fun t k => XS.ddivS X0.here hx rfl (v := (own_q (((pC.toUInt32 >>> ((3 : Int32) &&& 31).toUInt32).toInt32) &&& (7 : Int32)))) (hb hby at_40) rfl (own_divN _) rfl k)
    show own_Go p e below PO (s₁.setTop (mkF m 41 #[.val (.int pA), .val (.int pB), .val (.int pC), .val (.int pD), .val (.int v4_1), .val (.int (1 : Int32)), .val (.double v6_4), .second, .unset, .unset, .unset, .unset, .unset, .unset, .unset, .unset, .unset, .unset] [(.double (own_q (((pC.toUInt32 >>> ((3 : Int32) &&& 31).toUInt32).toInt32) &&& (7 : Int32))))]))
    refine own_back ?_ (fun t k => XS.dstore X0.here hx rfl (hb hby at_41) rfl (l' := #[.val (.int pA), .val (.int pB), .val (.int pC), .val (.int pD), .val (.int v4_1), .val (.int (1 : Int32)), .val (.double v6_4), .second, .val (.double (own_q (((pC.toUInt32 >>> ((3 : Int32) &&& 31).toUInt32).toInt32) &&& (7 : Int32)))), .second, .unset, .unset, .unset, .unset, .unset, .unset, .unset, .unset]) rfl k)
    show own_Go p e below PO (s₁.setTop (mkF m 43 #[.val (.int pA), .val (.int pB), .val (.int pC), .val (.int pD), .val (.int v4_1), .val (.int (1 : Int32)), .val (.double v6_4), .second, .val (.double (own_q (((pC.toUInt32 >>> ((3 : Int32) &&& 31).toUInt32).toInt32) &&& (7 : Int32)))), .second, .unset, .unset, .unset, .unset, .unset, .unset, .unset, .unset] []))
    refine own_gen (A := UInt64) (own_q (((pC.toUInt32 >>> ((3 : Int32) &&& 31).toUInt32).toInt32) &&& (7 : Int32))) (fun v8_5 => own_Go p e below PO (s₁.setTop (mkF m 43 #[.val (.int pA), .val (.int pB), .val (.int pC), .val (.int pD), .val (.int v4_1), .val (.int (1 : Int32)), .val (.double v6_4), .second, .val (.double v8_5), .second, .unset, .unset, .unset, .unset, .unset, .unset, .unset, .unset] []))) ?_
    intro v8_5 h_v8_5
    show own_Go p e below PO (s₁.setTop (mkF m 43 #[.val (.int pA), .val (.int pB), .val (.int pC), .val (.int pD), .val (.int v4_1), .val (.int (1 : Int32)), .val (.double v6_4), .second, .val (.double v8_5), .second, .unset, .unset, .unset, .unset, .unset, .unset, .unset, .unset] []))
    have hq8 : own_qn v8_5 := by rw [h_v8_5]; exact own_q7 _
    refine own_back ?_ (fun t k => XS.iloadN X0.here hx rfl (hb hby at_43) rfl k)
    show own_Go p e below PO (s₁.setTop (mkF m 44 #[.val (.int pA), .val (.int pB), .val (.int pC), .val (.int pD), .val (.int v4_1), .val (.int (1 : Int32)), .val (.double v6_4), .second, .val (.double v8_5), .second, .unset, .unset, .unset, .unset, .unset, .unset, .unset, .unset] [(.int pD)]))
    refine own_back ?_ (fun t k => XS.bipush X0.here hx rfl (hb hby at_44) k)
    show own_Go p e below PO (s₁.setTop (mkF m 46 #[.val (.int pA), .val (.int pB), .val (.int pC), .val (.int pD), .val (.int v4_1), .val (.int (1 : Int32)), .val (.double v6_4), .second, .val (.double v8_5), .second, .unset, .unset, .unset, .unset, .unset, .unset, .unset, .unset] [(.int (7 : Int32)), (.int pD)]))
    refine own_back ?_ (fun t k => XS.iand X0.here hx rfl (hb hby at_46) rfl k)
    show own_Go p e below PO (s₁.setTop (mkF m 47 #[.val (.int pA), .val (.int pB), .val (.int pC), .val (.int pD), .val (.int v4_1), .val (.int (1 : Int32)), .val (.double v6_4), .second, .val (.double v8_5), .second, .unset, .unset, .unset, .unset, .unset, .unset, .unset, .unset] [(.int (pD &&& (7 : Int32)))]))
    refine own_back ?_ (fun t k => XS.i2dS X0.here hx rfl (v := (FP.i2d (pD &&& (7 : Int32)))) (hb hby at_47) rfl rfl k)
    show own_Go p e below PO (s₁.setTop (mkF m 48 #[.val (.int pA), .val (.int pB), .val (.int pC), .val (.int pD), .val (.int v4_1), .val (.int (1 : Int32)), .val (.double v6_4), .second, .val (.double v8_5), .second, .unset, .unset, .unset, .unset, .unset, .unset, .unset, .unset] [(.double (FP.i2d (pD &&& (7 : Int32))))]))
    refine own_back ?_ (fun t k => X0.ldc2DoubleC hx hown (mvT hZ (hw _ (List.mem_of_getElem? (i := 2) rfl))) (g := (mkF m 48 #[.val (.int pA), .val (.int pB), .val (.int pC), .val (.int pD), .val (.int v4_1), .val (.int (1 : Int32)), .val (.double v6_4), .second, .val (.double v8_5), .second, .unset, .unset, .unset, .unset, .unset, .unset, .unset, .unset] [(.double (FP.i2d (pD &&& (7 : Int32))))])) rfl (hb hby at_48) _ k)
    show own_Go p e below PO (s₁.setTop (mkF m 51 #[.val (.int pA), .val (.int pB), .val (.int pC), .val (.int pD), .val (.int v4_1), .val (.int (1 : Int32)), .val (.double v6_4), .second, .val (.double v8_5), .second, .unset, .unset, .unset, .unset, .unset, .unset, .unset, .unset] [(.double (4620693217682128896 : UInt64)), (.double (FP.i2d (pD &&& (7 : Int32))))]))
    refine own_back ?_ (fun t k => XS.ddivS X0.here hx rfl (v := (own_q (pD &&& (7 : Int32)))) (hb hby at_51) rfl (own_divN _) rfl k)
    show own_Go p e below PO (s₁.setTop (mkF m 52 #[.val (.int pA), .val (.int pB), .val (.int pC), .val (.int pD), .val (.int v4_1), .val (.int (1 : Int32)), .val (.double v6_4), .second, .val (.double v8_5), .second, .unset, .unset, .unset, .unset, .unset, .unset, .unset, .unset] [(.double (own_q (pD &&& (7 : Int32))))]))
    refine own_back ?_ (fun t k => XS.dstore X0.here hx rfl (hb hby at_52) rfl (l' := #[.val (.int pA), .val (.int pB), .val (.int pC), .val (.int pD), .val (.int v4_1), .val (.int (1 : Int32)), .val (.double v6_4), .second, .val (.double v8_5), .second, .val (.double (own_q (pD &&& (7 : Int32)))), .second, .unset, .unset, .unset, .unset, .unset, .unset]) rfl k)
    show own_Go p e below PO (s₁.setTop (mkF m 54 #[.val (.int pA), .val (.int pB), .val (.int pC), .val (.int pD), .val (.int v4_1), .val (.int (1 : Int32)), .val (.double v6_4), .second, .val (.double v8_5), .second, .val (.double (own_q (pD &&& (7 : Int32)))), .second, .unset, .unset, .unset, .unset, .unset, .unset] []))
    refine own_gen (A := UInt64) (own_q (pD &&& (7 : Int32))) (fun v10_6 => own_Go p e below PO (s₁.setTop (mkF m 54 #[.val (.int pA), .val (.int pB), .val (.int pC), .val (.int pD), .val (.int v4_1), .val (.int (1 : Int32)), .val (.double v6_4), .second, .val (.double v8_5), .second, .val (.double v10_6), .second, .unset, .unset, .unset, .unset, .unset, .unset] []))) ?_
    intro v10_6 h_v10_6
    show own_Go p e below PO (s₁.setTop (mkF m 54 #[.val (.int pA), .val (.int pB), .val (.int pC), .val (.int pD), .val (.int v4_1), .val (.int (1 : Int32)), .val (.double v6_4), .second, .val (.double v8_5), .second, .val (.double v10_6), .second, .unset, .unset, .unset, .unset, .unset, .unset] []))
    have hq10 : own_qn v10_6 := by rw [h_v10_6]; exact own_q7 _
    refine own_back ?_ (fun t k => XS.iloadN X0.here hx rfl (hb hby at_54) rfl k)
    show own_Go p e below PO (s₁.setTop (mkF m 55 #[.val (.int pA), .val (.int pB), .val (.int pC), .val (.int pD), .val (.int v4_1), .val (.int (1 : Int32)), .val (.double v6_4), .second, .val (.double v8_5), .second, .val (.double v10_6), .second, .unset, .unset, .unset, .unset, .unset, .unset] [(.int pD)]))
    refine own_back ?_ (fun t k => XS.iconst X0.here hx rfl (hb hby at_55) k)
    show own_Go p e below PO (s₁.setTop (mkF m 56 #[.val (.int pA), .val (.int pB), .val (.int pC), .val (.int pD), .val (.int v4_1), .val (.int (1 : Int32)), .val (.double v6_4), .second, .val (.double v8_5), .second, .val (.double v10_6), .second, .unset, .unset, .unset, .unset, .unset, .unset] [(.int (3 : Int32)), (.int pD)]))
    refine own_back ?_ (fun t k => XS.iushr X0.here hx rfl (hb hby at_56) rfl k)
    show own_Go p e below PO (s₁.setTop (mkF m 57 #[.val (.int pA), .val (.int pB), .val (.int pC), .val (.int pD), .val (.int v4_1), .val (.int (1 : Int32)), .val (.double v6_4), .second, .val (.double v8_5), .second, .val (.double v10_6), .second, .unset, .unset, .unset, .unset, .unset, .unset] [(.int ((pD.toUInt32 >>> ((3 : Int32) &&& 31).toUInt32).toInt32))]))
    refine own_back ?_ (fun t k => XS.bipush X0.here hx rfl (hb hby at_57) k)
    show own_Go p e below PO (s₁.setTop (mkF m 59 #[.val (.int pA), .val (.int pB), .val (.int pC), .val (.int pD), .val (.int v4_1), .val (.int (1 : Int32)), .val (.double v6_4), .second, .val (.double v8_5), .second, .val (.double v10_6), .second, .unset, .unset, .unset, .unset, .unset, .unset] [(.int (7 : Int32)), (.int ((pD.toUInt32 >>> ((3 : Int32) &&& 31).toUInt32).toInt32))]))
    refine own_back ?_ (fun t k => XS.iand X0.here hx rfl (hb hby at_59) rfl k)
    show own_Go p e below PO (s₁.setTop (mkF m 60 #[.val (.int pA), .val (.int pB), .val (.int pC), .val (.int pD), .val (.int v4_1), .val (.int (1 : Int32)), .val (.double v6_4), .second, .val (.double v8_5), .second, .val (.double v10_6), .second, .unset, .unset, .unset, .unset, .unset, .unset] [(.int (((pD.toUInt32 >>> ((3 : Int32) &&& 31).toUInt32).toInt32) &&& (7 : Int32)))]))
    refine own_back ?_ (fun t k => XS.i2dS X0.here hx rfl (v := (FP.i2d (((pD.toUInt32 >>> ((3 : Int32) &&& 31).toUInt32).toInt32) &&& (7 : Int32)))) (hb hby at_60) rfl rfl k)
    show own_Go p e below PO (s₁.setTop (mkF m 61 #[.val (.int pA), .val (.int pB), .val (.int pC), .val (.int pD), .val (.int v4_1), .val (.int (1 : Int32)), .val (.double v6_4), .second, .val (.double v8_5), .second, .val (.double v10_6), .second, .unset, .unset, .unset, .unset, .unset, .unset] [(.double (FP.i2d (((pD.toUInt32 >>> ((3 : Int32) &&& 31).toUInt32).toInt32) &&& (7 : Int32))))]))
    refine own_back ?_ (fun t k => X0.ldc2DoubleC hx hown (mvT hZ (hw _ (List.mem_of_getElem? (i := 2) rfl))) (g := (mkF m 61 #[.val (.int pA), .val (.int pB), .val (.int pC), .val (.int pD), .val (.int v4_1), .val (.int (1 : Int32)), .val (.double v6_4), .second, .val (.double v8_5), .second, .val (.double v10_6), .second, .unset, .unset, .unset, .unset, .unset, .unset] [(.double (FP.i2d (((pD.toUInt32 >>> ((3 : Int32) &&& 31).toUInt32).toInt32) &&& (7 : Int32))))])) rfl (hb hby at_61) _ k)
    show own_Go p e below PO (s₁.setTop (mkF m 64 #[.val (.int pA), .val (.int pB), .val (.int pC), .val (.int pD), .val (.int v4_1), .val (.int (1 : Int32)), .val (.double v6_4), .second, .val (.double v8_5), .second, .val (.double v10_6), .second, .unset, .unset, .unset, .unset, .unset, .unset] [(.double (4620693217682128896 : UInt64)), (.double (FP.i2d (((pD.toUInt32 >>> ((3 : Int32) &&& 31).toUInt32).toInt32) &&& (7 : Int32))))]))
    refine own_back ?_ (fun t k => XS.ddivS X0.here hx rfl (v := (own_q (((pD.toUInt32 >>> ((3 : Int32) &&& 31).toUInt32).toInt32) &&& (7 : Int32)))) (hb hby at_64) rfl (own_divN _) rfl k)
    show own_Go p e below PO (s₁.setTop (mkF m 65 #[.val (.int pA), .val (.int pB), .val (.int pC), .val (.int pD), .val (.int v4_1), .val (.int (1 : Int32)), .val (.double v6_4), .second, .val (.double v8_5), .second, .val (.double v10_6), .second, .unset, .unset, .unset, .unset, .unset, .unset] [(.double (own_q (((pD.toUInt32 >>> ((3 : Int32) &&& 31).toUInt32).toInt32) &&& (7 : Int32))))]))
    refine own_back ?_ (fun t k => XS.dstore X0.here hx rfl (hb hby at_65) rfl (l' := #[.val (.int pA), .val (.int pB), .val (.int pC), .val (.int pD), .val (.int v4_1), .val (.int (1 : Int32)), .val (.double v6_4), .second, .val (.double v8_5), .second, .val (.double v10_6), .second, .val (.double (own_q (((pD.toUInt32 >>> ((3 : Int32) &&& 31).toUInt32).toInt32) &&& (7 : Int32)))), .second, .unset, .unset, .unset, .unset]) rfl k)
    show own_Go p e below PO (s₁.setTop (mkF m 67 #[.val (.int pA), .val (.int pB), .val (.int pC), .val (.int pD), .val (.int v4_1), .val (.int (1 : Int32)), .val (.double v6_4), .second, .val (.double v8_5), .second, .val (.double v10_6), .second, .val (.double (own_q (((pD.toUInt32 >>> ((3 : Int32) &&& 31).toUInt32).toInt32) &&& (7 : Int32)))), .second, .unset, .unset, .unset, .unset] []))
    refine own_gen (A := UInt64) (own_q (((pD.toUInt32 >>> ((3 : Int32) &&& 31).toUInt32).toInt32) &&& (7 : Int32))) (fun v12_7 => own_Go p e below PO (s₁.setTop (mkF m 67 #[.val (.int pA), .val (.int pB), .val (.int pC), .val (.int pD), .val (.int v4_1), .val (.int (1 : Int32)), .val (.double v6_4), .second, .val (.double v8_5), .second, .val (.double v10_6), .second, .val (.double v12_7), .second, .unset, .unset, .unset, .unset] []))) ?_
    intro v12_7 h_v12_7
    show own_Go p e below PO (s₁.setTop (mkF m 67 #[.val (.int pA), .val (.int pB), .val (.int pC), .val (.int pD), .val (.int v4_1), .val (.int (1 : Int32)), .val (.double v6_4), .second, .val (.double v8_5), .second, .val (.double v10_6), .second, .val (.double v12_7), .second, .unset, .unset, .unset, .unset] []))
    have hq12 : own_qn v12_7 := by rw [h_v12_7]; exact own_q7 _
    refine own_back ?_ (fun t k => XS.iload X0.here hx rfl (hb hby at_67) rfl k)
    show own_Go p e below PO (s₁.setTop (mkF m 69 #[.val (.int pA), .val (.int pB), .val (.int pC), .val (.int pD), .val (.int v4_1), .val (.int (1 : Int32)), .val (.double v6_4), .second, .val (.double v8_5), .second, .val (.double v10_6), .second, .val (.double v12_7), .second, .unset, .unset, .unset, .unset] [(.int (1 : Int32))]))
    refine own_back ?_ (fun t k => XS.dload X0.here hx rfl (hb hby at_69) rfl k)
    show own_Go p e below PO (s₁.setTop (mkF m 71 #[.val (.int pA), .val (.int pB), .val (.int pC), .val (.int pD), .val (.int v4_1), .val (.int (1 : Int32)), .val (.double v6_4), .second, .val (.double v8_5), .second, .val (.double v10_6), .second, .val (.double v12_7), .second, .unset, .unset, .unset, .unset] [(.double v6_4), (.int (1 : Int32))]))
    refine own_back ?_ (fun t k => XS.dload X0.here hx rfl (hb hby at_71) rfl k)
    show own_Go p e below PO (s₁.setTop (mkF m 73 #[.val (.int pA), .val (.int pB), .val (.int pC), .val (.int pD), .val (.int v4_1), .val (.int (1 : Int32)), .val (.double v6_4), .second, .val (.double v8_5), .second, .val (.double v10_6), .second, .val (.double v12_7), .second, .unset, .unset, .unset, .unset] [(.double v8_5), (.double v6_4), (.int (1 : Int32))]))
    obtain ⟨_, _, ⟨T8, L8, k8, n8⟩, -, X8, ⟨Lc8, hQ8, l8, y8, z8⟩, st8⟩ := Jvm.LawKit.callS X0 hx (y := (⟨"com/example/overcap/overcap/model/MortalityTableGetLastAgePinLaw", "rates", "(IDD)[D"⟩ : MethodName)) hown (mvT hZ (hw _ (List.mem_of_getElem? (i := 3) rfl))) (mvT hZ (hw _ (List.mem_of_getElem? (i := 4) rfl))) (mvT hZ (hw _ (List.mem_of_getElem? (i := 5) rfl))) (mvT hZ (hw _ (List.mem_of_getElem? (i := 6) rfl))) (by decide) (backOf (W := 0) (rmR_1 l Z a0 hw [] v6_4 v8_5  h0 n0 Z0 ) hZ (hw _ (List.mem_of_getElem? (i := 6) rfl)) (hw _ (List.mem_of_getElem? (i := 5) rfl)) (by decide) (by decide)) (g := (mkF m 73 #[.val (.int pA), .val (.int pB), .val (.int pC), .val (.int pD), .val (.int v4_1), .val (.int (1 : Int32)), .val (.double v6_4), .second, .val (.double v8_5), .second, .val (.double v10_6), .second, .val (.double v12_7), .second, .unset, .unset, .unset, .unset] [(.double v8_5), (.double v6_4), (.int (1 : Int32))])) rfl (by rw [hml]; rfl) (argsL := [(.int (1 : Int32)), (.double v6_4), (.double v8_5)]) (rest := []) (lenOf pd_6 rfl) rfl (by show 2 * 0 + _ ≤ _; exact Nat.le_of_eq rfl) (hb hby at_73) (fun _ _ => ⟨rfl, e0, (by decide : 0 + 1 ≤ _), (by decide : 0 + 1 ≤ _)⟩)
    dsimp only [Pt.U, Pt.locs, Pt.cells, Pt.slots] at X8 l8 y8 z8 st8 hQ8
    subst l8 y8 z8
    obtain ⟨aQ8, kQ8, rfl, N8q, Kc8, sz8, EQ8, VQ8⟩ := hQ8
    have N8 := Fr.app N0 N8q
    have sz_aQ8 : h0.size ≤ aQ8 := sz8
    have gn_aQ8 : n0 ≤ aQ8 := Nat.le_trans Z0 sz_aQ8
    have K8 : Keep h0 T8.heap [] := (Keep.refl h0 []).trans Kc8 all0
    have Zh8 : n0 ≤ T8.heap.size := Nat.le_trans Z0 K8.1
    refine own_back ?_ st8
    show own_Go p e below PO (T8.setTop (mkF m 76 #[.val (.int pA), .val (.int pB), .val (.int pC), .val (.int pD), .val (.int v4_1), .val (.int (1 : Int32)), .val (.double v6_4), .second, .val (.double v8_5), .second, .val (.double v10_6), .second, .val (.double v12_7), .second, .unset, .unset, .unset, .unset] [(.ref aQ8)]))
    refine own_back ?_ (fun t k => XS.astore X8.here hx rfl (hb hby at_76) rfl rfl (l' := #[.val (.int pA), .val (.int pB), .val (.int pC), .val (.int pD), .val (.int v4_1), .val (.int (1 : Int32)), .val (.double v6_4), .second, .val (.double v8_5), .second, .val (.double v10_6), .second, .val (.double v12_7), .second, .val (.ref aQ8), .unset, .unset, .unset]) rfl k)
    show own_Go p e below PO (T8.setTop (mkF m 78 #[.val (.int pA), .val (.int pB), .val (.int pC), .val (.int pD), .val (.int v4_1), .val (.int (1 : Int32)), .val (.double v6_4), .second, .val (.double v8_5), .second, .val (.double v10_6), .second, .val (.double v12_7), .second, .val (.ref aQ8), .unset, .unset, .unset] []))
    refine own_back ?_ (fun t k => XS.iload X8.here hx rfl (hb hby at_78) rfl k)
    show own_Go p e below PO (T8.setTop (mkF m 80 #[.val (.int pA), .val (.int pB), .val (.int pC), .val (.int pD), .val (.int v4_1), .val (.int (1 : Int32)), .val (.double v6_4), .second, .val (.double v8_5), .second, .val (.double v10_6), .second, .val (.double v12_7), .second, .val (.ref aQ8), .unset, .unset, .unset] [(.int (1 : Int32))]))
    refine own_back ?_ (fun t k => XS.dload X8.here hx rfl (hb hby at_80) rfl k)
    show own_Go p e below PO (T8.setTop (mkF m 82 #[.val (.int pA), .val (.int pB), .val (.int pC), .val (.int pD), .val (.int v4_1), .val (.int (1 : Int32)), .val (.double v6_4), .second, .val (.double v8_5), .second, .val (.double v10_6), .second, .val (.double v12_7), .second, .val (.ref aQ8), .unset, .unset, .unset] [(.double v10_6), (.int (1 : Int32))]))
    refine own_back ?_ (fun t k => XS.dload X8.here hx rfl (hb hby at_82) rfl k)
    show own_Go p e below PO (T8.setTop (mkF m 84 #[.val (.int pA), .val (.int pB), .val (.int pC), .val (.int pD), .val (.int v4_1), .val (.int (1 : Int32)), .val (.double v6_4), .second, .val (.double v8_5), .second, .val (.double v10_6), .second, .val (.double v12_7), .second, .val (.ref aQ8), .unset, .unset, .unset] [(.double v12_7), (.double v10_6), (.int (1 : Int32))]))
    obtain ⟨_, _, ⟨T9, L9, k9, n9⟩, -, X9, ⟨Lc9, hQ9, l9, y9, z9⟩, st9⟩ := Jvm.LawKit.callS X8 hx (y := (⟨"com/example/overcap/overcap/model/MortalityTableGetLastAgePinLaw", "rates", "(IDD)[D"⟩ : MethodName)) hown (mvT hZ (hw _ (List.mem_of_getElem? (i := 3) rfl))) (mvT hZ (hw _ (List.mem_of_getElem? (i := 4) rfl))) (mvT hZ (hw _ (List.mem_of_getElem? (i := 5) rfl))) (mvT hZ (hw _ (List.mem_of_getElem? (i := 6) rfl))) (by decide) (backOf (W := 0) (rmR_1 l Z a0 hw [] v10_6 v12_7  T8.heap n0 Zh8 ) hZ (hw _ (List.mem_of_getElem? (i := 6) rfl)) (hw _ (List.mem_of_getElem? (i := 5) rfl)) (by decide) (by decide)) (g := (mkF m 84 #[.val (.int pA), .val (.int pB), .val (.int pC), .val (.int pD), .val (.int v4_1), .val (.int (1 : Int32)), .val (.double v6_4), .second, .val (.double v8_5), .second, .val (.double v10_6), .second, .val (.double v12_7), .second, .val (.ref aQ8), .unset, .unset, .unset] [(.double v12_7), (.double v10_6), (.int (1 : Int32))])) rfl (by rw [hml]; rfl) (argsL := [(.int (1 : Int32)), (.double v10_6), (.double v12_7)]) (rest := []) (lenOf pd_6 rfl) rfl (by show 2 * 0 + _ ≤ _; exact Nat.le_of_eq rfl) (hb hby at_84) (fun _ _ => ⟨rfl, rfl, (by decide : 1 + 1 ≤ _), (by decide : 1 + 1 ≤ _)⟩)
    dsimp only [Pt.U, Pt.locs, Pt.cells, Pt.slots] at X9 l9 y9 z9 st9 hQ9
    subst l9 y9 z9
    obtain ⟨aQ9, kQ9, rfl, N9q, Kc9, sz9, EQ9, VQ9⟩ := hQ9
    have N9 := Fr.app N8 N9q
    have ne_aQ8_aQ9 : aQ8 ≠ aQ9 := Nat.ne_of_lt (Nat.lt_of_lt_of_le EQ8.lt sz9)
    have sz_aQ9 : h0.size ≤ aQ9 := Nat.le_trans K8.1 sz9
    have gn_aQ9 : n0 ≤ aQ9 := Nat.le_trans Z0 sz_aQ9
    have f9_10 := EQ8.keep Kc9
    have f9_11 := VQ8.keep Kc9 nin0
    have K9 : Keep h0 T9.heap [] := (K8).trans Kc9 all0
    have Zh9 : n0 ≤ T9.heap.size := Nat.le_trans Z0 K9.1
    refine own_back ?_ st9
    show own_Go p e below PO (T9.setTop (mkF m 87 #[.val (.int pA), .val (.int pB), .val (.int pC), .val (.int pD), .val (.int v4_1), .val (.int (1 : Int32)), .val (.double v6_4), .second, .val (.double v8_5), .second, .val (.double v10_6), .second, .val (.double v12_7), .second, .val (.ref aQ8), .unset, .unset, .unset] [(.ref aQ9)]))
    refine own_back ?_ (fun t k => XS.astore X9.here hx rfl (hb hby at_87) rfl rfl (l' := #[.val (.int pA), .val (.int pB), .val (.int pC), .val (.int pD), .val (.int v4_1), .val (.int (1 : Int32)), .val (.double v6_4), .second, .val (.double v8_5), .second, .val (.double v10_6), .second, .val (.double v12_7), .second, .val (.ref aQ8), .val (.ref aQ9), .unset, .unset]) rfl k)
    show own_Go p e below PO (T9.setTop (mkF m 89 #[.val (.int pA), .val (.int pB), .val (.int pC), .val (.int pD), .val (.int v4_1), .val (.int (1 : Int32)), .val (.double v6_4), .second, .val (.double v8_5), .second, .val (.double v10_6), .second, .val (.double v12_7), .second, .val (.ref aQ8), .val (.ref aQ9), .unset, .unset] []))
    obtain ⟨T12, h12, X12, e12, E12, A12, D12, -, st12⟩ := newO X9 hx hZ hown (hw _ (List.mem_of_getElem? (i := 8) rfl)) (hw _ (List.mem_of_getElem? (i := 9) rfl)) (hw _ (List.mem_of_getElem? (i := 10) rfl)) rfl (g := (mkF m 89 #[.val (.int pA), .val (.int pB), .val (.int pC), .val (.int pD), .val (.int v4_1), .val (.int (1 : Int32)), .val (.double v6_4), .second, .val (.double v8_5), .second, .val (.double v10_6), .second, .val (.double v12_7), .second, .val (.ref aQ8), .val (.ref aQ9), .unset, .unset] [])) rfl (hb hby at_89) (by decide) (by decide)
    obtain ⟨b12, g12⟩ : ∃ z, z = T9.heap.size := ⟨_, rfl⟩
    rw [← g12] at A12 D12 st12
    have ne_aQ8_b12 : aQ8 ≠ b12 := Nat.ne_of_lt (Nat.lt_of_lt_of_le f9_10.lt (Nat.le_of_eq g12.symm))
    have ne_aQ9_b12 : aQ9 ≠ b12 := Nat.ne_of_lt (Nat.lt_of_lt_of_le EQ9.lt (Nat.le_of_eq g12.symm))
    have sz_b12 : h0.size ≤ b12 := Nat.le_trans K9.1 (Nat.le_of_eq g12.symm)
    have gn_b12 : n0 ≤ b12 := Nat.le_trans Z0 sz_b12
    have f12_13 := f9_10.ext E12
    have f12_14 := f9_11.ext E12
    have f12_15 := EQ9.ext E12
    have f12_16 := VQ9.ext E12
    have K12 : Keep h0 h12 [] := (K9).ext E12
    have Zh12 : n0 ≤ h12.size := Nat.le_trans Z0 K12.1
    have F12_firstAge : Fld Z h12 b12 "com/example/overcap/overcap/model/MortalityTable" "firstAge" "I" (.int (0 : Int32)) := D12 (Or.inr (hw _ (List.mem_of_getElem? (i := 21) rfl))) (ty := .int) (by decide)
    have F12_maleQx : Fld Z h12 b12 "com/example/overcap/overcap/model/MortalityTable" "maleQx" "[D" .null := D12 (Or.inr (hw _ (List.mem_of_getElem? (i := 32) rfl))) (ty := (.array .double)) (by decide)
    have F12_femaleQx : Fld Z h12 b12 "com/example/overcap/overcap/model/MortalityTable" "femaleQx" "[D" .null := D12 (Or.inr (hw _ (List.mem_of_getElem? (i := 34) rfl))) (ty := (.array .double)) (by decide)
    refine own_back ?_ st12
    show own_Go p e below PO (T12.setTop (mkF m 92 #[.val (.int pA), .val (.int pB), .val (.int pC), .val (.int pD), .val (.int v4_1), .val (.int (1 : Int32)), .val (.double v6_4), .second, .val (.double v8_5), .second, .val (.double v10_6), .second, .val (.double v12_7), .second, .val (.ref aQ8), .val (.ref aQ9), .unset, .unset] [(.ref b12)]))
    refine own_back ?_ (fun t k => XS.dup X12.here hx rfl (hb hby at_92) rfl rfl k)
    show own_Go p e below PO (T12.setTop (mkF m 93 #[.val (.int pA), .val (.int pB), .val (.int pC), .val (.int pD), .val (.int v4_1), .val (.int (1 : Int32)), .val (.double v6_4), .second, .val (.double v8_5), .second, .val (.double v10_6), .second, .val (.double v12_7), .second, .val (.ref aQ8), .val (.ref aQ9), .unset, .unset] [(.ref b12), (.ref b12)]))
    refine own_back ?_ (fun t k => XS.iload X12.here hx rfl (hb hby at_93) rfl k)
    show own_Go p e below PO (T12.setTop (mkF m 95 #[.val (.int pA), .val (.int pB), .val (.int pC), .val (.int pD), .val (.int v4_1), .val (.int (1 : Int32)), .val (.double v6_4), .second, .val (.double v8_5), .second, .val (.double v10_6), .second, .val (.double v12_7), .second, .val (.ref aQ8), .val (.ref aQ9), .unset, .unset] [(.int v4_1), (.ref b12), (.ref b12)]))
    refine own_back ?_ (fun t k => XS.aload X12.here hx rfl (hb hby at_95) rfl rfl k)
    show own_Go p e below PO (T12.setTop (mkF m 97 #[.val (.int pA), .val (.int pB), .val (.int pC), .val (.int pD), .val (.int v4_1), .val (.int (1 : Int32)), .val (.double v6_4), .second, .val (.double v8_5), .second, .val (.double v10_6), .second, .val (.double v12_7), .second, .val (.ref aQ8), .val (.ref aQ9), .unset, .unset] [(.ref aQ8), (.int v4_1), (.ref b12), (.ref b12)]))
    refine own_back ?_ (fun t k => XS.aload X12.here hx rfl (hb hby at_97) rfl rfl k)
    show own_Go p e below PO (T12.setTop (mkF m 99 #[.val (.int pA), .val (.int pB), .val (.int pC), .val (.int pD), .val (.int v4_1), .val (.int (1 : Int32)), .val (.double v6_4), .second, .val (.double v8_5), .second, .val (.double v10_6), .second, .val (.double v12_7), .second, .val (.ref aQ8), .val (.ref aQ9), .unset, .unset] [(.ref aQ9), (.ref aQ8), (.int v4_1), (.ref b12), (.ref b12)]))
    obtain ⟨_, _, ⟨T17, L17, k17, n17⟩, -, X17, hSn17, hgr17, ⟨Lc17, hQ17, l17, y17, z17⟩, st17⟩ := X12.specialBackS hx (y := (⟨"com/example/overcap/overcap/model/MortalityTable", "<init>", "(I[D[D)V"⟩ : MethodName)) rfl hown (mvT hZ (hw _ (List.mem_of_getElem? (i := 11) rfl))) (mvT hZ (hw _ (List.mem_of_getElem? (i := 12) rfl))) (mvT hZ (hw _ (List.mem_of_getElem? (i := 13) rfl))) (by decide) (backOfS (W := 1) (rmI_1 l Z a0 hw [] b12 v4_1 aQ8 aQ9 kQ8 kQ9  h12 n0 Zh12 A12 F12_firstAge F12_maleQx F12_femaleQx f12_13 f12_14 f12_15 f12_16 ne_aQ8_b12 ne_aQ9_b12 gn_b12 (own_f0 hf) ) hZ (hw _ (List.mem_of_getElem? (i := 13) rfl)) (hw _ (List.mem_of_getElem? (i := 10) rfl)) (by decide) (by decide)) (g := (mkF m 99 #[.val (.int pA), .val (.int pB), .val (.int pC), .val (.int pD), .val (.int v4_1), .val (.int (1 : Int32)), .val (.double v6_4), .second, .val (.double v8_5), .second, .val (.double v10_6), .second, .val (.double v12_7), .second, .val (.ref aQ8), .val (.ref aQ9), .unset, .unset] [(.ref aQ9), (.ref aQ8), (.int v4_1), (.ref b12), (.ref b12)])) rfl (by rw [hml]; rfl) (Steps.refl _) (a := b12) (argsL := [(.int v4_1), (.ref aQ8), (.ref aQ9)]) (rest := [(.ref b12)]) (lenOf pd_7 rfl) rfl (by show 2 * 0 + _ ≤ _; exact Nat.le_of_eq rfl) (hb hby at_99) (fun _ _ => ⟨rfl, e12, (by decide : 3 + 10 ≤ _), (by decide : 5 + 98 ≤ _)⟩)
    dsimp only [Pt.U, Pt.locs, Pt.cells, Pt.slots] at X17 l17 y17 z17 st17 hQ17
    subst l17 y17 z17
    replace X17 : Stand p l e room_1 (s.setVm T17.vm) m #[(.int pA), (.int pB), (.int pC), (.int pD)] below meth c T17 _ _ _ := X17
    have hS17 : s.Since T17.vm T17.heap.size := foldS (s := s) (vm0 := s.vm) (T := T12) hS0 (by rw [e12]; exact (Nat.zero_le _)) hSn17 hgr17
    have hZ : Z.Warmed39 (s.setVm T17.vm).vm := State.Warmed39.trans (t := s.setVm s.vm) hZ hSn17.1
    have hown : (s.setVm T17.vm).vm.findClass "com/example/overcap/overcap/model/MortalityTableGetLastAgePinLaw" = some m.cls := by rw [show (s.setVm T17.vm).vm = T17.vm from rfl, hSn17.1.alike.findClass]; exact hown
    obtain ⟨rfl, N17q, Kc17, FA17, aM, aF, szM, szF, FM17, FF17, VM17, VF17⟩ := hQ17
    have N17 := Fr.app N9 N17q
    have ne_aQ8_aM : aQ8 ≠ aM := Nat.ne_of_lt (Nat.lt_of_lt_of_le f12_13.lt szM)
    have ne_aQ9_aM : aQ9 ≠ aM := Nat.ne_of_lt (Nat.lt_of_lt_of_le f12_15.lt szM)
    have ne_b12_aM : b12 ≠ aM := Nat.ne_of_lt (Nat.lt_of_lt_of_le A12.lt szM)
    have sz_aM : h0.size ≤ aM := Nat.le_trans K12.1 szM
    have gn_aM : n0 ≤ aM := Nat.le_trans Z0 sz_aM
    have ne_aQ8_aF : aQ8 ≠ aF := Nat.ne_of_lt (Nat.lt_of_lt_of_le f12_13.lt szF)
    have ne_aQ9_aF : aQ9 ≠ aF := Nat.ne_of_lt (Nat.lt_of_lt_of_le f12_15.lt szF)
    have ne_b12_aF : b12 ≠ aF := Nat.ne_of_lt (Nat.lt_of_lt_of_le A12.lt szF)
    have sz_aF : h0.size ≤ aF := Nat.le_trans K12.1 szF
    have gn_aF : n0 ≤ aF := Nat.le_trans Z0 sz_aF
    have f17_18 := f12_13.keep Kc17
    have f17_19 := f12_14.keep Kc17 (ninS ne_aQ8_b12 nin0)
    have f17_20 := f12_15.keep Kc17
    have f17_21 := f12_16.keep Kc17 (ninS ne_aQ9_b12 nin0)
    have f17_22 := A12.keep Kc17
    have K17 : Keep h0 T17.heap [] := (K12).trans Kc17 (allS (Or.inr sz_b12) all0)
    have Zh17 : n0 ≤ T17.heap.size := Nat.le_trans Z0 K17.1
    refine own_back ?_ (fun t k => st17.trans k)
    show own_Go p e below PO (T17.setTop (mkF m 102 #[.val (.int pA), .val (.int pB), .val (.int pC), .val (.int pD), .val (.int v4_1), .val (.int (1 : Int32)), .val (.double v6_4), .second, .val (.double v8_5), .second, .val (.double v10_6), .second, .val (.double v12_7), .second, .val (.ref aQ8), .val (.ref aQ9), .unset, .unset] [(.ref b12)]))
    refine own_back ?_ (fun t k => XS.astore X17.here hx rfl (hb hby at_102) rfl rfl (l' := #[.val (.int pA), .val (.int pB), .val (.int pC), .val (.int pD), .val (.int v4_1), .val (.int (1 : Int32)), .val (.double v6_4), .second, .val (.double v8_5), .second, .val (.double v10_6), .second, .val (.double v12_7), .second, .val (.ref aQ8), .val (.ref aQ9), .val (.ref b12), .unset]) rfl k)
    show own_Go p e below PO (T17.setTop (mkF m 104 #[.val (.int pA), .val (.int pB), .val (.int pC), .val (.int pD), .val (.int v4_1), .val (.int (1 : Int32)), .val (.double v6_4), .second, .val (.double v8_5), .second, .val (.double v10_6), .second, .val (.double v12_7), .second, .val (.ref aQ8), .val (.ref aQ9), .val (.ref b12), .unset] []))
    refine own_back ?_ (fun t k => XS.aload X17.here hx rfl (hb hby at_104) rfl rfl k)
    show own_Go p e below PO (T17.setTop (mkF m 106 #[.val (.int pA), .val (.int pB), .val (.int pC), .val (.int pD), .val (.int v4_1), .val (.int (1 : Int32)), .val (.double v6_4), .second, .val (.double v8_5), .second, .val (.double v10_6), .second, .val (.double v12_7), .second, .val (.ref aQ8), .val (.ref aQ9), .val (.ref b12), .unset] [(.ref b12)]))
    obtain ⟨cq23, kq23, q23a, q23b, q23c⟩ := isOf hZ rfl f17_22
    obtain ⟨_, _, ⟨T23, L23, k23, n23⟩, -, X23, ⟨Lc23, hQ23, l23, y23, z23⟩, st23⟩ := X17.virtualBack hx (y := (⟨"com/example/overcap/overcap/model/MortalityTable", "getLastAge", "()I"⟩ : MethodName)) (z := (⟨"com/example/overcap/overcap/model/MortalityTable", "getLastAge", "()I"⟩ : MethodName)) hown (mvT hZ (hw _ (List.mem_of_getElem? (i := 57) rfl))) (mvT hZ (hw _ (List.mem_of_getElem? (i := 58) rfl))) (notFace_of_selects (args := #[]) (mvT hZ (hw _ (List.mem_of_getElem? (i := 60) rfl)))) (mvT hZ (hw _ (List.mem_of_getElem? (i := 60) rfl))) (mvT hZ (hw _ (List.mem_of_getElem? (i := 59) rfl))) (by decide) (backOf (W := 0) (rmLA_1 l Z a0 hw [] b12 v4_1 aM aF kQ8 kQ9  T17.heap n0 Zh17 f17_22 FA17 FM17 FF17 VM17 VF17) hZ (hw _ (List.mem_of_getElem? (i := 61) rfl)) (hw _ (List.mem_of_getElem? (i := 10) rfl)) (by decide) (by decide)) q23a q23c (g := (mkF m 106 #[.val (.int pA), .val (.int pB), .val (.int pC), .val (.int pD), .val (.int v4_1), .val (.int (1 : Int32)), .val (.double v6_4), .second, .val (.double v8_5), .second, .val (.double v10_6), .second, .val (.double v12_7), .second, .val (.ref aQ8), .val (.ref aQ9), .val (.ref b12), .unset] [(.ref b12)])) rfl (by rw [hml]; rfl) (Steps.refl _) (argsL := []) (rest := []) (lenOf pd_5 rfl) rfl (by show 2 * 0 + _ ≤ _; exact Nat.le_of_eq rfl) (hb hby at_106) (fun _ _ => ⟨rfl, rfl, (by decide : 13 + 0 ≤ _), (by decide : 103 + 0 ≤ _)⟩)
    dsimp only [Pt.U, Pt.locs, Pt.cells, Pt.slots] at X23 l23 y23 z23 st23 hQ23
    subst l23 y23 z23
    obtain ⟨rfl, N23q, e23⟩ := hQ23
    have N23 := Fr.app N17 N23q
    refine own_back ?_ (fun t k => st23.trans k)
    show own_Go p e below PO (T23.setTop (mkF m 109 #[.val (.int pA), .val (.int pB), .val (.int pC), .val (.int pD), .val (.int v4_1), .val (.int (1 : Int32)), .val (.double v6_4), .second, .val (.double v8_5), .second, .val (.double v10_6), .second, .val (.double v12_7), .second, .val (.ref aQ8), .val (.ref aQ9), .val (.ref b12), .unset] [(.int ((v4_1 + (1 : Int32)) - (1 : Int32)))]))
    refine own_back ?_ (fun t k => XS.istore X23.here hx rfl (hb hby at_109) rfl (l' := #[.val (.int pA), .val (.int pB), .val (.int pC), .val (.int pD), .val (.int v4_1), .val (.int (1 : Int32)), .val (.double v6_4), .second, .val (.double v8_5), .second, .val (.double v10_6), .second, .val (.double v12_7), .second, .val (.ref aQ8), .val (.ref aQ9), .val (.ref b12), .val (.int ((v4_1 + (1 : Int32)) - (1 : Int32)))]) rfl k)
    show own_Go p e below PO (T23.setTop (mkF m 111 #[.val (.int pA), .val (.int pB), .val (.int pC), .val (.int pD), .val (.int v4_1), .val (.int (1 : Int32)), .val (.double v6_4), .second, .val (.double v8_5), .second, .val (.double v10_6), .second, .val (.double v12_7), .second, .val (.ref aQ8), .val (.ref aQ9), .val (.ref b12), .val (.int ((v4_1 + (1 : Int32)) - (1 : Int32)))] []))
    refine own_gen (A := Int32) ((v4_1 + (1 : Int32)) - (1 : Int32)) (fun v17_24 => own_Go p e below PO (T23.setTop (mkF m 111 #[.val (.int pA), .val (.int pB), .val (.int pC), .val (.int pD), .val (.int v4_1), .val (.int (1 : Int32)), .val (.double v6_4), .second, .val (.double v8_5), .second, .val (.double v10_6), .second, .val (.double v12_7), .second, .val (.ref aQ8), .val (.ref aQ9), .val (.ref b12), .val (.int v17_24)] []))) ?_
    intro v17_24 h_v17_24
    show own_Go p e below PO (T23.setTop (mkF m 111 #[.val (.int pA), .val (.int pB), .val (.int pC), .val (.int pD), .val (.int v4_1), .val (.int (1 : Int32)), .val (.double v6_4), .second, .val (.double v8_5), .second, .val (.double v10_6), .second, .val (.double v12_7), .second, .val (.ref aQ8), .val (.ref aQ9), .val (.ref b12), .val (.int v17_24)] []))
    refine own_back ?_ (fun t k => XS.iload X23.here hx rfl (hb hby at_111) rfl k)
    show own_Go p e below PO (T23.setTop (mkF m 113 #[.val (.int pA), .val (.int pB), .val (.int pC), .val (.int pD), .val (.int v4_1), .val (.int (1 : Int32)), .val (.double v6_4), .second, .val (.double v8_5), .second, .val (.double v10_6), .second, .val (.double v12_7), .second, .val (.ref aQ8), .val (.ref aQ9), .val (.ref b12), .val (.int v17_24)] [(.int v17_24)]))
    refine own_back ?_ (fun t k => XS.iload X23.here hx rfl (hb hby at_113) rfl k)
    show own_Go p e below PO (T23.setTop (mkF m 115 #[.val (.int pA), .val (.int pB), .val (.int pC), .val (.int pD), .val (.int v4_1), .val (.int (1 : Int32)), .val (.double v6_4), .second, .val (.double v8_5), .second, .val (.double v10_6), .second, .val (.double v12_7), .second, .val (.ref aQ8), .val (.ref aQ9), .val (.ref b12), .val (.int v17_24)] [(.int v4_1), (.int v17_24)]))
    refine own_back ?_ (fun t k => XS.iload X23.here hx rfl (hb hby at_115) rfl k)
    show own_Go p e below PO (T23.setTop (mkF m 117 #[.val (.int pA), .val (.int pB), .val (.int pC), .val (.int pD), .val (.int v4_1), .val (.int (1 : Int32)), .val (.double v6_4), .second, .val (.double v8_5), .second, .val (.double v10_6), .second, .val (.double v12_7), .second, .val (.ref aQ8), .val (.ref aQ9), .val (.ref b12), .val (.int v17_24)] [(.int (1 : Int32)), (.int v4_1), (.int v17_24)]))
    refine own_back ?_ (fun t k => XS.iadd X23.here hx rfl (hb hby at_117) rfl k)
    show own_Go p e below PO (T23.setTop (mkF m 118 #[.val (.int pA), .val (.int pB), .val (.int pC), .val (.int pD), .val (.int v4_1), .val (.int (1 : Int32)), .val (.double v6_4), .second, .val (.double v8_5), .second, .val (.double v10_6), .second, .val (.double v12_7), .second, .val (.ref aQ8), .val (.ref aQ9), .val (.ref b12), .val (.int v17_24)] [(.int (v4_1 + (1 : Int32))), (.int v17_24)]))
    refine own_back ?_ (fun t k => XS.iconst X23.here hx rfl (hb hby at_118) k)
    show own_Go p e below PO (T23.setTop (mkF m 119 #[.val (.int pA), .val (.int pB), .val (.int pC), .val (.int pD), .val (.int v4_1), .val (.int (1 : Int32)), .val (.double v6_4), .second, .val (.double v8_5), .second, .val (.double v10_6), .second, .val (.double v12_7), .second, .val (.ref aQ8), .val (.ref aQ9), .val (.ref b12), .val (.int v17_24)] [(.int (1 : Int32)), (.int (v4_1 + (1 : Int32))), (.int v17_24)]))
    refine own_back ?_ (fun t k => XS.isub X23.here hx rfl (hb hby at_119) rfl k)
    show own_Go p e below PO (T23.setTop (mkF m 120 #[.val (.int pA), .val (.int pB), .val (.int pC), .val (.int pD), .val (.int v4_1), .val (.int (1 : Int32)), .val (.double v6_4), .second, .val (.double v8_5), .second, .val (.double v10_6), .second, .val (.double v12_7), .second, .val (.ref aQ8), .val (.ref aQ9), .val (.ref b12), .val (.int v17_24)] [(.int ((v4_1 + (1 : Int32)) - (1 : Int32))), (.int v17_24)]))
    refine own_back ?_ (fun t k => XS.icmpYes X23.here hx rfl (pc0 := 120) (pc' := 125) rfl (hb hby at_120) rfl (teq h_v17_24).1 (by decide) (by decide) k)
    show own_Go p e below PO (T23.setTop (mkF m 125 #[.val (.int pA), .val (.int pB), .val (.int pC), .val (.int pD), .val (.int v4_1), .val (.int (1 : Int32)), .val (.double v6_4), .second, .val (.double v8_5), .second, .val (.double v10_6), .second, .val (.double v12_7), .second, .val (.ref aQ8), .val (.ref aQ9), .val (.ref b12), .val (.int v17_24)] []))
    refine own_back ?_ (fun t k => XS.aload X23.here hx rfl (hb hby at_125) rfl rfl k)
    show own_Go p e below PO (T23.setTop (mkF m 127 #[.val (.int pA), .val (.int pB), .val (.int pC), .val (.int pD), .val (.int v4_1), .val (.int (1 : Int32)), .val (.double v6_4), .second, .val (.double v8_5), .second, .val (.double v10_6), .second, .val (.double v12_7), .second, .val (.ref aQ8), .val (.ref aQ9), .val (.ref b12), .val (.int v17_24)] [(.ref b12)]))
    obtain ⟨cq25, kq25, q25a, q25b, q25c⟩ := isOf hZ e23 f17_22
    obtain ⟨_, _, ⟨T25, L25, k25, n25⟩, -, X25, ⟨Lc25, hQ25, l25, y25, z25⟩, st25⟩ := X23.virtualBack hx (y := (⟨"com/example/overcap/overcap/model/MortalityTable", "getFirstAge", "()I"⟩ : MethodName)) (z := (⟨"com/example/overcap/overcap/model/MortalityTable", "getFirstAge", "()I"⟩ : MethodName)) hown (mvT hZ (hw _ (List.mem_of_getElem? (i := 62) rfl))) (mvT hZ (hw _ (List.mem_of_getElem? (i := 63) rfl))) (notFace_of_selects (args := #[]) (mvT hZ (hw _ (List.mem_of_getElem? (i := 65) rfl)))) (mvT hZ (hw _ (List.mem_of_getElem? (i := 65) rfl))) (mvT hZ (hw _ (List.mem_of_getElem? (i := 64) rfl))) (by decide) (backOf (W := 0) (rmFA l Z a0 hw [] b12 v4_1 T17.heap n0 Zh17 FA17) hZ (hw _ (List.mem_of_getElem? (i := 66) rfl)) (hw _ (List.mem_of_getElem? (i := 10) rfl)) (by decide) (by decide)) q25a q25c (g := (mkF m 127 #[.val (.int pA), .val (.int pB), .val (.int pC), .val (.int pD), .val (.int v4_1), .val (.int (1 : Int32)), .val (.double v6_4), .second, .val (.double v8_5), .second, .val (.double v10_6), .second, .val (.double v12_7), .second, .val (.ref aQ8), .val (.ref aQ9), .val (.ref b12), .val (.int v17_24)] [(.ref b12)])) rfl (by rw [hml]; rfl) (Steps.refl _) (argsL := []) (rest := []) (lenOf pd_5 rfl) rfl (by show 2 * 0 + _ ≤ _; exact Nat.le_of_eq rfl) (hb hby at_127) (fun _ _ => ⟨rfl, e23, (by decide : 13 + 0 ≤ _), (by decide : 103 + 0 ≤ _)⟩)
    dsimp only [Pt.U, Pt.locs, Pt.cells, Pt.slots] at X25 l25 y25 z25 st25 hQ25
    subst l25 y25 z25
    obtain ⟨rfl, N25q, e25⟩ := hQ25
    have N25 := Fr.app N23 N25q
    refine own_back ?_ (fun t k => st25.trans k)
    show own_Go p e below PO (T25.setTop (mkF m 130 #[.val (.int pA), .val (.int pB), .val (.int pC), .val (.int pD), .val (.int v4_1), .val (.int (1 : Int32)), .val (.double v6_4), .second, .val (.double v8_5), .second, .val (.double v10_6), .second, .val (.double v12_7), .second, .val (.ref aQ8), .val (.ref aQ9), .val (.ref b12), .val (.int v17_24)] [(.int v4_1)]))
    refine own_back ?_ (fun t k => XS.iload X25.here hx rfl (hb hby at_130) rfl k)
    show own_Go p e below PO (T25.setTop (mkF m 132 #[.val (.int pA), .val (.int pB), .val (.int pC), .val (.int pD), .val (.int v4_1), .val (.int (1 : Int32)), .val (.double v6_4), .second, .val (.double v8_5), .second, .val (.double v10_6), .second, .val (.double v12_7), .second, .val (.ref aQ8), .val (.ref aQ9), .val (.ref b12), .val (.int v17_24)] [(.int v4_1), (.int v4_1)]))
    refine own_back ?_ (fun t k => XS.icmpNo X25.here hx rfl (hb hby at_132) rfl (teq rfl).2 k)
    show own_Go p e below PO (T25.setTop (mkF m 135 #[.val (.int pA), .val (.int pB), .val (.int pC), .val (.int pD), .val (.int v4_1), .val (.int (1 : Int32)), .val (.double v6_4), .second, .val (.double v8_5), .second, .val (.double v10_6), .second, .val (.double v12_7), .second, .val (.ref aQ8), .val (.ref aQ9), .val (.ref b12), .val (.int v17_24)] []))
    refine own_back ?_ (fun t k => XS.iload X25.here hx rfl (hb hby at_135) rfl k)
    show own_Go p e below PO (T25.setTop (mkF m 137 #[.val (.int pA), .val (.int pB), .val (.int pC), .val (.int pD), .val (.int v4_1), .val (.int (1 : Int32)), .val (.double v6_4), .second, .val (.double v8_5), .second, .val (.double v10_6), .second, .val (.double v12_7), .second, .val (.ref aQ8), .val (.ref aQ9), .val (.ref b12), .val (.int v17_24)] [(.int v17_24)]))
    refine own_back ?_ (fun t k => XS.iload X25.here hx rfl (hb hby at_137) rfl k)
    show own_Go p e below PO (T25.setTop (mkF m 139 #[.val (.int pA), .val (.int pB), .val (.int pC), .val (.int pD), .val (.int v4_1), .val (.int (1 : Int32)), .val (.double v6_4), .second, .val (.double v8_5), .second, .val (.double v10_6), .second, .val (.double v12_7), .second, .val (.ref aQ8), .val (.ref aQ9), .val (.ref b12), .val (.int v17_24)] [(.int v4_1), (.int v17_24)]))
    have hd139_26 : ¬ (v17_24 < v4_1) := by rw [h_v17_24]; exact own_lo hf (n := (1 : Int32)) (N := 1) (by decide) (by decide)
    refine own_back ?_ (fun t k => XS.icmpYes X25.here hx rfl (pc0 := 139) (pc' := 144) rfl (hb hby at_139) rfl (flt hd139_26).2.1 (by decide) (by decide) k)
    show own_Go p e below PO (T25.setTop (mkF m 144 #[.val (.int pA), .val (.int pB), .val (.int pC), .val (.int pD), .val (.int v4_1), .val (.int (1 : Int32)), .val (.double v6_4), .second, .val (.double v8_5), .second, .val (.double v10_6), .second, .val (.double v12_7), .second, .val (.ref aQ8), .val (.ref aQ9), .val (.ref b12), .val (.int v17_24)] []))
    refine own_back ?_ (fun t k => XS.aload X25.here hx rfl (hb hby at_144) rfl rfl k)
    show own_Go p e below PO (T25.setTop (mkF m 146 #[.val (.int pA), .val (.int pB), .val (.int pC), .val (.int pD), .val (.int v4_1), .val (.int (1 : Int32)), .val (.double v6_4), .second, .val (.double v8_5), .second, .val (.double v10_6), .second, .val (.double v12_7), .second, .val (.ref aQ8), .val (.ref aQ9), .val (.ref b12), .val (.int v17_24)] [(.ref b12)]))
    refine own_back ?_ (fun t k => XS.iload X25.here hx rfl (hb hby at_146) rfl k)
    show own_Go p e below PO (T25.setTop (mkF m 148 #[.val (.int pA), .val (.int pB), .val (.int pC), .val (.int pD), .val (.int v4_1), .val (.int (1 : Int32)), .val (.double v6_4), .second, .val (.double v8_5), .second, .val (.double v10_6), .second, .val (.double v12_7), .second, .val (.ref aQ8), .val (.ref aQ9), .val (.ref b12), .val (.int v17_24)] [(.int v17_24), (.ref b12)]))
    refine own_back ?_ (fun t k => XS.dconst1 X25.here hx rfl (v := (4607182418800017408 : UInt64)) (hb hby at_148) (by decide +kernel) k)
    show own_Go p e below PO (T25.setTop (mkF m 149 #[.val (.int pA), .val (.int pB), .val (.int pC), .val (.int pD), .val (.int v4_1), .val (.int (1 : Int32)), .val (.double v6_4), .second, .val (.double v8_5), .second, .val (.double v10_6), .second, .val (.double v12_7), .second, .val (.ref aQ8), .val (.ref aQ9), .val (.ref b12), .val (.int v17_24)] [(.double (4607182418800017408 : UInt64)), (.int v17_24), (.ref b12)]))
    obtain ⟨cq27, kq27, q27a, q27b, q27c⟩ := isOf hZ e25 f17_22
    obtain ⟨_, _, ⟨T27, L27, k27, n27⟩, -, X27, ⟨Lc27, hQ27, l27, y27, z27⟩, st27⟩ := X25.virtualBack hx (y := (⟨"com/example/overcap/overcap/model/MortalityTable", "getQx", "(ID)D"⟩ : MethodName)) (z := (⟨"com/example/overcap/overcap/model/MortalityTable", "getQx", "(ID)D"⟩ : MethodName)) hown (mvT hZ (hw _ (List.mem_of_getElem? (i := 67) rfl))) (mvT hZ (hw _ (List.mem_of_getElem? (i := 68) rfl))) (notFace_of_selects (args := #[]) (mvT hZ (hw _ (List.mem_of_getElem? (i := 70) rfl)))) (mvT hZ (hw _ (List.mem_of_getElem? (i := 70) rfl))) (mvT hZ (hw _ (List.mem_of_getElem? (i := 69) rfl))) (by decide) (backOf (W := 0) (rmQx_1_0 l Z a0 hw [] b12 v17_24 (4607182418800017408 : UInt64) v4_1 aM aF kQ8 kQ9  T17.heap n0 Zh17 f17_22 FA17 FM17 FF17 VM17 VF17 (by rw [h_v17_24]; exact own_lo hf (n := (1 : Int32)) (N := 1) (by decide) (by decide)) (by rw [h_v17_24]; exact Int32.lt_irrefl) (by rw [h_v17_24]; exact own_ix hf (n := (1 : Int32)) (N := 1) (by decide) (by decide) (by decide)) own_ok1 own_one1) hZ (hw _ (List.mem_of_getElem? (i := 71) rfl)) (hw _ (List.mem_of_getElem? (i := 10) rfl)) (by decide) (by decide)) q27a q27c (g := (mkF m 149 #[.val (.int pA), .val (.int pB), .val (.int pC), .val (.int pD), .val (.int v4_1), .val (.int (1 : Int32)), .val (.double v6_4), .second, .val (.double v8_5), .second, .val (.double v10_6), .second, .val (.double v12_7), .second, .val (.ref aQ8), .val (.ref aQ9), .val (.ref b12), .val (.int v17_24)] [(.double (4607182418800017408 : UInt64)), (.int v17_24), (.ref b12)])) rfl (by rw [hml]; rfl) (Steps.refl _) (argsL := [(.int v17_24), (.double (4607182418800017408 : UInt64))]) (rest := []) (lenOf pd_8 rfl) rfl (by show 2 * 0 + _ ≤ _; exact Nat.le_of_eq rfl) (hb hby at_149) (fun _ _ => ⟨rfl, e25, (by decide : 13 + 0 ≤ _), (by decide : 103 + 0 ≤ _)⟩)
    dsimp only [Pt.U, Pt.locs, Pt.cells, Pt.slots] at X27 l27 y27 z27 st27 hQ27
    subst l27 y27 z27
    obtain ⟨rfl, N27q, e27⟩ := hQ27
    have N27 := Fr.app N25 N27q
    refine own_back ?_ (fun t k => st27.trans k)
    show own_Go p e below PO (T27.setTop (mkF m 152 #[.val (.int pA), .val (.int pB), .val (.int pC), .val (.int pD), .val (.int v4_1), .val (.int (1 : Int32)), .val (.double v6_4), .second, .val (.double v8_5), .second, .val (.double v10_6), .second, .val (.double v12_7), .second, .val (.ref aQ8), .val (.ref aQ9), .val (.ref b12), .val (.int v17_24)] [(.double (own_mix (4607182418800017408 : UInt64) (4607182418800017408 : UInt64) (4607182418800017408 : UInt64)))]))
    refine own_gen (A := UInt64) (own_mix (4607182418800017408 : UInt64) (4607182418800017408 : UInt64) (4607182418800017408 : UInt64)) (fun r149_28 => own_Go p e below PO (T27.setTop (mkF m 152 #[.val (.int pA), .val (.int pB), .val (.int pC), .val (.int pD), .val (.int v4_1), .val (.int (1 : Int32)), .val (.double v6_4), .second, .val (.double v8_5), .second, .val (.double v10_6), .second, .val (.double v12_7), .second, .val (.ref aQ8), .val (.ref aQ9), .val (.ref b12), .val (.int v17_24)] [(.double r149_28)]))) ?_
    intro r149_28 h_r149_28
    show own_Go p e below PO (T27.setTop (mkF m 152 #[.val (.int pA), .val (.int pB), .val (.int pC), .val (.int pD), .val (.int v4_1), .val (.int (1 : Int32)), .val (.double v6_4), .second, .val (.double v8_5), .second, .val (.double v10_6), .second, .val (.double v12_7), .second, .val (.ref aQ8), .val (.ref aQ9), .val (.ref b12), .val (.int v17_24)] [(.double r149_28)]))
    refine own_back ?_ (fun t k => XS.dconst1 X27.here hx rfl (v := (4607182418800017408 : UInt64)) (hb hby at_152) (by decide +kernel) k)
    show own_Go p e below PO (T27.setTop (mkF m 153 #[.val (.int pA), .val (.int pB), .val (.int pC), .val (.int pD), .val (.int v4_1), .val (.int (1 : Int32)), .val (.double v6_4), .second, .val (.double v8_5), .second, .val (.double v10_6), .second, .val (.double v12_7), .second, .val (.ref aQ8), .val (.ref aQ9), .val (.ref b12), .val (.int v17_24)] [(.double (4607182418800017408 : UInt64)), (.double r149_28)]))
    refine own_back ?_ (fun t k => XS.dcmpS X27.here hx rfl (v := (0 : Int32)) (hb hby at_153) rfl (by rw [h_r149_28]; decide +kernel) k)
    show own_Go p e below PO (T27.setTop (mkF m 154 #[.val (.int pA), .val (.int pB), .val (.int pC), .val (.int pD), .val (.int v4_1), .val (.int (1 : Int32)), .val (.double v6_4), .second, .val (.double v8_5), .second, .val (.double v10_6), .second, .val (.double v12_7), .second, .val (.ref aQ8), .val (.ref aQ9), .val (.ref b12), .val (.int v17_24)] [(.int (0 : Int32))]))
    refine own_back ?_ (fun t k => XS.ifNo X27.here hx rfl (hb hby at_154) rfl ((if0 _ _).trans (teq rfl).2) k)
    show own_Go p e below PO (T27.setTop (mkF m 157 #[.val (.int pA), .val (.int pB), .val (.int pC), .val (.int pD), .val (.int v4_1), .val (.int (1 : Int32)), .val (.double v6_4), .second, .val (.double v8_5), .second, .val (.double v10_6), .second, .val (.double v12_7), .second, .val (.ref aQ8), .val (.ref aQ9), .val (.ref b12), .val (.int v17_24)] []))
    refine own_back ?_ (fun t k => XS.aload X27.here hx rfl (hb hby at_157) rfl rfl k)
    show own_Go p e below PO (T27.setTop (mkF m 159 #[.val (.int pA), .val (.int pB), .val (.int pC), .val (.int pD), .val (.int v4_1), .val (.int (1 : Int32)), .val (.double v6_4), .second, .val (.double v8_5), .second, .val (.double v10_6), .second, .val (.double v12_7), .second, .val (.ref aQ8), .val (.ref aQ9), .val (.ref b12), .val (.int v17_24)] [(.ref b12)]))
    refine own_back ?_ (fun t k => XS.iload X27.here hx rfl (hb hby at_159) rfl k)
    show own_Go p e below PO (T27.setTop (mkF m 161 #[.val (.int pA), .val (.int pB), .val (.int pC), .val (.int pD), .val (.int v4_1), .val (.int (1 : Int32)), .val (.double v6_4), .second, .val (.double v8_5), .second, .val (.double v10_6), .second, .val (.double v12_7), .second, .val (.ref aQ8), .val (.ref aQ9), .val (.ref b12), .val (.int v17_24)] [(.int v17_24), (.ref b12)]))
    refine own_back ?_ (fun t k => XS.dconst0 X27.here hx rfl (v := (0 : UInt64)) (hb hby at_161) (by decide +kernel) k)
    show own_Go p e below PO (T27.setTop (mkF m 162 #[.val (.int pA), .val (.int pB), .val (.int pC), .val (.int pD), .val (.int v4_1), .val (.int (1 : Int32)), .val (.double v6_4), .second, .val (.double v8_5), .second, .val (.double v10_6), .second, .val (.double v12_7), .second, .val (.ref aQ8), .val (.ref aQ9), .val (.ref b12), .val (.int v17_24)] [(.double (0 : UInt64)), (.int v17_24), (.ref b12)]))
    obtain ⟨cq29, kq29, q29a, q29b, q29c⟩ := isOf hZ e27 f17_22
    obtain ⟨_, _, ⟨T29, L29, k29, n29⟩, -, X29, ⟨Lc29, hQ29, l29, y29, z29⟩, st29⟩ := X27.virtualBack hx (y := (⟨"com/example/overcap/overcap/model/MortalityTable", "getQx", "(ID)D"⟩ : MethodName)) (z := (⟨"com/example/overcap/overcap/model/MortalityTable", "getQx", "(ID)D"⟩ : MethodName)) hown (mvT hZ (hw _ (List.mem_of_getElem? (i := 67) rfl))) (mvT hZ (hw _ (List.mem_of_getElem? (i := 68) rfl))) (notFace_of_selects (args := #[]) (mvT hZ (hw _ (List.mem_of_getElem? (i := 70) rfl)))) (mvT hZ (hw _ (List.mem_of_getElem? (i := 70) rfl))) (mvT hZ (hw _ (List.mem_of_getElem? (i := 69) rfl))) (by decide) (backOf (W := 0) (rmQx_1_0 l Z a0 hw [] b12 v17_24 (0 : UInt64) v4_1 aM aF kQ8 kQ9  T17.heap n0 Zh17 f17_22 FA17 FM17 FF17 VM17 VF17 (by rw [h_v17_24]; exact own_lo hf (n := (1 : Int32)) (N := 1) (by decide) (by decide)) (by rw [h_v17_24]; exact Int32.lt_irrefl) (by rw [h_v17_24]; exact own_ix hf (n := (1 : Int32)) (N := 1) (by decide) (by decide) (by decide)) own_ok0 own_one0) hZ (hw _ (List.mem_of_getElem? (i := 71) rfl)) (hw _ (List.mem_of_getElem? (i := 10) rfl)) (by decide) (by decide)) q29a q29c (g := (mkF m 162 #[.val (.int pA), .val (.int pB), .val (.int pC), .val (.int pD), .val (.int v4_1), .val (.int (1 : Int32)), .val (.double v6_4), .second, .val (.double v8_5), .second, .val (.double v10_6), .second, .val (.double v12_7), .second, .val (.ref aQ8), .val (.ref aQ9), .val (.ref b12), .val (.int v17_24)] [(.double (0 : UInt64)), (.int v17_24), (.ref b12)])) rfl (by rw [hml]; rfl) (Steps.refl _) (argsL := [(.int v17_24), (.double (0 : UInt64))]) (rest := []) (lenOf pd_8 rfl) rfl (by show 2 * 0 + _ ≤ _; exact Nat.le_of_eq rfl) (hb hby at_162) (fun _ _ => ⟨rfl, e27, (by decide : 13 + 0 ≤ _), (by decide : 103 + 0 ≤ _)⟩)
    dsimp only [Pt.U, Pt.locs, Pt.cells, Pt.slots] at X29 l29 y29 z29 st29 hQ29
    subst l29 y29 z29
    obtain ⟨rfl, N29q, e29⟩ := hQ29
    have N29 := Fr.app N27 N29q
    refine own_back ?_ (fun t k => st29.trans k)
    show own_Go p e below PO (T29.setTop (mkF m 165 #[.val (.int pA), .val (.int pB), .val (.int pC), .val (.int pD), .val (.int v4_1), .val (.int (1 : Int32)), .val (.double v6_4), .second, .val (.double v8_5), .second, .val (.double v10_6), .second, .val (.double v12_7), .second, .val (.ref aQ8), .val (.ref aQ9), .val (.ref b12), .val (.int v17_24)] [(.double (own_mix (0 : UInt64) (4607182418800017408 : UInt64) (4607182418800017408 : UInt64)))]))
    refine own_gen (A := UInt64) (own_mix (0 : UInt64) (4607182418800017408 : UInt64) (4607182418800017408 : UInt64)) (fun r162_30 => own_Go p e below PO (T29.setTop (mkF m 165 #[.val (.int pA), .val (.int pB), .val (.int pC), .val (.int pD), .val (.int v4_1), .val (.int (1 : Int32)), .val (.double v6_4), .second, .val (.double v8_5), .second, .val (.double v10_6), .second, .val (.double v12_7), .second, .val (.ref aQ8), .val (.ref aQ9), .val (.ref b12), .val (.int v17_24)] [(.double r162_30)]))) ?_
    intro r162_30 h_r162_30
    show own_Go p e below PO (T29.setTop (mkF m 165 #[.val (.int pA), .val (.int pB), .val (.int pC), .val (.int pD), .val (.int v4_1), .val (.int (1 : Int32)), .val (.double v6_4), .second, .val (.double v8_5), .second, .val (.double v10_6), .second, .val (.double v12_7), .second, .val (.ref aQ8), .val (.ref aQ9), .val (.ref b12), .val (.int v17_24)] [(.double r162_30)]))
    refine own_back ?_ (fun t k => XS.dconst1 X29.here hx rfl (v := (4607182418800017408 : UInt64)) (hb hby at_165) (by decide +kernel) k)
    show own_Go p e below PO (T29.setTop (mkF m 166 #[.val (.int pA), .val (.int pB), .val (.int pC), .val (.int pD), .val (.int v4_1), .val (.int (1 : Int32)), .val (.double v6_4), .second, .val (.double v8_5), .second, .val (.double v10_6), .second, .val (.double v12_7), .second, .val (.ref aQ8), .val (.ref aQ9), .val (.ref b12), .val (.int v17_24)] [(.double (4607182418800017408 : UInt64)), (.double r162_30)]))
    refine own_back ?_ (fun t k => XS.dcmpS X29.here hx rfl (v := (0 : Int32)) (hb hby at_166) rfl (by rw [h_r162_30]; decide +kernel) k)
    show own_Go p e below PO (T29.setTop (mkF m 167 #[.val (.int pA), .val (.int pB), .val (.int pC), .val (.int pD), .val (.int v4_1), .val (.int (1 : Int32)), .val (.double v6_4), .second, .val (.double v8_5), .second, .val (.double v10_6), .second, .val (.double v12_7), .second, .val (.ref aQ8), .val (.ref aQ9), .val (.ref b12), .val (.int v17_24)] [(.int (0 : Int32))]))
    refine own_back ?_ (fun t k => XS.ifYes X29.here hx rfl (pc0 := 167) (pc' := 172) rfl (hb hby at_167) rfl ((if0 _ _).trans (teq rfl).1) (by decide) (by decide) k)
    show own_Go p e below PO (T29.setTop (mkF m 172 #[.val (.int pA), .val (.int pB), .val (.int pC), .val (.int pD), .val (.int v4_1), .val (.int (1 : Int32)), .val (.double v6_4), .second, .val (.double v8_5), .second, .val (.double v10_6), .second, .val (.double v12_7), .second, .val (.ref aQ8), .val (.ref aQ9), .val (.ref b12), .val (.int v17_24)] []))
    refine own_back ?_ (fun t k => XS.iload X29.here hx rfl (hb hby at_172) rfl k)
    show own_Go p e below PO (T29.setTop (mkF m 174 #[.val (.int pA), .val (.int pB), .val (.int pC), .val (.int pD), .val (.int v4_1), .val (.int (1 : Int32)), .val (.double v6_4), .second, .val (.double v8_5), .second, .val (.double v10_6), .second, .val (.double v12_7), .second, .val (.ref aQ8), .val (.ref aQ9), .val (.ref b12), .val (.int v17_24)] [(.int (1 : Int32))]))
    refine own_back ?_ (fun t k => XS.iconst X29.here hx rfl (hb hby at_174) k)
    show own_Go p e below PO (T29.setTop (mkF m 175 #[.val (.int pA), .val (.int pB), .val (.int pC), .val (.int pD), .val (.int v4_1), .val (.int (1 : Int32)), .val (.double v6_4), .second, .val (.double v8_5), .second, .val (.double v10_6), .second, .val (.double v12_7), .second, .val (.ref aQ8), .val (.ref aQ9), .val (.ref b12), .val (.int v17_24)] [(.int (2 : Int32)), (.int (1 : Int32))]))
    have hd175_31 : (1 : Int32) < (2 : Int32) := (by decide)
    refine own_back ?_ (fun t k => XS.icmpYes X29.here hx rfl (pc0 := 175) (pc' := 212) rfl (hb hby at_175) rfl (tlt hd175_31).1 (by decide) (by decide) k)
    show own_Go p e below PO (T29.setTop (mkF m 212 #[.val (.int pA), .val (.int pB), .val (.int pC), .val (.int pD), .val (.int v4_1), .val (.int (1 : Int32)), .val (.double v6_4), .second, .val (.double v8_5), .second, .val (.double v10_6), .second, .val (.double v12_7), .second, .val (.ref aQ8), .val (.ref aQ9), .val (.ref b12), .val (.int v17_24)] []))
    refine own_back ?_ (fun t k => XS.iconst X29.here hx rfl (hb hby at_212) k)
    show own_Go p e below PO (T29.setTop (mkF m 213 #[.val (.int pA), .val (.int pB), .val (.int pC), .val (.int pD), .val (.int v4_1), .val (.int (1 : Int32)), .val (.double v6_4), .second, .val (.double v8_5), .second, .val (.double v10_6), .second, .val (.double v12_7), .second, .val (.ref aQ8), .val (.ref aQ9), .val (.ref b12), .val (.int v17_24)] [(.int (1 : Int32))]))
    refine own_retNW X29 hx (t := .boolean) (rest := []) Bd.returns (by decide) (by simp) (hb hby at_213) e29 (Bd.notSynchronized) ?_ (by decide) (by decide) (s := s) (vm0 := T17.vm) hS17 (Nat.le_refl _)
    exact ⟨rfl, N29⟩
  · subst q3
    show own_Go p e below PO (s₁.setTop (mkF m 19 #[.val (.int pA), .val (.int pB), .val (.int pC), .val (.int pD), .val (.int v4_1), .val (.int (2 : Int32)), .unset, .unset, .unset, .unset, .unset, .unset, .unset, .unset, .unset, .unset, .unset, .unset] []))
    refine own_back ?_ (fun t k => XS.iloadN X0.here hx rfl (hb hby at_19) rfl k)
    show own_Go p e below PO (s₁.setTop (mkF m 20 #[.val (.int pA), .val (.int pB), .val (.int pC), .val (.int pD), .val (.int v4_1), .val (.int (2 : Int32)), .unset, .unset, .unset, .unset, .unset, .unset, .unset, .unset, .unset, .unset, .unset, .unset] [(.int pC)]))
    refine own_back ?_ (fun t k => XS.bipush X0.here hx rfl (hb hby at_20) k)
    show own_Go p e below PO (s₁.setTop (mkF m 22 #[.val (.int pA), .val (.int pB), .val (.int pC), .val (.int pD), .val (.int v4_1), .val (.int (2 : Int32)), .unset, .unset, .unset, .unset, .unset, .unset, .unset, .unset, .unset, .unset, .unset, .unset] [(.int (7 : Int32)), (.int pC)]))
    refine own_back ?_ (fun t k => XS.iand X0.here hx rfl (hb hby at_22) rfl k)
    show own_Go p e below PO (s₁.setTop (mkF m 23 #[.val (.int pA), .val (.int pB), .val (.int pC), .val (.int pD), .val (.int v4_1), .val (.int (2 : Int32)), .unset, .unset, .unset, .unset, .unset, .unset, .unset, .unset, .unset, .unset, .unset, .unset] [(.int (pC &&& (7 : Int32)))]))
    refine own_back ?_ (fun t k => XS.i2dS X0.here hx rfl (v := (FP.i2d (pC &&& (7 : Int32)))) (hb hby at_23) rfl rfl k)
    show own_Go p e below PO (s₁.setTop (mkF m 24 #[.val (.int pA), .val (.int pB), .val (.int pC), .val (.int pD), .val (.int v4_1), .val (.int (2 : Int32)), .unset, .unset, .unset, .unset, .unset, .unset, .unset, .unset, .unset, .unset, .unset, .unset] [(.double (FP.i2d (pC &&& (7 : Int32))))]))
    refine own_back ?_ (fun t k => X0.ldc2DoubleC hx hown (mvT hZ (hw _ (List.mem_of_getElem? (i := 2) rfl))) (g := (mkF m 24 #[.val (.int pA), .val (.int pB), .val (.int pC), .val (.int pD), .val (.int v4_1), .val (.int (2 : Int32)), .unset, .unset, .unset, .unset, .unset, .unset, .unset, .unset, .unset, .unset, .unset, .unset] [(.double (FP.i2d (pC &&& (7 : Int32))))])) rfl (hb hby at_24) _ k)
    show own_Go p e below PO (s₁.setTop (mkF m 27 #[.val (.int pA), .val (.int pB), .val (.int pC), .val (.int pD), .val (.int v4_1), .val (.int (2 : Int32)), .unset, .unset, .unset, .unset, .unset, .unset, .unset, .unset, .unset, .unset, .unset, .unset] [(.double (4620693217682128896 : UInt64)), (.double (FP.i2d (pC &&& (7 : Int32))))]))
    refine own_back ?_ (fun t k => XS.ddivS X0.here hx rfl (v := (own_q (pC &&& (7 : Int32)))) (hb hby at_27) rfl (own_divN _) rfl k)
    show own_Go p e below PO (s₁.setTop (mkF m 28 #[.val (.int pA), .val (.int pB), .val (.int pC), .val (.int pD), .val (.int v4_1), .val (.int (2 : Int32)), .unset, .unset, .unset, .unset, .unset, .unset, .unset, .unset, .unset, .unset, .unset, .unset] [(.double (own_q (pC &&& (7 : Int32))))]))
    refine own_back ?_ (fun t k => XS.dstore X0.here hx rfl (hb hby at_28) rfl (l' := #[.val (.int pA), .val (.int pB), .val (.int pC), .val (.int pD), .val (.int v4_1), .val (.int (2 : Int32)), .val (.double (own_q (pC &&& (7 : Int32)))), .second, .unset, .unset, .unset, .unset, .unset, .unset, .unset, .unset, .unset, .unset]) rfl k)
    show own_Go p e below PO (s₁.setTop (mkF m 30 #[.val (.int pA), .val (.int pB), .val (.int pC), .val (.int pD), .val (.int v4_1), .val (.int (2 : Int32)), .val (.double (own_q (pC &&& (7 : Int32)))), .second, .unset, .unset, .unset, .unset, .unset, .unset, .unset, .unset, .unset, .unset] []))
    refine own_gen (A := UInt64) (own_q (pC &&& (7 : Int32))) (fun v6_32 => own_Go p e below PO (s₁.setTop (mkF m 30 #[.val (.int pA), .val (.int pB), .val (.int pC), .val (.int pD), .val (.int v4_1), .val (.int (2 : Int32)), .val (.double v6_32), .second, .unset, .unset, .unset, .unset, .unset, .unset, .unset, .unset, .unset, .unset] []))) ?_
    intro v6_32 h_v6_32
    show own_Go p e below PO (s₁.setTop (mkF m 30 #[.val (.int pA), .val (.int pB), .val (.int pC), .val (.int pD), .val (.int v4_1), .val (.int (2 : Int32)), .val (.double v6_32), .second, .unset, .unset, .unset, .unset, .unset, .unset, .unset, .unset, .unset, .unset] []))
    have hq6 : own_qn v6_32 := by rw [h_v6_32]; exact own_q7 _
    refine own_back ?_ (fun t k => XS.iloadN X0.here hx rfl (hb hby at_30) rfl k)
    show own_Go p e below PO (s₁.setTop (mkF m 31 #[.val (.int pA), .val (.int pB), .val (.int pC), .val (.int pD), .val (.int v4_1), .val (.int (2 : Int32)), .val (.double v6_32), .second, .unset, .unset, .unset, .unset, .unset, .unset, .unset, .unset, .unset, .unset] [(.int pC)]))
    refine own_back ?_ (fun t k => XS.iconst X0.here hx rfl (hb hby at_31) k)
    show own_Go p e below PO (s₁.setTop (mkF m 32 #[.val (.int pA), .val (.int pB), .val (.int pC), .val (.int pD), .val (.int v4_1), .val (.int (2 : Int32)), .val (.double v6_32), .second, .unset, .unset, .unset, .unset, .unset, .unset, .unset, .unset, .unset, .unset] [(.int (3 : Int32)), (.int pC)]))
    refine own_back ?_ (fun t k => XS.iushr X0.here hx rfl (hb hby at_32) rfl k)
    show own_Go p e below PO (s₁.setTop (mkF m 33 #[.val (.int pA), .val (.int pB), .val (.int pC), .val (.int pD), .val (.int v4_1), .val (.int (2 : Int32)), .val (.double v6_32), .second, .unset, .unset, .unset, .unset, .unset, .unset, .unset, .unset, .unset, .unset] [(.int ((pC.toUInt32 >>> ((3 : Int32) &&& 31).toUInt32).toInt32))]))
    refine own_back ?_ (fun t k => XS.bipush X0.here hx rfl (hb hby at_33) k)
    show own_Go p e below PO (s₁.setTop (mkF m 35 #[.val (.int pA), .val (.int pB), .val (.int pC), .val (.int pD), .val (.int v4_1), .val (.int (2 : Int32)), .val (.double v6_32), .second, .unset, .unset, .unset, .unset, .unset, .unset, .unset, .unset, .unset, .unset] [(.int (7 : Int32)), (.int ((pC.toUInt32 >>> ((3 : Int32) &&& 31).toUInt32).toInt32))]))
    refine own_back ?_ (fun t k => XS.iand X0.here hx rfl (hb hby at_35) rfl k)
    show own_Go p e below PO (s₁.setTop (mkF m 36 #[.val (.int pA), .val (.int pB), .val (.int pC), .val (.int pD), .val (.int v4_1), .val (.int (2 : Int32)), .val (.double v6_32), .second, .unset, .unset, .unset, .unset, .unset, .unset, .unset, .unset, .unset, .unset] [(.int (((pC.toUInt32 >>> ((3 : Int32) &&& 31).toUInt32).toInt32) &&& (7 : Int32)))]))
    refine own_back ?_ (fun t k => XS.i2dS X0.here hx rfl (v := (FP.i2d (((pC.toUInt32 >>> ((3 : Int32) &&& 31).toUInt32).toInt32) &&& (7 : Int32)))) (hb hby at_36) rfl rfl k)
    show own_Go p e below PO (s₁.setTop (mkF m 37 #[.val (.int pA), .val (.int pB), .val (.int pC), .val (.int pD), .val (.int v4_1), .val (.int (2 : Int32)), .val (.double v6_32), .second, .unset, .unset, .unset, .unset, .unset, .unset, .unset, .unset, .unset, .unset] [(.double (FP.i2d (((pC.toUInt32 >>> ((3 : Int32) &&& 31).toUInt32).toInt32) &&& (7 : Int32))))]))
    refine own_back ?_ (fun t k => X0.ldc2DoubleC hx hown (mvT hZ (hw _ (List.mem_of_getElem? (i := 2) rfl))) (g := (mkF m 37 #[.val (.int pA), .val (.int pB), .val (.int pC), .val (.int pD), .val (.int v4_1), .val (.int (2 : Int32)), .val (.double v6_32), .second, .unset, .unset, .unset, .unset, .unset, .unset, .unset, .unset, .unset, .unset] [(.double (FP.i2d (((pC.toUInt32 >>> ((3 : Int32) &&& 31).toUInt32).toInt32) &&& (7 : Int32))))])) rfl (hb hby at_37) _ k)
    show own_Go p e below PO (s₁.setTop (mkF m 40 #[.val (.int pA), .val (.int pB), .val (.int pC), .val (.int pD), .val (.int v4_1), .val (.int (2 : Int32)), .val (.double v6_32), .second, .unset, .unset, .unset, .unset, .unset, .unset, .unset, .unset, .unset, .unset] [(.double (4620693217682128896 : UInt64)), (.double (FP.i2d (((pC.toUInt32 >>> ((3 : Int32) &&& 31).toUInt32).toInt32) &&& (7 : Int32))))]))
    refine own_back ?_ (fun t k => XS.ddivS X0.here hx rfl (v := (own_q (((pC.toUInt32 >>> ((3 : Int32) &&& 31).toUInt32).toInt32) &&& (7 : Int32)))) (hb hby at_40) rfl (own_divN _) rfl k)
    show own_Go p e below PO (s₁.setTop (mkF m 41 #[.val (.int pA), .val (.int pB), .val (.int pC), .val (.int pD), .val (.int v4_1), .val (.int (2 : Int32)), .val (.double v6_32), .second, .unset, .unset, .unset, .unset, .unset, .unset, .unset, .unset, .unset, .unset] [(.double (own_q (((pC.toUInt32 >>> ((3 : Int32) &&& 31).toUInt32).toInt32) &&& (7 : Int32))))]))
    refine own_back ?_ (fun t k => XS.dstore X0.here hx rfl (hb hby at_41) rfl (l' := #[.val (.int pA), .val (.int pB), .val (.int pC), .val (.int pD), .val (.int v4_1), .val (.int (2 : Int32)), .val (.double v6_32), .second, .val (.double (own_q (((pC.toUInt32 >>> ((3 : Int32) &&& 31).toUInt32).toInt32) &&& (7 : Int32)))), .second, .unset, .unset, .unset, .unset, .unset, .unset, .unset, .unset]) rfl k)
    show own_Go p e below PO (s₁.setTop (mkF m 43 #[.val (.int pA), .val (.int pB), .val (.int pC), .val (.int pD), .val (.int v4_1), .val (.int (2 : Int32)), .val (.double v6_32), .second, .val (.double (own_q (((pC.toUInt32 >>> ((3 : Int32) &&& 31).toUInt32).toInt32) &&& (7 : Int32)))), .second, .unset, .unset, .unset, .unset, .unset, .unset, .unset, .unset] []))
    refine own_gen (A := UInt64) (own_q (((pC.toUInt32 >>> ((3 : Int32) &&& 31).toUInt32).toInt32) &&& (7 : Int32))) (fun v8_33 => own_Go p e below PO (s₁.setTop (mkF m 43 #[.val (.int pA), .val (.int pB), .val (.int pC), .val (.int pD), .val (.int v4_1), .val (.int (2 : Int32)), .val (.double v6_32), .second, .val (.double v8_33), .second, .unset, .unset, .unset, .unset, .unset, .unset, .unset, .unset] []))) ?_
    intro v8_33 h_v8_33
    show own_Go p e below PO (s₁.setTop (mkF m 43 #[.val (.int pA), .val (.int pB), .val (.int pC), .val (.int pD), .val (.int v4_1), .val (.int (2 : Int32)), .val (.double v6_32), .second, .val (.double v8_33), .second, .unset, .unset, .unset, .unset, .unset, .unset, .unset, .unset] []))
    have hq8 : own_qn v8_33 := by rw [h_v8_33]; exact own_q7 _
    refine own_back ?_ (fun t k => XS.iloadN X0.here hx rfl (hb hby at_43) rfl k)
    show own_Go p e below PO (s₁.setTop (mkF m 44 #[.val (.int pA), .val (.int pB), .val (.int pC), .val (.int pD), .val (.int v4_1), .val (.int (2 : Int32)), .val (.double v6_32), .second, .val (.double v8_33), .second, .unset, .unset, .unset, .unset, .unset, .unset, .unset, .unset] [(.int pD)]))
    refine own_back ?_ (fun t k => XS.bipush X0.here hx rfl (hb hby at_44) k)
    show own_Go p e below PO (s₁.setTop (mkF m 46 #[.val (.int pA), .val (.int pB), .val (.int pC), .val (.int pD), .val (.int v4_1), .val (.int (2 : Int32)), .val (.double v6_32), .second, .val (.double v8_33), .second, .unset, .unset, .unset, .unset, .unset, .unset, .unset, .unset] [(.int (7 : Int32)), (.int pD)]))
    refine own_back ?_ (fun t k => XS.iand X0.here hx rfl (hb hby at_46) rfl k)
    show own_Go p e below PO (s₁.setTop (mkF m 47 #[.val (.int pA), .val (.int pB), .val (.int pC), .val (.int pD), .val (.int v4_1), .val (.int (2 : Int32)), .val (.double v6_32), .second, .val (.double v8_33), .second, .unset, .unset, .unset, .unset, .unset, .unset, .unset, .unset] [(.int (pD &&& (7 : Int32)))]))
    refine own_back ?_ (fun t k => XS.i2dS X0.here hx rfl (v := (FP.i2d (pD &&& (7 : Int32)))) (hb hby at_47) rfl rfl k)
    show own_Go p e below PO (s₁.setTop (mkF m 48 #[.val (.int pA), .val (.int pB), .val (.int pC), .val (.int pD), .val (.int v4_1), .val (.int (2 : Int32)), .val (.double v6_32), .second, .val (.double v8_33), .second, .unset, .unset, .unset, .unset, .unset, .unset, .unset, .unset] [(.double (FP.i2d (pD &&& (7 : Int32))))]))
    refine own_back ?_ (fun t k => X0.ldc2DoubleC hx hown (mvT hZ (hw _ (List.mem_of_getElem? (i := 2) rfl))) (g := (mkF m 48 #[.val (.int pA), .val (.int pB), .val (.int pC), .val (.int pD), .val (.int v4_1), .val (.int (2 : Int32)), .val (.double v6_32), .second, .val (.double v8_33), .second, .unset, .unset, .unset, .unset, .unset, .unset, .unset, .unset] [(.double (FP.i2d (pD &&& (7 : Int32))))])) rfl (hb hby at_48) _ k)
    show own_Go p e below PO (s₁.setTop (mkF m 51 #[.val (.int pA), .val (.int pB), .val (.int pC), .val (.int pD), .val (.int v4_1), .val (.int (2 : Int32)), .val (.double v6_32), .second, .val (.double v8_33), .second, .unset, .unset, .unset, .unset, .unset, .unset, .unset, .unset] [(.double (4620693217682128896 : UInt64)), (.double (FP.i2d (pD &&& (7 : Int32))))]))
    refine own_back ?_ (fun t k => XS.ddivS X0.here hx rfl (v := (own_q (pD &&& (7 : Int32)))) (hb hby at_51) rfl (own_divN _) rfl k)
    show own_Go p e below PO (s₁.setTop (mkF m 52 #[.val (.int pA), .val (.int pB), .val (.int pC), .val (.int pD), .val (.int v4_1), .val (.int (2 : Int32)), .val (.double v6_32), .second, .val (.double v8_33), .second, .unset, .unset, .unset, .unset, .unset, .unset, .unset, .unset] [(.double (own_q (pD &&& (7 : Int32))))]))
    refine own_back ?_ (fun t k => XS.dstore X0.here hx rfl (hb hby at_52) rfl (l' := #[.val (.int pA), .val (.int pB), .val (.int pC), .val (.int pD), .val (.int v4_1), .val (.int (2 : Int32)), .val (.double v6_32), .second, .val (.double v8_33), .second, .val (.double (own_q (pD &&& (7 : Int32)))), .second, .unset, .unset, .unset, .unset, .unset, .unset]) rfl k)
    show own_Go p e below PO (s₁.setTop (mkF m 54 #[.val (.int pA), .val (.int pB), .val (.int pC), .val (.int pD), .val (.int v4_1), .val (.int (2 : Int32)), .val (.double v6_32), .second, .val (.double v8_33), .second, .val (.double (own_q (pD &&& (7 : Int32)))), .second, .unset, .unset, .unset, .unset, .unset, .unset] []))
    refine own_gen (A := UInt64) (own_q (pD &&& (7 : Int32))) (fun v10_34 => own_Go p e below PO (s₁.setTop (mkF m 54 #[.val (.int pA), .val (.int pB), .val (.int pC), .val (.int pD), .val (.int v4_1), .val (.int (2 : Int32)), .val (.double v6_32), .second, .val (.double v8_33), .second, .val (.double v10_34), .second, .unset, .unset, .unset, .unset, .unset, .unset] []))) ?_
    intro v10_34 h_v10_34
    show own_Go p e below PO (s₁.setTop (mkF m 54 #[.val (.int pA), .val (.int pB), .val (.int pC), .val (.int pD), .val (.int v4_1), .val (.int (2 : Int32)), .val (.double v6_32), .second, .val (.double v8_33), .second, .val (.double v10_34), .second, .unset, .unset, .unset, .unset, .unset, .unset] []))
    have hq10 : own_qn v10_34 := by rw [h_v10_34]; exact own_q7 _
    refine own_back ?_ (fun t k => XS.iloadN X0.here hx rfl (hb hby at_54) rfl k)
    show own_Go p e below PO (s₁.setTop (mkF m 55 #[.val (.int pA), .val (.int pB), .val (.int pC), .val (.int pD), .val (.int v4_1), .val (.int (2 : Int32)), .val (.double v6_32), .second, .val (.double v8_33), .second, .val (.double v10_34), .second, .unset, .unset, .unset, .unset, .unset, .unset] [(.int pD)]))
    refine own_back ?_ (fun t k => XS.iconst X0.here hx rfl (hb hby at_55) k)
    show own_Go p e below PO (s₁.setTop (mkF m 56 #[.val (.int pA), .val (.int pB), .val (.int pC), .val (.int pD), .val (.int v4_1), .val (.int (2 : Int32)), .val (.double v6_32), .second, .val (.double v8_33), .second, .val (.double v10_34), .second, .unset, .unset, .unset, .unset, .unset, .unset] [(.int (3 : Int32)), (.int pD)]))
    refine own_back ?_ (fun t k => XS.iushr X0.here hx rfl (hb hby at_56) rfl k)
    show own_Go p e below PO (s₁.setTop (mkF m 57 #[.val (.int pA), .val (.int pB), .val (.int pC), .val (.int pD), .val (.int v4_1), .val (.int (2 : Int32)), .val (.double v6_32), .second, .val (.double v8_33), .second, .val (.double v10_34), .second, .unset, .unset, .unset, .unset, .unset, .unset] [(.int ((pD.toUInt32 >>> ((3 : Int32) &&& 31).toUInt32).toInt32))]))
    refine own_back ?_ (fun t k => XS.bipush X0.here hx rfl (hb hby at_57) k)
    show own_Go p e below PO (s₁.setTop (mkF m 59 #[.val (.int pA), .val (.int pB), .val (.int pC), .val (.int pD), .val (.int v4_1), .val (.int (2 : Int32)), .val (.double v6_32), .second, .val (.double v8_33), .second, .val (.double v10_34), .second, .unset, .unset, .unset, .unset, .unset, .unset] [(.int (7 : Int32)), (.int ((pD.toUInt32 >>> ((3 : Int32) &&& 31).toUInt32).toInt32))]))
    refine own_back ?_ (fun t k => XS.iand X0.here hx rfl (hb hby at_59) rfl k)
    show own_Go p e below PO (s₁.setTop (mkF m 60 #[.val (.int pA), .val (.int pB), .val (.int pC), .val (.int pD), .val (.int v4_1), .val (.int (2 : Int32)), .val (.double v6_32), .second, .val (.double v8_33), .second, .val (.double v10_34), .second, .unset, .unset, .unset, .unset, .unset, .unset] [(.int (((pD.toUInt32 >>> ((3 : Int32) &&& 31).toUInt32).toInt32) &&& (7 : Int32)))]))
    refine own_back ?_ (fun t k => XS.i2dS X0.here hx rfl (v := (FP.i2d (((pD.toUInt32 >>> ((3 : Int32) &&& 31).toUInt32).toInt32) &&& (7 : Int32)))) (hb hby at_60) rfl rfl k)
    show own_Go p e below PO (s₁.setTop (mkF m 61 #[.val (.int pA), .val (.int pB), .val (.int pC), .val (.int pD), .val (.int v4_1), .val (.int (2 : Int32)), .val (.double v6_32), .second, .val (.double v8_33), .second, .val (.double v10_34), .second, .unset, .unset, .unset, .unset, .unset, .unset] [(.double (FP.i2d (((pD.toUInt32 >>> ((3 : Int32) &&& 31).toUInt32).toInt32) &&& (7 : Int32))))]))
    refine own_back ?_ (fun t k => X0.ldc2DoubleC hx hown (mvT hZ (hw _ (List.mem_of_getElem? (i := 2) rfl))) (g := (mkF m 61 #[.val (.int pA), .val (.int pB), .val (.int pC), .val (.int pD), .val (.int v4_1), .val (.int (2 : Int32)), .val (.double v6_32), .second, .val (.double v8_33), .second, .val (.double v10_34), .second, .unset, .unset, .unset, .unset, .unset, .unset] [(.double (FP.i2d (((pD.toUInt32 >>> ((3 : Int32) &&& 31).toUInt32).toInt32) &&& (7 : Int32))))])) rfl (hb hby at_61) _ k)
    show own_Go p e below PO (s₁.setTop (mkF m 64 #[.val (.int pA), .val (.int pB), .val (.int pC), .val (.int pD), .val (.int v4_1), .val (.int (2 : Int32)), .val (.double v6_32), .second, .val (.double v8_33), .second, .val (.double v10_34), .second, .unset, .unset, .unset, .unset, .unset, .unset] [(.double (4620693217682128896 : UInt64)), (.double (FP.i2d (((pD.toUInt32 >>> ((3 : Int32) &&& 31).toUInt32).toInt32) &&& (7 : Int32))))]))
    refine own_back ?_ (fun t k => XS.ddivS X0.here hx rfl (v := (own_q (((pD.toUInt32 >>> ((3 : Int32) &&& 31).toUInt32).toInt32) &&& (7 : Int32)))) (hb hby at_64) rfl (own_divN _) rfl k)
    show own_Go p e below PO (s₁.setTop (mkF m 65 #[.val (.int pA), .val (.int pB), .val (.int pC), .val (.int pD), .val (.int v4_1), .val (.int (2 : Int32)), .val (.double v6_32), .second, .val (.double v8_33), .second, .val (.double v10_34), .second, .unset, .unset, .unset, .unset, .unset, .unset] [(.double (own_q (((pD.toUInt32 >>> ((3 : Int32) &&& 31).toUInt32).toInt32) &&& (7 : Int32))))]))
    refine own_back ?_ (fun t k => XS.dstore X0.here hx rfl (hb hby at_65) rfl (l' := #[.val (.int pA), .val (.int pB), .val (.int pC), .val (.int pD), .val (.int v4_1), .val (.int (2 : Int32)), .val (.double v6_32), .second, .val (.double v8_33), .second, .val (.double v10_34), .second, .val (.double (own_q (((pD.toUInt32 >>> ((3 : Int32) &&& 31).toUInt32).toInt32) &&& (7 : Int32)))), .second, .unset, .unset, .unset, .unset]) rfl k)
    show own_Go p e below PO (s₁.setTop (mkF m 67 #[.val (.int pA), .val (.int pB), .val (.int pC), .val (.int pD), .val (.int v4_1), .val (.int (2 : Int32)), .val (.double v6_32), .second, .val (.double v8_33), .second, .val (.double v10_34), .second, .val (.double (own_q (((pD.toUInt32 >>> ((3 : Int32) &&& 31).toUInt32).toInt32) &&& (7 : Int32)))), .second, .unset, .unset, .unset, .unset] []))
    refine own_gen (A := UInt64) (own_q (((pD.toUInt32 >>> ((3 : Int32) &&& 31).toUInt32).toInt32) &&& (7 : Int32))) (fun v12_35 => own_Go p e below PO (s₁.setTop (mkF m 67 #[.val (.int pA), .val (.int pB), .val (.int pC), .val (.int pD), .val (.int v4_1), .val (.int (2 : Int32)), .val (.double v6_32), .second, .val (.double v8_33), .second, .val (.double v10_34), .second, .val (.double v12_35), .second, .unset, .unset, .unset, .unset] []))) ?_
    intro v12_35 h_v12_35
    show own_Go p e below PO (s₁.setTop (mkF m 67 #[.val (.int pA), .val (.int pB), .val (.int pC), .val (.int pD), .val (.int v4_1), .val (.int (2 : Int32)), .val (.double v6_32), .second, .val (.double v8_33), .second, .val (.double v10_34), .second, .val (.double v12_35), .second, .unset, .unset, .unset, .unset] []))
    have hq12 : own_qn v12_35 := by rw [h_v12_35]; exact own_q7 _
    refine own_back ?_ (fun t k => XS.iload X0.here hx rfl (hb hby at_67) rfl k)
    show own_Go p e below PO (s₁.setTop (mkF m 69 #[.val (.int pA), .val (.int pB), .val (.int pC), .val (.int pD), .val (.int v4_1), .val (.int (2 : Int32)), .val (.double v6_32), .second, .val (.double v8_33), .second, .val (.double v10_34), .second, .val (.double v12_35), .second, .unset, .unset, .unset, .unset] [(.int (2 : Int32))]))
    refine own_back ?_ (fun t k => XS.dload X0.here hx rfl (hb hby at_69) rfl k)
    show own_Go p e below PO (s₁.setTop (mkF m 71 #[.val (.int pA), .val (.int pB), .val (.int pC), .val (.int pD), .val (.int v4_1), .val (.int (2 : Int32)), .val (.double v6_32), .second, .val (.double v8_33), .second, .val (.double v10_34), .second, .val (.double v12_35), .second, .unset, .unset, .unset, .unset] [(.double v6_32), (.int (2 : Int32))]))
    refine own_back ?_ (fun t k => XS.dload X0.here hx rfl (hb hby at_71) rfl k)
    show own_Go p e below PO (s₁.setTop (mkF m 73 #[.val (.int pA), .val (.int pB), .val (.int pC), .val (.int pD), .val (.int v4_1), .val (.int (2 : Int32)), .val (.double v6_32), .second, .val (.double v8_33), .second, .val (.double v10_34), .second, .val (.double v12_35), .second, .unset, .unset, .unset, .unset] [(.double v8_33), (.double v6_32), (.int (2 : Int32))]))
    obtain ⟨_, _, ⟨T36, L36, k36, n36⟩, -, X36, ⟨Lc36, hQ36, l36, y36, z36⟩, st36⟩ := Jvm.LawKit.callS X0 hx (y := (⟨"com/example/overcap/overcap/model/MortalityTableGetLastAgePinLaw", "rates", "(IDD)[D"⟩ : MethodName)) hown (mvT hZ (hw _ (List.mem_of_getElem? (i := 3) rfl))) (mvT hZ (hw _ (List.mem_of_getElem? (i := 4) rfl))) (mvT hZ (hw _ (List.mem_of_getElem? (i := 5) rfl))) (mvT hZ (hw _ (List.mem_of_getElem? (i := 6) rfl))) (by decide) (backOf (W := 0) (rmR_2 l Z a0 hw [] v6_32 v8_33  h0 n0 Z0 ) hZ (hw _ (List.mem_of_getElem? (i := 6) rfl)) (hw _ (List.mem_of_getElem? (i := 5) rfl)) (by decide) (by decide)) (g := (mkF m 73 #[.val (.int pA), .val (.int pB), .val (.int pC), .val (.int pD), .val (.int v4_1), .val (.int (2 : Int32)), .val (.double v6_32), .second, .val (.double v8_33), .second, .val (.double v10_34), .second, .val (.double v12_35), .second, .unset, .unset, .unset, .unset] [(.double v8_33), (.double v6_32), (.int (2 : Int32))])) rfl (by rw [hml]; rfl) (argsL := [(.int (2 : Int32)), (.double v6_32), (.double v8_33)]) (rest := []) (lenOf pd_6 rfl) rfl (by show 2 * 0 + _ ≤ _; exact Nat.le_of_eq rfl) (hb hby at_73) (fun _ _ => ⟨rfl, e0, (by decide : 0 + 1 ≤ _), (by decide : 0 + 2 ≤ _)⟩)
    dsimp only [Pt.U, Pt.locs, Pt.cells, Pt.slots] at X36 l36 y36 z36 st36 hQ36
    subst l36 y36 z36
    obtain ⟨aQ36, kQ36, rfl, N36q, Kc36, sz36, EQ36, VQ36⟩ := hQ36
    have N36 := Fr.app N0 N36q
    have sz_aQ36 : h0.size ≤ aQ36 := sz36
    have gn_aQ36 : n0 ≤ aQ36 := Nat.le_trans Z0 sz_aQ36
    have K36 : Keep h0 T36.heap [] := (Keep.refl h0 []).trans Kc36 all0
    have Zh36 : n0 ≤ T36.heap.size := Nat.le_trans Z0 K36.1
    refine own_back ?_ st36
    show own_Go p e below PO (T36.setTop (mkF m 76 #[.val (.int pA), .val (.int pB), .val (.int pC), .val (.int pD), .val (.int v4_1), .val (.int (2 : Int32)), .val (.double v6_32), .second, .val (.double v8_33), .second, .val (.double v10_34), .second, .val (.double v12_35), .second, .unset, .unset, .unset, .unset] [(.ref aQ36)]))
    refine own_back ?_ (fun t k => XS.astore X36.here hx rfl (hb hby at_76) rfl rfl (l' := #[.val (.int pA), .val (.int pB), .val (.int pC), .val (.int pD), .val (.int v4_1), .val (.int (2 : Int32)), .val (.double v6_32), .second, .val (.double v8_33), .second, .val (.double v10_34), .second, .val (.double v12_35), .second, .val (.ref aQ36), .unset, .unset, .unset]) rfl k)
    show own_Go p e below PO (T36.setTop (mkF m 78 #[.val (.int pA), .val (.int pB), .val (.int pC), .val (.int pD), .val (.int v4_1), .val (.int (2 : Int32)), .val (.double v6_32), .second, .val (.double v8_33), .second, .val (.double v10_34), .second, .val (.double v12_35), .second, .val (.ref aQ36), .unset, .unset, .unset] []))
    refine own_back ?_ (fun t k => XS.iload X36.here hx rfl (hb hby at_78) rfl k)
    show own_Go p e below PO (T36.setTop (mkF m 80 #[.val (.int pA), .val (.int pB), .val (.int pC), .val (.int pD), .val (.int v4_1), .val (.int (2 : Int32)), .val (.double v6_32), .second, .val (.double v8_33), .second, .val (.double v10_34), .second, .val (.double v12_35), .second, .val (.ref aQ36), .unset, .unset, .unset] [(.int (2 : Int32))]))
    refine own_back ?_ (fun t k => XS.dload X36.here hx rfl (hb hby at_80) rfl k)
    show own_Go p e below PO (T36.setTop (mkF m 82 #[.val (.int pA), .val (.int pB), .val (.int pC), .val (.int pD), .val (.int v4_1), .val (.int (2 : Int32)), .val (.double v6_32), .second, .val (.double v8_33), .second, .val (.double v10_34), .second, .val (.double v12_35), .second, .val (.ref aQ36), .unset, .unset, .unset] [(.double v10_34), (.int (2 : Int32))]))
    refine own_back ?_ (fun t k => XS.dload X36.here hx rfl (hb hby at_82) rfl k)
    show own_Go p e below PO (T36.setTop (mkF m 84 #[.val (.int pA), .val (.int pB), .val (.int pC), .val (.int pD), .val (.int v4_1), .val (.int (2 : Int32)), .val (.double v6_32), .second, .val (.double v8_33), .second, .val (.double v10_34), .second, .val (.double v12_35), .second, .val (.ref aQ36), .unset, .unset, .unset] [(.double v12_35), (.double v10_34), (.int (2 : Int32))]))
    obtain ⟨_, _, ⟨T37, L37, k37, n37⟩, -, X37, ⟨Lc37, hQ37, l37, y37, z37⟩, st37⟩ := Jvm.LawKit.callS X36 hx (y := (⟨"com/example/overcap/overcap/model/MortalityTableGetLastAgePinLaw", "rates", "(IDD)[D"⟩ : MethodName)) hown (mvT hZ (hw _ (List.mem_of_getElem? (i := 3) rfl))) (mvT hZ (hw _ (List.mem_of_getElem? (i := 4) rfl))) (mvT hZ (hw _ (List.mem_of_getElem? (i := 5) rfl))) (mvT hZ (hw _ (List.mem_of_getElem? (i := 6) rfl))) (by decide) (backOf (W := 0) (rmR_2 l Z a0 hw [] v10_34 v12_35  T36.heap n0 Zh36 ) hZ (hw _ (List.mem_of_getElem? (i := 6) rfl)) (hw _ (List.mem_of_getElem? (i := 5) rfl)) (by decide) (by decide)) (g := (mkF m 84 #[.val (.int pA), .val (.int pB), .val (.int pC), .val (.int pD), .val (.int v4_1), .val (.int (2 : Int32)), .val (.double v6_32), .second, .val (.double v8_33), .second, .val (.double v10_34), .second, .val (.double v12_35), .second, .val (.ref aQ36), .unset, .unset, .unset] [(.double v12_35), (.double v10_34), (.int (2 : Int32))])) rfl (by rw [hml]; rfl) (argsL := [(.int (2 : Int32)), (.double v10_34), (.double v12_35)]) (rest := []) (lenOf pd_6 rfl) rfl (by show 2 * 0 + _ ≤ _; exact Nat.le_of_eq rfl) (hb hby at_84) (fun _ _ => ⟨rfl, rfl, (by decide : 1 + 1 ≤ _), (by decide : 2 + 2 ≤ _)⟩)
    dsimp only [Pt.U, Pt.locs, Pt.cells, Pt.slots] at X37 l37 y37 z37 st37 hQ37
    subst l37 y37 z37
    obtain ⟨aQ37, kQ37, rfl, N37q, Kc37, sz37, EQ37, VQ37⟩ := hQ37
    have N37 := Fr.app N36 N37q
    have ne_aQ36_aQ37 : aQ36 ≠ aQ37 := Nat.ne_of_lt (Nat.lt_of_lt_of_le EQ36.lt sz37)
    have sz_aQ37 : h0.size ≤ aQ37 := Nat.le_trans K36.1 sz37
    have gn_aQ37 : n0 ≤ aQ37 := Nat.le_trans Z0 sz_aQ37
    have f37_38 := EQ36.keep Kc37
    have f37_39 := VQ36.keep Kc37 nin0
    have K37 : Keep h0 T37.heap [] := (K36).trans Kc37 all0
    have Zh37 : n0 ≤ T37.heap.size := Nat.le_trans Z0 K37.1
    refine own_back ?_ st37
    show own_Go p e below PO (T37.setTop (mkF m 87 #[.val (.int pA), .val (.int pB), .val (.int pC), .val (.int pD), .val (.int v4_1), .val (.int (2 : Int32)), .val (.double v6_32), .second, .val (.double v8_33), .second, .val (.double v10_34), .second, .val (.double v12_35), .second, .val (.ref aQ36), .unset, .unset, .unset] [(.ref aQ37)]))
    refine own_back ?_ (fun t k => XS.astore X37.here hx rfl (hb hby at_87) rfl rfl (l' := #[.val (.int pA), .val (.int pB), .val (.int pC), .val (.int pD), .val (.int v4_1), .val (.int (2 : Int32)), .val (.double v6_32), .second, .val (.double v8_33), .second, .val (.double v10_34), .second, .val (.double v12_35), .second, .val (.ref aQ36), .val (.ref aQ37), .unset, .unset]) rfl k)
    show own_Go p e below PO (T37.setTop (mkF m 89 #[.val (.int pA), .val (.int pB), .val (.int pC), .val (.int pD), .val (.int v4_1), .val (.int (2 : Int32)), .val (.double v6_32), .second, .val (.double v8_33), .second, .val (.double v10_34), .second, .val (.double v12_35), .second, .val (.ref aQ36), .val (.ref aQ37), .unset, .unset] []))
    obtain ⟨T40, h40, X40, e40, E40, A40, D40, -, st40⟩ := newO X37 hx hZ hown (hw _ (List.mem_of_getElem? (i := 8) rfl)) (hw _ (List.mem_of_getElem? (i := 9) rfl)) (hw _ (List.mem_of_getElem? (i := 10) rfl)) rfl (g := (mkF m 89 #[.val (.int pA), .val (.int pB), .val (.int pC), .val (.int pD), .val (.int v4_1), .val (.int (2 : Int32)), .val (.double v6_32), .second, .val (.double v8_33), .second, .val (.double v10_34), .second, .val (.double v12_35), .second, .val (.ref aQ36), .val (.ref aQ37), .unset, .unset] [])) rfl (hb hby at_89) (by decide) (by decide)
    obtain ⟨b40, g40⟩ : ∃ z, z = T37.heap.size := ⟨_, rfl⟩
    rw [← g40] at A40 D40 st40
    have ne_aQ36_b40 : aQ36 ≠ b40 := Nat.ne_of_lt (Nat.lt_of_lt_of_le f37_38.lt (Nat.le_of_eq g40.symm))
    have ne_aQ37_b40 : aQ37 ≠ b40 := Nat.ne_of_lt (Nat.lt_of_lt_of_le EQ37.lt (Nat.le_of_eq g40.symm))
    have sz_b40 : h0.size ≤ b40 := Nat.le_trans K37.1 (Nat.le_of_eq g40.symm)
    have gn_b40 : n0 ≤ b40 := Nat.le_trans Z0 sz_b40
    have f40_41 := f37_38.ext E40
    have f40_42 := f37_39.ext E40
    have f40_43 := EQ37.ext E40
    have f40_44 := VQ37.ext E40
    have K40 : Keep h0 h40 [] := (K37).ext E40
    have Zh40 : n0 ≤ h40.size := Nat.le_trans Z0 K40.1
    have F40_firstAge : Fld Z h40 b40 "com/example/overcap/overcap/model/MortalityTable" "firstAge" "I" (.int (0 : Int32)) := D40 (Or.inr (hw _ (List.mem_of_getElem? (i := 21) rfl))) (ty := .int) (by decide)
    have F40_maleQx : Fld Z h40 b40 "com/example/overcap/overcap/model/MortalityTable" "maleQx" "[D" .null := D40 (Or.inr (hw _ (List.mem_of_getElem? (i := 32) rfl))) (ty := (.array .double)) (by decide)
    have F40_femaleQx : Fld Z h40 b40 "com/example/overcap/overcap/model/MortalityTable" "femaleQx" "[D" .null := D40 (Or.inr (hw _ (List.mem_of_getElem? (i := 34) rfl))) (ty := (.array .double)) (by decide)
    refine own_back ?_ st40
    show own_Go p e below PO (T40.setTop (mkF m 92 #[.val (.int pA), .val (.int pB), .val (.int pC), .val (.int pD), .val (.int v4_1), .val (.int (2 : Int32)), .val (.double v6_32), .second, .val (.double v8_33), .second, .val (.double v10_34), .second, .val (.double v12_35), .second, .val (.ref aQ36), .val (.ref aQ37), .unset, .unset] [(.ref b40)]))
    refine own_back ?_ (fun t k => XS.dup X40.here hx rfl (hb hby at_92) rfl rfl k)
    show own_Go p e below PO (T40.setTop (mkF m 93 #[.val (.int pA), .val (.int pB), .val (.int pC), .val (.int pD), .val (.int v4_1), .val (.int (2 : Int32)), .val (.double v6_32), .second, .val (.double v8_33), .second, .val (.double v10_34), .second, .val (.double v12_35), .second, .val (.ref aQ36), .val (.ref aQ37), .unset, .unset] [(.ref b40), (.ref b40)]))
    refine own_back ?_ (fun t k => XS.iload X40.here hx rfl (hb hby at_93) rfl k)
    show own_Go p e below PO (T40.setTop (mkF m 95 #[.val (.int pA), .val (.int pB), .val (.int pC), .val (.int pD), .val (.int v4_1), .val (.int (2 : Int32)), .val (.double v6_32), .second, .val (.double v8_33), .second, .val (.double v10_34), .second, .val (.double v12_35), .second, .val (.ref aQ36), .val (.ref aQ37), .unset, .unset] [(.int v4_1), (.ref b40), (.ref b40)]))
    refine own_back ?_ (fun t k => XS.aload X40.here hx rfl (hb hby at_95) rfl rfl k)
    show own_Go p e below PO (T40.setTop (mkF m 97 #[.val (.int pA), .val (.int pB), .val (.int pC), .val (.int pD), .val (.int v4_1), .val (.int (2 : Int32)), .val (.double v6_32), .second, .val (.double v8_33), .second, .val (.double v10_34), .second, .val (.double v12_35), .second, .val (.ref aQ36), .val (.ref aQ37), .unset, .unset] [(.ref aQ36), (.int v4_1), (.ref b40), (.ref b40)]))
    refine own_back ?_ (fun t k => XS.aload X40.here hx rfl (hb hby at_97) rfl rfl k)
    show own_Go p e below PO (T40.setTop (mkF m 99 #[.val (.int pA), .val (.int pB), .val (.int pC), .val (.int pD), .val (.int v4_1), .val (.int (2 : Int32)), .val (.double v6_32), .second, .val (.double v8_33), .second, .val (.double v10_34), .second, .val (.double v12_35), .second, .val (.ref aQ36), .val (.ref aQ37), .unset, .unset] [(.ref aQ37), (.ref aQ36), (.int v4_1), (.ref b40), (.ref b40)]))
    obtain ⟨_, _, ⟨T45, L45, k45, n45⟩, -, X45, hSn45, hgr45, ⟨Lc45, hQ45, l45, y45, z45⟩, st45⟩ := X40.specialBackS hx (y := (⟨"com/example/overcap/overcap/model/MortalityTable", "<init>", "(I[D[D)V"⟩ : MethodName)) rfl hown (mvT hZ (hw _ (List.mem_of_getElem? (i := 11) rfl))) (mvT hZ (hw _ (List.mem_of_getElem? (i := 12) rfl))) (mvT hZ (hw _ (List.mem_of_getElem? (i := 13) rfl))) (by decide) (backOfS (W := 1) (rmI_2 l Z a0 hw [] b40 v4_1 aQ36 aQ37 kQ36 kQ37 v8_33 v12_35 h40 n0 Zh40 A40 F40_firstAge F40_maleQx F40_femaleQx f40_41 f40_42 f40_43 f40_44 ne_aQ36_b40 ne_aQ37_b40 gn_b40 (own_f0 hf) (own_okq hq8) (own_okq hq12)) hZ (hw _ (List.mem_of_getElem? (i := 13) rfl)) (hw _ (List.mem_of_getElem? (i := 10) rfl)) (by decide) (by decide)) (g := (mkF m 99 #[.val (.int pA), .val (.int pB), .val (.int pC), .val (.int pD), .val (.int v4_1), .val (.int (2 : Int32)), .val (.double v6_32), .second, .val (.double v8_33), .second, .val (.double v10_34), .second, .val (.double v12_35), .second, .val (.ref aQ36), .val (.ref aQ37), .unset, .unset] [(.ref aQ37), (.ref aQ36), (.int v4_1), (.ref b40), (.ref b40)])) rfl (by rw [hml]; rfl) (Steps.refl _) (a := b40) (argsL := [(.int v4_1), (.ref aQ36), (.ref aQ37)]) (rest := [(.ref b40)]) (lenOf pd_7 rfl) rfl (by show 2 * 0 + _ ≤ _; exact Nat.le_of_eq rfl) (hb hby at_99) (fun _ _ => ⟨rfl, e40, (by decide : 3 + 14 ≤ _), (by decide : 7 + 148 ≤ _)⟩)
    dsimp only [Pt.U, Pt.locs, Pt.cells, Pt.slots] at X45 l45 y45 z45 st45 hQ45
    subst l45 y45 z45
    replace X45 : Stand p l e room_1 (s.setVm T45.vm) m #[(.int pA), (.int pB), (.int pC), (.int pD)] below meth c T45 _ _ _ := X45
    have hS45 : s.Since T45.vm T45.heap.size := foldS (s := s) (vm0 := s.vm) (T := T40) hS0 (by rw [e40]; exact (Nat.zero_le _)) hSn45 hgr45
    have hZ : Z.Warmed39 (s.setVm T45.vm).vm := State.Warmed39.trans (t := s.setVm s.vm) hZ hSn45.1
    have hown : (s.setVm T45.vm).vm.findClass "com/example/overcap/overcap/model/MortalityTableGetLastAgePinLaw" = some m.cls := by rw [show (s.setVm T45.vm).vm = T45.vm from rfl, hSn45.1.alike.findClass]; exact hown
    obtain ⟨rfl, N45q, Kc45, FA45, aM, aF, szM, szF, FM45, FF45, VM45, VF45⟩ := hQ45
    have N45 := Fr.app N37 N45q
    have ne_aQ36_aM : aQ36 ≠ aM := Nat.ne_of_lt (Nat.lt_of_lt_of_le f40_41.lt szM)
    have ne_aQ37_aM : aQ37 ≠ aM := Nat.ne_of_lt (Nat.lt_of_lt_of_le f40_43.lt szM)
    have ne_b40_aM : b40 ≠ aM := Nat.ne_of_lt (Nat.lt_of_lt_of_le A40.lt szM)
    have sz_aM : h0.size ≤ aM := Nat.le_trans K40.1 szM
    have gn_aM : n0 ≤ aM := Nat.le_trans Z0 sz_aM
    have ne_aQ36_aF : aQ36 ≠ aF := Nat.ne_of_lt (Nat.lt_of_lt_of_le f40_41.lt szF)
    have ne_aQ37_aF : aQ37 ≠ aF := Nat.ne_of_lt (Nat.lt_of_lt_of_le f40_43.lt szF)
    have ne_b40_aF : b40 ≠ aF := Nat.ne_of_lt (Nat.lt_of_lt_of_le A40.lt szF)
    have sz_aF : h0.size ≤ aF := Nat.le_trans K40.1 szF
    have gn_aF : n0 ≤ aF := Nat.le_trans Z0 sz_aF
    have f45_46 := f40_41.keep Kc45
    have f45_47 := f40_42.keep Kc45 (ninS ne_aQ36_b40 nin0)
    have f45_48 := f40_43.keep Kc45
    have f45_49 := f40_44.keep Kc45 (ninS ne_aQ37_b40 nin0)
    have f45_50 := A40.keep Kc45
    have K45 : Keep h0 T45.heap [] := (K40).trans Kc45 (allS (Or.inr sz_b40) all0)
    have Zh45 : n0 ≤ T45.heap.size := Nat.le_trans Z0 K45.1
    refine own_back ?_ (fun t k => st45.trans k)
    show own_Go p e below PO (T45.setTop (mkF m 102 #[.val (.int pA), .val (.int pB), .val (.int pC), .val (.int pD), .val (.int v4_1), .val (.int (2 : Int32)), .val (.double v6_32), .second, .val (.double v8_33), .second, .val (.double v10_34), .second, .val (.double v12_35), .second, .val (.ref aQ36), .val (.ref aQ37), .unset, .unset] [(.ref b40)]))
    refine own_back ?_ (fun t k => XS.astore X45.here hx rfl (hb hby at_102) rfl rfl (l' := #[.val (.int pA), .val (.int pB), .val (.int pC), .val (.int pD), .val (.int v4_1), .val (.int (2 : Int32)), .val (.double v6_32), .second, .val (.double v8_33), .second, .val (.double v10_34), .second, .val (.double v12_35), .second, .val (.ref aQ36), .val (.ref aQ37), .val (.ref b40), .unset]) rfl k)
    show own_Go p e below PO (T45.setTop (mkF m 104 #[.val (.int pA), .val (.int pB), .val (.int pC), .val (.int pD), .val (.int v4_1), .val (.int (2 : Int32)), .val (.double v6_32), .second, .val (.double v8_33), .second, .val (.double v10_34), .second, .val (.double v12_35), .second, .val (.ref aQ36), .val (.ref aQ37), .val (.ref b40), .unset] []))
    refine own_back ?_ (fun t k => XS.aload X45.here hx rfl (hb hby at_104) rfl rfl k)
    show own_Go p e below PO (T45.setTop (mkF m 106 #[.val (.int pA), .val (.int pB), .val (.int pC), .val (.int pD), .val (.int v4_1), .val (.int (2 : Int32)), .val (.double v6_32), .second, .val (.double v8_33), .second, .val (.double v10_34), .second, .val (.double v12_35), .second, .val (.ref aQ36), .val (.ref aQ37), .val (.ref b40), .unset] [(.ref b40)]))
    obtain ⟨cq51, kq51, q51a, q51b, q51c⟩ := isOf hZ rfl f45_50
    obtain ⟨_, _, ⟨T51, L51, k51, n51⟩, -, X51, ⟨Lc51, hQ51, l51, y51, z51⟩, st51⟩ := X45.virtualBack hx (y := (⟨"com/example/overcap/overcap/model/MortalityTable", "getLastAge", "()I"⟩ : MethodName)) (z := (⟨"com/example/overcap/overcap/model/MortalityTable", "getLastAge", "()I"⟩ : MethodName)) hown (mvT hZ (hw _ (List.mem_of_getElem? (i := 57) rfl))) (mvT hZ (hw _ (List.mem_of_getElem? (i := 58) rfl))) (notFace_of_selects (args := #[]) (mvT hZ (hw _ (List.mem_of_getElem? (i := 60) rfl)))) (mvT hZ (hw _ (List.mem_of_getElem? (i := 60) rfl))) (mvT hZ (hw _ (List.mem_of_getElem? (i := 59) rfl))) (by decide) (backOf (W := 0) (rmLA_2 l Z a0 hw [] b40 v4_1 aM aF kQ36 kQ37 v8_33 v12_35 T45.heap n0 Zh45 f45_50 FA45 FM45 FF45 VM45 VF45) hZ (hw _ (List.mem_of_getElem? (i := 61) rfl)) (hw _ (List.mem_of_getElem? (i := 10) rfl)) (by decide) (by decide)) q51a q51c (g := (mkF m 106 #[.val (.int pA), .val (.int pB), .val (.int pC), .val (.int pD), .val (.int v4_1), .val (.int (2 : Int32)), .val (.double v6_32), .second, .val (.double v8_33), .second, .val (.double v10_34), .second, .val (.double v12_35), .second, .val (.ref aQ36), .val (.ref aQ37), .val (.ref b40), .unset] [(.ref b40)])) rfl (by rw [hml]; rfl) (Steps.refl _) (argsL := []) (rest := []) (lenOf pd_5 rfl) rfl (by show 2 * 0 + _ ≤ _; exact Nat.le_of_eq rfl) (hb hby at_106) (fun _ _ => ⟨rfl, rfl, (by decide : 17 + 0 ≤ _), (by decide : 155 + 0 ≤ _)⟩)
    dsimp only [Pt.U, Pt.locs, Pt.cells, Pt.slots] at X51 l51 y51 z51 st51 hQ51
    subst l51 y51 z51
    obtain ⟨rfl, N51q, e51⟩ := hQ51
    have N51 := Fr.app N45 N51q
    refine own_back ?_ (fun t k => st51.trans k)
    show own_Go p e below PO (T51.setTop (mkF m 109 #[.val (.int pA), .val (.int pB), .val (.int pC), .val (.int pD), .val (.int v4_1), .val (.int (2 : Int32)), .val (.double v6_32), .second, .val (.double v8_33), .second, .val (.double v10_34), .second, .val (.double v12_35), .second, .val (.ref aQ36), .val (.ref aQ37), .val (.ref b40), .unset] [(.int ((v4_1 + (2 : Int32)) - (1 : Int32)))]))
    refine own_back ?_ (fun t k => XS.istore X51.here hx rfl (hb hby at_109) rfl (l' := #[.val (.int pA), .val (.int pB), .val (.int pC), .val (.int pD), .val (.int v4_1), .val (.int (2 : Int32)), .val (.double v6_32), .second, .val (.double v8_33), .second, .val (.double v10_34), .second, .val (.double v12_35), .second, .val (.ref aQ36), .val (.ref aQ37), .val (.ref b40), .val (.int ((v4_1 + (2 : Int32)) - (1 : Int32)))]) rfl k)
    show own_Go p e below PO (T51.setTop (mkF m 111 #[.val (.int pA), .val (.int pB), .val (.int pC), .val (.int pD), .val (.int v4_1), .val (.int (2 : Int32)), .val (.double v6_32), .second, .val (.double v8_33), .second, .val (.double v10_34), .second, .val (.double v12_35), .second, .val (.ref aQ36), .val (.ref aQ37), .val (.ref b40), .val (.int ((v4_1 + (2 : Int32)) - (1 : Int32)))] []))
    refine own_gen (A := Int32) ((v4_1 + (2 : Int32)) - (1 : Int32)) (fun v17_52 => own_Go p e below PO (T51.setTop (mkF m 111 #[.val (.int pA), .val (.int pB), .val (.int pC), .val (.int pD), .val (.int v4_1), .val (.int (2 : Int32)), .val (.double v6_32), .second, .val (.double v8_33), .second, .val (.double v10_34), .second, .val (.double v12_35), .second, .val (.ref aQ36), .val (.ref aQ37), .val (.ref b40), .val (.int v17_52)] []))) ?_
    intro v17_52 h_v17_52
    show own_Go p e below PO (T51.setTop (mkF m 111 #[.val (.int pA), .val (.int pB), .val (.int pC), .val (.int pD), .val (.int v4_1), .val (.int (2 : Int32)), .val (.double v6_32), .second, .val (.double v8_33), .second, .val (.double v10_34), .second, .val (.double v12_35), .second, .val (.ref aQ36), .val (.ref aQ37), .val (.ref b40), .val (.int v17_52)] []))
    refine own_back ?_ (fun t k => XS.iload X51.here hx rfl (hb hby at_111) rfl k)
    show own_Go p e below PO (T51.setTop (mkF m 113 #[.val (.int pA), .val (.int pB), .val (.int pC), .val (.int pD), .val (.int v4_1), .val (.int (2 : Int32)), .val (.double v6_32), .second, .val (.double v8_33), .second, .val (.double v10_34), .second, .val (.double v12_35), .second, .val (.ref aQ36), .val (.ref aQ37), .val (.ref b40), .val (.int v17_52)] [(.int v17_52)]))
    refine own_back ?_ (fun t k => XS.iload X51.here hx rfl (hb hby at_113) rfl k)
    show own_Go p e below PO (T51.setTop (mkF m 115 #[.val (.int pA), .val (.int pB), .val (.int pC), .val (.int pD), .val (.int v4_1), .val (.int (2 : Int32)), .val (.double v6_32), .second, .val (.double v8_33), .second, .val (.double v10_34), .second, .val (.double v12_35), .second, .val (.ref aQ36), .val (.ref aQ37), .val (.ref b40), .val (.int v17_52)] [(.int v4_1), (.int v17_52)]))
    refine own_back ?_ (fun t k => XS.iload X51.here hx rfl (hb hby at_115) rfl k)
    show own_Go p e below PO (T51.setTop (mkF m 117 #[.val (.int pA), .val (.int pB), .val (.int pC), .val (.int pD), .val (.int v4_1), .val (.int (2 : Int32)), .val (.double v6_32), .second, .val (.double v8_33), .second, .val (.double v10_34), .second, .val (.double v12_35), .second, .val (.ref aQ36), .val (.ref aQ37), .val (.ref b40), .val (.int v17_52)] [(.int (2 : Int32)), (.int v4_1), (.int v17_52)]))
    refine own_back ?_ (fun t k => XS.iadd X51.here hx rfl (hb hby at_117) rfl k)
    show own_Go p e below PO (T51.setTop (mkF m 118 #[.val (.int pA), .val (.int pB), .val (.int pC), .val (.int pD), .val (.int v4_1), .val (.int (2 : Int32)), .val (.double v6_32), .second, .val (.double v8_33), .second, .val (.double v10_34), .second, .val (.double v12_35), .second, .val (.ref aQ36), .val (.ref aQ37), .val (.ref b40), .val (.int v17_52)] [(.int (v4_1 + (2 : Int32))), (.int v17_52)]))
    refine own_back ?_ (fun t k => XS.iconst X51.here hx rfl (hb hby at_118) k)
    show own_Go p e below PO (T51.setTop (mkF m 119 #[.val (.int pA), .val (.int pB), .val (.int pC), .val (.int pD), .val (.int v4_1), .val (.int (2 : Int32)), .val (.double v6_32), .second, .val (.double v8_33), .second, .val (.double v10_34), .second, .val (.double v12_35), .second, .val (.ref aQ36), .val (.ref aQ37), .val (.ref b40), .val (.int v17_52)] [(.int (1 : Int32)), (.int (v4_1 + (2 : Int32))), (.int v17_52)]))
    refine own_back ?_ (fun t k => XS.isub X51.here hx rfl (hb hby at_119) rfl k)
    show own_Go p e below PO (T51.setTop (mkF m 120 #[.val (.int pA), .val (.int pB), .val (.int pC), .val (.int pD), .val (.int v4_1), .val (.int (2 : Int32)), .val (.double v6_32), .second, .val (.double v8_33), .second, .val (.double v10_34), .second, .val (.double v12_35), .second, .val (.ref aQ36), .val (.ref aQ37), .val (.ref b40), .val (.int v17_52)] [(.int ((v4_1 + (2 : Int32)) - (1 : Int32))), (.int v17_52)]))
    refine own_back ?_ (fun t k => XS.icmpYes X51.here hx rfl (pc0 := 120) (pc' := 125) rfl (hb hby at_120) rfl (teq h_v17_52).1 (by decide) (by decide) k)
    show own_Go p e below PO (T51.setTop (mkF m 125 #[.val (.int pA), .val (.int pB), .val (.int pC), .val (.int pD), .val (.int v4_1), .val (.int (2 : Int32)), .val (.double v6_32), .second, .val (.double v8_33), .second, .val (.double v10_34), .second, .val (.double v12_35), .second, .val (.ref aQ36), .val (.ref aQ37), .val (.ref b40), .val (.int v17_52)] []))
    refine own_back ?_ (fun t k => XS.aload X51.here hx rfl (hb hby at_125) rfl rfl k)
    show own_Go p e below PO (T51.setTop (mkF m 127 #[.val (.int pA), .val (.int pB), .val (.int pC), .val (.int pD), .val (.int v4_1), .val (.int (2 : Int32)), .val (.double v6_32), .second, .val (.double v8_33), .second, .val (.double v10_34), .second, .val (.double v12_35), .second, .val (.ref aQ36), .val (.ref aQ37), .val (.ref b40), .val (.int v17_52)] [(.ref b40)]))
    obtain ⟨cq53, kq53, q53a, q53b, q53c⟩ := isOf hZ e51 f45_50
    obtain ⟨_, _, ⟨T53, L53, k53, n53⟩, -, X53, ⟨Lc53, hQ53, l53, y53, z53⟩, st53⟩ := X51.virtualBack hx (y := (⟨"com/example/overcap/overcap/model/MortalityTable", "getFirstAge", "()I"⟩ : MethodName)) (z := (⟨"com/example/overcap/overcap/model/MortalityTable", "getFirstAge", "()I"⟩ : MethodName)) hown (mvT hZ (hw _ (List.mem_of_getElem? (i := 62) rfl))) (mvT hZ (hw _ (List.mem_of_getElem? (i := 63) rfl))) (notFace_of_selects (args := #[]) (mvT hZ (hw _ (List.mem_of_getElem? (i := 65) rfl)))) (mvT hZ (hw _ (List.mem_of_getElem? (i := 65) rfl))) (mvT hZ (hw _ (List.mem_of_getElem? (i := 64) rfl))) (by decide) (backOf (W := 0) (rmFA l Z a0 hw [] b40 v4_1 T45.heap n0 Zh45 FA45) hZ (hw _ (List.mem_of_getElem? (i := 66) rfl)) (hw _ (List.mem_of_getElem? (i := 10) rfl)) (by decide) (by decide)) q53a q53c (g := (mkF m 127 #[.val (.int pA), .val (.int pB), .val (.int pC), .val (.int pD), .val (.int v4_1), .val (.int (2 : Int32)), .val (.double v6_32), .second, .val (.double v8_33), .second, .val (.double v10_34), .second, .val (.double v12_35), .second, .val (.ref aQ36), .val (.ref aQ37), .val (.ref b40), .val (.int v17_52)] [(.ref b40)])) rfl (by rw [hml]; rfl) (Steps.refl _) (argsL := []) (rest := []) (lenOf pd_5 rfl) rfl (by show 2 * 0 + _ ≤ _; exact Nat.le_of_eq rfl) (hb hby at_127) (fun _ _ => ⟨rfl, e51, (by decide : 17 + 0 ≤ _), (by decide : 155 + 0 ≤ _)⟩)
    dsimp only [Pt.U, Pt.locs, Pt.cells, Pt.slots] at X53 l53 y53 z53 st53 hQ53
    subst l53 y53 z53
    obtain ⟨rfl, N53q, e53⟩ := hQ53
    have N53 := Fr.app N51 N53q
    refine own_back ?_ (fun t k => st53.trans k)
    show own_Go p e below PO (T53.setTop (mkF m 130 #[.val (.int pA), .val (.int pB), .val (.int pC), .val (.int pD), .val (.int v4_1), .val (.int (2 : Int32)), .val (.double v6_32), .second, .val (.double v8_33), .second, .val (.double v10_34), .second, .val (.double v12_35), .second, .val (.ref aQ36), .val (.ref aQ37), .val (.ref b40), .val (.int v17_52)] [(.int v4_1)]))
    refine own_back ?_ (fun t k => XS.iload X53.here hx rfl (hb hby at_130) rfl k)
    show own_Go p e below PO (T53.setTop (mkF m 132 #[.val (.int pA), .val (.int pB), .val (.int pC), .val (.int pD), .val (.int v4_1), .val (.int (2 : Int32)), .val (.double v6_32), .second, .val (.double v8_33), .second, .val (.double v10_34), .second, .val (.double v12_35), .second, .val (.ref aQ36), .val (.ref aQ37), .val (.ref b40), .val (.int v17_52)] [(.int v4_1), (.int v4_1)]))
    refine own_back ?_ (fun t k => XS.icmpNo X53.here hx rfl (hb hby at_132) rfl (teq rfl).2 k)
    show own_Go p e below PO (T53.setTop (mkF m 135 #[.val (.int pA), .val (.int pB), .val (.int pC), .val (.int pD), .val (.int v4_1), .val (.int (2 : Int32)), .val (.double v6_32), .second, .val (.double v8_33), .second, .val (.double v10_34), .second, .val (.double v12_35), .second, .val (.ref aQ36), .val (.ref aQ37), .val (.ref b40), .val (.int v17_52)] []))
    refine own_back ?_ (fun t k => XS.iload X53.here hx rfl (hb hby at_135) rfl k)
    show own_Go p e below PO (T53.setTop (mkF m 137 #[.val (.int pA), .val (.int pB), .val (.int pC), .val (.int pD), .val (.int v4_1), .val (.int (2 : Int32)), .val (.double v6_32), .second, .val (.double v8_33), .second, .val (.double v10_34), .second, .val (.double v12_35), .second, .val (.ref aQ36), .val (.ref aQ37), .val (.ref b40), .val (.int v17_52)] [(.int v17_52)]))
    refine own_back ?_ (fun t k => XS.iload X53.here hx rfl (hb hby at_137) rfl k)
    show own_Go p e below PO (T53.setTop (mkF m 139 #[.val (.int pA), .val (.int pB), .val (.int pC), .val (.int pD), .val (.int v4_1), .val (.int (2 : Int32)), .val (.double v6_32), .second, .val (.double v8_33), .second, .val (.double v10_34), .second, .val (.double v12_35), .second, .val (.ref aQ36), .val (.ref aQ37), .val (.ref b40), .val (.int v17_52)] [(.int v4_1), (.int v17_52)]))
    have hd139_54 : ¬ (v17_52 < v4_1) := by rw [h_v17_52]; exact own_lo hf (n := (2 : Int32)) (N := 2) (by decide) (by decide)
    refine own_back ?_ (fun t k => XS.icmpYes X53.here hx rfl (pc0 := 139) (pc' := 144) rfl (hb hby at_139) rfl (flt hd139_54).2.1 (by decide) (by decide) k)
    show own_Go p e below PO (T53.setTop (mkF m 144 #[.val (.int pA), .val (.int pB), .val (.int pC), .val (.int pD), .val (.int v4_1), .val (.int (2 : Int32)), .val (.double v6_32), .second, .val (.double v8_33), .second, .val (.double v10_34), .second, .val (.double v12_35), .second, .val (.ref aQ36), .val (.ref aQ37), .val (.ref b40), .val (.int v17_52)] []))
    refine own_back ?_ (fun t k => XS.aload X53.here hx rfl (hb hby at_144) rfl rfl k)
    show own_Go p e below PO (T53.setTop (mkF m 146 #[.val (.int pA), .val (.int pB), .val (.int pC), .val (.int pD), .val (.int v4_1), .val (.int (2 : Int32)), .val (.double v6_32), .second, .val (.double v8_33), .second, .val (.double v10_34), .second, .val (.double v12_35), .second, .val (.ref aQ36), .val (.ref aQ37), .val (.ref b40), .val (.int v17_52)] [(.ref b40)]))
    refine own_back ?_ (fun t k => XS.iload X53.here hx rfl (hb hby at_146) rfl k)
    show own_Go p e below PO (T53.setTop (mkF m 148 #[.val (.int pA), .val (.int pB), .val (.int pC), .val (.int pD), .val (.int v4_1), .val (.int (2 : Int32)), .val (.double v6_32), .second, .val (.double v8_33), .second, .val (.double v10_34), .second, .val (.double v12_35), .second, .val (.ref aQ36), .val (.ref aQ37), .val (.ref b40), .val (.int v17_52)] [(.int v17_52), (.ref b40)]))
    refine own_back ?_ (fun t k => XS.dconst1 X53.here hx rfl (v := (4607182418800017408 : UInt64)) (hb hby at_148) (by decide +kernel) k)
    show own_Go p e below PO (T53.setTop (mkF m 149 #[.val (.int pA), .val (.int pB), .val (.int pC), .val (.int pD), .val (.int v4_1), .val (.int (2 : Int32)), .val (.double v6_32), .second, .val (.double v8_33), .second, .val (.double v10_34), .second, .val (.double v12_35), .second, .val (.ref aQ36), .val (.ref aQ37), .val (.ref b40), .val (.int v17_52)] [(.double (4607182418800017408 : UInt64)), (.int v17_52), (.ref b40)]))
    obtain ⟨cq55, kq55, q55a, q55b, q55c⟩ := isOf hZ e53 f45_50
    obtain ⟨_, _, ⟨T55, L55, k55, n55⟩, -, X55, ⟨Lc55, hQ55, l55, y55, z55⟩, st55⟩ := X53.virtualBack hx (y := (⟨"com/example/overcap/overcap/model/MortalityTable", "getQx", "(ID)D"⟩ : MethodName)) (z := (⟨"com/example/overcap/overcap/model/MortalityTable", "getQx", "(ID)D"⟩ : MethodName)) hown (mvT hZ (hw _ (List.mem_of_getElem? (i := 67) rfl))) (mvT hZ (hw _ (List.mem_of_getElem? (i := 68) rfl))) (notFace_of_selects (args := #[]) (mvT hZ (hw _ (List.mem_of_getElem? (i := 70) rfl)))) (mvT hZ (hw _ (List.mem_of_getElem? (i := 70) rfl))) (mvT hZ (hw _ (List.mem_of_getElem? (i := 69) rfl))) (by decide) (backOf (W := 0) (rmQx_2_1 l Z a0 hw [] b40 v17_52 (4607182418800017408 : UInt64) v4_1 aM aF kQ36 kQ37 v8_33 v12_35 T45.heap n0 Zh45 f45_50 FA45 FM45 FF45 VM45 VF45 (by rw [h_v17_52]; exact own_lo hf (n := (2 : Int32)) (N := 2) (by decide) (by decide)) (by rw [h_v17_52]; exact Int32.lt_irrefl) (by rw [h_v17_52]; exact own_ix hf (n := (2 : Int32)) (N := 2) (by decide) (by decide) (by decide)) own_ok1 own_one1) hZ (hw _ (List.mem_of_getElem? (i := 71) rfl)) (hw _ (List.mem_of_getElem? (i := 10) rfl)) (by decide) (by decide)) q55a q55c (g := (mkF m 149 #[.val (.int pA), .val (.int pB), .val (.int pC), .val (.int pD), .val (.int v4_1), .val (.int (2 : Int32)), .val (.double v6_32), .second, .val (.double v8_33), .second, .val (.double v10_34), .second, .val (.double v12_35), .second, .val (.ref aQ36), .val (.ref aQ37), .val (.ref b40), .val (.int v17_52)] [(.double (4607182418800017408 : UInt64)), (.int v17_52), (.ref b40)])) rfl (by rw [hml]; rfl) (Steps.refl _) (argsL := [(.int v17_52), (.double (4607182418800017408 : UInt64))]) (rest := []) (lenOf pd_8 rfl) rfl (by show 2 * 0 + _ ≤ _; exact Nat.le_of_eq rfl) (hb hby at_149) (fun _ _ => ⟨rfl, e53, (by decide : 17 + 0 ≤ _), (by decide : 155 + 0 ≤ _)⟩)
    dsimp only [Pt.U, Pt.locs, Pt.cells, Pt.slots] at X55 l55 y55 z55 st55 hQ55
    subst l55 y55 z55
    obtain ⟨rfl, N55q, e55⟩ := hQ55
    have N55 := Fr.app N53 N55q
    refine own_back ?_ (fun t k => st55.trans k)
    show own_Go p e below PO (T55.setTop (mkF m 152 #[.val (.int pA), .val (.int pB), .val (.int pC), .val (.int pD), .val (.int v4_1), .val (.int (2 : Int32)), .val (.double v6_32), .second, .val (.double v8_33), .second, .val (.double v10_34), .second, .val (.double v12_35), .second, .val (.ref aQ36), .val (.ref aQ37), .val (.ref b40), .val (.int v17_52)] [(.double (own_mix (4607182418800017408 : UInt64) (4607182418800017408 : UInt64) (4607182418800017408 : UInt64)))]))
    refine own_gen (A := UInt64) (own_mix (4607182418800017408 : UInt64) (4607182418800017408 : UInt64) (4607182418800017408 : UInt64)) (fun r149_56 => own_Go p e below PO (T55.setTop (mkF m 152 #[.val (.int pA), .val (.int pB), .val (.int pC), .val (.int pD), .val (.int v4_1), .val (.int (2 : Int32)), .val (.double v6_32), .second, .val (.double v8_33), .second, .val (.double v10_34), .second, .val (.double v12_35), .second, .val (.ref aQ36), .val (.ref aQ37), .val (.ref b40), .val (.int v17_52)] [(.double r149_56)]))) ?_
    intro r149_56 h_r149_56
    show own_Go p e below PO (T55.setTop (mkF m 152 #[.val (.int pA), .val (.int pB), .val (.int pC), .val (.int pD), .val (.int v4_1), .val (.int (2 : Int32)), .val (.double v6_32), .second, .val (.double v8_33), .second, .val (.double v10_34), .second, .val (.double v12_35), .second, .val (.ref aQ36), .val (.ref aQ37), .val (.ref b40), .val (.int v17_52)] [(.double r149_56)]))
    refine own_back ?_ (fun t k => XS.dconst1 X55.here hx rfl (v := (4607182418800017408 : UInt64)) (hb hby at_152) (by decide +kernel) k)
    show own_Go p e below PO (T55.setTop (mkF m 153 #[.val (.int pA), .val (.int pB), .val (.int pC), .val (.int pD), .val (.int v4_1), .val (.int (2 : Int32)), .val (.double v6_32), .second, .val (.double v8_33), .second, .val (.double v10_34), .second, .val (.double v12_35), .second, .val (.ref aQ36), .val (.ref aQ37), .val (.ref b40), .val (.int v17_52)] [(.double (4607182418800017408 : UInt64)), (.double r149_56)]))
    refine own_back ?_ (fun t k => XS.dcmpS X55.here hx rfl (v := (0 : Int32)) (hb hby at_153) rfl (by rw [h_r149_56]; decide +kernel) k)
    show own_Go p e below PO (T55.setTop (mkF m 154 #[.val (.int pA), .val (.int pB), .val (.int pC), .val (.int pD), .val (.int v4_1), .val (.int (2 : Int32)), .val (.double v6_32), .second, .val (.double v8_33), .second, .val (.double v10_34), .second, .val (.double v12_35), .second, .val (.ref aQ36), .val (.ref aQ37), .val (.ref b40), .val (.int v17_52)] [(.int (0 : Int32))]))
    refine own_back ?_ (fun t k => XS.ifNo X55.here hx rfl (hb hby at_154) rfl ((if0 _ _).trans (teq rfl).2) k)
    show own_Go p e below PO (T55.setTop (mkF m 157 #[.val (.int pA), .val (.int pB), .val (.int pC), .val (.int pD), .val (.int v4_1), .val (.int (2 : Int32)), .val (.double v6_32), .second, .val (.double v8_33), .second, .val (.double v10_34), .second, .val (.double v12_35), .second, .val (.ref aQ36), .val (.ref aQ37), .val (.ref b40), .val (.int v17_52)] []))
    refine own_back ?_ (fun t k => XS.aload X55.here hx rfl (hb hby at_157) rfl rfl k)
    show own_Go p e below PO (T55.setTop (mkF m 159 #[.val (.int pA), .val (.int pB), .val (.int pC), .val (.int pD), .val (.int v4_1), .val (.int (2 : Int32)), .val (.double v6_32), .second, .val (.double v8_33), .second, .val (.double v10_34), .second, .val (.double v12_35), .second, .val (.ref aQ36), .val (.ref aQ37), .val (.ref b40), .val (.int v17_52)] [(.ref b40)]))
    refine own_back ?_ (fun t k => XS.iload X55.here hx rfl (hb hby at_159) rfl k)
    show own_Go p e below PO (T55.setTop (mkF m 161 #[.val (.int pA), .val (.int pB), .val (.int pC), .val (.int pD), .val (.int v4_1), .val (.int (2 : Int32)), .val (.double v6_32), .second, .val (.double v8_33), .second, .val (.double v10_34), .second, .val (.double v12_35), .second, .val (.ref aQ36), .val (.ref aQ37), .val (.ref b40), .val (.int v17_52)] [(.int v17_52), (.ref b40)]))
    refine own_back ?_ (fun t k => XS.dconst0 X55.here hx rfl (v := (0 : UInt64)) (hb hby at_161) (by decide +kernel) k)
    show own_Go p e below PO (T55.setTop (mkF m 162 #[.val (.int pA), .val (.int pB), .val (.int pC), .val (.int pD), .val (.int v4_1), .val (.int (2 : Int32)), .val (.double v6_32), .second, .val (.double v8_33), .second, .val (.double v10_34), .second, .val (.double v12_35), .second, .val (.ref aQ36), .val (.ref aQ37), .val (.ref b40), .val (.int v17_52)] [(.double (0 : UInt64)), (.int v17_52), (.ref b40)]))
    obtain ⟨cq57, kq57, q57a, q57b, q57c⟩ := isOf hZ e55 f45_50
    obtain ⟨_, _, ⟨T57, L57, k57, n57⟩, -, X57, ⟨Lc57, hQ57, l57, y57, z57⟩, st57⟩ := X55.virtualBack hx (y := (⟨"com/example/overcap/overcap/model/MortalityTable", "getQx", "(ID)D"⟩ : MethodName)) (z := (⟨"com/example/overcap/overcap/model/MortalityTable", "getQx", "(ID)D"⟩ : MethodName)) hown (mvT hZ (hw _ (List.mem_of_getElem? (i := 67) rfl))) (mvT hZ (hw _ (List.mem_of_getElem? (i := 68) rfl))) (notFace_of_selects (args := #[]) (mvT hZ (hw _ (List.mem_of_getElem? (i := 70) rfl)))) (mvT hZ (hw _ (List.mem_of_getElem? (i := 70) rfl))) (mvT hZ (hw _ (List.mem_of_getElem? (i := 69) rfl))) (by decide) (backOf (W := 0) (rmQx_2_1 l Z a0 hw [] b40 v17_52 (0 : UInt64) v4_1 aM aF kQ36 kQ37 v8_33 v12_35 T45.heap n0 Zh45 f45_50 FA45 FM45 FF45 VM45 VF45 (by rw [h_v17_52]; exact own_lo hf (n := (2 : Int32)) (N := 2) (by decide) (by decide)) (by rw [h_v17_52]; exact Int32.lt_irrefl) (by rw [h_v17_52]; exact own_ix hf (n := (2 : Int32)) (N := 2) (by decide) (by decide) (by decide)) own_ok0 own_one0) hZ (hw _ (List.mem_of_getElem? (i := 71) rfl)) (hw _ (List.mem_of_getElem? (i := 10) rfl)) (by decide) (by decide)) q57a q57c (g := (mkF m 162 #[.val (.int pA), .val (.int pB), .val (.int pC), .val (.int pD), .val (.int v4_1), .val (.int (2 : Int32)), .val (.double v6_32), .second, .val (.double v8_33), .second, .val (.double v10_34), .second, .val (.double v12_35), .second, .val (.ref aQ36), .val (.ref aQ37), .val (.ref b40), .val (.int v17_52)] [(.double (0 : UInt64)), (.int v17_52), (.ref b40)])) rfl (by rw [hml]; rfl) (Steps.refl _) (argsL := [(.int v17_52), (.double (0 : UInt64))]) (rest := []) (lenOf pd_8 rfl) rfl (by show 2 * 0 + _ ≤ _; exact Nat.le_of_eq rfl) (hb hby at_162) (fun _ _ => ⟨rfl, e55, (by decide : 17 + 0 ≤ _), (by decide : 155 + 0 ≤ _)⟩)
    dsimp only [Pt.U, Pt.locs, Pt.cells, Pt.slots] at X57 l57 y57 z57 st57 hQ57
    subst l57 y57 z57
    obtain ⟨rfl, N57q, e57⟩ := hQ57
    have N57 := Fr.app N55 N57q
    refine own_back ?_ (fun t k => st57.trans k)
    show own_Go p e below PO (T57.setTop (mkF m 165 #[.val (.int pA), .val (.int pB), .val (.int pC), .val (.int pD), .val (.int v4_1), .val (.int (2 : Int32)), .val (.double v6_32), .second, .val (.double v8_33), .second, .val (.double v10_34), .second, .val (.double v12_35), .second, .val (.ref aQ36), .val (.ref aQ37), .val (.ref b40), .val (.int v17_52)] [(.double (own_mix (0 : UInt64) (4607182418800017408 : UInt64) (4607182418800017408 : UInt64)))]))
    refine own_gen (A := UInt64) (own_mix (0 : UInt64) (4607182418800017408 : UInt64) (4607182418800017408 : UInt64)) (fun r162_58 => own_Go p e below PO (T57.setTop (mkF m 165 #[.val (.int pA), .val (.int pB), .val (.int pC), .val (.int pD), .val (.int v4_1), .val (.int (2 : Int32)), .val (.double v6_32), .second, .val (.double v8_33), .second, .val (.double v10_34), .second, .val (.double v12_35), .second, .val (.ref aQ36), .val (.ref aQ37), .val (.ref b40), .val (.int v17_52)] [(.double r162_58)]))) ?_
    intro r162_58 h_r162_58
    show own_Go p e below PO (T57.setTop (mkF m 165 #[.val (.int pA), .val (.int pB), .val (.int pC), .val (.int pD), .val (.int v4_1), .val (.int (2 : Int32)), .val (.double v6_32), .second, .val (.double v8_33), .second, .val (.double v10_34), .second, .val (.double v12_35), .second, .val (.ref aQ36), .val (.ref aQ37), .val (.ref b40), .val (.int v17_52)] [(.double r162_58)]))
    refine own_back ?_ (fun t k => XS.dconst1 X57.here hx rfl (v := (4607182418800017408 : UInt64)) (hb hby at_165) (by decide +kernel) k)
    show own_Go p e below PO (T57.setTop (mkF m 166 #[.val (.int pA), .val (.int pB), .val (.int pC), .val (.int pD), .val (.int v4_1), .val (.int (2 : Int32)), .val (.double v6_32), .second, .val (.double v8_33), .second, .val (.double v10_34), .second, .val (.double v12_35), .second, .val (.ref aQ36), .val (.ref aQ37), .val (.ref b40), .val (.int v17_52)] [(.double (4607182418800017408 : UInt64)), (.double r162_58)]))
    refine own_back ?_ (fun t k => XS.dcmpS X57.here hx rfl (v := (0 : Int32)) (hb hby at_166) rfl (by rw [h_r162_58]; decide +kernel) k)
    show own_Go p e below PO (T57.setTop (mkF m 167 #[.val (.int pA), .val (.int pB), .val (.int pC), .val (.int pD), .val (.int v4_1), .val (.int (2 : Int32)), .val (.double v6_32), .second, .val (.double v8_33), .second, .val (.double v10_34), .second, .val (.double v12_35), .second, .val (.ref aQ36), .val (.ref aQ37), .val (.ref b40), .val (.int v17_52)] [(.int (0 : Int32))]))
    refine own_back ?_ (fun t k => XS.ifYes X57.here hx rfl (pc0 := 167) (pc' := 172) rfl (hb hby at_167) rfl ((if0 _ _).trans (teq rfl).1) (by decide) (by decide) k)
    show own_Go p e below PO (T57.setTop (mkF m 172 #[.val (.int pA), .val (.int pB), .val (.int pC), .val (.int pD), .val (.int v4_1), .val (.int (2 : Int32)), .val (.double v6_32), .second, .val (.double v8_33), .second, .val (.double v10_34), .second, .val (.double v12_35), .second, .val (.ref aQ36), .val (.ref aQ37), .val (.ref b40), .val (.int v17_52)] []))
    refine own_back ?_ (fun t k => XS.iload X57.here hx rfl (hb hby at_172) rfl k)
    show own_Go p e below PO (T57.setTop (mkF m 174 #[.val (.int pA), .val (.int pB), .val (.int pC), .val (.int pD), .val (.int v4_1), .val (.int (2 : Int32)), .val (.double v6_32), .second, .val (.double v8_33), .second, .val (.double v10_34), .second, .val (.double v12_35), .second, .val (.ref aQ36), .val (.ref aQ37), .val (.ref b40), .val (.int v17_52)] [(.int (2 : Int32))]))
    refine own_back ?_ (fun t k => XS.iconst X57.here hx rfl (hb hby at_174) k)
    show own_Go p e below PO (T57.setTop (mkF m 175 #[.val (.int pA), .val (.int pB), .val (.int pC), .val (.int pD), .val (.int v4_1), .val (.int (2 : Int32)), .val (.double v6_32), .second, .val (.double v8_33), .second, .val (.double v10_34), .second, .val (.double v12_35), .second, .val (.ref aQ36), .val (.ref aQ37), .val (.ref b40), .val (.int v17_52)] [(.int (2 : Int32)), (.int (2 : Int32))]))
    refine own_back ?_ (fun t k => XS.icmpNo X57.here hx rfl (hb hby at_175) rfl (flt Int32.lt_irrefl).1 k)
    show own_Go p e below PO (T57.setTop (mkF m 178 #[.val (.int pA), .val (.int pB), .val (.int pC), .val (.int pD), .val (.int v4_1), .val (.int (2 : Int32)), .val (.double v6_32), .second, .val (.double v8_33), .second, .val (.double v10_34), .second, .val (.double v12_35), .second, .val (.ref aQ36), .val (.ref aQ37), .val (.ref b40), .val (.int v17_52)] []))
    refine own_back ?_ (fun t k => XS.aload X57.here hx rfl (hb hby at_178) rfl rfl k)
    show own_Go p e below PO (T57.setTop (mkF m 180 #[.val (.int pA), .val (.int pB), .val (.int pC), .val (.int pD), .val (.int v4_1), .val (.int (2 : Int32)), .val (.double v6_32), .second, .val (.double v8_33), .second, .val (.double v10_34), .second, .val (.double v12_35), .second, .val (.ref aQ36), .val (.ref aQ37), .val (.ref b40), .val (.int v17_52)] [(.ref b40)]))
    refine own_back ?_ (fun t k => XS.iload X57.here hx rfl (hb hby at_180) rfl k)
    show own_Go p e below PO (T57.setTop (mkF m 182 #[.val (.int pA), .val (.int pB), .val (.int pC), .val (.int pD), .val (.int v4_1), .val (.int (2 : Int32)), .val (.double v6_32), .second, .val (.double v8_33), .second, .val (.double v10_34), .second, .val (.double v12_35), .second, .val (.ref aQ36), .val (.ref aQ37), .val (.ref b40), .val (.int v17_52)] [(.int v17_52), (.ref b40)]))
    refine own_back ?_ (fun t k => XS.iconst X57.here hx rfl (hb hby at_182) k)
    show own_Go p e below PO (T57.setTop (mkF m 183 #[.val (.int pA), .val (.int pB), .val (.int pC), .val (.int pD), .val (.int v4_1), .val (.int (2 : Int32)), .val (.double v6_32), .second, .val (.double v8_33), .second, .val (.double v10_34), .second, .val (.double v12_35), .second, .val (.ref aQ36), .val (.ref aQ37), .val (.ref b40), .val (.int v17_52)] [(.int (1 : Int32)), (.int v17_52), (.ref b40)]))
    refine own_back ?_ (fun t k => XS.isub X57.here hx rfl (hb hby at_183) rfl k)
    show own_Go p e below PO (T57.setTop (mkF m 184 #[.val (.int pA), .val (.int pB), .val (.int pC), .val (.int pD), .val (.int v4_1), .val (.int (2 : Int32)), .val (.double v6_32), .second, .val (.double v8_33), .second, .val (.double v10_34), .second, .val (.double v12_35), .second, .val (.ref aQ36), .val (.ref aQ37), .val (.ref b40), .val (.int v17_52)] [(.int (v17_52 - (1 : Int32))), (.ref b40)]))
    refine own_back ?_ (fun t k => XS.dconst1 X57.here hx rfl (v := (4607182418800017408 : UInt64)) (hb hby at_184) (by decide +kernel) k)
    show own_Go p e below PO (T57.setTop (mkF m 185 #[.val (.int pA), .val (.int pB), .val (.int pC), .val (.int pD), .val (.int v4_1), .val (.int (2 : Int32)), .val (.double v6_32), .second, .val (.double v8_33), .second, .val (.double v10_34), .second, .val (.double v12_35), .second, .val (.ref aQ36), .val (.ref aQ37), .val (.ref b40), .val (.int v17_52)] [(.double (4607182418800017408 : UInt64)), (.int (v17_52 - (1 : Int32))), (.ref b40)]))
    obtain ⟨cq59, kq59, q59a, q59b, q59c⟩ := isOf hZ e57 f45_50
    obtain ⟨_, _, ⟨T59, L59, k59, n59⟩, -, X59, ⟨Lc59, hQ59, l59, y59, z59⟩, st59⟩ := X57.virtualBack hx (y := (⟨"com/example/overcap/overcap/model/MortalityTable", "getQx", "(ID)D"⟩ : MethodName)) (z := (⟨"com/example/overcap/overcap/model/MortalityTable", "getQx", "(ID)D"⟩ : MethodName)) hown (mvT hZ (hw _ (List.mem_of_getElem? (i := 67) rfl))) (mvT hZ (hw _ (List.mem_of_getElem? (i := 68) rfl))) (notFace_of_selects (args := #[]) (mvT hZ (hw _ (List.mem_of_getElem? (i := 70) rfl)))) (mvT hZ (hw _ (List.mem_of_getElem? (i := 70) rfl))) (mvT hZ (hw _ (List.mem_of_getElem? (i := 69) rfl))) (by decide) (backOf (W := 0) (rmQx_2_0 l Z a0 hw [] b40 (v17_52 - (1 : Int32)) (4607182418800017408 : UInt64) v4_1 aM aF kQ36 kQ37 v8_33 v12_35 T45.heap n0 Zh45 f45_50 FA45 FM45 FF45 VM45 VF45 (by rw [h_v17_52]; exact own_lo2 hf (n := (2 : Int32)) (N := 2) (by decide) (by decide)) (by rw [h_v17_52]; exact own_hi2 hf (n := (2 : Int32)) (N := 2) (by decide) (by decide)) (by rw [h_v17_52]; exact own_ix2 hf (n := (2 : Int32)) (N := 2) (by decide) (by decide) (by decide)) own_ok1 (own_m1 hq8 hq12).1) hZ (hw _ (List.mem_of_getElem? (i := 71) rfl)) (hw _ (List.mem_of_getElem? (i := 10) rfl)) (by decide) (by decide)) q59a q59c (g := (mkF m 185 #[.val (.int pA), .val (.int pB), .val (.int pC), .val (.int pD), .val (.int v4_1), .val (.int (2 : Int32)), .val (.double v6_32), .second, .val (.double v8_33), .second, .val (.double v10_34), .second, .val (.double v12_35), .second, .val (.ref aQ36), .val (.ref aQ37), .val (.ref b40), .val (.int v17_52)] [(.double (4607182418800017408 : UInt64)), (.int (v17_52 - (1 : Int32))), (.ref b40)])) rfl (by rw [hml]; rfl) (Steps.refl _) (argsL := [(.int (v17_52 - (1 : Int32))), (.double (4607182418800017408 : UInt64))]) (rest := []) (lenOf pd_8 rfl) rfl (by show 2 * 0 + _ ≤ _; exact Nat.le_of_eq rfl) (hb hby at_185) (fun _ _ => ⟨rfl, e57, (by decide : 17 + 0 ≤ _), (by decide : 155 + 0 ≤ _)⟩)
    dsimp only [Pt.U, Pt.locs, Pt.cells, Pt.slots] at X59 l59 y59 z59 st59 hQ59
    subst l59 y59 z59
    obtain ⟨rfl, N59q, e59⟩ := hQ59
    have N59 := Fr.app N57 N59q
    refine own_back ?_ (fun t k => st59.trans k)
    show own_Go p e below PO (T59.setTop (mkF m 188 #[.val (.int pA), .val (.int pB), .val (.int pC), .val (.int pD), .val (.int v4_1), .val (.int (2 : Int32)), .val (.double v6_32), .second, .val (.double v8_33), .second, .val (.double v10_34), .second, .val (.double v12_35), .second, .val (.ref aQ36), .val (.ref aQ37), .val (.ref b40), .val (.int v17_52)] [(.double (own_mix (4607182418800017408 : UInt64) v8_33 v12_35))]))
    refine own_gen (A := UInt64) (own_mix (4607182418800017408 : UInt64) v8_33 v12_35) (fun r185_60 => own_Go p e below PO (T59.setTop (mkF m 188 #[.val (.int pA), .val (.int pB), .val (.int pC), .val (.int pD), .val (.int v4_1), .val (.int (2 : Int32)), .val (.double v6_32), .second, .val (.double v8_33), .second, .val (.double v10_34), .second, .val (.double v12_35), .second, .val (.ref aQ36), .val (.ref aQ37), .val (.ref b40), .val (.int v17_52)] [(.double r185_60)]))) ?_
    intro r185_60 h_r185_60
    show own_Go p e below PO (T59.setTop (mkF m 188 #[.val (.int pA), .val (.int pB), .val (.int pC), .val (.int pD), .val (.int v4_1), .val (.int (2 : Int32)), .val (.double v6_32), .second, .val (.double v8_33), .second, .val (.double v10_34), .second, .val (.double v12_35), .second, .val (.ref aQ36), .val (.ref aQ37), .val (.ref b40), .val (.int v17_52)] [(.double r185_60)]))
    refine own_back ?_ (fun t k => XS.dload X59.here hx rfl (hb hby at_188) rfl k)
    show own_Go p e below PO (T59.setTop (mkF m 190 #[.val (.int pA), .val (.int pB), .val (.int pC), .val (.int pD), .val (.int v4_1), .val (.int (2 : Int32)), .val (.double v6_32), .second, .val (.double v8_33), .second, .val (.double v10_34), .second, .val (.double v12_35), .second, .val (.ref aQ36), .val (.ref aQ37), .val (.ref b40), .val (.int v17_52)] [(.double v8_33), (.double r185_60)]))
    refine own_back ?_ (fun t k => XS.dcmpS X59.here hx rfl (v := (0 : Int32)) (hb hby at_190) rfl (by rw [h_r185_60]; exact (own_m1 hq8 hq12).2) k)
    show own_Go p e below PO (T59.setTop (mkF m 191 #[.val (.int pA), .val (.int pB), .val (.int pC), .val (.int pD), .val (.int v4_1), .val (.int (2 : Int32)), .val (.double v6_32), .second, .val (.double v8_33), .second, .val (.double v10_34), .second, .val (.double v12_35), .second, .val (.ref aQ36), .val (.ref aQ37), .val (.ref b40), .val (.int v17_52)] [(.int (0 : Int32))]))
    refine own_back ?_ (fun t k => XS.ifNo X59.here hx rfl (hb hby at_191) rfl ((if0 _ _).trans (teq rfl).2) k)
    show own_Go p e below PO (T59.setTop (mkF m 194 #[.val (.int pA), .val (.int pB), .val (.int pC), .val (.int pD), .val (.int v4_1), .val (.int (2 : Int32)), .val (.double v6_32), .second, .val (.double v8_33), .second, .val (.double v10_34), .second, .val (.double v12_35), .second, .val (.ref aQ36), .val (.ref aQ37), .val (.ref b40), .val (.int v17_52)] []))
    refine own_back ?_ (fun t k => XS.aload X59.here hx rfl (hb hby at_194) rfl rfl k)
    show own_Go p e below PO (T59.setTop (mkF m 196 #[.val (.int pA), .val (.int pB), .val (.int pC), .val (.int pD), .val (.int v4_1), .val (.int (2 : Int32)), .val (.double v6_32), .second, .val (.double v8_33), .second, .val (.double v10_34), .second, .val (.double v12_35), .second, .val (.ref aQ36), .val (.ref aQ37), .val (.ref b40), .val (.int v17_52)] [(.ref b40)]))
    refine own_back ?_ (fun t k => XS.iload X59.here hx rfl (hb hby at_196) rfl k)
    show own_Go p e below PO (T59.setTop (mkF m 198 #[.val (.int pA), .val (.int pB), .val (.int pC), .val (.int pD), .val (.int v4_1), .val (.int (2 : Int32)), .val (.double v6_32), .second, .val (.double v8_33), .second, .val (.double v10_34), .second, .val (.double v12_35), .second, .val (.ref aQ36), .val (.ref aQ37), .val (.ref b40), .val (.int v17_52)] [(.int v17_52), (.ref b40)]))
    refine own_back ?_ (fun t k => XS.iconst X59.here hx rfl (hb hby at_198) k)
    show own_Go p e below PO (T59.setTop (mkF m 199 #[.val (.int pA), .val (.int pB), .val (.int pC), .val (.int pD), .val (.int v4_1), .val (.int (2 : Int32)), .val (.double v6_32), .second, .val (.double v8_33), .second, .val (.double v10_34), .second, .val (.double v12_35), .second, .val (.ref aQ36), .val (.ref aQ37), .val (.ref b40), .val (.int v17_52)] [(.int (1 : Int32)), (.int v17_52), (.ref b40)]))
    refine own_back ?_ (fun t k => XS.isub X59.here hx rfl (hb hby at_199) rfl k)
    show own_Go p e below PO (T59.setTop (mkF m 200 #[.val (.int pA), .val (.int pB), .val (.int pC), .val (.int pD), .val (.int v4_1), .val (.int (2 : Int32)), .val (.double v6_32), .second, .val (.double v8_33), .second, .val (.double v10_34), .second, .val (.double v12_35), .second, .val (.ref aQ36), .val (.ref aQ37), .val (.ref b40), .val (.int v17_52)] [(.int (v17_52 - (1 : Int32))), (.ref b40)]))
    refine own_back ?_ (fun t k => XS.dconst0 X59.here hx rfl (v := (0 : UInt64)) (hb hby at_200) (by decide +kernel) k)
    show own_Go p e below PO (T59.setTop (mkF m 201 #[.val (.int pA), .val (.int pB), .val (.int pC), .val (.int pD), .val (.int v4_1), .val (.int (2 : Int32)), .val (.double v6_32), .second, .val (.double v8_33), .second, .val (.double v10_34), .second, .val (.double v12_35), .second, .val (.ref aQ36), .val (.ref aQ37), .val (.ref b40), .val (.int v17_52)] [(.double (0 : UInt64)), (.int (v17_52 - (1 : Int32))), (.ref b40)]))
    obtain ⟨cq61, kq61, q61a, q61b, q61c⟩ := isOf hZ e59 f45_50
    obtain ⟨_, _, ⟨T61, L61, k61, n61⟩, -, X61, ⟨Lc61, hQ61, l61, y61, z61⟩, st61⟩ := X59.virtualBack hx (y := (⟨"com/example/overcap/overcap/model/MortalityTable", "getQx", "(ID)D"⟩ : MethodName)) (z := (⟨"com/example/overcap/overcap/model/MortalityTable", "getQx", "(ID)D"⟩ : MethodName)) hown (mvT hZ (hw _ (List.mem_of_getElem? (i := 67) rfl))) (mvT hZ (hw _ (List.mem_of_getElem? (i := 68) rfl))) (notFace_of_selects (args := #[]) (mvT hZ (hw _ (List.mem_of_getElem? (i := 70) rfl)))) (mvT hZ (hw _ (List.mem_of_getElem? (i := 70) rfl))) (mvT hZ (hw _ (List.mem_of_getElem? (i := 69) rfl))) (by decide) (backOf (W := 0) (rmQx_2_0 l Z a0 hw [] b40 (v17_52 - (1 : Int32)) (0 : UInt64) v4_1 aM aF kQ36 kQ37 v8_33 v12_35 T45.heap n0 Zh45 f45_50 FA45 FM45 FF45 VM45 VF45 (by rw [h_v17_52]; exact own_lo2 hf (n := (2 : Int32)) (N := 2) (by decide) (by decide)) (by rw [h_v17_52]; exact own_hi2 hf (n := (2 : Int32)) (N := 2) (by decide) (by decide)) (by rw [h_v17_52]; exact own_ix2 hf (n := (2 : Int32)) (N := 2) (by decide) (by decide) (by decide)) own_ok0 (own_m0 hq8 hq12).1) hZ (hw _ (List.mem_of_getElem? (i := 71) rfl)) (hw _ (List.mem_of_getElem? (i := 10) rfl)) (by decide) (by decide)) q61a q61c (g := (mkF m 201 #[.val (.int pA), .val (.int pB), .val (.int pC), .val (.int pD), .val (.int v4_1), .val (.int (2 : Int32)), .val (.double v6_32), .second, .val (.double v8_33), .second, .val (.double v10_34), .second, .val (.double v12_35), .second, .val (.ref aQ36), .val (.ref aQ37), .val (.ref b40), .val (.int v17_52)] [(.double (0 : UInt64)), (.int (v17_52 - (1 : Int32))), (.ref b40)])) rfl (by rw [hml]; rfl) (Steps.refl _) (argsL := [(.int (v17_52 - (1 : Int32))), (.double (0 : UInt64))]) (rest := []) (lenOf pd_8 rfl) rfl (by show 2 * 0 + _ ≤ _; exact Nat.le_of_eq rfl) (hb hby at_201) (fun _ _ => ⟨rfl, e59, (by decide : 17 + 0 ≤ _), (by decide : 155 + 0 ≤ _)⟩)
    dsimp only [Pt.U, Pt.locs, Pt.cells, Pt.slots] at X61 l61 y61 z61 st61 hQ61
    subst l61 y61 z61
    obtain ⟨rfl, N61q, e61⟩ := hQ61
    have N61 := Fr.app N59 N61q
    refine own_back ?_ (fun t k => st61.trans k)
    show own_Go p e below PO (T61.setTop (mkF m 204 #[.val (.int pA), .val (.int pB), .val (.int pC), .val (.int pD), .val (.int v4_1), .val (.int (2 : Int32)), .val (.double v6_32), .second, .val (.double v8_33), .second, .val (.double v10_34), .second, .val (.double v12_35), .second, .val (.ref aQ36), .val (.ref aQ37), .val (.ref b40), .val (.int v17_52)] [(.double (own_mix (0 : UInt64) v8_33 v12_35))]))
    refine own_gen (A := UInt64) (own_mix (0 : UInt64) v8_33 v12_35) (fun r201_62 => own_Go p e below PO (T61.setTop (mkF m 204 #[.val (.int pA), .val (.int pB), .val (.int pC), .val (.int pD), .val (.int v4_1), .val (.int (2 : Int32)), .val (.double v6_32), .second, .val (.double v8_33), .second, .val (.double v10_34), .second, .val (.double v12_35), .second, .val (.ref aQ36), .val (.ref aQ37), .val (.ref b40), .val (.int v17_52)] [(.double r201_62)]))) ?_
    intro r201_62 h_r201_62
    show own_Go p e below PO (T61.setTop (mkF m 204 #[.val (.int pA), .val (.int pB), .val (.int pC), .val (.int pD), .val (.int v4_1), .val (.int (2 : Int32)), .val (.double v6_32), .second, .val (.double v8_33), .second, .val (.double v10_34), .second, .val (.double v12_35), .second, .val (.ref aQ36), .val (.ref aQ37), .val (.ref b40), .val (.int v17_52)] [(.double r201_62)]))
    refine own_back ?_ (fun t k => XS.dload X61.here hx rfl (hb hby at_204) rfl k)
    show own_Go p e below PO (T61.setTop (mkF m 206 #[.val (.int pA), .val (.int pB), .val (.int pC), .val (.int pD), .val (.int v4_1), .val (.int (2 : Int32)), .val (.double v6_32), .second, .val (.double v8_33), .second, .val (.double v10_34), .second, .val (.double v12_35), .second, .val (.ref aQ36), .val (.ref aQ37), .val (.ref b40), .val (.int v17_52)] [(.double v12_35), (.double r201_62)]))
    refine own_back ?_ (fun t k => XS.dcmpS X61.here hx rfl (v := (0 : Int32)) (hb hby at_206) rfl (by rw [h_r201_62]; exact (own_m0 hq8 hq12).2) k)
    show own_Go p e below PO (T61.setTop (mkF m 207 #[.val (.int pA), .val (.int pB), .val (.int pC), .val (.int pD), .val (.int v4_1), .val (.int (2 : Int32)), .val (.double v6_32), .second, .val (.double v8_33), .second, .val (.double v10_34), .second, .val (.double v12_35), .second, .val (.ref aQ36), .val (.ref aQ37), .val (.ref b40), .val (.int v17_52)] [(.int (0 : Int32))]))
    refine own_back ?_ (fun t k => XS.ifYes X61.here hx rfl (pc0 := 207) (pc' := 212) rfl (hb hby at_207) rfl ((if0 _ _).trans (teq rfl).1) (by decide) (by decide) k)
    show own_Go p e below PO (T61.setTop (mkF m 212 #[.val (.int pA), .val (.int pB), .val (.int pC), .val (.int pD), .val (.int v4_1), .val (.int (2 : Int32)), .val (.double v6_32), .second, .val (.double v8_33), .second, .val (.double v10_34), .second, .val (.double v12_35), .second, .val (.ref aQ36), .val (.ref aQ37), .val (.ref b40), .val (.int v17_52)] []))
    refine own_back ?_ (fun t k => XS.iconst X61.here hx rfl (hb hby at_212) k)
    show own_Go p e below PO (T61.setTop (mkF m 213 #[.val (.int pA), .val (.int pB), .val (.int pC), .val (.int pD), .val (.int v4_1), .val (.int (2 : Int32)), .val (.double v6_32), .second, .val (.double v8_33), .second, .val (.double v10_34), .second, .val (.double v12_35), .second, .val (.ref aQ36), .val (.ref aQ37), .val (.ref b40), .val (.int v17_52)] [(.int (1 : Int32))]))
    refine own_retNW X61 hx (t := .boolean) (rest := []) Bd.returns (by decide) (by simp) (hb hby at_213) e61 (Bd.notSynchronized) ?_ (by decide) (by decide) (s := s) (vm0 := T45.vm) hS45 (Nat.le_refl _)
    exact ⟨rfl, N61⟩
  · subst q3
    show own_Go p e below PO (s₁.setTop (mkF m 19 #[.val (.int pA), .val (.int pB), .val (.int pC), .val (.int pD), .val (.int v4_1), .val (.int (3 : Int32)), .unset, .unset, .unset, .unset, .unset, .unset, .unset, .unset, .unset, .unset, .unset, .unset] []))
    refine own_back ?_ (fun t k => XS.iloadN X0.here hx rfl (hb hby at_19) rfl k)
    show own_Go p e below PO (s₁.setTop (mkF m 20 #[.val (.int pA), .val (.int pB), .val (.int pC), .val (.int pD), .val (.int v4_1), .val (.int (3 : Int32)), .unset, .unset, .unset, .unset, .unset, .unset, .unset, .unset, .unset, .unset, .unset, .unset] [(.int pC)]))
    refine own_back ?_ (fun t k => XS.bipush X0.here hx rfl (hb hby at_20) k)
    show own_Go p e below PO (s₁.setTop (mkF m 22 #[.val (.int pA), .val (.int pB), .val (.int pC), .val (.int pD), .val (.int v4_1), .val (.int (3 : Int32)), .unset, .unset, .unset, .unset, .unset, .unset, .unset, .unset, .unset, .unset, .unset, .unset] [(.int (7 : Int32)), (.int pC)]))
    refine own_back ?_ (fun t k => XS.iand X0.here hx rfl (hb hby at_22) rfl k)
    show own_Go p e below PO (s₁.setTop (mkF m 23 #[.val (.int pA), .val (.int pB), .val (.int pC), .val (.int pD), .val (.int v4_1), .val (.int (3 : Int32)), .unset, .unset, .unset, .unset, .unset, .unset, .unset, .unset, .unset, .unset, .unset, .unset] [(.int (pC &&& (7 : Int32)))]))
    refine own_back ?_ (fun t k => XS.i2dS X0.here hx rfl (v := (FP.i2d (pC &&& (7 : Int32)))) (hb hby at_23) rfl rfl k)
    show own_Go p e below PO (s₁.setTop (mkF m 24 #[.val (.int pA), .val (.int pB), .val (.int pC), .val (.int pD), .val (.int v4_1), .val (.int (3 : Int32)), .unset, .unset, .unset, .unset, .unset, .unset, .unset, .unset, .unset, .unset, .unset, .unset] [(.double (FP.i2d (pC &&& (7 : Int32))))]))
    refine own_back ?_ (fun t k => X0.ldc2DoubleC hx hown (mvT hZ (hw _ (List.mem_of_getElem? (i := 2) rfl))) (g := (mkF m 24 #[.val (.int pA), .val (.int pB), .val (.int pC), .val (.int pD), .val (.int v4_1), .val (.int (3 : Int32)), .unset, .unset, .unset, .unset, .unset, .unset, .unset, .unset, .unset, .unset, .unset, .unset] [(.double (FP.i2d (pC &&& (7 : Int32))))])) rfl (hb hby at_24) _ k)
    show own_Go p e below PO (s₁.setTop (mkF m 27 #[.val (.int pA), .val (.int pB), .val (.int pC), .val (.int pD), .val (.int v4_1), .val (.int (3 : Int32)), .unset, .unset, .unset, .unset, .unset, .unset, .unset, .unset, .unset, .unset, .unset, .unset] [(.double (4620693217682128896 : UInt64)), (.double (FP.i2d (pC &&& (7 : Int32))))]))
    refine own_back ?_ (fun t k => XS.ddivS X0.here hx rfl (v := (own_q (pC &&& (7 : Int32)))) (hb hby at_27) rfl (own_divN _) rfl k)
    show own_Go p e below PO (s₁.setTop (mkF m 28 #[.val (.int pA), .val (.int pB), .val (.int pC), .val (.int pD), .val (.int v4_1), .val (.int (3 : Int32)), .unset, .unset, .unset, .unset, .unset, .unset, .unset, .unset, .unset, .unset, .unset, .unset] [(.double (own_q (pC &&& (7 : Int32))))]))
    refine own_back ?_ (fun t k => XS.dstore X0.here hx rfl (hb hby at_28) rfl (l' := #[.val (.int pA), .val (.int pB), .val (.int pC), .val (.int pD), .val (.int v4_1), .val (.int (3 : Int32)), .val (.double (own_q (pC &&& (7 : Int32)))), .second, .unset, .unset, .unset, .unset, .unset, .unset, .unset, .unset, .unset, .unset]) rfl k)
    show own_Go p e below PO (s₁.setTop (mkF m 30 #[.val (.int pA), .val (.int pB), .val (.int pC), .val (.int pD), .val (.int v4_1), .val (.int (3 : Int32)), .val (.double (own_q (pC &&& (7 : Int32)))), .second, .unset, .unset, .unset, .unset, .unset, .unset, .unset, .unset, .unset, .unset] []))
    refine own_gen (A := UInt64) (own_q (pC &&& (7 : Int32))) (fun v6_63 => own_Go p e below PO (s₁.setTop (mkF m 30 #[.val (.int pA), .val (.int pB), .val (.int pC), .val (.int pD), .val (.int v4_1), .val (.int (3 : Int32)), .val (.double v6_63), .second, .unset, .unset, .unset, .unset, .unset, .unset, .unset, .unset, .unset, .unset] []))) ?_
    intro v6_63 h_v6_63
    show own_Go p e below PO (s₁.setTop (mkF m 30 #[.val (.int pA), .val (.int pB), .val (.int pC), .val (.int pD), .val (.int v4_1), .val (.int (3 : Int32)), .val (.double v6_63), .second, .unset, .unset, .unset, .unset, .unset, .unset, .unset, .unset, .unset, .unset] []))
    have hq6 : own_qn v6_63 := by rw [h_v6_63]; exact own_q7 _
    refine own_back ?_ (fun t k => XS.iloadN X0.here hx rfl (hb hby at_30) rfl k)
    show own_Go p e below PO (s₁.setTop (mkF m 31 #[.val (.int pA), .val (.int pB), .val (.int pC), .val (.int pD), .val (.int v4_1), .val (.int (3 : Int32)), .val (.double v6_63), .second, .unset, .unset, .unset, .unset, .unset, .unset, .unset, .unset, .unset, .unset] [(.int pC)]))
    refine own_back ?_ (fun t k => XS.iconst X0.here hx rfl (hb hby at_31) k)
    show own_Go p e below PO (s₁.setTop (mkF m 32 #[.val (.int pA), .val (.int pB), .val (.int pC), .val (.int pD), .val (.int v4_1), .val (.int (3 : Int32)), .val (.double v6_63), .second, .unset, .unset, .unset, .unset, .unset, .unset, .unset, .unset, .unset, .unset] [(.int (3 : Int32)), (.int pC)]))
    refine own_back ?_ (fun t k => XS.iushr X0.here hx rfl (hb hby at_32) rfl k)
    show own_Go p e below PO (s₁.setTop (mkF m 33 #[.val (.int pA), .val (.int pB), .val (.int pC), .val (.int pD), .val (.int v4_1), .val (.int (3 : Int32)), .val (.double v6_63), .second, .unset, .unset, .unset, .unset, .unset, .unset, .unset, .unset, .unset, .unset] [(.int ((pC.toUInt32 >>> ((3 : Int32) &&& 31).toUInt32).toInt32))]))
    refine own_back ?_ (fun t k => XS.bipush X0.here hx rfl (hb hby at_33) k)
    show own_Go p e below PO (s₁.setTop (mkF m 35 #[.val (.int pA), .val (.int pB), .val (.int pC), .val (.int pD), .val (.int v4_1), .val (.int (3 : Int32)), .val (.double v6_63), .second, .unset, .unset, .unset, .unset, .unset, .unset, .unset, .unset, .unset, .unset] [(.int (7 : Int32)), (.int ((pC.toUInt32 >>> ((3 : Int32) &&& 31).toUInt32).toInt32))]))
    refine own_back ?_ (fun t k => XS.iand X0.here hx rfl (hb hby at_35) rfl k)
    show own_Go p e below PO (s₁.setTop (mkF m 36 #[.val (.int pA), .val (.int pB), .val (.int pC), .val (.int pD), .val (.int v4_1), .val (.int (3 : Int32)), .val (.double v6_63), .second, .unset, .unset, .unset, .unset, .unset, .unset, .unset, .unset, .unset, .unset] [(.int (((pC.toUInt32 >>> ((3 : Int32) &&& 31).toUInt32).toInt32) &&& (7 : Int32)))]))
    refine own_back ?_ (fun t k => XS.i2dS X0.here hx rfl (v := (FP.i2d (((pC.toUInt32 >>> ((3 : Int32) &&& 31).toUInt32).toInt32) &&& (7 : Int32)))) (hb hby at_36) rfl rfl k)
    show own_Go p e below PO (s₁.setTop (mkF m 37 #[.val (.int pA), .val (.int pB), .val (.int pC), .val (.int pD), .val (.int v4_1), .val (.int (3 : Int32)), .val (.double v6_63), .second, .unset, .unset, .unset, .unset, .unset, .unset, .unset, .unset, .unset, .unset] [(.double (FP.i2d (((pC.toUInt32 >>> ((3 : Int32) &&& 31).toUInt32).toInt32) &&& (7 : Int32))))]))
    refine own_back ?_ (fun t k => X0.ldc2DoubleC hx hown (mvT hZ (hw _ (List.mem_of_getElem? (i := 2) rfl))) (g := (mkF m 37 #[.val (.int pA), .val (.int pB), .val (.int pC), .val (.int pD), .val (.int v4_1), .val (.int (3 : Int32)), .val (.double v6_63), .second, .unset, .unset, .unset, .unset, .unset, .unset, .unset, .unset, .unset, .unset] [(.double (FP.i2d (((pC.toUInt32 >>> ((3 : Int32) &&& 31).toUInt32).toInt32) &&& (7 : Int32))))])) rfl (hb hby at_37) _ k)
    show own_Go p e below PO (s₁.setTop (mkF m 40 #[.val (.int pA), .val (.int pB), .val (.int pC), .val (.int pD), .val (.int v4_1), .val (.int (3 : Int32)), .val (.double v6_63), .second, .unset, .unset, .unset, .unset, .unset, .unset, .unset, .unset, .unset, .unset] [(.double (4620693217682128896 : UInt64)), (.double (FP.i2d (((pC.toUInt32 >>> ((3 : Int32) &&& 31).toUInt32).toInt32) &&& (7 : Int32))))]))
    refine own_back ?_ (fun t k => XS.ddivS X0.here hx rfl (v := (own_q (((pC.toUInt32 >>> ((3 : Int32) &&& 31).toUInt32).toInt32) &&& (7 : Int32)))) (hb hby at_40) rfl (own_divN _) rfl k)
    show own_Go p e below PO (s₁.setTop (mkF m 41 #[.val (.int pA), .val (.int pB), .val (.int pC), .val (.int pD), .val (.int v4_1), .val (.int (3 : Int32)), .val (.double v6_63), .second, .unset, .unset, .unset, .unset, .unset, .unset, .unset, .unset, .unset, .unset] [(.double (own_q (((pC.toUInt32 >>> ((3 : Int32) &&& 31).toUInt32).toInt32) &&& (7 : Int32))))]))
    refine own_back ?_ (fun t k => XS.dstore X0.here hx rfl (hb hby at_41) rfl (l' := #[.val (.int pA), .val (.int pB), .val (.int pC), .val (.int pD), .val (.int v4_1), .val (.int (3 : Int32)), .val (.double v6_63), .second, .val (.double (own_q (((pC.toUInt32 >>> ((3 : Int32) &&& 31).toUInt32).toInt32) &&& (7 : Int32)))), .second, .unset, .unset, .unset, .unset, .unset, .unset, .unset, .unset]) rfl k)
    show own_Go p e below PO (s₁.setTop (mkF m 43 #[.val (.int pA), .val (.int pB), .val (.int pC), .val (.int pD), .val (.int v4_1), .val (.int (3 : Int32)), .val (.double v6_63), .second, .val (.double (own_q (((pC.toUInt32 >>> ((3 : Int32) &&& 31).toUInt32).toInt32) &&& (7 : Int32)))), .second, .unset, .unset, .unset, .unset, .unset, .unset, .unset, .unset] []))
    refine own_gen (A := UInt64) (own_q (((pC.toUInt32 >>> ((3 : Int32) &&& 31).toUInt32).toInt32) &&& (7 : Int32))) (fun v8_64 => own_Go p e below PO (s₁.setTop (mkF m 43 #[.val (.int pA), .val (.int pB), .val (.int pC), .val (.int pD), .val (.int v4_1), .val (.int (3 : Int32)), .val (.double v6_63), .second, .val (.double v8_64), .second, .unset, .unset, .unset, .unset, .unset, .unset, .unset, .unset] []))) ?_
    intro v8_64 h_v8_64
    show own_Go p e below PO (s₁.setTop (mkF m 43 #[.val (.int pA), .val (.int pB), .val (.int pC), .val (.int pD), .val (.int v4_1), .val (.int (3 : Int32)), .val (.double v6_63), .second, .val (.double v8_64), .second, .unset, .unset, .unset, .unset, .unset, .unset, .unset, .unset] []))
    have hq8 : own_qn v8_64 := by rw [h_v8_64]; exact own_q7 _
    refine own_back ?_ (fun t k => XS.iloadN X0.here hx rfl (hb hby at_43) rfl k)
    show own_Go p e below PO (s₁.setTop (mkF m 44 #[.val (.int pA), .val (.int pB), .val (.int pC), .val (.int pD), .val (.int v4_1), .val (.int (3 : Int32)), .val (.double v6_63), .second, .val (.double v8_64), .second, .unset, .unset, .unset, .unset, .unset, .unset, .unset, .unset] [(.int pD)]))
    refine own_back ?_ (fun t k => XS.bipush X0.here hx rfl (hb hby at_44) k)
    show own_Go p e below PO (s₁.setTop (mkF m 46 #[.val (.int pA), .val (.int pB), .val (.int pC), .val (.int pD), .val (.int v4_1), .val (.int (3 : Int32)), .val (.double v6_63), .second, .val (.double v8_64), .second, .unset, .unset, .unset, .unset, .unset, .unset, .unset, .unset] [(.int (7 : Int32)), (.int pD)]))
    refine own_back ?_ (fun t k => XS.iand X0.here hx rfl (hb hby at_46) rfl k)
    show own_Go p e below PO (s₁.setTop (mkF m 47 #[.val (.int pA), .val (.int pB), .val (.int pC), .val (.int pD), .val (.int v4_1), .val (.int (3 : Int32)), .val (.double v6_63), .second, .val (.double v8_64), .second, .unset, .unset, .unset, .unset, .unset, .unset, .unset, .unset] [(.int (pD &&& (7 : Int32)))]))
    refine own_back ?_ (fun t k => XS.i2dS X0.here hx rfl (v := (FP.i2d (pD &&& (7 : Int32)))) (hb hby at_47) rfl rfl k)
    show own_Go p e below PO (s₁.setTop (mkF m 48 #[.val (.int pA), .val (.int pB), .val (.int pC), .val (.int pD), .val (.int v4_1), .val (.int (3 : Int32)), .val (.double v6_63), .second, .val (.double v8_64), .second, .unset, .unset, .unset, .unset, .unset, .unset, .unset, .unset] [(.double (FP.i2d (pD &&& (7 : Int32))))]))
    refine own_back ?_ (fun t k => X0.ldc2DoubleC hx hown (mvT hZ (hw _ (List.mem_of_getElem? (i := 2) rfl))) (g := (mkF m 48 #[.val (.int pA), .val (.int pB), .val (.int pC), .val (.int pD), .val (.int v4_1), .val (.int (3 : Int32)), .val (.double v6_63), .second, .val (.double v8_64), .second, .unset, .unset, .unset, .unset, .unset, .unset, .unset, .unset] [(.double (FP.i2d (pD &&& (7 : Int32))))])) rfl (hb hby at_48) _ k)
    show own_Go p e below PO (s₁.setTop (mkF m 51 #[.val (.int pA), .val (.int pB), .val (.int pC), .val (.int pD), .val (.int v4_1), .val (.int (3 : Int32)), .val (.double v6_63), .second, .val (.double v8_64), .second, .unset, .unset, .unset, .unset, .unset, .unset, .unset, .unset] [(.double (4620693217682128896 : UInt64)), (.double (FP.i2d (pD &&& (7 : Int32))))]))
    refine own_back ?_ (fun t k => XS.ddivS X0.here hx rfl (v := (own_q (pD &&& (7 : Int32)))) (hb hby at_51) rfl (own_divN _) rfl k)
    show own_Go p e below PO (s₁.setTop (mkF m 52 #[.val (.int pA), .val (.int pB), .val (.int pC), .val (.int pD), .val (.int v4_1), .val (.int (3 : Int32)), .val (.double v6_63), .second, .val (.double v8_64), .second, .unset, .unset, .unset, .unset, .unset, .unset, .unset, .unset] [(.double (own_q (pD &&& (7 : Int32))))]))
    refine own_back ?_ (fun t k => XS.dstore X0.here hx rfl (hb hby at_52) rfl (l' := #[.val (.int pA), .val (.int pB), .val (.int pC), .val (.int pD), .val (.int v4_1), .val (.int (3 : Int32)), .val (.double v6_63), .second, .val (.double v8_64), .second, .val (.double (own_q (pD &&& (7 : Int32)))), .second, .unset, .unset, .unset, .unset, .unset, .unset]) rfl k)
    show own_Go p e below PO (s₁.setTop (mkF m 54 #[.val (.int pA), .val (.int pB), .val (.int pC), .val (.int pD), .val (.int v4_1), .val (.int (3 : Int32)), .val (.double v6_63), .second, .val (.double v8_64), .second, .val (.double (own_q (pD &&& (7 : Int32)))), .second, .unset, .unset, .unset, .unset, .unset, .unset] []))
    refine own_gen (A := UInt64) (own_q (pD &&& (7 : Int32))) (fun v10_65 => own_Go p e below PO (s₁.setTop (mkF m 54 #[.val (.int pA), .val (.int pB), .val (.int pC), .val (.int pD), .val (.int v4_1), .val (.int (3 : Int32)), .val (.double v6_63), .second, .val (.double v8_64), .second, .val (.double v10_65), .second, .unset, .unset, .unset, .unset, .unset, .unset] []))) ?_
    intro v10_65 h_v10_65
    show own_Go p e below PO (s₁.setTop (mkF m 54 #[.val (.int pA), .val (.int pB), .val (.int pC), .val (.int pD), .val (.int v4_1), .val (.int (3 : Int32)), .val (.double v6_63), .second, .val (.double v8_64), .second, .val (.double v10_65), .second, .unset, .unset, .unset, .unset, .unset, .unset] []))
    have hq10 : own_qn v10_65 := by rw [h_v10_65]; exact own_q7 _
    refine own_back ?_ (fun t k => XS.iloadN X0.here hx rfl (hb hby at_54) rfl k)
    show own_Go p e below PO (s₁.setTop (mkF m 55 #[.val (.int pA), .val (.int pB), .val (.int pC), .val (.int pD), .val (.int v4_1), .val (.int (3 : Int32)), .val (.double v6_63), .second, .val (.double v8_64), .second, .val (.double v10_65), .second, .unset, .unset, .unset, .unset, .unset, .unset] [(.int pD)]))
    refine own_back ?_ (fun t k => XS.iconst X0.here hx rfl (hb hby at_55) k)
    show own_Go p e below PO (s₁.setTop (mkF m 56 #[.val (.int pA), .val (.int pB), .val (.int pC), .val (.int pD), .val (.int v4_1), .val (.int (3 : Int32)), .val (.double v6_63), .second, .val (.double v8_64), .second, .val (.double v10_65), .second, .unset, .unset, .unset, .unset, .unset, .unset] [(.int (3 : Int32)), (.int pD)]))
    refine own_back ?_ (fun t k => XS.iushr X0.here hx rfl (hb hby at_56) rfl k)
    show own_Go p e below PO (s₁.setTop (mkF m 57 #[.val (.int pA), .val (.int pB), .val (.int pC), .val (.int pD), .val (.int v4_1), .val (.int (3 : Int32)), .val (.double v6_63), .second, .val (.double v8_64), .second, .val (.double v10_65), .second, .unset, .unset, .unset, .unset, .unset, .unset] [(.int ((pD.toUInt32 >>> ((3 : Int32) &&& 31).toUInt32).toInt32))]))
    refine own_back ?_ (fun t k => XS.bipush X0.here hx rfl (hb hby at_57) k)
    show own_Go p e below PO (s₁.setTop (mkF m 59 #[.val (.int pA), .val (.int pB), .val (.int pC), .val (.int pD), .val (.int v4_1), .val (.int (3 : Int32)), .val (.double v6_63), .second, .val (.double v8_64), .second, .val (.double v10_65), .second, .unset, .unset, .unset, .unset, .unset, .unset] [(.int (7 : Int32)), (.int ((pD.toUInt32 >>> ((3 : Int32) &&& 31).toUInt32).toInt32))]))
    refine own_back ?_ (fun t k => XS.iand X0.here hx rfl (hb hby at_59) rfl k)
    show own_Go p e below PO (s₁.setTop (mkF m 60 #[.val (.int pA), .val (.int pB), .val (.int pC), .val (.int pD), .val (.int v4_1), .val (.int (3 : Int32)), .val (.double v6_63), .second, .val (.double v8_64), .second, .val (.double v10_65), .second, .unset, .unset, .unset, .unset, .unset, .unset] [(.int (((pD.toUInt32 >>> ((3 : Int32) &&& 31).toUInt32).toInt32) &&& (7 : Int32)))]))
    refine own_back ?_ (fun t k => XS.i2dS X0.here hx rfl (v := (FP.i2d (((pD.toUInt32 >>> ((3 : Int32) &&& 31).toUInt32).toInt32) &&& (7 : Int32)))) (hb hby at_60) rfl rfl k)
    show own_Go p e below PO (s₁.setTop (mkF m 61 #[.val (.int pA), .val (.int pB), .val (.int pC), .val (.int pD), .val (.int v4_1), .val (.int (3 : Int32)), .val (.double v6_63), .second, .val (.double v8_64), .second, .val (.double v10_65), .second, .unset, .unset, .unset, .unset, .unset, .unset] [(.double (FP.i2d (((pD.toUInt32 >>> ((3 : Int32) &&& 31).toUInt32).toInt32) &&& (7 : Int32))))]))
    refine own_back ?_ (fun t k => X0.ldc2DoubleC hx hown (mvT hZ (hw _ (List.mem_of_getElem? (i := 2) rfl))) (g := (mkF m 61 #[.val (.int pA), .val (.int pB), .val (.int pC), .val (.int pD), .val (.int v4_1), .val (.int (3 : Int32)), .val (.double v6_63), .second, .val (.double v8_64), .second, .val (.double v10_65), .second, .unset, .unset, .unset, .unset, .unset, .unset] [(.double (FP.i2d (((pD.toUInt32 >>> ((3 : Int32) &&& 31).toUInt32).toInt32) &&& (7 : Int32))))])) rfl (hb hby at_61) _ k)
    show own_Go p e below PO (s₁.setTop (mkF m 64 #[.val (.int pA), .val (.int pB), .val (.int pC), .val (.int pD), .val (.int v4_1), .val (.int (3 : Int32)), .val (.double v6_63), .second, .val (.double v8_64), .second, .val (.double v10_65), .second, .unset, .unset, .unset, .unset, .unset, .unset] [(.double (4620693217682128896 : UInt64)), (.double (FP.i2d (((pD.toUInt32 >>> ((3 : Int32) &&& 31).toUInt32).toInt32) &&& (7 : Int32))))]))
    refine own_back ?_ (fun t k => XS.ddivS X0.here hx rfl (v := (own_q (((pD.toUInt32 >>> ((3 : Int32) &&& 31).toUInt32).toInt32) &&& (7 : Int32)))) (hb hby at_64) rfl (own_divN _) rfl k)
    show own_Go p e below PO (s₁.setTop (mkF m 65 #[.val (.int pA), .val (.int pB), .val (.int pC), .val (.int pD), .val (.int v4_1), .val (.int (3 : Int32)), .val (.double v6_63), .second, .val (.double v8_64), .second, .val (.double v10_65), .second, .unset, .unset, .unset, .unset, .unset, .unset] [(.double (own_q (((pD.toUInt32 >>> ((3 : Int32) &&& 31).toUInt32).toInt32) &&& (7 : Int32))))]))
    refine own_back ?_ (fun t k => XS.dstore X0.here hx rfl (hb hby at_65) rfl (l' := #[.val (.int pA), .val (.int pB), .val (.int pC), .val (.int pD), .val (.int v4_1), .val (.int (3 : Int32)), .val (.double v6_63), .second, .val (.double v8_64), .second, .val (.double v10_65), .second, .val (.double (own_q (((pD.toUInt32 >>> ((3 : Int32) &&& 31).toUInt32).toInt32) &&& (7 : Int32)))), .second, .unset, .unset, .unset, .unset]) rfl k)
    show own_Go p e below PO (s₁.setTop (mkF m 67 #[.val (.int pA), .val (.int pB), .val (.int pC), .val (.int pD), .val (.int v4_1), .val (.int (3 : Int32)), .val (.double v6_63), .second, .val (.double v8_64), .second, .val (.double v10_65), .second, .val (.double (own_q (((pD.toUInt32 >>> ((3 : Int32) &&& 31).toUInt32).toInt32) &&& (7 : Int32)))), .second, .unset, .unset, .unset, .unset] []))
    refine own_gen (A := UInt64) (own_q (((pD.toUInt32 >>> ((3 : Int32) &&& 31).toUInt32).toInt32) &&& (7 : Int32))) (fun v12_66 => own_Go p e below PO (s₁.setTop (mkF m 67 #[.val (.int pA), .val (.int pB), .val (.int pC), .val (.int pD), .val (.int v4_1), .val (.int (3 : Int32)), .val (.double v6_63), .second, .val (.double v8_64), .second, .val (.double v10_65), .second, .val (.double v12_66), .second, .unset, .unset, .unset, .unset] []))) ?_
    intro v12_66 h_v12_66
    show own_Go p e below PO (s₁.setTop (mkF m 67 #[.val (.int pA), .val (.int pB), .val (.int pC), .val (.int pD), .val (.int v4_1), .val (.int (3 : Int32)), .val (.double v6_63), .second, .val (.double v8_64), .second, .val (.double v10_65), .second, .val (.double v12_66), .second, .unset, .unset, .unset, .unset] []))
    have hq12 : own_qn v12_66 := by rw [h_v12_66]; exact own_q7 _
    refine own_back ?_ (fun t k => XS.iload X0.here hx rfl (hb hby at_67) rfl k)
    show own_Go p e below PO (s₁.setTop (mkF m 69 #[.val (.int pA), .val (.int pB), .val (.int pC), .val (.int pD), .val (.int v4_1), .val (.int (3 : Int32)), .val (.double v6_63), .second, .val (.double v8_64), .second, .val (.double v10_65), .second, .val (.double v12_66), .second, .unset, .unset, .unset, .unset] [(.int (3 : Int32))]))
    refine own_back ?_ (fun t k => XS.dload X0.here hx rfl (hb hby at_69) rfl k)
    show own_Go p e below PO (s₁.setTop (mkF m 71 #[.val (.int pA), .val (.int pB), .val (.int pC), .val (.int pD), .val (.int v4_1), .val (.int (3 : Int32)), .val (.double v6_63), .second, .val (.double v8_64), .second, .val (.double v10_65), .second, .val (.double v12_66), .second, .unset, .unset, .unset, .unset] [(.double v6_63), (.int (3 : Int32))]))
    refine own_back ?_ (fun t k => XS.dload X0.here hx rfl (hb hby at_71) rfl k)
    show own_Go p e below PO (s₁.setTop (mkF m 73 #[.val (.int pA), .val (.int pB), .val (.int pC), .val (.int pD), .val (.int v4_1), .val (.int (3 : Int32)), .val (.double v6_63), .second, .val (.double v8_64), .second, .val (.double v10_65), .second, .val (.double v12_66), .second, .unset, .unset, .unset, .unset] [(.double v8_64), (.double v6_63), (.int (3 : Int32))]))
    obtain ⟨_, _, ⟨T67, L67, k67, n67⟩, -, X67, ⟨Lc67, hQ67, l67, y67, z67⟩, st67⟩ := Jvm.LawKit.callS X0 hx (y := (⟨"com/example/overcap/overcap/model/MortalityTableGetLastAgePinLaw", "rates", "(IDD)[D"⟩ : MethodName)) hown (mvT hZ (hw _ (List.mem_of_getElem? (i := 3) rfl))) (mvT hZ (hw _ (List.mem_of_getElem? (i := 4) rfl))) (mvT hZ (hw _ (List.mem_of_getElem? (i := 5) rfl))) (mvT hZ (hw _ (List.mem_of_getElem? (i := 6) rfl))) (by decide) (backOf (W := 0) (rmR_3 l Z a0 hw [] v6_63 v8_64  h0 n0 Z0 ) hZ (hw _ (List.mem_of_getElem? (i := 6) rfl)) (hw _ (List.mem_of_getElem? (i := 5) rfl)) (by decide) (by decide)) (g := (mkF m 73 #[.val (.int pA), .val (.int pB), .val (.int pC), .val (.int pD), .val (.int v4_1), .val (.int (3 : Int32)), .val (.double v6_63), .second, .val (.double v8_64), .second, .val (.double v10_65), .second, .val (.double v12_66), .second, .unset, .unset, .unset, .unset] [(.double v8_64), (.double v6_63), (.int (3 : Int32))])) rfl (by rw [hml]; rfl) (argsL := [(.int (3 : Int32)), (.double v6_63), (.double v8_64)]) (rest := []) (lenOf pd_6 rfl) rfl (by show 2 * 0 + _ ≤ _; exact Nat.le_of_eq rfl) (hb hby at_73) (fun _ _ => ⟨rfl, e0, (by decide : 0 + 1 ≤ _), (by decide : 0 + 3 ≤ _)⟩)
    dsimp only [Pt.U, Pt.locs, Pt.cells, Pt.slots] at X67 l67 y67 z67 st67 hQ67
    subst l67 y67 z67
    obtain ⟨aQ67, kQ67, rfl, N67q, Kc67, sz67, EQ67, VQ67⟩ := hQ67
    have N67 := Fr.app N0 N67q
    have sz_aQ67 : h0.size ≤ aQ67 := sz67
    have gn_aQ67 : n0 ≤ aQ67 := Nat.le_trans Z0 sz_aQ67
    have K67 : Keep h0 T67.heap [] := (Keep.refl h0 []).trans Kc67 all0
    have Zh67 : n0 ≤ T67.heap.size := Nat.le_trans Z0 K67.1
    refine own_back ?_ st67
    show own_Go p e below PO (T67.setTop (mkF m 76 #[.val (.int pA), .val (.int pB), .val (.int pC), .val (.int pD), .val (.int v4_1), .val (.int (3 : Int32)), .val (.double v6_63), .second, .val (.double v8_64), .second, .val (.double v10_65), .second, .val (.double v12_66), .second, .unset, .unset, .unset, .unset] [(.ref aQ67)]))
    refine own_back ?_ (fun t k => XS.astore X67.here hx rfl (hb hby at_76) rfl rfl (l' := #[.val (.int pA), .val (.int pB), .val (.int pC), .val (.int pD), .val (.int v4_1), .val (.int (3 : Int32)), .val (.double v6_63), .second, .val (.double v8_64), .second, .val (.double v10_65), .second, .val (.double v12_66), .second, .val (.ref aQ67), .unset, .unset, .unset]) rfl k)
    show own_Go p e below PO (T67.setTop (mkF m 78 #[.val (.int pA), .val (.int pB), .val (.int pC), .val (.int pD), .val (.int v4_1), .val (.int (3 : Int32)), .val (.double v6_63), .second, .val (.double v8_64), .second, .val (.double v10_65), .second, .val (.double v12_66), .second, .val (.ref aQ67), .unset, .unset, .unset] []))
    refine own_back ?_ (fun t k => XS.iload X67.here hx rfl (hb hby at_78) rfl k)
    show own_Go p e below PO (T67.setTop (mkF m 80 #[.val (.int pA), .val (.int pB), .val (.int pC), .val (.int pD), .val (.int v4_1), .val (.int (3 : Int32)), .val (.double v6_63), .second, .val (.double v8_64), .second, .val (.double v10_65), .second, .val (.double v12_66), .second, .val (.ref aQ67), .unset, .unset, .unset] [(.int (3 : Int32))]))
    refine own_back ?_ (fun t k => XS.dload X67.here hx rfl (hb hby at_80) rfl k)
    show own_Go p e below PO (T67.setTop (mkF m 82 #[.val (.int pA), .val (.int pB), .val (.int pC), .val (.int pD), .val (.int v4_1), .val (.int (3 : Int32)), .val (.double v6_63), .second, .val (.double v8_64), .second, .val (.double v10_65), .second, .val (.double v12_66), .second, .val (.ref aQ67), .unset, .unset, .unset] [(.double v10_65), (.int (3 : Int32))]))
    refine own_back ?_ (fun t k => XS.dload X67.here hx rfl (hb hby at_82) rfl k)
    show own_Go p e below PO (T67.setTop (mkF m 84 #[.val (.int pA), .val (.int pB), .val (.int pC), .val (.int pD), .val (.int v4_1), .val (.int (3 : Int32)), .val (.double v6_63), .second, .val (.double v8_64), .second, .val (.double v10_65), .second, .val (.double v12_66), .second, .val (.ref aQ67), .unset, .unset, .unset] [(.double v12_66), (.double v10_65), (.int (3 : Int32))]))
    obtain ⟨_, _, ⟨T68, L68, k68, n68⟩, -, X68, ⟨Lc68, hQ68, l68, y68, z68⟩, st68⟩ := Jvm.LawKit.callS X67 hx (y := (⟨"com/example/overcap/overcap/model/MortalityTableGetLastAgePinLaw", "rates", "(IDD)[D"⟩ : MethodName)) hown (mvT hZ (hw _ (List.mem_of_getElem? (i := 3) rfl))) (mvT hZ (hw _ (List.mem_of_getElem? (i := 4) rfl))) (mvT hZ (hw _ (List.mem_of_getElem? (i := 5) rfl))) (mvT hZ (hw _ (List.mem_of_getElem? (i := 6) rfl))) (by decide) (backOf (W := 0) (rmR_3 l Z a0 hw [] v10_65 v12_66  T67.heap n0 Zh67 ) hZ (hw _ (List.mem_of_getElem? (i := 6) rfl)) (hw _ (List.mem_of_getElem? (i := 5) rfl)) (by decide) (by decide)) (g := (mkF m 84 #[.val (.int pA), .val (.int pB), .val (.int pC), .val (.int pD), .val (.int v4_1), .val (.int (3 : Int32)), .val (.double v6_63), .second, .val (.double v8_64), .second, .val (.double v10_65), .second, .val (.double v12_66), .second, .val (.ref aQ67), .unset, .unset, .unset] [(.double v12_66), (.double v10_65), (.int (3 : Int32))])) rfl (by rw [hml]; rfl) (argsL := [(.int (3 : Int32)), (.double v10_65), (.double v12_66)]) (rest := []) (lenOf pd_6 rfl) rfl (by show 2 * 0 + _ ≤ _; exact Nat.le_of_eq rfl) (hb hby at_84) (fun _ _ => ⟨rfl, rfl, (by decide : 1 + 1 ≤ _), (by decide : 3 + 3 ≤ _)⟩)
    dsimp only [Pt.U, Pt.locs, Pt.cells, Pt.slots] at X68 l68 y68 z68 st68 hQ68
    subst l68 y68 z68
    obtain ⟨aQ68, kQ68, rfl, N68q, Kc68, sz68, EQ68, VQ68⟩ := hQ68
    have N68 := Fr.app N67 N68q
    have ne_aQ67_aQ68 : aQ67 ≠ aQ68 := Nat.ne_of_lt (Nat.lt_of_lt_of_le EQ67.lt sz68)
    have sz_aQ68 : h0.size ≤ aQ68 := Nat.le_trans K67.1 sz68
    have gn_aQ68 : n0 ≤ aQ68 := Nat.le_trans Z0 sz_aQ68
    have f68_69 := EQ67.keep Kc68
    have f68_70 := VQ67.keep Kc68 nin0
    have K68 : Keep h0 T68.heap [] := (K67).trans Kc68 all0
    have Zh68 : n0 ≤ T68.heap.size := Nat.le_trans Z0 K68.1
    refine own_back ?_ st68
    show own_Go p e below PO (T68.setTop (mkF m 87 #[.val (.int pA), .val (.int pB), .val (.int pC), .val (.int pD), .val (.int v4_1), .val (.int (3 : Int32)), .val (.double v6_63), .second, .val (.double v8_64), .second, .val (.double v10_65), .second, .val (.double v12_66), .second, .val (.ref aQ67), .unset, .unset, .unset] [(.ref aQ68)]))
    refine own_back ?_ (fun t k => XS.astore X68.here hx rfl (hb hby at_87) rfl rfl (l' := #[.val (.int pA), .val (.int pB), .val (.int pC), .val (.int pD), .val (.int v4_1), .val (.int (3 : Int32)), .val (.double v6_63), .second, .val (.double v8_64), .second, .val (.double v10_65), .second, .val (.double v12_66), .second, .val (.ref aQ67), .val (.ref aQ68), .unset, .unset]) rfl k)
    show own_Go p e below PO (T68.setTop (mkF m 89 #[.val (.int pA), .val (.int pB), .val (.int pC), .val (.int pD), .val (.int v4_1), .val (.int (3 : Int32)), .val (.double v6_63), .second, .val (.double v8_64), .second, .val (.double v10_65), .second, .val (.double v12_66), .second, .val (.ref aQ67), .val (.ref aQ68), .unset, .unset] []))
    obtain ⟨T71, h71, X71, e71, E71, A71, D71, -, st71⟩ := newO X68 hx hZ hown (hw _ (List.mem_of_getElem? (i := 8) rfl)) (hw _ (List.mem_of_getElem? (i := 9) rfl)) (hw _ (List.mem_of_getElem? (i := 10) rfl)) rfl (g := (mkF m 89 #[.val (.int pA), .val (.int pB), .val (.int pC), .val (.int pD), .val (.int v4_1), .val (.int (3 : Int32)), .val (.double v6_63), .second, .val (.double v8_64), .second, .val (.double v10_65), .second, .val (.double v12_66), .second, .val (.ref aQ67), .val (.ref aQ68), .unset, .unset] [])) rfl (hb hby at_89) (by decide) (by decide)
    obtain ⟨b71, g71⟩ : ∃ z, z = T68.heap.size := ⟨_, rfl⟩
    rw [← g71] at A71 D71 st71
    have ne_aQ67_b71 : aQ67 ≠ b71 := Nat.ne_of_lt (Nat.lt_of_lt_of_le f68_69.lt (Nat.le_of_eq g71.symm))
    have ne_aQ68_b71 : aQ68 ≠ b71 := Nat.ne_of_lt (Nat.lt_of_lt_of_le EQ68.lt (Nat.le_of_eq g71.symm))
    have sz_b71 : h0.size ≤ b71 := Nat.le_trans K68.1 (Nat.le_of_eq g71.symm)
    have gn_b71 : n0 ≤ b71 := Nat.le_trans Z0 sz_b71
    have f71_72 := f68_69.ext E71
    have f71_73 := f68_70.ext E71
    have f71_74 := EQ68.ext E71
    have f71_75 := VQ68.ext E71
    have K71 : Keep h0 h71 [] := (K68).ext E71
    have Zh71 : n0 ≤ h71.size := Nat.le_trans Z0 K71.1
    have F71_firstAge : Fld Z h71 b71 "com/example/overcap/overcap/model/MortalityTable" "firstAge" "I" (.int (0 : Int32)) := D71 (Or.inr (hw _ (List.mem_of_getElem? (i := 21) rfl))) (ty := .int) (by decide)
    have F71_maleQx : Fld Z h71 b71 "com/example/overcap/overcap/model/MortalityTable" "maleQx" "[D" .null := D71 (Or.inr (hw _ (List.mem_of_getElem? (i := 32) rfl))) (ty := (.array .double)) (by decide)
    have F71_femaleQx : Fld Z h71 b71 "com/example/overcap/overcap/model/MortalityTable" "femaleQx" "[D" .null := D71 (Or.inr (hw _ (List.mem_of_getElem? (i := 34) rfl))) (ty := (.array .double)) (by decide)
    refine own_back ?_ st71
    show own_Go p e below PO (T71.setTop (mkF m 92 #[.val (.int pA), .val (.int pB), .val (.int pC), .val (.int pD), .val (.int v4_1), .val (.int (3 : Int32)), .val (.double v6_63), .second, .val (.double v8_64), .second, .val (.double v10_65), .second, .val (.double v12_66), .second, .val (.ref aQ67), .val (.ref aQ68), .unset, .unset] [(.ref b71)]))
    refine own_back ?_ (fun t k => XS.dup X71.here hx rfl (hb hby at_92) rfl rfl k)
    show own_Go p e below PO (T71.setTop (mkF m 93 #[.val (.int pA), .val (.int pB), .val (.int pC), .val (.int pD), .val (.int v4_1), .val (.int (3 : Int32)), .val (.double v6_63), .second, .val (.double v8_64), .second, .val (.double v10_65), .second, .val (.double v12_66), .second, .val (.ref aQ67), .val (.ref aQ68), .unset, .unset] [(.ref b71), (.ref b71)]))
    refine own_back ?_ (fun t k => XS.iload X71.here hx rfl (hb hby at_93) rfl k)
    show own_Go p e below PO (T71.setTop (mkF m 95 #[.val (.int pA), .val (.int pB), .val (.int pC), .val (.int pD), .val (.int v4_1), .val (.int (3 : Int32)), .val (.double v6_63), .second, .val (.double v8_64), .second, .val (.double v10_65), .second, .val (.double v12_66), .second, .val (.ref aQ67), .val (.ref aQ68), .unset, .unset] [(.int v4_1), (.ref b71), (.ref b71)]))
    refine own_back ?_ (fun t k => XS.aload X71.here hx rfl (hb hby at_95) rfl rfl k)
    show own_Go p e below PO (T71.setTop (mkF m 97 #[.val (.int pA), .val (.int pB), .val (.int pC), .val (.int pD), .val (.int v4_1), .val (.int (3 : Int32)), .val (.double v6_63), .second, .val (.double v8_64), .second, .val (.double v10_65), .second, .val (.double v12_66), .second, .val (.ref aQ67), .val (.ref aQ68), .unset, .unset] [(.ref aQ67), (.int v4_1), (.ref b71), (.ref b71)]))
    refine own_back ?_ (fun t k => XS.aload X71.here hx rfl (hb hby at_97) rfl rfl k)
    show own_Go p e below PO (T71.setTop (mkF m 99 #[.val (.int pA), .val (.int pB), .val (.int pC), .val (.int pD), .val (.int v4_1), .val (.int (3 : Int32)), .val (.double v6_63), .second, .val (.double v8_64), .second, .val (.double v10_65), .second, .val (.double v12_66), .second, .val (.ref aQ67), .val (.ref aQ68), .unset, .unset] [(.ref aQ68), (.ref aQ67), (.int v4_1), (.ref b71), (.ref b71)]))
    obtain ⟨_, _, ⟨T76, L76, k76, n76⟩, -, X76, hSn76, hgr76, ⟨Lc76, hQ76, l76, y76, z76⟩, st76⟩ := X71.specialBackS hx (y := (⟨"com/example/overcap/overcap/model/MortalityTable", "<init>", "(I[D[D)V"⟩ : MethodName)) rfl hown (mvT hZ (hw _ (List.mem_of_getElem? (i := 11) rfl))) (mvT hZ (hw _ (List.mem_of_getElem? (i := 12) rfl))) (mvT hZ (hw _ (List.mem_of_getElem? (i := 13) rfl))) (by decide) (backOfS (W := 1) (rmI_3 l Z a0 hw [] b71 v4_1 aQ67 aQ68 kQ67 kQ68 v6_63 v10_65 v8_64 v12_66 h71 n0 Zh71 A71 F71_firstAge F71_maleQx F71_femaleQx f71_72 f71_73 f71_74 f71_75 ne_aQ67_b71 ne_aQ68_b71 gn_b71 (own_f0 hf) (own_okq hq6) (own_okq hq10) (own_okq hq8) (own_okq hq12)) hZ (hw _ (List.mem_of_getElem? (i := 13) rfl)) (hw _ (List.mem_of_getElem? (i := 10) rfl)) (by decide) (by decide)) (g := (mkF m 99 #[.val (.int pA), .val (.int pB), .val (.int pC), .val (.int pD), .val (.int v4_1), .val (.int (3 : Int32)), .val (.double v6_63), .second, .val (.double v8_64), .second, .val (.double v10_65), .second, .val (.double v12_66), .second, .val (.ref aQ67), .val (.ref aQ68), .unset, .unset] [(.ref aQ68), (.ref aQ67), (.int v4_1), (.ref b71), (.ref b71)])) rfl (by rw [hml]; rfl) (Steps.refl _) (a := b71) (argsL := [(.int v4_1), (.ref aQ67), (.ref aQ68)]) (rest := [(.ref b71)]) (lenOf pd_7 rfl) rfl (by show 2 * 0 + _ ≤ _; exact Nat.le_of_eq rfl) (hb hby at_99) (fun _ _ => ⟨rfl, e71, (by decide : 3 + 18 ≤ _), (by decide : 9 + 198 ≤ _)⟩)
    dsimp only [Pt.U, Pt.locs, Pt.cells, Pt.slots] at X76 l76 y76 z76 st76 hQ76
    subst l76 y76 z76
    replace X76 : Stand p l e room_1 (s.setVm T76.vm) m #[(.int pA), (.int pB), (.int pC), (.int pD)] below meth c T76 _ _ _ := X76
    have hS76 : s.Since T76.vm T76.heap.size := foldS (s := s) (vm0 := s.vm) (T := T71) hS0 (by rw [e71]; exact (Nat.zero_le _)) hSn76 hgr76
    have hZ : Z.Warmed39 (s.setVm T76.vm).vm := State.Warmed39.trans (t := s.setVm s.vm) hZ hSn76.1
    have hown : (s.setVm T76.vm).vm.findClass "com/example/overcap/overcap/model/MortalityTableGetLastAgePinLaw" = some m.cls := by rw [show (s.setVm T76.vm).vm = T76.vm from rfl, hSn76.1.alike.findClass]; exact hown
    obtain ⟨rfl, N76q, Kc76, FA76, aM, aF, szM, szF, FM76, FF76, VM76, VF76⟩ := hQ76
    have N76 := Fr.app N68 N76q
    have ne_aQ67_aM : aQ67 ≠ aM := Nat.ne_of_lt (Nat.lt_of_lt_of_le f71_72.lt szM)
    have ne_aQ68_aM : aQ68 ≠ aM := Nat.ne_of_lt (Nat.lt_of_lt_of_le f71_74.lt szM)
    have ne_b71_aM : b71 ≠ aM := Nat.ne_of_lt (Nat.lt_of_lt_of_le A71.lt szM)
    have sz_aM : h0.size ≤ aM := Nat.le_trans K71.1 szM
    have gn_aM : n0 ≤ aM := Nat.le_trans Z0 sz_aM
    have ne_aQ67_aF : aQ67 ≠ aF := Nat.ne_of_lt (Nat.lt_of_lt_of_le f71_72.lt szF)
    have ne_aQ68_aF : aQ68 ≠ aF := Nat.ne_of_lt (Nat.lt_of_lt_of_le f71_74.lt szF)
    have ne_b71_aF : b71 ≠ aF := Nat.ne_of_lt (Nat.lt_of_lt_of_le A71.lt szF)
    have sz_aF : h0.size ≤ aF := Nat.le_trans K71.1 szF
    have gn_aF : n0 ≤ aF := Nat.le_trans Z0 sz_aF
    have f76_77 := f71_72.keep Kc76
    have f76_78 := f71_73.keep Kc76 (ninS ne_aQ67_b71 nin0)
    have f76_79 := f71_74.keep Kc76
    have f76_80 := f71_75.keep Kc76 (ninS ne_aQ68_b71 nin0)
    have f76_81 := A71.keep Kc76
    have K76 : Keep h0 T76.heap [] := (K71).trans Kc76 (allS (Or.inr sz_b71) all0)
    have Zh76 : n0 ≤ T76.heap.size := Nat.le_trans Z0 K76.1
    refine own_back ?_ (fun t k => st76.trans k)
    show own_Go p e below PO (T76.setTop (mkF m 102 #[.val (.int pA), .val (.int pB), .val (.int pC), .val (.int pD), .val (.int v4_1), .val (.int (3 : Int32)), .val (.double v6_63), .second, .val (.double v8_64), .second, .val (.double v10_65), .second, .val (.double v12_66), .second, .val (.ref aQ67), .val (.ref aQ68), .unset, .unset] [(.ref b71)]))
    refine own_back ?_ (fun t k => XS.astore X76.here hx rfl (hb hby at_102) rfl rfl (l' := #[.val (.int pA), .val (.int pB), .val (.int pC), .val (.int pD), .val (.int v4_1), .val (.int (3 : Int32)), .val (.double v6_63), .second, .val (.double v8_64), .second, .val (.double v10_65), .second, .val (.double v12_66), .second, .val (.ref aQ67), .val (.ref aQ68), .val (.ref b71), .unset]) rfl k)
    show own_Go p e below PO (T76.setTop (mkF m 104 #[.val (.int pA), .val (.int pB), .val (.int pC), .val (.int pD), .val (.int v4_1), .val (.int (3 : Int32)), .val (.double v6_63), .second, .val (.double v8_64), .second, .val (.double v10_65), .second, .val (.double v12_66), .second, .val (.ref aQ67), .val (.ref aQ68), .val (.ref b71), .unset] []))
    refine own_back ?_ (fun t k => XS.aload X76.here hx rfl (hb hby at_104) rfl rfl k)
    show own_Go p e below PO (T76.setTop (mkF m 106 #[.val (.int pA), .val (.int pB), .val (.int pC), .val (.int pD), .val (.int v4_1), .val (.int (3 : Int32)), .val (.double v6_63), .second, .val (.double v8_64), .second, .val (.double v10_65), .second, .val (.double v12_66), .second, .val (.ref aQ67), .val (.ref aQ68), .val (.ref b71), .unset] [(.ref b71)]))
    obtain ⟨cq82, kq82, q82a, q82b, q82c⟩ := isOf hZ rfl f76_81
    obtain ⟨_, _, ⟨T82, L82, k82, n82⟩, -, X82, ⟨Lc82, hQ82, l82, y82, z82⟩, st82⟩ := X76.virtualBack hx (y := (⟨"com/example/overcap/overcap/model/MortalityTable", "getLastAge", "()I"⟩ : MethodName)) (z := (⟨"com/example/overcap/overcap/model/MortalityTable", "getLastAge", "()I"⟩ : MethodName)) hown (mvT hZ (hw _ (List.mem_of_getElem? (i := 57) rfl))) (mvT hZ (hw _ (List.mem_of_getElem? (i := 58) rfl))) (notFace_of_selects (args := #[]) (mvT hZ (hw _ (List.mem_of_getElem? (i := 60) rfl)))) (mvT hZ (hw _ (List.mem_of_getElem? (i := 60) rfl))) (mvT hZ (hw _ (List.mem_of_getElem? (i := 59) rfl))) (by decide) (backOf (W := 0) (rmLA_3 l Z a0 hw [] b71 v4_1 aM aF kQ67 kQ68 v6_63 v10_65 v8_64 v12_66 T76.heap n0 Zh76 f76_81 FA76 FM76 FF76 VM76 VF76) hZ (hw _ (List.mem_of_getElem? (i := 61) rfl)) (hw _ (List.mem_of_getElem? (i := 10) rfl)) (by decide) (by decide)) q82a q82c (g := (mkF m 106 #[.val (.int pA), .val (.int pB), .val (.int pC), .val (.int pD), .val (.int v4_1), .val (.int (3 : Int32)), .val (.double v6_63), .second, .val (.double v8_64), .second, .val (.double v10_65), .second, .val (.double v12_66), .second, .val (.ref aQ67), .val (.ref aQ68), .val (.ref b71), .unset] [(.ref b71)])) rfl (by rw [hml]; rfl) (Steps.refl _) (argsL := []) (rest := []) (lenOf pd_5 rfl) rfl (by show 2 * 0 + _ ≤ _; exact Nat.le_of_eq rfl) (hb hby at_106) (fun _ _ => ⟨rfl, rfl, (by decide : 21 + 0 ≤ _), (by decide : 207 + 0 ≤ _)⟩)
    dsimp only [Pt.U, Pt.locs, Pt.cells, Pt.slots] at X82 l82 y82 z82 st82 hQ82
    subst l82 y82 z82
    obtain ⟨rfl, N82q, e82⟩ := hQ82
    have N82 := Fr.app N76 N82q
    refine own_back ?_ (fun t k => st82.trans k)
    show own_Go p e below PO (T82.setTop (mkF m 109 #[.val (.int pA), .val (.int pB), .val (.int pC), .val (.int pD), .val (.int v4_1), .val (.int (3 : Int32)), .val (.double v6_63), .second, .val (.double v8_64), .second, .val (.double v10_65), .second, .val (.double v12_66), .second, .val (.ref aQ67), .val (.ref aQ68), .val (.ref b71), .unset] [(.int ((v4_1 + (3 : Int32)) - (1 : Int32)))]))
    refine own_back ?_ (fun t k => XS.istore X82.here hx rfl (hb hby at_109) rfl (l' := #[.val (.int pA), .val (.int pB), .val (.int pC), .val (.int pD), .val (.int v4_1), .val (.int (3 : Int32)), .val (.double v6_63), .second, .val (.double v8_64), .second, .val (.double v10_65), .second, .val (.double v12_66), .second, .val (.ref aQ67), .val (.ref aQ68), .val (.ref b71), .val (.int ((v4_1 + (3 : Int32)) - (1 : Int32)))]) rfl k)
    show own_Go p e below PO (T82.setTop (mkF m 111 #[.val (.int pA), .val (.int pB), .val (.int pC), .val (.int pD), .val (.int v4_1), .val (.int (3 : Int32)), .val (.double v6_63), .second, .val (.double v8_64), .second, .val (.double v10_65), .second, .val (.double v12_66), .second, .val (.ref aQ67), .val (.ref aQ68), .val (.ref b71), .val (.int ((v4_1 + (3 : Int32)) - (1 : Int32)))] []))
    refine own_gen (A := Int32) ((v4_1 + (3 : Int32)) - (1 : Int32)) (fun v17_83 => own_Go p e below PO (T82.setTop (mkF m 111 #[.val (.int pA), .val (.int pB), .val (.int pC), .val (.int pD), .val (.int v4_1), .val (.int (3 : Int32)), .val (.double v6_63), .second, .val (.double v8_64), .second, .val (.double v10_65), .second, .val (.double v12_66), .second, .val (.ref aQ67), .val (.ref aQ68), .val (.ref b71), .val (.int v17_83)] []))) ?_
    intro v17_83 h_v17_83
    show own_Go p e below PO (T82.setTop (mkF m 111 #[.val (.int pA), .val (.int pB), .val (.int pC), .val (.int pD), .val (.int v4_1), .val (.int (3 : Int32)), .val (.double v6_63), .second, .val (.double v8_64), .second, .val (.double v10_65), .second, .val (.double v12_66), .second, .val (.ref aQ67), .val (.ref aQ68), .val (.ref b71), .val (.int v17_83)] []))
    refine own_back ?_ (fun t k => XS.iload X82.here hx rfl (hb hby at_111) rfl k)
    show own_Go p e below PO (T82.setTop (mkF m 113 #[.val (.int pA), .val (.int pB), .val (.int pC), .val (.int pD), .val (.int v4_1), .val (.int (3 : Int32)), .val (.double v6_63), .second, .val (.double v8_64), .second, .val (.double v10_65), .second, .val (.double v12_66), .second, .val (.ref aQ67), .val (.ref aQ68), .val (.ref b71), .val (.int v17_83)] [(.int v17_83)]))
    refine own_back ?_ (fun t k => XS.iload X82.here hx rfl (hb hby at_113) rfl k)
    show own_Go p e below PO (T82.setTop (mkF m 115 #[.val (.int pA), .val (.int pB), .val (.int pC), .val (.int pD), .val (.int v4_1), .val (.int (3 : Int32)), .val (.double v6_63), .second, .val (.double v8_64), .second, .val (.double v10_65), .second, .val (.double v12_66), .second, .val (.ref aQ67), .val (.ref aQ68), .val (.ref b71), .val (.int v17_83)] [(.int v4_1), (.int v17_83)]))
    refine own_back ?_ (fun t k => XS.iload X82.here hx rfl (hb hby at_115) rfl k)
    show own_Go p e below PO (T82.setTop (mkF m 117 #[.val (.int pA), .val (.int pB), .val (.int pC), .val (.int pD), .val (.int v4_1), .val (.int (3 : Int32)), .val (.double v6_63), .second, .val (.double v8_64), .second, .val (.double v10_65), .second, .val (.double v12_66), .second, .val (.ref aQ67), .val (.ref aQ68), .val (.ref b71), .val (.int v17_83)] [(.int (3 : Int32)), (.int v4_1), (.int v17_83)]))
    refine own_back ?_ (fun t k => XS.iadd X82.here hx rfl (hb hby at_117) rfl k)
    show own_Go p e below PO (T82.setTop (mkF m 118 #[.val (.int pA), .val (.int pB), .val (.int pC), .val (.int pD), .val (.int v4_1), .val (.int (3 : Int32)), .val (.double v6_63), .second, .val (.double v8_64), .second, .val (.double v10_65), .second, .val (.double v12_66), .second, .val (.ref aQ67), .val (.ref aQ68), .val (.ref b71), .val (.int v17_83)] [(.int (v4_1 + (3 : Int32))), (.int v17_83)]))
    refine own_back ?_ (fun t k => XS.iconst X82.here hx rfl (hb hby at_118) k)
    show own_Go p e below PO (T82.setTop (mkF m 119 #[.val (.int pA), .val (.int pB), .val (.int pC), .val (.int pD), .val (.int v4_1), .val (.int (3 : Int32)), .val (.double v6_63), .second, .val (.double v8_64), .second, .val (.double v10_65), .second, .val (.double v12_66), .second, .val (.ref aQ67), .val (.ref aQ68), .val (.ref b71), .val (.int v17_83)] [(.int (1 : Int32)), (.int (v4_1 + (3 : Int32))), (.int v17_83)]))
    refine own_back ?_ (fun t k => XS.isub X82.here hx rfl (hb hby at_119) rfl k)
    show own_Go p e below PO (T82.setTop (mkF m 120 #[.val (.int pA), .val (.int pB), .val (.int pC), .val (.int pD), .val (.int v4_1), .val (.int (3 : Int32)), .val (.double v6_63), .second, .val (.double v8_64), .second, .val (.double v10_65), .second, .val (.double v12_66), .second, .val (.ref aQ67), .val (.ref aQ68), .val (.ref b71), .val (.int v17_83)] [(.int ((v4_1 + (3 : Int32)) - (1 : Int32))), (.int v17_83)]))
    refine own_back ?_ (fun t k => XS.icmpYes X82.here hx rfl (pc0 := 120) (pc' := 125) rfl (hb hby at_120) rfl (teq h_v17_83).1 (by decide) (by decide) k)
    show own_Go p e below PO (T82.setTop (mkF m 125 #[.val (.int pA), .val (.int pB), .val (.int pC), .val (.int pD), .val (.int v4_1), .val (.int (3 : Int32)), .val (.double v6_63), .second, .val (.double v8_64), .second, .val (.double v10_65), .second, .val (.double v12_66), .second, .val (.ref aQ67), .val (.ref aQ68), .val (.ref b71), .val (.int v17_83)] []))
    refine own_back ?_ (fun t k => XS.aload X82.here hx rfl (hb hby at_125) rfl rfl k)
    show own_Go p e below PO (T82.setTop (mkF m 127 #[.val (.int pA), .val (.int pB), .val (.int pC), .val (.int pD), .val (.int v4_1), .val (.int (3 : Int32)), .val (.double v6_63), .second, .val (.double v8_64), .second, .val (.double v10_65), .second, .val (.double v12_66), .second, .val (.ref aQ67), .val (.ref aQ68), .val (.ref b71), .val (.int v17_83)] [(.ref b71)]))
    obtain ⟨cq84, kq84, q84a, q84b, q84c⟩ := isOf hZ e82 f76_81
    obtain ⟨_, _, ⟨T84, L84, k84, n84⟩, -, X84, ⟨Lc84, hQ84, l84, y84, z84⟩, st84⟩ := X82.virtualBack hx (y := (⟨"com/example/overcap/overcap/model/MortalityTable", "getFirstAge", "()I"⟩ : MethodName)) (z := (⟨"com/example/overcap/overcap/model/MortalityTable", "getFirstAge", "()I"⟩ : MethodName)) hown (mvT hZ (hw _ (List.mem_of_getElem? (i := 62) rfl))) (mvT hZ (hw _ (List.mem_of_getElem? (i := 63) rfl))) (notFace_of_selects (args := #[]) (mvT hZ (hw _ (List.mem_of_getElem? (i := 65) rfl)))) (mvT hZ (hw _ (List.mem_of_getElem? (i := 65) rfl))) (mvT hZ (hw _ (List.mem_of_getElem? (i := 64) rfl))) (by decide) (backOf (W := 0) (rmFA l Z a0 hw [] b71 v4_1 T76.heap n0 Zh76 FA76) hZ (hw _ (List.mem_of_getElem? (i := 66) rfl)) (hw _ (List.mem_of_getElem? (i := 10) rfl)) (by decide) (by decide)) q84a q84c (g := (mkF m 127 #[.val (.int pA), .val (.int pB), .val (.int pC), .val (.int pD), .val (.int v4_1), .val (.int (3 : Int32)), .val (.double v6_63), .second, .val (.double v8_64), .second, .val (.double v10_65), .second, .val (.double v12_66), .second, .val (.ref aQ67), .val (.ref aQ68), .val (.ref b71), .val (.int v17_83)] [(.ref b71)])) rfl (by rw [hml]; rfl) (Steps.refl _) (argsL := []) (rest := []) (lenOf pd_5 rfl) rfl (by show 2 * 0 + _ ≤ _; exact Nat.le_of_eq rfl) (hb hby at_127) (fun _ _ => ⟨rfl, e82, (by decide : 21 + 0 ≤ _), (by decide : 207 + 0 ≤ _)⟩)
    dsimp only [Pt.U, Pt.locs, Pt.cells, Pt.slots] at X84 l84 y84 z84 st84 hQ84
    subst l84 y84 z84
    obtain ⟨rfl, N84q, e84⟩ := hQ84
    have N84 := Fr.app N82 N84q
    refine own_back ?_ (fun t k => st84.trans k)
    show own_Go p e below PO (T84.setTop (mkF m 130 #[.val (.int pA), .val (.int pB), .val (.int pC), .val (.int pD), .val (.int v4_1), .val (.int (3 : Int32)), .val (.double v6_63), .second, .val (.double v8_64), .second, .val (.double v10_65), .second, .val (.double v12_66), .second, .val (.ref aQ67), .val (.ref aQ68), .val (.ref b71), .val (.int v17_83)] [(.int v4_1)]))
    refine own_back ?_ (fun t k => XS.iload X84.here hx rfl (hb hby at_130) rfl k)
    show own_Go p e below PO (T84.setTop (mkF m 132 #[.val (.int pA), .val (.int pB), .val (.int pC), .val (.int pD), .val (.int v4_1), .val (.int (3 : Int32)), .val (.double v6_63), .second, .val (.double v8_64), .second, .val (.double v10_65), .second, .val (.double v12_66), .second, .val (.ref aQ67), .val (.ref aQ68), .val (.ref b71), .val (.int v17_83)] [(.int v4_1), (.int v4_1)]))
    refine own_back ?_ (fun t k => XS.icmpNo X84.here hx rfl (hb hby at_132) rfl (teq rfl).2 k)
    show own_Go p e below PO (T84.setTop (mkF m 135 #[.val (.int pA), .val (.int pB), .val (.int pC), .val (.int pD), .val (.int v4_1), .val (.int (3 : Int32)), .val (.double v6_63), .second, .val (.double v8_64), .second, .val (.double v10_65), .second, .val (.double v12_66), .second, .val (.ref aQ67), .val (.ref aQ68), .val (.ref b71), .val (.int v17_83)] []))
    refine own_back ?_ (fun t k => XS.iload X84.here hx rfl (hb hby at_135) rfl k)
    show own_Go p e below PO (T84.setTop (mkF m 137 #[.val (.int pA), .val (.int pB), .val (.int pC), .val (.int pD), .val (.int v4_1), .val (.int (3 : Int32)), .val (.double v6_63), .second, .val (.double v8_64), .second, .val (.double v10_65), .second, .val (.double v12_66), .second, .val (.ref aQ67), .val (.ref aQ68), .val (.ref b71), .val (.int v17_83)] [(.int v17_83)]))
    refine own_back ?_ (fun t k => XS.iload X84.here hx rfl (hb hby at_137) rfl k)
    show own_Go p e below PO (T84.setTop (mkF m 139 #[.val (.int pA), .val (.int pB), .val (.int pC), .val (.int pD), .val (.int v4_1), .val (.int (3 : Int32)), .val (.double v6_63), .second, .val (.double v8_64), .second, .val (.double v10_65), .second, .val (.double v12_66), .second, .val (.ref aQ67), .val (.ref aQ68), .val (.ref b71), .val (.int v17_83)] [(.int v4_1), (.int v17_83)]))
    have hd139_85 : ¬ (v17_83 < v4_1) := by rw [h_v17_83]; exact own_lo hf (n := (3 : Int32)) (N := 3) (by decide) (by decide)
    refine own_back ?_ (fun t k => XS.icmpYes X84.here hx rfl (pc0 := 139) (pc' := 144) rfl (hb hby at_139) rfl (flt hd139_85).2.1 (by decide) (by decide) k)
    show own_Go p e below PO (T84.setTop (mkF m 144 #[.val (.int pA), .val (.int pB), .val (.int pC), .val (.int pD), .val (.int v4_1), .val (.int (3 : Int32)), .val (.double v6_63), .second, .val (.double v8_64), .second, .val (.double v10_65), .second, .val (.double v12_66), .second, .val (.ref aQ67), .val (.ref aQ68), .val (.ref b71), .val (.int v17_83)] []))
    refine own_back ?_ (fun t k => XS.aload X84.here hx rfl (hb hby at_144) rfl rfl k)
    show own_Go p e below PO (T84.setTop (mkF m 146 #[.val (.int pA), .val (.int pB), .val (.int pC), .val (.int pD), .val (.int v4_1), .val (.int (3 : Int32)), .val (.double v6_63), .second, .val (.double v8_64), .second, .val (.double v10_65), .second, .val (.double v12_66), .second, .val (.ref aQ67), .val (.ref aQ68), .val (.ref b71), .val (.int v17_83)] [(.ref b71)]))
    refine own_back ?_ (fun t k => XS.iload X84.here hx rfl (hb hby at_146) rfl k)
    show own_Go p e below PO (T84.setTop (mkF m 148 #[.val (.int pA), .val (.int pB), .val (.int pC), .val (.int pD), .val (.int v4_1), .val (.int (3 : Int32)), .val (.double v6_63), .second, .val (.double v8_64), .second, .val (.double v10_65), .second, .val (.double v12_66), .second, .val (.ref aQ67), .val (.ref aQ68), .val (.ref b71), .val (.int v17_83)] [(.int v17_83), (.ref b71)]))
    refine own_back ?_ (fun t k => XS.dconst1 X84.here hx rfl (v := (4607182418800017408 : UInt64)) (hb hby at_148) (by decide +kernel) k)
    show own_Go p e below PO (T84.setTop (mkF m 149 #[.val (.int pA), .val (.int pB), .val (.int pC), .val (.int pD), .val (.int v4_1), .val (.int (3 : Int32)), .val (.double v6_63), .second, .val (.double v8_64), .second, .val (.double v10_65), .second, .val (.double v12_66), .second, .val (.ref aQ67), .val (.ref aQ68), .val (.ref b71), .val (.int v17_83)] [(.double (4607182418800017408 : UInt64)), (.int v17_83), (.ref b71)]))
    obtain ⟨cq86, kq86, q86a, q86b, q86c⟩ := isOf hZ e84 f76_81
    obtain ⟨_, _, ⟨T86, L86, k86, n86⟩, -, X86, ⟨Lc86, hQ86, l86, y86, z86⟩, st86⟩ := X84.virtualBack hx (y := (⟨"com/example/overcap/overcap/model/MortalityTable", "getQx", "(ID)D"⟩ : MethodName)) (z := (⟨"com/example/overcap/overcap/model/MortalityTable", "getQx", "(ID)D"⟩ : MethodName)) hown (mvT hZ (hw _ (List.mem_of_getElem? (i := 67) rfl))) (mvT hZ (hw _ (List.mem_of_getElem? (i := 68) rfl))) (notFace_of_selects (args := #[]) (mvT hZ (hw _ (List.mem_of_getElem? (i := 70) rfl)))) (mvT hZ (hw _ (List.mem_of_getElem? (i := 70) rfl))) (mvT hZ (hw _ (List.mem_of_getElem? (i := 69) rfl))) (by decide) (backOf (W := 0) (rmQx_3_2 l Z a0 hw [] b71 v17_83 (4607182418800017408 : UInt64) v4_1 aM aF kQ67 kQ68 v6_63 v10_65 v8_64 v12_66 T76.heap n0 Zh76 f76_81 FA76 FM76 FF76 VM76 VF76 (by rw [h_v17_83]; exact own_lo hf (n := (3 : Int32)) (N := 3) (by decide) (by decide)) (by rw [h_v17_83]; exact Int32.lt_irrefl) (by rw [h_v17_83]; exact own_ix hf (n := (3 : Int32)) (N := 3) (by decide) (by decide) (by decide)) own_ok1 own_one1) hZ (hw _ (List.mem_of_getElem? (i := 71) rfl)) (hw _ (List.mem_of_getElem? (i := 10) rfl)) (by decide) (by decide)) q86a q86c (g := (mkF m 149 #[.val (.int pA), .val (.int pB), .val (.int pC), .val (.int pD), .val (.int v4_1), .val (.int (3 : Int32)), .val (.double v6_63), .second, .val (.double v8_64), .second, .val (.double v10_65), .second, .val (.double v12_66), .second, .val (.ref aQ67), .val (.ref aQ68), .val (.ref b71), .val (.int v17_83)] [(.double (4607182418800017408 : UInt64)), (.int v17_83), (.ref b71)])) rfl (by rw [hml]; rfl) (Steps.refl _) (argsL := [(.int v17_83), (.double (4607182418800017408 : UInt64))]) (rest := []) (lenOf pd_8 rfl) rfl (by show 2 * 0 + _ ≤ _; exact Nat.le_of_eq rfl) (hb hby at_149) (fun _ _ => ⟨rfl, e84, (by decide : 21 + 0 ≤ _), (by decide : 207 + 0 ≤ _)⟩)
    dsimp only [Pt.U, Pt.locs, Pt.cells, Pt.slots] at X86 l86 y86 z86 st86 hQ86
    subst l86 y86 z86
    obtain ⟨rfl, N86q, e86⟩ := hQ86
    have N86 := Fr.app N84 N86q
    refine own_back ?_ (fun t k => st86.trans k)
    show own_Go p e below PO (T86.setTop (mkF m 152 #[.val (.int pA), .val (.int pB), .val (.int pC), .val (.int pD), .val (.int v4_1), .val (.int (3 : Int32)), .val (.double v6_63), .second, .val (.double v8_64), .second, .val (.double v10_65), .second, .val (.double v12_66), .second, .val (.ref aQ67), .val (.ref aQ68), .val (.ref b71), .val (.int v17_83)] [(.double (own_mix (4607182418800017408 : UInt64) (4607182418800017408 : UInt64) (4607182418800017408 : UInt64)))]))
    refine own_gen (A := UInt64) (own_mix (4607182418800017408 : UInt64) (4607182418800017408 : UInt64) (4607182418800017408 : UInt64)) (fun r149_87 => own_Go p e below PO (T86.setTop (mkF m 152 #[.val (.int pA), .val (.int pB), .val (.int pC), .val (.int pD), .val (.int v4_1), .val (.int (3 : Int32)), .val (.double v6_63), .second, .val (.double v8_64), .second, .val (.double v10_65), .second, .val (.double v12_66), .second, .val (.ref aQ67), .val (.ref aQ68), .val (.ref b71), .val (.int v17_83)] [(.double r149_87)]))) ?_
    intro r149_87 h_r149_87
    show own_Go p e below PO (T86.setTop (mkF m 152 #[.val (.int pA), .val (.int pB), .val (.int pC), .val (.int pD), .val (.int v4_1), .val (.int (3 : Int32)), .val (.double v6_63), .second, .val (.double v8_64), .second, .val (.double v10_65), .second, .val (.double v12_66), .second, .val (.ref aQ67), .val (.ref aQ68), .val (.ref b71), .val (.int v17_83)] [(.double r149_87)]))
    refine own_back ?_ (fun t k => XS.dconst1 X86.here hx rfl (v := (4607182418800017408 : UInt64)) (hb hby at_152) (by decide +kernel) k)
    show own_Go p e below PO (T86.setTop (mkF m 153 #[.val (.int pA), .val (.int pB), .val (.int pC), .val (.int pD), .val (.int v4_1), .val (.int (3 : Int32)), .val (.double v6_63), .second, .val (.double v8_64), .second, .val (.double v10_65), .second, .val (.double v12_66), .second, .val (.ref aQ67), .val (.ref aQ68), .val (.ref b71), .val (.int v17_83)] [(.double (4607182418800017408 : UInt64)), (.double r149_87)]))
    refine own_back ?_ (fun t k => XS.dcmpS X86.here hx rfl (v := (0 : Int32)) (hb hby at_153) rfl (by rw [h_r149_87]; decide +kernel) k)
    show own_Go p e below PO (T86.setTop (mkF m 154 #[.val (.int pA), .val (.int pB), .val (.int pC), .val (.int pD), .val (.int v4_1), .val (.int (3 : Int32)), .val (.double v6_63), .second, .val (.double v8_64), .second, .val (.double v10_65), .second, .val (.double v12_66), .second, .val (.ref aQ67), .val (.ref aQ68), .val (.ref b71), .val (.int v17_83)] [(.int (0 : Int32))]))
    refine own_back ?_ (fun t k => XS.ifNo X86.here hx rfl (hb hby at_154) rfl ((if0 _ _).trans (teq rfl).2) k)
    show own_Go p e below PO (T86.setTop (mkF m 157 #[.val (.int pA), .val (.int pB), .val (.int pC), .val (.int pD), .val (.int v4_1), .val (.int (3 : Int32)), .val (.double v6_63), .second, .val (.double v8_64), .second, .val (.double v10_65), .second, .val (.double v12_66), .second, .val (.ref aQ67), .val (.ref aQ68), .val (.ref b71), .val (.int v17_83)] []))
    refine own_back ?_ (fun t k => XS.aload X86.here hx rfl (hb hby at_157) rfl rfl k)
    show own_Go p e below PO (T86.setTop (mkF m 159 #[.val (.int pA), .val (.int pB), .val (.int pC), .val (.int pD), .val (.int v4_1), .val (.int (3 : Int32)), .val (.double v6_63), .second, .val (.double v8_64), .second, .val (.double v10_65), .second, .val (.double v12_66), .second, .val (.ref aQ67), .val (.ref aQ68), .val (.ref b71), .val (.int v17_83)] [(.ref b71)]))
    refine own_back ?_ (fun t k => XS.iload X86.here hx rfl (hb hby at_159) rfl k)
    show own_Go p e below PO (T86.setTop (mkF m 161 #[.val (.int pA), .val (.int pB), .val (.int pC), .val (.int pD), .val (.int v4_1), .val (.int (3 : Int32)), .val (.double v6_63), .second, .val (.double v8_64), .second, .val (.double v10_65), .second, .val (.double v12_66), .second, .val (.ref aQ67), .val (.ref aQ68), .val (.ref b71), .val (.int v17_83)] [(.int v17_83), (.ref b71)]))
    refine own_back ?_ (fun t k => XS.dconst0 X86.here hx rfl (v := (0 : UInt64)) (hb hby at_161) (by decide +kernel) k)
    show own_Go p e below PO (T86.setTop (mkF m 162 #[.val (.int pA), .val (.int pB), .val (.int pC), .val (.int pD), .val (.int v4_1), .val (.int (3 : Int32)), .val (.double v6_63), .second, .val (.double v8_64), .second, .val (.double v10_65), .second, .val (.double v12_66), .second, .val (.ref aQ67), .val (.ref aQ68), .val (.ref b71), .val (.int v17_83)] [(.double (0 : UInt64)), (.int v17_83), (.ref b71)]))
    obtain ⟨cq88, kq88, q88a, q88b, q88c⟩ := isOf hZ e86 f76_81
    obtain ⟨_, _, ⟨T88, L88, k88, n88⟩, -, X88, ⟨Lc88, hQ88, l88, y88, z88⟩, st88⟩ := X86.virtualBack hx (y := (⟨"com/example/overcap/overcap/model/MortalityTable", "getQx", "(ID)D"⟩ : MethodName)) (z := (⟨"com/example/overcap/overcap/model/MortalityTable", "getQx", "(ID)D"⟩ : MethodName)) hown (mvT hZ (hw _ (List.mem_of_getElem? (i := 67) rfl))) (mvT hZ (hw _ (List.mem_of_getElem? (i := 68) rfl))) (notFace_of_selects (args := #[]) (mvT hZ (hw _ (List.mem_of_getElem? (i := 70) rfl)))) (mvT hZ (hw _ (List.mem_of_getElem? (i := 70) rfl))) (mvT hZ (hw _ (List.mem_of_getElem? (i := 69) rfl))) (by decide) (backOf (W := 0) (rmQx_3_2 l Z a0 hw [] b71 v17_83 (0 : UInt64) v4_1 aM aF kQ67 kQ68 v6_63 v10_65 v8_64 v12_66 T76.heap n0 Zh76 f76_81 FA76 FM76 FF76 VM76 VF76 (by rw [h_v17_83]; exact own_lo hf (n := (3 : Int32)) (N := 3) (by decide) (by decide)) (by rw [h_v17_83]; exact Int32.lt_irrefl) (by rw [h_v17_83]; exact own_ix hf (n := (3 : Int32)) (N := 3) (by decide) (by decide) (by decide)) own_ok0 own_one0) hZ (hw _ (List.mem_of_getElem? (i := 71) rfl)) (hw _ (List.mem_of_getElem? (i := 10) rfl)) (by decide) (by decide)) q88a q88c (g := (mkF m 162 #[.val (.int pA), .val (.int pB), .val (.int pC), .val (.int pD), .val (.int v4_1), .val (.int (3 : Int32)), .val (.double v6_63), .second, .val (.double v8_64), .second, .val (.double v10_65), .second, .val (.double v12_66), .second, .val (.ref aQ67), .val (.ref aQ68), .val (.ref b71), .val (.int v17_83)] [(.double (0 : UInt64)), (.int v17_83), (.ref b71)])) rfl (by rw [hml]; rfl) (Steps.refl _) (argsL := [(.int v17_83), (.double (0 : UInt64))]) (rest := []) (lenOf pd_8 rfl) rfl (by show 2 * 0 + _ ≤ _; exact Nat.le_of_eq rfl) (hb hby at_162) (fun _ _ => ⟨rfl, e86, (by decide : 21 + 0 ≤ _), (by decide : 207 + 0 ≤ _)⟩)
    dsimp only [Pt.U, Pt.locs, Pt.cells, Pt.slots] at X88 l88 y88 z88 st88 hQ88
    subst l88 y88 z88
    obtain ⟨rfl, N88q, e88⟩ := hQ88
    have N88 := Fr.app N86 N88q
    refine own_back ?_ (fun t k => st88.trans k)
    show own_Go p e below PO (T88.setTop (mkF m 165 #[.val (.int pA), .val (.int pB), .val (.int pC), .val (.int pD), .val (.int v4_1), .val (.int (3 : Int32)), .val (.double v6_63), .second, .val (.double v8_64), .second, .val (.double v10_65), .second, .val (.double v12_66), .second, .val (.ref aQ67), .val (.ref aQ68), .val (.ref b71), .val (.int v17_83)] [(.double (own_mix (0 : UInt64) (4607182418800017408 : UInt64) (4607182418800017408 : UInt64)))]))
    refine own_gen (A := UInt64) (own_mix (0 : UInt64) (4607182418800017408 : UInt64) (4607182418800017408 : UInt64)) (fun r162_89 => own_Go p e below PO (T88.setTop (mkF m 165 #[.val (.int pA), .val (.int pB), .val (.int pC), .val (.int pD), .val (.int v4_1), .val (.int (3 : Int32)), .val (.double v6_63), .second, .val (.double v8_64), .second, .val (.double v10_65), .second, .val (.double v12_66), .second, .val (.ref aQ67), .val (.ref aQ68), .val (.ref b71), .val (.int v17_83)] [(.double r162_89)]))) ?_
    intro r162_89 h_r162_89
    show own_Go p e below PO (T88.setTop (mkF m 165 #[.val (.int pA), .val (.int pB), .val (.int pC), .val (.int pD), .val (.int v4_1), .val (.int (3 : Int32)), .val (.double v6_63), .second, .val (.double v8_64), .second, .val (.double v10_65), .second, .val (.double v12_66), .second, .val (.ref aQ67), .val (.ref aQ68), .val (.ref b71), .val (.int v17_83)] [(.double r162_89)]))
    refine own_back ?_ (fun t k => XS.dconst1 X88.here hx rfl (v := (4607182418800017408 : UInt64)) (hb hby at_165) (by decide +kernel) k)
    show own_Go p e below PO (T88.setTop (mkF m 166 #[.val (.int pA), .val (.int pB), .val (.int pC), .val (.int pD), .val (.int v4_1), .val (.int (3 : Int32)), .val (.double v6_63), .second, .val (.double v8_64), .second, .val (.double v10_65), .second, .val (.double v12_66), .second, .val (.ref aQ67), .val (.ref aQ68), .val (.ref b71), .val (.int v17_83)] [(.double (4607182418800017408 : UInt64)), (.double r162_89)]))
    refine own_back ?_ (fun t k => XS.dcmpS X88.here hx rfl (v := (0 : Int32)) (hb hby at_166) rfl (by rw [h_r162_89]; decide +kernel) k)
    show own_Go p e below PO (T88.setTop (mkF m 167 #[.val (.int pA), .val (.int pB), .val (.int pC), .val (.int pD), .val (.int v4_1), .val (.int (3 : Int32)), .val (.double v6_63), .second, .val (.double v8_64), .second, .val (.double v10_65), .second, .val (.double v12_66), .second, .val (.ref aQ67), .val (.ref aQ68), .val (.ref b71), .val (.int v17_83)] [(.int (0 : Int32))]))
    refine own_back ?_ (fun t k => XS.ifYes X88.here hx rfl (pc0 := 167) (pc' := 172) rfl (hb hby at_167) rfl ((if0 _ _).trans (teq rfl).1) (by decide) (by decide) k)
    show own_Go p e below PO (T88.setTop (mkF m 172 #[.val (.int pA), .val (.int pB), .val (.int pC), .val (.int pD), .val (.int v4_1), .val (.int (3 : Int32)), .val (.double v6_63), .second, .val (.double v8_64), .second, .val (.double v10_65), .second, .val (.double v12_66), .second, .val (.ref aQ67), .val (.ref aQ68), .val (.ref b71), .val (.int v17_83)] []))
    refine own_back ?_ (fun t k => XS.iload X88.here hx rfl (hb hby at_172) rfl k)
    show own_Go p e below PO (T88.setTop (mkF m 174 #[.val (.int pA), .val (.int pB), .val (.int pC), .val (.int pD), .val (.int v4_1), .val (.int (3 : Int32)), .val (.double v6_63), .second, .val (.double v8_64), .second, .val (.double v10_65), .second, .val (.double v12_66), .second, .val (.ref aQ67), .val (.ref aQ68), .val (.ref b71), .val (.int v17_83)] [(.int (3 : Int32))]))
    refine own_back ?_ (fun t k => XS.iconst X88.here hx rfl (hb hby at_174) k)
    show own_Go p e below PO (T88.setTop (mkF m 175 #[.val (.int pA), .val (.int pB), .val (.int pC), .val (.int pD), .val (.int v4_1), .val (.int (3 : Int32)), .val (.double v6_63), .second, .val (.double v8_64), .second, .val (.double v10_65), .second, .val (.double v12_66), .second, .val (.ref aQ67), .val (.ref aQ68), .val (.ref b71), .val (.int v17_83)] [(.int (2 : Int32)), (.int (3 : Int32))]))
    have hd175_90 : ¬ ((3 : Int32) < (2 : Int32)) := (by decide)
    refine own_back ?_ (fun t k => XS.icmpNo X88.here hx rfl (hb hby at_175) rfl (flt hd175_90).1 k)
    show own_Go p e below PO (T88.setTop (mkF m 178 #[.val (.int pA), .val (.int pB), .val (.int pC), .val (.int pD), .val (.int v4_1), .val (.int (3 : Int32)), .val (.double v6_63), .second, .val (.double v8_64), .second, .val (.double v10_65), .second, .val (.double v12_66), .second, .val (.ref aQ67), .val (.ref aQ68), .val (.ref b71), .val (.int v17_83)] []))
    refine own_back ?_ (fun t k => XS.aload X88.here hx rfl (hb hby at_178) rfl rfl k)
    show own_Go p e below PO (T88.setTop (mkF m 180 #[.val (.int pA), .val (.int pB), .val (.int pC), .val (.int pD), .val (.int v4_1), .val (.int (3 : Int32)), .val (.double v6_63), .second, .val (.double v8_64), .second, .val (.double v10_65), .second, .val (.double v12_66), .second, .val (.ref aQ67), .val (.ref aQ68), .val (.ref b71), .val (.int v17_83)] [(.ref b71)]))
    refine own_back ?_ (fun t k => XS.iload X88.here hx rfl (hb hby at_180) rfl k)
    show own_Go p e below PO (T88.setTop (mkF m 182 #[.val (.int pA), .val (.int pB), .val (.int pC), .val (.int pD), .val (.int v4_1), .val (.int (3 : Int32)), .val (.double v6_63), .second, .val (.double v8_64), .second, .val (.double v10_65), .second, .val (.double v12_66), .second, .val (.ref aQ67), .val (.ref aQ68), .val (.ref b71), .val (.int v17_83)] [(.int v17_83), (.ref b71)]))
    refine own_back ?_ (fun t k => XS.iconst X88.here hx rfl (hb hby at_182) k)
    show own_Go p e below PO (T88.setTop (mkF m 183 #[.val (.int pA), .val (.int pB), .val (.int pC), .val (.int pD), .val (.int v4_1), .val (.int (3 : Int32)), .val (.double v6_63), .second, .val (.double v8_64), .second, .val (.double v10_65), .second, .val (.double v12_66), .second, .val (.ref aQ67), .val (.ref aQ68), .val (.ref b71), .val (.int v17_83)] [(.int (1 : Int32)), (.int v17_83), (.ref b71)]))
    refine own_back ?_ (fun t k => XS.isub X88.here hx rfl (hb hby at_183) rfl k)
    show own_Go p e below PO (T88.setTop (mkF m 184 #[.val (.int pA), .val (.int pB), .val (.int pC), .val (.int pD), .val (.int v4_1), .val (.int (3 : Int32)), .val (.double v6_63), .second, .val (.double v8_64), .second, .val (.double v10_65), .second, .val (.double v12_66), .second, .val (.ref aQ67), .val (.ref aQ68), .val (.ref b71), .val (.int v17_83)] [(.int (v17_83 - (1 : Int32))), (.ref b71)]))
    refine own_back ?_ (fun t k => XS.dconst1 X88.here hx rfl (v := (4607182418800017408 : UInt64)) (hb hby at_184) (by decide +kernel) k)
    show own_Go p e below PO (T88.setTop (mkF m 185 #[.val (.int pA), .val (.int pB), .val (.int pC), .val (.int pD), .val (.int v4_1), .val (.int (3 : Int32)), .val (.double v6_63), .second, .val (.double v8_64), .second, .val (.double v10_65), .second, .val (.double v12_66), .second, .val (.ref aQ67), .val (.ref aQ68), .val (.ref b71), .val (.int v17_83)] [(.double (4607182418800017408 : UInt64)), (.int (v17_83 - (1 : Int32))), (.ref b71)]))
    obtain ⟨cq91, kq91, q91a, q91b, q91c⟩ := isOf hZ e88 f76_81
    obtain ⟨_, _, ⟨T91, L91, k91, n91⟩, -, X91, ⟨Lc91, hQ91, l91, y91, z91⟩, st91⟩ := X88.virtualBack hx (y := (⟨"com/example/overcap/overcap/model/MortalityTable", "getQx", "(ID)D"⟩ : MethodName)) (z := (⟨"com/example/overcap/overcap/model/MortalityTable", "getQx", "(ID)D"⟩ : MethodName)) hown (mvT hZ (hw _ (List.mem_of_getElem? (i := 67) rfl))) (mvT hZ (hw _ (List.mem_of_getElem? (i := 68) rfl))) (notFace_of_selects (args := #[]) (mvT hZ (hw _ (List.mem_of_getElem? (i := 70) rfl)))) (mvT hZ (hw _ (List.mem_of_getElem? (i := 70) rfl))) (mvT hZ (hw _ (List.mem_of_getElem? (i := 69) rfl))) (by decide) (backOf (W := 0) (rmQx_3_1 l Z a0 hw [] b71 (v17_83 - (1 : Int32)) (4607182418800017408 : UInt64) v4_1 aM aF kQ67 kQ68 v6_63 v10_65 v8_64 v12_66 T76.heap n0 Zh76 f76_81 FA76 FM76 FF76 VM76 VF76 (by rw [h_v17_83]; exact own_lo2 hf (n := (3 : Int32)) (N := 3) (by decide) (by decide)) (by rw [h_v17_83]; exact own_hi2 hf (n := (3 : Int32)) (N := 3) (by decide) (by decide)) (by rw [h_v17_83]; exact own_ix2 hf (n := (3 : Int32)) (N := 3) (by decide) (by decide) (by decide)) own_ok1 (own_m1 hq8 hq12).1) hZ (hw _ (List.mem_of_getElem? (i := 71) rfl)) (hw _ (List.mem_of_getElem? (i := 10) rfl)) (by decide) (by decide)) q91a q91c (g := (mkF m 185 #[.val (.int pA), .val (.int pB), .val (.int pC), .val (.int pD), .val (.int v4_1), .val (.int (3 : Int32)), .val (.double v6_63), .second, .val (.double v8_64), .second, .val (.double v10_65), .second, .val (.double v12_66), .second, .val (.ref aQ67), .val (.ref aQ68), .val (.ref b71), .val (.int v17_83)] [(.double (4607182418800017408 : UInt64)), (.int (v17_83 - (1 : Int32))), (.ref b71)])) rfl (by rw [hml]; rfl) (Steps.refl _) (argsL := [(.int (v17_83 - (1 : Int32))), (.double (4607182418800017408 : UInt64))]) (rest := []) (lenOf pd_8 rfl) rfl (by show 2 * 0 + _ ≤ _; exact Nat.le_of_eq rfl) (hb hby at_185) (fun _ _ => ⟨rfl, e88, (by decide : 21 + 0 ≤ _), (by decide : 207 + 0 ≤ _)⟩)
    dsimp only [Pt.U, Pt.locs, Pt.cells, Pt.slots] at X91 l91 y91 z91 st91 hQ91
    subst l91 y91 z91
    obtain ⟨rfl, N91q, e91⟩ := hQ91
    have N91 := Fr.app N88 N91q
    refine own_back ?_ (fun t k => st91.trans k)
    show own_Go p e below PO (T91.setTop (mkF m 188 #[.val (.int pA), .val (.int pB), .val (.int pC), .val (.int pD), .val (.int v4_1), .val (.int (3 : Int32)), .val (.double v6_63), .second, .val (.double v8_64), .second, .val (.double v10_65), .second, .val (.double v12_66), .second, .val (.ref aQ67), .val (.ref aQ68), .val (.ref b71), .val (.int v17_83)] [(.double (own_mix (4607182418800017408 : UInt64) v8_64 v12_66))]))
    refine own_gen (A := UInt64) (own_mix (4607182418800017408 : UInt64) v8_64 v12_66) (fun r185_92 => own_Go p e below PO (T91.setTop (mkF m 188 #[.val (.int pA), .val (.int pB), .val (.int pC), .val (.int pD), .val (.int v4_1), .val (.int (3 : Int32)), .val (.double v6_63), .second, .val (.double v8_64), .second, .val (.double v10_65), .second, .val (.double v12_66), .second, .val (.ref aQ67), .val (.ref aQ68), .val (.ref b71), .val (.int v17_83)] [(.double r185_92)]))) ?_
    intro r185_92 h_r185_92
    show own_Go p e below PO (T91.setTop (mkF m 188 #[.val (.int pA), .val (.int pB), .val (.int pC), .val (.int pD), .val (.int v4_1), .val (.int (3 : Int32)), .val (.double v6_63), .second, .val (.double v8_64), .second, .val (.double v10_65), .second, .val (.double v12_66), .second, .val (.ref aQ67), .val (.ref aQ68), .val (.ref b71), .val (.int v17_83)] [(.double r185_92)]))
    refine own_back ?_ (fun t k => XS.dload X91.here hx rfl (hb hby at_188) rfl k)
    show own_Go p e below PO (T91.setTop (mkF m 190 #[.val (.int pA), .val (.int pB), .val (.int pC), .val (.int pD), .val (.int v4_1), .val (.int (3 : Int32)), .val (.double v6_63), .second, .val (.double v8_64), .second, .val (.double v10_65), .second, .val (.double v12_66), .second, .val (.ref aQ67), .val (.ref aQ68), .val (.ref b71), .val (.int v17_83)] [(.double v8_64), (.double r185_92)]))
    refine own_back ?_ (fun t k => XS.dcmpS X91.here hx rfl (v := (0 : Int32)) (hb hby at_190) rfl (by rw [h_r185_92]; exact (own_m1 hq8 hq12).2) k)
    show own_Go p e below PO (T91.setTop (mkF m 191 #[.val (.int pA), .val (.int pB), .val (.int pC), .val (.int pD), .val (.int v4_1), .val (.int (3 : Int32)), .val (.double v6_63), .second, .val (.double v8_64), .second, .val (.double v10_65), .second, .val (.double v12_66), .second, .val (.ref aQ67), .val (.ref aQ68), .val (.ref b71), .val (.int v17_83)] [(.int (0 : Int32))]))
    refine own_back ?_ (fun t k => XS.ifNo X91.here hx rfl (hb hby at_191) rfl ((if0 _ _).trans (teq rfl).2) k)
    show own_Go p e below PO (T91.setTop (mkF m 194 #[.val (.int pA), .val (.int pB), .val (.int pC), .val (.int pD), .val (.int v4_1), .val (.int (3 : Int32)), .val (.double v6_63), .second, .val (.double v8_64), .second, .val (.double v10_65), .second, .val (.double v12_66), .second, .val (.ref aQ67), .val (.ref aQ68), .val (.ref b71), .val (.int v17_83)] []))
    refine own_back ?_ (fun t k => XS.aload X91.here hx rfl (hb hby at_194) rfl rfl k)
    show own_Go p e below PO (T91.setTop (mkF m 196 #[.val (.int pA), .val (.int pB), .val (.int pC), .val (.int pD), .val (.int v4_1), .val (.int (3 : Int32)), .val (.double v6_63), .second, .val (.double v8_64), .second, .val (.double v10_65), .second, .val (.double v12_66), .second, .val (.ref aQ67), .val (.ref aQ68), .val (.ref b71), .val (.int v17_83)] [(.ref b71)]))
    refine own_back ?_ (fun t k => XS.iload X91.here hx rfl (hb hby at_196) rfl k)
    show own_Go p e below PO (T91.setTop (mkF m 198 #[.val (.int pA), .val (.int pB), .val (.int pC), .val (.int pD), .val (.int v4_1), .val (.int (3 : Int32)), .val (.double v6_63), .second, .val (.double v8_64), .second, .val (.double v10_65), .second, .val (.double v12_66), .second, .val (.ref aQ67), .val (.ref aQ68), .val (.ref b71), .val (.int v17_83)] [(.int v17_83), (.ref b71)]))
    refine own_back ?_ (fun t k => XS.iconst X91.here hx rfl (hb hby at_198) k)
    show own_Go p e below PO (T91.setTop (mkF m 199 #[.val (.int pA), .val (.int pB), .val (.int pC), .val (.int pD), .val (.int v4_1), .val (.int (3 : Int32)), .val (.double v6_63), .second, .val (.double v8_64), .second, .val (.double v10_65), .second, .val (.double v12_66), .second, .val (.ref aQ67), .val (.ref aQ68), .val (.ref b71), .val (.int v17_83)] [(.int (1 : Int32)), (.int v17_83), (.ref b71)]))
    refine own_back ?_ (fun t k => XS.isub X91.here hx rfl (hb hby at_199) rfl k)
    show own_Go p e below PO (T91.setTop (mkF m 200 #[.val (.int pA), .val (.int pB), .val (.int pC), .val (.int pD), .val (.int v4_1), .val (.int (3 : Int32)), .val (.double v6_63), .second, .val (.double v8_64), .second, .val (.double v10_65), .second, .val (.double v12_66), .second, .val (.ref aQ67), .val (.ref aQ68), .val (.ref b71), .val (.int v17_83)] [(.int (v17_83 - (1 : Int32))), (.ref b71)]))
    refine own_back ?_ (fun t k => XS.dconst0 X91.here hx rfl (v := (0 : UInt64)) (hb hby at_200) (by decide +kernel) k)
    show own_Go p e below PO (T91.setTop (mkF m 201 #[.val (.int pA), .val (.int pB), .val (.int pC), .val (.int pD), .val (.int v4_1), .val (.int (3 : Int32)), .val (.double v6_63), .second, .val (.double v8_64), .second, .val (.double v10_65), .second, .val (.double v12_66), .second, .val (.ref aQ67), .val (.ref aQ68), .val (.ref b71), .val (.int v17_83)] [(.double (0 : UInt64)), (.int (v17_83 - (1 : Int32))), (.ref b71)]))
    obtain ⟨cq93, kq93, q93a, q93b, q93c⟩ := isOf hZ e91 f76_81
    obtain ⟨_, _, ⟨T93, L93, k93, n93⟩, -, X93, ⟨Lc93, hQ93, l93, y93, z93⟩, st93⟩ := X91.virtualBack hx (y := (⟨"com/example/overcap/overcap/model/MortalityTable", "getQx", "(ID)D"⟩ : MethodName)) (z := (⟨"com/example/overcap/overcap/model/MortalityTable", "getQx", "(ID)D"⟩ : MethodName)) hown (mvT hZ (hw _ (List.mem_of_getElem? (i := 67) rfl))) (mvT hZ (hw _ (List.mem_of_getElem? (i := 68) rfl))) (notFace_of_selects (args := #[]) (mvT hZ (hw _ (List.mem_of_getElem? (i := 70) rfl)))) (mvT hZ (hw _ (List.mem_of_getElem? (i := 70) rfl))) (mvT hZ (hw _ (List.mem_of_getElem? (i := 69) rfl))) (by decide) (backOf (W := 0) (rmQx_3_1 l Z a0 hw [] b71 (v17_83 - (1 : Int32)) (0 : UInt64) v4_1 aM aF kQ67 kQ68 v6_63 v10_65 v8_64 v12_66 T76.heap n0 Zh76 f76_81 FA76 FM76 FF76 VM76 VF76 (by rw [h_v17_83]; exact own_lo2 hf (n := (3 : Int32)) (N := 3) (by decide) (by decide)) (by rw [h_v17_83]; exact own_hi2 hf (n := (3 : Int32)) (N := 3) (by decide) (by decide)) (by rw [h_v17_83]; exact own_ix2 hf (n := (3 : Int32)) (N := 3) (by decide) (by decide) (by decide)) own_ok0 (own_m0 hq8 hq12).1) hZ (hw _ (List.mem_of_getElem? (i := 71) rfl)) (hw _ (List.mem_of_getElem? (i := 10) rfl)) (by decide) (by decide)) q93a q93c (g := (mkF m 201 #[.val (.int pA), .val (.int pB), .val (.int pC), .val (.int pD), .val (.int v4_1), .val (.int (3 : Int32)), .val (.double v6_63), .second, .val (.double v8_64), .second, .val (.double v10_65), .second, .val (.double v12_66), .second, .val (.ref aQ67), .val (.ref aQ68), .val (.ref b71), .val (.int v17_83)] [(.double (0 : UInt64)), (.int (v17_83 - (1 : Int32))), (.ref b71)])) rfl (by rw [hml]; rfl) (Steps.refl _) (argsL := [(.int (v17_83 - (1 : Int32))), (.double (0 : UInt64))]) (rest := []) (lenOf pd_8 rfl) rfl (by show 2 * 0 + _ ≤ _; exact Nat.le_of_eq rfl) (hb hby at_201) (fun _ _ => ⟨rfl, e91, (by decide : 21 + 0 ≤ _), (by decide : 207 + 0 ≤ _)⟩)
    dsimp only [Pt.U, Pt.locs, Pt.cells, Pt.slots] at X93 l93 y93 z93 st93 hQ93
    subst l93 y93 z93
    obtain ⟨rfl, N93q, e93⟩ := hQ93
    have N93 := Fr.app N91 N93q
    refine own_back ?_ (fun t k => st93.trans k)
    show own_Go p e below PO (T93.setTop (mkF m 204 #[.val (.int pA), .val (.int pB), .val (.int pC), .val (.int pD), .val (.int v4_1), .val (.int (3 : Int32)), .val (.double v6_63), .second, .val (.double v8_64), .second, .val (.double v10_65), .second, .val (.double v12_66), .second, .val (.ref aQ67), .val (.ref aQ68), .val (.ref b71), .val (.int v17_83)] [(.double (own_mix (0 : UInt64) v8_64 v12_66))]))
    refine own_gen (A := UInt64) (own_mix (0 : UInt64) v8_64 v12_66) (fun r201_94 => own_Go p e below PO (T93.setTop (mkF m 204 #[.val (.int pA), .val (.int pB), .val (.int pC), .val (.int pD), .val (.int v4_1), .val (.int (3 : Int32)), .val (.double v6_63), .second, .val (.double v8_64), .second, .val (.double v10_65), .second, .val (.double v12_66), .second, .val (.ref aQ67), .val (.ref aQ68), .val (.ref b71), .val (.int v17_83)] [(.double r201_94)]))) ?_
    intro r201_94 h_r201_94
    show own_Go p e below PO (T93.setTop (mkF m 204 #[.val (.int pA), .val (.int pB), .val (.int pC), .val (.int pD), .val (.int v4_1), .val (.int (3 : Int32)), .val (.double v6_63), .second, .val (.double v8_64), .second, .val (.double v10_65), .second, .val (.double v12_66), .second, .val (.ref aQ67), .val (.ref aQ68), .val (.ref b71), .val (.int v17_83)] [(.double r201_94)]))
    refine own_back ?_ (fun t k => XS.dload X93.here hx rfl (hb hby at_204) rfl k)
    show own_Go p e below PO (T93.setTop (mkF m 206 #[.val (.int pA), .val (.int pB), .val (.int pC), .val (.int pD), .val (.int v4_1), .val (.int (3 : Int32)), .val (.double v6_63), .second, .val (.double v8_64), .second, .val (.double v10_65), .second, .val (.double v12_66), .second, .val (.ref aQ67), .val (.ref aQ68), .val (.ref b71), .val (.int v17_83)] [(.double v12_66), (.double r201_94)]))
    refine own_back ?_ (fun t k => XS.dcmpS X93.here hx rfl (v := (0 : Int32)) (hb hby at_206) rfl (by rw [h_r201_94]; exact (own_m0 hq8 hq12).2) k)
    show own_Go p e below PO (T93.setTop (mkF m 207 #[.val (.int pA), .val (.int pB), .val (.int pC), .val (.int pD), .val (.int v4_1), .val (.int (3 : Int32)), .val (.double v6_63), .second, .val (.double v8_64), .second, .val (.double v10_65), .second, .val (.double v12_66), .second, .val (.ref aQ67), .val (.ref aQ68), .val (.ref b71), .val (.int v17_83)] [(.int (0 : Int32))]))
    refine own_back ?_ (fun t k => XS.ifYes X93.here hx rfl (pc0 := 207) (pc' := 212) rfl (hb hby at_207) rfl ((if0 _ _).trans (teq rfl).1) (by decide) (by decide) k)
    show own_Go p e below PO (T93.setTop (mkF m 212 #[.val (.int pA), .val (.int pB), .val (.int pC), .val (.int pD), .val (.int v4_1), .val (.int (3 : Int32)), .val (.double v6_63), .second, .val (.double v8_64), .second, .val (.double v10_65), .second, .val (.double v12_66), .second, .val (.ref aQ67), .val (.ref aQ68), .val (.ref b71), .val (.int v17_83)] []))
    refine own_back ?_ (fun t k => XS.iconst X93.here hx rfl (hb hby at_212) k)
    show own_Go p e below PO (T93.setTop (mkF m 213 #[.val (.int pA), .val (.int pB), .val (.int pC), .val (.int pD), .val (.int v4_1), .val (.int (3 : Int32)), .val (.double v6_63), .second, .val (.double v8_64), .second, .val (.double v10_65), .second, .val (.double v12_66), .second, .val (.ref aQ67), .val (.ref aQ68), .val (.ref b71), .val (.int v17_83)] [(.int (1 : Int32))]))
    refine own_retNW X93 hx (t := .boolean) (rest := []) Bd.returns (by decide) (by simp) (hb hby at_213) e93 (Bd.notSynchronized) ?_ (by decide) (by decide) (s := s) (vm0 := T76.vm) hS76 (Nat.le_refl _)
    exact ⟨rfl, N93⟩
set_option maxRecDepth 65536 in
set_option maxHeartbeats 40000000 in
theorem comes_1 {Post : Tables → Env → Array Value → State → Outcome → State → Prop} (hpost : ∀ tb e args s v u, (limb_1_1.after args s (.returned v) u = true ∧ limb_1_2.after args s (.returned v) u = true ∧ True) → ReturnedEndW s (.returned v) u (Jvm.fieldLocs frame_1_writes args s ++ Jvm.arrayLocs frame_1_arrays args s ++ Jvm.staticLocs frame_1_statics s) 24 2176 → Post tb e args s (.returned v) u) :
    ArmFor flags0 classFile x code maxLocals ret World_1 tables_1 room_1 Calls_1 rest_1 Pre_1 Post := by
  intro l hfl _ _ p e ha hc hk s m args below hf hA hF happ hP
  obtain ⟨hcalls, hrest, hpre⟩ := hP
  obtain ⟨-, -, -, hnamed, -, -, -, hat⟩ := (Spec.applies_iff hf).mp happ
  obtain ⟨hg, hn⟩ := and_e (Cond.before_iff.mp (show (Jvm.Cond.and given_1 narrow_1).before args s = true from hpre))
  obtain ⟨gc, g0⟩ := and_e hg
  obtain ⟨ga0, g1⟩ := and_e g0
  obtain ⟨ga1, g2⟩ := and_e g1
  obtain ⟨ga2, g3⟩ := and_e g2
  obtain ⟨w0, w1, w2, w3, rfl⟩ : ∃ w0 w1 w2 w3 : Value, args = #[w0, w1, w2, w3] := by
    have hs : args.size = 4 := by simpa [Cond.value, given_1] using gc
    obtain ⟨L⟩ := args
    match L, hs with
    | [w0, w1, w2, w3], _ => exact ⟨w0, w1, w2, w3, rfl⟩
  have hw := fun d (hd : d ∈ tables_1) => atoms_spec (ws := Jvm.Cond.code x code maxLocals ret :: tables_1) hat d (List.mem_cons_of_mem _ hd)
  obtain ⟨i0, ei0⟩ := is_v ga0
  obtain rfl : w0 = (.int i0) := Option.some.inj ei0
  obtain ⟨i1, ei1⟩ := is_v ga1
  obtain rfl : w1 = (.int i1) := Option.some.inj ei1
  obtain ⟨i2, ei2⟩ := is_v ga2
  obtain rfl : w2 = (.int i2) := Option.some.inj ei2
  obtain ⟨i3, ei3⟩ := is_v g3
  obtain rfl : w3 = (.int i3) := Option.some.inj ei3
  obtain ⟨n, o, h1, h2, h3, _, L, rfl, ⟨rfl, N⟩, hq⟩ := rm0 l s _ hw tables_1 i0 i1 i2 i3  s.heap s.heap.size (Nat.le_refl _)  p e ha hc hk s m _ below hf ((Spec.applies_iff_loose hf).mp happ).1 ⟨rfl, State.Warmed39.refl s, rfl⟩ trivial
  refine ⟨n, _, h1, h2, h3, hpost _ _ _ _ _ _ ⟨Cond.after_iff.mpr rfl, Cond.after_iff.mpr (eq_i res_at (Term.int_eval (1)) rfl), trivial⟩ ⟨hq.1, hq.2.1, hq.2.2.1, (hq.2.2.2.sift fun y hy => Or.inr (N y hy)).mono (by decide) (by decide)⟩⟩
theorem main_1_1 : Claimed_1_1 := comes_1 fun _ _ _ _ _ _ h hF => ⟨h.1, hF⟩
theorem main_1_2 : Claimed_1_2 := comes_1 fun _ _ _ _ _ _ h hF => ⟨h.2.1, hF⟩
end Jvm.Pilot.@@N@@
namespace Jvm.Pilot.@@N@@
open Jvm Jvm.ClassFile Sem Op Lib Jvm.Free Jvm.Stand Jvm.Pilot.@@N@@.Jvm.D
/-! MADE BY PROGRAM (witnessworld.py) out of the Statement's table words and the real class files: 14 classes; the members and pool entries that the words name. The judged class is class 1, her method 2. -/
namespace start1
open Jvm.ClassFile
def u (s : String) : CpInfo := .utf8 (stringToUtf16 s)
/-- a pool by its gaps: so many unusable entries, then the entry; so many at the end -/
def gap : Nat → List CpInfo → List CpInfo
  | 0, r => r
  | n + 1, r => .unusable :: gap n r
def poolList (es : List (Nat × CpInfo)) (last : Nat) : List CpInfo := es.foldr (fun e r => gap e.1 (e.2 :: r)) (gap last [])
def pool (es : List (Nat × CpInfo)) (last : Nat) : Array CpInfo := ⟨poolList es last⟩
def fileOf (pool : Array CpInfo) (this : Nat) (attrs : Array Attribute := #[]) (ms : Array MethodInfo := #[]) (fl : Nat := 33) (sup : Nat := 0) (ifs : Array Nat := #[]) (fds : Array FieldInfo := #[]) : ClassFile where
  minorVersion := 0
  majorVersion := 65
  constantPool := pool
  accessFlags := fl
  thisClass := this
  superClass := sup
  interfaces := ifs
  fields := fds
  methods := ms
  attributes := attrs
def plain (name : String) (sup : Option ClassId) : Class where
  name := name
  kind := .ordinary
  loader := none
  accessFlags := 33
  super := sup
  interfaces := #[]
  cf := none
  fields := #[]
  methods := #[]
  instanceTypes := #[]
  staticTypes := #[]
  resolved := #[]
  callSites := []
  init := .initialized
  statics := none
  mirror := none

def pool0 : Array CpInfo := pool [(5, u "<init>"), (0, u "()V"), (1, .class_ 10), (1, u "java/lang/Object"), (85, u "clone"), (0, u "()Ljava/lang/Object;")] 26

def k0c0 : Code := { maxStack := 0, maxLocals := 1, code := object_method_1_code, exceptionTable := #[], attributes := #[] }
def k0m0 : Method := { name := "<init>", desc := "()V", sig := { parameters := [], returnType := none }, accessFlags := 1, code := some k0c0 }
def k0m1 : Method := { name := "clone", desc := "()Ljava/lang/Object;", sig := { parameters := [], returnType := some (.object "java/lang/Object") }, accessFlags := 260, code := none }
/-- java/lang/Object -/
def k0 : Class := { plain "java/lang/Object" none with
  accessFlags := 33
  interfaces := #[]
  cf := some (fileOf pool0 8 #[] #[{ accessFlags := 1, nameIndex := 5, descriptorIndex := 6, attributes := #[] }, { accessFlags := 260, nameIndex := 96, descriptorIndex := 97, attributes := #[] }] 33 0 #[] #[])
  fields := #[]
  methods := #[k0m0, k0m1]
  instanceTypes := #[]
  staticTypes := #[]
  resolved := Array.replicate 124 none
  statics := none }

def pool1 : Array CpInfo := pool [(2, .class_ 4), (1, u "java/lang/Object"), (0, u "<init>"), (0, u "()V"), (0, .integer 2147483647), (2, .integer 2147483646), (0, .double 4620693217682128896), (1, .methodref 14 15), (0, .class_ 16), (0, .nameAndType 17 18), (0, u "com/example/overcap/overcap/model/MortalityTableGetLastAgePinLaw"), (0, u "rates"), (0, u "(IDD)[D"), (0, .class_ 20), (0, u "com/example/overcap/overcap/model/MortalityTable"), (0, .methodref 19 22), (0, .nameAndType 5 23), (0, u "(I[D[D)V"), (0, .methodref 19 25), (0, .nameAndType 26 27), (0, u "getLastAge"), (0, u "()I"), (0, .methodref 19 29), (0, .nameAndType 30 27), (0, u "getFirstAge"), (0, .methodref 19 32), (0, .nameAndType 33 34), (0, u "getQx"), (0, u "(ID)D"), (3, u "law"), (0, u "(IIII)Z")] 4

def k1m0 : Method := { name := "<init>", desc := "()V", sig := { parameters := [], returnType := none }, accessFlags := 2, code := none }
def k1c1 : Code := { maxStack := 5, maxLocals := 5, code := method_2_code, exceptionTable := #[], attributes := #[] }
def k1m1 : Method := { name := "rates", desc := "(IDD)[D", sig := { parameters := [.int, .double, .double], returnType := some (.array .double) }, accessFlags := 10, code := some k1c1 }
def k1c2 : Code := { maxStack := 5, maxLocals := 18, code := code, exceptionTable := #[], attributes := #[] }
def k1m2 : Method := { name := "law", desc := "(IIII)Z", sig := { parameters := [.int, .int, .int, .int], returnType := some .boolean }, accessFlags := 9, code := some k1c2 }
/-- com/example/overcap/overcap/model/MortalityTableGetLastAgePinLaw -/
def k1 : Class := { plain "com/example/overcap/overcap/model/MortalityTableGetLastAgePinLaw" (some 0) with
  accessFlags := 49
  interfaces := #[]
  cf := some (fileOf pool1 14 #[] #[{ accessFlags := 2, nameIndex := 5, descriptorIndex := 6, attributes := #[] }, { accessFlags := 10, nameIndex := 17, descriptorIndex := 18, attributes := #[] }, { accessFlags := 9, nameIndex := 38, descriptorIndex := 39, attributes := #[] }] 49 2 #[] #[])
  fields := #[]
  methods := #[k1m0, k1m1, k1m2]
  instanceTypes := #[]
  staticTypes := #[]
  resolved := Array.replicate 44 none
  statics := none }

def pool2 : Array CpInfo := pool [(1, .methodref 2 3), (0, .class_ 4), (0, .nameAndType 5 6), (0, u "java/lang/Object"), (0, u "<init>"), (0, u "()V"), (0, .methodref 8 9), (0, .class_ 10), (0, .nameAndType 11 12), (0, u "com/example/overcap/overcap/model/MortalityTable"), (0, u "checkFirstAge"), (0, u "(I)V"), (21, .fieldref 8 35), (0, .nameAndType 36 37), (0, u "firstAge"), (0, u "I"), (0, .methodref 39 40), (0, .class_ 41), (0, .nameAndType 42 43), (0, u "[D"), (0, u "clone"), (0, u "()Ljava/lang/Object;"), (0, .fieldref 8 45), (0, .nameAndType 46 41), (0, u "maleQx"), (0, .fieldref 8 48), (0, .nameAndType 49 41), (0, u "femaleQx"), (0, .methodref 8 51), (0, .nameAndType 52 53), (0, u "checkRates"), (0, u "(IDD)V"), (0, .string 55), (0, u "male"), (0, .methodref 8 57), (0, .nameAndType 58 59), (0, u "checkLastRate"), (0, u "(Ljava/lang/String;[D)V"), (0, .string 61), (0, u "female"), (4, .methodref 8 67), (0, .nameAndType 68 69), (0, u "checkRate"), (0, u "(Ljava/lang/String;ID)V"), (0, .methodref 8 71), (0, .nameAndType 72 73), (0, u "getLastAge"), (0, u "()I"), (3, .methodref 8 78), (0, .nameAndType 79 80), (0, u "isFromZeroToOne"), (0, u "(D)Z"), (12, u "(I[D[D)V"), (3, u "getFirstAge"), (0, u "getQx"), (0, u "(ID)D")] 21

def k2c0 : Code := { maxStack := 7, maxLocals := 5, code := prog_79_method_1_code, exceptionTable := #[], attributes := #[] }
def k2m0 : Method := { name := "<init>", desc := "(I[D[D)V", sig := { parameters := [.int, (.array .double), (.array .double)], returnType := none }, accessFlags := 1, code := some k2c0 }
def k2c1 : Code := { maxStack := 3, maxLocals := 1, code := prog_79_method_2_code, exceptionTable := #[], attributes := #[] }
def k2m1 : Method := { name := "checkFirstAge", desc := "(I)V", sig := { parameters := [.int], returnType := none }, accessFlags := 9, code := some k2c1 }
def k2c2 : Code := { maxStack := 4, maxLocals := 5, code := prog_79_method_3_code, exceptionTable := #[], attributes := #[] }
def k2m2 : Method := { name := "checkRates", desc := "(IDD)V", sig := { parameters := [.int, .double, .double], returnType := none }, accessFlags := 9, code := some k2c2 }
def k2c3 : Code := { maxStack := 1, maxLocals := 1, code := prog_79_method_4_code, exceptionTable := #[], attributes := #[] }
def k2m3 : Method := { name := "getFirstAge", desc := "()I", sig := { parameters := [], returnType := some .int }, accessFlags := 1, code := some k2c3 }
def k2c4 : Code := { maxStack := 2, maxLocals := 1, code := prog_79_method_5_code, exceptionTable := #[], attributes := #[] }
def k2m4 : Method := { name := "getLastAge", desc := "()I", sig := { parameters := [], returnType := some .int }, accessFlags := 1, code := some k2c4 }
def k2c5 : Code := { maxStack := 6, maxLocals := 5, code := prog_79_method_6_code, exceptionTable := #[], attributes := #[] }
def k2m5 : Method := { name := "getQx", desc := "(ID)D", sig := { parameters := [.int, .double], returnType := some .double }, accessFlags := 1, code := some k2c5 }
def k2c6 : Code := { maxStack := 8, maxLocals := 5, code := prog_79_method_7_code, exceptionTable := #[], attributes := #[] }
def k2m6 : Method := { name := "checkRate", desc := "(Ljava/lang/String;ID)V", sig := { parameters := [(.object "java/lang/String"), .int, .double], returnType := none }, accessFlags := 10, code := some k2c6 }
def k2c7 : Code := { maxStack := 9, maxLocals := 4, code := prog_79_method_8_code, exceptionTable := #[], attributes := #[] }
def k2m7 : Method := { name := "checkLastRate", desc := "(Ljava/lang/String;[D)V", sig := { parameters := [(.object "java/lang/String"), (.array .double)], returnType := none }, accessFlags := 2, code := some k2c7 }
def k2c8 : Code := { maxStack := 4, maxLocals := 2, code := prog_79_method_9_code, exceptionTable := #[], attributes := #[] }
def k2m8 : Method := { name := "isFromZeroToOne", desc := "(D)Z", sig := { parameters := [.double], returnType := some .boolean }, accessFlags := 10, code := some k2c8 }
/-- com/example/overcap/overcap/model/MortalityTable -/
def k2 : Class := { plain "com/example/overcap/overcap/model/MortalityTable" (some 0) with
  accessFlags := 49
  interfaces := #[]
  cf := some (fileOf pool2 8 #[] #[{ accessFlags := 1, nameIndex := 5, descriptorIndex := 93, attributes := #[] }, { accessFlags := 9, nameIndex := 11, descriptorIndex := 12, attributes := #[] }, { accessFlags := 9, nameIndex := 52, descriptorIndex := 53, attributes := #[] }, { accessFlags := 1, nameIndex := 97, descriptorIndex := 73, attributes := #[] }, { accessFlags := 1, nameIndex := 72, descriptorIndex := 73, attributes := #[] }, { accessFlags := 1, nameIndex := 98, descriptorIndex := 99, attributes := #[] }, { accessFlags := 10, nameIndex := 68, descriptorIndex := 69, attributes := #[] }, { accessFlags := 2, nameIndex := 58, descriptorIndex := 59, attributes := #[] }, { accessFlags := 10, nameIndex := 79, descriptorIndex := 80, attributes := #[] }] 49 2 #[] #[{ accessFlags := 18, nameIndex := 36, descriptorIndex := 37, attributes := #[] }, { accessFlags := 18, nameIndex := 46, descriptorIndex := 41, attributes := #[] }, { accessFlags := 18, nameIndex := 49, descriptorIndex := 41, attributes := #[] }])
  fields := #[{ name := "firstAge", type := .int, accessFlags := 18, slot := 0, constantValue := 0 }, { name := "maleQx", type := (.array .double), accessFlags := 18, slot := 1, constantValue := 0 }, { name := "femaleQx", type := (.array .double), accessFlags := 18, slot := 2, constantValue := 0 }]
  methods := #[k2m0, k2m1, k2m2, k2m3, k2m4, k2m5, k2m6, k2m7, k2m8]
  instanceTypes := #[.int, (.array .double), (.array .double)]
  staticTypes := #[]
  resolved := Array.replicate 121 none
  statics := none }

def pool3 : Array CpInfo := pool [(1, .class_ 2), (0, u "java/lang/Cloneable"), (0, .class_ 4), (0, u "java/lang/Object")] 2

/-- java/lang/Cloneable -/
def k3 : Class := { plain "java/lang/Cloneable" (some 0) with
  accessFlags := 1537
  interfaces := #[]
  cf := some (fileOf pool3 1 #[] #[] 1537 3 #[] #[])
  fields := #[]
  methods := #[]
  instanceTypes := #[]
  staticTypes := #[]
  resolved := Array.replicate 7 none
  statics := none }

def pool4 : Array CpInfo := pool [(1, .class_ 2), (0, u "java/io/Serializable"), (0, .class_ 4), (0, u "java/lang/Object")] 2

/-- java/io/Serializable -/
def k4 : Class := { plain "java/io/Serializable" (some 0) with
  accessFlags := 1537
  interfaces := #[]
  cf := some (fileOf pool4 1 #[] #[] 1537 3 #[] #[])
  fields := #[]
  methods := #[]
  instanceTypes := #[]
  staticTypes := #[]
  resolved := Array.replicate 7 none
  statics := none }

def pool5 : Array CpInfo := pool [(1, .class_ 2), (0, u "java/lang/Comparable"), (0, .class_ 4), (0, u "java/lang/Object")] 7

/-- java/lang/Comparable -/
def k5 : Class := { plain "java/lang/Comparable" (some 0) with
  accessFlags := 1537
  interfaces := #[]
  cf := some (fileOf pool5 1 #[] #[] 1537 3 #[] #[])
  fields := #[]
  methods := #[]
  instanceTypes := #[]
  staticTypes := #[]
  resolved := Array.replicate 12 none
  statics := none }

def pool6 : Array CpInfo := pool [(2, .class_ 4), (1, u "java/lang/CharSequence"), (42, .class_ 48), (0, u "java/lang/CharSequence$1CodePointIterator"), (10, .class_ 60), (0, u "java/lang/CharSequence$1CharIterator"), (5, .class_ 67), (0, u "java/lang/Object")] 63

/-- java/lang/CharSequence -/
def k6 : Class := { plain "java/lang/CharSequence" (some 0) with
  accessFlags := 1537
  interfaces := #[]
  cf := some (fileOf pool6 2 #[.nestMembers #[47, 59]] #[] 1537 66 #[] #[])
  fields := #[]
  methods := #[]
  instanceTypes := #[]
  staticTypes := #[]
  resolved := Array.replicate 131 none
  statics := none }

def pool7 : Array CpInfo := pool [(1, .class_ 2), (0, u "java/lang/constant/Constable"), (0, .class_ 4), (0, u "java/lang/Object")] 6

/-- java/lang/constant/Constable -/
def k7 : Class := { plain "java/lang/constant/Constable" (some 0) with
  accessFlags := 1537
  interfaces := #[]
  cf := some (fileOf pool7 1 #[] #[] 1537 3 #[] #[])
  fields := #[]
  methods := #[]
  instanceTypes := #[]
  staticTypes := #[]
  resolved := Array.replicate 11 none
  statics := none }

def pool8 : Array CpInfo := pool [(1, .class_ 2), (0, u "java/lang/constant/ConstantDesc"), (0, .class_ 4), (0, u "java/lang/Object")] 32

/-- java/lang/constant/ConstantDesc -/
def k8 : Class := { plain "java/lang/constant/ConstantDesc" (some 0) with
  accessFlags := 1537
  interfaces := #[]
  cf := some (fileOf pool8 1 #[] #[] 1537 3 #[] #[])
  fields := #[]
  methods := #[]
  instanceTypes := #[]
  staticTypes := #[]
  resolved := Array.replicate 37 none
  statics := none }

def pool9 : Array CpInfo := pool [(2, .class_ 4), (1, u "java/lang/Object"), (0, u "<init>"), (0, u "()V"), (3, .class_ 12), (1, u "java/lang/String"), (0, u "value"), (0, u "[B"), (2, u "coder"), (0, u "B"), (2, u "hash"), (0, u "I"), (2, u "hashIsZero"), (0, u "Z"), (13, u "COMPACT_STRINGS"), (534, .class_ 576), (0, u "java/lang/CharSequence"), (22, u "CASE_INSENSITIVE_ORDER"), (0, u "Ljava/util/Comparator;"), (500, u "serialPersistentFields"), (0, u "[Ljava/io/ObjectStreamField;"), (0, .class_ 1104), (0, u "java/lang/String$CaseInsensitiveComparator"), (1, .class_ 1107), (0, u "java/io/Serializable"), (0, .class_ 1109), (0, u "java/lang/Comparable"), (0, .class_ 1111), (0, u "java/lang/constant/Constable"), (0, .class_ 1113), (0, u "java/lang/constant/ConstantDesc"), (2, u "serialVersionUID"), (0, u "J"), (3, u "REPL"), (0, u "C"), (2, u "LATIN1"), (1, u "UTF16")] 323

def k9m0 : Method := { name := "<init>", desc := "()V", sig := { parameters := [], returnType := none }, accessFlags := 1, code := none }
/-- java/lang/String -/
def k9 : Class := { plain "java/lang/String" (some 0) with
  accessFlags := 49
  interfaces := #[4, 5, 6, 7, 8]
  cf := some (fileOf pool9 10 #[.nestMembers #[1103]] #[{ accessFlags := 1, nameIndex := 5, descriptorIndex := 6, attributes := #[] }] 49 2 #[1106, 1108, 575, 1110, 1112] #[{ accessFlags := 18, nameIndex := 13, descriptorIndex := 14, attributes := #[] }, { accessFlags := 18, nameIndex := 17, descriptorIndex := 18, attributes := #[] }, { accessFlags := 2, nameIndex := 21, descriptorIndex := 22, attributes := #[] }, { accessFlags := 2, nameIndex := 25, descriptorIndex := 26, attributes := #[] }, { accessFlags := 26, nameIndex := 1116, descriptorIndex := 1117, attributes := #[] }, { accessFlags := 24, nameIndex := 40, descriptorIndex := 26, attributes := #[] }, { accessFlags := 26, nameIndex := 1101, descriptorIndex := 1102, attributes := #[] }, { accessFlags := 26, nameIndex := 1121, descriptorIndex := 1122, attributes := #[] }, { accessFlags := 25, nameIndex := 599, descriptorIndex := 600, attributes := #[] }, { accessFlags := 24, nameIndex := 1125, descriptorIndex := 18, attributes := #[] }, { accessFlags := 24, nameIndex := 1127, descriptorIndex := 18, attributes := #[] }])
  fields := #[{ name := "value", type := (.array .byte), accessFlags := 18, slot := 0, constantValue := 0 }, { name := "coder", type := .byte, accessFlags := 18, slot := 1, constantValue := 0 }, { name := "hash", type := .int, accessFlags := 2, slot := 2, constantValue := 0 }, { name := "hashIsZero", type := .boolean, accessFlags := 2, slot := 3, constantValue := 0 }, { name := "serialVersionUID", type := .long, accessFlags := 26, slot := 0, constantValue := 0 }, { name := "COMPACT_STRINGS", type := .boolean, accessFlags := 24, slot := 1, constantValue := 0 }, { name := "serialPersistentFields", type := (.array (.object "java/io/ObjectStreamField")), accessFlags := 26, slot := 2, constantValue := 0 }, { name := "REPL", type := .char, accessFlags := 26, slot := 3, constantValue := 0 }, { name := "CASE_INSENSITIVE_ORDER", type := (.object "java/util/Comparator"), accessFlags := 25, slot := 4, constantValue := 0 }, { name := "LATIN1", type := .byte, accessFlags := 24, slot := 5, constantValue := 0 }, { name := "UTF16", type := .byte, accessFlags := 24, slot := 6, constantValue := 0 }]
  methods := #[k9m0]
  instanceTypes := #[(.array .byte), .byte, .int, .boolean]
  staticTypes := #[.long, .boolean, (.array (.object "java/io/ObjectStreamField")), .char, (.object "java/util/Comparator"), .byte, .byte]
  resolved := Array.replicate 1451 none
  statics := none }

/-- the primitive byte -/
def k10 : Class := { plain "byte" none with kind := .primitive 'B', accessFlags := 0x411 }
/-- [B -/
def k11 : Class := { plain "[B" (some 0) with kind := .array 10 .byte, interfaces := #[3, 4], accessFlags := 1041 }

/-- the primitive int -/
def k12 : Class := { plain "int" none with kind := .primitive 'I', accessFlags := 0x411 }
/-- [I -/
def k13 : Class := { plain "[I" (some 0) with kind := .array 12 .int, interfaces := #[3, 4], accessFlags := 1041 }

/-- the primitive double -/
def k14 : Class := { plain "double" none with kind := .primitive 'D', accessFlags := 0x411 }
/-- [D -/
def k15 : Class := { plain "[D" (some 0) with kind := .array 14 .double, interfaces := #[3, 4], accessFlags := 1041 }
def heap : Heap := #[]
def classes : Array Class := #[k0, k1, k2, k3, k4, k5, k6, k7, k8, k9, k10, k11, k12, k13, k14, k15]
def interned : List (Array UInt16 × Addr) := []
def slotsUsed : Nat := 0
def theMethod : MethodId := ⟨1, 2⟩
def args0 : Array Value := #[.int 5, .int 5, .int 5, .int 5]
def aboutOver (below : List Frame) : State where
  vm := { classes := classes, interned := interned.toArray }
  heap := heap
  slotsUsed := slotsUsed
  threads := #[{ frames := .invoking theMethod args0 :: below }]
def below0 : List Frame := [.native { method := ⟨0, 0⟩, args := #[] }]
def about1 : State := aboutOver below0
def p0 : Program := .bare "" "" ""
def e0 : Env := launch0.env 0 0 0
theorem w_frames : about1.frames = Frame.invoking theMethod args0 :: below0 := rfl
set_option maxRecDepth 65536 in
theorem w_args : argsFit about1.vm theMethod args0 = true := by decide +kernel
set_option maxRecDepth 65536 in
theorem w_heap : heapFits about1 = true := by decide +kernel
set_option maxRecDepth 65536 in
theorem w_runnable : about1.curStatus? = some .runnable := by decide +kernel
set_option maxRecDepth 65536 in
theorem w_alone : about1.alone = true := by decide +kernel
set_option maxRecDepth 65536 in
theorem w_named : about1.methodNamed? x = some theMethod := by decide +kernel
set_option maxRecDepth 65536 in
theorem w_hears : about1.hears theMethod below0 = true := by decide +kernel
set_option maxRecDepth 65536 in
theorem w_ripe : about1.ripe theMethod args0 below0 = true := by decide +kernel
theorem w_running : about1.status = .running := rfl
set_option maxRecDepth 65536 in
theorem w_room : about1.hasRoom e0.platform room_1 = true :=
  launch0.hasRoom_least _ room_1 (by decide +kernel) (by decide +kernel) (by decide +kernel) (by decide +kernel) (by decide +kernel) (by decide +kernel)
theorem allAtoms_all (ts : List Jvm.Cond) (a : Array Jvm.Value) (st : Jvm.State) : (allAtoms ts).before a st = ts.all (fun c => c.before a st) := by
  induction ts with
  | nil => rfl
  | cons c t ih =>
    show (Jvm.Cond.and c (allAtoms t)).before a st = _
    rw [Jvm.Cond.before_and, ih, List.all_cons]
def words1 : List Jvm.Cond := Jvm.Cond.code x code maxLocals ret :: tables_1
/-- a 'code' word, met by the world's own term for the bytes: nothing is compared byte by byte -/
theorem code_word {y : MethodName} {bytes : ByteArray} {mx : Nat} {rt : Option FieldType} {a : Array Value} {s : State} {m : MethodId} {meth : Method} {c : Code} (h1 : s.methodNamed? y = some m) (h2 : s.vm.method? m = some meth) (h3 : meth.code = some c) (h4 : c.code = bytes)
    (h5 : (c.maxLocals == mx && c.exceptionTable.isEmpty && decide (c.maxStack ≤ mostOperands) && decide (meth.sig.returnType = rt) && !meth.locks && decide (parseMethodDescriptor y.desc = some meth.sig)) = true) : (Jvm.Cond.code y bytes mx rt).before a s = true := by
  simp only [Bool.and_eq_true, beq_iff_eq, Bool.not_eq_true', decide_eq_true_eq] at h5
  obtain ⟨⟨⟨⟨⟨g1, g2⟩, g3⟩, g4⟩, g5⟩, g6⟩ := h5
  simp [Cond.before, Cond.holds, Cond.value, h1, h2, h3, h4, g1, g2, g3, g4, g5, g6]
def isCode : Jvm.Cond → Bool
  | .code _ _ _ _ => true
  | _ => false
theorem all_split {L : List Jvm.Cond} {P : Jvm.Cond → Bool} (h1 : L.all (fun c => isCode c || P c) = true) (h2 : ∀ c ∈ L.filter isCode, P c = true) : L.all P = true := by
  refine List.all_eq_true.mpr fun c hc => ?_
  have h := List.all_eq_true.mp h1 c hc
  rcases Bool.eq_false_or_eq_true (isCode c) with hi | hi
  · exact h2 c (List.mem_filter.mpr ⟨hc, hi⟩)
  · simpa [hi] using h
set_option maxRecDepth 65536 in
theorem w_c0 : (Jvm.Cond.code x code maxLocals ret).before args0 about1 = true := code_word (m := ⟨1, 2⟩) (meth := k1m2) (c := k1c2) (by decide +kernel) rfl rfl rfl (by decide +kernel)
set_option maxRecDepth 65536 in
theorem w_c1 : (Jvm.Cond.code ({ cls := "com/example/overcap/overcap/model/MortalityTableGetLastAgePinLaw", name := "rates", desc := "(IDD)[D" } : Jvm.MethodName) method_2_code (5 : Nat) (Option.some (Jvm.ClassFile.FieldType.array Jvm.ClassFile.FieldType.double))).before args0 about1 = true := code_word (m := ⟨1, 1⟩) (meth := k1m1) (c := k1c1) (by decide +kernel) rfl rfl rfl (by decide +kernel)
set_option maxRecDepth 65536 in
theorem w_c2 : (Jvm.Cond.code ({ cls := "com/example/overcap/overcap/model/MortalityTable", name := "<init>", desc := "(I[D[D)V" } : Jvm.MethodName) prog_79_method_1_code (5 : Nat) (Option.none : Option Jvm.ClassFile.FieldType)).before args0 about1 = true := code_word (m := ⟨2, 0⟩) (meth := k2m0) (c := k2c0) (by decide +kernel) rfl rfl rfl (by decide +kernel)
set_option maxRecDepth 65536 in
theorem w_c3 : (Jvm.Cond.code ({ cls := "java/lang/Object", name := "<init>", desc := "()V" } : Jvm.MethodName) object_method_1_code (1 : Nat) (Option.none : Option Jvm.ClassFile.FieldType)).before args0 about1 = true := code_word (m := ⟨0, 0⟩) (meth := k0m0) (c := k0c0) (by decide +kernel) rfl rfl rfl (by decide +kernel)
set_option maxRecDepth 65536 in
theorem w_c4 : (Jvm.Cond.code ({ cls := "com/example/overcap/overcap/model/MortalityTable", name := "checkFirstAge", desc := "(I)V" } : Jvm.MethodName) prog_79_method_2_code (1 : Nat) (Option.none : Option Jvm.ClassFile.FieldType)).before args0 about1 = true := code_word (m := ⟨2, 1⟩) (meth := k2m1) (c := k2c1) (by decide +kernel) rfl rfl rfl (by decide +kernel)
set_option maxRecDepth 65536 in
theorem w_c5 : (Jvm.Cond.code ({ cls := "com/example/overcap/overcap/model/MortalityTable", name := "checkRates", desc := "(IDD)V" } : Jvm.MethodName) prog_79_method_3_code (5 : Nat) (Option.none : Option Jvm.ClassFile.FieldType)).before args0 about1 = true := code_word (m := ⟨2, 2⟩) (meth := k2m2) (c := k2c2) (by decide +kernel) rfl rfl rfl (by decide +kernel)
set_option maxRecDepth 65536 in
theorem w_c6 : (Jvm.Cond.code ({ cls := "com/example/overcap/overcap/model/MortalityTable", name := "checkRate", desc := "(Ljava/lang/String;ID)V" } : Jvm.MethodName) prog_79_method_7_code (5 : Nat) (Option.none : Option Jvm.ClassFile.FieldType)).before args0 about1 = true := code_word (m := ⟨2, 6⟩) (meth := k2m6) (c := k2c6) (by decide +kernel) rfl rfl rfl (by decide +kernel)
set_option maxRecDepth 65536 in
theorem w_c7 : (Jvm.Cond.code ({ cls := "com/example/overcap/overcap/model/MortalityTable", name := "isFromZeroToOne", desc := "(D)Z" } : Jvm.MethodName) prog_79_method_9_code (2 : Nat) (Option.some Jvm.ClassFile.FieldType.boolean)).before args0 about1 = true := code_word (m := ⟨2, 8⟩) (meth := k2m8) (c := k2c8) (by decide +kernel) rfl rfl rfl (by decide +kernel)
set_option maxRecDepth 65536 in
theorem w_c8 : (Jvm.Cond.code ({ cls := "com/example/overcap/overcap/model/MortalityTable", name := "checkLastRate", desc := "(Ljava/lang/String;[D)V" } : Jvm.MethodName) prog_79_method_8_code (4 : Nat) (Option.none : Option Jvm.ClassFile.FieldType)).before args0 about1 = true := code_word (m := ⟨2, 7⟩) (meth := k2m7) (c := k2c7) (by decide +kernel) rfl rfl rfl (by decide +kernel)
set_option maxRecDepth 65536 in
theorem w_c9 : (Jvm.Cond.code ({ cls := "com/example/overcap/overcap/model/MortalityTable", name := "getLastAge", desc := "()I" } : Jvm.MethodName) prog_79_method_5_code (1 : Nat) (Option.some Jvm.ClassFile.FieldType.int)).before args0 about1 = true := code_word (m := ⟨2, 4⟩) (meth := k2m4) (c := k2c4) (by decide +kernel) rfl rfl rfl (by decide +kernel)
set_option maxRecDepth 65536 in
theorem w_c10 : (Jvm.Cond.code ({ cls := "com/example/overcap/overcap/model/MortalityTable", name := "getFirstAge", desc := "()I" } : Jvm.MethodName) prog_79_method_4_code (1 : Nat) (Option.some Jvm.ClassFile.FieldType.int)).before args0 about1 = true := code_word (m := ⟨2, 3⟩) (meth := k2m3) (c := k2c3) (by decide +kernel) rfl rfl rfl (by decide +kernel)
set_option maxRecDepth 65536 in
theorem w_c11 : (Jvm.Cond.code ({ cls := "com/example/overcap/overcap/model/MortalityTable", name := "getQx", desc := "(ID)D" } : Jvm.MethodName) prog_79_method_6_code (5 : Nat) (Option.some Jvm.ClassFile.FieldType.double)).before args0 about1 = true := code_word (m := ⟨2, 5⟩) (meth := k2m5) (c := k2c5) (by decide +kernel) rfl rfl rfl (by decide +kernel)
def codes1 : List Jvm.Cond := [Jvm.Cond.code x code maxLocals ret, Jvm.Cond.code ({ cls := "com/example/overcap/overcap/model/MortalityTableGetLastAgePinLaw", name := "rates", desc := "(IDD)[D" } : Jvm.MethodName) method_2_code (5 : Nat) (Option.some (Jvm.ClassFile.FieldType.array Jvm.ClassFile.FieldType.double)), Jvm.Cond.code ({ cls := "com/example/overcap/overcap/model/MortalityTable", name := "<init>", desc := "(I[D[D)V" } : Jvm.MethodName) prog_79_method_1_code (5 : Nat) (Option.none : Option Jvm.ClassFile.FieldType), Jvm.Cond.code ({ cls := "java/lang/Object", name := "<init>", desc := "()V" } : Jvm.MethodName) object_method_1_code (1 : Nat) (Option.none : Option Jvm.ClassFile.FieldType), Jvm.Cond.code ({ cls := "com/example/overcap/overcap/model/MortalityTable", name := "checkFirstAge", desc := "(I)V" } : Jvm.MethodName) prog_79_method_2_code (1 : Nat) (Option.none : Option Jvm.ClassFile.FieldType), Jvm.Cond.code ({ cls := "com/example/overcap/overcap/model/MortalityTable", name := "checkRates", desc := "(IDD)V" } : Jvm.MethodName) prog_79_method_3_code (5 : Nat) (Option.none : Option Jvm.ClassFile.FieldType), Jvm.Cond.code ({ cls := "com/example/overcap/overcap/model/MortalityTable", name := "checkRate", desc := "(Ljava/lang/String;ID)V" } : Jvm.MethodName) prog_79_method_7_code (5 : Nat) (Option.none : Option Jvm.ClassFile.FieldType), Jvm.Cond.code ({ cls := "com/example/overcap/overcap/model/MortalityTable", name := "isFromZeroToOne", desc := "(D)Z" } : Jvm.MethodName) prog_79_method_9_code (2 : Nat) (Option.some Jvm.ClassFile.FieldType.boolean), Jvm.Cond.code ({ cls := "com/example/overcap/overcap/model/MortalityTable", name := "checkLastRate", desc := "(Ljava/lang/String;[D)V" } : Jvm.MethodName) prog_79_method_8_code (4 : Nat) (Option.none : Option Jvm.ClassFile.FieldType), Jvm.Cond.code ({ cls := "com/example/overcap/overcap/model/MortalityTable", name := "getLastAge", desc := "()I" } : Jvm.MethodName) prog_79_method_5_code (1 : Nat) (Option.some Jvm.ClassFile.FieldType.int), Jvm.Cond.code ({ cls := "com/example/overcap/overcap/model/MortalityTable", name := "getFirstAge", desc := "()I" } : Jvm.MethodName) prog_79_method_4_code (1 : Nat) (Option.some Jvm.ClassFile.FieldType.int), Jvm.Cond.code ({ cls := "com/example/overcap/overcap/model/MortalityTable", name := "getQx", desc := "(ID)D" } : Jvm.MethodName) prog_79_method_6_code (5 : Nat) (Option.some Jvm.ClassFile.FieldType.double)]
set_option maxRecDepth 65536 in
theorem codes_eq : words1.filter isCode = codes1 := rfl
theorem w_codes : ∀ c ∈ words1.filter isCode, c.before args0 about1 = true := by
  rw [codes_eq]
  intro c hc
  simp only [codes1, List.mem_cons, List.not_mem_nil, or_false] at hc
  rcases hc with rfl | rfl | rfl | rfl | rfl | rfl | rfl | rfl | rfl | rfl | rfl | rfl
  · exact w_c0
  · exact w_c1
  · exact w_c2
  · exact w_c3
  · exact w_c4
  · exact w_c5
  · exact w_c6
  · exact w_c7
  · exact w_c8
  · exact w_c9
  · exact w_c10
  · exact w_c11
set_option maxRecDepth 65536 in
theorem w_t1 : (words1.take 24).all (fun c => isCode c || c.before args0 about1) = true := by decide +kernel
set_option maxRecDepth 65536 in
theorem w_t2 : ((words1.drop 24).take 24).all (fun c => isCode c || c.before args0 about1) = true := by decide +kernel
set_option maxRecDepth 65536 in
theorem w_t3 : (((words1.drop 24).drop 24).take 24).all (fun c => isCode c || c.before args0 about1) = true := by decide +kernel
set_option maxRecDepth 65536 in
theorem w_t4 : (((words1.drop 24).drop 24).drop 24).all (fun c => isCode c || c.before args0 about1) = true := by decide +kernel
theorem w_tables : (allAtoms (Jvm.Cond.code x code maxLocals ret :: tables_1)).before args0 about1 = true := by
  rw [allAtoms_all]
  show words1.all (fun c => c.before args0 about1) = true
  refine all_split ?_ w_codes
  rw [← List.take_append_drop 24 words1, List.all_append, w_t1, ← List.take_append_drop 24 (words1.drop 24), List.all_append, w_t2, ← List.take_append_drop 24 ((words1.drop 24).drop 24), List.all_append, w_t3, w_t4]
  rfl
set_option maxRecDepth 65536 in
theorem w_case : (Jvm.Cond.and given_1 narrow_1).before args0 about1 = true := by decide +kernel
theorem w_applies : (headSpec (Jvm.Cond.code x code maxLocals ret :: tables_1) room_1).applies x e0.platform about1 = true :=
  (Spec.applies_iff w_frames).mpr ⟨w_running, w_runnable, w_alone, w_named, w_hears, w_ripe, w_room, w_tables⟩
theorem atStart : AtStart classFile x code maxLocals ret World_1 tables_1 room_1 Calls_1 rest_1 Pre_1 launch0 p0 e0 about1 theMethod args0 below0 :=
  ⟨lists_1, trivial, launch0.admits_env _ _ _, launch0.least_env, fairChoices_fair.cas, fairChoices_fair.clock, w_frames, w_args, w_heap, w_applies, trivial, trivial, w_case⟩
end start1
theorem witness_1 : WitnessClaimed_1 := ⟨start1.p0, start1.e0, start1.about1, start1.theMethod, start1.args0, start1.below0, start1.atStart⟩
end Jvm.Pilot.@@N@@
