import JvmDerived
import JvmDerived.Pilot.@@N@@Statement
import JvmDerived.Pilot.@@N@@Code
set_option linter.unusedVariables false
set_option linter.unusedSimpArgs false
namespace Jvm.RoadKit
open Sem ClassFile Op Lib Jvm.Stand Jvm.Free Jvm.LawKit
/-! the goal of a walk, seen from where it stands -/
def own_Go (p : Program) (e : Env) (below : List Frame) (PO : Outcome → State → Prop) (U : State) : Prop :=
  ∃ s₂ o, Steps p.tables e below U s₂ ∧ s₂.status = .running ∧ Ended s₂ below o ∧ PO o s₂
def own_PO (s : State) (Q : Option Value → Heap → List Loc → Prop) (C N : Nat) : Outcome → State → Prop :=
  fun o U' => ∃ v L, o = .returned v ∧ Q v U'.heap L ∧ FrameEnd s o U' L C N
theorem own_back {p : Program} {e : Env} {below : List Frame} {PO : Outcome → State → Prop} {U V : State} (h : own_Go p e below PO V)
    (st : ∀ t, Steps p.tables e below V t → Steps p.tables e below U t) : own_Go p e below PO U := by
  obtain ⟨t, o, h1, h2⟩ := h
  exact ⟨t, o, st t h1, h2⟩
theorem own_gen {A : Type} (x : A) (P : A → Prop) (h : ∀ c, c = x → P c) : P x := h x rfl
section New
variable {p : Program} {l : Launch} {e : Env} {R : Room} {s : State} {m : MethodId} {args : Array Value} {below : List Frame} {meth : Method} {c : Code} {T : State} {locs : List Loc} {cells slots : Nat} {h : Heap}
  {Q : Option Value → Heap → List Loc → Prop} {C N : Nat}
theorem own_end (X : Stand p l e R s m args below meth c T locs cells slots) {v : Option Value} {U : State} (hv : meth.sig.returnType = none → v = none) (eT : T.heap = h) (hk : meth.locks = false)
    (st : ∀ fs, (∀ (f : JFrame) (acts : List Action), f.method = m → f.locked = none → f.entered = [] → (doReturn e (T.setTop f) acts v).1 = T.setFrames fs) → Steps p.tables e below U (T.setFrames fs))
    (hQ : Q v h locs) (hc : cells ≤ C) (hn : slots ≤ N) : own_Go p e below (own_PO s Q C N) U := by
  obtain ⟨fs, hr, hrun, hended, hW, hsame⟩ := X.leave (v := v) hv hk
  subst eT
  exact ⟨_, _, st fs hr, hrun, hended, _, _, rfl, hQ, ⟨_, rfl⟩, hW, hsame.mono hc hn⟩
theorem own_retV (X : Stand p l e R s m args below meth c T locs cells slots) (hx : p.tables.exec = Jvm.exec) {pc : Nat} {Ls : Array Slot} (hret : meth.sig.returnType = none) (hd : decode c.code pc = .ok (.return_, 1))
    (eT : T.heap = h) (hk : meth.locks = false) (hQ : Q none h locs) (hc : cells ≤ C) (hn : slots ≤ N) : own_Go p e below (own_PO s Q C N) (T.setTop (mkF m pc Ls [])) :=
  own_end X (fun _ => rfl) eT hk (fun fs hr => X.returnOut hx hret hd hr) hQ hc hn
theorem own_retI (X : Stand p l e R s m args below meth c T locs cells slots) (hx : p.tables.exec = Jvm.exec) {pc : Nat} {Ls : Array Slot} {z : Int32} {rest : List Value} (hret : meth.sig.returnType = some .int) (hd : decode c.code pc = .ok (.ireturn, 1))
    (eT : T.heap = h) (hk : meth.locks = false) (hQ : Q (some (.int z)) h locs) (hc : cells ≤ C) (hn : slots ≤ N) : own_Go p e below (own_PO s Q C N) (T.setTop (mkF m pc Ls (.int z :: rest))) :=
  own_end X (fun q => by rw [hret] at q; cases q) eT hk (fun fs hr => retOut X hx hret rfl (Or.inl ⟨rfl, Or.inl rfl, z, rfl⟩) hd hr) hQ hc hn
theorem own_retN (X : Stand p l e R s m args below meth c T locs cells slots) (hx : p.tables.exec = Jvm.exec) {pc : Nat} {Ls : Array Slot} {z : Int32} {t : FieldType} {rest : List Value} (hret : meth.sig.returnType = some t) (hz : nar t z = z) (ht : t = .boolean ∨ t = .byte ∨ t = .char ∨ t = .short) (hd : decode c.code pc = .ok (.ireturn, 1))
    (eT : T.heap = h) (hk : meth.locks = false) (hQ : Q (some (.int z)) h locs) (hc : cells ≤ C) (hn : slots ≤ N) : own_Go p e below (own_PO s Q C N) (T.setTop (mkF m pc Ls (.int z :: rest))) :=
  own_end X (fun q => by rw [hret] at q; cases q) eT hk (fun fs hr => retN X hx (t := t) hret ht hd (by rw [hz]; exact hr)) hQ hc hn
theorem own_retJ (X : Stand p l e R s m args below meth c T locs cells slots) (hx : p.tables.exec = Jvm.exec) {pc : Nat} {Ls : Array Slot} {z : Int64} {rest : List Value} (hret : meth.sig.returnType = some .long) (hd : decode c.code pc = .ok (.lreturn, 1))
    (eT : T.heap = h) (hk : meth.locks = false) (hQ : Q (some (.long z)) h locs) (hc : cells ≤ C) (hn : slots ≤ N) : own_Go p e below (own_PO s Q C N) (T.setTop (mkF m pc Ls (.long z :: rest))) :=
  own_end X (fun q => by rw [hret] at q; cases q) eT hk (fun fs hr => retOut X hx hret rfl (Or.inr (Or.inl ⟨rfl, rfl, z, rfl⟩)) hd hr) hQ hc hn
theorem own_retD (X : Stand p l e R s m args below meth c T locs cells slots) (hx : p.tables.exec = Jvm.exec) {pc : Nat} {Ls : Array Slot} {z : UInt64} {rest : List Value} (hret : meth.sig.returnType = some .double) (hd : decode c.code pc = .ok (.dreturn, 1))
    (eT : T.heap = h) (hk : meth.locks = false) (hQ : Q (some (.double z)) h locs) (hc : cells ≤ C) (hn : slots ≤ N) : own_Go p e below (own_PO s Q C N) (T.setTop (mkF m pc Ls (.double z :: rest))) :=
  own_end X (fun q => by rw [hret] at q; cases q) eT hk (fun fs hr => retOut X hx hret rfl (Or.inr (Or.inr (Or.inl ⟨rfl, rfl, z, rfl⟩))) hd hr) hQ hc hn
theorem own_retA (X : Stand p l e R s m args below meth c T locs cells slots) (hx : p.tables.exec = Jvm.exec) {pc : Nat} {Ls : Array Slot} {w : Value} {t : FieldType} {rest : List Value} (hret : meth.sig.returnType = some t) (ht : t.isReference = true) (hw : w.isRef = true) (hd : decode c.code pc = .ok (.areturn, 1))
    (eT : T.heap = h) (hk : meth.locks = false) (hQ : Q (some w) h locs) (hc : cells ≤ C) (hn : slots ≤ N) : own_Go p e below (own_PO s Q C N) (T.setTop (mkF m pc Ls (w :: rest))) :=
  own_end X (fun q => by rw [hret] at q; cases q) eT hk (fun fs hr => retOut X hx hret (by cases t <;> first | (cases ht; done) | (cases w <;> first | (cases hw; done) | rfl)) (Or.inr (Or.inr (Or.inr (Or.inr ⟨rfl, ht, hw⟩)))) hd hr) hQ hc hn
end New
end Jvm.RoadKit
namespace Jvm.Pilot.@@N@@
open Jvm Jvm.ClassFile Sem Op Lib Jvm.Free Jvm.Stand Jvm.LawKit Jvm.RoadKit Bundle Jvm.Pilot.@@N@@.Jvm.D

/-! the plain law -/
def own_min (x y : Int64) : Int64 := if y < x then y else x
def own_max (x y : Int64) : Int64 := if x < y then y else x
def own_red (x : Int64) : Int32 := if x < 120 then 1 else 0
theorem own_down {a b lo hi : Int64} {r q : Int32} (hlo : lo = own_min a b) (hhi : hi = own_max a b) (hr : r = own_red hi) (hq : q = own_red lo) (h : ¬ r = 0) : ¬ q = 0 := by
  have hh : hi < 120 := by
    by_cases g : hi < 120
    · exact g
    · exact absurd (by rw [hr, own_red, if_neg g]) h
  have hl : lo < 120 := by
    rw [Int64.lt_iff_toInt_lt] at hh ⊢
    by_cases g : b < a
    · have g' : ¬ a < b := by rw [Int64.lt_iff_toInt_lt] at g ⊢; omega
      rw [hlo, own_min, if_pos g]; rw [hhi, own_max, if_neg g'] at hh; rw [Int64.lt_iff_toInt_lt] at g; omega
    · rw [hlo, own_min, if_neg g]
      by_cases g' : a < b
      · rw [hhi, own_max, if_pos g'] at hh; rw [Int64.lt_iff_toInt_lt] at g'; omega
      · rw [hhi, own_max, if_neg g'] at hh; exact hh
  rw [hq, own_red, if_pos hl]; decide
theorem d1_0 : decode jdk_29_method_70_code 0 = .ok (.lload_n 0, 1) := by decide +kernel
theorem d1_1 : decode jdk_29_method_70_code 1 = .ok (.lload_n 2, 1) := by decide +kernel
theorem d1_2 : decode jdk_29_method_70_code 2 = .ok (.lcmp, 1) := by decide +kernel
theorem d1_3 : decode jdk_29_method_70_code 3 = .ok (.ifCond .gt 7, 3) := by decide +kernel
theorem d1_6 : decode jdk_29_method_70_code 6 = .ok (.lload_n 0, 1) := by decide +kernel
theorem d1_7 : decode jdk_29_method_70_code 7 = .ok (.goto 4, 3) := by decide +kernel
theorem d1_10 : decode jdk_29_method_70_code 10 = .ok (.lload_n 2, 1) := by decide +kernel
theorem d1_11 : decode jdk_29_method_70_code 11 = .ok (.lreturn, 1) := by decide +kernel
theorem ef_rm1 (m : MethodId) (x0 : Int64) (x1 : Int64) : entryFrame m #[(.long x0), (.long x1)] 4 = mkF m 0 #[.val (.long x0), .second, .val (.long x1), .second] [] := by first | (simp [entryFrame, mkF, argsToLocals, Value.category]; done) | rfl
def Q_rm1 (jA jB : Int64) (h0 : Heap) (n0 : Nat) (v : Option Value) (h : Heap) (L : List Loc) : Prop := v = some (.long (own_min jA jB)) ∧ Fr n0 L ∧ h = h0
set_option maxRecDepth 65536 in
set_option maxHeartbeats 40000000 in
theorem rm1 (l : Launch) (Z : State) (a0 : Array Value) (hw : ∀ d ∈ tables_1, d.before a0 Z = true) (ws : List Jvm.Cond) (jA : Int64) (jB : Int64)  (h0 : Heap) (n0 : Nat) (Z0 : n0 ≤ h0.size)  :
    MetFree l (⟨"java/lang/Math", "min", "(JJ)J"⟩ : MethodName) (head1 (Jvm.Cond.code (⟨"java/lang/Math", "min", "(JJ)J"⟩ : MethodName) jdk_29_method_70_code 4 (some .long) :: ws) ({ frames := 0, cells := 0, slots := 0, locals := 0 } : Room)) (fun a U => a = #[(.long jA), (.long jB)] ∧ Z.Warmed39 U.vm ∧ U.heap = h0) (fun _ _ _ _ _ => True) (fun _ U o U' => ∃ v L, o = .returned v ∧ Q_rm1 jA jB h0 n0 v U'.heap L ∧ FrameEnd U o U' L ({ frames := 0, cells := 0, slots := 0, locals := 0 } : Room).cells ({ frames := 0, cells := 0, slots := 0, locals := 0 } : Room).slots) := by
  refine MetFree.of_bodySF (Jvm.Free.JP.mathPlain rfl (by decide +kernel)) hisR ?_
  intro p e s m args below meth c s₁ Bd hml0 hP hK
  obtain ⟨rfl, hZ, hh⟩ := hP
  have hx := Bd.exec
  have hby := Bd.bytes
  have hml : c.maxLocals = 4 := hml0
  have hown : s.vm.findClass "java/lang/Math" = some m.cls := findClass_of_methodNamed Bd.named
  have hnm := (name_of_methodNamed Bd.named Bd.method).1
  have X0 : Stand p l e ({ frames := 0, cells := 0, slots := 0, locals := 0 } : Room) s m #[(.long jA), (.long jB)] below meth c s₁ [] 0 0 := Stand.of_body Bd
  have e0 : s₁.heap = h0 := by rw [← hh, Bd.state]; rfl
  have N0 := Fr.nil n0
  let PO : Outcome → State → Prop := own_PO s (Q_rm1 jA jB h0 n0) 0 0
  show own_Go p e below PO (s₁.setTop (entryFrame m #[(.long jA), (.long jB)] 4))
  rw [ef_rm1]
  show own_Go p e below PO (s₁.setTop (mkF m 0 #[.val (.long jA), .second, .val (.long jB), .second] []))
  refine own_back ?_ (fun t k => XS.lloadN X0.here hx rfl (hb hby d1_0) rfl k)
  show own_Go p e below PO (s₁.setTop (mkF m 1 #[.val (.long jA), .second, .val (.long jB), .second] [(.long jA)]))
  refine own_back ?_ (fun t k => XS.lloadN X0.here hx rfl (hb hby d1_1) rfl k)
  show own_Go p e below PO (s₁.setTop (mkF m 2 #[.val (.long jA), .second, .val (.long jB), .second] [(.long jB), (.long jA)]))
  refine own_back ?_ (fun t k => XS.lcmp X0.here hx rfl (hb hby d1_2) rfl k)
  show own_Go p e below PO (s₁.setTop (mkF m 3 #[.val (.long jA), .second, .val (.long jB), .second] [(.int (lcmpW jA jB))]))
  by_cases hc3_1 : jB < jA
  case pos =>
    refine own_back ?_ (fun t k => XS.ifYes X0.here hx rfl (pc0 := 3) (pc' := 10) rfl (hb hby d1_3) rfl ((if0 _ _).trans (tlt ((lw_gt _ _).mpr hc3_1)).2.2.1) (by decide) (by decide) k)
    show own_Go p e below PO (s₁.setTop (mkF m 10 #[.val (.long jA), .second, .val (.long jB), .second] []))
    refine own_back ?_ (fun t k => XS.lloadN X0.here hx rfl (hb hby d1_10) rfl k)
    show own_Go p e below PO (s₁.setTop (mkF m 11 #[.val (.long jA), .second, .val (.long jB), .second] [(.long jB)]))
    refine own_retJ X0 hx (rest := []) Bd.returns (hb hby d1_11) e0 (Bd.notSynchronized) ?_ (by decide) (by decide)
    exact ⟨by simp [own_min, hc3_1], N0, rfl⟩
  refine own_back ?_ (fun t k => XS.ifNo X0.here hx rfl (hb hby d1_3) rfl ((if0 _ _).trans (flt (mt (lw_gt _ _).mp hc3_1)).2.2.1) k)
  show own_Go p e below PO (s₁.setTop (mkF m 6 #[.val (.long jA), .second, .val (.long jB), .second] []))
  refine own_back ?_ (fun t k => XS.lloadN X0.here hx rfl (hb hby d1_6) rfl k)
  show own_Go p e below PO (s₁.setTop (mkF m 7 #[.val (.long jA), .second, .val (.long jB), .second] [(.long jA)]))
  refine own_back ?_ (fun t k => XS.goto X0.here hx rfl (pc0 := 7) (pc' := 11) rfl (hb hby d1_7) (by decide) (by decide) k)
  show own_Go p e below PO (s₁.setTop (mkF m 11 #[.val (.long jA), .second, .val (.long jB), .second] [(.long jA)]))
  refine own_retJ X0 hx (rest := []) Bd.returns (hb hby d1_11) e0 (Bd.notSynchronized) ?_ (by decide) (by decide)
  exact ⟨by simp [own_min, hc3_1], N0, rfl⟩
theorem d2_0 : decode jdk_29_method_66_code 0 = .ok (.lload_n 0, 1) := by decide +kernel
theorem d2_1 : decode jdk_29_method_66_code 1 = .ok (.lload_n 2, 1) := by decide +kernel
theorem d2_2 : decode jdk_29_method_66_code 2 = .ok (.lcmp, 1) := by decide +kernel
theorem d2_3 : decode jdk_29_method_66_code 3 = .ok (.ifCond .lt 7, 3) := by decide +kernel
theorem d2_6 : decode jdk_29_method_66_code 6 = .ok (.lload_n 0, 1) := by decide +kernel
theorem d2_7 : decode jdk_29_method_66_code 7 = .ok (.goto 4, 3) := by decide +kernel
theorem d2_10 : decode jdk_29_method_66_code 10 = .ok (.lload_n 2, 1) := by decide +kernel
theorem d2_11 : decode jdk_29_method_66_code 11 = .ok (.lreturn, 1) := by decide +kernel
theorem ef_rm2 (m : MethodId) (x0 : Int64) (x1 : Int64) : entryFrame m #[(.long x0), (.long x1)] 4 = mkF m 0 #[.val (.long x0), .second, .val (.long x1), .second] [] := by first | (simp [entryFrame, mkF, argsToLocals, Value.category]; done) | rfl
def Q_rm2 (jA jB : Int64) (h0 : Heap) (n0 : Nat) (v : Option Value) (h : Heap) (L : List Loc) : Prop := v = some (.long (own_max jA jB)) ∧ Fr n0 L ∧ h = h0
set_option maxRecDepth 65536 in
set_option maxHeartbeats 40000000 in
theorem rm2 (l : Launch) (Z : State) (a0 : Array Value) (hw : ∀ d ∈ tables_1, d.before a0 Z = true) (ws : List Jvm.Cond) (jA : Int64) (jB : Int64)  (h0 : Heap) (n0 : Nat) (Z0 : n0 ≤ h0.size)  :
    MetFree l (⟨"java/lang/Math", "max", "(JJ)J"⟩ : MethodName) (head1 (Jvm.Cond.code (⟨"java/lang/Math", "max", "(JJ)J"⟩ : MethodName) jdk_29_method_66_code 4 (some .long) :: ws) ({ frames := 0, cells := 0, slots := 0, locals := 0 } : Room)) (fun a U => a = #[(.long jA), (.long jB)] ∧ Z.Warmed39 U.vm ∧ U.heap = h0) (fun _ _ _ _ _ => True) (fun _ U o U' => ∃ v L, o = .returned v ∧ Q_rm2 jA jB h0 n0 v U'.heap L ∧ FrameEnd U o U' L ({ frames := 0, cells := 0, slots := 0, locals := 0 } : Room).cells ({ frames := 0, cells := 0, slots := 0, locals := 0 } : Room).slots) := by
  refine MetFree.of_bodySF (Jvm.Free.JP.mathPlain rfl (by decide +kernel)) hisR ?_
  intro p e s m args below meth c s₁ Bd hml0 hP hK
  obtain ⟨rfl, hZ, hh⟩ := hP
  have hx := Bd.exec
  have hby := Bd.bytes
  have hml : c.maxLocals = 4 := hml0
  have hown : s.vm.findClass "java/lang/Math" = some m.cls := findClass_of_methodNamed Bd.named
  have hnm := (name_of_methodNamed Bd.named Bd.method).1
  have X0 : Stand p l e ({ frames := 0, cells := 0, slots := 0, locals := 0 } : Room) s m #[(.long jA), (.long jB)] below meth c s₁ [] 0 0 := Stand.of_body Bd
  have e0 : s₁.heap = h0 := by rw [← hh, Bd.state]; rfl
  have N0 := Fr.nil n0
  let PO : Outcome → State → Prop := own_PO s (Q_rm2 jA jB h0 n0) 0 0
  show own_Go p e below PO (s₁.setTop (entryFrame m #[(.long jA), (.long jB)] 4))
  rw [ef_rm2]
  show own_Go p e below PO (s₁.setTop (mkF m 0 #[.val (.long jA), .second, .val (.long jB), .second] []))
  refine own_back ?_ (fun t k => XS.lloadN X0.here hx rfl (hb hby d2_0) rfl k)
  show own_Go p e below PO (s₁.setTop (mkF m 1 #[.val (.long jA), .second, .val (.long jB), .second] [(.long jA)]))
  refine own_back ?_ (fun t k => XS.lloadN X0.here hx rfl (hb hby d2_1) rfl k)
  show own_Go p e below PO (s₁.setTop (mkF m 2 #[.val (.long jA), .second, .val (.long jB), .second] [(.long jB), (.long jA)]))
  refine own_back ?_ (fun t k => XS.lcmp X0.here hx rfl (hb hby d2_2) rfl k)
  show own_Go p e below PO (s₁.setTop (mkF m 3 #[.val (.long jA), .second, .val (.long jB), .second] [(.int (lcmpW jA jB))]))
  by_cases hc3_1 : jA < jB
  case pos =>
    refine own_back ?_ (fun t k => XS.ifYes X0.here hx rfl (pc0 := 3) (pc' := 10) rfl (hb hby d2_3) rfl ((if0 _ _).trans (tlt ((lw_lt _ _).mpr hc3_1)).1) (by decide) (by decide) k)
    show own_Go p e below PO (s₁.setTop (mkF m 10 #[.val (.long jA), .second, .val (.long jB), .second] []))
    refine own_back ?_ (fun t k => XS.lloadN X0.here hx rfl (hb hby d2_10) rfl k)
    show own_Go p e below PO (s₁.setTop (mkF m 11 #[.val (.long jA), .second, .val (.long jB), .second] [(.long jB)]))
    refine own_retJ X0 hx (rest := []) Bd.returns (hb hby d2_11) e0 (Bd.notSynchronized) ?_ (by decide) (by decide)
    exact ⟨by simp [own_max, hc3_1], N0, rfl⟩
  refine own_back ?_ (fun t k => XS.ifNo X0.here hx rfl (hb hby d2_3) rfl ((if0 _ _).trans (flt (mt (lw_lt _ _).mp hc3_1)).1) k)
  show own_Go p e below PO (s₁.setTop (mkF m 6 #[.val (.long jA), .second, .val (.long jB), .second] []))
  refine own_back ?_ (fun t k => XS.lloadN X0.here hx rfl (hb hby d2_6) rfl k)
  show own_Go p e below PO (s₁.setTop (mkF m 7 #[.val (.long jA), .second, .val (.long jB), .second] [(.long jA)]))
  refine own_back ?_ (fun t k => XS.goto X0.here hx rfl (pc0 := 7) (pc' := 11) rfl (hb hby d2_7) (by decide) (by decide) k)
  show own_Go p e below PO (s₁.setTop (mkF m 11 #[.val (.long jA), .second, .val (.long jB), .second] [(.long jA)]))
  refine own_retJ X0 hx (rest := []) Bd.returns (hb hby d2_11) e0 (Bd.notSynchronized) ?_ (by decide) (by decide)
  exact ⟨by simp [own_max, hc3_1], N0, rfl⟩
theorem d3_0 : decode prog_47_method_2_code 0 = .ok (.lload_n 0, 1) := by decide +kernel
theorem d3_1 : decode prog_47_method_2_code 1 = .ok (.ldc2_w 9, 3) := by decide +kernel
theorem d3_4 : decode prog_47_method_2_code 4 = .ok (.lcmp, 1) := by decide +kernel
theorem d3_5 : decode prog_47_method_2_code 5 = .ok (.ifCond .ge 7, 3) := by decide +kernel
theorem d3_8 : decode prog_47_method_2_code 8 = .ok (.iconst 1, 1) := by decide +kernel
theorem d3_9 : decode prog_47_method_2_code 9 = .ok (.goto 4, 3) := by decide +kernel
theorem d3_12 : decode prog_47_method_2_code 12 = .ok (.iconst 0, 1) := by decide +kernel
theorem d3_13 : decode prog_47_method_2_code 13 = .ok (.ireturn, 1) := by decide +kernel
theorem pn_0 : plainName "com/example/overcap/overcap/calc/TenYearReduction" = true := by first | (simp [plainName, overriddenIn]; done) | decide +kernel
theorem ef_rm3 (m : MethodId) (x0 : Int64) : entryFrame m #[(.long x0)] 2 = mkF m 0 #[.val (.long x0), .second] [] := by first | (simp [entryFrame, mkF, argsToLocals, Value.category]; done) | rfl
def Q_rm3 (jA : Int64) (h0 : Heap) (n0 : Nat) (v : Option Value) (h : Heap) (L : List Loc) : Prop := v = some (.int (own_red jA)) ∧ Fr n0 L ∧ h = h0
set_option maxRecDepth 65536 in
set_option maxHeartbeats 40000000 in
theorem rm3 (l : Launch) (Z : State) (a0 : Array Value) (hw : ∀ d ∈ tables_1, d.before a0 Z = true) (ws : List Jvm.Cond) (jA : Int64)  (h0 : Heap) (n0 : Nat) (Z0 : n0 ≤ h0.size)  :
    MetFree l (⟨"com/example/overcap/overcap/calc/TenYearReduction", "reduces", "(J)Z"⟩ : MethodName) (head1 (Jvm.Cond.code (⟨"com/example/overcap/overcap/calc/TenYearReduction", "reduces", "(J)Z"⟩ : MethodName) prog_47_method_2_code 2 (some .boolean) :: ws) ({ frames := 0, cells := 0, slots := 0, locals := 0 } : Room)) (fun a U => a = #[(.long jA)] ∧ Z.Warmed39 U.vm ∧ U.heap = h0) (fun _ _ _ _ _ => True) (fun _ U o U' => ∃ v L, o = .returned v ∧ Q_rm3 jA h0 n0 v U'.heap L ∧ FrameEnd U o U' L ({ frames := 0, cells := 0, slots := 0, locals := 0 } : Room).cells ({ frames := 0, cells := 0, slots := 0, locals := 0 } : Room).slots) := by
  refine MetFree.of_bodySF (plainFor_of_name pn_0) hisR ?_
  intro p e s m args below meth c s₁ Bd hml0 hP hK
  obtain ⟨rfl, hZ, hh⟩ := hP
  have hx := Bd.exec
  have hby := Bd.bytes
  have hml : c.maxLocals = 2 := hml0
  have hown : s.vm.findClass "com/example/overcap/overcap/calc/TenYearReduction" = some m.cls := findClass_of_methodNamed Bd.named
  have hnm := (name_of_methodNamed Bd.named Bd.method).1
  have X0 : Stand p l e ({ frames := 0, cells := 0, slots := 0, locals := 0 } : Room) s m #[(.long jA)] below meth c s₁ [] 0 0 := Stand.of_body Bd
  have e0 : s₁.heap = h0 := by rw [← hh, Bd.state]; rfl
  have N0 := Fr.nil n0
  let PO : Outcome → State → Prop := own_PO s (Q_rm3 jA h0 n0) 0 0
  show own_Go p e below PO (s₁.setTop (entryFrame m #[(.long jA)] 2))
  rw [ef_rm3]
  show own_Go p e below PO (s₁.setTop (mkF m 0 #[.val (.long jA), .second] []))
  refine own_back ?_ (fun t k => XS.lloadN X0.here hx rfl (hb hby d3_0) rfl k)
  show own_Go p e below PO (s₁.setTop (mkF m 1 #[.val (.long jA), .second] [(.long jA)]))
  refine own_back ?_ (fun t k => X0.ldc2Long hx hown (mvT hZ (hw _ (List.mem_of_getElem? (i := 12) rfl))) (g := (mkF m 1 #[.val (.long jA), .second] [(.long jA)])) rfl (hb hby d3_1) _ k)
  show own_Go p e below PO (s₁.setTop (mkF m 4 #[.val (.long jA), .second] [(.long (120 : Int64)), (.long jA)]))
  refine own_back ?_ (fun t k => XS.lcmp X0.here hx rfl (hb hby d3_4) rfl k)
  show own_Go p e below PO (s₁.setTop (mkF m 5 #[.val (.long jA), .second] [(.int (lcmpW jA (120 : Int64)))]))
  by_cases hc5_1 : jA < (120 : Int64)
  case pos =>
    refine own_back ?_ (fun t k => XS.ifNo X0.here hx rfl (hb hby d3_5) rfl ((if0 _ _).trans (tlt ((lw_lt _ _).mpr hc5_1)).2.1) k)
    show own_Go p e below PO (s₁.setTop (mkF m 8 #[.val (.long jA), .second] []))
    refine own_back ?_ (fun t k => XS.iconst X0.here hx rfl (hb hby d3_8) k)
    show own_Go p e below PO (s₁.setTop (mkF m 9 #[.val (.long jA), .second] [(.int (1 : Int32))]))
    refine own_back ?_ (fun t k => XS.goto X0.here hx rfl (pc0 := 9) (pc' := 13) rfl (hb hby d3_9) (by decide) (by decide) k)
    show own_Go p e below PO (s₁.setTop (mkF m 13 #[.val (.long jA), .second] [(.int (1 : Int32))]))
    refine own_retN X0 hx (t := .boolean) (rest := []) Bd.returns (by decide) (by simp) (hb hby d3_13) e0 (Bd.notSynchronized) ?_ (by decide) (by decide)
    exact ⟨by simp [own_red, hc5_1], N0, rfl⟩
  refine own_back ?_ (fun t k => XS.ifYes X0.here hx rfl (pc0 := 5) (pc' := 12) rfl (hb hby d3_5) rfl ((if0 _ _).trans (flt (mt (lw_lt _ _).mp hc5_1)).2.1) (by decide) (by decide) k)
  show own_Go p e below PO (s₁.setTop (mkF m 12 #[.val (.long jA), .second] []))
  refine own_back ?_ (fun t k => XS.iconst X0.here hx rfl (hb hby d3_12) k)
  show own_Go p e below PO (s₁.setTop (mkF m 13 #[.val (.long jA), .second] [(.int (0 : Int32))]))
  refine own_retN X0 hx (t := .boolean) (rest := []) Bd.returns (by decide) (by simp) (hb hby d3_13) e0 (Bd.notSynchronized) ?_ (by decide) (by decide)
  exact ⟨by simp [own_red, hc5_1], N0, rfl⟩
theorem pd_0 : parseMethodDescriptor "(JJ)J" = some ⟨[.long, .long], some .long⟩ := by decide +kernel
theorem pd_1 : parseMethodDescriptor "(J)Z" = some ⟨[.long], some .boolean⟩ := by decide +kernel
theorem pn_1 : plainName "com/example/overcap/overcap/calc/TenYearReductionReducesPinLaw" = true := by first | (simp [plainName, overriddenIn]; done) | decide +kernel
theorem ef_rm0 (m : MethodId) (x0 : Int64) (x1 : Int64) : entryFrame m #[(.long x0), (.long x1)] maxLocals = mkF m 0 #[.val (.long x0), .second, .val (.long x1), .second, .unset, .unset, .unset, .unset, .unset, .unset, .unset] [] := by first | (simp [entryFrame, mkF, argsToLocals, Value.category, maxLocals]; done) | rfl
def Q_rm0 (n0 : Nat) (v : Option Value) (h : Heap) (L : List Loc) : Prop := v = some (.int 1) ∧ Fr n0 L
set_option maxRecDepth 65536 in
set_option maxHeartbeats 40000000 in
theorem rm0 (l : Launch) (Z : State) (a0 : Array Value) (hw : ∀ d ∈ tables_1, d.before a0 Z = true) (ws : List Jvm.Cond) (pA : Int64) (pB : Int64)  (h0 : Heap) (n0 : Nat) (Z0 : n0 ≤ h0.size)  :
    MetFree l x (head1 (Jvm.Cond.code x code maxLocals ret :: ws) room_1) (fun a U => a = #[(.long pA), (.long pB)] ∧ Z.Warmed39 U.vm ∧ U.heap = h0) (fun _ _ _ _ _ => True) (fun _ U o U' => ∃ v L, o = .returned v ∧ Q_rm0 n0 v U'.heap L ∧ FrameEnd U o U' L room_1.cells room_1.slots) := by
  refine MetFree.of_bodySF (plainFor_of_name pn_1) hisR ?_
  intro p e s m args below meth c s₁ Bd hml0 hP hK
  obtain ⟨rfl, hZ, hh⟩ := hP
  have hx := Bd.exec
  have hby := Bd.bytes
  have hml : c.maxLocals = 11 := hml0
  have hown : s.vm.findClass "com/example/overcap/overcap/calc/TenYearReductionReducesPinLaw" = some m.cls := findClass_of_methodNamed Bd.named
  have hnm := (name_of_methodNamed Bd.named Bd.method).1
  have X0 : Stand p l e room_1 s m #[(.long pA), (.long pB)] below meth c s₁ [] 0 0 := Stand.of_body Bd
  have e0 : s₁.heap = h0 := by rw [← hh, Bd.state]; rfl
  have N0 := Fr.nil n0
  let PO : Outcome → State → Prop := own_PO s (Q_rm0 n0) 0 0
  show own_Go p e below PO (s₁.setTop (entryFrame m #[(.long pA), (.long pB)] maxLocals))
  rw [ef_rm0]
  show own_Go p e below PO (s₁.setTop (mkF m 0 #[.val (.long pA), .second, .val (.long pB), .second, .unset, .unset, .unset, .unset, .unset, .unset, .unset] []))
  refine own_back ?_ (fun t k => XS.lloadN X0.here hx rfl (hb hby at_0) rfl k)
  show own_Go p e below PO (s₁.setTop (mkF m 1 #[.val (.long pA), .second, .val (.long pB), .second, .unset, .unset, .unset, .unset, .unset, .unset, .unset] [(.long pA)]))
  refine own_back ?_ (fun t k => XS.lloadN X0.here hx rfl (hb hby at_1) rfl k)
  show own_Go p e below PO (s₁.setTop (mkF m 2 #[.val (.long pA), .second, .val (.long pB), .second, .unset, .unset, .unset, .unset, .unset, .unset, .unset] [(.long pB), (.long pA)]))
  obtain ⟨_, _, ⟨T1, L1, k1, n1⟩, -, X1, ⟨Lc1, hQ1, l1, y1, z1⟩, st1⟩ := Jvm.LawKit.callS X0 hx (y := (⟨"java/lang/Math", "min", "(JJ)J"⟩ : MethodName)) hown (mvT hZ (hw _ (List.mem_of_getElem? (i := 0) rfl))) (mvT hZ (hw _ (List.mem_of_getElem? (i := 1) rfl))) (mvT hZ (hw _ (List.mem_of_getElem? (i := 2) rfl))) (mvT hZ (hw _ (List.mem_of_getElem? (i := 3) rfl))) (by decide) (backOf (W := 0) (rm1 l Z a0 hw [] pA pB  h0 n0 Z0 ) hZ (hw _ (List.mem_of_getElem? (i := 3) rfl)) (hw _ (List.mem_of_getElem? (i := 2) rfl)) (by decide) (by decide)) (g := (mkF m 2 #[.val (.long pA), .second, .val (.long pB), .second, .unset, .unset, .unset, .unset, .unset, .unset, .unset] [(.long pB), (.long pA)])) rfl (by rw [hml]; rfl) (argsL := [(.long pA), (.long pB)]) (rest := []) (lenOf pd_0 rfl) rfl (by show 2 * 0 + _ ≤ _; exact Nat.le_of_eq rfl) (hb hby at_2) (fun _ _ => ⟨rfl, e0, (by decide : 0 + 0 ≤ _), (by decide : 0 + 0 ≤ _)⟩)
  dsimp only [Pt.U, Pt.locs, Pt.cells, Pt.slots] at X1 l1 y1 z1 st1 hQ1
  subst l1 y1 z1
  obtain ⟨rfl, N1q, e1⟩ := hQ1
  have N1 := Fr.app N0 N1q
  refine own_back ?_ st1
  show own_Go p e below PO (T1.setTop (mkF m 5 #[.val (.long pA), .second, .val (.long pB), .second, .unset, .unset, .unset, .unset, .unset, .unset, .unset] [(.long (own_min pA pB))]))
  refine own_gen (A := Int64) (own_min pA pB) (fun r2_2 => own_Go p e below PO (T1.setTop (mkF m 5 #[.val (.long pA), .second, .val (.long pB), .second, .unset, .unset, .unset, .unset, .unset, .unset, .unset] [(.long r2_2)]))) ?_
  intro r2_2 h_r2_2
  show own_Go p e below PO (T1.setTop (mkF m 5 #[.val (.long pA), .second, .val (.long pB), .second, .unset, .unset, .unset, .unset, .unset, .unset, .unset] [(.long r2_2)]))
  refine own_back ?_ (fun t k => XS.lstore X1.here hx rfl (hb hby at_5) rfl (l' := #[.val (.long pA), .second, .val (.long pB), .second, .val (.long r2_2), .second, .unset, .unset, .unset, .unset, .unset]) rfl k)
  show own_Go p e below PO (T1.setTop (mkF m 7 #[.val (.long pA), .second, .val (.long pB), .second, .val (.long r2_2), .second, .unset, .unset, .unset, .unset, .unset] []))
  refine own_back ?_ (fun t k => XS.lloadN X1.here hx rfl (hb hby at_7) rfl k)
  show own_Go p e below PO (T1.setTop (mkF m 8 #[.val (.long pA), .second, .val (.long pB), .second, .val (.long r2_2), .second, .unset, .unset, .unset, .unset, .unset] [(.long pA)]))
  refine own_back ?_ (fun t k => XS.lloadN X1.here hx rfl (hb hby at_8) rfl k)
  show own_Go p e below PO (T1.setTop (mkF m 9 #[.val (.long pA), .second, .val (.long pB), .second, .val (.long r2_2), .second, .unset, .unset, .unset, .unset, .unset] [(.long pB), (.long pA)]))
  obtain ⟨_, _, ⟨T3, L3, k3, n3⟩, -, X3, ⟨Lc3, hQ3, l3, y3, z3⟩, st3⟩ := Jvm.LawKit.callS X1 hx (y := (⟨"java/lang/Math", "max", "(JJ)J"⟩ : MethodName)) hown (mvT hZ (hw _ (List.mem_of_getElem? (i := 4) rfl))) (mvT hZ (hw _ (List.mem_of_getElem? (i := 5) rfl))) (mvT hZ (hw _ (List.mem_of_getElem? (i := 2) rfl))) (mvT hZ (hw _ (List.mem_of_getElem? (i := 6) rfl))) (by decide) (backOf (W := 0) (rm2 l Z a0 hw [] pA pB  h0 n0 Z0 ) hZ (hw _ (List.mem_of_getElem? (i := 6) rfl)) (hw _ (List.mem_of_getElem? (i := 2) rfl)) (by decide) (by decide)) (g := (mkF m 9 #[.val (.long pA), .second, .val (.long pB), .second, .val (.long r2_2), .second, .unset, .unset, .unset, .unset, .unset] [(.long pB), (.long pA)])) rfl (by rw [hml]; rfl) (argsL := [(.long pA), (.long pB)]) (rest := []) (lenOf pd_0 rfl) rfl (by show 2 * 0 + _ ≤ _; exact Nat.le_of_eq rfl) (hb hby at_9) (fun _ _ => ⟨rfl, e1, (by decide : 0 + 0 ≤ _), (by decide : 0 + 0 ≤ _)⟩)
  dsimp only [Pt.U, Pt.locs, Pt.cells, Pt.slots] at X3 l3 y3 z3 st3 hQ3
  subst l3 y3 z3
  obtain ⟨rfl, N3q, e3⟩ := hQ3
  have N3 := Fr.app N1 N3q
  refine own_back ?_ st3
  show own_Go p e below PO (T3.setTop (mkF m 12 #[.val (.long pA), .second, .val (.long pB), .second, .val (.long r2_2), .second, .unset, .unset, .unset, .unset, .unset] [(.long (own_max pA pB))]))
  refine own_gen (A := Int64) (own_max pA pB) (fun r9_4 => own_Go p e below PO (T3.setTop (mkF m 12 #[.val (.long pA), .second, .val (.long pB), .second, .val (.long r2_2), .second, .unset, .unset, .unset, .unset, .unset] [(.long r9_4)]))) ?_
  intro r9_4 h_r9_4
  show own_Go p e below PO (T3.setTop (mkF m 12 #[.val (.long pA), .second, .val (.long pB), .second, .val (.long r2_2), .second, .unset, .unset, .unset, .unset, .unset] [(.long r9_4)]))
  refine own_back ?_ (fun t k => XS.lstore X3.here hx rfl (hb hby at_12) rfl (l' := #[.val (.long pA), .second, .val (.long pB), .second, .val (.long r2_2), .second, .val (.long r9_4), .second, .unset, .unset, .unset]) rfl k)
  show own_Go p e below PO (T3.setTop (mkF m 14 #[.val (.long pA), .second, .val (.long pB), .second, .val (.long r2_2), .second, .val (.long r9_4), .second, .unset, .unset, .unset] []))
  refine own_back ?_ (fun t k => X3.ldc2Long hx hown (mvT hZ (hw _ (List.mem_of_getElem? (i := 7) rfl))) (g := (mkF m 14 #[.val (.long pA), .second, .val (.long pB), .second, .val (.long r2_2), .second, .val (.long r9_4), .second, .unset, .unset, .unset] [])) rfl (hb hby at_14) _ k)
  show own_Go p e below PO (T3.setTop (mkF m 17 #[.val (.long pA), .second, .val (.long pB), .second, .val (.long r2_2), .second, .val (.long r9_4), .second, .unset, .unset, .unset] [(.long (119 : Int64))]))
  obtain ⟨_, _, ⟨T5, L5, k5, n5⟩, -, X5, ⟨Lc5, hQ5, l5, y5, z5⟩, st5⟩ := Jvm.LawKit.callS X3 hx (y := (⟨"com/example/overcap/overcap/calc/TenYearReduction", "reduces", "(J)Z"⟩ : MethodName)) hown (mvT hZ (hw _ (List.mem_of_getElem? (i := 8) rfl))) (mvT hZ (hw _ (List.mem_of_getElem? (i := 9) rfl))) (mvT hZ (hw _ (List.mem_of_getElem? (i := 10) rfl))) (mvT hZ (hw _ (List.mem_of_getElem? (i := 11) rfl))) (by decide) (backOf (W := 0) (rm3 l Z a0 hw [] (119 : Int64)  h0 n0 Z0 ) hZ (hw _ (List.mem_of_getElem? (i := 11) rfl)) (hw _ (List.mem_of_getElem? (i := 10) rfl)) (by decide) (by decide)) (g := (mkF m 17 #[.val (.long pA), .second, .val (.long pB), .second, .val (.long r2_2), .second, .val (.long r9_4), .second, .unset, .unset, .unset] [(.long (119 : Int64))])) rfl (by rw [hml]; rfl) (argsL := [(.long (119 : Int64))]) (rest := []) (lenOf pd_1 rfl) rfl (by show 2 * 0 + _ ≤ _; exact Nat.le_of_eq rfl) (hb hby at_17) (fun _ _ => ⟨rfl, e3, (by decide : 0 + 0 ≤ _), (by decide : 0 + 0 ≤ _)⟩)
  dsimp only [Pt.U, Pt.locs, Pt.cells, Pt.slots] at X5 l5 y5 z5 st5 hQ5
  subst l5 y5 z5
  obtain ⟨rfl, N5q, e5⟩ := hQ5
  have N5 := Fr.app N3 N5q
  refine own_back ?_ st5
  show own_Go p e below PO (T5.setTop (mkF m 20 #[.val (.long pA), .second, .val (.long pB), .second, .val (.long r2_2), .second, .val (.long r9_4), .second, .unset, .unset, .unset] [(.int (own_red (119 : Int64)))]))
  refine own_gen (A := Int32) (own_red (119 : Int64)) (fun r17_6 => own_Go p e below PO (T5.setTop (mkF m 20 #[.val (.long pA), .second, .val (.long pB), .second, .val (.long r2_2), .second, .val (.long r9_4), .second, .unset, .unset, .unset] [(.int r17_6)]))) ?_
  intro r17_6 h_r17_6
  show own_Go p e below PO (T5.setTop (mkF m 20 #[.val (.long pA), .second, .val (.long pB), .second, .val (.long r2_2), .second, .val (.long r9_4), .second, .unset, .unset, .unset] [(.int r17_6)]))
  refine own_back ?_ (fun t k => XS.istore X5.here hx rfl (hb hby at_20) rfl (l' := #[.val (.long pA), .second, .val (.long pB), .second, .val (.long r2_2), .second, .val (.long r9_4), .second, .val (.int r17_6), .unset, .unset]) rfl k)
  show own_Go p e below PO (T5.setTop (mkF m 22 #[.val (.long pA), .second, .val (.long pB), .second, .val (.long r2_2), .second, .val (.long r9_4), .second, .val (.int r17_6), .unset, .unset] []))
  refine own_back ?_ (fun t k => X5.ldc2Long hx hown (mvT hZ (hw _ (List.mem_of_getElem? (i := 13) rfl))) (g := (mkF m 22 #[.val (.long pA), .second, .val (.long pB), .second, .val (.long r2_2), .second, .val (.long r9_4), .second, .val (.int r17_6), .unset, .unset] [])) rfl (hb hby at_22) _ k)
  show own_Go p e below PO (T5.setTop (mkF m 25 #[.val (.long pA), .second, .val (.long pB), .second, .val (.long r2_2), .second, .val (.long r9_4), .second, .val (.int r17_6), .unset, .unset] [(.long (120 : Int64))]))
  obtain ⟨_, _, ⟨T7, L7, k7, n7⟩, -, X7, ⟨Lc7, hQ7, l7, y7, z7⟩, st7⟩ := Jvm.LawKit.callS X5 hx (y := (⟨"com/example/overcap/overcap/calc/TenYearReduction", "reduces", "(J)Z"⟩ : MethodName)) hown (mvT hZ (hw _ (List.mem_of_getElem? (i := 8) rfl))) (mvT hZ (hw _ (List.mem_of_getElem? (i := 9) rfl))) (mvT hZ (hw _ (List.mem_of_getElem? (i := 10) rfl))) (mvT hZ (hw _ (List.mem_of_getElem? (i := 11) rfl))) (by decide) (backOf (W := 0) (rm3 l Z a0 hw [] (120 : Int64)  h0 n0 Z0 ) hZ (hw _ (List.mem_of_getElem? (i := 11) rfl)) (hw _ (List.mem_of_getElem? (i := 10) rfl)) (by decide) (by decide)) (g := (mkF m 25 #[.val (.long pA), .second, .val (.long pB), .second, .val (.long r2_2), .second, .val (.long r9_4), .second, .val (.int r17_6), .unset, .unset] [(.long (120 : Int64))])) rfl (by rw [hml]; rfl) (argsL := [(.long (120 : Int64))]) (rest := []) (lenOf pd_1 rfl) rfl (by show 2 * 0 + _ ≤ _; exact Nat.le_of_eq rfl) (hb hby at_25) (fun _ _ => ⟨rfl, e5, (by decide : 0 + 0 ≤ _), (by decide : 0 + 0 ≤ _)⟩)
  dsimp only [Pt.U, Pt.locs, Pt.cells, Pt.slots] at X7 l7 y7 z7 st7 hQ7
  subst l7 y7 z7
  obtain ⟨rfl, N7q, e7⟩ := hQ7
  have N7 := Fr.app N5 N7q
  refine own_back ?_ st7
  show own_Go p e below PO (T7.setTop (mkF m 28 #[.val (.long pA), .second, .val (.long pB), .second, .val (.long r2_2), .second, .val (.long r9_4), .second, .val (.int r17_6), .unset, .unset] [(.int (own_red (120 : Int64)))]))
  refine own_gen (A := Int32) (own_red (120 : Int64)) (fun r25_8 => own_Go p e below PO (T7.setTop (mkF m 28 #[.val (.long pA), .second, .val (.long pB), .second, .val (.long r2_2), .second, .val (.long r9_4), .second, .val (.int r17_6), .unset, .unset] [(.int r25_8)]))) ?_
  intro r25_8 h_r25_8
  show own_Go p e below PO (T7.setTop (mkF m 28 #[.val (.long pA), .second, .val (.long pB), .second, .val (.long r2_2), .second, .val (.long r9_4), .second, .val (.int r17_6), .unset, .unset] [(.int r25_8)]))
  refine own_back ?_ (fun t k => XS.istore X7.here hx rfl (hb hby at_28) rfl (l' := #[.val (.long pA), .second, .val (.long pB), .second, .val (.long r2_2), .second, .val (.long r9_4), .second, .val (.int r17_6), .val (.int r25_8), .unset]) rfl k)
  show own_Go p e below PO (T7.setTop (mkF m 30 #[.val (.long pA), .second, .val (.long pB), .second, .val (.long r2_2), .second, .val (.long r9_4), .second, .val (.int r17_6), .val (.int r25_8), .unset] []))
  refine own_back ?_ (fun t k => XS.lload X7.here hx rfl (hb hby at_30) rfl k)
  show own_Go p e below PO (T7.setTop (mkF m 32 #[.val (.long pA), .second, .val (.long pB), .second, .val (.long r2_2), .second, .val (.long r9_4), .second, .val (.int r17_6), .val (.int r25_8), .unset] [(.long r9_4)]))
  obtain ⟨_, _, ⟨T9, L9, k9, n9⟩, -, X9, ⟨Lc9, hQ9, l9, y9, z9⟩, st9⟩ := Jvm.LawKit.callS X7 hx (y := (⟨"com/example/overcap/overcap/calc/TenYearReduction", "reduces", "(J)Z"⟩ : MethodName)) hown (mvT hZ (hw _ (List.mem_of_getElem? (i := 8) rfl))) (mvT hZ (hw _ (List.mem_of_getElem? (i := 9) rfl))) (mvT hZ (hw _ (List.mem_of_getElem? (i := 10) rfl))) (mvT hZ (hw _ (List.mem_of_getElem? (i := 11) rfl))) (by decide) (backOf (W := 0) (rm3 l Z a0 hw [] r9_4  h0 n0 Z0 ) hZ (hw _ (List.mem_of_getElem? (i := 11) rfl)) (hw _ (List.mem_of_getElem? (i := 10) rfl)) (by decide) (by decide)) (g := (mkF m 32 #[.val (.long pA), .second, .val (.long pB), .second, .val (.long r2_2), .second, .val (.long r9_4), .second, .val (.int r17_6), .val (.int r25_8), .unset] [(.long r9_4)])) rfl (by rw [hml]; rfl) (argsL := [(.long r9_4)]) (rest := []) (lenOf pd_1 rfl) rfl (by show 2 * 0 + _ ≤ _; exact Nat.le_of_eq rfl) (hb hby at_32) (fun _ _ => ⟨rfl, e7, (by decide : 0 + 0 ≤ _), (by decide : 0 + 0 ≤ _)⟩)
  dsimp only [Pt.U, Pt.locs, Pt.cells, Pt.slots] at X9 l9 y9 z9 st9 hQ9
  subst l9 y9 z9
  obtain ⟨rfl, N9q, e9⟩ := hQ9
  have N9 := Fr.app N7 N9q
  refine own_back ?_ st9
  show own_Go p e below PO (T9.setTop (mkF m 35 #[.val (.long pA), .second, .val (.long pB), .second, .val (.long r2_2), .second, .val (.long r9_4), .second, .val (.int r17_6), .val (.int r25_8), .unset] [(.int (own_red r9_4))]))
  refine own_gen (A := Int32) (own_red r9_4) (fun r32_10 => own_Go p e below PO (T9.setTop (mkF m 35 #[.val (.long pA), .second, .val (.long pB), .second, .val (.long r2_2), .second, .val (.long r9_4), .second, .val (.int r17_6), .val (.int r25_8), .unset] [(.int r32_10)]))) ?_
  intro r32_10 h_r32_10
  show own_Go p e below PO (T9.setTop (mkF m 35 #[.val (.long pA), .second, .val (.long pB), .second, .val (.long r2_2), .second, .val (.long r9_4), .second, .val (.int r17_6), .val (.int r25_8), .unset] [(.int r32_10)]))
  by_cases hc35_11 : r32_10 = (0 : Int32)
  case pos =>
    refine own_back ?_ (fun t k => XS.ifYes X9.here hx rfl (pc0 := 35) (pc' := 46) rfl (hb hby at_35) rfl ((if0 _ _).trans (teq hc35_11).1) (by decide) (by decide) k)
    show own_Go p e below PO (T9.setTop (mkF m 46 #[.val (.long pA), .second, .val (.long pB), .second, .val (.long r2_2), .second, .val (.long r9_4), .second, .val (.int r17_6), .val (.int r25_8), .unset] []))
    refine own_back ?_ (fun t k => XS.iconst X9.here hx rfl (hb hby at_46) k)
    show own_Go p e below PO (T9.setTop (mkF m 47 #[.val (.long pA), .second, .val (.long pB), .second, .val (.long r2_2), .second, .val (.long r9_4), .second, .val (.int r17_6), .val (.int r25_8), .unset] [(.int (1 : Int32))]))
    refine own_back ?_ (fun t k => XS.goto X9.here hx rfl (pc0 := 47) (pc' := 51) rfl (hb hby at_47) (by decide) (by decide) k)
    show own_Go p e below PO (T9.setTop (mkF m 51 #[.val (.long pA), .second, .val (.long pB), .second, .val (.long r2_2), .second, .val (.long r9_4), .second, .val (.int r17_6), .val (.int r25_8), .unset] [(.int (1 : Int32))]))
    refine own_back ?_ (fun t k => XS.istore X9.here hx rfl (hb hby at_51) rfl (l' := #[.val (.long pA), .second, .val (.long pB), .second, .val (.long r2_2), .second, .val (.long r9_4), .second, .val (.int r17_6), .val (.int r25_8), .val (.int (1 : Int32))]) rfl k)
    show own_Go p e below PO (T9.setTop (mkF m 53 #[.val (.long pA), .second, .val (.long pB), .second, .val (.long r2_2), .second, .val (.long r9_4), .second, .val (.int r17_6), .val (.int r25_8), .val (.int (1 : Int32))] []))
    refine own_back ?_ (fun t k => XS.iload X9.here hx rfl (hb hby at_53) rfl k)
    show own_Go p e below PO (T9.setTop (mkF m 55 #[.val (.long pA), .second, .val (.long pB), .second, .val (.long r2_2), .second, .val (.long r9_4), .second, .val (.int r17_6), .val (.int r25_8), .val (.int (1 : Int32))] [(.int r17_6)]))
    have hd55_12 : ¬ (r17_6 = (0 : Int32)) := by rw [h_r17_6]; decide
    refine own_back ?_ (fun t k => XS.ifNo X9.here hx rfl (hb hby at_55) rfl ((if0 _ _).trans (feq hd55_12).1) k)
    show own_Go p e below PO (T9.setTop (mkF m 58 #[.val (.long pA), .second, .val (.long pB), .second, .val (.long r2_2), .second, .val (.long r9_4), .second, .val (.int r17_6), .val (.int r25_8), .val (.int (1 : Int32))] []))
    refine own_back ?_ (fun t k => XS.iload X9.here hx rfl (hb hby at_58) rfl k)
    show own_Go p e below PO (T9.setTop (mkF m 60 #[.val (.long pA), .second, .val (.long pB), .second, .val (.long r2_2), .second, .val (.long r9_4), .second, .val (.int r17_6), .val (.int r25_8), .val (.int (1 : Int32))] [(.int r25_8)]))
    have hd60_13 : r25_8 = (0 : Int32) := by rw [h_r25_8]; decide
    refine own_back ?_ (fun t k => XS.ifNo X9.here hx rfl (hb hby at_60) rfl ((if0 _ _).trans (teq hd60_13).2) k)
    show own_Go p e below PO (T9.setTop (mkF m 63 #[.val (.long pA), .second, .val (.long pB), .second, .val (.long r2_2), .second, .val (.long r9_4), .second, .val (.int r17_6), .val (.int r25_8), .val (.int (1 : Int32))] []))
    refine own_back ?_ (fun t k => XS.iload X9.here hx rfl (hb hby at_63) rfl k)
    show own_Go p e below PO (T9.setTop (mkF m 65 #[.val (.long pA), .second, .val (.long pB), .second, .val (.long r2_2), .second, .val (.long r9_4), .second, .val (.int r17_6), .val (.int r25_8), .val (.int (1 : Int32))] [(.int (1 : Int32))]))
    have hd65_14 : ¬ ((1 : Int32) = (0 : Int32)) := (by decide)
    refine own_back ?_ (fun t k => XS.ifNo X9.here hx rfl (hb hby at_65) rfl ((if0 _ _).trans (feq hd65_14).1) k)
    show own_Go p e below PO (T9.setTop (mkF m 68 #[.val (.long pA), .second, .val (.long pB), .second, .val (.long r2_2), .second, .val (.long r9_4), .second, .val (.int r17_6), .val (.int r25_8), .val (.int (1 : Int32))] []))
    refine own_back ?_ (fun t k => XS.iconst X9.here hx rfl (hb hby at_68) k)
    show own_Go p e below PO (T9.setTop (mkF m 69 #[.val (.long pA), .second, .val (.long pB), .second, .val (.long r2_2), .second, .val (.long r9_4), .second, .val (.int r17_6), .val (.int r25_8), .val (.int (1 : Int32))] [(.int (1 : Int32))]))
    refine own_back ?_ (fun t k => XS.goto X9.here hx rfl (pc0 := 69) (pc' := 73) rfl (hb hby at_69) (by decide) (by decide) k)
    show own_Go p e below PO (T9.setTop (mkF m 73 #[.val (.long pA), .second, .val (.long pB), .second, .val (.long r2_2), .second, .val (.long r9_4), .second, .val (.int r17_6), .val (.int r25_8), .val (.int (1 : Int32))] [(.int (1 : Int32))]))
    refine own_retN X9 hx (t := .boolean) (rest := []) Bd.returns (by decide) (by simp) (hb hby at_73) e9 (Bd.notSynchronized) ?_ (by decide) (by decide)
    exact ⟨rfl, N9⟩
  refine own_back ?_ (fun t k => XS.ifNo X9.here hx rfl (hb hby at_35) rfl ((if0 _ _).trans (feq hc35_11).1) k)
  show own_Go p e below PO (T9.setTop (mkF m 38 #[.val (.long pA), .second, .val (.long pB), .second, .val (.long r2_2), .second, .val (.long r9_4), .second, .val (.int r17_6), .val (.int r25_8), .unset] []))
  refine own_back ?_ (fun t k => XS.lload X9.here hx rfl (hb hby at_38) rfl k)
  show own_Go p e below PO (T9.setTop (mkF m 40 #[.val (.long pA), .second, .val (.long pB), .second, .val (.long r2_2), .second, .val (.long r9_4), .second, .val (.int r17_6), .val (.int r25_8), .unset] [(.long r2_2)]))
  obtain ⟨_, _, ⟨T15, L15, k15, n15⟩, -, X15, ⟨Lc15, hQ15, l15, y15, z15⟩, st15⟩ := Jvm.LawKit.callS X9 hx (y := (⟨"com/example/overcap/overcap/calc/TenYearReduction", "reduces", "(J)Z"⟩ : MethodName)) hown (mvT hZ (hw _ (List.mem_of_getElem? (i := 8) rfl))) (mvT hZ (hw _ (List.mem_of_getElem? (i := 9) rfl))) (mvT hZ (hw _ (List.mem_of_getElem? (i := 10) rfl))) (mvT hZ (hw _ (List.mem_of_getElem? (i := 11) rfl))) (by decide) (backOf (W := 0) (rm3 l Z a0 hw [] r2_2  h0 n0 Z0 ) hZ (hw _ (List.mem_of_getElem? (i := 11) rfl)) (hw _ (List.mem_of_getElem? (i := 10) rfl)) (by decide) (by decide)) (g := (mkF m 40 #[.val (.long pA), .second, .val (.long pB), .second, .val (.long r2_2), .second, .val (.long r9_4), .second, .val (.int r17_6), .val (.int r25_8), .unset] [(.long r2_2)])) rfl (by rw [hml]; rfl) (argsL := [(.long r2_2)]) (rest := []) (lenOf pd_1 rfl) rfl (by show 2 * 0 + _ ≤ _; exact Nat.le_of_eq rfl) (hb hby at_40) (fun _ _ => ⟨rfl, e9, (by decide : 0 + 0 ≤ _), (by decide : 0 + 0 ≤ _)⟩)
  dsimp only [Pt.U, Pt.locs, Pt.cells, Pt.slots] at X15 l15 y15 z15 st15 hQ15
  subst l15 y15 z15
  obtain ⟨rfl, N15q, e15⟩ := hQ15
  have N15 := Fr.app N9 N15q
  refine own_back ?_ st15
  show own_Go p e below PO (T15.setTop (mkF m 43 #[.val (.long pA), .second, .val (.long pB), .second, .val (.long r2_2), .second, .val (.long r9_4), .second, .val (.int r17_6), .val (.int r25_8), .unset] [(.int (own_red r2_2))]))
  refine own_gen (A := Int32) (own_red r2_2) (fun r40_16 => own_Go p e below PO (T15.setTop (mkF m 43 #[.val (.long pA), .second, .val (.long pB), .second, .val (.long r2_2), .second, .val (.long r9_4), .second, .val (.int r17_6), .val (.int r25_8), .unset] [(.int r40_16)]))) ?_
  intro r40_16 h_r40_16
  show own_Go p e below PO (T15.setTop (mkF m 43 #[.val (.long pA), .second, .val (.long pB), .second, .val (.long r2_2), .second, .val (.long r9_4), .second, .val (.int r17_6), .val (.int r25_8), .unset] [(.int r40_16)]))
  have hd43_17 : ¬ (r40_16 = (0 : Int32)) := own_down h_r2_2 h_r9_4 h_r32_10 h_r40_16 hc35_11
  refine own_back ?_ (fun t k => XS.ifNo X15.here hx rfl (hb hby at_43) rfl ((if0 _ _).trans (feq hd43_17).1) k)
  show own_Go p e below PO (T15.setTop (mkF m 46 #[.val (.long pA), .second, .val (.long pB), .second, .val (.long r2_2), .second, .val (.long r9_4), .second, .val (.int r17_6), .val (.int r25_8), .unset] []))
  refine own_back ?_ (fun t k => XS.iconst X15.here hx rfl (hb hby at_46) k)
  show own_Go p e below PO (T15.setTop (mkF m 47 #[.val (.long pA), .second, .val (.long pB), .second, .val (.long r2_2), .second, .val (.long r9_4), .second, .val (.int r17_6), .val (.int r25_8), .unset] [(.int (1 : Int32))]))
  refine own_back ?_ (fun t k => XS.goto X15.here hx rfl (pc0 := 47) (pc' := 51) rfl (hb hby at_47) (by decide) (by decide) k)
  show own_Go p e below PO (T15.setTop (mkF m 51 #[.val (.long pA), .second, .val (.long pB), .second, .val (.long r2_2), .second, .val (.long r9_4), .second, .val (.int r17_6), .val (.int r25_8), .unset] [(.int (1 : Int32))]))
  refine own_back ?_ (fun t k => XS.istore X15.here hx rfl (hb hby at_51) rfl (l' := #[.val (.long pA), .second, .val (.long pB), .second, .val (.long r2_2), .second, .val (.long r9_4), .second, .val (.int r17_6), .val (.int r25_8), .val (.int (1 : Int32))]) rfl k)
  show own_Go p e below PO (T15.setTop (mkF m 53 #[.val (.long pA), .second, .val (.long pB), .second, .val (.long r2_2), .second, .val (.long r9_4), .second, .val (.int r17_6), .val (.int r25_8), .val (.int (1 : Int32))] []))
  refine own_back ?_ (fun t k => XS.iload X15.here hx rfl (hb hby at_53) rfl k)
  show own_Go p e below PO (T15.setTop (mkF m 55 #[.val (.long pA), .second, .val (.long pB), .second, .val (.long r2_2), .second, .val (.long r9_4), .second, .val (.int r17_6), .val (.int r25_8), .val (.int (1 : Int32))] [(.int r17_6)]))
  have hd55_18 : ¬ (r17_6 = (0 : Int32)) := by rw [h_r17_6]; decide
  refine own_back ?_ (fun t k => XS.ifNo X15.here hx rfl (hb hby at_55) rfl ((if0 _ _).trans (feq hd55_18).1) k)
  show own_Go p e below PO (T15.setTop (mkF m 58 #[.val (.long pA), .second, .val (.long pB), .second, .val (.long r2_2), .second, .val (.long r9_4), .second, .val (.int r17_6), .val (.int r25_8), .val (.int (1 : Int32))] []))
  refine own_back ?_ (fun t k => XS.iload X15.here hx rfl (hb hby at_58) rfl k)
  show own_Go p e below PO (T15.setTop (mkF m 60 #[.val (.long pA), .second, .val (.long pB), .second, .val (.long r2_2), .second, .val (.long r9_4), .second, .val (.int r17_6), .val (.int r25_8), .val (.int (1 : Int32))] [(.int r25_8)]))
  have hd60_19 : r25_8 = (0 : Int32) := by rw [h_r25_8]; decide
  refine own_back ?_ (fun t k => XS.ifNo X15.here hx rfl (hb hby at_60) rfl ((if0 _ _).trans (teq hd60_19).2) k)
  show own_Go p e below PO (T15.setTop (mkF m 63 #[.val (.long pA), .second, .val (.long pB), .second, .val (.long r2_2), .second, .val (.long r9_4), .second, .val (.int r17_6), .val (.int r25_8), .val (.int (1 : Int32))] []))
  refine own_back ?_ (fun t k => XS.iload X15.here hx rfl (hb hby at_63) rfl k)
  show own_Go p e below PO (T15.setTop (mkF m 65 #[.val (.long pA), .second, .val (.long pB), .second, .val (.long r2_2), .second, .val (.long r9_4), .second, .val (.int r17_6), .val (.int r25_8), .val (.int (1 : Int32))] [(.int (1 : Int32))]))
  have hd65_20 : ¬ ((1 : Int32) = (0 : Int32)) := (by decide)
  refine own_back ?_ (fun t k => XS.ifNo X15.here hx rfl (hb hby at_65) rfl ((if0 _ _).trans (feq hd65_20).1) k)
  show own_Go p e below PO (T15.setTop (mkF m 68 #[.val (.long pA), .second, .val (.long pB), .second, .val (.long r2_2), .second, .val (.long r9_4), .second, .val (.int r17_6), .val (.int r25_8), .val (.int (1 : Int32))] []))
  refine own_back ?_ (fun t k => XS.iconst X15.here hx rfl (hb hby at_68) k)
  show own_Go p e below PO (T15.setTop (mkF m 69 #[.val (.long pA), .second, .val (.long pB), .second, .val (.long r2_2), .second, .val (.long r9_4), .second, .val (.int r17_6), .val (.int r25_8), .val (.int (1 : Int32))] [(.int (1 : Int32))]))
  refine own_back ?_ (fun t k => XS.goto X15.here hx rfl (pc0 := 69) (pc' := 73) rfl (hb hby at_69) (by decide) (by decide) k)
  show own_Go p e below PO (T15.setTop (mkF m 73 #[.val (.long pA), .second, .val (.long pB), .second, .val (.long r2_2), .second, .val (.long r9_4), .second, .val (.int r17_6), .val (.int r25_8), .val (.int (1 : Int32))] [(.int (1 : Int32))]))
  refine own_retN X15 hx (t := .boolean) (rest := []) Bd.returns (by decide) (by simp) (hb hby at_73) e15 (Bd.notSynchronized) ?_ (by decide) (by decide)
  exact ⟨rfl, N15⟩
set_option maxRecDepth 65536 in
set_option maxHeartbeats 40000000 in
theorem comes_1 {Post : Tables → Env → Array Value → State → Outcome → State → Prop} (hpost : ∀ tb e args s v u, (limb_1_1.after args s (.returned v) u = true ∧ limb_1_2.after args s (.returned v) u = true ∧ True) → FrameEnd s (.returned v) u (Jvm.fieldLocs frame_1_writes args s ++ Jvm.arrayLocs frame_1_arrays args s ++ Jvm.staticLocs frame_1_statics s) 0 0 → Post tb e args s (.returned v) u) :
    ArmFor flags0 classFile x code maxLocals ret World_1 tables_1 room_1 Calls_1 rest_1 Pre_1 Post := by
  intro l hfl _ _ p e ha hc hk s m args below hf hA hF happ hP
  obtain ⟨hcalls, hrest, hpre⟩ := hP
  obtain ⟨-, -, -, hnamed, -, -, -, hat⟩ := (Spec.applies_iff hf).mp happ
  obtain ⟨hg, hn⟩ := and_e (Cond.before_iff.mp (show (Jvm.Cond.and given_1 narrow_1).before args s = true from hpre))
  obtain ⟨gc, g0⟩ := and_e hg
  obtain ⟨ga0, g1⟩ := and_e g0
  obtain ⟨w0, w1, rfl⟩ : ∃ w0 w1 : Value, args = #[w0, w1] := by
    have hs : args.size = 2 := by simpa [Cond.value, given_1] using gc
    obtain ⟨L⟩ := args
    match L, hs with
    | [w0, w1], _ => exact ⟨w0, w1, rfl⟩
  have hw := fun d (hd : d ∈ tables_1) => atoms_spec (ws := Jvm.Cond.code x code maxLocals ret :: tables_1) hat d (List.mem_cons_of_mem _ hd)
  obtain ⟨i0, ei0⟩ := isL_v ga0
  obtain rfl : w0 = (.long i0) := Option.some.inj ei0
  obtain ⟨i1, ei1⟩ := isL_v g1
  obtain rfl : w1 = (.long i1) := Option.some.inj ei1
  obtain ⟨n, o, h1, h2, h3, _, L, rfl, ⟨rfl, N⟩, hq⟩ := rm0 l s _ hw tables_1 i0 i1  s.heap s.heap.size (Nat.le_refl _)  p e ha hc hk s m _ below hf ((Spec.applies_iff_loose hf).mp happ).1 ⟨rfl, State.Warmed39.refl s, rfl⟩ trivial
  refine ⟨n, _, h1, h2, h3, hpost _ _ _ _ _ _ ⟨Cond.after_iff.mpr rfl, Cond.after_iff.mpr (eq_i res_at (Term.int_eval (1)) rfl), trivial⟩ ⟨hq.1, hq.2.1, (hq.2.2.sift fun y hy => Or.inr (N y hy)).mono (by decide) (by decide)⟩⟩
theorem main_1_1 : Claimed_1_1 := comes_1 fun _ _ _ _ _ _ h hF => ⟨h.1, hF⟩
theorem main_1_2 : Claimed_1_2 := comes_1 fun _ _ _ _ _ _ h hF => ⟨h.2.1, hF⟩
end Jvm.Pilot.@@N@@
namespace Jvm.Pilot.@@N@@
open Jvm Jvm.ClassFile Sem Op Lib Jvm.Free Jvm.Stand Jvm.Pilot.@@N@@.Jvm.D
/-! MADE BY PROGRAM (witnessworld.py) out of the Statement's table words and the real class files: 10 classes; the members and pool entries that the words name. The judged class is class 1, her method 1. -/
namespace start1
open Jvm.ClassFile
def u (s : String) : CpInfo := .utf8 (stringToUtf16 s)
/-- a pool by its gaps: so many unusable entries, then the entry; so many at the end -/
def gap : Nat → List CpInfo → List CpInfo
  | 0, r => r
  | n + 1, r => .unusable :: gap n r
def poolList (es : List (Nat × CpInfo)) (last : Nat) : List CpInfo := es.foldr (fun e r => gap e.1 (e.2 :: r)) (gap last [])
def pool (es : List (Nat × CpInfo)) (last : Nat) : Array CpInfo := ⟨poolList es last⟩
def fileOf (pool : Array CpInfo) (this : Nat) (attrs : Array Attribute := #[]) (ms : Array MethodInfo := #[]) (fl : Nat := 33) (sup : Nat := 0) (ifs : Array Nat := #[]) (fds : Array FieldInfo := #[]) : ClassFile where
  minorVersion := 0
  majorVersion := 65
  constantPool := pool
  accessFlags := fl
  thisClass := this
  superClass := sup
  interfaces := ifs
  fields := fds
  methods := ms
  attributes := attrs
def plain (name : String) (sup : Option ClassId) : Class where
  name := name
  kind := .ordinary
  loader := none
  accessFlags := 33
  super := sup
  interfaces := #[]
  cf := none
  fields := #[]
  methods := #[]
  instanceTypes := #[]
  staticTypes := #[]
  resolved := #[]
  callSites := []
  init := .initialized
  statics := none
  mirror := none

def pool0 : Array CpInfo := pool [(5, u "<init>"), (0, u "()V"), (1, .class_ 10), (1, u "java/lang/Object")] 113

def k0m0 : Method := { name := "<init>", desc := "()V", sig := { parameters := [], returnType := none }, accessFlags := 1, code := none }
/-- java/lang/Object -/
def k0 : Class := { plain "java/lang/Object" none with
  accessFlags := 33
  interfaces := #[]
  cf := some (fileOf pool0 8 #[] #[{ accessFlags := 1, nameIndex := 5, descriptorIndex := 6, attributes := #[] }] 33 0 #[] #[])
  fields := #[]
  methods := #[k0m0]
  instanceTypes := #[]
  staticTypes := #[]
  resolved := Array.replicate 124 none
  statics := none }

def pool1 : Array CpInfo := pool [(2, .class_ 4), (1, u "java/lang/Object"), (0, u "<init>"), (0, u "()V"), (0, .methodref 8 9), (0, .class_ 10), (0, .nameAndType 11 12), (0, u "java/lang/Math"), (0, u "min"), (0, u "(JJ)J"), (0, .methodref 8 14), (0, .nameAndType 15 12), (0, u "max"), (0, .long 119), (1, .methodref 19 20), (0, .class_ 21), (0, .nameAndType 22 23), (0, u "com/example/overcap/overcap/calc/TenYearReduction"), (0, u "reduces"), (0, u "(J)Z"), (0, .long 120), (1, .class_ 27), (0, u "com/example/overcap/overcap/calc/TenYearReductionReducesPinLaw"), (2, u "law"), (0, u "(JJ)Z")] 3

def k1m0 : Method := { name := "<init>", desc := "()V", sig := { parameters := [], returnType := none }, accessFlags := 2, code := none }
def k1c1 : Code := { maxStack := 4, maxLocals := 11, code := code, exceptionTable := #[], attributes := #[] }
def k1m1 : Method := { name := "law", desc := "(JJ)Z", sig := { parameters := [.long, .long], returnType := some .boolean }, accessFlags := 9, code := some k1c1 }
/-- com/example/overcap/overcap/calc/TenYearReductionReducesPinLaw -/
def k1 : Class := { plain "com/example/overcap/overcap/calc/TenYearReductionReducesPinLaw" (some 0) with
  accessFlags := 49
  interfaces := #[]
  cf := some (fileOf pool1 26 #[] #[{ accessFlags := 2, nameIndex := 5, descriptorIndex := 6, attributes := #[] }, { accessFlags := 9, nameIndex := 30, descriptorIndex := 31, attributes := #[] }] 49 2 #[] #[])
  fields := #[]
  methods := #[k1m0, k1m1]
  instanceTypes := #[]
  staticTypes := #[]
  resolved := Array.replicate 35 none
  statics := none }

def pool2 : Array CpInfo := pool [(1, .class_ 2), (0, u "java/lang/Math"), (1, .class_ 6), (1, u "java/lang/Object"), (0, u "<init>"), (0, u "()V"), (89, .class_ 100), (1, u "java/lang/Math$RandomNumberGeneratorHolder"), (20, u "(JJ)J"), (50, u "negativeZeroFloatBits"), (0, u "J"), (2, u "negativeZeroDoubleBits"), (21, u "max"), (2, u "min"), (43, u "$assertionsDisabled"), (0, u "Z"), (91, u "twoToTheDoubleScaleDown"), (0, u "D"), (4, u "twoToTheDoubleScaleUp"), (9, u "E"), (3, u "PI"), (2, u "TAU"), (2, u "DEGREES_TO_RADIANS"), (0, u "RADIANS_TO_DEGREES")] 94

def k2m0 : Method := { name := "<init>", desc := "()V", sig := { parameters := [], returnType := none }, accessFlags := 2, code := none }
def k2c1 : Code := { maxStack := 4, maxLocals := 4, code := jdk_29_method_66_code, exceptionTable := #[], attributes := #[] }
def k2m1 : Method := { name := "max", desc := "(JJ)J", sig := { parameters := [.long, .long], returnType := some .long }, accessFlags := 9, code := some k2c1 }
def k2c2 : Code := { maxStack := 4, maxLocals := 4, code := jdk_29_method_70_code, exceptionTable := #[], attributes := #[] }
def k2m2 : Method := { name := "min", desc := "(JJ)J", sig := { parameters := [.long, .long], returnType := some .long }, accessFlags := 9, code := some k2c2 }
/-- java/lang/Math -/
def k2 : Class := { plain "java/lang/Math" (some 0) with
  accessFlags := 49
  interfaces := #[]
  cf := some (fileOf pool2 1 #[.nestMembers #[98]] #[{ accessFlags := 2, nameIndex := 7, descriptorIndex := 8, attributes := #[] }, { accessFlags := 9, nameIndex := 198, descriptorIndex := 121, attributes := #[] }, { accessFlags := 9, nameIndex := 201, descriptorIndex := 121, attributes := #[] }] 49 4 #[] #[{ accessFlags := 25, nameIndex := 354, descriptorIndex := 339, attributes := #[] }, { accessFlags := 25, nameIndex := 358, descriptorIndex := 339, attributes := #[] }, { accessFlags := 25, nameIndex := 361, descriptorIndex := 339, attributes := #[] }, { accessFlags := 26, nameIndex := 364, descriptorIndex := 339, attributes := #[] }, { accessFlags := 26, nameIndex := 365, descriptorIndex := 339, attributes := #[] }, { accessFlags := 26, nameIndex := 172, descriptorIndex := 173, attributes := #[] }, { accessFlags := 26, nameIndex := 176, descriptorIndex := 173, attributes := #[] }, { accessFlags := 8, nameIndex := 344, descriptorIndex := 339, attributes := #[] }, { accessFlags := 8, nameIndex := 338, descriptorIndex := 339, attributes := #[] }, { accessFlags := 4120, nameIndex := 245, descriptorIndex := 246, attributes := #[] }])
  fields := #[{ name := "E", type := .double, accessFlags := 25, slot := 0, constantValue := 0 }, { name := "PI", type := .double, accessFlags := 25, slot := 1, constantValue := 0 }, { name := "TAU", type := .double, accessFlags := 25, slot := 2, constantValue := 0 }, { name := "DEGREES_TO_RADIANS", type := .double, accessFlags := 26, slot := 3, constantValue := 0 }, { name := "RADIANS_TO_DEGREES", type := .double, accessFlags := 26, slot := 4, constantValue := 0 }, { name := "negativeZeroFloatBits", type := .long, accessFlags := 26, slot := 5, constantValue := 0 }, { name := "negativeZeroDoubleBits", type := .long, accessFlags := 26, slot := 6, constantValue := 0 }, { name := "twoToTheDoubleScaleUp", type := .double, accessFlags := 8, slot := 7, constantValue := 0 }, { name := "twoToTheDoubleScaleDown", type := .double, accessFlags := 8, slot := 8, constantValue := 0 }, { name := "$assertionsDisabled", type := .boolean, accessFlags := 4120, slot := 9, constantValue := 0 }]
  methods := #[k2m0, k2m1, k2m2]
  instanceTypes := #[]
  staticTypes := #[.double, .double, .double, .double, .double, .long, .long, .double, .double, .boolean]
  resolved := Array.replicate 460 none
  statics := none }

def pool3 : Array CpInfo := pool [(2, .class_ 4), (1, u "java/lang/Object"), (0, u "<init>"), (0, u "()V"), (0, .class_ 8), (0, u "com/example/overcap/overcap/calc/TenYearReduction"), (0, .long 120), (3, u "reduces"), (0, u "(J)Z"), (24, u "FULL_MONTHS"), (0, u "J"), (1, u "LEAST_MONTHS")] 6

def k3m0 : Method := { name := "<init>", desc := "()V", sig := { parameters := [], returnType := none }, accessFlags := 2, code := none }
def k3c1 : Code := { maxStack := 4, maxLocals := 2, code := prog_47_method_2_code, exceptionTable := #[], attributes := #[] }
def k3m1 : Method := { name := "reduces", desc := "(J)Z", sig := { parameters := [.long], returnType := some .boolean }, accessFlags := 8, code := some k3c1 }
/-- com/example/overcap/overcap/calc/TenYearReduction -/
def k3 : Class := { plain "com/example/overcap/overcap/calc/TenYearReduction" (some 0) with
  accessFlags := 48
  interfaces := #[]
  cf := some (fileOf pool3 7 #[] #[{ accessFlags := 2, nameIndex := 5, descriptorIndex := 6, attributes := #[] }, { accessFlags := 8, nameIndex := 13, descriptorIndex := 14, attributes := #[] }] 48 2 #[] #[{ accessFlags := 24, nameIndex := 39, descriptorIndex := 40, attributes := #[] }, { accessFlags := 24, nameIndex := 42, descriptorIndex := 40, attributes := #[] }])
  fields := #[{ name := "FULL_MONTHS", type := .long, accessFlags := 24, slot := 0, constantValue := 0 }, { name := "LEAST_MONTHS", type := .long, accessFlags := 24, slot := 1, constantValue := 0 }]
  methods := #[k3m0, k3m1]
  instanceTypes := #[]
  staticTypes := #[.long, .long]
  resolved := Array.replicate 49 none
  statics := none }

def pool4 : Array CpInfo := pool [(1, u "java/lang/Cloneable"), (0, .class_ 1), (0, u "java/lang/Object"), (0, .class_ 3)] 3

/-- java/lang/Cloneable -/
def k4 : Class := { plain "java/lang/Cloneable" (some 0) with
  accessFlags := 1537
  interfaces := #[]
  cf := some (fileOf pool4 2 #[] #[] 1537 4 #[] #[])
  fields := #[]
  methods := #[]
  instanceTypes := #[]
  staticTypes := #[]
  resolved := Array.replicate 8 none
  statics := none }

def pool5 : Array CpInfo := pool [(1, u "java/io/Serializable"), (0, .class_ 1), (0, u "java/lang/Object"), (0, .class_ 3)] 3

/-- java/io/Serializable -/
def k5 : Class := { plain "java/io/Serializable" (some 0) with
  accessFlags := 1537
  interfaces := #[]
  cf := some (fileOf pool5 2 #[] #[] 1537 4 #[] #[])
  fields := #[]
  methods := #[]
  instanceTypes := #[]
  staticTypes := #[]
  resolved := Array.replicate 8 none
  statics := none }

/-- the primitive byte -/
def k6 : Class := { plain "byte" none with kind := .primitive 'B', accessFlags := 0x411 }
/-- [B -/
def k7 : Class := { plain "[B" (some 0) with kind := .array 6 .byte, interfaces := #[4, 5], accessFlags := 1041 }

/-- the primitive int -/
def k8 : Class := { plain "int" none with kind := .primitive 'I', accessFlags := 0x411 }
/-- [I -/
def k9 : Class := { plain "[I" (some 0) with kind := .array 8 .int, interfaces := #[4, 5], accessFlags := 1041 }

def heap : Heap := #[]
def classes : Array Class := #[k0, k1, k2, k3, k4, k5, k6, k7, k8, k9]
def interned : List (Array UInt16 × Addr) := []
def slotsUsed : Nat := 0
def theMethod : MethodId := ⟨1, 1⟩
def args0 : Array Value := #[.long 5, .long 5]
def aboutOver (below : List Frame) : State where
  vm := { classes := classes, interned := interned.toArray }
  heap := heap
  slotsUsed := slotsUsed
  threads := #[{ frames := .invoking theMethod args0 :: below }]
def below0 : List Frame := [.native { method := ⟨0, 0⟩, args := #[] }]
def about1 : State := aboutOver below0
def p0 : Program := .bare "" "" ""
def e0 : Env := launch0.env 0 0 0
theorem w_frames : about1.frames = Frame.invoking theMethod args0 :: below0 := rfl
set_option maxRecDepth 65536 in
theorem w_args : argsFit about1.vm theMethod args0 = true := by decide +kernel
set_option maxRecDepth 65536 in
theorem w_heap : heapFits about1 = true := by decide +kernel
set_option maxRecDepth 65536 in
theorem w_runnable : about1.curStatus? = some .runnable := by decide +kernel
set_option maxRecDepth 65536 in
theorem w_alone : about1.alone = true := by decide +kernel
set_option maxRecDepth 65536 in
theorem w_named : about1.methodNamed? x = some theMethod := by decide +kernel
set_option maxRecDepth 65536 in
theorem w_hears : about1.hears theMethod below0 = true := by decide +kernel
set_option maxRecDepth 65536 in
theorem w_ripe : about1.ripe theMethod args0 below0 = true := by decide +kernel
theorem w_running : about1.status = .running := rfl
set_option maxRecDepth 65536 in
theorem w_room : about1.hasRoom e0.platform room_1 = true :=
  launch0.hasRoom_least _ room_1 (by decide +kernel) (by decide +kernel) (by decide +kernel) (by decide +kernel) (by decide +kernel) (by decide +kernel)
theorem allAtoms_all (ts : List Jvm.Cond) (a : Array Jvm.Value) (st : Jvm.State) : (allAtoms ts).before a st = ts.all (fun c => c.before a st) := by
  induction ts with
  | nil => rfl
  | cons c t ih =>
    show (Jvm.Cond.and c (allAtoms t)).before a st = _
    rw [Jvm.Cond.before_and, ih, List.all_cons]
def words1 : List Jvm.Cond := Jvm.Cond.code x code maxLocals ret :: tables_1
/-- a 'code' word, met by the world's own term for the bytes: nothing is compared byte by byte -/
theorem code_word {y : MethodName} {bytes : ByteArray} {mx : Nat} {rt : Option FieldType} {a : Array Value} {s : State} {m : MethodId} {meth : Method} {c : Code} (h1 : s.methodNamed? y = some m) (h2 : s.vm.method? m = some meth) (h3 : meth.code = some c) (h4 : c.code = bytes)
    (h5 : (c.maxLocals == mx && c.exceptionTable.isEmpty && decide (c.maxStack ≤ mostOperands) && decide (meth.sig.returnType = rt) && !meth.locks && decide (parseMethodDescriptor y.desc = some meth.sig)) = true) : (Jvm.Cond.code y bytes mx rt).before a s = true := by
  simp only [Bool.and_eq_true, beq_iff_eq, Bool.not_eq_true', decide_eq_true_eq] at h5
  obtain ⟨⟨⟨⟨⟨g1, g2⟩, g3⟩, g4⟩, g5⟩, g6⟩ := h5
  simp [Cond.before, Cond.holds, Cond.value, h1, h2, h3, h4, g1, g2, g3, g4, g5, g6]
def isCode : Jvm.Cond → Bool
  | .code _ _ _ _ => true
  | _ => false
theorem all_split {L : List Jvm.Cond} {P : Jvm.Cond → Bool} (h1 : L.all (fun c => isCode c || P c) = true) (h2 : ∀ c ∈ L.filter isCode, P c = true) : L.all P = true := by
  refine List.all_eq_true.mpr fun c hc => ?_
  have h := List.all_eq_true.mp h1 c hc
  rcases Bool.eq_false_or_eq_true (isCode c) with hi | hi
  · exact h2 c (List.mem_filter.mpr ⟨hc, hi⟩)
  · simpa [hi] using h
set_option maxRecDepth 65536 in
theorem w_c0 : (Jvm.Cond.code x code maxLocals ret).before args0 about1 = true := code_word (m := ⟨1, 1⟩) (meth := k1m1) (c := k1c1) (by decide +kernel) rfl rfl rfl (by decide +kernel)
set_option maxRecDepth 65536 in
theorem w_c1 : (Jvm.Cond.code ({ cls := "java/lang/Math", name := "min", desc := "(JJ)J" } : Jvm.MethodName) jdk_29_method_70_code (4 : Nat) (Option.some Jvm.ClassFile.FieldType.long)).before args0 about1 = true := code_word (m := ⟨2, 2⟩) (meth := k2m2) (c := k2c2) (by decide +kernel) rfl rfl rfl (by decide +kernel)
set_option maxRecDepth 65536 in
theorem w_c2 : (Jvm.Cond.code ({ cls := "java/lang/Math", name := "max", desc := "(JJ)J" } : Jvm.MethodName) jdk_29_method_66_code (4 : Nat) (Option.some Jvm.ClassFile.FieldType.long)).before args0 about1 = true := code_word (m := ⟨2, 1⟩) (meth := k2m1) (c := k2c1) (by decide +kernel) rfl rfl rfl (by decide +kernel)
set_option maxRecDepth 65536 in
theorem w_c3 : (Jvm.Cond.code ({ cls := "com/example/overcap/overcap/calc/TenYearReduction", name := "reduces", desc := "(J)Z" } : Jvm.MethodName) prog_47_method_2_code (2 : Nat) (Option.some Jvm.ClassFile.FieldType.boolean)).before args0 about1 = true := code_word (m := ⟨3, 1⟩) (meth := k3m1) (c := k3c1) (by decide +kernel) rfl rfl rfl (by decide +kernel)
def codes1 : List Jvm.Cond := [Jvm.Cond.code x code maxLocals ret, Jvm.Cond.code ({ cls := "java/lang/Math", name := "min", desc := "(JJ)J" } : Jvm.MethodName) jdk_29_method_70_code (4 : Nat) (Option.some Jvm.ClassFile.FieldType.long), Jvm.Cond.code ({ cls := "java/lang/Math", name := "max", desc := "(JJ)J" } : Jvm.MethodName) jdk_29_method_66_code (4 : Nat) (Option.some Jvm.ClassFile.FieldType.long), Jvm.Cond.code ({ cls := "com/example/overcap/overcap/calc/TenYearReduction", name := "reduces", desc := "(J)Z" } : Jvm.MethodName) prog_47_method_2_code (2 : Nat) (Option.some Jvm.ClassFile.FieldType.boolean)]
set_option maxRecDepth 65536 in
theorem codes_eq : words1.filter isCode = codes1 := rfl
theorem w_codes : ∀ c ∈ words1.filter isCode, c.before args0 about1 = true := by
  rw [codes_eq]
  intro c hc
  simp only [codes1, List.mem_cons, List.not_mem_nil, or_false] at hc
  rcases hc with rfl | rfl | rfl | rfl
  · exact w_c0
  · exact w_c1
  · exact w_c2
  · exact w_c3
set_option maxRecDepth 65536 in
theorem w_t1 : words1.all (fun c => isCode c || c.before args0 about1) = true := by decide +kernel
theorem w_tables : (allAtoms (Jvm.Cond.code x code maxLocals ret :: tables_1)).before args0 about1 = true := by
  rw [allAtoms_all]
  show words1.all (fun c => c.before args0 about1) = true
  refine all_split ?_ w_codes
  rw [w_t1]
set_option maxRecDepth 65536 in
theorem w_case : (Jvm.Cond.and given_1 narrow_1).before args0 about1 = true := by decide +kernel
theorem w_applies : (headSpec (Jvm.Cond.code x code maxLocals ret :: tables_1) room_1).applies x e0.platform about1 = true :=
  (Spec.applies_iff w_frames).mpr ⟨w_running, w_runnable, w_alone, w_named, w_hears, w_ripe, w_room, w_tables⟩
theorem atStart : AtStart classFile x code maxLocals ret World_1 tables_1 room_1 Calls_1 rest_1 Pre_1 launch0 p0 e0 about1 theMethod args0 below0 :=
  ⟨lists_1, trivial, launch0.admits_env _ _ _, launch0.least_env, fairChoices_fair.cas, fairChoices_fair.clock, w_frames, w_args, w_heap, w_applies, trivial, trivial, w_case⟩
end start1
theorem witness_1 : WitnessClaimed_1 := ⟨start1.p0, start1.e0, start1.about1, start1.theMethod, start1.args0, start1.below0, start1.atStart⟩
end Jvm.Pilot.@@N@@
