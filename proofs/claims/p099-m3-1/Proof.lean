import JvmDerived
import JvmDerived.Pilot.@@N@@Statement
import JvmDerived.Pilot.@@N@@Code
set_option linter.unusedVariables false
set_option linter.unusedSimpArgs false
namespace Jvm.RoadKit
open Sem ClassFile Op Lib Jvm.Stand Jvm.Free Jvm.LawKit
/-! the goal of a walk, seen from where it stands -/
def own_Go (p : Program) (e : Env) (below : List Frame) (PO : Outcome → State → Prop) (U : State) : Prop :=
  ∃ s₂ o, Steps p.tables e below U s₂ ∧ s₂.status = .running ∧ Ended s₂ below o ∧ PO o s₂
def own_PO (s : State) (Q : Option Value → Heap → List Loc → Prop) (C N : Nat) : Outcome → State → Prop :=
  fun o U' => ∃ v L, o = .returned v ∧ Q v U'.heap L ∧ FrameEnd s o U' L C N
theorem own_back {p : Program} {e : Env} {below : List Frame} {PO : Outcome → State → Prop} {U V : State} (h : own_Go p e below PO V)
    (st : ∀ t, Steps p.tables e below V t → Steps p.tables e below U t) : own_Go p e below PO U := by
  obtain ⟨t, o, h1, h2⟩ := h
  exact ⟨t, o, st t h1, h2⟩
theorem own_gen {A : Type} (x : A) (P : A → Prop) (h : ∀ c, c = x → P c) : P x := h x rfl
section New
variable {p : Program} {l : Launch} {e : Env} {R : Room} {s : State} {m : MethodId} {args : Array Value} {below : List Frame} {meth : Method} {c : Code} {T : State} {locs : List Loc} {cells slots : Nat} {h : Heap}
  {Q : Option Value → Heap → List Loc → Prop} {C N : Nat}
theorem own_end (X : Stand p l e R s m args below meth c T locs cells slots) {v : Option Value} {U : State} (hv : meth.sig.returnType = none → v = none) (eT : T.heap = h) (hk : meth.locks = false)
    (st : ∀ fs, (∀ (f : JFrame) (acts : List Action), f.method = m → f.locked = none → f.entered = [] → (doReturn e (T.setTop f) acts v).1 = T.setFrames fs) → Steps p.tables e below U (T.setFrames fs))
    (hQ : Q v h locs) (hc : cells ≤ C) (hn : slots ≤ N) : own_Go p e below (own_PO s Q C N) U := by
  obtain ⟨fs, hr, hrun, hended, hW, hsame⟩ := X.leave (v := v) hv hk
  subst eT
  exact ⟨_, _, st fs hr, hrun, hended, _, _, rfl, hQ, ⟨_, rfl⟩, hW, hsame.mono hc hn⟩
theorem own_retV (X : Stand p l e R s m args below meth c T locs cells slots) (hx : p.tables.exec = Jvm.exec) {pc : Nat} {Ls : Array Slot} (hret : meth.sig.returnType = none) (hd : decode c.code pc = .ok (.return_, 1))
    (eT : T.heap = h) (hk : meth.locks = false) (hQ : Q none h locs) (hc : cells ≤ C) (hn : slots ≤ N) : own_Go p e below (own_PO s Q C N) (T.setTop (mkF m pc Ls [])) :=
  own_end X (fun _ => rfl) eT hk (fun fs hr => X.returnOut hx hret hd hr) hQ hc hn
theorem own_retI (X : Stand p l e R s m args below meth c T locs cells slots) (hx : p.tables.exec = Jvm.exec) {pc : Nat} {Ls : Array Slot} {z : Int32} {rest : List Value} (hret : meth.sig.returnType = some .int) (hd : decode c.code pc = .ok (.ireturn, 1))
    (eT : T.heap = h) (hk : meth.locks = false) (hQ : Q (some (.int z)) h locs) (hc : cells ≤ C) (hn : slots ≤ N) : own_Go p e below (own_PO s Q C N) (T.setTop (mkF m pc Ls (.int z :: rest))) :=
  own_end X (fun q => by rw [hret] at q; cases q) eT hk (fun fs hr => retOut X hx hret rfl (Or.inl ⟨rfl, Or.inl rfl, z, rfl⟩) hd hr) hQ hc hn
theorem own_retN (X : Stand p l e R s m args below meth c T locs cells slots) (hx : p.tables.exec = Jvm.exec) {pc : Nat} {Ls : Array Slot} {z : Int32} {t : FieldType} {rest : List Value} (hret : meth.sig.returnType = some t) (hz : nar t z = z) (ht : t = .boolean ∨ t = .byte ∨ t = .char ∨ t = .short) (hd : decode c.code pc = .ok (.ireturn, 1))
    (eT : T.heap = h) (hk : meth.locks = false) (hQ : Q (some (.int z)) h locs) (hc : cells ≤ C) (hn : slots ≤ N) : own_Go p e below (own_PO s Q C N) (T.setTop (mkF m pc Ls (.int z :: rest))) :=
  own_end X (fun q => by rw [hret] at q; cases q) eT hk (fun fs hr => retN X hx (t := t) hret ht hd (by rw [hz]; exact hr)) hQ hc hn
theorem own_retJ (X : Stand p l e R s m args below meth c T locs cells slots) (hx : p.tables.exec = Jvm.exec) {pc : Nat} {Ls : Array Slot} {z : Int64} {rest : List Value} (hret : meth.sig.returnType = some .long) (hd : decode c.code pc = .ok (.lreturn, 1))
    (eT : T.heap = h) (hk : meth.locks = false) (hQ : Q (some (.long z)) h locs) (hc : cells ≤ C) (hn : slots ≤ N) : own_Go p e below (own_PO s Q C N) (T.setTop (mkF m pc Ls (.long z :: rest))) :=
  own_end X (fun q => by rw [hret] at q; cases q) eT hk (fun fs hr => retOut X hx hret rfl (Or.inr (Or.inl ⟨rfl, rfl, z, rfl⟩)) hd hr) hQ hc hn
theorem own_retD (X : Stand p l e R s m args below meth c T locs cells slots) (hx : p.tables.exec = Jvm.exec) {pc : Nat} {Ls : Array Slot} {z : UInt64} {rest : List Value} (hret : meth.sig.returnType = some .double) (hd : decode c.code pc = .ok (.dreturn, 1))
    (eT : T.heap = h) (hk : meth.locks = false) (hQ : Q (some (.double z)) h locs) (hc : cells ≤ C) (hn : slots ≤ N) : own_Go p e below (own_PO s Q C N) (T.setTop (mkF m pc Ls (.double z :: rest))) :=
  own_end X (fun q => by rw [hret] at q; cases q) eT hk (fun fs hr => retOut X hx hret rfl (Or.inr (Or.inr (Or.inl ⟨rfl, rfl, z, rfl⟩))) hd hr) hQ hc hn
theorem own_retA (X : Stand p l e R s m args below meth c T locs cells slots) (hx : p.tables.exec = Jvm.exec) {pc : Nat} {Ls : Array Slot} {w : Value} {t : FieldType} {rest : List Value} (hret : meth.sig.returnType = some t) (ht : t.isReference = true) (hw : w.isRef = true) (hd : decode c.code pc = .ok (.areturn, 1))
    (eT : T.heap = h) (hk : meth.locks = false) (hQ : Q (some w) h locs) (hc : cells ≤ C) (hn : slots ≤ N) : own_Go p e below (own_PO s Q C N) (T.setTop (mkF m pc Ls (w :: rest))) :=
  own_end X (fun q => by rw [hret] at q; cases q) eT hk (fun fs hr => retOut X hx hret (by cases t <;> first | (cases ht; done) | (cases w <;> first | (cases hw; done) | rfl)) (Or.inr (Or.inr (Or.inr (Or.inr ⟨rfl, ht, hw⟩)))) hd hr) hQ hc hn
end New
end Jvm.RoadKit
namespace Jvm.RoadKit
open Sem ClassFile Op Lib Jvm.Stand Jvm.Free Jvm.LawKit
theorem own_eqI {args : Array Value} {first s : State} {o : Option Outcome} {idx : List Nat} {a : Term} {k : Int32} (h : (Cond.eq a (.int k)).value args first o s idx = some true) : a.eval args first o idx s = some (.int k) := by
  obtain ⟨x, y, h1, h2, h3, -⟩ := cmp_v (Or.inl h)
  cases h2
  cases x <;> simp [Kin, Value.isRef] at h3
  rename_i z
  have q : (Cond.eq a (.int k)).value args first o s idx = some (decide (z = k)) := Cond.eq_ints h1 rfl
  rw [q] at h
  rw [h1, of_decide_eq_true (Option.some.inj h)]
theorem own_eqJ {args : Array Value} {first s : State} {o : Option Outcome} {idx : List Nat} {a : Term} {k : Int64} (h : (Cond.eq a (.long k)).value args first o s idx = some true) : a.eval args first o idx s = some (.long k) := by
  obtain ⟨x, y, h1, h2, h3, -⟩ := cmp_v (Or.inl h)
  cases h2
  cases x <;> simp [Kin, Value.isRef] at h3
  rename_i z
  have q : (Cond.eq a (.long k)).value args first o s idx = some (decide (z = k)) := eq_L h1 rfl
  rw [q] at h
  rw [h1, of_decide_eq_true (Option.some.inj h)]
theorem own_fldI {args : Array Value} {s : State} {t : Term} {a : Addr} {C n d : String} {k : Int32} (ev : t.eval args s none [] s = some (.ref a)) (h : (Cond.eq (.field t C n d) (.int k)).value args s none s [] = some true) : Fld s s.heap a C n d (.int k) :=
  Fld.start ((fld_at ev).symm.trans (own_eqI h))
end Jvm.RoadKit
namespace Jvm.Pilot.@@N@@
open Jvm Jvm.ClassFile Sem Op Lib Jvm.Free Jvm.Stand Jvm.LawKit Jvm.RoadKit Bundle Jvm.Pilot.@@N@@.Jvm.D
theorem d1_0 : decode prog_11_method_2_code 0 = .ok (.iload_n 0, 1) := by decide +kernel
theorem d1_1 : decode prog_11_method_2_code 1 = .ok (.ifCond .eq 9, 3) := by decide +kernel
theorem d1_10 : decode prog_11_method_2_code 10 = .ok (.getstatic 17, 3) := by decide +kernel
theorem d1_13 : decode prog_11_method_2_code 13 = .ok (.areturn, 1) := by decide +kernel
theorem pn_0 : plainName "com/example/juncture/juncture/eval/BooleanValue" = true := by first | (simp [plainName, overriddenIn]; done) | decide +kernel
theorem ef_rm1_0 (m : MethodId) (x0 : Int32) : entryFrame m #[(.int x0)] 1 = mkF m 0 #[.val (.int x0)] [] := by first | (simp [entryFrame, mkF, argsToLocals, Value.category]; done) | rfl
def Q_rm1_0 (aR : Addr) (h0 : Heap) (n0 : Nat) (v : Option Value) (h : Heap) (L : List Loc) : Prop := v = some (.ref aR) ∧ Fr n0 L ∧ h = h0
set_option maxRecDepth 65536 in
set_option maxHeartbeats 40000000 in
theorem rm1_0 (l : Launch) (Z : State) (a0 : Array Value) (hw : ∀ d ∈ tables_1, d.before a0 Z = true) (ws : List Jvm.Cond)  (aR : Addr) (h0 : Heap) (n0 : Nat) (Z0 : n0 ≤ h0.size) (SR : Sta Z h0 "com/example/juncture/juncture/eval/BooleanValue" "FALSE" "Lcom/example/juncture/juncture/eval/BooleanValue;" (.ref aR)) :
    MetFree l (⟨"com/example/juncture/juncture/eval/BooleanValue", "of", "(Z)Lcom/example/juncture/juncture/eval/BooleanValue;"⟩ : MethodName) (head1 (Jvm.Cond.code (⟨"com/example/juncture/juncture/eval/BooleanValue", "of", "(Z)Lcom/example/juncture/juncture/eval/BooleanValue;"⟩ : MethodName) prog_11_method_2_code 1 (some (.object "com/example/juncture/juncture/eval/BooleanValue")) :: ws) ({ frames := 0, cells := 0, slots := 0, locals := 0 } : Room)) (fun a U => a = #[(.int (0 : Int32))] ∧ Z.Warmed39 U.vm ∧ U.heap = h0) (fun _ _ _ _ _ => True) (fun _ U o U' => ∃ v L, o = .returned v ∧ Q_rm1_0 aR h0 n0 v U'.heap L ∧ FrameEnd U o U' L ({ frames := 0, cells := 0, slots := 0, locals := 0 } : Room).cells ({ frames := 0, cells := 0, slots := 0, locals := 0 } : Room).slots) := by
  refine MetFree.of_bodySF (plainFor_of_name pn_0) hisR ?_
  intro p e s m args below meth c s₁ Bd hml0 hP hK
  obtain ⟨rfl, hZ, hh⟩ := hP
  have hx := Bd.exec
  have hby := Bd.bytes
  have hml : c.maxLocals = 1 := hml0
  have hown : s.vm.findClass "com/example/juncture/juncture/eval/BooleanValue" = some m.cls := findClass_of_methodNamed Bd.named
  have hnm := (name_of_methodNamed Bd.named Bd.method).1
  have X0 : Stand p l e ({ frames := 0, cells := 0, slots := 0, locals := 0 } : Room) s m #[(.int (0 : Int32))] below meth c s₁ [] 0 0 := Stand.of_body Bd
  have e0 : s₁.heap = h0 := by rw [← hh, Bd.state]; rfl
  have N0 := Fr.nil n0
  let PO : Outcome → State → Prop := own_PO s (Q_rm1_0 aR h0 n0) 0 0
  show own_Go p e below PO (s₁.setTop (entryFrame m #[(.int (0 : Int32))] 1))
  rw [ef_rm1_0]
  show own_Go p e below PO (s₁.setTop (mkF m 0 #[.val (.int (0 : Int32))] []))
  refine own_back ?_ (fun t k => XS.iloadN X0.here hx rfl (hb hby d1_0) rfl k)
  show own_Go p e below PO (s₁.setTop (mkF m 1 #[.val (.int (0 : Int32))] [(.int (0 : Int32))]))
  refine own_back ?_ (fun t k => XS.ifYes X0.here hx rfl (pc0 := 1) (pc' := 10) rfl (hb hby d1_1) rfl ((if0 _ _).trans (teq rfl).1) (by decide) (by decide) k)
  show own_Go p e below PO (s₁.setTop (mkF m 10 #[.val (.int (0 : Int32))] []))
  obtain ⟨T1, X1, e1, st1⟩ := getS2 X0 hx hZ hown (host := "") (Or.inl (hw _ (List.mem_of_getElem? (i := 4) rfl))) Via.refl e0 SR (g := (mkF m 10 #[.val (.int (0 : Int32))] [])) rfl (hb hby d1_10)
  refine own_back ?_ st1
  show own_Go p e below PO (T1.setTop (mkF m 13 #[.val (.int (0 : Int32))] [(.ref aR)]))
  refine own_retA X1 hx (w := (.ref aR)) (rest := []) Bd.returns rfl rfl (hb hby d1_13) e1 (Bd.notSynchronized) ?_ (by decide) (by decide)
  exact ⟨rfl, N0, rfl⟩
theorem d1_4 : decode prog_11_method_2_code 4 = .ok (.getstatic 13, 3) := by decide +kernel
theorem d1_7 : decode prog_11_method_2_code 7 = .ok (.goto 6, 3) := by decide +kernel
theorem ef_rm1_1 (m : MethodId) (x0 : Int32) : entryFrame m #[(.int x0)] 1 = mkF m 0 #[.val (.int x0)] [] := by first | (simp [entryFrame, mkF, argsToLocals, Value.category]; done) | rfl
def Q_rm1_1 (aR : Addr) (h0 : Heap) (n0 : Nat) (v : Option Value) (h : Heap) (L : List Loc) : Prop := v = some (.ref aR) ∧ Fr n0 L ∧ h = h0
set_option maxRecDepth 65536 in
set_option maxHeartbeats 40000000 in
theorem rm1_1 (l : Launch) (Z : State) (a0 : Array Value) (hw : ∀ d ∈ tables_1, d.before a0 Z = true) (ws : List Jvm.Cond)  (aR : Addr) (h0 : Heap) (n0 : Nat) (Z0 : n0 ≤ h0.size) (SR : Sta Z h0 "com/example/juncture/juncture/eval/BooleanValue" "TRUE" "Lcom/example/juncture/juncture/eval/BooleanValue;" (.ref aR)) :
    MetFree l (⟨"com/example/juncture/juncture/eval/BooleanValue", "of", "(Z)Lcom/example/juncture/juncture/eval/BooleanValue;"⟩ : MethodName) (head1 (Jvm.Cond.code (⟨"com/example/juncture/juncture/eval/BooleanValue", "of", "(Z)Lcom/example/juncture/juncture/eval/BooleanValue;"⟩ : MethodName) prog_11_method_2_code 1 (some (.object "com/example/juncture/juncture/eval/BooleanValue")) :: ws) ({ frames := 0, cells := 0, slots := 0, locals := 0 } : Room)) (fun a U => a = #[(.int (1 : Int32))] ∧ Z.Warmed39 U.vm ∧ U.heap = h0) (fun _ _ _ _ _ => True) (fun _ U o U' => ∃ v L, o = .returned v ∧ Q_rm1_1 aR h0 n0 v U'.heap L ∧ FrameEnd U o U' L ({ frames := 0, cells := 0, slots := 0, locals := 0 } : Room).cells ({ frames := 0, cells := 0, slots := 0, locals := 0 } : Room).slots) := by
  refine MetFree.of_bodySF (plainFor_of_name pn_0) hisR ?_
  intro p e s m args below meth c s₁ Bd hml0 hP hK
  obtain ⟨rfl, hZ, hh⟩ := hP
  have hx := Bd.exec
  have hby := Bd.bytes
  have hml : c.maxLocals = 1 := hml0
  have hown : s.vm.findClass "com/example/juncture/juncture/eval/BooleanValue" = some m.cls := findClass_of_methodNamed Bd.named
  have hnm := (name_of_methodNamed Bd.named Bd.method).1
  have X0 : Stand p l e ({ frames := 0, cells := 0, slots := 0, locals := 0 } : Room) s m #[(.int (1 : Int32))] below meth c s₁ [] 0 0 := Stand.of_body Bd
  have e0 : s₁.heap = h0 := by rw [← hh, Bd.state]; rfl
  have N0 := Fr.nil n0
  let PO : Outcome → State → Prop := own_PO s (Q_rm1_1 aR h0 n0) 0 0
  show own_Go p e below PO (s₁.setTop (entryFrame m #[(.int (1 : Int32))] 1))
  rw [ef_rm1_1]
  show own_Go p e below PO (s₁.setTop (mkF m 0 #[.val (.int (1 : Int32))] []))
  refine own_back ?_ (fun t k => XS.iloadN X0.here hx rfl (hb hby d1_0) rfl k)
  show own_Go p e below PO (s₁.setTop (mkF m 1 #[.val (.int (1 : Int32))] [(.int (1 : Int32))]))
  have hd1_1 : ¬ ((1 : Int32) = (0 : Int32)) := (by decide)
  refine own_back ?_ (fun t k => XS.ifNo X0.here hx rfl (hb hby d1_1) rfl ((if0 _ _).trans (feq hd1_1).1) k)
  show own_Go p e below PO (s₁.setTop (mkF m 4 #[.val (.int (1 : Int32))] []))
  obtain ⟨T2, X2, e2, st2⟩ := getS2 X0 hx hZ hown (host := "") (Or.inl (hw _ (List.mem_of_getElem? (i := 14) rfl))) Via.refl e0 SR (g := (mkF m 4 #[.val (.int (1 : Int32))] [])) rfl (hb hby d1_4)
  refine own_back ?_ st2
  show own_Go p e below PO (T2.setTop (mkF m 7 #[.val (.int (1 : Int32))] [(.ref aR)]))
  refine own_back ?_ (fun t k => XS.goto X2.here hx rfl (pc0 := 7) (pc' := 13) rfl (hb hby d1_7) (by decide) (by decide) k)
  show own_Go p e below PO (T2.setTop (mkF m 13 #[.val (.int (1 : Int32))] [(.ref aR)]))
  refine own_retA X2 hx (w := (.ref aR)) (rest := []) Bd.returns rfl rfl (hb hby d1_13) e2 (Bd.notSynchronized) ?_ (by decide) (by decide)
  exact ⟨rfl, N0, rfl⟩
theorem d2_0 : decode prog_11_method_8_code 0 = .ok (.aload_n 0, 1) := by decide +kernel
theorem d2_1 : decode prog_11_method_8_code 1 = .ok (.getfield 7, 3) := by decide +kernel
theorem d2_4 : decode prog_11_method_8_code 4 = .ok (.ireturn, 1) := by decide +kernel
theorem ef_rm2 (m : MethodId) (x0 : Addr) : entryFrame m #[(.ref x0)] 1 = mkF m 0 #[.val (.ref x0)] [] := by first | (simp [entryFrame, mkF, argsToLocals, Value.category]; done) | rfl
def Q_rm2 (zV : Int32) (h0 : Heap) (n0 : Nat) (v : Option Value) (h : Heap) (L : List Loc) : Prop := v = some (.int zV) ∧ Fr n0 L ∧ h = h0
set_option maxRecDepth 65536 in
set_option maxHeartbeats 40000000 in
theorem rm2 (l : Launch) (Z : State) (a0 : Array Value) (hw : ∀ d ∈ tables_1, d.before a0 Z = true) (ws : List Jvm.Cond) (aO : Addr) (zV : Int32) (h0 : Heap) (n0 : Nat) (Z0 : n0 ≤ h0.size) (FV : Fld Z h0 aO "com/example/juncture/juncture/eval/BooleanValue" "value" "Z" (.int zV)) (hz : nar .boolean zV = zV) :
    MetFree l (⟨"com/example/juncture/juncture/eval/BooleanValue", "value", "()Z"⟩ : MethodName) (head1 (Jvm.Cond.code (⟨"com/example/juncture/juncture/eval/BooleanValue", "value", "()Z"⟩ : MethodName) prog_11_method_8_code 1 (some .boolean) :: ws) ({ frames := 0, cells := 0, slots := 0, locals := 0 } : Room)) (fun a U => a = #[(.ref aO)] ∧ Z.Warmed39 U.vm ∧ U.heap = h0) (fun _ _ _ _ _ => True) (fun _ U o U' => ∃ v L, o = .returned v ∧ Q_rm2 zV h0 n0 v U'.heap L ∧ FrameEnd U o U' L ({ frames := 0, cells := 0, slots := 0, locals := 0 } : Room).cells ({ frames := 0, cells := 0, slots := 0, locals := 0 } : Room).slots) := by
  refine MetFree.of_bodySF (plainFor_of_name pn_0) hisR ?_
  intro p e s m args below meth c s₁ Bd hml0 hP hK
  obtain ⟨rfl, hZ, hh⟩ := hP
  have hx := Bd.exec
  have hby := Bd.bytes
  have hml : c.maxLocals = 1 := hml0
  have hown : s.vm.findClass "com/example/juncture/juncture/eval/BooleanValue" = some m.cls := findClass_of_methodNamed Bd.named
  have hnm := (name_of_methodNamed Bd.named Bd.method).1
  have X0 : Stand p l e ({ frames := 0, cells := 0, slots := 0, locals := 0 } : Room) s m #[(.ref aO)] below meth c s₁ [] 0 0 := Stand.of_body Bd
  have e0 : s₁.heap = h0 := by rw [← hh, Bd.state]; rfl
  have N0 := Fr.nil n0
  let PO : Outcome → State → Prop := own_PO s (Q_rm2 zV h0 n0) 0 0
  show own_Go p e below PO (s₁.setTop (entryFrame m #[(.ref aO)] 1))
  rw [ef_rm2]
  show own_Go p e below PO (s₁.setTop (mkF m 0 #[.val (.ref aO)] []))
  refine own_back ?_ (fun t k => XS.aloadN X0.here hx rfl (hb hby d2_0) rfl rfl k)
  show own_Go p e below PO (s₁.setTop (mkF m 1 #[.val (.ref aO)] [(.ref aO)]))
  obtain ⟨T1, X1, e1, st1⟩ := getF X0 hx hZ hown (host := "") (Or.inl (hw _ (List.mem_of_getElem? (i := 11) rfl))) Via.refl e0 FV (g := (mkF m 1 #[.val (.ref aO)] [(.ref aO)])) rfl rfl (hb hby d2_1)
  refine own_back ?_ st1
  show own_Go p e below PO (T1.setTop (mkF m 4 #[.val (.ref aO)] [(.int zV)]))
  refine own_retN X1 hx (t := .boolean) (rest := []) Bd.returns hz (by simp) (hb hby d2_4) e1 (Bd.notSynchronized) ?_ (by decide) (by decide)
  exact ⟨rfl, N0, rfl⟩
theorem pd_0 : parseMethodDescriptor "(Z)Lcom/example/juncture/juncture/eval/BooleanValue;" = some ⟨[.boolean], some (.object "com/example/juncture/juncture/eval/BooleanValue")⟩ := by decide +kernel
theorem pd_1 : parseMethodDescriptor "()Z" = some ⟨[], some .boolean⟩ := by decide +kernel
theorem pn_1 : plainName "com/example/juncture/juncture/eval/BooleanValueOfPinLaw" = true := by first | (simp [plainName, overriddenIn]; done) | decide +kernel
theorem ef_rm0 (m : MethodId) (x0 : Int32) : entryFrame m #[(.int x0)] maxLocals = mkF m 0 #[.val (.int x0), .unset, .unset] [] := by first | (simp [entryFrame, mkF, argsToLocals, Value.category, maxLocals]; done) | rfl
def Q_rm0 (n0 : Nat) (v : Option Value) (h : Heap) (L : List Loc) : Prop := v = some (.int 1) ∧ Fr n0 L
set_option maxRecDepth 65536 in
set_option maxHeartbeats 40000000 in
theorem rm0 (l : Launch) (Z : State) (a0 : Array Value) (hw : ∀ d ∈ tables_1, d.before a0 Z = true) (ws : List Jvm.Cond) (pA : Int32) (aF aT : Addr) (h0 : Heap) (n0 : Nat) (Z0 : n0 ≤ h0.size) (S_FALSE : Sta Z h0 "com/example/juncture/juncture/eval/BooleanValue" "FALSE" "Lcom/example/juncture/juncture/eval/BooleanValue;" (.ref aF)) (E_FALSE : Exa Z h0 aF "com/example/juncture/juncture/eval/BooleanValue") (F_FALSE : Fld Z h0 aF "com/example/juncture/juncture/eval/BooleanValue" "value" "Z" (.int 0)) (S_TRUE : Sta Z h0 "com/example/juncture/juncture/eval/BooleanValue" "TRUE" "Lcom/example/juncture/juncture/eval/BooleanValue;" (.ref aT)) (E_TRUE : Exa Z h0 aT "com/example/juncture/juncture/eval/BooleanValue") (F_TRUE : Fld Z h0 aT "com/example/juncture/juncture/eval/BooleanValue" "value" "Z" (.int 1)) :
    MetFree l x (head1 (Jvm.Cond.code x code maxLocals ret :: ws) room_1) (fun a U => a = #[(.int pA)] ∧ Z.Warmed39 U.vm ∧ U.heap = h0) (fun _ _ _ _ _ => True) (fun _ U o U' => ∃ v L, o = .returned v ∧ Q_rm0 n0 v U'.heap L ∧ FrameEnd U o U' L room_1.cells room_1.slots) := by
  refine MetFree.of_bodySF (plainFor_of_name pn_1) hisR ?_
  intro p e s m args below meth c s₁ Bd hml0 hP hK
  obtain ⟨rfl, hZ, hh⟩ := hP
  have hx := Bd.exec
  have hby := Bd.bytes
  have hml : c.maxLocals = 3 := hml0
  have hown : s.vm.findClass "com/example/juncture/juncture/eval/BooleanValueOfPinLaw" = some m.cls := findClass_of_methodNamed Bd.named
  have hnm := (name_of_methodNamed Bd.named Bd.method).1
  have X0 : Stand p l e room_1 s m #[(.int pA)] below meth c s₁ [] 0 0 := Stand.of_body Bd
  have e0 : s₁.heap = h0 := by rw [← hh, Bd.state]; rfl
  have N0 := Fr.nil n0
  let PO : Outcome → State → Prop := own_PO s (Q_rm0 n0) 0 0
  show own_Go p e below PO (s₁.setTop (entryFrame m #[(.int pA)] maxLocals))
  rw [ef_rm0]
  show own_Go p e below PO (s₁.setTop (mkF m 0 #[.val (.int pA), .unset, .unset] []))
  refine own_back ?_ (fun t k => XS.iloadN X0.here hx rfl (hb hby at_0) rfl k)
  show own_Go p e below PO (s₁.setTop (mkF m 1 #[.val (.int pA), .unset, .unset] [(.int pA)]))
  refine own_back ?_ (fun t k => XS.iconst X0.here hx rfl (hb hby at_1) k)
  show own_Go p e below PO (s₁.setTop (mkF m 2 #[.val (.int pA), .unset, .unset] [(.int (1 : Int32)), (.int pA)]))
  refine own_back ?_ (fun t k => XS.iand X0.here hx rfl (hb hby at_2) rfl k)
  show own_Go p e below PO (s₁.setTop (mkF m 3 #[.val (.int pA), .unset, .unset] [(.int (pA &&& (1 : Int32)))]))
  by_cases hc3_1 : (pA &&& (1 : Int32)) = (0 : Int32)
  case pos =>
    refine own_back ?_ (fun t k => XS.ifYes X0.here hx rfl (pc0 := 3) (pc' := 10) rfl (hb hby at_3) rfl ((if0 _ _).trans (teq hc3_1).1) (by decide) (by decide) k)
    show own_Go p e below PO (s₁.setTop (mkF m 10 #[.val (.int pA), .unset, .unset] []))
    refine own_back ?_ (fun t k => XS.iconst X0.here hx rfl (hb hby at_10) k)
    show own_Go p e below PO (s₁.setTop (mkF m 11 #[.val (.int pA), .unset, .unset] [(.int (0 : Int32))]))
    refine own_back ?_ (fun t k => XS.istoreN X0.here hx rfl (hb hby at_11) rfl (l' := #[.val (.int pA), .val (.int (0 : Int32)), .unset]) rfl k)
    show own_Go p e below PO (s₁.setTop (mkF m 12 #[.val (.int pA), .val (.int (0 : Int32)), .unset] []))
    refine own_back ?_ (fun t k => XS.iloadN X0.here hx rfl (hb hby at_12) rfl k)
    show own_Go p e below PO (s₁.setTop (mkF m 13 #[.val (.int pA), .val (.int (0 : Int32)), .unset] [(.int (0 : Int32))]))
    obtain ⟨_, _, ⟨T2, L2, k2, n2⟩, -, X2, ⟨Lc2, hQ2, l2, y2, z2⟩, st2⟩ := Jvm.LawKit.callS X0 hx (y := (⟨"com/example/juncture/juncture/eval/BooleanValue", "of", "(Z)Lcom/example/juncture/juncture/eval/BooleanValue;"⟩ : MethodName)) hown (mvT hZ (hw _ (List.mem_of_getElem? (i := 0) rfl))) (mvT hZ (hw _ (List.mem_of_getElem? (i := 1) rfl))) (mvT hZ (hw _ (List.mem_of_getElem? (i := 2) rfl))) (mvT hZ (hw _ (List.mem_of_getElem? (i := 3) rfl))) (by decide) (backOf (W := 0) (rm1_0 l Z a0 hw []  aF h0 n0 Z0 S_FALSE) hZ (hw _ (List.mem_of_getElem? (i := 3) rfl)) (hw _ (List.mem_of_getElem? (i := 2) rfl)) (by decide) (by decide)) (g := (mkF m 13 #[.val (.int pA), .val (.int (0 : Int32)), .unset] [(.int (0 : Int32))])) rfl (by rw [hml]; rfl) (argsL := [(.int (0 : Int32))]) (rest := []) (lenOf pd_0 rfl) rfl (by show 2 * 0 + _ ≤ _; exact Nat.le_of_eq rfl) (hb hby at_13) (fun _ _ => ⟨rfl, e0, (by decide : 0 + 0 ≤ _), (by decide : 0 + 0 ≤ _)⟩)
    dsimp only [Pt.U, Pt.locs, Pt.cells, Pt.slots] at X2 l2 y2 z2 st2 hQ2
    subst l2 y2 z2
    obtain ⟨rfl, N2q, e2⟩ := hQ2
    have N2 := Fr.app N0 N2q
    refine own_back ?_ st2
    show own_Go p e below PO (T2.setTop (mkF m 16 #[.val (.int pA), .val (.int (0 : Int32)), .unset] [(.ref aF)]))
    refine own_back ?_ (fun t k => XS.astoreN X2.here hx rfl (hb hby at_16) rfl rfl (l' := #[.val (.int pA), .val (.int (0 : Int32)), .val (.ref aF)]) rfl k)
    show own_Go p e below PO (T2.setTop (mkF m 17 #[.val (.int pA), .val (.int (0 : Int32)), .val (.ref aF)] []))
    refine own_back ?_ (fun t k => XS.aloadN X2.here hx rfl (hb hby at_17) rfl rfl k)
    show own_Go p e below PO (T2.setTop (mkF m 18 #[.val (.int pA), .val (.int (0 : Int32)), .val (.ref aF)] [(.ref aF)]))
    refine own_back ?_ (fun t k => XS.ifnonnullYes X2.here hx rfl (pc0 := 18) (pc' := 23) rfl (hb hby at_18) rfl (by decide) (by decide) k)
    show own_Go p e below PO (T2.setTop (mkF m 23 #[.val (.int pA), .val (.int (0 : Int32)), .val (.ref aF)] []))
    refine own_back ?_ (fun t k => XS.aloadN X2.here hx rfl (hb hby at_23) rfl rfl k)
    show own_Go p e below PO (T2.setTop (mkF m 24 #[.val (.int pA), .val (.int (0 : Int32)), .val (.ref aF)] [(.ref aF)]))
    obtain ⟨cq3, kq3, q3a, q3b, q3c⟩ := isOf hZ e2 E_FALSE
    obtain ⟨_, _, ⟨T3, L3, k3, n3⟩, -, X3, ⟨Lc3, hQ3, l3, y3, z3⟩, st3⟩ := X2.virtualBack hx (y := (⟨"com/example/juncture/juncture/eval/BooleanValue", "value", "()Z"⟩ : MethodName)) (z := (⟨"com/example/juncture/juncture/eval/BooleanValue", "value", "()Z"⟩ : MethodName)) hown (mvT hZ (hw _ (List.mem_of_getElem? (i := 6) rfl))) (mvT hZ (hw _ (List.mem_of_getElem? (i := 7) rfl))) (notFace_of_selects (args := #[]) (mvT hZ (hw _ (List.mem_of_getElem? (i := 9) rfl)))) (mvT hZ (hw _ (List.mem_of_getElem? (i := 9) rfl))) (mvT hZ (hw _ (List.mem_of_getElem? (i := 8) rfl))) (by decide) (backOf (W := 0) (rm2 l Z a0 hw [] aF (0 : Int32) h0 n0 Z0 F_FALSE (by decide)) hZ (hw _ (List.mem_of_getElem? (i := 10) rfl)) (hw _ (List.mem_of_getElem? (i := 2) rfl)) (by decide) (by decide)) q3a q3c (g := (mkF m 24 #[.val (.int pA), .val (.int (0 : Int32)), .val (.ref aF)] [(.ref aF)])) rfl (by rw [hml]; rfl) (Steps.refl _) (argsL := []) (rest := []) (lenOf pd_1 rfl) rfl (by show 2 * 0 + _ ≤ _; exact Nat.le_of_eq rfl) (hb hby at_24) (fun _ _ => ⟨rfl, e2, (by decide : 0 + 0 ≤ _), (by decide : 0 + 0 ≤ _)⟩)
    dsimp only [Pt.U, Pt.locs, Pt.cells, Pt.slots] at X3 l3 y3 z3 st3 hQ3
    subst l3 y3 z3
    obtain ⟨rfl, N3q, e3⟩ := hQ3
    have N3 := Fr.app N2 N3q
    refine own_back ?_ (fun t k => st3.trans k)
    show own_Go p e below PO (T3.setTop (mkF m 27 #[.val (.int pA), .val (.int (0 : Int32)), .val (.ref aF)] [(.int (0 : Int32))]))
    refine own_back ?_ (fun t k => XS.iloadN X3.here hx rfl (hb hby at_27) rfl k)
    show own_Go p e below PO (T3.setTop (mkF m 28 #[.val (.int pA), .val (.int (0 : Int32)), .val (.ref aF)] [(.int (0 : Int32)), (.int (0 : Int32))]))
    refine own_back ?_ (fun t k => XS.icmpYes X3.here hx rfl (pc0 := 28) (pc' := 33) rfl (hb hby at_28) rfl (teq rfl).1 (by decide) (by decide) k)
    show own_Go p e below PO (T3.setTop (mkF m 33 #[.val (.int pA), .val (.int (0 : Int32)), .val (.ref aF)] []))
    refine own_back ?_ (fun t k => XS.iloadN X3.here hx rfl (hb hby at_33) rfl k)
    show own_Go p e below PO (T3.setTop (mkF m 34 #[.val (.int pA), .val (.int (0 : Int32)), .val (.ref aF)] [(.int (0 : Int32))]))
    refine own_back ?_ (fun t k => XS.ifYes X3.here hx rfl (pc0 := 34) (pc' := 50) rfl (hb hby at_34) rfl ((if0 _ _).trans (teq rfl).1) (by decide) (by decide) k)
    show own_Go p e below PO (T3.setTop (mkF m 50 #[.val (.int pA), .val (.int (0 : Int32)), .val (.ref aF)] []))
    refine own_back ?_ (fun t k => XS.aloadN X3.here hx rfl (hb hby at_50) rfl rfl k)
    show own_Go p e below PO (T3.setTop (mkF m 51 #[.val (.int pA), .val (.int (0 : Int32)), .val (.ref aF)] [(.ref aF)]))
    obtain ⟨T4, X4, e4, st4⟩ := getS2 X3 hx hZ hown (host := "") (Or.inl (hw _ (List.mem_of_getElem? (i := 13) rfl))) Via.refl e3 S_FALSE (g := (mkF m 51 #[.val (.int pA), .val (.int (0 : Int32)), .val (.ref aF)] [(.ref aF)])) rfl (hb hby at_51)
    refine own_back ?_ st4
    show own_Go p e below PO (T4.setTop (mkF m 54 #[.val (.int pA), .val (.int (0 : Int32)), .val (.ref aF)] [(.ref aF), (.ref aF)]))
    refine own_back ?_ (fun t k => Jvm.RoadKit.acmp (g := (mkF m 54 #[.val (.int pA), .val (.int (0 : Int32)), .val (.ref aF)] [(.ref aF), (.ref aF)])) X4 hx rfl rfl rfl (pc0 := 54) (pc' := 57) (same := true) rfl (hb hby at_54) rfl (decide_eq_true rfl) (by decide) (by decide) k)
    show own_Go p e below PO (T4.setTop (mkF m 57 #[.val (.int pA), .val (.int (0 : Int32)), .val (.ref aF)] []))
    refine own_back ?_ (fun t k => XS.iconst X4.here hx rfl (hb hby at_57) k)
    show own_Go p e below PO (T4.setTop (mkF m 58 #[.val (.int pA), .val (.int (0 : Int32)), .val (.ref aF)] [(.int (1 : Int32))]))
    refine own_back ?_ (fun t k => XS.goto X4.here hx rfl (pc0 := 58) (pc' := 62) rfl (hb hby at_58) (by decide) (by decide) k)
    show own_Go p e below PO (T4.setTop (mkF m 62 #[.val (.int pA), .val (.int (0 : Int32)), .val (.ref aF)] [(.int (1 : Int32))]))
    refine own_retN X4 hx (t := .boolean) (rest := []) Bd.returns (by decide) (by simp) (hb hby at_62) e4 (Bd.notSynchronized) ?_ (by decide) (by decide)
    exact ⟨rfl, N3⟩
  refine own_back ?_ (fun t k => XS.ifNo X0.here hx rfl (hb hby at_3) rfl ((if0 _ _).trans (feq hc3_1).1) k)
  show own_Go p e below PO (s₁.setTop (mkF m 6 #[.val (.int pA), .unset, .unset] []))
  refine own_back ?_ (fun t k => XS.iconst X0.here hx rfl (hb hby at_6) k)
  show own_Go p e below PO (s₁.setTop (mkF m 7 #[.val (.int pA), .unset, .unset] [(.int (1 : Int32))]))
  refine own_back ?_ (fun t k => XS.goto X0.here hx rfl (pc0 := 7) (pc' := 11) rfl (hb hby at_7) (by decide) (by decide) k)
  show own_Go p e below PO (s₁.setTop (mkF m 11 #[.val (.int pA), .unset, .unset] [(.int (1 : Int32))]))
  refine own_back ?_ (fun t k => XS.istoreN X0.here hx rfl (hb hby at_11) rfl (l' := #[.val (.int pA), .val (.int (1 : Int32)), .unset]) rfl k)
  show own_Go p e below PO (s₁.setTop (mkF m 12 #[.val (.int pA), .val (.int (1 : Int32)), .unset] []))
  refine own_back ?_ (fun t k => XS.iloadN X0.here hx rfl (hb hby at_12) rfl k)
  show own_Go p e below PO (s₁.setTop (mkF m 13 #[.val (.int pA), .val (.int (1 : Int32)), .unset] [(.int (1 : Int32))]))
  obtain ⟨_, _, ⟨T5, L5, k5, n5⟩, -, X5, ⟨Lc5, hQ5, l5, y5, z5⟩, st5⟩ := Jvm.LawKit.callS X0 hx (y := (⟨"com/example/juncture/juncture/eval/BooleanValue", "of", "(Z)Lcom/example/juncture/juncture/eval/BooleanValue;"⟩ : MethodName)) hown (mvT hZ (hw _ (List.mem_of_getElem? (i := 0) rfl))) (mvT hZ (hw _ (List.mem_of_getElem? (i := 1) rfl))) (mvT hZ (hw _ (List.mem_of_getElem? (i := 2) rfl))) (mvT hZ (hw _ (List.mem_of_getElem? (i := 3) rfl))) (by decide) (backOf (W := 0) (rm1_1 l Z a0 hw []  aT h0 n0 Z0 S_TRUE) hZ (hw _ (List.mem_of_getElem? (i := 3) rfl)) (hw _ (List.mem_of_getElem? (i := 2) rfl)) (by decide) (by decide)) (g := (mkF m 13 #[.val (.int pA), .val (.int (1 : Int32)), .unset] [(.int (1 : Int32))])) rfl (by rw [hml]; rfl) (argsL := [(.int (1 : Int32))]) (rest := []) (lenOf pd_0 rfl) rfl (by show 2 * 0 + _ ≤ _; exact Nat.le_of_eq rfl) (hb hby at_13) (fun _ _ => ⟨rfl, e0, (by decide : 0 + 0 ≤ _), (by decide : 0 + 0 ≤ _)⟩)
  dsimp only [Pt.U, Pt.locs, Pt.cells, Pt.slots] at X5 l5 y5 z5 st5 hQ5
  subst l5 y5 z5
  obtain ⟨rfl, N5q, e5⟩ := hQ5
  have N5 := Fr.app N0 N5q
  refine own_back ?_ st5
  show own_Go p e below PO (T5.setTop (mkF m 16 #[.val (.int pA), .val (.int (1 : Int32)), .unset] [(.ref aT)]))
  refine own_back ?_ (fun t k => XS.astoreN X5.here hx rfl (hb hby at_16) rfl rfl (l' := #[.val (.int pA), .val (.int (1 : Int32)), .val (.ref aT)]) rfl k)
  show own_Go p e below PO (T5.setTop (mkF m 17 #[.val (.int pA), .val (.int (1 : Int32)), .val (.ref aT)] []))
  refine own_back ?_ (fun t k => XS.aloadN X5.here hx rfl (hb hby at_17) rfl rfl k)
  show own_Go p e below PO (T5.setTop (mkF m 18 #[.val (.int pA), .val (.int (1 : Int32)), .val (.ref aT)] [(.ref aT)]))
  refine own_back ?_ (fun t k => XS.ifnonnullYes X5.here hx rfl (pc0 := 18) (pc' := 23) rfl (hb hby at_18) rfl (by decide) (by decide) k)
  show own_Go p e below PO (T5.setTop (mkF m 23 #[.val (.int pA), .val (.int (1 : Int32)), .val (.ref aT)] []))
  refine own_back ?_ (fun t k => XS.aloadN X5.here hx rfl (hb hby at_23) rfl rfl k)
  show own_Go p e below PO (T5.setTop (mkF m 24 #[.val (.int pA), .val (.int (1 : Int32)), .val (.ref aT)] [(.ref aT)]))
  obtain ⟨cq6, kq6, q6a, q6b, q6c⟩ := isOf hZ e5 E_TRUE
  obtain ⟨_, _, ⟨T6, L6, k6, n6⟩, -, X6, ⟨Lc6, hQ6, l6, y6, z6⟩, st6⟩ := X5.virtualBack hx (y := (⟨"com/example/juncture/juncture/eval/BooleanValue", "value", "()Z"⟩ : MethodName)) (z := (⟨"com/example/juncture/juncture/eval/BooleanValue", "value", "()Z"⟩ : MethodName)) hown (mvT hZ (hw _ (List.mem_of_getElem? (i := 6) rfl))) (mvT hZ (hw _ (List.mem_of_getElem? (i := 7) rfl))) (notFace_of_selects (args := #[]) (mvT hZ (hw _ (List.mem_of_getElem? (i := 9) rfl)))) (mvT hZ (hw _ (List.mem_of_getElem? (i := 9) rfl))) (mvT hZ (hw _ (List.mem_of_getElem? (i := 8) rfl))) (by decide) (backOf (W := 0) (rm2 l Z a0 hw [] aT (1 : Int32) h0 n0 Z0 F_TRUE (by decide)) hZ (hw _ (List.mem_of_getElem? (i := 10) rfl)) (hw _ (List.mem_of_getElem? (i := 2) rfl)) (by decide) (by decide)) q6a q6c (g := (mkF m 24 #[.val (.int pA), .val (.int (1 : Int32)), .val (.ref aT)] [(.ref aT)])) rfl (by rw [hml]; rfl) (Steps.refl _) (argsL := []) (rest := []) (lenOf pd_1 rfl) rfl (by show 2 * 0 + _ ≤ _; exact Nat.le_of_eq rfl) (hb hby at_24) (fun _ _ => ⟨rfl, e5, (by decide : 0 + 0 ≤ _), (by decide : 0 + 0 ≤ _)⟩)
  dsimp only [Pt.U, Pt.locs, Pt.cells, Pt.slots] at X6 l6 y6 z6 st6 hQ6
  subst l6 y6 z6
  obtain ⟨rfl, N6q, e6⟩ := hQ6
  have N6 := Fr.app N5 N6q
  refine own_back ?_ (fun t k => st6.trans k)
  show own_Go p e below PO (T6.setTop (mkF m 27 #[.val (.int pA), .val (.int (1 : Int32)), .val (.ref aT)] [(.int (1 : Int32))]))
  refine own_back ?_ (fun t k => XS.iloadN X6.here hx rfl (hb hby at_27) rfl k)
  show own_Go p e below PO (T6.setTop (mkF m 28 #[.val (.int pA), .val (.int (1 : Int32)), .val (.ref aT)] [(.int (1 : Int32)), (.int (1 : Int32))]))
  refine own_back ?_ (fun t k => XS.icmpYes X6.here hx rfl (pc0 := 28) (pc' := 33) rfl (hb hby at_28) rfl (teq rfl).1 (by decide) (by decide) k)
  show own_Go p e below PO (T6.setTop (mkF m 33 #[.val (.int pA), .val (.int (1 : Int32)), .val (.ref aT)] []))
  refine own_back ?_ (fun t k => XS.iloadN X6.here hx rfl (hb hby at_33) rfl k)
  show own_Go p e below PO (T6.setTop (mkF m 34 #[.val (.int pA), .val (.int (1 : Int32)), .val (.ref aT)] [(.int (1 : Int32))]))
  have hd34_7 : ¬ ((1 : Int32) = (0 : Int32)) := (by decide)
  refine own_back ?_ (fun t k => XS.ifNo X6.here hx rfl (hb hby at_34) rfl ((if0 _ _).trans (feq hd34_7).1) k)
  show own_Go p e below PO (T6.setTop (mkF m 37 #[.val (.int pA), .val (.int (1 : Int32)), .val (.ref aT)] []))
  refine own_back ?_ (fun t k => XS.aloadN X6.here hx rfl (hb hby at_37) rfl rfl k)
  show own_Go p e below PO (T6.setTop (mkF m 38 #[.val (.int pA), .val (.int (1 : Int32)), .val (.ref aT)] [(.ref aT)]))
  obtain ⟨T8, X8, e8, st8⟩ := getS2 X6 hx hZ hown (host := "") (Or.inl (hw _ (List.mem_of_getElem? (i := 16) rfl))) Via.refl e6 S_TRUE (g := (mkF m 38 #[.val (.int pA), .val (.int (1 : Int32)), .val (.ref aT)] [(.ref aT)])) rfl (hb hby at_38)
  refine own_back ?_ st8
  show own_Go p e below PO (T8.setTop (mkF m 41 #[.val (.int pA), .val (.int (1 : Int32)), .val (.ref aT)] [(.ref aT), (.ref aT)]))
  refine own_back ?_ (fun t k => Jvm.RoadKit.acmp (g := (mkF m 41 #[.val (.int pA), .val (.int (1 : Int32)), .val (.ref aT)] [(.ref aT), (.ref aT)])) X8 hx rfl rfl rfl (pc0 := 41) (pc' := 44) (same := true) rfl (hb hby at_41) rfl (decide_eq_true rfl) (by decide) (by decide) k)
  show own_Go p e below PO (T8.setTop (mkF m 44 #[.val (.int pA), .val (.int (1 : Int32)), .val (.ref aT)] []))
  refine own_back ?_ (fun t k => XS.iconst X8.here hx rfl (hb hby at_44) k)
  show own_Go p e below PO (T8.setTop (mkF m 45 #[.val (.int pA), .val (.int (1 : Int32)), .val (.ref aT)] [(.int (1 : Int32))]))
  refine own_back ?_ (fun t k => XS.goto X8.here hx rfl (pc0 := 45) (pc' := 49) rfl (hb hby at_45) (by decide) (by decide) k)
  show own_Go p e below PO (T8.setTop (mkF m 49 #[.val (.int pA), .val (.int (1 : Int32)), .val (.ref aT)] [(.int (1 : Int32))]))
  refine own_retN X8 hx (t := .boolean) (rest := []) Bd.returns (by decide) (by simp) (hb hby at_49) e8 (Bd.notSynchronized) ?_ (by decide) (by decide)
  exact ⟨rfl, N6⟩
set_option maxRecDepth 65536 in
set_option maxHeartbeats 40000000 in
theorem comes_1 {Post : Tables → Env → Array Value → State → Outcome → State → Prop} (hpost : ∀ tb e args s v u, (limb_1_1.after args s (.returned v) u = true ∧ limb_1_2.after args s (.returned v) u = true ∧ True) → FrameEnd s (.returned v) u (Jvm.fieldLocs frame_1_writes args s ++ Jvm.arrayLocs frame_1_arrays args s ++ Jvm.staticLocs frame_1_statics s) 0 0 → Post tb e args s (.returned v) u) :
    ArmFor flags0 classFile x code maxLocals ret World_1 tables_1 room_1 Calls_1 rest_1 Pre_1 Post := by
  intro l hfl _ _ p e ha hc hk s m args below hf hA hF happ hP
  obtain ⟨hcalls, hrest, hpre⟩ := hP
  obtain ⟨-, -, -, hnamed, -, -, -, hat⟩ := (Spec.applies_iff hf).mp happ
  obtain ⟨hg, hn⟩ := and_e (Cond.before_iff.mp (show (Jvm.Cond.and given_1 narrow_1).before args s = true from hpre))
  obtain ⟨gc, g0⟩ := and_e hg
  obtain ⟨w0, rfl⟩ : ∃ w0 : Value, args = #[w0] := by
    have hs : args.size = 1 := by simpa [Cond.value, given_1] using gc
    obtain ⟨L⟩ := args
    match L, hs with
    | [w0], _ => exact ⟨w0, rfl⟩
  have hw := fun d (hd : d ∈ tables_1) => atoms_spec (ws := Jvm.Cond.code x code maxLocals ret :: tables_1) hat d (List.mem_cons_of_mem _ hd)
  obtain ⟨i0, ei0⟩ := is_v g0
  obtain rfl : w0 = (.int i0) := Option.some.inj ei0
  obtain ⟨nA0, nB0⟩ := and_e hn
  obtain ⟨nA1, nB1⟩ := and_e nB0
  obtain ⟨nA2, nB2⟩ := and_e nB1
  obtain ⟨a_FALSE, ev_FALSE⟩ := exa_v nA0
  have E_FALSE := Exa.start ev_FALSE nA0
  have S_FALSE := Sta.start ev_FALSE (Or.inr ⟨(hw _ (List.mem_of_getElem? (i := 2) rfl)), (hw _ (List.mem_of_getElem? (i := 5) rfl))⟩)
  obtain ⟨a_TRUE, ev_TRUE⟩ := exa_v nA2
  have E_TRUE := Exa.start ev_TRUE nA2
  have S_TRUE := Sta.start ev_TRUE (Or.inr ⟨(hw _ (List.mem_of_getElem? (i := 2) rfl)), (hw _ (List.mem_of_getElem? (i := 15) rfl))⟩)
  have F_FALSE_value := own_fldI ev_FALSE nA1
  have F_TRUE_value := own_fldI ev_TRUE nB2
  obtain ⟨n, o, h1, h2, h3, _, L, rfl, ⟨rfl, N⟩, hq⟩ := rm0 l s _ hw tables_1 i0 a_FALSE a_TRUE s.heap s.heap.size (Nat.le_refl _) S_FALSE E_FALSE F_FALSE_value S_TRUE E_TRUE F_TRUE_value p e ha hc hk s m _ below hf ((Spec.applies_iff_loose hf).mp happ).1 ⟨rfl, State.Warmed39.refl s, rfl⟩ trivial
  refine ⟨n, _, h1, h2, h3, hpost _ _ _ _ _ _ ⟨Cond.after_iff.mpr rfl, Cond.after_iff.mpr (eq_i res_at (Term.int_eval (1)) rfl), trivial⟩ ⟨hq.1, hq.2.1, (hq.2.2.sift fun y hy => Or.inr (N y hy)).mono (by decide) (by decide)⟩⟩
theorem main_1_1 : Claimed_1_1 := comes_1 fun _ _ _ _ _ _ h hF => ⟨h.1, hF⟩
theorem main_1_2 : Claimed_1_2 := comes_1 fun _ _ _ _ _ _ h hF => ⟨h.2.1, hF⟩
end Jvm.Pilot.@@N@@
namespace Jvm.Pilot.@@N@@
open Jvm Jvm.ClassFile Sem Op Lib Jvm.Free Jvm.Stand Jvm.Pilot.@@N@@.Jvm.D
/-! MADE BY PROGRAM (witnessworld.py) out of the Statement's table words and the real class files: 12 classes; the members and pool entries that the words name. The judged class is class 1, her method 1. -/
namespace start1
open Jvm.ClassFile
def u (s : String) : CpInfo := .utf8 (stringToUtf16 s)
/-- a pool by its gaps: so many unusable entries, then the entry; so many at the end -/
def gap : Nat → List CpInfo → List CpInfo
  | 0, r => r
  | n + 1, r => .unusable :: gap n r
def poolList (es : List (Nat × CpInfo)) (last : Nat) : List CpInfo := es.foldr (fun e r => gap e.1 (e.2 :: r)) (gap last [])
def pool (es : List (Nat × CpInfo)) (last : Nat) : Array CpInfo := ⟨poolList es last⟩
def fileOf (pool : Array CpInfo) (this : Nat) (attrs : Array Attribute := #[]) (ms : Array MethodInfo := #[]) (fl : Nat := 33) (sup : Nat := 0) (ifs : Array Nat := #[]) (fds : Array FieldInfo := #[]) : ClassFile where
  minorVersion := 0
  majorVersion := 65
  constantPool := pool
  accessFlags := fl
  thisClass := this
  superClass := sup
  interfaces := ifs
  fields := fds
  methods := ms
  attributes := attrs
def plain (name : String) (sup : Option ClassId) : Class where
  name := name
  kind := .ordinary
  loader := none
  accessFlags := 33
  super := sup
  interfaces := #[]
  cf := none
  fields := #[]
  methods := #[]
  instanceTypes := #[]
  staticTypes := #[]
  resolved := #[]
  callSites := []
  init := .initialized
  statics := none
  mirror := none

def pool0 : Array CpInfo := pool [(5, u "<init>"), (0, u "()V"), (1, .class_ 10), (1, u "java/lang/Object")] 113

def k0m0 : Method := { name := "<init>", desc := "()V", sig := { parameters := [], returnType := none }, accessFlags := 1, code := none }
/-- java/lang/Object -/
def k0 : Class := { plain "java/lang/Object" none with
  accessFlags := 33
  interfaces := #[]
  cf := some (fileOf pool0 8 #[] #[{ accessFlags := 1, nameIndex := 5, descriptorIndex := 6, attributes := #[] }] 33 0 #[] #[])
  fields := #[]
  methods := #[k0m0]
  instanceTypes := #[]
  staticTypes := #[]
  resolved := Array.replicate 124 none
  statics := none }

def pool1 : Array CpInfo := pool [(2, .class_ 4), (1, u "java/lang/Object"), (0, u "<init>"), (0, u "()V"), (0, .methodref 8 9), (0, .class_ 10), (0, .nameAndType 11 12), (0, u "com/example/juncture/juncture/eval/BooleanValue"), (0, u "of"), (0, u "(Z)Lcom/example/juncture/juncture/eval/BooleanValue;"), (0, .methodref 8 14), (0, .nameAndType 15 16), (0, u "value"), (0, u "()Z"), (0, .fieldref 8 18), (0, .nameAndType 19 20), (0, u "TRUE"), (0, u "Lcom/example/juncture/juncture/eval/BooleanValue;"), (0, .fieldref 8 22), (0, .nameAndType 23 20), (0, u "FALSE"), (0, .class_ 25), (0, u "com/example/juncture/juncture/eval/BooleanValueOfPinLaw"), (2, u "law"), (0, u "(I)Z")] 3

def k1m0 : Method := { name := "<init>", desc := "()V", sig := { parameters := [], returnType := none }, accessFlags := 2, code := none }
def k1c1 : Code := { maxStack := 2, maxLocals := 3, code := code, exceptionTable := #[], attributes := #[] }
def k1m1 : Method := { name := "law", desc := "(I)Z", sig := { parameters := [.int], returnType := some .boolean }, accessFlags := 9, code := some k1c1 }
/-- com/example/juncture/juncture/eval/BooleanValueOfPinLaw -/
def k1 : Class := { plain "com/example/juncture/juncture/eval/BooleanValueOfPinLaw" (some 0) with
  accessFlags := 49
  interfaces := #[]
  cf := some (fileOf pool1 24 #[] #[{ accessFlags := 2, nameIndex := 5, descriptorIndex := 6, attributes := #[] }, { accessFlags := 9, nameIndex := 28, descriptorIndex := 29, attributes := #[] }] 49 2 #[] #[])
  fields := #[]
  methods := #[k1m0, k1m1]
  instanceTypes := #[]
  staticTypes := #[]
  resolved := Array.replicate 33 none
  statics := none }

def pool2 : Array CpInfo := pool [(2, .class_ 4), (1, u "java/lang/Object"), (0, u "<init>"), (0, u "()V"), (0, .class_ 8), (0, u "java/lang/Record")] 13

def k2m0 : Method := { name := "<init>", desc := "()V", sig := { parameters := [], returnType := none }, accessFlags := 4, code := none }
/-- java/lang/Record -/
def k2 : Class := { plain "java/lang/Record" (some 0) with
  accessFlags := 1057
  interfaces := #[]
  cf := some (fileOf pool2 7 #[] #[{ accessFlags := 4, nameIndex := 5, descriptorIndex := 6, attributes := #[] }] 1057 2 #[] #[])
  fields := #[]
  methods := #[k2m0]
  instanceTypes := #[]
  staticTypes := #[]
  resolved := Array.replicate 22 none
  statics := none }

def pool3 : Array CpInfo := pool [(1, .class_ 2), (0, u "java/lang/Comparable"), (0, .class_ 4), (0, u "java/lang/Object")] 7

/-- java/lang/Comparable -/
def k3 : Class := { plain "java/lang/Comparable" (some 0) with
  accessFlags := 1537
  interfaces := #[]
  cf := some (fileOf pool3 1 #[] #[] 1537 3 #[] #[])
  fields := #[]
  methods := #[]
  instanceTypes := #[]
  staticTypes := #[]
  resolved := Array.replicate 12 none
  statics := none }

def pool4 : Array CpInfo := pool [(1, .class_ 2), (0, u "com/example/juncture/juncture/eval/Value"), (4, .class_ 8), (0, u "java/lang/Object"), (0, .class_ 10), (0, u "java/lang/Comparable"), (11, .class_ 23), (0, u "com/example/juncture/juncture/eval/Value$Kind")] 13

/-- com/example/juncture/juncture/eval/Value -/
def k4 : Class := { plain "com/example/juncture/juncture/eval/Value" (some 0) with
  accessFlags := 1537
  interfaces := #[3]
  cf := some (fileOf pool4 1 #[.nestMembers #[22]] #[] 1537 7 #[9] #[])
  fields := #[]
  methods := #[]
  instanceTypes := #[]
  staticTypes := #[]
  resolved := Array.replicate 37 none
  statics := none }

def pool5 : Array CpInfo := pool [(2, .class_ 4), (1, u "java/lang/Record"), (2, .fieldref 8 9), (0, .class_ 10), (0, .nameAndType 11 12), (0, u "com/example/juncture/juncture/eval/BooleanValue"), (0, u "value"), (0, u "Z"), (0, .fieldref 8 14), (0, .nameAndType 15 16), (0, u "TRUE"), (0, u "Lcom/example/juncture/juncture/eval/BooleanValue;"), (0, .fieldref 8 18), (0, .nameAndType 19 16), (0, u "FALSE"), (14, .class_ 35), (0, u "com/example/juncture/juncture/eval/Value"), (18, u "of"), (0, u "(Z)Lcom/example/juncture/juncture/eval/BooleanValue;"), (9, u "()Z")] 22

def k5c0 : Code := { maxStack := 1, maxLocals := 1, code := prog_11_method_2_code, exceptionTable := #[], attributes := #[] }
def k5m0 : Method := { name := "of", desc := "(Z)Lcom/example/juncture/juncture/eval/BooleanValue;", sig := { parameters := [.boolean], returnType := some (.object "com/example/juncture/juncture/eval/BooleanValue") }, accessFlags := 9, code := some k5c0 }
def k5c1 : Code := { maxStack := 1, maxLocals := 1, code := prog_11_method_8_code, exceptionTable := #[], attributes := #[] }
def k5m1 : Method := { name := "value", desc := "()Z", sig := { parameters := [], returnType := some .boolean }, accessFlags := 1, code := some k5c1 }
/-- com/example/juncture/juncture/eval/BooleanValue -/
def k5 : Class := { plain "com/example/juncture/juncture/eval/BooleanValue" (some 2) with
  accessFlags := 49
  interfaces := #[4]
  cf := some (fileOf pool5 8 #[] #[{ accessFlags := 9, nameIndex := 54, descriptorIndex := 55, attributes := #[] }, { accessFlags := 1, nameIndex := 11, descriptorIndex := 65, attributes := #[] }] 49 2 #[34] #[{ accessFlags := 18, nameIndex := 11, descriptorIndex := 12, attributes := #[] }, { accessFlags := 25, nameIndex := 15, descriptorIndex := 16, attributes := #[] }, { accessFlags := 25, nameIndex := 19, descriptorIndex := 16, attributes := #[] }])
  fields := #[{ name := "value", type := .boolean, accessFlags := 18, slot := 0, constantValue := 0 }, { name := "TRUE", type := (.object "com/example/juncture/juncture/eval/BooleanValue"), accessFlags := 25, slot := 0, constantValue := 0 }, { name := "FALSE", type := (.object "com/example/juncture/juncture/eval/BooleanValue"), accessFlags := 25, slot := 1, constantValue := 0 }]
  methods := #[k5m0, k5m1]
  instanceTypes := #[.boolean]
  staticTypes := #[(.object "com/example/juncture/juncture/eval/BooleanValue"), (.object "com/example/juncture/juncture/eval/BooleanValue")]
  resolved := Array.replicate 88 none
  statics := some 0 }

def pool6 : Array CpInfo := pool [(1, u "java/lang/Cloneable"), (0, .class_ 1), (0, u "java/lang/Object"), (0, .class_ 3)] 3

/-- java/lang/Cloneable -/
def k6 : Class := { plain "java/lang/Cloneable" (some 0) with
  accessFlags := 1537
  interfaces := #[]
  cf := some (fileOf pool6 2 #[] #[] 1537 4 #[] #[])
  fields := #[]
  methods := #[]
  instanceTypes := #[]
  staticTypes := #[]
  resolved := Array.replicate 8 none
  statics := none }

def pool7 : Array CpInfo := pool [(1, u "java/io/Serializable"), (0, .class_ 1), (0, u "java/lang/Object"), (0, .class_ 3)] 3

/-- java/io/Serializable -/
def k7 : Class := { plain "java/io/Serializable" (some 0) with
  accessFlags := 1537
  interfaces := #[]
  cf := some (fileOf pool7 2 #[] #[] 1537 4 #[] #[])
  fields := #[]
  methods := #[]
  instanceTypes := #[]
  staticTypes := #[]
  resolved := Array.replicate 8 none
  statics := none }

/-- the primitive byte -/
def k8 : Class := { plain "byte" none with kind := .primitive 'B', accessFlags := 0x411 }
/-- [B -/
def k9 : Class := { plain "[B" (some 0) with kind := .array 8 .byte, interfaces := #[6, 7], accessFlags := 1041 }

/-- the primitive int -/
def k10 : Class := { plain "int" none with kind := .primitive 'I', accessFlags := 0x411 }
/-- [I -/
def k11 : Class := { plain "[I" (some 0) with kind := .array 10 .int, interfaces := #[6, 7], accessFlags := 1041 }

def heap : Heap := #[{ cls := 5, slots := #[.ref 2, .ref 1], vm := .statics 5 },
  { cls := 5, slots := #[.int 0], vm := .none },
  { cls := 5, slots := #[.int 1], vm := .none }]
def classes : Array Class := #[k0, k1, k2, k3, k4, k5, k6, k7, k8, k9, k10, k11]
def interned : List (Array UInt16 × Addr) := []
def slotsUsed : Nat := 4
def theMethod : MethodId := ⟨1, 1⟩
def args0 : Array Value := #[.int 5]
def aboutOver (below : List Frame) : State where
  vm := { classes := classes, interned := interned.toArray }
  heap := heap
  slotsUsed := slotsUsed
  threads := #[{ frames := .invoking theMethod args0 :: below }]
def below0 : List Frame := [.native { method := ⟨0, 0⟩, args := #[] }]
def about1 : State := aboutOver below0
def p0 : Program := .bare "" "" ""
def e0 : Env := launch0.env 0 0 0
theorem w_frames : about1.frames = Frame.invoking theMethod args0 :: below0 := rfl
set_option maxRecDepth 65536 in
theorem w_args : argsFit about1.vm theMethod args0 = true := by decide +kernel
set_option maxRecDepth 65536 in
theorem w_heap : heapFits about1 = true := by decide +kernel
set_option maxRecDepth 65536 in
theorem w_runnable : about1.curStatus? = some .runnable := by decide +kernel
set_option maxRecDepth 65536 in
theorem w_alone : about1.alone = true := by decide +kernel
set_option maxRecDepth 65536 in
theorem w_named : about1.methodNamed? x = some theMethod := by decide +kernel
set_option maxRecDepth 65536 in
theorem w_hears : about1.hears theMethod below0 = true := by decide +kernel
set_option maxRecDepth 65536 in
theorem w_ripe : about1.ripe theMethod args0 below0 = true := by decide +kernel
theorem w_running : about1.status = .running := rfl
set_option maxRecDepth 65536 in
theorem w_room : about1.hasRoom e0.platform room_1 = true :=
  launch0.hasRoom_least _ room_1 (by decide +kernel) (by decide +kernel) (by decide +kernel) (by decide +kernel) (by decide +kernel) (by decide +kernel)
theorem allAtoms_all (ts : List Jvm.Cond) (a : Array Jvm.Value) (st : Jvm.State) : (allAtoms ts).before a st = ts.all (fun c => c.before a st) := by
  induction ts with
  | nil => rfl
  | cons c t ih =>
    show (Jvm.Cond.and c (allAtoms t)).before a st = _
    rw [Jvm.Cond.before_and, ih, List.all_cons]
def words1 : List Jvm.Cond := Jvm.Cond.code x code maxLocals ret :: tables_1
/-- a 'code' word, met by the world's own term for the bytes: nothing is compared byte by byte -/
theorem code_word {y : MethodName} {bytes : ByteArray} {mx : Nat} {rt : Option FieldType} {a : Array Value} {s : State} {m : MethodId} {meth : Method} {c : Code} (h1 : s.methodNamed? y = some m) (h2 : s.vm.method? m = some meth) (h3 : meth.code = some c) (h4 : c.code = bytes)
    (h5 : (c.maxLocals == mx && c.exceptionTable.isEmpty && decide (c.maxStack ≤ mostOperands) && decide (meth.sig.returnType = rt) && !meth.locks && decide (parseMethodDescriptor y.desc = some meth.sig)) = true) : (Jvm.Cond.code y bytes mx rt).before a s = true := by
  simp only [Bool.and_eq_true, beq_iff_eq, Bool.not_eq_true', decide_eq_true_eq] at h5
  obtain ⟨⟨⟨⟨⟨g1, g2⟩, g3⟩, g4⟩, g5⟩, g6⟩ := h5
  simp [Cond.before, Cond.holds, Cond.value, h1, h2, h3, h4, g1, g2, g3, g4, g5, g6]
def isCode : Jvm.Cond → Bool
  | .code _ _ _ _ => true
  | _ => false
theorem all_split {L : List Jvm.Cond} {P : Jvm.Cond → Bool} (h1 : L.all (fun c => isCode c || P c) = true) (h2 : ∀ c ∈ L.filter isCode, P c = true) : L.all P = true := by
  refine List.all_eq_true.mpr fun c hc => ?_
  have h := List.all_eq_true.mp h1 c hc
  rcases Bool.eq_false_or_eq_true (isCode c) with hi | hi
  · exact h2 c (List.mem_filter.mpr ⟨hc, hi⟩)
  · simpa [hi] using h
set_option maxRecDepth 65536 in
theorem w_c0 : (Jvm.Cond.code x code maxLocals ret).before args0 about1 = true := code_word (m := ⟨1, 1⟩) (meth := k1m1) (c := k1c1) (by decide +kernel) rfl rfl rfl (by decide +kernel)
set_option maxRecDepth 65536 in
theorem w_c1 : (Jvm.Cond.code ({ cls := "com/example/juncture/juncture/eval/BooleanValue", name := "of", desc := "(Z)Lcom/example/juncture/juncture/eval/BooleanValue;" } : Jvm.MethodName) prog_11_method_2_code (1 : Nat) (Option.some (Jvm.ClassFile.FieldType.object "com/example/juncture/juncture/eval/BooleanValue"))).before args0 about1 = true := code_word (m := ⟨5, 0⟩) (meth := k5m0) (c := k5c0) (by decide +kernel) rfl rfl rfl (by decide +kernel)
set_option maxRecDepth 65536 in
theorem w_c2 : (Jvm.Cond.code ({ cls := "com/example/juncture/juncture/eval/BooleanValue", name := "value", desc := "()Z" } : Jvm.MethodName) prog_11_method_8_code (1 : Nat) (Option.some Jvm.ClassFile.FieldType.boolean)).before args0 about1 = true := code_word (m := ⟨5, 1⟩) (meth := k5m1) (c := k5c1) (by decide +kernel) rfl rfl rfl (by decide +kernel)
def codes1 : List Jvm.Cond := [Jvm.Cond.code x code maxLocals ret, Jvm.Cond.code ({ cls := "com/example/juncture/juncture/eval/BooleanValue", name := "of", desc := "(Z)Lcom/example/juncture/juncture/eval/BooleanValue;" } : Jvm.MethodName) prog_11_method_2_code (1 : Nat) (Option.some (Jvm.ClassFile.FieldType.object "com/example/juncture/juncture/eval/BooleanValue")), Jvm.Cond.code ({ cls := "com/example/juncture/juncture/eval/BooleanValue", name := "value", desc := "()Z" } : Jvm.MethodName) prog_11_method_8_code (1 : Nat) (Option.some Jvm.ClassFile.FieldType.boolean)]
set_option maxRecDepth 65536 in
theorem codes_eq : words1.filter isCode = codes1 := rfl
theorem w_codes : ∀ c ∈ words1.filter isCode, c.before args0 about1 = true := by
  rw [codes_eq]
  intro c hc
  simp only [codes1, List.mem_cons, List.not_mem_nil, or_false] at hc
  rcases hc with rfl | rfl | rfl
  · exact w_c0
  · exact w_c1
  · exact w_c2
set_option maxRecDepth 65536 in
theorem w_t1 : words1.all (fun c => isCode c || c.before args0 about1) = true := by decide +kernel
theorem w_tables : (allAtoms (Jvm.Cond.code x code maxLocals ret :: tables_1)).before args0 about1 = true := by
  rw [allAtoms_all]
  show words1.all (fun c => c.before args0 about1) = true
  refine all_split ?_ w_codes
  rw [w_t1]
set_option maxRecDepth 65536 in
theorem w_case : (Jvm.Cond.and given_1 narrow_1).before args0 about1 = true := by decide +kernel
theorem w_applies : (headSpec (Jvm.Cond.code x code maxLocals ret :: tables_1) room_1).applies x e0.platform about1 = true :=
  (Spec.applies_iff w_frames).mpr ⟨w_running, w_runnable, w_alone, w_named, w_hears, w_ripe, w_room, w_tables⟩
theorem atStart : AtStart classFile x code maxLocals ret World_1 tables_1 room_1 Calls_1 rest_1 Pre_1 launch0 p0 e0 about1 theMethod args0 below0 :=
  ⟨lists_1, trivial, launch0.admits_env _ _ _, launch0.least_env, fairChoices_fair.cas, fairChoices_fair.clock, w_frames, w_args, w_heap, w_applies, trivial, trivial, w_case⟩
end start1
theorem witness_1 : WitnessClaimed_1 := ⟨start1.p0, start1.e0, start1.about1, start1.theMethod, start1.args0, start1.below0, start1.atStart⟩
end Jvm.Pilot.@@N@@
