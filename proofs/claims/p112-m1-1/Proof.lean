import JvmDerived
import JvmDerived.Pilot.@@N@@Statement
import JvmDerived.Pilot.@@N@@Code
set_option linter.unusedVariables false
set_option linter.unusedSimpArgs false
namespace Jvm.RoadKit
open Sem ClassFile Op Lib Jvm.Stand Jvm.Free Jvm.LawKit
/-! the goal of a walk, seen from where it stands -/
def own_Go (p : Program) (e : Env) (below : List Frame) (PO : Outcome → State → Prop) (U : State) : Prop :=
  ∃ s₂ o, Steps p.tables e below U s₂ ∧ s₂.status = .running ∧ Ended s₂ below o ∧ PO o s₂
def own_PO (s : State) (Q : Option Value → Heap → List Loc → Prop) (C N : Nat) : Outcome → State → Prop :=
  fun o U' => ∃ v L, o = .returned v ∧ Q v U'.heap L ∧ FrameEnd s o U' L C N
theorem own_back {p : Program} {e : Env} {below : List Frame} {PO : Outcome → State → Prop} {U V : State} (h : own_Go p e below PO V)
    (st : ∀ t, Steps p.tables e below V t → Steps p.tables e below U t) : own_Go p e below PO U := by
  obtain ⟨t, o, h1, h2⟩ := h
  exact ⟨t, o, st t h1, h2⟩
theorem own_gen {A : Type} (x : A) (P : A → Prop) (h : ∀ c, c = x → P c) : P x := h x rfl
section New
variable {p : Program} {l : Launch} {e : Env} {R : Room} {s : State} {m : MethodId} {args : Array Value} {below : List Frame} {meth : Method} {c : Code} {T : State} {locs : List Loc} {cells slots : Nat} {h : Heap}
  {Q : Option Value → Heap → List Loc → Prop} {C N : Nat}
theorem own_end (X : Stand p l e R s m args below meth c T locs cells slots) {v : Option Value} {U : State} (hv : meth.sig.returnType = none → v = none) (eT : T.heap = h) (hk : meth.locks = false)
    (st : ∀ fs, (∀ (f : JFrame) (acts : List Action), f.method = m → f.locked = none → f.entered = [] → (doReturn e (T.setTop f) acts v).1 = T.setFrames fs) → Steps p.tables e below U (T.setFrames fs))
    (hQ : Q v h locs) (hc : cells ≤ C) (hn : slots ≤ N) : own_Go p e below (own_PO s Q C N) U := by
  obtain ⟨fs, hr, hrun, hended, hW, hsame⟩ := X.leave (v := v) hv hk
  subst eT
  exact ⟨_, _, st fs hr, hrun, hended, _, _, rfl, hQ, ⟨_, rfl⟩, hW, hsame.mono hc hn⟩
theorem own_retV (X : Stand p l e R s m args below meth c T locs cells slots) (hx : p.tables.exec = Jvm.exec) {pc : Nat} {Ls : Array Slot} (hret : meth.sig.returnType = none) (hd : decode c.code pc = .ok (.return_, 1))
    (eT : T.heap = h) (hk : meth.locks = false) (hQ : Q none h locs) (hc : cells ≤ C) (hn : slots ≤ N) : own_Go p e below (own_PO s Q C N) (T.setTop (mkF m pc Ls [])) :=
  own_end X (fun _ => rfl) eT hk (fun fs hr => X.returnOut hx hret hd hr) hQ hc hn
theorem own_retI (X : Stand p l e R s m args below meth c T locs cells slots) (hx : p.tables.exec = Jvm.exec) {pc : Nat} {Ls : Array Slot} {z : Int32} {rest : List Value} (hret : meth.sig.returnType = some .int) (hd : decode c.code pc = .ok (.ireturn, 1))
    (eT : T.heap = h) (hk : meth.locks = false) (hQ : Q (some (.int z)) h locs) (hc : cells ≤ C) (hn : slots ≤ N) : own_Go p e below (own_PO s Q C N) (T.setTop (mkF m pc Ls (.int z :: rest))) :=
  own_end X (fun q => by rw [hret] at q; cases q) eT hk (fun fs hr => retOut X hx hret rfl (Or.inl ⟨rfl, Or.inl rfl, z, rfl⟩) hd hr) hQ hc hn
theorem own_retN (X : Stand p l e R s m args below meth c T locs cells slots) (hx : p.tables.exec = Jvm.exec) {pc : Nat} {Ls : Array Slot} {z : Int32} {t : FieldType} {rest : List Value} (hret : meth.sig.returnType = some t) (hz : nar t z = z) (ht : t = .boolean ∨ t = .byte ∨ t = .char ∨ t = .short) (hd : decode c.code pc = .ok (.ireturn, 1))
    (eT : T.heap = h) (hk : meth.locks = false) (hQ : Q (some (.int z)) h locs) (hc : cells ≤ C) (hn : slots ≤ N) : own_Go p e below (own_PO s Q C N) (T.setTop (mkF m pc Ls (.int z :: rest))) :=
  own_end X (fun q => by rw [hret] at q; cases q) eT hk (fun fs hr => retN X hx (t := t) hret ht hd (by rw [hz]; exact hr)) hQ hc hn
theorem own_retJ (X : Stand p l e R s m args below meth c T locs cells slots) (hx : p.tables.exec = Jvm.exec) {pc : Nat} {Ls : Array Slot} {z : Int64} {rest : List Value} (hret : meth.sig.returnType = some .long) (hd : decode c.code pc = .ok (.lreturn, 1))
    (eT : T.heap = h) (hk : meth.locks = false) (hQ : Q (some (.long z)) h locs) (hc : cells ≤ C) (hn : slots ≤ N) : own_Go p e below (own_PO s Q C N) (T.setTop (mkF m pc Ls (.long z :: rest))) :=
  own_end X (fun q => by rw [hret] at q; cases q) eT hk (fun fs hr => retOut X hx hret rfl (Or.inr (Or.inl ⟨rfl, rfl, z, rfl⟩)) hd hr) hQ hc hn
theorem own_retD (X : Stand p l e R s m args below meth c T locs cells slots) (hx : p.tables.exec = Jvm.exec) {pc : Nat} {Ls : Array Slot} {z : UInt64} {rest : List Value} (hret : meth.sig.returnType = some .double) (hd : decode c.code pc = .ok (.dreturn, 1))
    (eT : T.heap = h) (hk : meth.locks = false) (hQ : Q (some (.double z)) h locs) (hc : cells ≤ C) (hn : slots ≤ N) : own_Go p e below (own_PO s Q C N) (T.setTop (mkF m pc Ls (.double z :: rest))) :=
  own_end X (fun q => by rw [hret] at q; cases q) eT hk (fun fs hr => retOut X hx hret rfl (Or.inr (Or.inr (Or.inl ⟨rfl, rfl, z, rfl⟩))) hd hr) hQ hc hn
theorem own_retA (X : Stand p l e R s m args below meth c T locs cells slots) (hx : p.tables.exec = Jvm.exec) {pc : Nat} {Ls : Array Slot} {w : Value} {t : FieldType} {rest : List Value} (hret : meth.sig.returnType = some t) (ht : t.isReference = true) (hw : w.isRef = true) (hd : decode c.code pc = .ok (.areturn, 1))
    (eT : T.heap = h) (hk : meth.locks = false) (hQ : Q (some w) h locs) (hc : cells ≤ C) (hn : slots ≤ N) : own_Go p e below (own_PO s Q C N) (T.setTop (mkF m pc Ls (w :: rest))) :=
  own_end X (fun q => by rw [hret] at q; cases q) eT hk (fun fs hr => retOut X hx hret (by cases t <;> first | (cases ht; done) | (cases w <;> first | (cases hw; done) | rfl)) (Or.inr (Or.inr (Or.inr (Or.inr ⟨rfl, ht, hw⟩)))) hd hr) hQ hc hn
end New
end Jvm.RoadKit
namespace Jvm.Pilot.@@N@@
open Jvm Jvm.ClassFile Sem Op Lib Jvm.Free Jvm.Stand Jvm.LawKit Jvm.RoadKit Bundle Jvm.Pilot.@@N@@.Jvm.D

/-! the plain law -/
def own_up (c : Int32) : Int32 := if c < 65 then 0 else if 90 < c then 0 else 1
def own_isL (c : Int32) : Int32 := if c < 97 then own_up c else if 122 < c then own_up c else 1
def own_fold (c : Int32) : Int32 := if (c ||| 32) < 97 then 0 else if 122 < (c ||| 32) then 0 else 1
theorem own_tab : ∀ k : Fin 128, own_isL (Int32.ofNat k.1) = own_fold (Int32.ofNat k.1) := by decide +kernel
theorem own_all {c : Int32} (h0 : 0 ≤ c.toInt) : own_isL c = own_fold c := by
  by_cases h : c.toInt < 128
  · have e : c = Int32.ofNat c.toInt.toNat := by
      apply Int32.toInt_inj.mp
      show c.toInt = (Int32.ofNat c.toInt.toNat).toInt
      rw [Int32.toInt_ofNat_of_lt (by have := c.toInt_lt; omega), Int.toNat_of_nonneg h0]
    have q := own_tab ⟨c.toInt.toNat, by omega⟩
    rw [← e] at q
    exact q
  · have h1 := (c_or0 c 32 h0 (by decide)).1
    have e97 : (97 : Int32).toInt = 97 := by decide
    have e122 : (122 : Int32).toInt = 122 := by decide
    have e65 : (65 : Int32).toInt = 65 := by decide
    have e90 : (90 : Int32).toInt = 90 := by decide
    have a1 : ¬ c < 97 := by rw [Int32.lt_iff_toInt_lt]; omega
    have a2 : (122 : Int32) < c := by rw [Int32.lt_iff_toInt_lt]; omega
    have a3 : ¬ c < 65 := by rw [Int32.lt_iff_toInt_lt]; omega
    have a4 : (90 : Int32) < c := by rw [Int32.lt_iff_toInt_lt]; omega
    have b1 : ¬ (c ||| 32) < 97 := by rw [Int32.lt_iff_toInt_lt]; omega
    have b2 : (122 : Int32) < (c ||| 32) := by rw [Int32.lt_iff_toInt_lt]; omega
    simp only [own_isL, own_up, own_fold, a1, a2, a3, a4, b1, b2, if_true, if_false]
theorem d1_0 : decode prog_54_method_12_code 0 = .ok (.iload_n 0, 1) := by decide +kernel
theorem d1_1 : decode prog_54_method_12_code 1 = .ok (.bipush 97, 2) := by decide +kernel
theorem d1_3 : decode prog_54_method_12_code 3 = .ok (.if_icmp .lt 9, 3) := by decide +kernel
theorem d1_6 : decode prog_54_method_12_code 6 = .ok (.iload_n 0, 1) := by decide +kernel
theorem d1_7 : decode prog_54_method_12_code 7 = .ok (.bipush 122, 2) := by decide +kernel
theorem d1_9 : decode prog_54_method_12_code 9 = .ok (.if_icmp .le 15, 3) := by decide +kernel
theorem d1_12 : decode prog_54_method_12_code 12 = .ok (.iload_n 0, 1) := by decide +kernel
theorem d1_13 : decode prog_54_method_12_code 13 = .ok (.bipush 65, 2) := by decide +kernel
theorem d1_15 : decode prog_54_method_12_code 15 = .ok (.if_icmp .lt 13, 3) := by decide +kernel
theorem d1_18 : decode prog_54_method_12_code 18 = .ok (.iload_n 0, 1) := by decide +kernel
theorem d1_19 : decode prog_54_method_12_code 19 = .ok (.bipush 90, 2) := by decide +kernel
theorem d1_21 : decode prog_54_method_12_code 21 = .ok (.if_icmp .gt 7, 3) := by decide +kernel
theorem d1_24 : decode prog_54_method_12_code 24 = .ok (.iconst 1, 1) := by decide +kernel
theorem d1_25 : decode prog_54_method_12_code 25 = .ok (.goto 4, 3) := by decide +kernel
theorem d1_28 : decode prog_54_method_12_code 28 = .ok (.iconst 0, 1) := by decide +kernel
theorem d1_29 : decode prog_54_method_12_code 29 = .ok (.ireturn, 1) := by decide +kernel
theorem pn_0 : plainName "com/example/formula_search/formulasearch/latex/LatexTokens" = true := by first | (simp [plainName, overriddenIn]; done) | decide +kernel
theorem ef_rm1 (m : MethodId) (x0 : Int32) : entryFrame m #[(.int x0)] 1 = mkF m 0 #[.val (.int x0)] [] := by first | (simp [entryFrame, mkF, argsToLocals, Value.category]; done) | rfl
def Q_rm1 (cA : Int32) (h0 : Heap) (n0 : Nat) (v : Option Value) (h : Heap) (L : List Loc) : Prop := v = some (.int (own_isL cA)) ∧ Fr n0 L ∧ h = h0
set_option maxRecDepth 65536 in
set_option maxHeartbeats 40000000 in
theorem rm1 (l : Launch) (Z : State) (a0 : Array Value) (hw : ∀ d ∈ tables_1, d.before a0 Z = true) (ws : List Jvm.Cond) (cA : Int32)  (h0 : Heap) (n0 : Nat) (Z0 : n0 ≤ h0.size)  :
    MetFree l (⟨"com/example/formula_search/formulasearch/latex/LatexTokens", "isLetter", "(C)Z"⟩ : MethodName) (head1 (Jvm.Cond.code (⟨"com/example/formula_search/formulasearch/latex/LatexTokens", "isLetter", "(C)Z"⟩ : MethodName) prog_54_method_12_code 1 (some .boolean) :: ws) ({ frames := 0, cells := 0, slots := 0, locals := 0 } : Room)) (fun a U => a = #[(.int cA)] ∧ Z.Warmed39 U.vm ∧ U.heap = h0) (fun _ _ _ _ _ => True) (fun _ U o U' => ∃ v L, o = .returned v ∧ Q_rm1 cA h0 n0 v U'.heap L ∧ FrameEnd U o U' L ({ frames := 0, cells := 0, slots := 0, locals := 0 } : Room).cells ({ frames := 0, cells := 0, slots := 0, locals := 0 } : Room).slots) := by
  refine MetFree.of_bodySF (plainFor_of_name pn_0) hisR ?_
  intro p e s m args below meth c s₁ Bd hml0 hP hK
  obtain ⟨rfl, hZ, hh⟩ := hP
  have hx := Bd.exec
  have hby := Bd.bytes
  have hml : c.maxLocals = 1 := hml0
  have hown : s.vm.findClass "com/example/formula_search/formulasearch/latex/LatexTokens" = some m.cls := findClass_of_methodNamed Bd.named
  have hnm := (name_of_methodNamed Bd.named Bd.method).1
  have X0 : Stand p l e ({ frames := 0, cells := 0, slots := 0, locals := 0 } : Room) s m #[(.int cA)] below meth c s₁ [] 0 0 := Stand.of_body Bd
  have e0 : s₁.heap = h0 := by rw [← hh, Bd.state]; rfl
  have N0 := Fr.nil n0
  let PO : Outcome → State → Prop := own_PO s (Q_rm1 cA h0 n0) 0 0
  show own_Go p e below PO (s₁.setTop (entryFrame m #[(.int cA)] 1))
  rw [ef_rm1]
  show own_Go p e below PO (s₁.setTop (mkF m 0 #[.val (.int cA)] []))
  refine own_back ?_ (fun t k => XS.iloadN X0.here hx rfl (hb hby d1_0) rfl k)
  show own_Go p e below PO (s₁.setTop (mkF m 1 #[.val (.int cA)] [(.int cA)]))
  refine own_back ?_ (fun t k => XS.bipush X0.here hx rfl (hb hby d1_1) k)
  show own_Go p e below PO (s₁.setTop (mkF m 3 #[.val (.int cA)] [(.int (97 : Int32)), (.int cA)]))
  by_cases hc3_1 : cA < (97 : Int32)
  case pos =>
    refine own_back ?_ (fun t k => XS.icmpYes X0.here hx rfl (pc0 := 3) (pc' := 12) rfl (hb hby d1_3) rfl (tlt hc3_1).1 (by decide) (by decide) k)
    show own_Go p e below PO (s₁.setTop (mkF m 12 #[.val (.int cA)] []))
    refine own_back ?_ (fun t k => XS.iloadN X0.here hx rfl (hb hby d1_12) rfl k)
    show own_Go p e below PO (s₁.setTop (mkF m 13 #[.val (.int cA)] [(.int cA)]))
    refine own_back ?_ (fun t k => XS.bipush X0.here hx rfl (hb hby d1_13) k)
    show own_Go p e below PO (s₁.setTop (mkF m 15 #[.val (.int cA)] [(.int (65 : Int32)), (.int cA)]))
    by_cases hc15_2 : cA < (65 : Int32)
    case pos =>
      refine own_back ?_ (fun t k => XS.icmpYes X0.here hx rfl (pc0 := 15) (pc' := 28) rfl (hb hby d1_15) rfl (tlt hc15_2).1 (by decide) (by decide) k)
      show own_Go p e below PO (s₁.setTop (mkF m 28 #[.val (.int cA)] []))
      refine own_back ?_ (fun t k => XS.iconst X0.here hx rfl (hb hby d1_28) k)
      show own_Go p e below PO (s₁.setTop (mkF m 29 #[.val (.int cA)] [(.int (0 : Int32))]))
      refine own_retN X0 hx (t := .boolean) (rest := []) Bd.returns (by decide) (by simp) (hb hby d1_29) e0 (Bd.notSynchronized) ?_ (by decide) (by decide)
      exact ⟨by simp [own_isL, own_up, hc3_1, hc15_2], N0, rfl⟩
    refine own_back ?_ (fun t k => XS.icmpNo X0.here hx rfl (hb hby d1_15) rfl (flt hc15_2).1 k)
    show own_Go p e below PO (s₁.setTop (mkF m 18 #[.val (.int cA)] []))
    refine own_back ?_ (fun t k => XS.iloadN X0.here hx rfl (hb hby d1_18) rfl k)
    show own_Go p e below PO (s₁.setTop (mkF m 19 #[.val (.int cA)] [(.int cA)]))
    refine own_back ?_ (fun t k => XS.bipush X0.here hx rfl (hb hby d1_19) k)
    show own_Go p e below PO (s₁.setTop (mkF m 21 #[.val (.int cA)] [(.int (90 : Int32)), (.int cA)]))
    by_cases hc21_3 : (90 : Int32) < cA
    case pos =>
      refine own_back ?_ (fun t k => XS.icmpYes X0.here hx rfl (pc0 := 21) (pc' := 28) rfl (hb hby d1_21) rfl (tlt hc21_3).2.2.1 (by decide) (by decide) k)
      show own_Go p e below PO (s₁.setTop (mkF m 28 #[.val (.int cA)] []))
      refine own_back ?_ (fun t k => XS.iconst X0.here hx rfl (hb hby d1_28) k)
      show own_Go p e below PO (s₁.setTop (mkF m 29 #[.val (.int cA)] [(.int (0 : Int32))]))
      refine own_retN X0 hx (t := .boolean) (rest := []) Bd.returns (by decide) (by simp) (hb hby d1_29) e0 (Bd.notSynchronized) ?_ (by decide) (by decide)
      exact ⟨by simp [own_isL, own_up, hc3_1, hc15_2, hc21_3], N0, rfl⟩
    refine own_back ?_ (fun t k => XS.icmpNo X0.here hx rfl (hb hby d1_21) rfl (flt hc21_3).2.2.1 k)
    show own_Go p e below PO (s₁.setTop (mkF m 24 #[.val (.int cA)] []))
    refine own_back ?_ (fun t k => XS.iconst X0.here hx rfl (hb hby d1_24) k)
    show own_Go p e below PO (s₁.setTop (mkF m 25 #[.val (.int cA)] [(.int (1 : Int32))]))
    refine own_back ?_ (fun t k => XS.goto X0.here hx rfl (pc0 := 25) (pc' := 29) rfl (hb hby d1_25) (by decide) (by decide) k)
    show own_Go p e below PO (s₁.setTop (mkF m 29 #[.val (.int cA)] [(.int (1 : Int32))]))
    refine own_retN X0 hx (t := .boolean) (rest := []) Bd.returns (by decide) (by simp) (hb hby d1_29) e0 (Bd.notSynchronized) ?_ (by decide) (by decide)
    exact ⟨by simp [own_isL, own_up, hc3_1, hc15_2, hc21_3], N0, rfl⟩
  refine own_back ?_ (fun t k => XS.icmpNo X0.here hx rfl (hb hby d1_3) rfl (flt hc3_1).1 k)
  show own_Go p e below PO (s₁.setTop (mkF m 6 #[.val (.int cA)] []))
  refine own_back ?_ (fun t k => XS.iloadN X0.here hx rfl (hb hby d1_6) rfl k)
  show own_Go p e below PO (s₁.setTop (mkF m 7 #[.val (.int cA)] [(.int cA)]))
  refine own_back ?_ (fun t k => XS.bipush X0.here hx rfl (hb hby d1_7) k)
  show own_Go p e below PO (s₁.setTop (mkF m 9 #[.val (.int cA)] [(.int (122 : Int32)), (.int cA)]))
  by_cases hc9_4 : (122 : Int32) < cA
  case pos =>
    refine own_back ?_ (fun t k => XS.icmpNo X0.here hx rfl (hb hby d1_9) rfl (tlt hc9_4).2.2.2 k)
    show own_Go p e below PO (s₁.setTop (mkF m 12 #[.val (.int cA)] []))
    refine own_back ?_ (fun t k => XS.iloadN X0.here hx rfl (hb hby d1_12) rfl k)
    show own_Go p e below PO (s₁.setTop (mkF m 13 #[.val (.int cA)] [(.int cA)]))
    refine own_back ?_ (fun t k => XS.bipush X0.here hx rfl (hb hby d1_13) k)
    show own_Go p e below PO (s₁.setTop (mkF m 15 #[.val (.int cA)] [(.int (65 : Int32)), (.int cA)]))
    by_cases hc15_5 : cA < (65 : Int32)
    case pos =>
      refine own_back ?_ (fun t k => XS.icmpYes X0.here hx rfl (pc0 := 15) (pc' := 28) rfl (hb hby d1_15) rfl (tlt hc15_5).1 (by decide) (by decide) k)
      show own_Go p e below PO (s₁.setTop (mkF m 28 #[.val (.int cA)] []))
      refine own_back ?_ (fun t k => XS.iconst X0.here hx rfl (hb hby d1_28) k)
      show own_Go p e below PO (s₁.setTop (mkF m 29 #[.val (.int cA)] [(.int (0 : Int32))]))
      refine own_retN X0 hx (t := .boolean) (rest := []) Bd.returns (by decide) (by simp) (hb hby d1_29) e0 (Bd.notSynchronized) ?_ (by decide) (by decide)
      exact ⟨by simp [own_isL, own_up, hc3_1, hc9_4, hc15_5], N0, rfl⟩
    refine own_back ?_ (fun t k => XS.icmpNo X0.here hx rfl (hb hby d1_15) rfl (flt hc15_5).1 k)
    show own_Go p e below PO (s₁.setTop (mkF m 18 #[.val (.int cA)] []))
    refine own_back ?_ (fun t k => XS.iloadN X0.here hx rfl (hb hby d1_18) rfl k)
    show own_Go p e below PO (s₁.setTop (mkF m 19 #[.val (.int cA)] [(.int cA)]))
    refine own_back ?_ (fun t k => XS.bipush X0.here hx rfl (hb hby d1_19) k)
    show own_Go p e below PO (s₁.setTop (mkF m 21 #[.val (.int cA)] [(.int (90 : Int32)), (.int cA)]))
    by_cases hc21_6 : (90 : Int32) < cA
    case pos =>
      refine own_back ?_ (fun t k => XS.icmpYes X0.here hx rfl (pc0 := 21) (pc' := 28) rfl (hb hby d1_21) rfl (tlt hc21_6).2.2.1 (by decide) (by decide) k)
      show own_Go p e below PO (s₁.setTop (mkF m 28 #[.val (.int cA)] []))
      refine own_back ?_ (fun t k => XS.iconst X0.here hx rfl (hb hby d1_28) k)
      show own_Go p e below PO (s₁.setTop (mkF m 29 #[.val (.int cA)] [(.int (0 : Int32))]))
      refine own_retN X0 hx (t := .boolean) (rest := []) Bd.returns (by decide) (by simp) (hb hby d1_29) e0 (Bd.notSynchronized) ?_ (by decide) (by decide)
      exact ⟨by simp [own_isL, own_up, hc3_1, hc9_4, hc15_5, hc21_6], N0, rfl⟩
    refine own_back ?_ (fun t k => XS.icmpNo X0.here hx rfl (hb hby d1_21) rfl (flt hc21_6).2.2.1 k)
    show own_Go p e below PO (s₁.setTop (mkF m 24 #[.val (.int cA)] []))
    refine own_back ?_ (fun t k => XS.iconst X0.here hx rfl (hb hby d1_24) k)
    show own_Go p e below PO (s₁.setTop (mkF m 25 #[.val (.int cA)] [(.int (1 : Int32))]))
    refine own_back ?_ (fun t k => XS.goto X0.here hx rfl (pc0 := 25) (pc' := 29) rfl (hb hby d1_25) (by decide) (by decide) k)
    show own_Go p e below PO (s₁.setTop (mkF m 29 #[.val (.int cA)] [(.int (1 : Int32))]))
    refine own_retN X0 hx (t := .boolean) (rest := []) Bd.returns (by decide) (by simp) (hb hby d1_29) e0 (Bd.notSynchronized) ?_ (by decide) (by decide)
    exact ⟨by simp [own_isL, own_up, hc3_1, hc9_4, hc15_5, hc21_6], N0, rfl⟩
  refine own_back ?_ (fun t k => XS.icmpYes X0.here hx rfl (pc0 := 9) (pc' := 24) rfl (hb hby d1_9) rfl (flt hc9_4).2.2.2 (by decide) (by decide) k)
  show own_Go p e below PO (s₁.setTop (mkF m 24 #[.val (.int cA)] []))
  refine own_back ?_ (fun t k => XS.iconst X0.here hx rfl (hb hby d1_24) k)
  show own_Go p e below PO (s₁.setTop (mkF m 25 #[.val (.int cA)] [(.int (1 : Int32))]))
  refine own_back ?_ (fun t k => XS.goto X0.here hx rfl (pc0 := 25) (pc' := 29) rfl (hb hby d1_25) (by decide) (by decide) k)
  show own_Go p e below PO (s₁.setTop (mkF m 29 #[.val (.int cA)] [(.int (1 : Int32))]))
  refine own_retN X0 hx (t := .boolean) (rest := []) Bd.returns (by decide) (by simp) (hb hby d1_29) e0 (Bd.notSynchronized) ?_ (by decide) (by decide)
  exact ⟨by simp [own_isL, own_up, hc3_1, hc9_4], N0, rfl⟩
theorem pd_0 : parseMethodDescriptor "(C)Z" = some ⟨[.char], some .boolean⟩ := by decide +kernel
theorem pn_1 : plainName "com/example/formula_search/formulasearch/latex/LatexTokensIsLetterPinLaw" = true := by first | (simp [plainName, overriddenIn]; done) | decide +kernel
theorem ef_rm0 (m : MethodId) (x0 : Int32) : entryFrame m #[(.int x0)] maxLocals = mkF m 0 #[.val (.int x0), .unset, .unset, .unset] [] := by first | (simp [entryFrame, mkF, argsToLocals, Value.category, maxLocals]; done) | rfl
def Q_rm0 (n0 : Nat) (v : Option Value) (h : Heap) (L : List Loc) : Prop := v = some (.int 1) ∧ Fr n0 L
set_option maxRecDepth 65536 in
set_option maxHeartbeats 40000000 in
theorem rm0 (l : Launch) (Z : State) (a0 : Array Value) (hw : ∀ d ∈ tables_1, d.before a0 Z = true) (ws : List Jvm.Cond) (pA : Int32)  (h0 : Heap) (n0 : Nat) (Z0 : n0 ≤ h0.size)  :
    MetFree l x (head1 (Jvm.Cond.code x code maxLocals ret :: ws) room_1) (fun a U => a = #[(.int pA)] ∧ Z.Warmed39 U.vm ∧ U.heap = h0) (fun _ _ _ _ _ => True) (fun _ U o U' => ∃ v L, o = .returned v ∧ Q_rm0 n0 v U'.heap L ∧ FrameEnd U o U' L room_1.cells room_1.slots) := by
  refine MetFree.of_bodySF (plainFor_of_name pn_1) hisR ?_
  intro p e s m args below meth c s₁ Bd hml0 hP hK
  obtain ⟨rfl, hZ, hh⟩ := hP
  have hx := Bd.exec
  have hby := Bd.bytes
  have hml : c.maxLocals = 4 := hml0
  have hown : s.vm.findClass "com/example/formula_search/formulasearch/latex/LatexTokensIsLetterPinLaw" = some m.cls := findClass_of_methodNamed Bd.named
  have hnm := (name_of_methodNamed Bd.named Bd.method).1
  have X0 : Stand p l e room_1 s m #[(.int pA)] below meth c s₁ [] 0 0 := Stand.of_body Bd
  have e0 : s₁.heap = h0 := by rw [← hh, Bd.state]; rfl
  have N0 := Fr.nil n0
  let PO : Outcome → State → Prop := own_PO s (Q_rm0 n0) 0 0
  show own_Go p e below PO (s₁.setTop (entryFrame m #[(.int pA)] maxLocals))
  rw [ef_rm0]
  show own_Go p e below PO (s₁.setTop (mkF m 0 #[.val (.int pA), .unset, .unset, .unset] []))
  refine own_back ?_ (fun t k => XS.iloadN X0.here hx rfl (hb hby at_0) rfl k)
  show own_Go p e below PO (s₁.setTop (mkF m 1 #[.val (.int pA), .unset, .unset, .unset] [(.int pA)]))
  refine own_back ?_ (fun t k => X0.ldcInt hx hown (mvT hZ (hw _ (List.mem_of_getElem? (i := 0) rfl))) (g := (mkF m 1 #[.val (.int pA), .unset, .unset, .unset] [(.int pA)])) rfl (hb hby at_1) _ k)
  show own_Go p e below PO (s₁.setTop (mkF m 3 #[.val (.int pA), .unset, .unset, .unset] [(.int (65535 : Int32)), (.int pA)]))
  refine own_back ?_ (fun t k => XS.iand X0.here hx rfl (hb hby at_3) rfl k)
  show own_Go p e below PO (s₁.setTop (mkF m 4 #[.val (.int pA), .unset, .unset, .unset] [(.int (pA &&& (65535 : Int32)))]))
  refine own_back ?_ (fun t k => XS.i2c X0.here hx rfl (hb hby at_4) rfl k)
  show own_Go p e below PO (s₁.setTop (mkF m 5 #[.val (.int pA), .unset, .unset, .unset] [(.int ((pA &&& (65535 : Int32)).toUInt32.toUInt16.toUInt32.toInt32))]))
  refine own_back ?_ (fun t k => XS.istoreN X0.here hx rfl (hb hby at_5) rfl (l' := #[.val (.int pA), .val (.int ((pA &&& (65535 : Int32)).toUInt32.toUInt16.toUInt32.toInt32)), .unset, .unset]) rfl k)
  show own_Go p e below PO (s₁.setTop (mkF m 6 #[.val (.int pA), .val (.int ((pA &&& (65535 : Int32)).toUInt32.toUInt16.toUInt32.toInt32)), .unset, .unset] []))
  refine own_gen (A := Int32) ((pA &&& (65535 : Int32)).toUInt32.toUInt16.toUInt32.toInt32) (fun v1_1 => own_Go p e below PO (s₁.setTop (mkF m 6 #[.val (.int pA), .val (.int v1_1), .unset, .unset] []))) ?_
  intro v1_1 h_v1_1
  show own_Go p e below PO (s₁.setTop (mkF m 6 #[.val (.int pA), .val (.int v1_1), .unset, .unset] []))
  refine own_back ?_ (fun t k => XS.iloadN X0.here hx rfl (hb hby at_6) rfl k)
  show own_Go p e below PO (s₁.setTop (mkF m 7 #[.val (.int pA), .val (.int v1_1), .unset, .unset] [(.int v1_1)]))
  refine own_back ?_ (fun t k => XS.bipush X0.here hx rfl (hb hby at_7) k)
  show own_Go p e below PO (s₁.setTop (mkF m 9 #[.val (.int pA), .val (.int v1_1), .unset, .unset] [(.int (32 : Int32)), (.int v1_1)]))
  refine own_back ?_ (fun t k => XS.ior X0.here hx rfl (hb hby at_9) rfl k)
  show own_Go p e below PO (s₁.setTop (mkF m 10 #[.val (.int pA), .val (.int v1_1), .unset, .unset] [(.int (v1_1 ||| (32 : Int32)))]))
  refine own_back ?_ (fun t k => XS.istoreN X0.here hx rfl (hb hby at_10) rfl (l' := #[.val (.int pA), .val (.int v1_1), .val (.int (v1_1 ||| (32 : Int32))), .unset]) rfl k)
  show own_Go p e below PO (s₁.setTop (mkF m 11 #[.val (.int pA), .val (.int v1_1), .val (.int (v1_1 ||| (32 : Int32))), .unset] []))
  refine own_gen (A := Int32) (v1_1 ||| (32 : Int32)) (fun v2_2 => own_Go p e below PO (s₁.setTop (mkF m 11 #[.val (.int pA), .val (.int v1_1), .val (.int v2_2), .unset] []))) ?_
  intro v2_2 h_v2_2
  show own_Go p e below PO (s₁.setTop (mkF m 11 #[.val (.int pA), .val (.int v1_1), .val (.int v2_2), .unset] []))
  refine own_back ?_ (fun t k => XS.iloadN X0.here hx rfl (hb hby at_11) rfl k)
  show own_Go p e below PO (s₁.setTop (mkF m 12 #[.val (.int pA), .val (.int v1_1), .val (.int v2_2), .unset] [(.int v2_2)]))
  refine own_back ?_ (fun t k => XS.bipush X0.here hx rfl (hb hby at_12) k)
  show own_Go p e below PO (s₁.setTop (mkF m 14 #[.val (.int pA), .val (.int v1_1), .val (.int v2_2), .unset] [(.int (97 : Int32)), (.int v2_2)]))
  by_cases hc14_3 : v2_2 < (97 : Int32)
  case pos =>
    refine own_back ?_ (fun t k => XS.icmpYes X0.here hx rfl (pc0 := 14) (pc' := 27) rfl (hb hby at_14) rfl (tlt hc14_3).1 (by decide) (by decide) k)
    show own_Go p e below PO (s₁.setTop (mkF m 27 #[.val (.int pA), .val (.int v1_1), .val (.int v2_2), .unset] []))
    refine own_back ?_ (fun t k => XS.iconst X0.here hx rfl (hb hby at_27) k)
    show own_Go p e below PO (s₁.setTop (mkF m 28 #[.val (.int pA), .val (.int v1_1), .val (.int v2_2), .unset] [(.int (0 : Int32))]))
    refine own_back ?_ (fun t k => XS.istoreN X0.here hx rfl (hb hby at_28) rfl (l' := #[.val (.int pA), .val (.int v1_1), .val (.int v2_2), .val (.int (0 : Int32))]) rfl k)
    show own_Go p e below PO (s₁.setTop (mkF m 29 #[.val (.int pA), .val (.int v1_1), .val (.int v2_2), .val (.int (0 : Int32))] []))
    refine own_back ?_ (fun t k => XS.iloadN X0.here hx rfl (hb hby at_29) rfl k)
    show own_Go p e below PO (s₁.setTop (mkF m 30 #[.val (.int pA), .val (.int v1_1), .val (.int v2_2), .val (.int (0 : Int32))] [(.int v1_1)]))
    obtain ⟨_, _, ⟨T4, L4, k4, n4⟩, -, X4, ⟨Lc4, hQ4, l4, y4, z4⟩, st4⟩ := Jvm.LawKit.callS X0 hx (y := (⟨"com/example/formula_search/formulasearch/latex/LatexTokens", "isLetter", "(C)Z"⟩ : MethodName)) hown (mvT hZ (hw _ (List.mem_of_getElem? (i := 1) rfl))) (mvT hZ (hw _ (List.mem_of_getElem? (i := 2) rfl))) (mvT hZ (hw _ (List.mem_of_getElem? (i := 3) rfl))) (mvT hZ (hw _ (List.mem_of_getElem? (i := 4) rfl))) (by decide) (backOf (W := 0) (rm1 l Z a0 hw [] v1_1  h0 n0 Z0 ) hZ (hw _ (List.mem_of_getElem? (i := 4) rfl)) (hw _ (List.mem_of_getElem? (i := 3) rfl)) (by decide) (by decide)) (g := (mkF m 30 #[.val (.int pA), .val (.int v1_1), .val (.int v2_2), .val (.int (0 : Int32))] [(.int v1_1)])) rfl (by rw [hml]; rfl) (argsL := [(.int v1_1)]) (rest := []) (lenOf pd_0 rfl) rfl (by show 2 * 0 + _ ≤ _; exact Nat.le_of_eq rfl) (hb hby at_30) (fun _ _ => ⟨rfl, e0, (by decide : 0 + 0 ≤ _), (by decide : 0 + 0 ≤ _)⟩)
    dsimp only [Pt.U, Pt.locs, Pt.cells, Pt.slots] at X4 l4 y4 z4 st4 hQ4
    subst l4 y4 z4
    obtain ⟨rfl, N4q, e4⟩ := hQ4
    have N4 := Fr.app N0 N4q
    refine own_back ?_ st4
    show own_Go p e below PO (T4.setTop (mkF m 33 #[.val (.int pA), .val (.int v1_1), .val (.int v2_2), .val (.int (0 : Int32))] [(.int (own_isL v1_1))]))
    refine own_gen (A := Int32) (own_isL v1_1) (fun r30_5 => own_Go p e below PO (T4.setTop (mkF m 33 #[.val (.int pA), .val (.int v1_1), .val (.int v2_2), .val (.int (0 : Int32))] [(.int r30_5)]))) ?_
    intro r30_5 h_r30_5
    show own_Go p e below PO (T4.setTop (mkF m 33 #[.val (.int pA), .val (.int v1_1), .val (.int v2_2), .val (.int (0 : Int32))] [(.int r30_5)]))
    refine own_back ?_ (fun t k => XS.iloadN X4.here hx rfl (hb hby at_33) rfl k)
    show own_Go p e below PO (T4.setTop (mkF m 34 #[.val (.int pA), .val (.int v1_1), .val (.int v2_2), .val (.int (0 : Int32))] [(.int (0 : Int32)), (.int r30_5)]))
    have hd34_6 : r30_5 = (0 : Int32) := by rw [h_r30_5, own_all (by rw [h_v1_1]; exact (c_i2c _).2.1)]; subst h_v2_2; simp only [own_fold, hc14_3, if_true, if_false]
    refine own_back ?_ (fun t k => XS.icmpNo X4.here hx rfl (hb hby at_34) rfl (teq hd34_6).2 k)
    show own_Go p e below PO (T4.setTop (mkF m 37 #[.val (.int pA), .val (.int v1_1), .val (.int v2_2), .val (.int (0 : Int32))] []))
    refine own_back ?_ (fun t k => XS.iconst X4.here hx rfl (hb hby at_37) k)
    show own_Go p e below PO (T4.setTop (mkF m 38 #[.val (.int pA), .val (.int v1_1), .val (.int v2_2), .val (.int (0 : Int32))] [(.int (1 : Int32))]))
    refine own_back ?_ (fun t k => XS.goto X4.here hx rfl (pc0 := 38) (pc' := 42) rfl (hb hby at_38) (by decide) (by decide) k)
    show own_Go p e below PO (T4.setTop (mkF m 42 #[.val (.int pA), .val (.int v1_1), .val (.int v2_2), .val (.int (0 : Int32))] [(.int (1 : Int32))]))
    refine own_retN X4 hx (t := .boolean) (rest := []) Bd.returns (by decide) (by simp) (hb hby at_42) e4 (Bd.notSynchronized) ?_ (by decide) (by decide)
    exact ⟨rfl, N4⟩
  refine own_back ?_ (fun t k => XS.icmpNo X0.here hx rfl (hb hby at_14) rfl (flt hc14_3).1 k)
  show own_Go p e below PO (s₁.setTop (mkF m 17 #[.val (.int pA), .val (.int v1_1), .val (.int v2_2), .unset] []))
  refine own_back ?_ (fun t k => XS.iloadN X0.here hx rfl (hb hby at_17) rfl k)
  show own_Go p e below PO (s₁.setTop (mkF m 18 #[.val (.int pA), .val (.int v1_1), .val (.int v2_2), .unset] [(.int v2_2)]))
  refine own_back ?_ (fun t k => XS.bipush X0.here hx rfl (hb hby at_18) k)
  show own_Go p e below PO (s₁.setTop (mkF m 20 #[.val (.int pA), .val (.int v1_1), .val (.int v2_2), .unset] [(.int (122 : Int32)), (.int v2_2)]))
  by_cases hc20_7 : (122 : Int32) < v2_2
  case pos =>
    refine own_back ?_ (fun t k => XS.icmpYes X0.here hx rfl (pc0 := 20) (pc' := 27) rfl (hb hby at_20) rfl (tlt hc20_7).2.2.1 (by decide) (by decide) k)
    show own_Go p e below PO (s₁.setTop (mkF m 27 #[.val (.int pA), .val (.int v1_1), .val (.int v2_2), .unset] []))
    refine own_back ?_ (fun t k => XS.iconst X0.here hx rfl (hb hby at_27) k)
    show own_Go p e below PO (s₁.setTop (mkF m 28 #[.val (.int pA), .val (.int v1_1), .val (.int v2_2), .unset] [(.int (0 : Int32))]))
    refine own_back ?_ (fun t k => XS.istoreN X0.here hx rfl (hb hby at_28) rfl (l' := #[.val (.int pA), .val (.int v1_1), .val (.int v2_2), .val (.int (0 : Int32))]) rfl k)
    show own_Go p e below PO (s₁.setTop (mkF m 29 #[.val (.int pA), .val (.int v1_1), .val (.int v2_2), .val (.int (0 : Int32))] []))
    refine own_back ?_ (fun t k => XS.iloadN X0.here hx rfl (hb hby at_29) rfl k)
    show own_Go p e below PO (s₁.setTop (mkF m 30 #[.val (.int pA), .val (.int v1_1), .val (.int v2_2), .val (.int (0 : Int32))] [(.int v1_1)]))
    obtain ⟨_, _, ⟨T8, L8, k8, n8⟩, -, X8, ⟨Lc8, hQ8, l8, y8, z8⟩, st8⟩ := Jvm.LawKit.callS X0 hx (y := (⟨"com/example/formula_search/formulasearch/latex/LatexTokens", "isLetter", "(C)Z"⟩ : MethodName)) hown (mvT hZ (hw _ (List.mem_of_getElem? (i := 1) rfl))) (mvT hZ (hw _ (List.mem_of_getElem? (i := 2) rfl))) (mvT hZ (hw _ (List.mem_of_getElem? (i := 3) rfl))) (mvT hZ (hw _ (List.mem_of_getElem? (i := 4) rfl))) (by decide) (backOf (W := 0) (rm1 l Z a0 hw [] v1_1  h0 n0 Z0 ) hZ (hw _ (List.mem_of_getElem? (i := 4) rfl)) (hw _ (List.mem_of_getElem? (i := 3) rfl)) (by decide) (by decide)) (g := (mkF m 30 #[.val (.int pA), .val (.int v1_1), .val (.int v2_2), .val (.int (0 : Int32))] [(.int v1_1)])) rfl (by rw [hml]; rfl) (argsL := [(.int v1_1)]) (rest := []) (lenOf pd_0 rfl) rfl (by show 2 * 0 + _ ≤ _; exact Nat.le_of_eq rfl) (hb hby at_30) (fun _ _ => ⟨rfl, e0, (by decide : 0 + 0 ≤ _), (by decide : 0 + 0 ≤ _)⟩)
    dsimp only [Pt.U, Pt.locs, Pt.cells, Pt.slots] at X8 l8 y8 z8 st8 hQ8
    subst l8 y8 z8
    obtain ⟨rfl, N8q, e8⟩ := hQ8
    have N8 := Fr.app N0 N8q
    refine own_back ?_ st8
    show own_Go p e below PO (T8.setTop (mkF m 33 #[.val (.int pA), .val (.int v1_1), .val (.int v2_2), .val (.int (0 : Int32))] [(.int (own_isL v1_1))]))
    refine own_gen (A := Int32) (own_isL v1_1) (fun r30_9 => own_Go p e below PO (T8.setTop (mkF m 33 #[.val (.int pA), .val (.int v1_1), .val (.int v2_2), .val (.int (0 : Int32))] [(.int r30_9)]))) ?_
    intro r30_9 h_r30_9
    show own_Go p e below PO (T8.setTop (mkF m 33 #[.val (.int pA), .val (.int v1_1), .val (.int v2_2), .val (.int (0 : Int32))] [(.int r30_9)]))
    refine own_back ?_ (fun t k => XS.iloadN X8.here hx rfl (hb hby at_33) rfl k)
    show own_Go p e below PO (T8.setTop (mkF m 34 #[.val (.int pA), .val (.int v1_1), .val (.int v2_2), .val (.int (0 : Int32))] [(.int (0 : Int32)), (.int r30_9)]))
    have hd34_10 : r30_9 = (0 : Int32) := by rw [h_r30_9, own_all (by rw [h_v1_1]; exact (c_i2c _).2.1)]; subst h_v2_2; simp only [own_fold, hc14_3, hc20_7, if_true, if_false]
    refine own_back ?_ (fun t k => XS.icmpNo X8.here hx rfl (hb hby at_34) rfl (teq hd34_10).2 k)
    show own_Go p e below PO (T8.setTop (mkF m 37 #[.val (.int pA), .val (.int v1_1), .val (.int v2_2), .val (.int (0 : Int32))] []))
    refine own_back ?_ (fun t k => XS.iconst X8.here hx rfl (hb hby at_37) k)
    show own_Go p e below PO (T8.setTop (mkF m 38 #[.val (.int pA), .val (.int v1_1), .val (.int v2_2), .val (.int (0 : Int32))] [(.int (1 : Int32))]))
    refine own_back ?_ (fun t k => XS.goto X8.here hx rfl (pc0 := 38) (pc' := 42) rfl (hb hby at_38) (by decide) (by decide) k)
    show own_Go p e below PO (T8.setTop (mkF m 42 #[.val (.int pA), .val (.int v1_1), .val (.int v2_2), .val (.int (0 : Int32))] [(.int (1 : Int32))]))
    refine own_retN X8 hx (t := .boolean) (rest := []) Bd.returns (by decide) (by simp) (hb hby at_42) e8 (Bd.notSynchronized) ?_ (by decide) (by decide)
    exact ⟨rfl, N8⟩
  refine own_back ?_ (fun t k => XS.icmpNo X0.here hx rfl (hb hby at_20) rfl (flt hc20_7).2.2.1 k)
  show own_Go p e below PO (s₁.setTop (mkF m 23 #[.val (.int pA), .val (.int v1_1), .val (.int v2_2), .unset] []))
  refine own_back ?_ (fun t k => XS.iconst X0.here hx rfl (hb hby at_23) k)
  show own_Go p e below PO (s₁.setTop (mkF m 24 #[.val (.int pA), .val (.int v1_1), .val (.int v2_2), .unset] [(.int (1 : Int32))]))
  refine own_back ?_ (fun t k => XS.goto X0.here hx rfl (pc0 := 24) (pc' := 28) rfl (hb hby at_24) (by decide) (by decide) k)
  show own_Go p e below PO (s₁.setTop (mkF m 28 #[.val (.int pA), .val (.int v1_1), .val (.int v2_2), .unset] [(.int (1 : Int32))]))
  refine own_back ?_ (fun t k => XS.istoreN X0.here hx rfl (hb hby at_28) rfl (l' := #[.val (.int pA), .val (.int v1_1), .val (.int v2_2), .val (.int (1 : Int32))]) rfl k)
  show own_Go p e below PO (s₁.setTop (mkF m 29 #[.val (.int pA), .val (.int v1_1), .val (.int v2_2), .val (.int (1 : Int32))] []))
  refine own_back ?_ (fun t k => XS.iloadN X0.here hx rfl (hb hby at_29) rfl k)
  show own_Go p e below PO (s₁.setTop (mkF m 30 #[.val (.int pA), .val (.int v1_1), .val (.int v2_2), .val (.int (1 : Int32))] [(.int v1_1)]))
  obtain ⟨_, _, ⟨T11, L11, k11, n11⟩, -, X11, ⟨Lc11, hQ11, l11, y11, z11⟩, st11⟩ := Jvm.LawKit.callS X0 hx (y := (⟨"com/example/formula_search/formulasearch/latex/LatexTokens", "isLetter", "(C)Z"⟩ : MethodName)) hown (mvT hZ (hw _ (List.mem_of_getElem? (i := 1) rfl))) (mvT hZ (hw _ (List.mem_of_getElem? (i := 2) rfl))) (mvT hZ (hw _ (List.mem_of_getElem? (i := 3) rfl))) (mvT hZ (hw _ (List.mem_of_getElem? (i := 4) rfl))) (by decide) (backOf (W := 0) (rm1 l Z a0 hw [] v1_1  h0 n0 Z0 ) hZ (hw _ (List.mem_of_getElem? (i := 4) rfl)) (hw _ (List.mem_of_getElem? (i := 3) rfl)) (by decide) (by decide)) (g := (mkF m 30 #[.val (.int pA), .val (.int v1_1), .val (.int v2_2), .val (.int (1 : Int32))] [(.int v1_1)])) rfl (by rw [hml]; rfl) (argsL := [(.int v1_1)]) (rest := []) (lenOf pd_0 rfl) rfl (by show 2 * 0 + _ ≤ _; exact Nat.le_of_eq rfl) (hb hby at_30) (fun _ _ => ⟨rfl, e0, (by decide : 0 + 0 ≤ _), (by decide : 0 + 0 ≤ _)⟩)
  dsimp only [Pt.U, Pt.locs, Pt.cells, Pt.slots] at X11 l11 y11 z11 st11 hQ11
  subst l11 y11 z11
  obtain ⟨rfl, N11q, e11⟩ := hQ11
  have N11 := Fr.app N0 N11q
  refine own_back ?_ st11
  show own_Go p e below PO (T11.setTop (mkF m 33 #[.val (.int pA), .val (.int v1_1), .val (.int v2_2), .val (.int (1 : Int32))] [(.int (own_isL v1_1))]))
  refine own_gen (A := Int32) (own_isL v1_1) (fun r30_12 => own_Go p e below PO (T11.setTop (mkF m 33 #[.val (.int pA), .val (.int v1_1), .val (.int v2_2), .val (.int (1 : Int32))] [(.int r30_12)]))) ?_
  intro r30_12 h_r30_12
  show own_Go p e below PO (T11.setTop (mkF m 33 #[.val (.int pA), .val (.int v1_1), .val (.int v2_2), .val (.int (1 : Int32))] [(.int r30_12)]))
  refine own_back ?_ (fun t k => XS.iloadN X11.here hx rfl (hb hby at_33) rfl k)
  show own_Go p e below PO (T11.setTop (mkF m 34 #[.val (.int pA), .val (.int v1_1), .val (.int v2_2), .val (.int (1 : Int32))] [(.int (1 : Int32)), (.int r30_12)]))
  have hd34_13 : r30_12 = (1 : Int32) := by rw [h_r30_12, own_all (by rw [h_v1_1]; exact (c_i2c _).2.1)]; subst h_v2_2; simp only [own_fold, hc14_3, hc20_7, if_true, if_false]
  refine own_back ?_ (fun t k => XS.icmpNo X11.here hx rfl (hb hby at_34) rfl (teq hd34_13).2 k)
  show own_Go p e below PO (T11.setTop (mkF m 37 #[.val (.int pA), .val (.int v1_1), .val (.int v2_2), .val (.int (1 : Int32))] []))
  refine own_back ?_ (fun t k => XS.iconst X11.here hx rfl (hb hby at_37) k)
  show own_Go p e below PO (T11.setTop (mkF m 38 #[.val (.int pA), .val (.int v1_1), .val (.int v2_2), .val (.int (1 : Int32))] [(.int (1 : Int32))]))
  refine own_back ?_ (fun t k => XS.goto X11.here hx rfl (pc0 := 38) (pc' := 42) rfl (hb hby at_38) (by decide) (by decide) k)
  show own_Go p e below PO (T11.setTop (mkF m 42 #[.val (.int pA), .val (.int v1_1), .val (.int v2_2), .val (.int (1 : Int32))] [(.int (1 : Int32))]))
  refine own_retN X11 hx (t := .boolean) (rest := []) Bd.returns (by decide) (by simp) (hb hby at_42) e11 (Bd.notSynchronized) ?_ (by decide) (by decide)
  exact ⟨rfl, N11⟩
set_option maxRecDepth 65536 in
set_option maxHeartbeats 40000000 in
theorem comes_1 {Post : Tables → Env → Array Value → State → Outcome → State → Prop} (hpost : ∀ tb e args s v u, (limb_1_1.after args s (.returned v) u = true ∧ limb_1_2.after args s (.returned v) u = true ∧ True) → FrameEnd s (.returned v) u (Jvm.fieldLocs frame_1_writes args s ++ Jvm.arrayLocs frame_1_arrays args s ++ Jvm.staticLocs frame_1_statics s) 0 0 → Post tb e args s (.returned v) u) :
    ArmFor flags0 classFile x code maxLocals ret World_1 tables_1 room_1 Calls_1 rest_1 Pre_1 Post := by
  intro l hfl _ _ p e ha hc hk s m args below hf hA hF happ hP
  obtain ⟨hcalls, hrest, hpre⟩ := hP
  obtain ⟨-, -, -, hnamed, -, -, -, hat⟩ := (Spec.applies_iff hf).mp happ
  obtain ⟨hg, hn⟩ := and_e (Cond.before_iff.mp (show (Jvm.Cond.and given_1 narrow_1).before args s = true from hpre))
  obtain ⟨gc, g0⟩ := and_e hg
  obtain ⟨w0, rfl⟩ : ∃ w0 : Value, args = #[w0] := by
    have hs : args.size = 1 := by simpa [Cond.value, given_1] using gc
    obtain ⟨L⟩ := args
    match L, hs with
    | [w0], _ => exact ⟨w0, rfl⟩
  have hw := fun d (hd : d ∈ tables_1) => atoms_spec (ws := Jvm.Cond.code x code maxLocals ret :: tables_1) hat d (List.mem_cons_of_mem _ hd)
  obtain ⟨i0, ei0⟩ := is_v g0
  obtain rfl : w0 = (.int i0) := Option.some.inj ei0
  obtain ⟨n, o, h1, h2, h3, _, L, rfl, ⟨rfl, N⟩, hq⟩ := rm0 l s _ hw tables_1 i0  s.heap s.heap.size (Nat.le_refl _)  p e ha hc hk s m _ below hf ((Spec.applies_iff_loose hf).mp happ).1 ⟨rfl, State.Warmed39.refl s, rfl⟩ trivial
  refine ⟨n, _, h1, h2, h3, hpost _ _ _ _ _ _ ⟨Cond.after_iff.mpr rfl, Cond.after_iff.mpr (eq_i res_at (Term.int_eval (1)) rfl), trivial⟩ ⟨hq.1, hq.2.1, (hq.2.2.sift fun y hy => Or.inr (N y hy)).mono (by decide) (by decide)⟩⟩
theorem main_1_1 : Claimed_1_1 := comes_1 fun _ _ _ _ _ _ h hF => ⟨h.1, hF⟩
theorem main_1_2 : Claimed_1_2 := comes_1 fun _ _ _ _ _ _ h hF => ⟨h.2.1, hF⟩
end Jvm.Pilot.@@N@@
namespace Jvm.Pilot.@@N@@
open Jvm Jvm.ClassFile Sem Op Lib Jvm.Free Jvm.Stand Jvm.Pilot.@@N@@.Jvm.D
/-! MADE BY PROGRAM (witnessworld.py) out of the Statement's table words and the real class files: 9 classes; the members and pool entries that the words name. The judged class is class 1, her method 1. -/
namespace start1
open Jvm.ClassFile
def u (s : String) : CpInfo := .utf8 (stringToUtf16 s)
/-- a pool by its gaps: so many unusable entries, then the entry; so many at the end -/
def gap : Nat → List CpInfo → List CpInfo
  | 0, r => r
  | n + 1, r => .unusable :: gap n r
def poolList (es : List (Nat × CpInfo)) (last : Nat) : List CpInfo := es.foldr (fun e r => gap e.1 (e.2 :: r)) (gap last [])
def pool (es : List (Nat × CpInfo)) (last : Nat) : Array CpInfo := ⟨poolList es last⟩
def fileOf (pool : Array CpInfo) (this : Nat) (attrs : Array Attribute := #[]) (ms : Array MethodInfo := #[]) (fl : Nat := 33) (sup : Nat := 0) (ifs : Array Nat := #[]) (fds : Array FieldInfo := #[]) : ClassFile where
  minorVersion := 0
  majorVersion := 65
  constantPool := pool
  accessFlags := fl
  thisClass := this
  superClass := sup
  interfaces := ifs
  fields := fds
  methods := ms
  attributes := attrs
def plain (name : String) (sup : Option ClassId) : Class where
  name := name
  kind := .ordinary
  loader := none
  accessFlags := 33
  super := sup
  interfaces := #[]
  cf := none
  fields := #[]
  methods := #[]
  instanceTypes := #[]
  staticTypes := #[]
  resolved := #[]
  callSites := []
  init := .initialized
  statics := none
  mirror := none

def pool0 : Array CpInfo := pool [(5, u "<init>"), (0, u "()V"), (1, .class_ 10), (1, u "java/lang/Object")] 113

def k0m0 : Method := { name := "<init>", desc := "()V", sig := { parameters := [], returnType := none }, accessFlags := 1, code := none }
/-- java/lang/Object -/
def k0 : Class := { plain "java/lang/Object" none with
  accessFlags := 33
  interfaces := #[]
  cf := some (fileOf pool0 8 #[] #[{ accessFlags := 1, nameIndex := 5, descriptorIndex := 6, attributes := #[] }] 33 0 #[] #[])
  fields := #[]
  methods := #[k0m0]
  instanceTypes := #[]
  staticTypes := #[]
  resolved := Array.replicate 124 none
  statics := none }

def pool1 : Array CpInfo := pool [(2, .class_ 4), (1, u "java/lang/Object"), (0, u "<init>"), (0, u "()V"), (0, .integer 65535), (0, .methodref 9 10), (0, .class_ 11), (0, .nameAndType 12 13), (0, u "com/example/formula_search/formulasearch/latex/LatexTokens"), (0, u "isLetter"), (0, u "(C)Z"), (0, .class_ 15), (0, u "com/example/formula_search/formulasearch/latex/LatexTokensIsLetterPinLaw"), (2, u "law"), (0, u "(I)Z")] 3

def k1m0 : Method := { name := "<init>", desc := "()V", sig := { parameters := [], returnType := none }, accessFlags := 2, code := none }
def k1c1 : Code := { maxStack := 2, maxLocals := 4, code := code, exceptionTable := #[], attributes := #[] }
def k1m1 : Method := { name := "law", desc := "(I)Z", sig := { parameters := [.int], returnType := some .boolean }, accessFlags := 9, code := some k1c1 }
/-- com/example/formula_search/formulasearch/latex/LatexTokensIsLetterPinLaw -/
def k1 : Class := { plain "com/example/formula_search/formulasearch/latex/LatexTokensIsLetterPinLaw" (some 0) with
  accessFlags := 49
  interfaces := #[]
  cf := some (fileOf pool1 14 #[] #[{ accessFlags := 2, nameIndex := 5, descriptorIndex := 6, attributes := #[] }, { accessFlags := 9, nameIndex := 18, descriptorIndex := 19, attributes := #[] }] 49 2 #[] #[])
  fields := #[]
  methods := #[k1m0, k1m1]
  instanceTypes := #[]
  staticTypes := #[]
  resolved := Array.replicate 23 none
  statics := none }

def pool2 : Array CpInfo := pool [(2, .class_ 4), (1, u "java/lang/Object"), (0, u "<init>"), (0, u "()V"), (0, .class_ 8), (0, u "com/example/formula_search/formulasearch/latex/LatexTokens$Tokens"), (10, .class_ 21), (1, u "com/example/formula_search/formulasearch/latex/LatexTokens"), (29, u "ASCII"), (0, u "[Ljava/lang/String;"), (11, u "isLetter"), (0, u "(C)Z"), (35, .class_ 102), (0, u "com/example/formula_search/formulasearch/latex/LatexTokens$Token")] 3

def k2m0 : Method := { name := "<init>", desc := "()V", sig := { parameters := [], returnType := none }, accessFlags := 2, code := none }
def k2c1 : Code := { maxStack := 2, maxLocals := 1, code := prog_54_method_12_code, exceptionTable := #[], attributes := #[] }
def k2m1 : Method := { name := "isLetter", desc := "(C)Z", sig := { parameters := [.char], returnType := some .boolean }, accessFlags := 8, code := some k2c1 }
/-- com/example/formula_search/formulasearch/latex/LatexTokens -/
def k2 : Class := { plain "com/example/formula_search/formulasearch/latex/LatexTokens" (some 0) with
  accessFlags := 49
  interfaces := #[]
  cf := some (fileOf pool2 19 #[.nestMembers #[7, 101]] #[{ accessFlags := 2, nameIndex := 5, descriptorIndex := 6, attributes := #[] }, { accessFlags := 8, nameIndex := 64, descriptorIndex := 65, attributes := #[] }] 49 2 #[] #[{ accessFlags := 26, nameIndex := 51, descriptorIndex := 52, attributes := #[] }])
  fields := #[{ name := "ASCII", type := (.array (.object "java/lang/String")), accessFlags := 26, slot := 0, constantValue := 0 }]
  methods := #[k2m0, k2m1]
  instanceTypes := #[]
  staticTypes := #[(.array (.object "java/lang/String"))]
  resolved := Array.replicate 106 none
  statics := none }

def pool3 : Array CpInfo := pool [(1, u "java/lang/Cloneable"), (0, .class_ 1), (0, u "java/lang/Object"), (0, .class_ 3)] 3

/-- java/lang/Cloneable -/
def k3 : Class := { plain "java/lang/Cloneable" (some 0) with
  accessFlags := 1537
  interfaces := #[]
  cf := some (fileOf pool3 2 #[] #[] 1537 4 #[] #[])
  fields := #[]
  methods := #[]
  instanceTypes := #[]
  staticTypes := #[]
  resolved := Array.replicate 8 none
  statics := none }

def pool4 : Array CpInfo := pool [(1, u "java/io/Serializable"), (0, .class_ 1), (0, u "java/lang/Object"), (0, .class_ 3)] 3

/-- java/io/Serializable -/
def k4 : Class := { plain "java/io/Serializable" (some 0) with
  accessFlags := 1537
  interfaces := #[]
  cf := some (fileOf pool4 2 #[] #[] 1537 4 #[] #[])
  fields := #[]
  methods := #[]
  instanceTypes := #[]
  staticTypes := #[]
  resolved := Array.replicate 8 none
  statics := none }

/-- the primitive byte -/
def k5 : Class := { plain "byte" none with kind := .primitive 'B', accessFlags := 0x411 }
/-- [B -/
def k6 : Class := { plain "[B" (some 0) with kind := .array 5 .byte, interfaces := #[3, 4], accessFlags := 1041 }

/-- the primitive int -/
def k7 : Class := { plain "int" none with kind := .primitive 'I', accessFlags := 0x411 }
/-- [I -/
def k8 : Class := { plain "[I" (some 0) with kind := .array 7 .int, interfaces := #[3, 4], accessFlags := 1041 }

def heap : Heap := #[]
def classes : Array Class := #[k0, k1, k2, k3, k4, k5, k6, k7, k8]
def interned : List (Array UInt16 × Addr) := []
def slotsUsed : Nat := 0
def theMethod : MethodId := ⟨1, 1⟩
def args0 : Array Value := #[.int 5]
def aboutOver (below : List Frame) : State where
  vm := { classes := classes, interned := interned.toArray }
  heap := heap
  slotsUsed := slotsUsed
  threads := #[{ frames := .invoking theMethod args0 :: below }]
def below0 : List Frame := [.native { method := ⟨0, 0⟩, args := #[] }]
def about1 : State := aboutOver below0
def p0 : Program := .bare "" "" ""
def e0 : Env := launch0.env 0 0 0
theorem w_frames : about1.frames = Frame.invoking theMethod args0 :: below0 := rfl
set_option maxRecDepth 65536 in
theorem w_args : argsFit about1.vm theMethod args0 = true := by decide +kernel
set_option maxRecDepth 65536 in
theorem w_heap : heapFits about1 = true := by decide +kernel
set_option maxRecDepth 65536 in
theorem w_runnable : about1.curStatus? = some .runnable := by decide +kernel
set_option maxRecDepth 65536 in
theorem w_alone : about1.alone = true := by decide +kernel
set_option maxRecDepth 65536 in
theorem w_named : about1.methodNamed? x = some theMethod := by decide +kernel
set_option maxRecDepth 65536 in
theorem w_hears : about1.hears theMethod below0 = true := by decide +kernel
set_option maxRecDepth 65536 in
theorem w_ripe : about1.ripe theMethod args0 below0 = true := by decide +kernel
theorem w_running : about1.status = .running := rfl
set_option maxRecDepth 65536 in
theorem w_room : about1.hasRoom e0.platform room_1 = true :=
  launch0.hasRoom_least _ room_1 (by decide +kernel) (by decide +kernel) (by decide +kernel) (by decide +kernel) (by decide +kernel) (by decide +kernel)
theorem allAtoms_all (ts : List Jvm.Cond) (a : Array Jvm.Value) (st : Jvm.State) : (allAtoms ts).before a st = ts.all (fun c => c.before a st) := by
  induction ts with
  | nil => rfl
  | cons c t ih =>
    show (Jvm.Cond.and c (allAtoms t)).before a st = _
    rw [Jvm.Cond.before_and, ih, List.all_cons]
def words1 : List Jvm.Cond := Jvm.Cond.code x code maxLocals ret :: tables_1
/-- a 'code' word, met by the world's own term for the bytes: nothing is compared byte by byte -/
theorem code_word {y : MethodName} {bytes : ByteArray} {mx : Nat} {rt : Option FieldType} {a : Array Value} {s : State} {m : MethodId} {meth : Method} {c : Code} (h1 : s.methodNamed? y = some m) (h2 : s.vm.method? m = some meth) (h3 : meth.code = some c) (h4 : c.code = bytes)
    (h5 : (c.maxLocals == mx && c.exceptionTable.isEmpty && decide (c.maxStack ≤ mostOperands) && decide (meth.sig.returnType = rt) && !meth.locks && decide (parseMethodDescriptor y.desc = some meth.sig)) = true) : (Jvm.Cond.code y bytes mx rt).before a s = true := by
  simp only [Bool.and_eq_true, beq_iff_eq, Bool.not_eq_true', decide_eq_true_eq] at h5
  obtain ⟨⟨⟨⟨⟨g1, g2⟩, g3⟩, g4⟩, g5⟩, g6⟩ := h5
  simp [Cond.before, Cond.holds, Cond.value, h1, h2, h3, h4, g1, g2, g3, g4, g5, g6]
def isCode : Jvm.Cond → Bool
  | .code _ _ _ _ => true
  | _ => false
theorem all_split {L : List Jvm.Cond} {P : Jvm.Cond → Bool} (h1 : L.all (fun c => isCode c || P c) = true) (h2 : ∀ c ∈ L.filter isCode, P c = true) : L.all P = true := by
  refine List.all_eq_true.mpr fun c hc => ?_
  have h := List.all_eq_true.mp h1 c hc
  rcases Bool.eq_false_or_eq_true (isCode c) with hi | hi
  · exact h2 c (List.mem_filter.mpr ⟨hc, hi⟩)
  · simpa [hi] using h
set_option maxRecDepth 65536 in
theorem w_c0 : (Jvm.Cond.code x code maxLocals ret).before args0 about1 = true := code_word (m := ⟨1, 1⟩) (meth := k1m1) (c := k1c1) (by decide +kernel) rfl rfl rfl (by decide +kernel)
set_option maxRecDepth 65536 in
theorem w_c1 : (Jvm.Cond.code ({ cls := "com/example/formula_search/formulasearch/latex/LatexTokens", name := "isLetter", desc := "(C)Z" } : Jvm.MethodName) prog_54_method_12_code (1 : Nat) (Option.some Jvm.ClassFile.FieldType.boolean)).before args0 about1 = true := code_word (m := ⟨2, 1⟩) (meth := k2m1) (c := k2c1) (by decide +kernel) rfl rfl rfl (by decide +kernel)
def codes1 : List Jvm.Cond := [Jvm.Cond.code x code maxLocals ret, Jvm.Cond.code ({ cls := "com/example/formula_search/formulasearch/latex/LatexTokens", name := "isLetter", desc := "(C)Z" } : Jvm.MethodName) prog_54_method_12_code (1 : Nat) (Option.some Jvm.ClassFile.FieldType.boolean)]
set_option maxRecDepth 65536 in
theorem codes_eq : words1.filter isCode = codes1 := rfl
theorem w_codes : ∀ c ∈ words1.filter isCode, c.before args0 about1 = true := by
  rw [codes_eq]
  intro c hc
  simp only [codes1, List.mem_cons, List.not_mem_nil, or_false] at hc
  rcases hc with rfl | rfl
  · exact w_c0
  · exact w_c1
set_option maxRecDepth 65536 in
theorem w_t1 : words1.all (fun c => isCode c || c.before args0 about1) = true := by decide +kernel
theorem w_tables : (allAtoms (Jvm.Cond.code x code maxLocals ret :: tables_1)).before args0 about1 = true := by
  rw [allAtoms_all]
  show words1.all (fun c => c.before args0 about1) = true
  refine all_split ?_ w_codes
  rw [w_t1]
set_option maxRecDepth 65536 in
theorem w_case : (Jvm.Cond.and given_1 narrow_1).before args0 about1 = true := by decide +kernel
theorem w_applies : (headSpec (Jvm.Cond.code x code maxLocals ret :: tables_1) room_1).applies x e0.platform about1 = true :=
  (Spec.applies_iff w_frames).mpr ⟨w_running, w_runnable, w_alone, w_named, w_hears, w_ripe, w_room, w_tables⟩
theorem atStart : AtStart classFile x code maxLocals ret World_1 tables_1 room_1 Calls_1 rest_1 Pre_1 launch0 p0 e0 about1 theMethod args0 below0 :=
  ⟨lists_1, trivial, launch0.admits_env _ _ _, launch0.least_env, fairChoices_fair.cas, fairChoices_fair.clock, w_frames, w_args, w_heap, w_applies, trivial, trivial, w_case⟩
end start1
theorem witness_1 : WitnessClaimed_1 := ⟨start1.p0, start1.e0, start1.about1, start1.theMethod, start1.args0, start1.below0, start1.atStart⟩
end Jvm.Pilot.@@N@@
