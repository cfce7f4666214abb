import JvmDerived
import JvmDerived.Pilot.@@N@@Statement
import JvmDerived.Pilot.@@N@@Code
set_option linter.unusedVariables false
set_option linter.unusedSimpArgs false
namespace Jvm.RoadKit
open Sem ClassFile Op Lib Jvm.Stand Jvm.Free Jvm.LawKit
/-! the goal of a walk, seen from where it stands -/
def own_Go (p : Program) (e : Env) (below : List Frame) (PO : Outcome → State → Prop) (U : State) : Prop :=
  ∃ s₂ o, Steps p.tables e below U s₂ ∧ s₂.status = .running ∧ Ended s₂ below o ∧ PO o s₂
def own_PO (s : State) (Q : Option Value → Heap → List Loc → Prop) (C N : Nat) : Outcome → State → Prop :=
  fun o U' => ∃ v L, o = .returned v ∧ Q v U'.heap L ∧ FrameEnd s o U' L C N
theorem own_back {p : Program} {e : Env} {below : List Frame} {PO : Outcome → State → Prop} {U V : State} (h : own_Go p e below PO V)
    (st : ∀ t, Steps p.tables e below V t → Steps p.tables e below U t) : own_Go p e below PO U := by
  obtain ⟨t, o, h1, h2⟩ := h
  exact ⟨t, o, st t h1, h2⟩
theorem own_gen {A : Type} (x : A) (P : A → Prop) (h : ∀ c, c = x → P c) : P x := h x rfl
section New
variable {p : Program} {l : Launch} {e : Env} {R : Room} {s : State} {m : MethodId} {args : Array Value} {below : List Frame} {meth : Method} {c : Code} {T : State} {locs : List Loc} {cells slots : Nat} {h : Heap}
  {Q : Option Value → Heap → List Loc → Prop} {C N : Nat}
theorem own_end (X : Stand p l e R s m args below meth c T locs cells slots) {v : Option Value} {U : State} (hv : meth.sig.returnType = none → v = none) (eT : T.heap = h) (hk : meth.locks = false)
    (st : ∀ fs, (∀ (f : JFrame) (acts : List Action), f.method = m → f.locked = none → f.entered = [] → (doReturn e (T.setTop f) acts v).1 = T.setFrames fs) → Steps p.tables e below U (T.setFrames fs))
    (hQ : Q v h locs) (hc : cells ≤ C) (hn : slots ≤ N) : own_Go p e below (own_PO s Q C N) U := by
  obtain ⟨fs, hr, hrun, hended, hW, hsame⟩ := X.leave (v := v) hv hk
  subst eT
  exact ⟨_, _, st fs hr, hrun, hended, _, _, rfl, hQ, ⟨_, rfl⟩, hW, hsame.mono hc hn⟩
theorem own_retV (X : Stand p l e R s m args below meth c T locs cells slots) (hx : p.tables.exec = Jvm.exec) {pc : Nat} {Ls : Array Slot} (hret : meth.sig.returnType = none) (hd : decode c.code pc = .ok (.return_, 1))
    (eT : T.heap = h) (hk : meth.locks = false) (hQ : Q none h locs) (hc : cells ≤ C) (hn : slots ≤ N) : own_Go p e below (own_PO s Q C N) (T.setTop (mkF m pc Ls [])) :=
  own_end X (fun _ => rfl) eT hk (fun fs hr => X.returnOut hx hret hd hr) hQ hc hn
theorem own_retI (X : Stand p l e R s m args below meth c T locs cells slots) (hx : p.tables.exec = Jvm.exec) {pc : Nat} {Ls : Array Slot} {z : Int32} {rest : List Value} (hret : meth.sig.returnType = some .int) (hd : decode c.code pc = .ok (.ireturn, 1))
    (eT : T.heap = h) (hk : meth.locks = false) (hQ : Q (some (.int z)) h locs) (hc : cells ≤ C) (hn : slots ≤ N) : own_Go p e below (own_PO s Q C N) (T.setTop (mkF m pc Ls (.int z :: rest))) :=
  own_end X (fun q => by rw [hret] at q; cases q) eT hk (fun fs hr => retOut X hx hret rfl (Or.inl ⟨rfl, Or.inl rfl, z, rfl⟩) hd hr) hQ hc hn
theorem own_retN (X : Stand p l e R s m args below meth c T locs cells slots) (hx : p.tables.exec = Jvm.exec) {pc : Nat} {Ls : Array Slot} {z : Int32} {t : FieldType} {rest : List Value} (hret : meth.sig.returnType = some t) (hz : nar t z = z) (ht : t = .boolean ∨ t = .byte ∨ t = .char ∨ t = .short) (hd : decode c.code pc = .ok (.ireturn, 1))
    (eT : T.heap = h) (hk : meth.locks = false) (hQ : Q (some (.int z)) h locs) (hc : cells ≤ C) (hn : slots ≤ N) : own_Go p e below (own_PO s Q C N) (T.setTop (mkF m pc Ls (.int z :: rest))) :=
  own_end X (fun q => by rw [hret] at q; cases q) eT hk (fun fs hr => retN X hx (t := t) hret ht hd (by rw [hz]; exact hr)) hQ hc hn
theorem own_retJ (X : Stand p l e R s m args below meth c T locs cells slots) (hx : p.tables.exec = Jvm.exec) {pc : Nat} {Ls : Array Slot} {z : Int64} {rest : List Value} (hret : meth.sig.returnType = some .long) (hd : decode c.code pc = .ok (.lreturn, 1))
    (eT : T.heap = h) (hk : meth.locks = false) (hQ : Q (some (.long z)) h locs) (hc : cells ≤ C) (hn : slots ≤ N) : own_Go p e below (own_PO s Q C N) (T.setTop (mkF m pc Ls (.long z :: rest))) :=
  own_end X (fun q => by rw [hret] at q; cases q) eT hk (fun fs hr => retOut X hx hret rfl (Or.inr (Or.inl ⟨rfl, rfl, z, rfl⟩)) hd hr) hQ hc hn
theorem own_retD (X : Stand p l e R s m args below meth c T locs cells slots) (hx : p.tables.exec = Jvm.exec) {pc : Nat} {Ls : Array Slot} {z : UInt64} {rest : List Value} (hret : meth.sig.returnType = some .double) (hd : decode c.code pc = .ok (.dreturn, 1))
    (eT : T.heap = h) (hk : meth.locks = false) (hQ : Q (some (.double z)) h locs) (hc : cells ≤ C) (hn : slots ≤ N) : own_Go p e below (own_PO s Q C N) (T.setTop (mkF m pc Ls (.double z :: rest))) :=
  own_end X (fun q => by rw [hret] at q; cases q) eT hk (fun fs hr => retOut X hx hret rfl (Or.inr (Or.inr (Or.inl ⟨rfl, rfl, z, rfl⟩))) hd hr) hQ hc hn
theorem own_retA (X : Stand p l e R s m args below meth c T locs cells slots) (hx : p.tables.exec = Jvm.exec) {pc : Nat} {Ls : Array Slot} {w : Value} {t : FieldType} {rest : List Value} (hret : meth.sig.returnType = some t) (ht : t.isReference = true) (hw : w.isRef = true) (hd : decode c.code pc = .ok (.areturn, 1))
    (eT : T.heap = h) (hk : meth.locks = false) (hQ : Q (some w) h locs) (hc : cells ≤ C) (hn : slots ≤ N) : own_Go p e below (own_PO s Q C N) (T.setTop (mkF m pc Ls (w :: rest))) :=
  own_end X (fun q => by rw [hret] at q; cases q) eT hk (fun fs hr => retOut X hx hret (by cases t <;> first | (cases ht; done) | (cases w <;> first | (cases hw; done) | rfl)) (Or.inr (Or.inr (Or.inr (Or.inr ⟨rfl, ht, hw⟩)))) hd hr) hQ hc hn
end New
end Jvm.RoadKit
namespace Jvm.RoadKit
open Sem ClassFile Op Lib Jvm.Stand Jvm.Free Jvm.LawKit
theorem own_eqI {args : Array Value} {first s : State} {o : Option Outcome} {idx : List Nat} {a : Term} {k : Int32} (h : (Cond.eq a (.int k)).value args first o s idx = some true) : a.eval args first o idx s = some (.int k) := by
  obtain ⟨x, y, h1, h2, h3, -⟩ := cmp_v (Or.inl h)
  cases h2
  cases x <;> simp [Kin, Value.isRef] at h3
  rename_i z
  have q : (Cond.eq a (.int k)).value args first o s idx = some (decide (z = k)) := Cond.eq_ints h1 rfl
  rw [q] at h
  rw [h1, of_decide_eq_true (Option.some.inj h)]
theorem own_eqJ {args : Array Value} {first s : State} {o : Option Outcome} {idx : List Nat} {a : Term} {k : Int64} (h : (Cond.eq a (.long k)).value args first o s idx = some true) : a.eval args first o idx s = some (.long k) := by
  obtain ⟨x, y, h1, h2, h3, -⟩ := cmp_v (Or.inl h)
  cases h2
  cases x <;> simp [Kin, Value.isRef] at h3
  rename_i z
  have q : (Cond.eq a (.long k)).value args first o s idx = some (decide (z = k)) := eq_L h1 rfl
  rw [q] at h
  rw [h1, of_decide_eq_true (Option.some.inj h)]
theorem own_fldI {args : Array Value} {s : State} {t : Term} {a : Addr} {C n d : String} {k : Int32} (ev : t.eval args s none [] s = some (.ref a)) (h : (Cond.eq (.field t C n d) (.int k)).value args s none s [] = some true) : Fld s s.heap a C n d (.int k) :=
  Fld.start ((fld_at ev).symm.trans (own_eqI h))
end Jvm.RoadKit
namespace Jvm.Pilot.@@N@@
open Jvm Jvm.ClassFile Sem Op Lib Jvm.Free Jvm.Stand Jvm.LawKit Jvm.RoadKit Bundle Jvm.Pilot.@@N@@.Jvm.D

def own_Con (Z : State) (h : Heap) (n : String) : Prop := ∃ a : Addr, Sta Z h "com/example/formula_search/formulasearch/analysis/Likeness" n "Lcom/example/formula_search/formulasearch/analysis/Likeness;" (.ref a) ∧ Exa Z h a "com/example/formula_search/formulasearch/analysis/Likeness" ∧ Fld Z h a "com/example/formula_search/formulasearch/analysis/Likeness" "part" "Z" (.int 0)
theorem d1_0 : decode method_2_code 0 = .ok (.iload_n 0, 1) := by decide +kernel
theorem d1_1 : decode method_2_code 1 = .ok (.ifCond .ne 7, 3) := by decide +kernel
theorem d1_4 : decode method_2_code 4 = .ok (.getstatic 7, 3) := by decide +kernel
theorem d1_7 : decode method_2_code 7 = .ok (.areturn, 1) := by decide +kernel
theorem d1_8 : decode method_2_code 8 = .ok (.iload_n 0, 1) := by decide +kernel
theorem d1_9 : decode method_2_code 9 = .ok (.iconst 1, 1) := by decide +kernel
theorem d1_10 : decode method_2_code 10 = .ok (.if_icmp .ne 7, 3) := by decide +kernel
theorem d1_17 : decode method_2_code 17 = .ok (.iload_n 0, 1) := by decide +kernel
theorem d1_18 : decode method_2_code 18 = .ok (.iconst 2, 1) := by decide +kernel
theorem d1_19 : decode method_2_code 19 = .ok (.if_icmp .ne 7, 3) := by decide +kernel
theorem d1_22 : decode method_2_code 22 = .ok (.getstatic 16, 3) := by decide +kernel
theorem d1_25 : decode method_2_code 25 = .ok (.areturn, 1) := by decide +kernel
theorem d1_26 : decode method_2_code 26 = .ok (.iload_n 0, 1) := by decide +kernel
theorem d1_27 : decode method_2_code 27 = .ok (.iconst 3, 1) := by decide +kernel
theorem d1_28 : decode method_2_code 28 = .ok (.if_icmp .ne 7, 3) := by decide +kernel
theorem d1_35 : decode method_2_code 35 = .ok (.iload_n 0, 1) := by decide +kernel
theorem d1_36 : decode method_2_code 36 = .ok (.iconst 4, 1) := by decide +kernel
theorem d1_37 : decode method_2_code 37 = .ok (.if_icmp .ne 7, 3) := by decide +kernel
theorem d1_40 : decode method_2_code 40 = .ok (.getstatic 22, 3) := by decide +kernel
theorem d1_43 : decode method_2_code 43 = .ok (.areturn, 1) := by decide +kernel
theorem d1_44 : decode method_2_code 44 = .ok (.iload_n 0, 1) := by decide +kernel
theorem d1_45 : decode method_2_code 45 = .ok (.iconst 5, 1) := by decide +kernel
theorem d1_46 : decode method_2_code 46 = .ok (.if_icmp .ne 7, 3) := by decide +kernel
theorem d1_49 : decode method_2_code 49 = .ok (.getstatic 25, 3) := by decide +kernel
theorem d1_52 : decode method_2_code 52 = .ok (.areturn, 1) := by decide +kernel
theorem d1_53 : decode method_2_code 53 = .ok (.iload_n 0, 1) := by decide +kernel
theorem d1_54 : decode method_2_code 54 = .ok (.bipush 6, 2) := by decide +kernel
theorem d1_56 : decode method_2_code 56 = .ok (.if_icmp .ne 7, 3) := by decide +kernel
theorem d1_59 : decode method_2_code 59 = .ok (.getstatic 28, 3) := by decide +kernel
theorem d1_62 : decode method_2_code 62 = .ok (.areturn, 1) := by decide +kernel
theorem d1_63 : decode method_2_code 63 = .ok (.getstatic 31, 3) := by decide +kernel
theorem d1_66 : decode method_2_code 66 = .ok (.areturn, 1) := by decide +kernel
theorem pn_0 : plainName "com/example/formula_search/formulasearch/analysis/LikenessRequireFindsNoPartsPinLaw" = true := by first | (simp [plainName, overriddenIn]; done) | decide +kernel
theorem ef_rm1 (m : MethodId) (x0 : Int32) : entryFrame m #[(.int x0)] 1 = mkF m 0 #[.val (.int x0)] [] := by first | (simp [entryFrame, mkF, argsToLocals, Value.category]; done) | rfl
def Q_rm1 (Z : State) (h0 : Heap) (n0 : Nat) (v : Option Value) (h : Heap) (L : List Loc) : Prop := ∃ aR : Addr, v = some (.ref aR) ∧ Exa Z h0 aR "com/example/formula_search/formulasearch/analysis/Likeness" ∧ Fld Z h0 aR "com/example/formula_search/formulasearch/analysis/Likeness" "part" "Z" (.int 0) ∧ Fr n0 L ∧ h = h0
set_option maxRecDepth 65536 in
set_option maxHeartbeats 40000000 in
theorem rm1 (l : Launch) (Z : State) (a0 : Array Value) (hw : ∀ d ∈ tables_1, d.before a0 Z = true) (ws : List Jvm.Cond) (pA : Int32)  (h0 : Heap) (n0 : Nat) (Z0 : n0 ≤ h0.size) (ne1 : ¬ pA = 1) (ne3 : ¬ pA = 3) (H_EXACT : own_Con Z h0 "EXACT") (H_RENAMED : own_Con Z h0 "RENAMED") (H_OTHER_NUMBERS : own_Con Z h0 "OTHER_NUMBERS") (H_RENAMED_OTHER_NUMBERS : own_Con Z h0 "RENAMED_OTHER_NUMBERS") (H_OTHER_LETTERS : own_Con Z h0 "OTHER_LETTERS") (H_SHAPE : own_Con Z h0 "SHAPE") :
    MetFree l (⟨"com/example/formula_search/formulasearch/analysis/LikenessRequireFindsNoPartsPinLaw", "pick", "(I)Lcom/example/formula_search/formulasearch/analysis/Likeness;"⟩ : MethodName) (head1 (Jvm.Cond.code (⟨"com/example/formula_search/formulasearch/analysis/LikenessRequireFindsNoPartsPinLaw", "pick", "(I)Lcom/example/formula_search/formulasearch/analysis/Likeness;"⟩ : MethodName) method_2_code 1 (some (.object "com/example/formula_search/formulasearch/analysis/Likeness")) :: ws) ({ frames := 0, cells := 0, slots := 0, locals := 0 } : Room)) (fun a U => a = #[(.int pA)] ∧ Z.Warmed39 U.vm ∧ U.heap = h0) (fun _ _ _ _ _ => True) (fun _ U o U' => ∃ v L, o = .returned v ∧ Q_rm1 Z h0 n0 v U'.heap L ∧ FrameEnd U o U' L ({ frames := 0, cells := 0, slots := 0, locals := 0 } : Room).cells ({ frames := 0, cells := 0, slots := 0, locals := 0 } : Room).slots) := by
  refine MetFree.of_bodySF (plainFor_of_name pn_0) hisR ?_
  intro p e s m args below meth c s₁ Bd hml0 hP hK
  obtain ⟨rfl, hZ, hh⟩ := hP
  have hx := Bd.exec
  have hby := Bd.bytes
  have hml : c.maxLocals = 1 := hml0
  have hown : s.vm.findClass "com/example/formula_search/formulasearch/analysis/LikenessRequireFindsNoPartsPinLaw" = some m.cls := findClass_of_methodNamed Bd.named
  have hnm := (name_of_methodNamed Bd.named Bd.method).1
  have X0 : Stand p l e ({ frames := 0, cells := 0, slots := 0, locals := 0 } : Room) s m #[(.int pA)] below meth c s₁ [] 0 0 := Stand.of_body Bd
  have e0 : s₁.heap = h0 := by rw [← hh, Bd.state]; rfl
  have N0 := Fr.nil n0
  let PO : Outcome → State → Prop := own_PO s (Q_rm1 Z h0 n0) 0 0
  show own_Go p e below PO (s₁.setTop (entryFrame m #[(.int pA)] 1))
  rw [ef_rm1]
  show own_Go p e below PO (s₁.setTop (mkF m 0 #[.val (.int pA)] []))
  refine own_back ?_ (fun t k => XS.iloadN X0.here hx rfl (hb hby d1_0) rfl k)
  show own_Go p e below PO (s₁.setTop (mkF m 1 #[.val (.int pA)] [(.int pA)]))
  by_cases hc1_1 : pA = (0 : Int32)
  case pos =>
    refine own_back ?_ (fun t k => XS.ifNo X0.here hx rfl (hb hby d1_1) rfl ((if0 _ _).trans (teq hc1_1).2) k)
    show own_Go p e below PO (s₁.setTop (mkF m 4 #[.val (.int pA)] []))
    obtain ⟨aR, SR, ER, FR⟩ := H_EXACT
    obtain ⟨T2, X2, e2, st2⟩ := getS2 X0 hx hZ hown (host := "") (Or.inl (hw _ (List.mem_of_getElem? (i := 4) rfl))) Via.refl e0 SR (g := (mkF m 4 #[.val (.int pA)] [])) rfl (hb hby d1_4)
    refine own_back ?_ st2
    show own_Go p e below PO (T2.setTop (mkF m 7 #[.val (.int pA)] [(.ref aR)]))
    refine own_retA X2 hx (w := (.ref aR)) (rest := []) Bd.returns rfl rfl (hb hby d1_7) e2 (Bd.notSynchronized) ?_ (by decide) (by decide)
    exact ⟨aR, rfl, ER, FR, N0, rfl⟩
  refine own_back ?_ (fun t k => XS.ifYes X0.here hx rfl (pc0 := 1) (pc' := 8) rfl (hb hby d1_1) rfl ((if0 _ _).trans (feq hc1_1).2) (by decide) (by decide) k)
  show own_Go p e below PO (s₁.setTop (mkF m 8 #[.val (.int pA)] []))
  refine own_back ?_ (fun t k => XS.iloadN X0.here hx rfl (hb hby d1_8) rfl k)
  show own_Go p e below PO (s₁.setTop (mkF m 9 #[.val (.int pA)] [(.int pA)]))
  refine own_back ?_ (fun t k => XS.iconst X0.here hx rfl (hb hby d1_9) k)
  show own_Go p e below PO (s₁.setTop (mkF m 10 #[.val (.int pA)] [(.int (1 : Int32)), (.int pA)]))
  refine own_back ?_ (fun t k => XS.icmpYes X0.here hx rfl (pc0 := 10) (pc' := 17) rfl (hb hby d1_10) rfl (feq ne1).2 (by decide) (by decide) k)
  show own_Go p e below PO (s₁.setTop (mkF m 17 #[.val (.int pA)] []))
  refine own_back ?_ (fun t k => XS.iloadN X0.here hx rfl (hb hby d1_17) rfl k)
  show own_Go p e below PO (s₁.setTop (mkF m 18 #[.val (.int pA)] [(.int pA)]))
  refine own_back ?_ (fun t k => XS.iconst X0.here hx rfl (hb hby d1_18) k)
  show own_Go p e below PO (s₁.setTop (mkF m 19 #[.val (.int pA)] [(.int (2 : Int32)), (.int pA)]))
  by_cases hc19_3 : pA = (2 : Int32)
  case pos =>
    refine own_back ?_ (fun t k => XS.icmpNo X0.here hx rfl (hb hby d1_19) rfl (teq hc19_3).2 k)
    show own_Go p e below PO (s₁.setTop (mkF m 22 #[.val (.int pA)] []))
    obtain ⟨aR, SR, ER, FR⟩ := H_RENAMED
    obtain ⟨T4, X4, e4, st4⟩ := getS2 X0 hx hZ hown (host := "") (Or.inl (hw _ (List.mem_of_getElem? (i := 18) rfl))) Via.refl e0 SR (g := (mkF m 22 #[.val (.int pA)] [])) rfl (hb hby d1_22)
    refine own_back ?_ st4
    show own_Go p e below PO (T4.setTop (mkF m 25 #[.val (.int pA)] [(.ref aR)]))
    refine own_retA X4 hx (w := (.ref aR)) (rest := []) Bd.returns rfl rfl (hb hby d1_25) e4 (Bd.notSynchronized) ?_ (by decide) (by decide)
    exact ⟨aR, rfl, ER, FR, N0, rfl⟩
  refine own_back ?_ (fun t k => XS.icmpYes X0.here hx rfl (pc0 := 19) (pc' := 26) rfl (hb hby d1_19) rfl (feq hc19_3).2 (by decide) (by decide) k)
  show own_Go p e below PO (s₁.setTop (mkF m 26 #[.val (.int pA)] []))
  refine own_back ?_ (fun t k => XS.iloadN X0.here hx rfl (hb hby d1_26) rfl k)
  show own_Go p e below PO (s₁.setTop (mkF m 27 #[.val (.int pA)] [(.int pA)]))
  refine own_back ?_ (fun t k => XS.iconst X0.here hx rfl (hb hby d1_27) k)
  show own_Go p e below PO (s₁.setTop (mkF m 28 #[.val (.int pA)] [(.int (3 : Int32)), (.int pA)]))
  refine own_back ?_ (fun t k => XS.icmpYes X0.here hx rfl (pc0 := 28) (pc' := 35) rfl (hb hby d1_28) rfl (feq ne3).2 (by decide) (by decide) k)
  show own_Go p e below PO (s₁.setTop (mkF m 35 #[.val (.int pA)] []))
  refine own_back ?_ (fun t k => XS.iloadN X0.here hx rfl (hb hby d1_35) rfl k)
  show own_Go p e below PO (s₁.setTop (mkF m 36 #[.val (.int pA)] [(.int pA)]))
  refine own_back ?_ (fun t k => XS.iconst X0.here hx rfl (hb hby d1_36) k)
  show own_Go p e below PO (s₁.setTop (mkF m 37 #[.val (.int pA)] [(.int (4 : Int32)), (.int pA)]))
  by_cases hc37_5 : pA = (4 : Int32)
  case pos =>
    refine own_back ?_ (fun t k => XS.icmpNo X0.here hx rfl (hb hby d1_37) rfl (teq hc37_5).2 k)
    show own_Go p e below PO (s₁.setTop (mkF m 40 #[.val (.int pA)] []))
    obtain ⟨aR, SR, ER, FR⟩ := H_OTHER_NUMBERS
    obtain ⟨T6, X6, e6, st6⟩ := getS2 X0 hx hZ hown (host := "") (Or.inl (hw _ (List.mem_of_getElem? (i := 20) rfl))) Via.refl e0 SR (g := (mkF m 40 #[.val (.int pA)] [])) rfl (hb hby d1_40)
    refine own_back ?_ st6
    show own_Go p e below PO (T6.setTop (mkF m 43 #[.val (.int pA)] [(.ref aR)]))
    refine own_retA X6 hx (w := (.ref aR)) (rest := []) Bd.returns rfl rfl (hb hby d1_43) e6 (Bd.notSynchronized) ?_ (by decide) (by decide)
    exact ⟨aR, rfl, ER, FR, N0, rfl⟩
  refine own_back ?_ (fun t k => XS.icmpYes X0.here hx rfl (pc0 := 37) (pc' := 44) rfl (hb hby d1_37) rfl (feq hc37_5).2 (by decide) (by decide) k)
  show own_Go p e below PO (s₁.setTop (mkF m 44 #[.val (.int pA)] []))
  refine own_back ?_ (fun t k => XS.iloadN X0.here hx rfl (hb hby d1_44) rfl k)
  show own_Go p e below PO (s₁.setTop (mkF m 45 #[.val (.int pA)] [(.int pA)]))
  refine own_back ?_ (fun t k => XS.iconst X0.here hx rfl (hb hby d1_45) k)
  show own_Go p e below PO (s₁.setTop (mkF m 46 #[.val (.int pA)] [(.int (5 : Int32)), (.int pA)]))
  by_cases hc46_7 : pA = (5 : Int32)
  case pos =>
    refine own_back ?_ (fun t k => XS.icmpNo X0.here hx rfl (hb hby d1_46) rfl (teq hc46_7).2 k)
    show own_Go p e below PO (s₁.setTop (mkF m 49 #[.val (.int pA)] []))
    obtain ⟨aR, SR, ER, FR⟩ := H_RENAMED_OTHER_NUMBERS
    obtain ⟨T8, X8, e8, st8⟩ := getS2 X0 hx hZ hown (host := "") (Or.inl (hw _ (List.mem_of_getElem? (i := 22) rfl))) Via.refl e0 SR (g := (mkF m 49 #[.val (.int pA)] [])) rfl (hb hby d1_49)
    refine own_back ?_ st8
    show own_Go p e below PO (T8.setTop (mkF m 52 #[.val (.int pA)] [(.ref aR)]))
    refine own_retA X8 hx (w := (.ref aR)) (rest := []) Bd.returns rfl rfl (hb hby d1_52) e8 (Bd.notSynchronized) ?_ (by decide) (by decide)
    exact ⟨aR, rfl, ER, FR, N0, rfl⟩
  refine own_back ?_ (fun t k => XS.icmpYes X0.here hx rfl (pc0 := 46) (pc' := 53) rfl (hb hby d1_46) rfl (feq hc46_7).2 (by decide) (by decide) k)
  show own_Go p e below PO (s₁.setTop (mkF m 53 #[.val (.int pA)] []))
  refine own_back ?_ (fun t k => XS.iloadN X0.here hx rfl (hb hby d1_53) rfl k)
  show own_Go p e below PO (s₁.setTop (mkF m 54 #[.val (.int pA)] [(.int pA)]))
  refine own_back ?_ (fun t k => XS.bipush X0.here hx rfl (hb hby d1_54) k)
  show own_Go p e below PO (s₁.setTop (mkF m 56 #[.val (.int pA)] [(.int (6 : Int32)), (.int pA)]))
  by_cases hc56_9 : pA = (6 : Int32)
  case pos =>
    refine own_back ?_ (fun t k => XS.icmpNo X0.here hx rfl (hb hby d1_56) rfl (teq hc56_9).2 k)
    show own_Go p e below PO (s₁.setTop (mkF m 59 #[.val (.int pA)] []))
    obtain ⟨aR, SR, ER, FR⟩ := H_OTHER_LETTERS
    obtain ⟨T10, X10, e10, st10⟩ := getS2 X0 hx hZ hown (host := "") (Or.inl (hw _ (List.mem_of_getElem? (i := 14) rfl))) Via.refl e0 SR (g := (mkF m 59 #[.val (.int pA)] [])) rfl (hb hby d1_59)
    refine own_back ?_ st10
    show own_Go p e below PO (T10.setTop (mkF m 62 #[.val (.int pA)] [(.ref aR)]))
    refine own_retA X10 hx (w := (.ref aR)) (rest := []) Bd.returns rfl rfl (hb hby d1_62) e10 (Bd.notSynchronized) ?_ (by decide) (by decide)
    exact ⟨aR, rfl, ER, FR, N0, rfl⟩
  refine own_back ?_ (fun t k => XS.icmpYes X0.here hx rfl (pc0 := 56) (pc' := 63) rfl (hb hby d1_56) rfl (feq hc56_9).2 (by decide) (by decide) k)
  show own_Go p e below PO (s₁.setTop (mkF m 63 #[.val (.int pA)] []))
  obtain ⟨aR, SR, ER, FR⟩ := H_SHAPE
  obtain ⟨T11, X11, e11, st11⟩ := getS2 X0 hx hZ hown (host := "") (Or.inl (hw _ (List.mem_of_getElem? (i := 16) rfl))) Via.refl e0 SR (g := (mkF m 63 #[.val (.int pA)] [])) rfl (hb hby d1_63)
  refine own_back ?_ st11
  show own_Go p e below PO (T11.setTop (mkF m 66 #[.val (.int pA)] [(.ref aR)]))
  refine own_retA X11 hx (w := (.ref aR)) (rest := []) Bd.returns rfl rfl (hb hby d1_66) e11 (Bd.notSynchronized) ?_ (by decide) (by decide)
  exact ⟨aR, rfl, ER, FR, N0, rfl⟩
theorem d2_0 : decode prog_7_method_5_code 0 = .ok (.aload_n 0, 1) := by decide +kernel
theorem d2_1 : decode prog_7_method_5_code 1 = .ok (.getfield 58, 3) := by decide +kernel
theorem d2_4 : decode prog_7_method_5_code 4 = .ok (.ifCond .eq 20, 3) := by decide +kernel
theorem d2_24 : decode prog_7_method_5_code 24 = .ok (.return_, 1) := by decide +kernel
theorem pn_1 : plainName "com/example/formula_search/formulasearch/analysis/Likeness" = true := by first | (simp [plainName, overriddenIn]; done) | decide +kernel
theorem ef_rm2 (m : MethodId) (x0 : Addr) : entryFrame m #[(.ref x0)] 1 = mkF m 0 #[.val (.ref x0)] [] := by first | (simp [entryFrame, mkF, argsToLocals, Value.category]; done) | rfl
def Q_rm2 (h0 : Heap) (n0 : Nat) (v : Option Value) (h : Heap) (L : List Loc) : Prop := v = none ∧ Fr n0 L ∧ h = h0
set_option maxRecDepth 65536 in
set_option maxHeartbeats 40000000 in
theorem rm2 (l : Launch) (Z : State) (a0 : Array Value) (hw : ∀ d ∈ tables_1, d.before a0 Z = true) (ws : List Jvm.Cond) (aO : Addr)  (h0 : Heap) (n0 : Nat) (Z0 : n0 ≤ h0.size) (FV : Fld Z h0 aO "com/example/formula_search/formulasearch/analysis/Likeness" "part" "Z" (.int 0)) :
    MetFree l (⟨"com/example/formula_search/formulasearch/analysis/Likeness", "requireFindsNoParts", "()V"⟩ : MethodName) (head1 (Jvm.Cond.code (⟨"com/example/formula_search/formulasearch/analysis/Likeness", "requireFindsNoParts", "()V"⟩ : MethodName) prog_7_method_5_code 1 none :: ws) ({ frames := 0, cells := 0, slots := 0, locals := 0 } : Room)) (fun a U => a = #[(.ref aO)] ∧ Z.Warmed39 U.vm ∧ U.heap = h0) (fun _ _ _ _ _ => True) (fun _ U o U' => ∃ v L, o = .returned v ∧ Q_rm2 h0 n0 v U'.heap L ∧ FrameEnd U o U' L ({ frames := 0, cells := 0, slots := 0, locals := 0 } : Room).cells ({ frames := 0, cells := 0, slots := 0, locals := 0 } : Room).slots) := by
  refine MetFree.of_bodySF (plainFor_of_name pn_1) hisR ?_
  intro p e s m args below meth c s₁ Bd hml0 hP hK
  obtain ⟨rfl, hZ, hh⟩ := hP
  have hx := Bd.exec
  have hby := Bd.bytes
  have hml : c.maxLocals = 1 := hml0
  have hown : s.vm.findClass "com/example/formula_search/formulasearch/analysis/Likeness" = some m.cls := findClass_of_methodNamed Bd.named
  have hnm := (name_of_methodNamed Bd.named Bd.method).1
  have X0 : Stand p l e ({ frames := 0, cells := 0, slots := 0, locals := 0 } : Room) s m #[(.ref aO)] below meth c s₁ [] 0 0 := Stand.of_body Bd
  have e0 : s₁.heap = h0 := by rw [← hh, Bd.state]; rfl
  have N0 := Fr.nil n0
  let PO : Outcome → State → Prop := own_PO s (Q_rm2 h0 n0) 0 0
  show own_Go p e below PO (s₁.setTop (entryFrame m #[(.ref aO)] 1))
  rw [ef_rm2]
  show own_Go p e below PO (s₁.setTop (mkF m 0 #[.val (.ref aO)] []))
  refine own_back ?_ (fun t k => XS.aloadN X0.here hx rfl (hb hby d2_0) rfl rfl k)
  show own_Go p e below PO (s₁.setTop (mkF m 1 #[.val (.ref aO)] [(.ref aO)]))
  obtain ⟨T1, X1, e1, st1⟩ := getF X0 hx hZ hown (host := "") (Or.inl (hw _ (List.mem_of_getElem? (i := 12) rfl))) Via.refl e0 FV (g := (mkF m 1 #[.val (.ref aO)] [(.ref aO)])) rfl rfl (hb hby d2_1)
  refine own_back ?_ st1
  show own_Go p e below PO (T1.setTop (mkF m 4 #[.val (.ref aO)] [(.int (0 : Int32))]))
  refine own_back ?_ (fun t k => XS.ifYes X1.here hx rfl (pc0 := 4) (pc' := 24) rfl (hb hby d2_4) rfl ((if0 _ _).trans (teq rfl).1) (by decide) (by decide) k)
  show own_Go p e below PO (T1.setTop (mkF m 24 #[.val (.ref aO)] []))
  refine own_retV X1 hx Bd.returns (hb hby d2_24) e1 (Bd.notSynchronized) ?_ (by decide) (by decide)
  exact ⟨rfl, N0, rfl⟩
theorem pd_0 : parseMethodDescriptor "(I)Lcom/example/formula_search/formulasearch/analysis/Likeness;" = some ⟨[.int], some (.object "com/example/formula_search/formulasearch/analysis/Likeness")⟩ := by decide +kernel
theorem pd_1 : parseMethodDescriptor "()V" = some ⟨[], none⟩ := by decide +kernel
theorem ef_rm0 (m : MethodId) (x0 : Int32) : entryFrame m #[(.int x0)] maxLocals = mkF m 0 #[.val (.int x0), .unset, .unset, .unset] [] := by first | (simp [entryFrame, mkF, argsToLocals, Value.category, maxLocals]; done) | rfl
def Q_rm0 (n0 : Nat) (v : Option Value) (h : Heap) (L : List Loc) : Prop := v = some (.int 1) ∧ Fr n0 L
set_option maxRecDepth 65536 in
set_option maxHeartbeats 40000000 in
theorem rm0 (l : Launch) (Z : State) (a0 : Array Value) (hw : ∀ d ∈ tables_1, d.before a0 Z = true) (ws : List Jvm.Cond) (pA : Int32)  (h0 : Heap) (n0 : Nat) (Z0 : n0 ≤ h0.size) (H_EXACT : own_Con Z h0 "EXACT") (H_RENAMED : own_Con Z h0 "RENAMED") (H_OTHER_NUMBERS : own_Con Z h0 "OTHER_NUMBERS") (H_RENAMED_OTHER_NUMBERS : own_Con Z h0 "RENAMED_OTHER_NUMBERS") (H_OTHER_LETTERS : own_Con Z h0 "OTHER_LETTERS") (H_SHAPE : own_Con Z h0 "SHAPE") :
    MetFree l x (head1 (Jvm.Cond.code x code maxLocals ret :: ws) room_1) (fun a U => a = #[(.int pA)] ∧ Z.Warmed39 U.vm ∧ U.heap = h0) (fun _ _ _ _ _ => True) (fun _ U o U' => ∃ v L, o = .returned v ∧ Q_rm0 n0 v U'.heap L ∧ FrameEnd U o U' L room_1.cells room_1.slots) := by
  refine MetFree.of_bodySF (plainFor_of_name pn_0) hisR ?_
  intro p e s m args below meth c s₁ Bd hml0 hP hK
  obtain ⟨rfl, hZ, hh⟩ := hP
  have hx := Bd.exec
  have hby := Bd.bytes
  have hml : c.maxLocals = 4 := hml0
  have hown : s.vm.findClass "com/example/formula_search/formulasearch/analysis/LikenessRequireFindsNoPartsPinLaw" = some m.cls := findClass_of_methodNamed Bd.named
  have hnm := (name_of_methodNamed Bd.named Bd.method).1
  have X0 : Stand p l e room_1 s m #[(.int pA)] below meth c s₁ [] 0 0 := Stand.of_body Bd
  have e0 : s₁.heap = h0 := by rw [← hh, Bd.state]; rfl
  have N0 := Fr.nil n0
  let PO : Outcome → State → Prop := own_PO s (Q_rm0 n0) 0 0
  show own_Go p e below PO (s₁.setTop (entryFrame m #[(.int pA)] maxLocals))
  rw [ef_rm0]
  show own_Go p e below PO (s₁.setTop (mkF m 0 #[.val (.int pA), .unset, .unset, .unset] []))
  refine own_back ?_ (fun t k => XS.iloadN X0.here hx rfl (hb hby at_0) rfl k)
  show own_Go p e below PO (s₁.setTop (mkF m 1 #[.val (.int pA), .unset, .unset, .unset] [(.int pA)]))
  refine own_back ?_ (fun t k => XS.bipush X0.here hx rfl (hb hby at_1) k)
  show own_Go p e below PO (s₁.setTop (mkF m 3 #[.val (.int pA), .unset, .unset, .unset] [(.int (7 : Int32)), (.int pA)]))
  refine own_back ?_ (fun t k => XS.iand X0.here hx rfl (hb hby at_3) rfl k)
  show own_Go p e below PO (s₁.setTop (mkF m 4 #[.val (.int pA), .unset, .unset, .unset] [(.int (pA &&& (7 : Int32)))]))
  refine own_back ?_ (fun t k => XS.istoreN X0.here hx rfl (hb hby at_4) rfl (l' := #[.val (.int pA), .val (.int (pA &&& (7 : Int32))), .unset, .unset]) rfl k)
  show own_Go p e below PO (s₁.setTop (mkF m 5 #[.val (.int pA), .val (.int (pA &&& (7 : Int32))), .unset, .unset] []))
  refine own_gen (A := Int32) (pA &&& (7 : Int32)) (fun v1_1 => own_Go p e below PO (s₁.setTop (mkF m 5 #[.val (.int pA), .val (.int v1_1), .unset, .unset] []))) ?_
  intro v1_1 h_v1_1
  show own_Go p e below PO (s₁.setTop (mkF m 5 #[.val (.int pA), .val (.int v1_1), .unset, .unset] []))
  refine own_back ?_ (fun t k => XS.iloadN X0.here hx rfl (hb hby at_5) rfl k)
  show own_Go p e below PO (s₁.setTop (mkF m 6 #[.val (.int pA), .val (.int v1_1), .unset, .unset] [(.int v1_1)]))
  refine own_back ?_ (fun t k => XS.iconst X0.here hx rfl (hb hby at_6) k)
  show own_Go p e below PO (s₁.setTop (mkF m 7 #[.val (.int pA), .val (.int v1_1), .unset, .unset] [(.int (1 : Int32)), (.int v1_1)]))
  by_cases hc7_2 : v1_1 = (1 : Int32)
  case pos =>
    refine own_back ?_ (fun t k => XS.icmpYes X0.here hx rfl (pc0 := 7) (pc' := 15) rfl (hb hby at_7) rfl (teq hc7_2).1 (by decide) (by decide) k)
    show own_Go p e below PO (s₁.setTop (mkF m 15 #[.val (.int pA), .val (.int v1_1), .unset, .unset] []))
    refine own_back ?_ (fun t k => XS.iconst X0.here hx rfl (hb hby at_15) k)
    show own_Go p e below PO (s₁.setTop (mkF m 16 #[.val (.int pA), .val (.int v1_1), .unset, .unset] [(.int (1 : Int32))]))
    refine own_back ?_ (fun t k => XS.goto X0.here hx rfl (pc0 := 16) (pc' := 20) rfl (hb hby at_16) (by decide) (by decide) k)
    show own_Go p e below PO (s₁.setTop (mkF m 20 #[.val (.int pA), .val (.int v1_1), .unset, .unset] [(.int (1 : Int32))]))
    refine own_back ?_ (fun t k => XS.istoreN X0.here hx rfl (hb hby at_20) rfl (l' := #[.val (.int pA), .val (.int v1_1), .val (.int (1 : Int32)), .unset]) rfl k)
    show own_Go p e below PO (s₁.setTop (mkF m 21 #[.val (.int pA), .val (.int v1_1), .val (.int (1 : Int32)), .unset] []))
    refine own_back ?_ (fun t k => XS.iloadN X0.here hx rfl (hb hby at_21) rfl k)
    show own_Go p e below PO (s₁.setTop (mkF m 22 #[.val (.int pA), .val (.int v1_1), .val (.int (1 : Int32)), .unset] [(.int (1 : Int32))]))
    have hd22_3 : ¬ ((1 : Int32) = (0 : Int32)) := (by decide)
    refine own_back ?_ (fun t k => XS.ifNo X0.here hx rfl (hb hby at_22) rfl ((if0 _ _).trans (feq hd22_3).1) k)
    show own_Go p e below PO (s₁.setTop (mkF m 25 #[.val (.int pA), .val (.int v1_1), .val (.int (1 : Int32)), .unset] []))
    refine own_back ?_ (fun t k => XS.iconst X0.here hx rfl (hb hby at_25) k)
    show own_Go p e below PO (s₁.setTop (mkF m 26 #[.val (.int pA), .val (.int v1_1), .val (.int (1 : Int32)), .unset] [(.int (1 : Int32))]))
    refine own_retN X0 hx (t := .boolean) (rest := []) Bd.returns (by decide) (by simp) (hb hby at_26) e0 (Bd.notSynchronized) ?_ (by decide) (by decide)
    exact ⟨rfl, N0⟩
  refine own_back ?_ (fun t k => XS.icmpNo X0.here hx rfl (hb hby at_7) rfl (feq hc7_2).1 k)
  show own_Go p e below PO (s₁.setTop (mkF m 10 #[.val (.int pA), .val (.int v1_1), .unset, .unset] []))
  refine own_back ?_ (fun t k => XS.iloadN X0.here hx rfl (hb hby at_10) rfl k)
  show own_Go p e below PO (s₁.setTop (mkF m 11 #[.val (.int pA), .val (.int v1_1), .unset, .unset] [(.int v1_1)]))
  refine own_back ?_ (fun t k => XS.iconst X0.here hx rfl (hb hby at_11) k)
  show own_Go p e below PO (s₁.setTop (mkF m 12 #[.val (.int pA), .val (.int v1_1), .unset, .unset] [(.int (3 : Int32)), (.int v1_1)]))
  by_cases hc12_4 : v1_1 = (3 : Int32)
  case pos =>
    refine own_back ?_ (fun t k => XS.icmpNo X0.here hx rfl (hb hby at_12) rfl (teq hc12_4).2 k)
    show own_Go p e below PO (s₁.setTop (mkF m 15 #[.val (.int pA), .val (.int v1_1), .unset, .unset] []))
    refine own_back ?_ (fun t k => XS.iconst X0.here hx rfl (hb hby at_15) k)
    show own_Go p e below PO (s₁.setTop (mkF m 16 #[.val (.int pA), .val (.int v1_1), .unset, .unset] [(.int (1 : Int32))]))
    refine own_back ?_ (fun t k => XS.goto X0.here hx rfl (pc0 := 16) (pc' := 20) rfl (hb hby at_16) (by decide) (by decide) k)
    show own_Go p e below PO (s₁.setTop (mkF m 20 #[.val (.int pA), .val (.int v1_1), .unset, .unset] [(.int (1 : Int32))]))
    refine own_back ?_ (fun t k => XS.istoreN X0.here hx rfl (hb hby at_20) rfl (l' := #[.val (.int pA), .val (.int v1_1), .val (.int (1 : Int32)), .unset]) rfl k)
    show own_Go p e below PO (s₁.setTop (mkF m 21 #[.val (.int pA), .val (.int v1_1), .val (.int (1 : Int32)), .unset] []))
    refine own_back ?_ (fun t k => XS.iloadN X0.here hx rfl (hb hby at_21) rfl k)
    show own_Go p e below PO (s₁.setTop (mkF m 22 #[.val (.int pA), .val (.int v1_1), .val (.int (1 : Int32)), .unset] [(.int (1 : Int32))]))
    have hd22_5 : ¬ ((1 : Int32) = (0 : Int32)) := (by decide)
    refine own_back ?_ (fun t k => XS.ifNo X0.here hx rfl (hb hby at_22) rfl ((if0 _ _).trans (feq hd22_5).1) k)
    show own_Go p e below PO (s₁.setTop (mkF m 25 #[.val (.int pA), .val (.int v1_1), .val (.int (1 : Int32)), .unset] []))
    refine own_back ?_ (fun t k => XS.iconst X0.here hx rfl (hb hby at_25) k)
    show own_Go p e below PO (s₁.setTop (mkF m 26 #[.val (.int pA), .val (.int v1_1), .val (.int (1 : Int32)), .unset] [(.int (1 : Int32))]))
    refine own_retN X0 hx (t := .boolean) (rest := []) Bd.returns (by decide) (by simp) (hb hby at_26) e0 (Bd.notSynchronized) ?_ (by decide) (by decide)
    exact ⟨rfl, N0⟩
  refine own_back ?_ (fun t k => XS.icmpYes X0.here hx rfl (pc0 := 12) (pc' := 19) rfl (hb hby at_12) rfl (feq hc12_4).2 (by decide) (by decide) k)
  show own_Go p e below PO (s₁.setTop (mkF m 19 #[.val (.int pA), .val (.int v1_1), .unset, .unset] []))
  refine own_back ?_ (fun t k => XS.iconst X0.here hx rfl (hb hby at_19) k)
  show own_Go p e below PO (s₁.setTop (mkF m 20 #[.val (.int pA), .val (.int v1_1), .unset, .unset] [(.int (0 : Int32))]))
  refine own_back ?_ (fun t k => XS.istoreN X0.here hx rfl (hb hby at_20) rfl (l' := #[.val (.int pA), .val (.int v1_1), .val (.int (0 : Int32)), .unset]) rfl k)
  show own_Go p e below PO (s₁.setTop (mkF m 21 #[.val (.int pA), .val (.int v1_1), .val (.int (0 : Int32)), .unset] []))
  refine own_back ?_ (fun t k => XS.iloadN X0.here hx rfl (hb hby at_21) rfl k)
  show own_Go p e below PO (s₁.setTop (mkF m 22 #[.val (.int pA), .val (.int v1_1), .val (.int (0 : Int32)), .unset] [(.int (0 : Int32))]))
  refine own_back ?_ (fun t k => XS.ifYes X0.here hx rfl (pc0 := 22) (pc' := 27) rfl (hb hby at_22) rfl ((if0 _ _).trans (teq rfl).1) (by decide) (by decide) k)
  show own_Go p e below PO (s₁.setTop (mkF m 27 #[.val (.int pA), .val (.int v1_1), .val (.int (0 : Int32)), .unset] []))
  refine own_back ?_ (fun t k => XS.iloadN X0.here hx rfl (hb hby at_27) rfl k)
  show own_Go p e below PO (s₁.setTop (mkF m 28 #[.val (.int pA), .val (.int v1_1), .val (.int (0 : Int32)), .unset] [(.int v1_1)]))
  obtain ⟨_, _, ⟨T6, L6, k6, n6⟩, -, X6, ⟨Lc6, hQ6, l6, y6, z6⟩, st6⟩ := Jvm.LawKit.callS X0 hx (y := (⟨"com/example/formula_search/formulasearch/analysis/LikenessRequireFindsNoPartsPinLaw", "pick", "(I)Lcom/example/formula_search/formulasearch/analysis/Likeness;"⟩ : MethodName)) hown (mvT hZ (hw _ (List.mem_of_getElem? (i := 0) rfl))) (mvT hZ (hw _ (List.mem_of_getElem? (i := 1) rfl))) (mvT hZ (hw _ (List.mem_of_getElem? (i := 2) rfl))) (mvT hZ (hw _ (List.mem_of_getElem? (i := 3) rfl))) (by decide) (backOf (W := 0) (rm1 l Z a0 hw [] v1_1  h0 n0 Z0 hc7_2 hc12_4 H_EXACT H_RENAMED H_OTHER_NUMBERS H_RENAMED_OTHER_NUMBERS H_OTHER_LETTERS H_SHAPE) hZ (hw _ (List.mem_of_getElem? (i := 3) rfl)) (hw _ (List.mem_of_getElem? (i := 2) rfl)) (by decide) (by decide)) (g := (mkF m 28 #[.val (.int pA), .val (.int v1_1), .val (.int (0 : Int32)), .unset] [(.int v1_1)])) rfl (by rw [hml]; rfl) (argsL := [(.int v1_1)]) (rest := []) (lenOf pd_0 rfl) rfl (by show 2 * 0 + _ ≤ _; exact Nat.le_of_eq rfl) (hb hby at_28) (fun _ _ => ⟨rfl, e0, (by decide : 0 + 0 ≤ _), (by decide : 0 + 0 ≤ _)⟩)
  dsimp only [Pt.U, Pt.locs, Pt.cells, Pt.slots] at X6 l6 y6 z6 st6 hQ6
  subst l6 y6 z6
  obtain ⟨aR, rfl, ER, FR, N6q, e6⟩ := hQ6
  have N6 := Fr.app N0 N6q
  refine own_back ?_ st6
  show own_Go p e below PO (T6.setTop (mkF m 31 #[.val (.int pA), .val (.int v1_1), .val (.int (0 : Int32)), .unset] [(.ref aR)]))
  refine own_back ?_ (fun t k => XS.astoreN X6.here hx rfl (hb hby at_31) rfl rfl (l' := #[.val (.int pA), .val (.int v1_1), .val (.int (0 : Int32)), .val (.ref aR)]) rfl k)
  show own_Go p e below PO (T6.setTop (mkF m 32 #[.val (.int pA), .val (.int v1_1), .val (.int (0 : Int32)), .val (.ref aR)] []))
  refine own_back ?_ (fun t k => XS.aloadN X6.here hx rfl (hb hby at_32) rfl rfl k)
  show own_Go p e below PO (T6.setTop (mkF m 33 #[.val (.int pA), .val (.int v1_1), .val (.int (0 : Int32)), .val (.ref aR)] [(.ref aR)]))
  obtain ⟨cq7, kq7, q7a, q7b, q7c⟩ := isOf hZ e6 ER
  obtain ⟨_, _, ⟨T7, L7, k7, n7⟩, -, X7, ⟨Lc7, hQ7, l7, y7, z7⟩, st7⟩ := X6.virtualBack hx (y := (⟨"com/example/formula_search/formulasearch/analysis/Likeness", "requireFindsNoParts", "()V"⟩ : MethodName)) (z := (⟨"com/example/formula_search/formulasearch/analysis/Likeness", "requireFindsNoParts", "()V"⟩ : MethodName)) hown (mvT hZ (hw _ (List.mem_of_getElem? (i := 7) rfl))) (mvT hZ (hw _ (List.mem_of_getElem? (i := 8) rfl))) (notFace_of_selects (args := #[]) (mvT hZ (hw _ (List.mem_of_getElem? (i := 10) rfl)))) (mvT hZ (hw _ (List.mem_of_getElem? (i := 10) rfl))) (mvT hZ (hw _ (List.mem_of_getElem? (i := 9) rfl))) (by decide) (backOf (W := 0) (rm2 l Z a0 hw [] aR  h0 n0 Z0 FR) hZ (hw _ (List.mem_of_getElem? (i := 11) rfl)) (hw _ (List.mem_of_getElem? (i := 5) rfl)) (by decide) (by decide)) q7a q7c (g := (mkF m 33 #[.val (.int pA), .val (.int v1_1), .val (.int (0 : Int32)), .val (.ref aR)] [(.ref aR)])) rfl (by rw [hml]; rfl) (Steps.refl _) (argsL := []) (rest := []) (lenOf pd_1 rfl) rfl (by show 2 * 0 + _ ≤ _; exact Nat.le_of_eq rfl) (hb hby at_33) (fun _ _ => ⟨rfl, e6, (by decide : 0 + 0 ≤ _), (by decide : 0 + 0 ≤ _)⟩)
  dsimp only [Pt.U, Pt.locs, Pt.cells, Pt.slots] at X7 l7 y7 z7 st7 hQ7
  subst l7 y7 z7
  obtain ⟨rfl, N7q, e7⟩ := hQ7
  have N7 := Fr.app N6 N7q
  refine own_back ?_ (fun t k => st7.trans k)
  show own_Go p e below PO (T7.setTop (mkF m 36 #[.val (.int pA), .val (.int v1_1), .val (.int (0 : Int32)), .val (.ref aR)] []))
  refine own_back ?_ (fun t k => XS.iconst X7.here hx rfl (hb hby at_36) k)
  show own_Go p e below PO (T7.setTop (mkF m 37 #[.val (.int pA), .val (.int v1_1), .val (.int (0 : Int32)), .val (.ref aR)] [(.int (1 : Int32))]))
  refine own_retN X7 hx (t := .boolean) (rest := []) Bd.returns (by decide) (by simp) (hb hby at_37) e7 (Bd.notSynchronized) ?_ (by decide) (by decide)
  exact ⟨rfl, N7⟩
set_option maxRecDepth 65536 in
set_option maxHeartbeats 40000000 in
theorem comes_1 {Post : Tables → Env → Array Value → State → Outcome → State → Prop} (hpost : ∀ tb e args s v u, (limb_1_1.after args s (.returned v) u = true ∧ limb_1_2.after args s (.returned v) u = true ∧ True) → FrameEnd s (.returned v) u (Jvm.fieldLocs frame_1_writes args s ++ Jvm.arrayLocs frame_1_arrays args s ++ Jvm.staticLocs frame_1_statics s) 0 0 → Post tb e args s (.returned v) u) :
    ArmFor flags0 classFile x code maxLocals ret World_1 tables_1 room_1 Calls_1 rest_1 Pre_1 Post := by
  intro l hfl _ _ p e ha hc hk s m args below hf hA hF happ hP
  obtain ⟨hcalls, hrest, hpre⟩ := hP
  obtain ⟨-, -, -, hnamed, -, -, -, hat⟩ := (Spec.applies_iff hf).mp happ
  obtain ⟨hg, hn⟩ := and_e (Cond.before_iff.mp (show (Jvm.Cond.and given_1 narrow_1).before args s = true from hpre))
  obtain ⟨gc, g0⟩ := and_e hg
  obtain ⟨w0, rfl⟩ : ∃ w0 : Value, args = #[w0] := by
    have hs : args.size = 1 := by simpa [Cond.value, given_1] using gc
    obtain ⟨L⟩ := args
    match L, hs with
    | [w0], _ => exact ⟨w0, rfl⟩
  have hw := fun d (hd : d ∈ tables_1) => atoms_spec (ws := Jvm.Cond.code x code maxLocals ret :: tables_1) hat d (List.mem_cons_of_mem _ hd)
  obtain ⟨i0, ei0⟩ := is_v g0
  obtain rfl : w0 = (.int i0) := Option.some.inj ei0
  obtain ⟨nA0, nB0⟩ := and_e hn
  obtain ⟨nA1, nB1⟩ := and_e nB0
  obtain ⟨nA2, nB2⟩ := and_e nB1
  obtain ⟨nA3, nB3⟩ := and_e nB2
  obtain ⟨nA4, nB4⟩ := and_e nB3
  obtain ⟨nA5, nB5⟩ := and_e nB4
  obtain ⟨nA6, nB6⟩ := and_e nB5
  obtain ⟨nA7, nB7⟩ := and_e nB6
  obtain ⟨nA8, nB8⟩ := and_e nB7
  obtain ⟨nA9, nB9⟩ := and_e nB8
  obtain ⟨nA10, nB10⟩ := and_e nB9
  obtain ⟨a_EXACT, ev_EXACT⟩ := exa_v nA0
  have E_EXACT := Exa.start ev_EXACT nA0
  have S_EXACT := Sta.start ev_EXACT (Or.inr ⟨(hw _ (List.mem_of_getElem? (i := 5) rfl)), (hw _ (List.mem_of_getElem? (i := 6) rfl))⟩)
  obtain ⟨a_OTHER_LETTERS, ev_OTHER_LETTERS⟩ := exa_v nA2
  have E_OTHER_LETTERS := Exa.start ev_OTHER_LETTERS nA2
  have S_OTHER_LETTERS := Sta.start ev_OTHER_LETTERS (Or.inr ⟨(hw _ (List.mem_of_getElem? (i := 5) rfl)), (hw _ (List.mem_of_getElem? (i := 15) rfl))⟩)
  obtain ⟨a_SHAPE, ev_SHAPE⟩ := exa_v nA4
  have E_SHAPE := Exa.start ev_SHAPE nA4
  have S_SHAPE := Sta.start ev_SHAPE (Or.inr ⟨(hw _ (List.mem_of_getElem? (i := 5) rfl)), (hw _ (List.mem_of_getElem? (i := 17) rfl))⟩)
  obtain ⟨a_RENAMED, ev_RENAMED⟩ := exa_v nA6
  have E_RENAMED := Exa.start ev_RENAMED nA6
  have S_RENAMED := Sta.start ev_RENAMED (Or.inr ⟨(hw _ (List.mem_of_getElem? (i := 5) rfl)), (hw _ (List.mem_of_getElem? (i := 19) rfl))⟩)
  obtain ⟨a_OTHER_NUMBERS, ev_OTHER_NUMBERS⟩ := exa_v nA8
  have E_OTHER_NUMBERS := Exa.start ev_OTHER_NUMBERS nA8
  have S_OTHER_NUMBERS := Sta.start ev_OTHER_NUMBERS (Or.inr ⟨(hw _ (List.mem_of_getElem? (i := 5) rfl)), (hw _ (List.mem_of_getElem? (i := 21) rfl))⟩)
  obtain ⟨a_RENAMED_OTHER_NUMBERS, ev_RENAMED_OTHER_NUMBERS⟩ := exa_v nA10
  have E_RENAMED_OTHER_NUMBERS := Exa.start ev_RENAMED_OTHER_NUMBERS nA10
  have S_RENAMED_OTHER_NUMBERS := Sta.start ev_RENAMED_OTHER_NUMBERS (Or.inr ⟨(hw _ (List.mem_of_getElem? (i := 5) rfl)), (hw _ (List.mem_of_getElem? (i := 23) rfl))⟩)
  have F_EXACT_part := own_fldI ev_EXACT nA1
  have F_OTHER_LETTERS_part := own_fldI ev_OTHER_LETTERS nA3
  have F_SHAPE_part := own_fldI ev_SHAPE nA5
  have F_RENAMED_part := own_fldI ev_RENAMED nA7
  have F_OTHER_NUMBERS_part := own_fldI ev_OTHER_NUMBERS nA9
  have F_RENAMED_OTHER_NUMBERS_part := own_fldI ev_RENAMED_OTHER_NUMBERS nB10
  obtain ⟨n, o, h1, h2, h3, _, L, rfl, ⟨rfl, N⟩, hq⟩ := rm0 l s _ hw tables_1 i0  s.heap s.heap.size (Nat.le_refl _) ⟨a_EXACT, S_EXACT, E_EXACT, F_EXACT_part⟩ ⟨a_RENAMED, S_RENAMED, E_RENAMED, F_RENAMED_part⟩ ⟨a_OTHER_NUMBERS, S_OTHER_NUMBERS, E_OTHER_NUMBERS, F_OTHER_NUMBERS_part⟩ ⟨a_RENAMED_OTHER_NUMBERS, S_RENAMED_OTHER_NUMBERS, E_RENAMED_OTHER_NUMBERS, F_RENAMED_OTHER_NUMBERS_part⟩ ⟨a_OTHER_LETTERS, S_OTHER_LETTERS, E_OTHER_LETTERS, F_OTHER_LETTERS_part⟩ ⟨a_SHAPE, S_SHAPE, E_SHAPE, F_SHAPE_part⟩ p e ha hc hk s m _ below hf ((Spec.applies_iff_loose hf).mp happ).1 ⟨rfl, State.Warmed39.refl s, rfl⟩ trivial
  refine ⟨n, _, h1, h2, h3, hpost _ _ _ _ _ _ ⟨Cond.after_iff.mpr rfl, Cond.after_iff.mpr (eq_i res_at (Term.int_eval (1)) rfl), trivial⟩ ⟨hq.1, hq.2.1, (hq.2.2.sift fun y hy => Or.inr (N y hy)).mono (by decide) (by decide)⟩⟩
theorem main_1_1 : Claimed_1_1 := comes_1 fun _ _ _ _ _ _ h hF => ⟨h.1, hF⟩
theorem main_1_2 : Claimed_1_2 := comes_1 fun _ _ _ _ _ _ h hF => ⟨h.2.1, hF⟩
end Jvm.Pilot.@@N@@
namespace Jvm.Pilot.@@N@@
open Jvm Jvm.ClassFile Sem Op Lib Jvm.Free Jvm.Stand Jvm.Pilot.@@N@@.Jvm.D
/-! MADE BY PROGRAM (witnessworld.py) out of the Statement's table words and the real class files: 12 classes; the members and pool entries that the words name. The judged class is class 1, her method 2. -/
namespace start1
open Jvm.ClassFile
def u (s : String) : CpInfo := .utf8 (stringToUtf16 s)
/-- a pool by its gaps: so many unusable entries, then the entry; so many at the end -/
def gap : Nat → List CpInfo → List CpInfo
  | 0, r => r
  | n + 1, r => .unusable :: gap n r
def poolList (es : List (Nat × CpInfo)) (last : Nat) : List CpInfo := es.foldr (fun e r => gap e.1 (e.2 :: r)) (gap last [])
def pool (es : List (Nat × CpInfo)) (last : Nat) : Array CpInfo := ⟨poolList es last⟩
def fileOf (pool : Array CpInfo) (this : Nat) (attrs : Array Attribute := #[]) (ms : Array MethodInfo := #[]) (fl : Nat := 33) (sup : Nat := 0) (ifs : Array Nat := #[]) (fds : Array FieldInfo := #[]) : ClassFile where
  minorVersion := 0
  majorVersion := 65
  constantPool := pool
  accessFlags := fl
  thisClass := this
  superClass := sup
  interfaces := ifs
  fields := fds
  methods := ms
  attributes := attrs
def plain (name : String) (sup : Option ClassId) : Class where
  name := name
  kind := .ordinary
  loader := none
  accessFlags := 33
  super := sup
  interfaces := #[]
  cf := none
  fields := #[]
  methods := #[]
  instanceTypes := #[]
  staticTypes := #[]
  resolved := #[]
  callSites := []
  init := .initialized
  statics := none
  mirror := none

def pool0 : Array CpInfo := pool [(5, u "<init>"), (0, u "()V"), (1, .class_ 10), (1, u "java/lang/Object")] 113

def k0m0 : Method := { name := "<init>", desc := "()V", sig := { parameters := [], returnType := none }, accessFlags := 1, code := none }
/-- java/lang/Object -/
def k0 : Class := { plain "java/lang/Object" none with
  accessFlags := 33
  interfaces := #[]
  cf := some (fileOf pool0 8 #[] #[{ accessFlags := 1, nameIndex := 5, descriptorIndex := 6, attributes := #[] }] 33 0 #[] #[])
  fields := #[]
  methods := #[k0m0]
  instanceTypes := #[]
  staticTypes := #[]
  resolved := Array.replicate 124 none
  statics := none }

def pool1 : Array CpInfo := pool [(2, .class_ 4), (1, u "java/lang/Object"), (0, u "<init>"), (0, u "()V"), (0, .fieldref 8 9), (0, .class_ 10), (0, .nameAndType 11 12), (0, u "com/example/formula_search/formulasearch/analysis/Likeness"), (0, u "EXACT"), (0, u "Lcom/example/formula_search/formulasearch/analysis/Likeness;"), (3, .fieldref 8 17), (0, .nameAndType 18 12), (0, u "RENAMED"), (3, .fieldref 8 23), (0, .nameAndType 24 12), (0, u "OTHER_NUMBERS"), (0, .fieldref 8 26), (0, .nameAndType 27 12), (0, u "RENAMED_OTHER_NUMBERS"), (0, .fieldref 8 29), (0, .nameAndType 30 12), (0, u "OTHER_LETTERS"), (0, .fieldref 8 32), (0, .nameAndType 33 12), (0, u "SHAPE"), (0, .methodref 35 36), (0, .class_ 37), (0, .nameAndType 38 39), (0, u "com/example/formula_search/formulasearch/analysis/LikenessRequireFindsNoPartsPinLaw"), (0, u "pick"), (0, u "(I)Lcom/example/formula_search/formulasearch/analysis/Likeness;"), (0, .methodref 8 41), (0, .nameAndType 42 6), (0, u "requireFindsNoParts"), (3, u "law"), (0, u "(I)Z")] 2

def k1m0 : Method := { name := "<init>", desc := "()V", sig := { parameters := [], returnType := none }, accessFlags := 1, code := none }
def k1c1 : Code := { maxStack := 2, maxLocals := 1, code := method_2_code, exceptionTable := #[], attributes := #[] }
def k1m1 : Method := { name := "pick", desc := "(I)Lcom/example/formula_search/formulasearch/analysis/Likeness;", sig := { parameters := [.int], returnType := some (.object "com/example/formula_search/formulasearch/analysis/Likeness") }, accessFlags := 10, code := some k1c1 }
def k1c2 : Code := { maxStack := 2, maxLocals := 4, code := code, exceptionTable := #[], attributes := #[] }
def k1m2 : Method := { name := "law", desc := "(I)Z", sig := { parameters := [.int], returnType := some .boolean }, accessFlags := 9, code := some k1c2 }
/-- com/example/formula_search/formulasearch/analysis/LikenessRequireFindsNoPartsPinLaw -/
def k1 : Class := { plain "com/example/formula_search/formulasearch/analysis/LikenessRequireFindsNoPartsPinLaw" (some 0) with
  accessFlags := 49
  interfaces := #[]
  cf := some (fileOf pool1 35 #[] #[{ accessFlags := 1, nameIndex := 5, descriptorIndex := 6, attributes := #[] }, { accessFlags := 10, nameIndex := 38, descriptorIndex := 39, attributes := #[] }, { accessFlags := 9, nameIndex := 46, descriptorIndex := 47, attributes := #[] }] 49 2 #[] #[])
  fields := #[]
  methods := #[k1m0, k1m1, k1m2]
  instanceTypes := #[]
  staticTypes := #[]
  resolved := Array.replicate 50 none
  statics := none }

def pool2 : Array CpInfo := pool [(1, .class_ 2), (0, u "java/lang/constant/Constable"), (0, .class_ 4), (0, u "java/lang/Object")] 6

/-- java/lang/constant/Constable -/
def k2 : Class := { plain "java/lang/constant/Constable" (some 0) with
  accessFlags := 1537
  interfaces := #[]
  cf := some (fileOf pool2 1 #[] #[] 1537 3 #[] #[])
  fields := #[]
  methods := #[]
  instanceTypes := #[]
  staticTypes := #[]
  resolved := Array.replicate 11 none
  statics := none }

def pool3 : Array CpInfo := pool [(1, .class_ 2), (0, u "java/lang/Comparable"), (0, .class_ 4), (0, u "java/lang/Object")] 7

/-- java/lang/Comparable -/
def k3 : Class := { plain "java/lang/Comparable" (some 0) with
  accessFlags := 1537
  interfaces := #[]
  cf := some (fileOf pool3 1 #[] #[] 1537 3 #[] #[])
  fields := #[]
  methods := #[]
  instanceTypes := #[]
  staticTypes := #[]
  resolved := Array.replicate 12 none
  statics := none }

def pool4 : Array CpInfo := pool [(1, .class_ 2), (0, u "java/io/Serializable"), (0, .class_ 4), (0, u "java/lang/Object")] 2

/-- java/io/Serializable -/
def k4 : Class := { plain "java/io/Serializable" (some 0) with
  accessFlags := 1537
  interfaces := #[]
  cf := some (fileOf pool4 1 #[] #[] 1537 3 #[] #[])
  fields := #[]
  methods := #[]
  instanceTypes := #[]
  staticTypes := #[]
  resolved := Array.replicate 7 none
  statics := none }

def pool5 : Array CpInfo := pool [(2, .class_ 4), (1, u "java/lang/Enum"), (0, u "name"), (0, u "Ljava/lang/String;"), (2, u "ordinal"), (0, u "I"), (1, .class_ 14), (1, u "java/lang/Object"), (4, u "hash"), (86, .class_ 108), (1, u "java/lang/Enum$EnumDesc"), (2, .class_ 112), (0, u "java/lang/constant/Constable"), (0, .class_ 114), (0, u "java/lang/Comparable"), (0, .class_ 116), (0, u "java/io/Serializable")] 87

/-- java/lang/Enum -/
def k5 : Class := { plain "java/lang/Enum" (some 0) with
  accessFlags := 1057
  interfaces := #[2, 3, 4]
  cf := some (fileOf pool5 2 #[.nestMembers #[106]] #[] 1057 12 #[111, 113, 115] #[{ accessFlags := 18, nameIndex := 5, descriptorIndex := 6, attributes := #[] }, { accessFlags := 18, nameIndex := 9, descriptorIndex := 10, attributes := #[] }, { accessFlags := 2, nameIndex := 19, descriptorIndex := 10, attributes := #[] }])
  fields := #[{ name := "name", type := (.object "java/lang/String"), accessFlags := 18, slot := 0, constantValue := 0 }, { name := "ordinal", type := .int, accessFlags := 18, slot := 1, constantValue := 0 }, { name := "hash", type := .int, accessFlags := 2, slot := 2, constantValue := 0 }]
  methods := #[]
  instanceTypes := #[(.object "java/lang/String"), .int, .int]
  staticTypes := #[]
  resolved := Array.replicate 204 none
  statics := none }

def pool6 : Array CpInfo := pool [(1, .class_ 2), (0, u "com/example/formula_search/formulasearch/analysis/Likeness"), (2, u "EXACT"), (0, u "Lcom/example/formula_search/formulasearch/analysis/Likeness;"), (2, u "EXACT_PART"), (2, u "RENAMED"), (2, u "RENAMED_PART"), (2, u "OTHER_NUMBERS"), (2, u "RENAMED_OTHER_NUMBERS"), (2, u "OTHER_LETTERS"), (2, u "SHAPE"), (2, u "$VALUES"), (0, u "[Lcom/example/formula_search/formulasearch/analysis/Likeness;"), (6, .class_ 40), (1, u "java/lang/Enum"), (8, u "letters"), (0, u "Lcom/example/formula_search/formulasearch/analysis/Likeness$Kept;"), (2, u "numbers"), (0, u "Z"), (2, u "fonts"), (0, .fieldref 1 59), (0, .nameAndType 60 54), (0, u "part"), (17, u "PARTS"), (0, u "Ljava/util/List;"), (24, .class_ 106), (1, u "com/example/formula_search/formulasearch/analysis/Likeness$Kept"), (53, u "WHOLE"), (9, u "requireFindsNoParts"), (0, u "()V")] 51

def k6c0 : Code := { maxStack := 3, maxLocals := 1, code := prog_7_method_5_code, exceptionTable := #[], attributes := #[] }
def k6m0 : Method := { name := "requireFindsNoParts", desc := "()V", sig := { parameters := [], returnType := none }, accessFlags := 1, code := some k6c0 }
/-- com/example/formula_search/formulasearch/analysis/Likeness -/
def k6 : Class := { plain "com/example/formula_search/formulasearch/analysis/Likeness" (some 5) with
  accessFlags := 16433
  interfaces := #[]
  cf := some (fileOf pool6 1 #[.nestMembers #[104]] #[{ accessFlags := 1, nameIndex := 170, descriptorIndex := 171, attributes := #[] }] 16433 38 #[] #[{ accessFlags := 16409, nameIndex := 5, descriptorIndex := 6, attributes := #[] }, { accessFlags := 16409, nameIndex := 9, descriptorIndex := 6, attributes := #[] }, { accessFlags := 16409, nameIndex := 12, descriptorIndex := 6, attributes := #[] }, { accessFlags := 16409, nameIndex := 15, descriptorIndex := 6, attributes := #[] }, { accessFlags := 16409, nameIndex := 18, descriptorIndex := 6, attributes := #[] }, { accessFlags := 16409, nameIndex := 21, descriptorIndex := 6, attributes := #[] }, { accessFlags := 16409, nameIndex := 24, descriptorIndex := 6, attributes := #[] }, { accessFlags := 16409, nameIndex := 27, descriptorIndex := 6, attributes := #[] }, { accessFlags := 24, nameIndex := 160, descriptorIndex := 79, attributes := #[] }, { accessFlags := 24, nameIndex := 78, descriptorIndex := 79, attributes := #[] }, { accessFlags := 18, nameIndex := 49, descriptorIndex := 50, attributes := #[] }, { accessFlags := 18, nameIndex := 53, descriptorIndex := 54, attributes := #[] }, { accessFlags := 18, nameIndex := 57, descriptorIndex := 54, attributes := #[] }, { accessFlags := 18, nameIndex := 60, descriptorIndex := 54, attributes := #[] }, { accessFlags := 4122, nameIndex := 30, descriptorIndex := 31, attributes := #[] }])
  fields := #[{ name := "EXACT", type := (.object "com/example/formula_search/formulasearch/analysis/Likeness"), accessFlags := 16409, slot := 0, constantValue := 0 }, { name := "EXACT_PART", type := (.object "com/example/formula_search/formulasearch/analysis/Likeness"), accessFlags := 16409, slot := 1, constantValue := 0 }, { name := "RENAMED", type := (.object "com/example/formula_search/formulasearch/analysis/Likeness"), accessFlags := 16409, slot := 2, constantValue := 0 }, { name := "RENAMED_PART", type := (.object "com/example/formula_search/formulasearch/analysis/Likeness"), accessFlags := 16409, slot := 3, constantValue := 0 }, { name := "OTHER_NUMBERS", type := (.object "com/example/formula_search/formulasearch/analysis/Likeness"), accessFlags := 16409, slot := 4, constantValue := 0 }, { name := "RENAMED_OTHER_NUMBERS", type := (.object "com/example/formula_search/formulasearch/analysis/Likeness"), accessFlags := 16409, slot := 5, constantValue := 0 }, { name := "OTHER_LETTERS", type := (.object "com/example/formula_search/formulasearch/analysis/Likeness"), accessFlags := 16409, slot := 6, constantValue := 0 }, { name := "SHAPE", type := (.object "com/example/formula_search/formulasearch/analysis/Likeness"), accessFlags := 16409, slot := 7, constantValue := 0 }, { name := "WHOLE", type := (.object "java/util/List"), accessFlags := 24, slot := 8, constantValue := 0 }, { name := "PARTS", type := (.object "java/util/List"), accessFlags := 24, slot := 9, constantValue := 0 }, { name := "letters", type := (.object "com/example/formula_search/formulasearch/analysis/Likeness$Kept"), accessFlags := 18, slot := 3, constantValue := 0 }, { name := "numbers", type := .boolean, accessFlags := 18, slot := 4, constantValue := 0 }, { name := "fonts", type := .boolean, accessFlags := 18, slot := 5, constantValue := 0 }, { name := "part", type := .boolean, accessFlags := 18, slot := 6, constantValue := 0 }, { name := "$VALUES", type := (.array (.object "com/example/formula_search/formulasearch/analysis/Likeness")), accessFlags := 4122, slot := 10, constantValue := 0 }]
  methods := #[k6m0]
  instanceTypes := #[(.object "java/lang/String"), .int, .int, (.object "com/example/formula_search/formulasearch/analysis/Likeness$Kept"), .boolean, .boolean, .boolean]
  staticTypes := #[(.object "com/example/formula_search/formulasearch/analysis/Likeness"), (.object "com/example/formula_search/formulasearch/analysis/Likeness"), (.object "com/example/formula_search/formulasearch/analysis/Likeness"), (.object "com/example/formula_search/formulasearch/analysis/Likeness"), (.object "com/example/formula_search/formulasearch/analysis/Likeness"), (.object "com/example/formula_search/formulasearch/analysis/Likeness"), (.object "com/example/formula_search/formulasearch/analysis/Likeness"), (.object "com/example/formula_search/formulasearch/analysis/Likeness"), (.object "java/util/List"), (.object "java/util/List"), (.array (.object "com/example/formula_search/formulasearch/analysis/Likeness"))]
  resolved := Array.replicate 223 none
  statics := some 0 }

def pool7 : Array CpInfo := pool [(1, u "java/lang/Cloneable"), (0, .class_ 1), (0, u "java/lang/Object"), (0, .class_ 3)] 3

/-- java/lang/Cloneable -/
def k7 : Class := { plain "java/lang/Cloneable" (some 0) with
  accessFlags := 1537
  interfaces := #[]
  cf := some (fileOf pool7 2 #[] #[] 1537 4 #[] #[])
  fields := #[]
  methods := #[]
  instanceTypes := #[]
  staticTypes := #[]
  resolved := Array.replicate 8 none
  statics := none }

/-- the primitive byte -/
def k8 : Class := { plain "byte" none with kind := .primitive 'B', accessFlags := 0x411 }
/-- [B -/
def k9 : Class := { plain "[B" (some 0) with kind := .array 8 .byte, interfaces := #[7, 4], accessFlags := 1041 }

/-- the primitive int -/
def k10 : Class := { plain "int" none with kind := .primitive 'I', accessFlags := 0x411 }
/-- [I -/
def k11 : Class := { plain "[I" (some 0) with kind := .array 10 .int, interfaces := #[7, 4], accessFlags := 1041 }

def heap : Heap := #[{ cls := 6, slots := #[.ref 1, .null, .ref 4, .null, .ref 5, .ref 6, .ref 2, .ref 3, .null, .null, .null], vm := .statics 6 },
  { cls := 6, slots := #[.null, .int 0, .int 0, .null, .int 0, .int 0, .int 0], vm := .none },
  { cls := 6, slots := #[.null, .int 0, .int 0, .null, .int 0, .int 0, .int 0], vm := .none },
  { cls := 6, slots := #[.null, .int 0, .int 0, .null, .int 0, .int 0, .int 0], vm := .none },
  { cls := 6, slots := #[.null, .int 0, .int 0, .null, .int 0, .int 0, .int 0], vm := .none },
  { cls := 6, slots := #[.null, .int 0, .int 0, .null, .int 0, .int 0, .int 0], vm := .none },
  { cls := 6, slots := #[.null, .int 0, .int 0, .null, .int 0, .int 0, .int 0], vm := .none }]
def classes : Array Class := #[k0, k1, k2, k3, k4, k5, k6, k7, k8, k9, k10, k11]
def interned : List (Array UInt16 × Addr) := []
def slotsUsed : Nat := 53
def theMethod : MethodId := ⟨1, 2⟩
def args0 : Array Value := #[.int 5]
def aboutOver (below : List Frame) : State where
  vm := { classes := classes, interned := interned.toArray }
  heap := heap
  slotsUsed := slotsUsed
  threads := #[{ frames := .invoking theMethod args0 :: below }]
def below0 : List Frame := [.native { method := ⟨0, 0⟩, args := #[] }]
def about1 : State := aboutOver below0
def p0 : Program := .bare "" "" ""
def e0 : Env := launch0.env 0 0 0
theorem w_frames : about1.frames = Frame.invoking theMethod args0 :: below0 := rfl
set_option maxRecDepth 65536 in
theorem w_args : argsFit about1.vm theMethod args0 = true := by decide +kernel
set_option maxRecDepth 65536 in
theorem w_heap : heapFits about1 = true := by decide +kernel
set_option maxRecDepth 65536 in
theorem w_runnable : about1.curStatus? = some .runnable := by decide +kernel
set_option maxRecDepth 65536 in
theorem w_alone : about1.alone = true := by decide +kernel
set_option maxRecDepth 65536 in
theorem w_named : about1.methodNamed? x = some theMethod := by decide +kernel
set_option maxRecDepth 65536 in
theorem w_hears : about1.hears theMethod below0 = true := by decide +kernel
set_option maxRecDepth 65536 in
theorem w_ripe : about1.ripe theMethod args0 below0 = true := by decide +kernel
theorem w_running : about1.status = .running := rfl
set_option maxRecDepth 65536 in
theorem w_room : about1.hasRoom e0.platform room_1 = true :=
  launch0.hasRoom_least _ room_1 (by decide +kernel) (by decide +kernel) (by decide +kernel) (by decide +kernel) (by decide +kernel) (by decide +kernel)
theorem allAtoms_all (ts : List Jvm.Cond) (a : Array Jvm.Value) (st : Jvm.State) : (allAtoms ts).before a st = ts.all (fun c => c.before a st) := by
  induction ts with
  | nil => rfl
  | cons c t ih =>
    show (Jvm.Cond.and c (allAtoms t)).before a st = _
    rw [Jvm.Cond.before_and, ih, List.all_cons]
def words1 : List Jvm.Cond := Jvm.Cond.code x code maxLocals ret :: tables_1
/-- a 'code' word, met by the world's own term for the bytes: nothing is compared byte by byte -/
theorem code_word {y : MethodName} {bytes : ByteArray} {mx : Nat} {rt : Option FieldType} {a : Array Value} {s : State} {m : MethodId} {meth : Method} {c : Code} (h1 : s.methodNamed? y = some m) (h2 : s.vm.method? m = some meth) (h3 : meth.code = some c) (h4 : c.code = bytes)
    (h5 : (c.maxLocals == mx && c.exceptionTable.isEmpty && decide (c.maxStack ≤ mostOperands) && decide (meth.sig.returnType = rt) && !meth.locks && decide (parseMethodDescriptor y.desc = some meth.sig)) = true) : (Jvm.Cond.code y bytes mx rt).before a s = true := by
  simp only [Bool.and_eq_true, beq_iff_eq, Bool.not_eq_true', decide_eq_true_eq] at h5
  obtain ⟨⟨⟨⟨⟨g1, g2⟩, g3⟩, g4⟩, g5⟩, g6⟩ := h5
  simp [Cond.before, Cond.holds, Cond.value, h1, h2, h3, h4, g1, g2, g3, g4, g5, g6]
def isCode : Jvm.Cond → Bool
  | .code _ _ _ _ => true
  | _ => false
theorem all_split {L : List Jvm.Cond} {P : Jvm.Cond → Bool} (h1 : L.all (fun c => isCode c || P c) = true) (h2 : ∀ c ∈ L.filter isCode, P c = true) : L.all P = true := by
  refine List.all_eq_true.mpr fun c hc => ?_
  have h := List.all_eq_true.mp h1 c hc
  rcases Bool.eq_false_or_eq_true (isCode c) with hi | hi
  · exact h2 c (List.mem_filter.mpr ⟨hc, hi⟩)
  · simpa [hi] using h
set_option maxRecDepth 65536 in
theorem w_c0 : (Jvm.Cond.code x code maxLocals ret).before args0 about1 = true := code_word (m := ⟨1, 2⟩) (meth := k1m2) (c := k1c2) (by decide +kernel) rfl rfl rfl (by decide +kernel)
set_option maxRecDepth 65536 in
theorem w_c1 : (Jvm.Cond.code ({ cls := "com/example/formula_search/formulasearch/analysis/LikenessRequireFindsNoPartsPinLaw", name := "pick", desc := "(I)Lcom/example/formula_search/formulasearch/analysis/Likeness;" } : Jvm.MethodName) method_2_code (1 : Nat) (Option.some (Jvm.ClassFile.FieldType.object "com/example/formula_search/formulasearch/analysis/Likeness"))).before args0 about1 = true := code_word (m := ⟨1, 1⟩) (meth := k1m1) (c := k1c1) (by decide +kernel) rfl rfl rfl (by decide +kernel)
set_option maxRecDepth 65536 in
theorem w_c2 : (Jvm.Cond.code ({ cls := "com/example/formula_search/formulasearch/analysis/Likeness", name := "requireFindsNoParts", desc := "()V" } : Jvm.MethodName) prog_7_method_5_code (1 : Nat) (Option.none : Option Jvm.ClassFile.FieldType)).before args0 about1 = true := code_word (m := ⟨6, 0⟩) (meth := k6m0) (c := k6c0) (by decide +kernel) rfl rfl rfl (by decide +kernel)
def codes1 : List Jvm.Cond := [Jvm.Cond.code x code maxLocals ret, Jvm.Cond.code ({ cls := "com/example/formula_search/formulasearch/analysis/LikenessRequireFindsNoPartsPinLaw", name := "pick", desc := "(I)Lcom/example/formula_search/formulasearch/analysis/Likeness;" } : Jvm.MethodName) method_2_code (1 : Nat) (Option.some (Jvm.ClassFile.FieldType.object "com/example/formula_search/formulasearch/analysis/Likeness")), Jvm.Cond.code ({ cls := "com/example/formula_search/formulasearch/analysis/Likeness", name := "requireFindsNoParts", desc := "()V" } : Jvm.MethodName) prog_7_method_5_code (1 : Nat) (Option.none : Option Jvm.ClassFile.FieldType)]
set_option maxRecDepth 65536 in
theorem codes_eq : words1.filter isCode = codes1 := rfl
theorem w_codes : ∀ c ∈ words1.filter isCode, c.before args0 about1 = true := by
  rw [codes_eq]
  intro c hc
  simp only [codes1, List.mem_cons, List.not_mem_nil, or_false] at hc
  rcases hc with rfl | rfl | rfl
  · exact w_c0
  · exact w_c1
  · exact w_c2
set_option maxRecDepth 65536 in
theorem w_t1 : (words1.take 24).all (fun c => isCode c || c.before args0 about1) = true := by decide +kernel
set_option maxRecDepth 65536 in
theorem w_t2 : (words1.drop 24).all (fun c => isCode c || c.before args0 about1) = true := by decide +kernel
theorem w_tables : (allAtoms (Jvm.Cond.code x code maxLocals ret :: tables_1)).before args0 about1 = true := by
  rw [allAtoms_all]
  show words1.all (fun c => c.before args0 about1) = true
  refine all_split ?_ w_codes
  rw [← List.take_append_drop 24 words1, List.all_append, w_t1, w_t2]
  rfl
set_option maxRecDepth 65536 in
theorem w_case : (Jvm.Cond.and given_1 narrow_1).before args0 about1 = true := by decide +kernel
theorem w_applies : (headSpec (Jvm.Cond.code x code maxLocals ret :: tables_1) room_1).applies x e0.platform about1 = true :=
  (Spec.applies_iff w_frames).mpr ⟨w_running, w_runnable, w_alone, w_named, w_hears, w_ripe, w_room, w_tables⟩
theorem atStart : AtStart classFile x code maxLocals ret World_1 tables_1 room_1 Calls_1 rest_1 Pre_1 launch0 p0 e0 about1 theMethod args0 below0 :=
  ⟨lists_1, trivial, launch0.admits_env _ _ _, launch0.least_env, fairChoices_fair.cas, fairChoices_fair.clock, w_frames, w_args, w_heap, w_applies, trivial, trivial, w_case⟩
end start1
theorem witness_1 : WitnessClaimed_1 := ⟨start1.p0, start1.e0, start1.about1, start1.theMethod, start1.args0, start1.below0, start1.atStart⟩
end Jvm.Pilot.@@N@@
