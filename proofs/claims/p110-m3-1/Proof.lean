import JvmDerived
import JvmDerived.Pilot.@@N@@Statement
import JvmDerived.Pilot.@@N@@Code
set_option linter.unusedVariables false
set_option linter.unusedSimpArgs false
namespace Jvm.RoadKit
open Sem ClassFile Op Lib Jvm.Stand Jvm.Free Jvm.LawKit
/-! the goal of a walk, seen from where it stands -/
def own_Go (p : Program) (e : Env) (below : List Frame) (PO : Outcome → State → Prop) (U : State) : Prop :=
  ∃ s₂ o, Steps p.tables e below U s₂ ∧ s₂.status = .running ∧ Ended s₂ below o ∧ PO o s₂
def own_PO (s : State) (Q : Option Value → Heap → List Loc → Prop) (C N : Nat) : Outcome → State → Prop :=
  fun o U' => ∃ v L, o = .returned v ∧ Q v U'.heap L ∧ FrameEnd s o U' L C N
theorem own_back {p : Program} {e : Env} {below : List Frame} {PO : Outcome → State → Prop} {U V : State} (h : own_Go p e below PO V)
    (st : ∀ t, Steps p.tables e below V t → Steps p.tables e below U t) : own_Go p e below PO U := by
  obtain ⟨t, o, h1, h2⟩ := h
  exact ⟨t, o, st t h1, h2⟩
theorem own_gen {A : Type} (x : A) (P : A → Prop) (h : ∀ c, c = x → P c) : P x := h x rfl
section New
variable {p : Program} {l : Launch} {e : Env} {R : Room} {s : State} {m : MethodId} {args : Array Value} {below : List Frame} {meth : Method} {c : Code} {T : State} {locs : List Loc} {cells slots : Nat} {h : Heap}
  {Q : Option Value → Heap → List Loc → Prop} {C N : Nat}
theorem own_end (X : Stand p l e R s m args below meth c T locs cells slots) {v : Option Value} {U : State} (hv : meth.sig.returnType = none → v = none) (eT : T.heap = h) (hk : meth.locks = false)
    (st : ∀ fs, (∀ (f : JFrame) (acts : List Action), f.method = m → f.locked = none → f.entered = [] → (doReturn e (T.setTop f) acts v).1 = T.setFrames fs) → Steps p.tables e below U (T.setFrames fs))
    (hQ : Q v h locs) (hc : cells ≤ C) (hn : slots ≤ N) : own_Go p e below (own_PO s Q C N) U := by
  obtain ⟨fs, hr, hrun, hended, hW, hsame⟩ := X.leave (v := v) hv hk
  subst eT
  exact ⟨_, _, st fs hr, hrun, hended, _, _, rfl, hQ, ⟨_, rfl⟩, hW, hsame.mono hc hn⟩
theorem own_retV (X : Stand p l e R s m args below meth c T locs cells slots) (hx : p.tables.exec = Jvm.exec) {pc : Nat} {Ls : Array Slot} (hret : meth.sig.returnType = none) (hd : decode c.code pc = .ok (.return_, 1))
    (eT : T.heap = h) (hk : meth.locks = false) (hQ : Q none h locs) (hc : cells ≤ C) (hn : slots ≤ N) : own_Go p e below (own_PO s Q C N) (T.setTop (mkF m pc Ls [])) :=
  own_end X (fun _ => rfl) eT hk (fun fs hr => X.returnOut hx hret hd hr) hQ hc hn
theorem own_retI (X : Stand p l e R s m args below meth c T locs cells slots) (hx : p.tables.exec = Jvm.exec) {pc : Nat} {Ls : Array Slot} {z : Int32} {rest : List Value} (hret : meth.sig.returnType = some .int) (hd : decode c.code pc = .ok (.ireturn, 1))
    (eT : T.heap = h) (hk : meth.locks = false) (hQ : Q (some (.int z)) h locs) (hc : cells ≤ C) (hn : slots ≤ N) : own_Go p e below (own_PO s Q C N) (T.setTop (mkF m pc Ls (.int z :: rest))) :=
  own_end X (fun q => by rw [hret] at q; cases q) eT hk (fun fs hr => retOut X hx hret rfl (Or.inl ⟨rfl, Or.inl rfl, z, rfl⟩) hd hr) hQ hc hn
theorem own_retN (X : Stand p l e R s m args below meth c T locs cells slots) (hx : p.tables.exec = Jvm.exec) {pc : Nat} {Ls : Array Slot} {z : Int32} {t : FieldType} {rest : List Value} (hret : meth.sig.returnType = some t) (hz : nar t z = z) (ht : t = .boolean ∨ t = .byte ∨ t = .char ∨ t = .short) (hd : decode c.code pc = .ok (.ireturn, 1))
    (eT : T.heap = h) (hk : meth.locks = false) (hQ : Q (some (.int z)) h locs) (hc : cells ≤ C) (hn : slots ≤ N) : own_Go p e below (own_PO s Q C N) (T.setTop (mkF m pc Ls (.int z :: rest))) :=
  own_end X (fun q => by rw [hret] at q; cases q) eT hk (fun fs hr => retN X hx (t := t) hret ht hd (by rw [hz]; exact hr)) hQ hc hn
theorem own_retJ (X : Stand p l e R s m args below meth c T locs cells slots) (hx : p.tables.exec = Jvm.exec) {pc : Nat} {Ls : Array Slot} {z : Int64} {rest : List Value} (hret : meth.sig.returnType = some .long) (hd : decode c.code pc = .ok (.lreturn, 1))
    (eT : T.heap = h) (hk : meth.locks = false) (hQ : Q (some (.long z)) h locs) (hc : cells ≤ C) (hn : slots ≤ N) : own_Go p e below (own_PO s Q C N) (T.setTop (mkF m pc Ls (.long z :: rest))) :=
  own_end X (fun q => by rw [hret] at q; cases q) eT hk (fun fs hr => retOut X hx hret rfl (Or.inr (Or.inl ⟨rfl, rfl, z, rfl⟩)) hd hr) hQ hc hn
theorem own_retD (X : Stand p l e R s m args below meth c T locs cells slots) (hx : p.tables.exec = Jvm.exec) {pc : Nat} {Ls : Array Slot} {z : UInt64} {rest : List Value} (hret : meth.sig.returnType = some .double) (hd : decode c.code pc = .ok (.dreturn, 1))
    (eT : T.heap = h) (hk : meth.locks = false) (hQ : Q (some (.double z)) h locs) (hc : cells ≤ C) (hn : slots ≤ N) : own_Go p e below (own_PO s Q C N) (T.setTop (mkF m pc Ls (.double z :: rest))) :=
  own_end X (fun q => by rw [hret] at q; cases q) eT hk (fun fs hr => retOut X hx hret rfl (Or.inr (Or.inr (Or.inl ⟨rfl, rfl, z, rfl⟩))) hd hr) hQ hc hn
theorem own_retA (X : Stand p l e R s m args below meth c T locs cells slots) (hx : p.tables.exec = Jvm.exec) {pc : Nat} {Ls : Array Slot} {w : Value} {t : FieldType} {rest : List Value} (hret : meth.sig.returnType = some t) (ht : t.isReference = true) (hw : w.isRef = true) (hd : decode c.code pc = .ok (.areturn, 1))
    (eT : T.heap = h) (hk : meth.locks = false) (hQ : Q (some w) h locs) (hc : cells ≤ C) (hn : slots ≤ N) : own_Go p e below (own_PO s Q C N) (T.setTop (mkF m pc Ls (w :: rest))) :=
  own_end X (fun q => by rw [hret] at q; cases q) eT hk (fun fs hr => retOut X hx hret (by cases t <;> first | (cases ht; done) | (cases w <;> first | (cases hw; done) | rfl)) (Or.inr (Or.inr (Or.inr (Or.inr ⟨rfl, ht, hw⟩)))) hd hr) hQ hc hn
end New
end Jvm.RoadKit
namespace Jvm.RoadKit
open Sem ClassFile Op Lib Jvm.Stand Jvm.Free Jvm.LawKit
theorem own_ofNat {c : Int32} (h0 : 0 ≤ c.toInt) : c = Int32.ofNat c.toInt.toNat := by
  apply Int32.toInt_inj.mp
  show c.toInt = (Int32.ofNat c.toInt.toNat).toInt
  rw [Int32.toInt_ofNat_of_lt (by have := c.toInt_lt; omega), Int.toNat_of_nonneg h0]
theorem own_clamp {c : Int32} : c.toNatClampNeg = c.toInt.toNat := rfl
/-- a remainder of what a mask left -/
theorem own_pm (x : Int32) {y : Int32} {d : Int} (hy : y.toInt = d) (hd : 0 < d) : ((x &&& 2147483647) % y).toInt = x.toInt % 2147483648 % d ∧ 0 ≤ ((x &&& 2147483647) % y).toInt ∧ ((x &&& 2147483647) % y).toInt < d := by
  have e := c_mask x 2147483647 31 (by decide) (by decide)
  have e2 : ((2 ^ 31 : Nat) : Int) = 2147483648 := by decide
  rw [e2] at e
  have h0 : 0 ≤ (x &&& 2147483647).toInt := by rw [e]; exact Int.emod_nonneg _ (by decide)
  have q := (c_irem (x &&& 2147483647) y d hy).1 h0
  rw [e] at q
  have hd' : d ≠ 0 := by omega
  exact ⟨q, by rw [q]; exact Int.emod_nonneg _ hd', by rw [q]; exact Int.emod_lt_of_pos _ hd⟩
theorem own_r14 {x i : Int32} (h : i = (x &&& 2147483647) % 14) : i = 0 ∨ i = 1 ∨ i = 2 ∨ i = 3 ∨ i = 4 ∨ i = 5 ∨ i = 6 ∨ i = 7 ∨ i = 8 ∨ i = 9 ∨ i = 10 ∨ i = 11 ∨ i = 12 ∨ i = 13 := by
  obtain ⟨-, h1, h2⟩ := own_pm x (y := 14) (d := 14) (by decide) (by decide)
  rw [← h] at h1 h2
  have t : ∀ k : Fin 14, (Int32.ofNat k.1 = 0 ∨ Int32.ofNat k.1 = 1 ∨ Int32.ofNat k.1 = 2 ∨ Int32.ofNat k.1 = 3 ∨ Int32.ofNat k.1 = 4 ∨ Int32.ofNat k.1 = 5 ∨ Int32.ofNat k.1 = 6 ∨ Int32.ofNat k.1 = 7 ∨ Int32.ofNat k.1 = 8 ∨ Int32.ofNat k.1 = 9 ∨ Int32.ofNat k.1 = 10 ∨ Int32.ofNat k.1 = 11 ∨ Int32.ofNat k.1 = 12 ∨ Int32.ofNat k.1 = 13) := by decide +kernel
  have q := t ⟨i.toInt.toNat, by omega⟩
  rwa [← own_ofNat h1] at q
end Jvm.RoadKit
namespace Jvm.Pilot.@@N@@
open Jvm Jvm.ClassFile Sem Op Lib Jvm.Free Jvm.Stand Jvm.LawKit Jvm.RoadKit Bundle Jvm.Pilot.@@N@@.Jvm.D

/-! the plain law -/
def own_odd (jA : Int64) : Int64 := (((jA.toUInt64 >>> ((8 : Int32) &&& 0x3f).toInt64.toUInt64).toInt64) &&& (71777214294589695 : Int64))
def own_by (jA : Int64) : Int32 := (((((((((jA &&& (255 : Int64)) + (((jA.toUInt64 >>> ((8 : Int32) &&& 0x3f).toInt64.toUInt64).toInt64) &&& (255 : Int64))) + (((jA.toUInt64 >>> ((16 : Int32) &&& 0x3f).toInt64.toUInt64).toInt64) &&& (255 : Int64))) + (((jA.toUInt64 >>> ((24 : Int32) &&& 0x3f).toInt64.toUInt64).toInt64) &&& (255 : Int64))) + (((jA.toUInt64 >>> ((32 : Int32) &&& 0x3f).toInt64.toUInt64).toInt64) &&& (255 : Int64))) + (((jA.toUInt64 >>> ((40 : Int32) &&& 0x3f).toInt64.toUInt64).toInt64) &&& (255 : Int64))) + (((jA.toUInt64 >>> ((48 : Int32) &&& 0x3f).toInt64.toUInt64).toInt64) &&& (255 : Int64))) + (((jA.toUInt64 >>> ((56 : Int32) &&& 0x3f).toInt64.toUInt64).toInt64) &&& (255 : Int64))).toInt32)
def own_bs (jA jB : Int64) : Int32 := (((((((jA - (jB <<< ((8 : Int32) &&& 0x3f).toInt64)) + jB) &&& (65535 : Int64)) + (((((jA - (jB <<< ((8 : Int32) &&& 0x3f).toInt64)) + jB).toUInt64 >>> ((16 : Int32) &&& 0x3f).toInt64.toUInt64).toInt64) &&& (65535 : Int64))) + (((((jA - (jB <<< ((8 : Int32) &&& 0x3f).toInt64)) + jB).toUInt64 >>> ((32 : Int32) &&& 0x3f).toInt64.toUInt64).toInt64) &&& (65535 : Int64))) + ((((jA - (jB <<< ((8 : Int32) &&& 0x3f).toInt64)) + jB).toUInt64 >>> ((48 : Int32) &&& 0x3f).toInt64.toUInt64).toInt64)).toInt32)
theorem own_nz {x n : Int32} (h : n = (x &&& 2147483647) % 129) : (129 : Int32) - n ≠ 0 := by
  obtain ⟨-, h1, h2⟩ := own_pm x (y := 129) (d := 129) (by decide) (by decide)
  rw [← h] at h1 h2
  intro q
  have q2 := congrArg Int32.toInt q
  have c := c_isub 129 n
  have r := rng32 (129 - n)
  have e : (129 : Int32).toInt = 129 := by decide
  have e0 : (0 : Int32).toInt = 0 := by decide
  omega
theorem own_and_split (n a b k : Nat) (ha : a < 2 ^ k) : n &&& (a + 2 ^ k * b) = (n % 2 ^ k &&& a) + 2 ^ k * (n / 2 ^ k &&& b) := by
  have h1 : (n &&& (a + 2 ^ k * b)) % 2 ^ k = (n % 2 ^ k &&& a) := by
    rw [Nat.and_mod_two_pow, Nat.add_mul_mod_self_left, Nat.mod_eq_of_lt ha]
  have h2 : (n &&& (a + 2 ^ k * b)) / 2 ^ k = (n / 2 ^ k &&& b) := by
    rw [← Nat.shiftRight_eq_div_pow, Nat.shiftRight_and_distrib, Nat.shiftRight_eq_div_pow, Nat.shiftRight_eq_div_pow, Nat.add_mul_div_left _ _ (Nat.two_pow_pos k), Nat.div_eq_of_lt ha, Nat.zero_add]
  have h3 := Nat.mod_add_div (n &&& (a + 2 ^ k * b)) (2 ^ k)
  rw [h1, h2] at h3
  exact h3.symm
theorem own_mask8 (n : Nat) : n % 65536 &&& 255 = n % 256 := by
  have := Nat.and_two_pow_sub_one_eq_mod (n % 65536) 8
  have e : n % 65536 % 256 = n % 256 := by omega
  simpa [e] using this
theorem own_natmask (n : Nat) : n &&& 71777214294589695 = n % 256 + 65536 * (n / 65536 % 256 + 65536 * (n / 65536 / 65536 % 256 + 65536 * (n / 65536 / 65536 / 65536 % 256))) := by
  have e : (71777214294589695 : Nat) = 255 + 2 ^ 16 * (255 + 2 ^ 16 * (255 + 2 ^ 16 * 255)) := by decide
  rw [e, own_and_split _ _ _ _ (by decide), own_and_split _ _ _ _ (by decide), own_and_split _ _ _ _ (by decide)]
  show (n % 65536 &&& 255) + 65536 * ((n / 65536 % 65536 &&& 255) + 65536 * ((n / 65536 / 65536 % 65536 &&& 255) + 65536 * (n / 65536 / 65536 / 65536 &&& 255))) = _
  have q := Nat.and_two_pow_sub_one_eq_mod (n / 65536 / 65536 / 65536) 8
  rw [own_mask8, own_mask8, own_mask8]
  have q' : n / 65536 / 65536 / 65536 &&& 255 = n / 65536 / 65536 / 65536 % 256 := by simpa using q
  rw [q']
/-- the unsigned reading -/
def own_u (x : Int64) : Int := x.toInt % 18446744073709551616
theorem own_u_nat (x : Int64) : own_u x = (x.toBitVec.toNat : Int) := by
  show x.toBitVec.toInt % 18446744073709551616 = _
  have h := x.toBitVec.isLt
  rw [BitVec.toInt_eq_toNat_cond]
  split <;> omega
theorem own_mask_u (x : Int64) : own_u (x &&& 71777214294589695) = own_u x % 256 + 65536 * (own_u x / 65536 % 256 + 65536 * (own_u x / 65536 / 65536 % 256 + 65536 * (own_u x / 65536 / 65536 / 65536 % 256))) := by
  rw [own_u_nat, own_u_nat]
  have e : (x &&& 71777214294589695).toBitVec.toNat = x.toBitVec.toNat &&& 71777214294589695 := by
    rw [Int64.toBitVec_and, BitVec.toNat_and]; rfl
  rw [e, own_natmask]
  omega
theorem own_shr_u (x : Int64) (q : Int32) (k : Nat) (P : Int) (hk : q.toBitVec.toNat % 64 = k) (h0 : 0 < k) (hP : ((2 ^ k : Nat) : Int) = P) : own_u ((x.toUInt64 >>> (q &&& 0x3f).toInt64.toUInt64).toInt64) = own_u x / P := by
  have h := c_lushr x q k hk h0
  rw [hP] at h
  have hp : 0 < P := by rw [← hP]; exact Int.natCast_pos.mpr (Nat.two_pow_pos k)
  have hb : 0 ≤ own_u x ∧ own_u x < 18446744073709551616 := by unfold own_u; omega
  have h1 : 0 ≤ own_u x / P := Int.ediv_nonneg hb.1 (by omega)
  have h2 : own_u x / P ≤ own_u x := Int.ediv_le_self _ hb.1
  unfold own_u at *
  rw [h]
  omega
theorem own_odd_u (x : Int64) : own_u (own_odd x) = own_u x / 256 % 256 + 65536 * (own_u x / 256 / 65536 % 256 + 65536 * (own_u x / 256 / 65536 / 65536 % 256 + 65536 * (own_u x / 256 / 65536 / 65536 / 65536 % 256))) := by
  unfold own_odd
  rw [own_mask_u, own_shr_u x 8 8 256 (by decide) (by decide) (by decide)]
theorem own_b_i (x : Int64) (q : Int32) (k : Nat) (P : Int) (hk : q.toBitVec.toNat % 64 = k) (h0 : 0 < k) (hP : ((2 ^ k : Nat) : Int) = P) : (((x.toUInt64 >>> (q &&& 0x3f).toInt64.toUInt64).toInt64) &&& (255 : Int64)).toInt = own_u x / P % 256 := by
  have h := c_maskL ((x.toUInt64 >>> (q &&& 0x3f).toInt64.toUInt64).toInt64) 255 8 (by decide) (by decide)
  have h2 := own_shr_u x q k P hk h0 hP
  rw [← h2]
  have e : ((2 ^ 8 : Nat) : Int) = 256 := by decide
  rw [e] at h
  rw [h]
  unfold own_u
  omega
theorem own_b_0 (x : Int64) : (x &&& (255 : Int64)).toInt = own_u x % 256 := by
  have h := c_maskL x 255 8 (by decide) (by decide)
  have e : ((2 ^ 8 : Nat) : Int) = 256 := by decide
  rw [e] at h
  rw [h]; unfold own_u; omega
theorem own_ub (x : Int64) : 0 ≤ own_u x ∧ own_u x < 18446744073709551616 := by unfold own_u; omega
theorem own_uc (x : Int64) : ∃ t : Int, x.toInt = own_u x + 18446744073709551616 * t := ⟨x.toInt / 18446744073709551616, by unfold own_u; omega⟩
set_option maxHeartbeats 8000000 in
theorem own_by_i (x : Int64) : (own_by x).toInt = own_u x % 256 + own_u x / 256 % 256 + own_u x / 65536 % 256 + own_u x / 16777216 % 256 + own_u x / 4294967296 % 256 + own_u x / 1099511627776 % 256 + own_u x / 281474976710656 % 256 + own_u x / 72057594037927936 % 256 := by
  unfold own_by
  have e0 := own_b_0 x
  have e1 := own_b_i x 8 8 256 (by decide) (by decide) (by decide)
  have e2 := own_b_i x 16 16 65536 (by decide) (by decide) (by decide)
  have e3 := own_b_i x 24 24 16777216 (by decide) (by decide) (by decide)
  have e4 := own_b_i x 32 32 4294967296 (by decide) (by decide) (by decide)
  have e5 := own_b_i x 40 40 1099511627776 (by decide) (by decide) (by decide)
  have e6 := own_b_i x 48 48 281474976710656 (by decide) (by decide) (by decide)
  have e7 := own_b_i x 56 56 72057594037927936 (by decide) (by decide) (by decide)
  generalize (x &&& (255 : Int64)) = b0 at *
  generalize (((x.toUInt64 >>> ((8 : Int32) &&& 0x3f).toInt64.toUInt64).toInt64) &&& (255 : Int64)) = b1 at *
  generalize (((x.toUInt64 >>> ((16 : Int32) &&& 0x3f).toInt64.toUInt64).toInt64) &&& (255 : Int64)) = b2 at *
  generalize (((x.toUInt64 >>> ((24 : Int32) &&& 0x3f).toInt64.toUInt64).toInt64) &&& (255 : Int64)) = b3 at *
  generalize (((x.toUInt64 >>> ((32 : Int32) &&& 0x3f).toInt64.toUInt64).toInt64) &&& (255 : Int64)) = b4 at *
  generalize (((x.toUInt64 >>> ((40 : Int32) &&& 0x3f).toInt64.toUInt64).toInt64) &&& (255 : Int64)) = b5 at *
  generalize (((x.toUInt64 >>> ((48 : Int32) &&& 0x3f).toInt64.toUInt64).toInt64) &&& (255 : Int64)) = b6 at *
  generalize (((x.toUInt64 >>> ((56 : Int32) &&& 0x3f).toInt64.toUInt64).toInt64) &&& (255 : Int64)) = b7 at *
  have s1 := c_ladd b0 b1
  have s2 := c_ladd (b0 + b1) b2
  have s3 := c_ladd (b0 + b1 + b2) b3
  have s4 := c_ladd (b0 + b1 + b2 + b3) b4
  have s5 := c_ladd (b0 + b1 + b2 + b3 + b4) b5
  have s6 := c_ladd (b0 + b1 + b2 + b3 + b4 + b5) b6
  have s7 := c_ladd (b0 + b1 + b2 + b3 + b4 + b5 + b6) b7
  have c := c_l2i (b0 + b1 + b2 + b3 + b4 + b5 + b6 + b7)
  have r1 := rng64 (b0 + b1)
  have r2 := rng64 (b0 + b1 + b2)
  have r3 := rng64 (b0 + b1 + b2 + b3)
  have r4 := rng64 (b0 + b1 + b2 + b3 + b4)
  have r5 := rng64 (b0 + b1 + b2 + b3 + b4 + b5)
  have r6 := rng64 (b0 + b1 + b2 + b3 + b4 + b5 + b6)
  have r7 := rng64 (b0 + b1 + b2 + b3 + b4 + b5 + b6 + b7)
  have r8 := rng32 (b0 + b1 + b2 + b3 + b4 + b5 + b6 + b7).toInt32
  have t1 : (b0 + b1).toInt = b0.toInt + b1.toInt := by omega
  have t2 : (b0 + b1 + b2).toInt = b0.toInt + b1.toInt + b2.toInt := by omega
  have t3 : (b0 + b1 + b2 + b3).toInt = b0.toInt + b1.toInt + b2.toInt + b3.toInt := by omega
  have t4 : (b0 + b1 + b2 + b3 + b4).toInt = b0.toInt + b1.toInt + b2.toInt + b3.toInt + b4.toInt := by omega
  have t5 : (b0 + b1 + b2 + b3 + b4 + b5).toInt = b0.toInt + b1.toInt + b2.toInt + b3.toInt + b4.toInt + b5.toInt := by omega
  have t6 : (b0 + b1 + b2 + b3 + b4 + b5 + b6).toInt = b0.toInt + b1.toInt + b2.toInt + b3.toInt + b4.toInt + b5.toInt + b6.toInt := by omega
  have t7 : (b0 + b1 + b2 + b3 + b4 + b5 + b6 + b7).toInt = b0.toInt + b1.toInt + b2.toInt + b3.toInt + b4.toInt + b5.toInt + b6.toInt + b7.toInt := by omega
  omega
set_option maxHeartbeats 8000000 in
theorem own_bytes (a : Int64) : ∃ A0 A1 A2 A3 A4 A5 A6 A7 : Int, (0 ≤ A0 ∧ A0 ≤ 255) ∧ (0 ≤ A1 ∧ A1 ≤ 255) ∧ (0 ≤ A2 ∧ A2 ≤ 255) ∧ (0 ≤ A3 ∧ A3 ≤ 255) ∧ (0 ≤ A4 ∧ A4 ≤ 255) ∧ (0 ≤ A5 ∧ A5 ≤ 255) ∧ (0 ≤ A6 ∧ A6 ≤ 255) ∧ (0 ≤ A7 ∧ A7 ≤ 255) ∧
    own_u a = A0 + 256 * A1 + 65536 * A2 + 16777216 * A3 + 4294967296 * A4 + 1099511627776 * A5 + 281474976710656 * A6 + 72057594037927936 * A7 ∧
    own_u (own_odd a) = A1 + 65536 * A3 + 4294967296 * A5 + 281474976710656 * A7 ∧ (own_by a).toInt = A0 + A1 + A2 + A3 + A4 + A5 + A6 + A7 := by
  have h := own_ub a
  refine ⟨own_u a % 256, own_u a / 256 % 256, own_u a / 65536 % 256, own_u a / 16777216 % 256, own_u a / 4294967296 % 256, own_u a / 1099511627776 % 256, own_u a / 281474976710656 % 256, own_u a / 72057594037927936 % 256, by omega, by omega, by omega, by omega, by omega, by omega, by omega, by omega, ?_, ?_, own_by_i a⟩
  · generalize own_u a = u at *
    have q1 : u / 65536 = u / 256 / 256 := by omega
    have q2 : u / 16777216 = u / 256 / 256 / 256 := by omega
    have q3 : u / 4294967296 = u / 256 / 256 / 256 / 256 := by omega
    have q4 : u / 1099511627776 = u / 256 / 256 / 256 / 256 / 256 := by omega
    have q5 : u / 281474976710656 = u / 256 / 256 / 256 / 256 / 256 / 256 := by omega
    have q6 : u / 72057594037927936 = u / 256 / 256 / 256 / 256 / 256 / 256 / 256 := by omega
    rw [q1, q2, q3, q4, q5, q6]
    omega
  · rw [own_odd_u]
    generalize own_u a = u at *
    have q1 : u / 256 / 65536 = u / 16777216 := by omega
    have q2 : u / 16777216 / 65536 = u / 1099511627776 := by omega
    have q3 : u / 1099511627776 / 65536 = u / 72057594037927936 := by omega
    rw [q1, q2, q3]
    omega
set_option maxHeartbeats 8000000 in
theorem own_mulc (a : Int64) (n : Int32) : ∃ t : Int, (a * n.toInt64).toInt = own_u a * n.toInt + 18446744073709551616 * t := by
  have h := c_lmul a n.toInt64
  rw [c_i2l] at h
  obtain ⟨s, hs⟩ := own_uc a
  have e : a.toInt * n.toInt = own_u a * n.toInt + 18446744073709551616 * (s * n.toInt) := by rw [hs, Int.add_mul, Int.mul_assoc]
  rw [e] at h
  generalize own_u a * n.toInt = q1 at *
  generalize s * n.toInt = q2 at *
  exact ⟨((a * n.toInt64).toInt - q1) / 18446744073709551616, by omega⟩
theorem own_lin {n : Int} (hn : 0 ≤ n) {A : Int} (h : 0 ≤ A ∧ A ≤ 255) : 0 ≤ A * n ∧ A * n ≤ 255 * n := ⟨Int.mul_nonneg h.1 hn, Int.mul_le_mul_of_nonneg_right h.2 hn⟩
set_option maxHeartbeats 8000000 in
theorem own_lanes {L : Int64} {l0 l1 l2 l3 : Int} (h0 : 0 ≤ l0 ∧ l0 < 65536) (h1 : 0 ≤ l1 ∧ l1 < 65536) (h2 : 0 ≤ l2 ∧ l2 < 65536) (h3 : 0 ≤ l3 ∧ l3 < 65536) (hL : own_u L = l0 + 65536 * l1 + 4294967296 * l2 + 281474976710656 * l3) :
    ((((L &&& (65535 : Int64)) + (((L.toUInt64 >>> ((16 : Int32) &&& 0x3f).toInt64.toUInt64).toInt64) &&& (65535 : Int64))) + (((L.toUInt64 >>> ((32 : Int32) &&& 0x3f).toInt64.toUInt64).toInt64) &&& (65535 : Int64))) + ((L.toUInt64 >>> ((48 : Int32) &&& 0x3f).toInt64.toUInt64).toInt64)).toInt32.toInt = l0 + l1 + l2 + l3 := by
  have e : ((2 ^ 16 : Nat) : Int) = 65536 := by decide
  have m0 := c_maskL L 65535 16 (by decide) (by decide)
  have m1 := c_maskL ((L.toUInt64 >>> ((16 : Int32) &&& 0x3f).toInt64.toUInt64).toInt64) 65535 16 (by decide) (by decide)
  have m2 := c_maskL ((L.toUInt64 >>> ((32 : Int32) &&& 0x3f).toInt64.toUInt64).toInt64) 65535 16 (by decide) (by decide)
  have s1 := c_lushr L 16 16 (by decide) (by decide)
  have s2 := c_lushr L 32 32 (by decide) (by decide)
  have s3 := c_lushr L 48 48 (by decide) (by decide)
  have p1 : ((2 ^ 16 : Nat) : Int) = 65536 := by decide
  have p2 : ((2 ^ 32 : Nat) : Int) = 4294967296 := by decide
  have p3 : ((2 ^ 48 : Nat) : Int) = 281474976710656 := by decide
  rw [p1] at s1 m0 m1 m2
  rw [p2] at s2
  rw [p3] at s3
  change _ = own_u L / _ at s1
  change _ = own_u L / _ at s2
  change _ = own_u L / _ at s3
  have hu := hL
  unfold own_u at hu
  rw [hL] at s1 s2 s3
  generalize ((L.toUInt64 >>> ((16 : Int32) &&& 0x3f).toInt64.toUInt64).toInt64) = w1 at *
  generalize ((L.toUInt64 >>> ((32 : Int32) &&& 0x3f).toInt64.toUInt64).toInt64) = w2 at *
  generalize ((L.toUInt64 >>> ((48 : Int32) &&& 0x3f).toInt64.toUInt64).toInt64) = w3 at *
  generalize (L &&& (65535 : Int64)) = x0 at *
  generalize (w1 &&& (65535 : Int64)) = x1 at *
  generalize (w2 &&& (65535 : Int64)) = x2 at *
  have y0 : x0.toInt = l0 := by omega
  have y1 : x1.toInt = l1 := by omega
  have y2 : x2.toInt = l2 := by omega
  have y3 : w3.toInt = l3 := by omega
  have a1 := c_ladd x0 x1
  have a2 := c_ladd (x0 + x1) x2
  have a3 := c_ladd (x0 + x1 + x2) w3
  have r1 := rng64 (x0 + x1)
  have r2 := rng64 (x0 + x1 + x2)
  have r3 := rng64 (x0 + x1 + x2 + w3)
  have c := c_l2i (x0 + x1 + x2 + w3)
  have r4 := rng32 (x0 + x1 + x2 + w3).toInt32
  have t1 : (x0 + x1).toInt = l0 + l1 := by omega
  have t2 : (x0 + x1 + x2).toInt = l0 + l1 + l2 := by omega
  have t3 : (x0 + x1 + x2 + w3).toInt = l0 + l1 + l2 + l3 := by omega
  omega
set_option maxHeartbeats 8000000 in
theorem own_main (a b : Int64) {x y n m : Int32} (hn : n = (x &&& 2147483647) % 129) (hm : m = (y &&& 2147483647) % (129 - n)) :
    own_bs (a * n.toInt64 + b * m.toInt64) (own_odd a * n.toInt64 + own_odd b * m.toInt64) = n * own_by a + m * own_by b := by
  have bn : 0 ≤ n.toInt ∧ n.toInt < 129 := by
    obtain ⟨-, h1, h2⟩ := own_pm x (y := 129) (d := 129) (by decide) (by decide)
    rw [← hn] at h1 h2; exact ⟨h1, h2⟩
  have bm : 0 ≤ m.toInt ∧ m.toInt < 129 - n.toInt := by
    have e : (129 - n).toInt = 129 - n.toInt := by
      have c := c_isub 129 n; have r := rng32 (129 - n); have e : (129 : Int32).toInt = 129 := by decide
      omega
    obtain ⟨-, h1, h2⟩ := own_pm y e (by omega)
    rw [← hm] at h1 h2; exact ⟨h1, h2⟩
  obtain ⟨A0, A1, A2, A3, A4, A5, A6, A7, a0, a1, a2, a3, a4, a5, a6, a7, ua, oa, ya⟩ := own_bytes a
  obtain ⟨B0, B1, B2, B3, B4, B5, B6, B7, b0, b1, b2, b3, b4, b5, b6, b7, ub, ob, yb⟩ := own_bytes b
  obtain ⟨t1, w1⟩ := own_mulc a n
  obtain ⟨t2, w2⟩ := own_mulc b m
  obtain ⟨t3, w3⟩ := own_mulc (own_odd a) n
  obtain ⟨t4, w4⟩ := own_mulc (own_odd b) m
  have i1 := c_imul n (own_by a)
  have i2 := c_imul m (own_by b)
  rw [ya, Int.mul_comm] at i1
  rw [yb, Int.mul_comm] at i2
  rw [ua] at w1
  rw [ub] at w2
  rw [oa] at w3
  rw [ob] at w4
  simp only [Int.add_mul, Int.mul_assoc] at w1 w2 w3 w4 i1 i2
  have k0 := own_lin bn.1 a0
  have k1 := own_lin bn.1 a1
  have k2 := own_lin bn.1 a2
  have k3 := own_lin bn.1 a3
  have k4 := own_lin bn.1 a4
  have k5 := own_lin bn.1 a5
  have k6 := own_lin bn.1 a6
  have k7 := own_lin bn.1 a7
  have j0 := own_lin bm.1 b0
  have j1 := own_lin bm.1 b1
  have j2 := own_lin bm.1 b2
  have j3 := own_lin bm.1 b3
  have j4 := own_lin bm.1 b4
  have j5 := own_lin bm.1 b5
  have j6 := own_lin bm.1 b6
  have j7 := own_lin bm.1 b7
  generalize A0 * n.toInt = x0 at *
  generalize A1 * n.toInt = x1 at *
  generalize A2 * n.toInt = x2 at *
  generalize A3 * n.toInt = x3 at *
  generalize A4 * n.toInt = x4 at *
  generalize A5 * n.toInt = x5 at *
  generalize A6 * n.toInt = x6 at *
  generalize A7 * n.toInt = x7 at *
  generalize B0 * m.toInt = y0 at *
  generalize B1 * m.toInt = y1 at *
  generalize B2 * m.toInt = y2 at *
  generalize B3 * m.toInt = y3 at *
  generalize B4 * m.toInt = y4 at *
  generalize B5 * m.toInt = y5 at *
  generalize B6 * m.toInt = y6 at *
  generalize B7 * m.toInt = y7 at *
  have s1 := c_ladd (a * n.toInt64) (b * m.toInt64)
  have s2 := c_ladd (own_odd a * n.toInt64) (own_odd b * m.toInt64)
  generalize a * n.toInt64 = an at *
  generalize b * m.toInt64 = bm' at *
  generalize own_odd a * n.toInt64 = on at *
  generalize own_odd b * m.toInt64 = om at *
  generalize an + bm' = W at *
  generalize on + om = O at *
  have s3 := c_lshl O 8 8 (by decide)
  have e8 : ((2 ^ 8 : Nat) : Int) = 256 := by decide
  rw [e8] at s3
  have s4 := c_lsub W (O <<< ((8 : Int32) &&& 0x3f).toInt64)
  have s5 := c_ladd (W - (O <<< ((8 : Int32) &&& 0x3f).toInt64)) O
  have hL : own_u ((W - (O <<< ((8 : Int32) &&& 0x3f).toInt64)) + O) = (x0 + y0 + (x1 + y1)) + 65536 * (x2 + y2 + (x3 + y3)) + 4294967296 * (x4 + y4 + (x5 + y5)) + 281474976710656 * (x6 + y6 + (x7 + y7)) := by
    unfold own_u
    generalize O <<< ((8 : Int32) &&& 0x3f).toInt64 = O8 at *
    generalize W - O8 = D at *
    generalize D + O = L at *
    omega
  have hr := own_lanes (L := (W - (O <<< ((8 : Int32) &&& 0x3f).toInt64)) + O) (by omega) (by omega) (by omega) (by omega) hL
  apply Int32.toInt_inj.mp
  show (own_bs W O).toInt = _
  have hbs : (own_bs W O).toInt = x0 + y0 + (x1 + y1) + (x2 + y2 + (x3 + y3)) + (x4 + y4 + (x5 + y5)) + (x6 + y6 + (x7 + y7)) := hr
  rw [hbs]
  have s6 := c_iadd (n * own_by a) (m * own_by b)
  have r1 := rng32 (n * own_by a)
  have r2 := rng32 (m * own_by b)
  have r3 := rng32 (n * own_by a + m * own_by b)
  omega
theorem d1_0 : decode method_2_code 0 = .ok (.lload_n 0, 1) := by decide +kernel
theorem d1_1 : decode method_2_code 1 = .ok (.bipush 8, 2) := by decide +kernel
theorem d1_3 : decode method_2_code 3 = .ok (.lushr, 1) := by decide +kernel
theorem d1_4 : decode method_2_code 4 = .ok (.ldc2_w 7, 3) := by decide +kernel
theorem d1_7 : decode method_2_code 7 = .ok (.land, 1) := by decide +kernel
theorem d1_8 : decode method_2_code 8 = .ok (.lreturn, 1) := by decide +kernel
theorem pn_0 : plainName "com/example/fillwire/fillwire/wire/WordsByteSumPinLaw" = true := by first | (simp [plainName, overriddenIn]; done) | decide +kernel
theorem ef_rm1 (m : MethodId) (x0 : Int64) : entryFrame m #[(.long x0)] 2 = mkF m 0 #[.val (.long x0), .second] [] := by first | (simp [entryFrame, mkF, argsToLocals, Value.category]; done) | rfl
def Q_rm1 (jA : Int64) (h0 : Heap) (n0 : Nat) (v : Option Value) (h : Heap) (L : List Loc) : Prop := v = some (.long (own_odd jA)) ∧ Fr n0 L ∧ h = h0
set_option maxRecDepth 65536 in
set_option maxHeartbeats 40000000 in
theorem rm1 (l : Launch) (Z : State) (a0 : Array Value) (hw : ∀ d ∈ tables_1, d.before a0 Z = true) (ws : List Jvm.Cond) (jA : Int64)  (h0 : Heap) (n0 : Nat) (Z0 : n0 ≤ h0.size)  :
    MetFree l (⟨"com/example/fillwire/fillwire/wire/WordsByteSumPinLaw", "oddOf", "(J)J"⟩ : MethodName) (head1 (Jvm.Cond.code (⟨"com/example/fillwire/fillwire/wire/WordsByteSumPinLaw", "oddOf", "(J)J"⟩ : MethodName) method_2_code 2 (some .long) :: ws) ({ frames := 0, cells := 0, slots := 0, locals := 0 } : Room)) (fun a U => a = #[(.long jA)] ∧ Z.Warmed39 U.vm ∧ U.heap = h0) (fun _ _ _ _ _ => True) (fun _ U o U' => ∃ v L, o = .returned v ∧ Q_rm1 jA h0 n0 v U'.heap L ∧ FrameEnd U o U' L ({ frames := 0, cells := 0, slots := 0, locals := 0 } : Room).cells ({ frames := 0, cells := 0, slots := 0, locals := 0 } : Room).slots) := by
  refine MetFree.of_bodySF (plainFor_of_name pn_0) hisR ?_
  intro p e s m args below meth c s₁ Bd hml0 hP hK
  obtain ⟨rfl, hZ, hh⟩ := hP
  have hx := Bd.exec
  have hby := Bd.bytes
  have hml : c.maxLocals = 2 := hml0
  have hown : s.vm.findClass "com/example/fillwire/fillwire/wire/WordsByteSumPinLaw" = some m.cls := findClass_of_methodNamed Bd.named
  have hnm := (name_of_methodNamed Bd.named Bd.method).1
  have X0 : Stand p l e ({ frames := 0, cells := 0, slots := 0, locals := 0 } : Room) s m #[(.long jA)] below meth c s₁ [] 0 0 := Stand.of_body Bd
  have e0 : s₁.heap = h0 := by rw [← hh, Bd.state]; rfl
  have N0 := Fr.nil n0
  let PO : Outcome → State → Prop := own_PO s (Q_rm1 jA h0 n0) 0 0
  show own_Go p e below PO (s₁.setTop (entryFrame m #[(.long jA)] 2))
  rw [ef_rm1]
  show own_Go p e below PO (s₁.setTop (mkF m 0 #[.val (.long jA), .second] []))
  refine own_back ?_ (fun t k => XS.lloadN X0.here hx rfl (hb hby d1_0) rfl k)
  show own_Go p e below PO (s₁.setTop (mkF m 1 #[.val (.long jA), .second] [(.long jA)]))
  refine own_back ?_ (fun t k => XS.bipush X0.here hx rfl (hb hby d1_1) k)
  show own_Go p e below PO (s₁.setTop (mkF m 3 #[.val (.long jA), .second] [(.int (8 : Int32)), (.long jA)]))
  refine own_back ?_ (fun t k => XS.lushr X0.here hx rfl (hb hby d1_3) rfl k)
  show own_Go p e below PO (s₁.setTop (mkF m 4 #[.val (.long jA), .second] [(.long ((jA.toUInt64 >>> ((8 : Int32) &&& 0x3f).toInt64.toUInt64).toInt64))]))
  refine own_back ?_ (fun t k => X0.ldc2Long hx hown (mvT hZ (hw _ (List.mem_of_getElem? (i := 5) rfl))) (g := (mkF m 4 #[.val (.long jA), .second] [(.long ((jA.toUInt64 >>> ((8 : Int32) &&& 0x3f).toInt64.toUInt64).toInt64))])) rfl (hb hby d1_4) _ k)
  show own_Go p e below PO (s₁.setTop (mkF m 7 #[.val (.long jA), .second] [(.long (71777214294589695 : Int64)), (.long ((jA.toUInt64 >>> ((8 : Int32) &&& 0x3f).toInt64.toUInt64).toInt64))]))
  refine own_back ?_ (fun t k => XS.land X0.here hx rfl (hb hby d1_7) rfl k)
  show own_Go p e below PO (s₁.setTop (mkF m 8 #[.val (.long jA), .second] [(.long (((jA.toUInt64 >>> ((8 : Int32) &&& 0x3f).toInt64.toUInt64).toInt64) &&& (71777214294589695 : Int64)))]))
  refine own_retJ X0 hx (rest := []) Bd.returns (hb hby d1_8) e0 (Bd.notSynchronized) ?_ (by decide) (by decide)
  exact ⟨rfl, N0, rfl⟩
theorem d2_0 : decode method_3_code 0 = .ok (.lload_n 0, 1) := by decide +kernel
theorem d2_1 : decode method_3_code 1 = .ok (.ldc2_w 9, 3) := by decide +kernel
theorem d2_4 : decode method_3_code 4 = .ok (.land, 1) := by decide +kernel
theorem d2_5 : decode method_3_code 5 = .ok (.lload_n 0, 1) := by decide +kernel
theorem d2_6 : decode method_3_code 6 = .ok (.bipush 8, 2) := by decide +kernel
theorem d2_8 : decode method_3_code 8 = .ok (.lushr, 1) := by decide +kernel
theorem d2_9 : decode method_3_code 9 = .ok (.ldc2_w 9, 3) := by decide +kernel
theorem d2_12 : decode method_3_code 12 = .ok (.land, 1) := by decide +kernel
theorem d2_13 : decode method_3_code 13 = .ok (.ladd, 1) := by decide +kernel
theorem d2_14 : decode method_3_code 14 = .ok (.lload_n 0, 1) := by decide +kernel
theorem d2_15 : decode method_3_code 15 = .ok (.bipush 16, 2) := by decide +kernel
theorem d2_17 : decode method_3_code 17 = .ok (.lushr, 1) := by decide +kernel
theorem d2_18 : decode method_3_code 18 = .ok (.ldc2_w 9, 3) := by decide +kernel
theorem d2_21 : decode method_3_code 21 = .ok (.land, 1) := by decide +kernel
theorem d2_22 : decode method_3_code 22 = .ok (.ladd, 1) := by decide +kernel
theorem d2_23 : decode method_3_code 23 = .ok (.lload_n 0, 1) := by decide +kernel
theorem d2_24 : decode method_3_code 24 = .ok (.bipush 24, 2) := by decide +kernel
theorem d2_26 : decode method_3_code 26 = .ok (.lushr, 1) := by decide +kernel
theorem d2_27 : decode method_3_code 27 = .ok (.ldc2_w 9, 3) := by decide +kernel
theorem d2_30 : decode method_3_code 30 = .ok (.land, 1) := by decide +kernel
theorem d2_31 : decode method_3_code 31 = .ok (.ladd, 1) := by decide +kernel
theorem d2_32 : decode method_3_code 32 = .ok (.lload_n 0, 1) := by decide +kernel
theorem d2_33 : decode method_3_code 33 = .ok (.bipush 32, 2) := by decide +kernel
theorem d2_35 : decode method_3_code 35 = .ok (.lushr, 1) := by decide +kernel
theorem d2_36 : decode method_3_code 36 = .ok (.ldc2_w 9, 3) := by decide +kernel
theorem d2_39 : decode method_3_code 39 = .ok (.land, 1) := by decide +kernel
theorem d2_40 : decode method_3_code 40 = .ok (.ladd, 1) := by decide +kernel
theorem d2_41 : decode method_3_code 41 = .ok (.lload_n 0, 1) := by decide +kernel
theorem d2_42 : decode method_3_code 42 = .ok (.bipush 40, 2) := by decide +kernel
theorem d2_44 : decode method_3_code 44 = .ok (.lushr, 1) := by decide +kernel
theorem d2_45 : decode method_3_code 45 = .ok (.ldc2_w 9, 3) := by decide +kernel
theorem d2_48 : decode method_3_code 48 = .ok (.land, 1) := by decide +kernel
theorem d2_49 : decode method_3_code 49 = .ok (.ladd, 1) := by decide +kernel
theorem d2_50 : decode method_3_code 50 = .ok (.lload_n 0, 1) := by decide +kernel
theorem d2_51 : decode method_3_code 51 = .ok (.bipush 48, 2) := by decide +kernel
theorem d2_53 : decode method_3_code 53 = .ok (.lushr, 1) := by decide +kernel
theorem d2_54 : decode method_3_code 54 = .ok (.ldc2_w 9, 3) := by decide +kernel
theorem d2_57 : decode method_3_code 57 = .ok (.land, 1) := by decide +kernel
theorem d2_58 : decode method_3_code 58 = .ok (.ladd, 1) := by decide +kernel
theorem d2_59 : decode method_3_code 59 = .ok (.lload_n 0, 1) := by decide +kernel
theorem d2_60 : decode method_3_code 60 = .ok (.bipush 56, 2) := by decide +kernel
theorem d2_62 : decode method_3_code 62 = .ok (.lushr, 1) := by decide +kernel
theorem d2_63 : decode method_3_code 63 = .ok (.ldc2_w 9, 3) := by decide +kernel
theorem d2_66 : decode method_3_code 66 = .ok (.land, 1) := by decide +kernel
theorem d2_67 : decode method_3_code 67 = .ok (.ladd, 1) := by decide +kernel
theorem d2_68 : decode method_3_code 68 = .ok (.l2i, 1) := by decide +kernel
theorem d2_69 : decode method_3_code 69 = .ok (.ireturn, 1) := by decide +kernel
theorem ef_rm2 (m : MethodId) (x0 : Int64) : entryFrame m #[(.long x0)] 2 = mkF m 0 #[.val (.long x0), .second] [] := by first | (simp [entryFrame, mkF, argsToLocals, Value.category]; done) | rfl
def Q_rm2 (jA : Int64) (h0 : Heap) (n0 : Nat) (v : Option Value) (h : Heap) (L : List Loc) : Prop := v = some (.int (own_by jA)) ∧ Fr n0 L ∧ h = h0
set_option maxRecDepth 65536 in
set_option maxHeartbeats 40000000 in
theorem rm2 (l : Launch) (Z : State) (a0 : Array Value) (hw : ∀ d ∈ tables_1, d.before a0 Z = true) (ws : List Jvm.Cond) (jA : Int64)  (h0 : Heap) (n0 : Nat) (Z0 : n0 ≤ h0.size)  :
    MetFree l (⟨"com/example/fillwire/fillwire/wire/WordsByteSumPinLaw", "bytesOf", "(J)I"⟩ : MethodName) (head1 (Jvm.Cond.code (⟨"com/example/fillwire/fillwire/wire/WordsByteSumPinLaw", "bytesOf", "(J)I"⟩ : MethodName) method_3_code 2 (some .int) :: ws) ({ frames := 0, cells := 0, slots := 0, locals := 0 } : Room)) (fun a U => a = #[(.long jA)] ∧ Z.Warmed39 U.vm ∧ U.heap = h0) (fun _ _ _ _ _ => True) (fun _ U o U' => ∃ v L, o = .returned v ∧ Q_rm2 jA h0 n0 v U'.heap L ∧ FrameEnd U o U' L ({ frames := 0, cells := 0, slots := 0, locals := 0 } : Room).cells ({ frames := 0, cells := 0, slots := 0, locals := 0 } : Room).slots) := by
  refine MetFree.of_bodySF (plainFor_of_name pn_0) hisR ?_
  intro p e s m args below meth c s₁ Bd hml0 hP hK
  obtain ⟨rfl, hZ, hh⟩ := hP
  have hx := Bd.exec
  have hby := Bd.bytes
  have hml : c.maxLocals = 2 := hml0
  have hown : s.vm.findClass "com/example/fillwire/fillwire/wire/WordsByteSumPinLaw" = some m.cls := findClass_of_methodNamed Bd.named
  have hnm := (name_of_methodNamed Bd.named Bd.method).1
  have X0 : Stand p l e ({ frames := 0, cells := 0, slots := 0, locals := 0 } : Room) s m #[(.long jA)] below meth c s₁ [] 0 0 := Stand.of_body Bd
  have e0 : s₁.heap = h0 := by rw [← hh, Bd.state]; rfl
  have N0 := Fr.nil n0
  let PO : Outcome → State → Prop := own_PO s (Q_rm2 jA h0 n0) 0 0
  show own_Go p e below PO (s₁.setTop (entryFrame m #[(.long jA)] 2))
  rw [ef_rm2]
  show own_Go p e below PO (s₁.setTop (mkF m 0 #[.val (.long jA), .second] []))
  refine own_back ?_ (fun t k => XS.lloadN X0.here hx rfl (hb hby d2_0) rfl k)
  show own_Go p e below PO (s₁.setTop (mkF m 1 #[.val (.long jA), .second] [(.long jA)]))
  refine own_back ?_ (fun t k => X0.ldc2Long hx hown (mvT hZ (hw _ (List.mem_of_getElem? (i := 9) rfl))) (g := (mkF m 1 #[.val (.long jA), .second] [(.long jA)])) rfl (hb hby d2_1) _ k)
  show own_Go p e below PO (s₁.setTop (mkF m 4 #[.val (.long jA), .second] [(.long (255 : Int64)), (.long jA)]))
  refine own_back ?_ (fun t k => XS.land X0.here hx rfl (hb hby d2_4) rfl k)
  show own_Go p e below PO (s₁.setTop (mkF m 5 #[.val (.long jA), .second] [(.long (jA &&& (255 : Int64)))]))
  refine own_back ?_ (fun t k => XS.lloadN X0.here hx rfl (hb hby d2_5) rfl k)
  show own_Go p e below PO (s₁.setTop (mkF m 6 #[.val (.long jA), .second] [(.long jA), (.long (jA &&& (255 : Int64)))]))
  refine own_back ?_ (fun t k => XS.bipush X0.here hx rfl (hb hby d2_6) k)
  show own_Go p e below PO (s₁.setTop (mkF m 8 #[.val (.long jA), .second] [(.int (8 : Int32)), (.long jA), (.long (jA &&& (255 : Int64)))]))
  refine own_back ?_ (fun t k => XS.lushr X0.here hx rfl (hb hby d2_8) rfl k)
  show own_Go p e below PO (s₁.setTop (mkF m 9 #[.val (.long jA), .second] [(.long ((jA.toUInt64 >>> ((8 : Int32) &&& 0x3f).toInt64.toUInt64).toInt64)), (.long (jA &&& (255 : Int64)))]))
  refine own_back ?_ (fun t k => X0.ldc2Long hx hown (mvT hZ (hw _ (List.mem_of_getElem? (i := 9) rfl))) (g := (mkF m 9 #[.val (.long jA), .second] [(.long ((jA.toUInt64 >>> ((8 : Int32) &&& 0x3f).toInt64.toUInt64).toInt64)), (.long (jA &&& (255 : Int64)))])) rfl (hb hby d2_9) _ k)
  show own_Go p e below PO (s₁.setTop (mkF m 12 #[.val (.long jA), .second] [(.long (255 : Int64)), (.long ((jA.toUInt64 >>> ((8 : Int32) &&& 0x3f).toInt64.toUInt64).toInt64)), (.long (jA &&& (255 : Int64)))]))
  refine own_back ?_ (fun t k => XS.land X0.here hx rfl (hb hby d2_12) rfl k)
  show own_Go p e below PO (s₁.setTop (mkF m 13 #[.val (.long jA), .second] [(.long (((jA.toUInt64 >>> ((8 : Int32) &&& 0x3f).toInt64.toUInt64).toInt64) &&& (255 : Int64))), (.long (jA &&& (255 : Int64)))]))
  refine own_back ?_ (fun t k => XS.ladd X0.here hx rfl (hb hby d2_13) rfl k)
  show own_Go p e below PO (s₁.setTop (mkF m 14 #[.val (.long jA), .second] [(.long ((jA &&& (255 : Int64)) + (((jA.toUInt64 >>> ((8 : Int32) &&& 0x3f).toInt64.toUInt64).toInt64) &&& (255 : Int64))))]))
  refine own_back ?_ (fun t k => XS.lloadN X0.here hx rfl (hb hby d2_14) rfl k)
  show own_Go p e below PO (s₁.setTop (mkF m 15 #[.val (.long jA), .second] [(.long jA), (.long ((jA &&& (255 : Int64)) + (((jA.toUInt64 >>> ((8 : Int32) &&& 0x3f).toInt64.toUInt64).toInt64) &&& (255 : Int64))))]))
  refine own_back ?_ (fun t k => XS.bipush X0.here hx rfl (hb hby d2_15) k)
  show own_Go p e below PO (s₁.setTop (mkF m 17 #[.val (.long jA), .second] [(.int (16 : Int32)), (.long jA), (.long ((jA &&& (255 : Int64)) + (((jA.toUInt64 >>> ((8 : Int32) &&& 0x3f).toInt64.toUInt64).toInt64) &&& (255 : Int64))))]))
  refine own_back ?_ (fun t k => XS.lushr X0.here hx rfl (hb hby d2_17) rfl k)
  show own_Go p e below PO (s₁.setTop (mkF m 18 #[.val (.long jA), .second] [(.long ((jA.toUInt64 >>> ((16 : Int32) &&& 0x3f).toInt64.toUInt64).toInt64)), (.long ((jA &&& (255 : Int64)) + (((jA.toUInt64 >>> ((8 : Int32) &&& 0x3f).toInt64.toUInt64).toInt64) &&& (255 : Int64))))]))
  refine own_back ?_ (fun t k => X0.ldc2Long hx hown (mvT hZ (hw _ (List.mem_of_getElem? (i := 9) rfl))) (g := (mkF m 18 #[.val (.long jA), .second] [(.long ((jA.toUInt64 >>> ((16 : Int32) &&& 0x3f).toInt64.toUInt64).toInt64)), (.long ((jA &&& (255 : Int64)) + (((jA.toUInt64 >>> ((8 : Int32) &&& 0x3f).toInt64.toUInt64).toInt64) &&& (255 : Int64))))])) rfl (hb hby d2_18) _ k)
  show own_Go p e below PO (s₁.setTop (mkF m 21 #[.val (.long jA), .second] [(.long (255 : Int64)), (.long ((jA.toUInt64 >>> ((16 : Int32) &&& 0x3f).toInt64.toUInt64).toInt64)), (.long ((jA &&& (255 : Int64)) + (((jA.toUInt64 >>> ((8 : Int32) &&& 0x3f).toInt64.toUInt64).toInt64) &&& (255 : Int64))))]))
  refine own_back ?_ (fun t k => XS.land X0.here hx rfl (hb hby d2_21) rfl k)
  show own_Go p e below PO (s₁.setTop (mkF m 22 #[.val (.long jA), .second] [(.long (((jA.toUInt64 >>> ((16 : Int32) &&& 0x3f).toInt64.toUInt64).toInt64) &&& (255 : Int64))), (.long ((jA &&& (255 : Int64)) + (((jA.toUInt64 >>> ((8 : Int32) &&& 0x3f).toInt64.toUInt64).toInt64) &&& (255 : Int64))))]))
  refine own_back ?_ (fun t k => XS.ladd X0.here hx rfl (hb hby d2_22) rfl k)
  show own_Go p e below PO (s₁.setTop (mkF m 23 #[.val (.long jA), .second] [(.long (((jA &&& (255 : Int64)) + (((jA.toUInt64 >>> ((8 : Int32) &&& 0x3f).toInt64.toUInt64).toInt64) &&& (255 : Int64))) + (((jA.toUInt64 >>> ((16 : Int32) &&& 0x3f).toInt64.toUInt64).toInt64) &&& (255 : Int64))))]))
  refine own_back ?_ (fun t k => XS.lloadN X0.here hx rfl (hb hby d2_23) rfl k)
  show own_Go p e below PO (s₁.setTop (mkF m 24 #[.val (.long jA), .second] [(.long jA), (.long (((jA &&& (255 : Int64)) + (((jA.toUInt64 >>> ((8 : Int32) &&& 0x3f).toInt64.toUInt64).toInt64) &&& (255 : Int64))) + (((jA.toUInt64 >>> ((16 : Int32) &&& 0x3f).toInt64.toUInt64).toInt64) &&& (255 : Int64))))]))
  refine own_back ?_ (fun t k => XS.bipush X0.here hx rfl (hb hby d2_24) k)
  show own_Go p e below PO (s₁.setTop (mkF m 26 #[.val (.long jA), .second] [(.int (24 : Int32)), (.long jA), (.long (((jA &&& (255 : Int64)) + (((jA.toUInt64 >>> ((8 : Int32) &&& 0x3f).toInt64.toUInt64).toInt64) &&& (255 : Int64))) + (((jA.toUInt64 >>> ((16 : Int32) &&& 0x3f).toInt64.toUInt64).toInt64) &&& (255 : Int64))))]))
  refine own_back ?_ (fun t k => XS.lushr X0.here hx rfl (hb hby d2_26) rfl k)
  show own_Go p e below PO (s₁.setTop (mkF m 27 #[.val (.long jA), .second] [(.long ((jA.toUInt64 >>> ((24 : Int32) &&& 0x3f).toInt64.toUInt64).toInt64)), (.long (((jA &&& (255 : Int64)) + (((jA.toUInt64 >>> ((8 : Int32) &&& 0x3f).toInt64.toUInt64).toInt64) &&& (255 : Int64))) + (((jA.toUInt64 >>> ((16 : Int32) &&& 0x3f).toInt64.toUInt64).toInt64) &&& (255 : Int64))))]))
  refine own_back ?_ (fun t k => X0.ldc2Long hx hown (mvT hZ (hw _ (List.mem_of_getElem? (i := 9) rfl))) (g := (mkF m 27 #[.val (.long jA), .second] [(.long ((jA.toUInt64 >>> ((24 : Int32) &&& 0x3f).toInt64.toUInt64).toInt64)), (.long (((jA &&& (255 : Int64)) + (((jA.toUInt64 >>> ((8 : Int32) &&& 0x3f).toInt64.toUInt64).toInt64) &&& (255 : Int64))) + (((jA.toUInt64 >>> ((16 : Int32) &&& 0x3f).toInt64.toUInt64).toInt64) &&& (255 : Int64))))])) rfl (hb hby d2_27) _ k)
  show own_Go p e below PO (s₁.setTop (mkF m 30 #[.val (.long jA), .second] [(.long (255 : Int64)), (.long ((jA.toUInt64 >>> ((24 : Int32) &&& 0x3f).toInt64.toUInt64).toInt64)), (.long (((jA &&& (255 : Int64)) + (((jA.toUInt64 >>> ((8 : Int32) &&& 0x3f).toInt64.toUInt64).toInt64) &&& (255 : Int64))) + (((jA.toUInt64 >>> ((16 : Int32) &&& 0x3f).toInt64.toUInt64).toInt64) &&& (255 : Int64))))]))
  refine own_back ?_ (fun t k => XS.land X0.here hx rfl (hb hby d2_30) rfl k)
  show own_Go p e below PO (s₁.setTop (mkF m 31 #[.val (.long jA), .second] [(.long (((jA.toUInt64 >>> ((24 : Int32) &&& 0x3f).toInt64.toUInt64).toInt64) &&& (255 : Int64))), (.long (((jA &&& (255 : Int64)) + (((jA.toUInt64 >>> ((8 : Int32) &&& 0x3f).toInt64.toUInt64).toInt64) &&& (255 : Int64))) + (((jA.toUInt64 >>> ((16 : Int32) &&& 0x3f).toInt64.toUInt64).toInt64) &&& (255 : Int64))))]))
  refine own_back ?_ (fun t k => XS.ladd X0.here hx rfl (hb hby d2_31) rfl k)
  show own_Go p e below PO (s₁.setTop (mkF m 32 #[.val (.long jA), .second] [(.long ((((jA &&& (255 : Int64)) + (((jA.toUInt64 >>> ((8 : Int32) &&& 0x3f).toInt64.toUInt64).toInt64) &&& (255 : Int64))) + (((jA.toUInt64 >>> ((16 : Int32) &&& 0x3f).toInt64.toUInt64).toInt64) &&& (255 : Int64))) + (((jA.toUInt64 >>> ((24 : Int32) &&& 0x3f).toInt64.toUInt64).toInt64) &&& (255 : Int64))))]))
  refine own_back ?_ (fun t k => XS.lloadN X0.here hx rfl (hb hby d2_32) rfl k)
  show own_Go p e below PO (s₁.setTop (mkF m 33 #[.val (.long jA), .second] [(.long jA), (.long ((((jA &&& (255 : Int64)) + (((jA.toUInt64 >>> ((8 : Int32) &&& 0x3f).toInt64.toUInt64).toInt64) &&& (255 : Int64))) + (((jA.toUInt64 >>> ((16 : Int32) &&& 0x3f).toInt64.toUInt64).toInt64) &&& (255 : Int64))) + (((jA.toUInt64 >>> ((24 : Int32) &&& 0x3f).toInt64.toUInt64).toInt64) &&& (255 : Int64))))]))
  refine own_back ?_ (fun t k => XS.bipush X0.here hx rfl (hb hby d2_33) k)
  show own_Go p e below PO (s₁.setTop (mkF m 35 #[.val (.long jA), .second] [(.int (32 : Int32)), (.long jA), (.long ((((jA &&& (255 : Int64)) + (((jA.toUInt64 >>> ((8 : Int32) &&& 0x3f).toInt64.toUInt64).toInt64) &&& (255 : Int64))) + (((jA.toUInt64 >>> ((16 : Int32) &&& 0x3f).toInt64.toUInt64).toInt64) &&& (255 : Int64))) + (((jA.toUInt64 >>> ((24 : Int32) &&& 0x3f).toInt64.toUInt64).toInt64) &&& (255 : Int64))))]))
  refine own_back ?_ (fun t k => XS.lushr X0.here hx rfl (hb hby d2_35) rfl k)
  show own_Go p e below PO (s₁.setTop (mkF m 36 #[.val (.long jA), .second] [(.long ((jA.toUInt64 >>> ((32 : Int32) &&& 0x3f).toInt64.toUInt64).toInt64)), (.long ((((jA &&& (255 : Int64)) + (((jA.toUInt64 >>> ((8 : Int32) &&& 0x3f).toInt64.toUInt64).toInt64) &&& (255 : Int64))) + (((jA.toUInt64 >>> ((16 : Int32) &&& 0x3f).toInt64.toUInt64).toInt64) &&& (255 : Int64))) + (((jA.toUInt64 >>> ((24 : Int32) &&& 0x3f).toInt64.toUInt64).toInt64) &&& (255 : Int64))))]))
  refine own_back ?_ (fun t k => X0.ldc2Long hx hown (mvT hZ (hw _ (List.mem_of_getElem? (i := 9) rfl))) (g := (mkF m 36 #[.val (.long jA), .second] [(.long ((jA.toUInt64 >>> ((32 : Int32) &&& 0x3f).toInt64.toUInt64).toInt64)), (.long ((((jA &&& (255 : Int64)) + (((jA.toUInt64 >>> ((8 : Int32) &&& 0x3f).toInt64.toUInt64).toInt64) &&& (255 : Int64))) + (((jA.toUInt64 >>> ((16 : Int32) &&& 0x3f).toInt64.toUInt64).toInt64) &&& (255 : Int64))) + (((jA.toUInt64 >>> ((24 : Int32) &&& 0x3f).toInt64.toUInt64).toInt64) &&& (255 : Int64))))])) rfl (hb hby d2_36) _ k)
  show own_Go p e below PO (s₁.setTop (mkF m 39 #[.val (.long jA), .second] [(.long (255 : Int64)), (.long ((jA.toUInt64 >>> ((32 : Int32) &&& 0x3f).toInt64.toUInt64).toInt64)), (.long ((((jA &&& (255 : Int64)) + (((jA.toUInt64 >>> ((8 : Int32) &&& 0x3f).toInt64.toUInt64).toInt64) &&& (255 : Int64))) + (((jA.toUInt64 >>> ((16 : Int32) &&& 0x3f).toInt64.toUInt64).toInt64) &&& (255 : Int64))) + (((jA.toUInt64 >>> ((24 : Int32) &&& 0x3f).toInt64.toUInt64).toInt64) &&& (255 : Int64))))]))
  refine own_back ?_ (fun t k => XS.land X0.here hx rfl (hb hby d2_39) rfl k)
  show own_Go p e below PO (s₁.setTop (mkF m 40 #[.val (.long jA), .second] [(.long (((jA.toUInt64 >>> ((32 : Int32) &&& 0x3f).toInt64.toUInt64).toInt64) &&& (255 : Int64))), (.long ((((jA &&& (255 : Int64)) + (((jA.toUInt64 >>> ((8 : Int32) &&& 0x3f).toInt64.toUInt64).toInt64) &&& (255 : Int64))) + (((jA.toUInt64 >>> ((16 : Int32) &&& 0x3f).toInt64.toUInt64).toInt64) &&& (255 : Int64))) + (((jA.toUInt64 >>> ((24 : Int32) &&& 0x3f).toInt64.toUInt64).toInt64) &&& (255 : Int64))))]))
  refine own_back ?_ (fun t k => XS.ladd X0.here hx rfl (hb hby d2_40) rfl k)
  show own_Go p e below PO (s₁.setTop (mkF m 41 #[.val (.long jA), .second] [(.long (((((jA &&& (255 : Int64)) + (((jA.toUInt64 >>> ((8 : Int32) &&& 0x3f).toInt64.toUInt64).toInt64) &&& (255 : Int64))) + (((jA.toUInt64 >>> ((16 : Int32) &&& 0x3f).toInt64.toUInt64).toInt64) &&& (255 : Int64))) + (((jA.toUInt64 >>> ((24 : Int32) &&& 0x3f).toInt64.toUInt64).toInt64) &&& (255 : Int64))) + (((jA.toUInt64 >>> ((32 : Int32) &&& 0x3f).toInt64.toUInt64).toInt64) &&& (255 : Int64))))]))
  refine own_back ?_ (fun t k => XS.lloadN X0.here hx rfl (hb hby d2_41) rfl k)
  show own_Go p e below PO (s₁.setTop (mkF m 42 #[.val (.long jA), .second] [(.long jA), (.long (((((jA &&& (255 : Int64)) + (((jA.toUInt64 >>> ((8 : Int32) &&& 0x3f).toInt64.toUInt64).toInt64) &&& (255 : Int64))) + (((jA.toUInt64 >>> ((16 : Int32) &&& 0x3f).toInt64.toUInt64).toInt64) &&& (255 : Int64))) + (((jA.toUInt64 >>> ((24 : Int32) &&& 0x3f).toInt64.toUInt64).toInt64) &&& (255 : Int64))) + (((jA.toUInt64 >>> ((32 : Int32) &&& 0x3f).toInt64.toUInt64).toInt64) &&& (255 : Int64))))]))
  refine own_back ?_ (fun t k => XS.bipush X0.here hx rfl (hb hby d2_42) k)
  show own_Go p e below PO (s₁.setTop (mkF m 44 #[.val (.long jA), .second] [(.int (40 : Int32)), (.long jA), (.long (((((jA &&& (255 : Int64)) + (((jA.toUInt64 >>> ((8 : Int32) &&& 0x3f).toInt64.toUInt64).toInt64) &&& (255 : Int64))) + (((jA.toUInt64 >>> ((16 : Int32) &&& 0x3f).toInt64.toUInt64).toInt64) &&& (255 : Int64))) + (((jA.toUInt64 >>> ((24 : Int32) &&& 0x3f).toInt64.toUInt64).toInt64) &&& (255 : Int64))) + (((jA.toUInt64 >>> ((32 : Int32) &&& 0x3f).toInt64.toUInt64).toInt64) &&& (255 : Int64))))]))
  refine own_back ?_ (fun t k => XS.lushr X0.here hx rfl (hb hby d2_44) rfl k)
  show own_Go p e below PO (s₁.setTop (mkF m 45 #[.val (.long jA), .second] [(.long ((jA.toUInt64 >>> ((40 : Int32) &&& 0x3f).toInt64.toUInt64).toInt64)), (.long (((((jA &&& (255 : Int64)) + (((jA.toUInt64 >>> ((8 : Int32) &&& 0x3f).toInt64.toUInt64).toInt64) &&& (255 : Int64))) + (((jA.toUInt64 >>> ((16 : Int32) &&& 0x3f).toInt64.toUInt64).toInt64) &&& (255 : Int64))) + (((jA.toUInt64 >>> ((24 : Int32) &&& 0x3f).toInt64.toUInt64).toInt64) &&& (255 : Int64))) + (((jA.toUInt64 >>> ((32 : Int32) &&& 0x3f).toInt64.toUInt64).toInt64) &&& (255 : Int64))))]))
  refine own_back ?_ (fun t k => X0.ldc2Long hx hown (mvT hZ (hw _ (List.mem_of_getElem? (i := 9) rfl))) (g := (mkF m 45 #[.val (.long jA), .second] [(.long ((jA.toUInt64 >>> ((40 : Int32) &&& 0x3f).toInt64.toUInt64).toInt64)), (.long (((((jA &&& (255 : Int64)) + (((jA.toUInt64 >>> ((8 : Int32) &&& 0x3f).toInt64.toUInt64).toInt64) &&& (255 : Int64))) + (((jA.toUInt64 >>> ((16 : Int32) &&& 0x3f).toInt64.toUInt64).toInt64) &&& (255 : Int64))) + (((jA.toUInt64 >>> ((24 : Int32) &&& 0x3f).toInt64.toUInt64).toInt64) &&& (255 : Int64))) + (((jA.toUInt64 >>> ((32 : Int32) &&& 0x3f).toInt64.toUInt64).toInt64) &&& (255 : Int64))))])) rfl (hb hby d2_45) _ k)
  show own_Go p e below PO (s₁.setTop (mkF m 48 #[.val (.long jA), .second] [(.long (255 : Int64)), (.long ((jA.toUInt64 >>> ((40 : Int32) &&& 0x3f).toInt64.toUInt64).toInt64)), (.long (((((jA &&& (255 : Int64)) + (((jA.toUInt64 >>> ((8 : Int32) &&& 0x3f).toInt64.toUInt64).toInt64) &&& (255 : Int64))) + (((jA.toUInt64 >>> ((16 : Int32) &&& 0x3f).toInt64.toUInt64).toInt64) &&& (255 : Int64))) + (((jA.toUInt64 >>> ((24 : Int32) &&& 0x3f).toInt64.toUInt64).toInt64) &&& (255 : Int64))) + (((jA.toUInt64 >>> ((32 : Int32) &&& 0x3f).toInt64.toUInt64).toInt64) &&& (255 : Int64))))]))
  refine own_back ?_ (fun t k => XS.land X0.here hx rfl (hb hby d2_48) rfl k)
  show own_Go p e below PO (s₁.setTop (mkF m 49 #[.val (.long jA), .second] [(.long (((jA.toUInt64 >>> ((40 : Int32) &&& 0x3f).toInt64.toUInt64).toInt64) &&& (255 : Int64))), (.long (((((jA &&& (255 : Int64)) + (((jA.toUInt64 >>> ((8 : Int32) &&& 0x3f).toInt64.toUInt64).toInt64) &&& (255 : Int64))) + (((jA.toUInt64 >>> ((16 : Int32) &&& 0x3f).toInt64.toUInt64).toInt64) &&& (255 : Int64))) + (((jA.toUInt64 >>> ((24 : Int32) &&& 0x3f).toInt64.toUInt64).toInt64) &&& (255 : Int64))) + (((jA.toUInt64 >>> ((32 : Int32) &&& 0x3f).toInt64.toUInt64).toInt64) &&& (255 : Int64))))]))
  refine own_back ?_ (fun t k => XS.ladd X0.here hx rfl (hb hby d2_49) rfl k)
  show own_Go p e below PO (s₁.setTop (mkF m 50 #[.val (.long jA), .second] [(.long ((((((jA &&& (255 : Int64)) + (((jA.toUInt64 >>> ((8 : Int32) &&& 0x3f).toInt64.toUInt64).toInt64) &&& (255 : Int64))) + (((jA.toUInt64 >>> ((16 : Int32) &&& 0x3f).toInt64.toUInt64).toInt64) &&& (255 : Int64))) + (((jA.toUInt64 >>> ((24 : Int32) &&& 0x3f).toInt64.toUInt64).toInt64) &&& (255 : Int64))) + (((jA.toUInt64 >>> ((32 : Int32) &&& 0x3f).toInt64.toUInt64).toInt64) &&& (255 : Int64))) + (((jA.toUInt64 >>> ((40 : Int32) &&& 0x3f).toInt64.toUInt64).toInt64) &&& (255 : Int64))))]))
  refine own_back ?_ (fun t k => XS.lloadN X0.here hx rfl (hb hby d2_50) rfl k)
  show own_Go p e below PO (s₁.setTop (mkF m 51 #[.val (.long jA), .second] [(.long jA), (.long ((((((jA &&& (255 : Int64)) + (((jA.toUInt64 >>> ((8 : Int32) &&& 0x3f).toInt64.toUInt64).toInt64) &&& (255 : Int64))) + (((jA.toUInt64 >>> ((16 : Int32) &&& 0x3f).toInt64.toUInt64).toInt64) &&& (255 : Int64))) + (((jA.toUInt64 >>> ((24 : Int32) &&& 0x3f).toInt64.toUInt64).toInt64) &&& (255 : Int64))) + (((jA.toUInt64 >>> ((32 : Int32) &&& 0x3f).toInt64.toUInt64).toInt64) &&& (255 : Int64))) + (((jA.toUInt64 >>> ((40 : Int32) &&& 0x3f).toInt64.toUInt64).toInt64) &&& (255 : Int64))))]))
  refine own_back ?_ (fun t k => XS.bipush X0.here hx rfl (hb hby d2_51) k)
  show own_Go p e below PO (s₁.setTop (mkF m 53 #[.val (.long jA), .second] [(.int (48 : Int32)), (.long jA), (.long ((((((jA &&& (255 : Int64)) + (((jA.toUInt64 >>> ((8 : Int32) &&& 0x3f).toInt64.toUInt64).toInt64) &&& (255 : Int64))) + (((jA.toUInt64 >>> ((16 : Int32) &&& 0x3f).toInt64.toUInt64).toInt64) &&& (255 : Int64))) + (((jA.toUInt64 >>> ((24 : Int32) &&& 0x3f).toInt64.toUInt64).toInt64) &&& (255 : Int64))) + (((jA.toUInt64 >>> ((32 : Int32) &&& 0x3f).toInt64.toUInt64).toInt64) &&& (255 : Int64))) + (((jA.toUInt64 >>> ((40 : Int32) &&& 0x3f).toInt64.toUInt64).toInt64) &&& (255 : Int64))))]))
  refine own_back ?_ (fun t k => XS.lushr X0.here hx rfl (hb hby d2_53) rfl k)
  show own_Go p e below PO (s₁.setTop (mkF m 54 #[.val (.long jA), .second] [(.long ((jA.toUInt64 >>> ((48 : Int32) &&& 0x3f).toInt64.toUInt64).toInt64)), (.long ((((((jA &&& (255 : Int64)) + (((jA.toUInt64 >>> ((8 : Int32) &&& 0x3f).toInt64.toUInt64).toInt64) &&& (255 : Int64))) + (((jA.toUInt64 >>> ((16 : Int32) &&& 0x3f).toInt64.toUInt64).toInt64) &&& (255 : Int64))) + (((jA.toUInt64 >>> ((24 : Int32) &&& 0x3f).toInt64.toUInt64).toInt64) &&& (255 : Int64))) + (((jA.toUInt64 >>> ((32 : Int32) &&& 0x3f).toInt64.toUInt64).toInt64) &&& (255 : Int64))) + (((jA.toUInt64 >>> ((40 : Int32) &&& 0x3f).toInt64.toUInt64).toInt64) &&& (255 : Int64))))]))
  refine own_back ?_ (fun t k => X0.ldc2Long hx hown (mvT hZ (hw _ (List.mem_of_getElem? (i := 9) rfl))) (g := (mkF m 54 #[.val (.long jA), .second] [(.long ((jA.toUInt64 >>> ((48 : Int32) &&& 0x3f).toInt64.toUInt64).toInt64)), (.long ((((((jA &&& (255 : Int64)) + (((jA.toUInt64 >>> ((8 : Int32) &&& 0x3f).toInt64.toUInt64).toInt64) &&& (255 : Int64))) + (((jA.toUInt64 >>> ((16 : Int32) &&& 0x3f).toInt64.toUInt64).toInt64) &&& (255 : Int64))) + (((jA.toUInt64 >>> ((24 : Int32) &&& 0x3f).toInt64.toUInt64).toInt64) &&& (255 : Int64))) + (((jA.toUInt64 >>> ((32 : Int32) &&& 0x3f).toInt64.toUInt64).toInt64) &&& (255 : Int64))) + (((jA.toUInt64 >>> ((40 : Int32) &&& 0x3f).toInt64.toUInt64).toInt64) &&& (255 : Int64))))])) rfl (hb hby d2_54) _ k)
  show own_Go p e below PO (s₁.setTop (mkF m 57 #[.val (.long jA), .second] [(.long (255 : Int64)), (.long ((jA.toUInt64 >>> ((48 : Int32) &&& 0x3f).toInt64.toUInt64).toInt64)), (.long ((((((jA &&& (255 : Int64)) + (((jA.toUInt64 >>> ((8 : Int32) &&& 0x3f).toInt64.toUInt64).toInt64) &&& (255 : Int64))) + (((jA.toUInt64 >>> ((16 : Int32) &&& 0x3f).toInt64.toUInt64).toInt64) &&& (255 : Int64))) + (((jA.toUInt64 >>> ((24 : Int32) &&& 0x3f).toInt64.toUInt64).toInt64) &&& (255 : Int64))) + (((jA.toUInt64 >>> ((32 : Int32) &&& 0x3f).toInt64.toUInt64).toInt64) &&& (255 : Int64))) + (((jA.toUInt64 >>> ((40 : Int32) &&& 0x3f).toInt64.toUInt64).toInt64) &&& (255 : Int64))))]))
  refine own_back ?_ (fun t k => XS.land X0.here hx rfl (hb hby d2_57) rfl k)
  show own_Go p e below PO (s₁.setTop (mkF m 58 #[.val (.long jA), .second] [(.long (((jA.toUInt64 >>> ((48 : Int32) &&& 0x3f).toInt64.toUInt64).toInt64) &&& (255 : Int64))), (.long ((((((jA &&& (255 : Int64)) + (((jA.toUInt64 >>> ((8 : Int32) &&& 0x3f).toInt64.toUInt64).toInt64) &&& (255 : Int64))) + (((jA.toUInt64 >>> ((16 : Int32) &&& 0x3f).toInt64.toUInt64).toInt64) &&& (255 : Int64))) + (((jA.toUInt64 >>> ((24 : Int32) &&& 0x3f).toInt64.toUInt64).toInt64) &&& (255 : Int64))) + (((jA.toUInt64 >>> ((32 : Int32) &&& 0x3f).toInt64.toUInt64).toInt64) &&& (255 : Int64))) + (((jA.toUInt64 >>> ((40 : Int32) &&& 0x3f).toInt64.toUInt64).toInt64) &&& (255 : Int64))))]))
  refine own_back ?_ (fun t k => XS.ladd X0.here hx rfl (hb hby d2_58) rfl k)
  show own_Go p e below PO (s₁.setTop (mkF m 59 #[.val (.long jA), .second] [(.long (((((((jA &&& (255 : Int64)) + (((jA.toUInt64 >>> ((8 : Int32) &&& 0x3f).toInt64.toUInt64).toInt64) &&& (255 : Int64))) + (((jA.toUInt64 >>> ((16 : Int32) &&& 0x3f).toInt64.toUInt64).toInt64) &&& (255 : Int64))) + (((jA.toUInt64 >>> ((24 : Int32) &&& 0x3f).toInt64.toUInt64).toInt64) &&& (255 : Int64))) + (((jA.toUInt64 >>> ((32 : Int32) &&& 0x3f).toInt64.toUInt64).toInt64) &&& (255 : Int64))) + (((jA.toUInt64 >>> ((40 : Int32) &&& 0x3f).toInt64.toUInt64).toInt64) &&& (255 : Int64))) + (((jA.toUInt64 >>> ((48 : Int32) &&& 0x3f).toInt64.toUInt64).toInt64) &&& (255 : Int64))))]))
  refine own_back ?_ (fun t k => XS.lloadN X0.here hx rfl (hb hby d2_59) rfl k)
  show own_Go p e below PO (s₁.setTop (mkF m 60 #[.val (.long jA), .second] [(.long jA), (.long (((((((jA &&& (255 : Int64)) + (((jA.toUInt64 >>> ((8 : Int32) &&& 0x3f).toInt64.toUInt64).toInt64) &&& (255 : Int64))) + (((jA.toUInt64 >>> ((16 : Int32) &&& 0x3f).toInt64.toUInt64).toInt64) &&& (255 : Int64))) + (((jA.toUInt64 >>> ((24 : Int32) &&& 0x3f).toInt64.toUInt64).toInt64) &&& (255 : Int64))) + (((jA.toUInt64 >>> ((32 : Int32) &&& 0x3f).toInt64.toUInt64).toInt64) &&& (255 : Int64))) + (((jA.toUInt64 >>> ((40 : Int32) &&& 0x3f).toInt64.toUInt64).toInt64) &&& (255 : Int64))) + (((jA.toUInt64 >>> ((48 : Int32) &&& 0x3f).toInt64.toUInt64).toInt64) &&& (255 : Int64))))]))
  refine own_back ?_ (fun t k => XS.bipush X0.here hx rfl (hb hby d2_60) k)
  show own_Go p e below PO (s₁.setTop (mkF m 62 #[.val (.long jA), .second] [(.int (56 : Int32)), (.long jA), (.long (((((((jA &&& (255 : Int64)) + (((jA.toUInt64 >>> ((8 : Int32) &&& 0x3f).toInt64.toUInt64).toInt64) &&& (255 : Int64))) + (((jA.toUInt64 >>> ((16 : Int32) &&& 0x3f).toInt64.toUInt64).toInt64) &&& (255 : Int64))) + (((jA.toUInt64 >>> ((24 : Int32) &&& 0x3f).toInt64.toUInt64).toInt64) &&& (255 : Int64))) + (((jA.toUInt64 >>> ((32 : Int32) &&& 0x3f).toInt64.toUInt64).toInt64) &&& (255 : Int64))) + (((jA.toUInt64 >>> ((40 : Int32) &&& 0x3f).toInt64.toUInt64).toInt64) &&& (255 : Int64))) + (((jA.toUInt64 >>> ((48 : Int32) &&& 0x3f).toInt64.toUInt64).toInt64) &&& (255 : Int64))))]))
  refine own_back ?_ (fun t k => XS.lushr X0.here hx rfl (hb hby d2_62) rfl k)
  show own_Go p e below PO (s₁.setTop (mkF m 63 #[.val (.long jA), .second] [(.long ((jA.toUInt64 >>> ((56 : Int32) &&& 0x3f).toInt64.toUInt64).toInt64)), (.long (((((((jA &&& (255 : Int64)) + (((jA.toUInt64 >>> ((8 : Int32) &&& 0x3f).toInt64.toUInt64).toInt64) &&& (255 : Int64))) + (((jA.toUInt64 >>> ((16 : Int32) &&& 0x3f).toInt64.toUInt64).toInt64) &&& (255 : Int64))) + (((jA.toUInt64 >>> ((24 : Int32) &&& 0x3f).toInt64.toUInt64).toInt64) &&& (255 : Int64))) + (((jA.toUInt64 >>> ((32 : Int32) &&& 0x3f).toInt64.toUInt64).toInt64) &&& (255 : Int64))) + (((jA.toUInt64 >>> ((40 : Int32) &&& 0x3f).toInt64.toUInt64).toInt64) &&& (255 : Int64))) + (((jA.toUInt64 >>> ((48 : Int32) &&& 0x3f).toInt64.toUInt64).toInt64) &&& (255 : Int64))))]))
  refine own_back ?_ (fun t k => X0.ldc2Long hx hown (mvT hZ (hw _ (List.mem_of_getElem? (i := 9) rfl))) (g := (mkF m 63 #[.val (.long jA), .second] [(.long ((jA.toUInt64 >>> ((56 : Int32) &&& 0x3f).toInt64.toUInt64).toInt64)), (.long (((((((jA &&& (255 : Int64)) + (((jA.toUInt64 >>> ((8 : Int32) &&& 0x3f).toInt64.toUInt64).toInt64) &&& (255 : Int64))) + (((jA.toUInt64 >>> ((16 : Int32) &&& 0x3f).toInt64.toUInt64).toInt64) &&& (255 : Int64))) + (((jA.toUInt64 >>> ((24 : Int32) &&& 0x3f).toInt64.toUInt64).toInt64) &&& (255 : Int64))) + (((jA.toUInt64 >>> ((32 : Int32) &&& 0x3f).toInt64.toUInt64).toInt64) &&& (255 : Int64))) + (((jA.toUInt64 >>> ((40 : Int32) &&& 0x3f).toInt64.toUInt64).toInt64) &&& (255 : Int64))) + (((jA.toUInt64 >>> ((48 : Int32) &&& 0x3f).toInt64.toUInt64).toInt64) &&& (255 : Int64))))])) rfl (hb hby d2_63) _ k)
  show own_Go p e below PO (s₁.setTop (mkF m 66 #[.val (.long jA), .second] [(.long (255 : Int64)), (.long ((jA.toUInt64 >>> ((56 : Int32) &&& 0x3f).toInt64.toUInt64).toInt64)), (.long (((((((jA &&& (255 : Int64)) + (((jA.toUInt64 >>> ((8 : Int32) &&& 0x3f).toInt64.toUInt64).toInt64) &&& (255 : Int64))) + (((jA.toUInt64 >>> ((16 : Int32) &&& 0x3f).toInt64.toUInt64).toInt64) &&& (255 : Int64))) + (((jA.toUInt64 >>> ((24 : Int32) &&& 0x3f).toInt64.toUInt64).toInt64) &&& (255 : Int64))) + (((jA.toUInt64 >>> ((32 : Int32) &&& 0x3f).toInt64.toUInt64).toInt64) &&& (255 : Int64))) + (((jA.toUInt64 >>> ((40 : Int32) &&& 0x3f).toInt64.toUInt64).toInt64) &&& (255 : Int64))) + (((jA.toUInt64 >>> ((48 : Int32) &&& 0x3f).toInt64.toUInt64).toInt64) &&& (255 : Int64))))]))
  refine own_back ?_ (fun t k => XS.land X0.here hx rfl (hb hby d2_66) rfl k)
  show own_Go p e below PO (s₁.setTop (mkF m 67 #[.val (.long jA), .second] [(.long (((jA.toUInt64 >>> ((56 : Int32) &&& 0x3f).toInt64.toUInt64).toInt64) &&& (255 : Int64))), (.long (((((((jA &&& (255 : Int64)) + (((jA.toUInt64 >>> ((8 : Int32) &&& 0x3f).toInt64.toUInt64).toInt64) &&& (255 : Int64))) + (((jA.toUInt64 >>> ((16 : Int32) &&& 0x3f).toInt64.toUInt64).toInt64) &&& (255 : Int64))) + (((jA.toUInt64 >>> ((24 : Int32) &&& 0x3f).toInt64.toUInt64).toInt64) &&& (255 : Int64))) + (((jA.toUInt64 >>> ((32 : Int32) &&& 0x3f).toInt64.toUInt64).toInt64) &&& (255 : Int64))) + (((jA.toUInt64 >>> ((40 : Int32) &&& 0x3f).toInt64.toUInt64).toInt64) &&& (255 : Int64))) + (((jA.toUInt64 >>> ((48 : Int32) &&& 0x3f).toInt64.toUInt64).toInt64) &&& (255 : Int64))))]))
  refine own_back ?_ (fun t k => XS.ladd X0.here hx rfl (hb hby d2_67) rfl k)
  show own_Go p e below PO (s₁.setTop (mkF m 68 #[.val (.long jA), .second] [(.long ((((((((jA &&& (255 : Int64)) + (((jA.toUInt64 >>> ((8 : Int32) &&& 0x3f).toInt64.toUInt64).toInt64) &&& (255 : Int64))) + (((jA.toUInt64 >>> ((16 : Int32) &&& 0x3f).toInt64.toUInt64).toInt64) &&& (255 : Int64))) + (((jA.toUInt64 >>> ((24 : Int32) &&& 0x3f).toInt64.toUInt64).toInt64) &&& (255 : Int64))) + (((jA.toUInt64 >>> ((32 : Int32) &&& 0x3f).toInt64.toUInt64).toInt64) &&& (255 : Int64))) + (((jA.toUInt64 >>> ((40 : Int32) &&& 0x3f).toInt64.toUInt64).toInt64) &&& (255 : Int64))) + (((jA.toUInt64 >>> ((48 : Int32) &&& 0x3f).toInt64.toUInt64).toInt64) &&& (255 : Int64))) + (((jA.toUInt64 >>> ((56 : Int32) &&& 0x3f).toInt64.toUInt64).toInt64) &&& (255 : Int64))))]))
  refine own_back ?_ (fun t k => XS.l2i X0.here hx rfl (hb hby d2_68) rfl k)
  show own_Go p e below PO (s₁.setTop (mkF m 69 #[.val (.long jA), .second] [(.int (((((((((jA &&& (255 : Int64)) + (((jA.toUInt64 >>> ((8 : Int32) &&& 0x3f).toInt64.toUInt64).toInt64) &&& (255 : Int64))) + (((jA.toUInt64 >>> ((16 : Int32) &&& 0x3f).toInt64.toUInt64).toInt64) &&& (255 : Int64))) + (((jA.toUInt64 >>> ((24 : Int32) &&& 0x3f).toInt64.toUInt64).toInt64) &&& (255 : Int64))) + (((jA.toUInt64 >>> ((32 : Int32) &&& 0x3f).toInt64.toUInt64).toInt64) &&& (255 : Int64))) + (((jA.toUInt64 >>> ((40 : Int32) &&& 0x3f).toInt64.toUInt64).toInt64) &&& (255 : Int64))) + (((jA.toUInt64 >>> ((48 : Int32) &&& 0x3f).toInt64.toUInt64).toInt64) &&& (255 : Int64))) + (((jA.toUInt64 >>> ((56 : Int32) &&& 0x3f).toInt64.toUInt64).toInt64) &&& (255 : Int64))).toInt32))]))
  refine own_retI X0 hx (rest := []) Bd.returns (hb hby d2_69) e0 (Bd.notSynchronized) ?_ (by decide) (by decide)
  exact ⟨rfl, N0, rfl⟩
theorem d3_0 : decode prog_40_method_8_code 0 = .ok (.lload_n 0, 1) := by decide +kernel
theorem d3_1 : decode prog_40_method_8_code 1 = .ok (.lload_n 2, 1) := by decide +kernel
theorem d3_2 : decode prog_40_method_8_code 2 = .ok (.bipush 8, 2) := by decide +kernel
theorem d3_4 : decode prog_40_method_8_code 4 = .ok (.lshl, 1) := by decide +kernel
theorem d3_5 : decode prog_40_method_8_code 5 = .ok (.lsub, 1) := by decide +kernel
theorem d3_6 : decode prog_40_method_8_code 6 = .ok (.lload_n 2, 1) := by decide +kernel
theorem d3_7 : decode prog_40_method_8_code 7 = .ok (.ladd, 1) := by decide +kernel
theorem d3_8 : decode prog_40_method_8_code 8 = .ok (.lstore 4, 2) := by decide +kernel
theorem d3_10 : decode prog_40_method_8_code 10 = .ok (.lload 4, 2) := by decide +kernel
theorem d3_12 : decode prog_40_method_8_code 12 = .ok (.ldc2_w 23, 3) := by decide +kernel
theorem d3_15 : decode prog_40_method_8_code 15 = .ok (.land, 1) := by decide +kernel
theorem d3_16 : decode prog_40_method_8_code 16 = .ok (.lload 4, 2) := by decide +kernel
theorem d3_18 : decode prog_40_method_8_code 18 = .ok (.bipush 16, 2) := by decide +kernel
theorem d3_20 : decode prog_40_method_8_code 20 = .ok (.lushr, 1) := by decide +kernel
theorem d3_21 : decode prog_40_method_8_code 21 = .ok (.ldc2_w 23, 3) := by decide +kernel
theorem d3_24 : decode prog_40_method_8_code 24 = .ok (.land, 1) := by decide +kernel
theorem d3_25 : decode prog_40_method_8_code 25 = .ok (.ladd, 1) := by decide +kernel
theorem d3_26 : decode prog_40_method_8_code 26 = .ok (.lload 4, 2) := by decide +kernel
theorem d3_28 : decode prog_40_method_8_code 28 = .ok (.bipush 32, 2) := by decide +kernel
theorem d3_30 : decode prog_40_method_8_code 30 = .ok (.lushr, 1) := by decide +kernel
theorem d3_31 : decode prog_40_method_8_code 31 = .ok (.ldc2_w 23, 3) := by decide +kernel
theorem d3_34 : decode prog_40_method_8_code 34 = .ok (.land, 1) := by decide +kernel
theorem d3_35 : decode prog_40_method_8_code 35 = .ok (.ladd, 1) := by decide +kernel
theorem d3_36 : decode prog_40_method_8_code 36 = .ok (.lload 4, 2) := by decide +kernel
theorem d3_38 : decode prog_40_method_8_code 38 = .ok (.bipush 48, 2) := by decide +kernel
theorem d3_40 : decode prog_40_method_8_code 40 = .ok (.lushr, 1) := by decide +kernel
theorem d3_41 : decode prog_40_method_8_code 41 = .ok (.ladd, 1) := by decide +kernel
theorem d3_42 : decode prog_40_method_8_code 42 = .ok (.l2i, 1) := by decide +kernel
theorem d3_43 : decode prog_40_method_8_code 43 = .ok (.ireturn, 1) := by decide +kernel
theorem pn_1 : plainName "com/example/fillwire/fillwire/wire/Words" = true := by first | (simp [plainName, overriddenIn]; done) | decide +kernel
theorem ef_rm3 (m : MethodId) (x0 : Int64) (x1 : Int64) : entryFrame m #[(.long x0), (.long x1)] 6 = mkF m 0 #[.val (.long x0), .second, .val (.long x1), .second, .unset, .unset] [] := by first | (simp [entryFrame, mkF, argsToLocals, Value.category]; done) | rfl
def Q_rm3 (jA jB : Int64) (h0 : Heap) (n0 : Nat) (v : Option Value) (h : Heap) (L : List Loc) : Prop := v = some (.int (own_bs jA jB)) ∧ Fr n0 L ∧ h = h0
set_option maxRecDepth 65536 in
set_option maxHeartbeats 40000000 in
theorem rm3 (l : Launch) (Z : State) (a0 : Array Value) (hw : ∀ d ∈ tables_1, d.before a0 Z = true) (ws : List Jvm.Cond) (jA : Int64) (jB : Int64)  (h0 : Heap) (n0 : Nat) (Z0 : n0 ≤ h0.size)  :
    MetFree l (⟨"com/example/fillwire/fillwire/wire/Words", "byteSum", "(JJ)I"⟩ : MethodName) (head1 (Jvm.Cond.code (⟨"com/example/fillwire/fillwire/wire/Words", "byteSum", "(JJ)I"⟩ : MethodName) prog_40_method_8_code 6 (some .int) :: ws) ({ frames := 0, cells := 0, slots := 0, locals := 0 } : Room)) (fun a U => a = #[(.long jA), (.long jB)] ∧ Z.Warmed39 U.vm ∧ U.heap = h0) (fun _ _ _ _ _ => True) (fun _ U o U' => ∃ v L, o = .returned v ∧ Q_rm3 jA jB h0 n0 v U'.heap L ∧ FrameEnd U o U' L ({ frames := 0, cells := 0, slots := 0, locals := 0 } : Room).cells ({ frames := 0, cells := 0, slots := 0, locals := 0 } : Room).slots) := by
  refine MetFree.of_bodySF (plainFor_of_name pn_1) hisR ?_
  intro p e s m args below meth c s₁ Bd hml0 hP hK
  obtain ⟨rfl, hZ, hh⟩ := hP
  have hx := Bd.exec
  have hby := Bd.bytes
  have hml : c.maxLocals = 6 := hml0
  have hown : s.vm.findClass "com/example/fillwire/fillwire/wire/Words" = some m.cls := findClass_of_methodNamed Bd.named
  have hnm := (name_of_methodNamed Bd.named Bd.method).1
  have X0 : Stand p l e ({ frames := 0, cells := 0, slots := 0, locals := 0 } : Room) s m #[(.long jA), (.long jB)] below meth c s₁ [] 0 0 := Stand.of_body Bd
  have e0 : s₁.heap = h0 := by rw [← hh, Bd.state]; rfl
  have N0 := Fr.nil n0
  let PO : Outcome → State → Prop := own_PO s (Q_rm3 jA jB h0 n0) 0 0
  show own_Go p e below PO (s₁.setTop (entryFrame m #[(.long jA), (.long jB)] 6))
  rw [ef_rm3]
  show own_Go p e below PO (s₁.setTop (mkF m 0 #[.val (.long jA), .second, .val (.long jB), .second, .unset, .unset] []))
  refine own_back ?_ (fun t k => XS.lloadN X0.here hx rfl (hb hby d3_0) rfl k)
  show own_Go p e below PO (s₁.setTop (mkF m 1 #[.val (.long jA), .second, .val (.long jB), .second, .unset, .unset] [(.long jA)]))
  refine own_back ?_ (fun t k => XS.lloadN X0.here hx rfl (hb hby d3_1) rfl k)
  show own_Go p e below PO (s₁.setTop (mkF m 2 #[.val (.long jA), .second, .val (.long jB), .second, .unset, .unset] [(.long jB), (.long jA)]))
  refine own_back ?_ (fun t k => XS.bipush X0.here hx rfl (hb hby d3_2) k)
  show own_Go p e below PO (s₁.setTop (mkF m 4 #[.val (.long jA), .second, .val (.long jB), .second, .unset, .unset] [(.int (8 : Int32)), (.long jB), (.long jA)]))
  refine own_back ?_ (fun t k => XS.lshl X0.here hx rfl (hb hby d3_4) rfl k)
  show own_Go p e below PO (s₁.setTop (mkF m 5 #[.val (.long jA), .second, .val (.long jB), .second, .unset, .unset] [(.long (jB <<< ((8 : Int32) &&& 0x3f).toInt64)), (.long jA)]))
  refine own_back ?_ (fun t k => XS.lsub X0.here hx rfl (hb hby d3_5) rfl k)
  show own_Go p e below PO (s₁.setTop (mkF m 6 #[.val (.long jA), .second, .val (.long jB), .second, .unset, .unset] [(.long (jA - (jB <<< ((8 : Int32) &&& 0x3f).toInt64)))]))
  refine own_back ?_ (fun t k => XS.lloadN X0.here hx rfl (hb hby d3_6) rfl k)
  show own_Go p e below PO (s₁.setTop (mkF m 7 #[.val (.long jA), .second, .val (.long jB), .second, .unset, .unset] [(.long jB), (.long (jA - (jB <<< ((8 : Int32) &&& 0x3f).toInt64)))]))
  refine own_back ?_ (fun t k => XS.ladd X0.here hx rfl (hb hby d3_7) rfl k)
  show own_Go p e below PO (s₁.setTop (mkF m 8 #[.val (.long jA), .second, .val (.long jB), .second, .unset, .unset] [(.long ((jA - (jB <<< ((8 : Int32) &&& 0x3f).toInt64)) + jB))]))
  refine own_back ?_ (fun t k => XS.lstore X0.here hx rfl (hb hby d3_8) rfl (l' := #[.val (.long jA), .second, .val (.long jB), .second, .val (.long ((jA - (jB <<< ((8 : Int32) &&& 0x3f).toInt64)) + jB)), .second]) rfl k)
  show own_Go p e below PO (s₁.setTop (mkF m 10 #[.val (.long jA), .second, .val (.long jB), .second, .val (.long ((jA - (jB <<< ((8 : Int32) &&& 0x3f).toInt64)) + jB)), .second] []))
  refine own_back ?_ (fun t k => XS.lload X0.here hx rfl (hb hby d3_10) rfl k)
  show own_Go p e below PO (s₁.setTop (mkF m 12 #[.val (.long jA), .second, .val (.long jB), .second, .val (.long ((jA - (jB <<< ((8 : Int32) &&& 0x3f).toInt64)) + jB)), .second] [(.long ((jA - (jB <<< ((8 : Int32) &&& 0x3f).toInt64)) + jB))]))
  refine own_back ?_ (fun t k => X0.ldc2Long hx hown (mvT hZ (hw _ (List.mem_of_getElem? (i := 14) rfl))) (g := (mkF m 12 #[.val (.long jA), .second, .val (.long jB), .second, .val (.long ((jA - (jB <<< ((8 : Int32) &&& 0x3f).toInt64)) + jB)), .second] [(.long ((jA - (jB <<< ((8 : Int32) &&& 0x3f).toInt64)) + jB))])) rfl (hb hby d3_12) _ k)
  show own_Go p e below PO (s₁.setTop (mkF m 15 #[.val (.long jA), .second, .val (.long jB), .second, .val (.long ((jA - (jB <<< ((8 : Int32) &&& 0x3f).toInt64)) + jB)), .second] [(.long (65535 : Int64)), (.long ((jA - (jB <<< ((8 : Int32) &&& 0x3f).toInt64)) + jB))]))
  refine own_back ?_ (fun t k => XS.land X0.here hx rfl (hb hby d3_15) rfl k)
  show own_Go p e below PO (s₁.setTop (mkF m 16 #[.val (.long jA), .second, .val (.long jB), .second, .val (.long ((jA - (jB <<< ((8 : Int32) &&& 0x3f).toInt64)) + jB)), .second] [(.long (((jA - (jB <<< ((8 : Int32) &&& 0x3f).toInt64)) + jB) &&& (65535 : Int64)))]))
  refine own_back ?_ (fun t k => XS.lload X0.here hx rfl (hb hby d3_16) rfl k)
  show own_Go p e below PO (s₁.setTop (mkF m 18 #[.val (.long jA), .second, .val (.long jB), .second, .val (.long ((jA - (jB <<< ((8 : Int32) &&& 0x3f).toInt64)) + jB)), .second] [(.long ((jA - (jB <<< ((8 : Int32) &&& 0x3f).toInt64)) + jB)), (.long (((jA - (jB <<< ((8 : Int32) &&& 0x3f).toInt64)) + jB) &&& (65535 : Int64)))]))
  refine own_back ?_ (fun t k => XS.bipush X0.here hx rfl (hb hby d3_18) k)
  show own_Go p e below PO (s₁.setTop (mkF m 20 #[.val (.long jA), .second, .val (.long jB), .second, .val (.long ((jA - (jB <<< ((8 : Int32) &&& 0x3f).toInt64)) + jB)), .second] [(.int (16 : Int32)), (.long ((jA - (jB <<< ((8 : Int32) &&& 0x3f).toInt64)) + jB)), (.long (((jA - (jB <<< ((8 : Int32) &&& 0x3f).toInt64)) + jB) &&& (65535 : Int64)))]))
  refine own_back ?_ (fun t k => XS.lushr X0.here hx rfl (hb hby d3_20) rfl k)
  show own_Go p e below PO (s₁.setTop (mkF m 21 #[.val (.long jA), .second, .val (.long jB), .second, .val (.long ((jA - (jB <<< ((8 : Int32) &&& 0x3f).toInt64)) + jB)), .second] [(.long ((((jA - (jB <<< ((8 : Int32) &&& 0x3f).toInt64)) + jB).toUInt64 >>> ((16 : Int32) &&& 0x3f).toInt64.toUInt64).toInt64)), (.long (((jA - (jB <<< ((8 : Int32) &&& 0x3f).toInt64)) + jB) &&& (65535 : Int64)))]))
  refine own_back ?_ (fun t k => X0.ldc2Long hx hown (mvT hZ (hw _ (List.mem_of_getElem? (i := 14) rfl))) (g := (mkF m 21 #[.val (.long jA), .second, .val (.long jB), .second, .val (.long ((jA - (jB <<< ((8 : Int32) &&& 0x3f).toInt64)) + jB)), .second] [(.long ((((jA - (jB <<< ((8 : Int32) &&& 0x3f).toInt64)) + jB).toUInt64 >>> ((16 : Int32) &&& 0x3f).toInt64.toUInt64).toInt64)), (.long (((jA - (jB <<< ((8 : Int32) &&& 0x3f).toInt64)) + jB) &&& (65535 : Int64)))])) rfl (hb hby d3_21) _ k)
  show own_Go p e below PO (s₁.setTop (mkF m 24 #[.val (.long jA), .second, .val (.long jB), .second, .val (.long ((jA - (jB <<< ((8 : Int32) &&& 0x3f).toInt64)) + jB)), .second] [(.long (65535 : Int64)), (.long ((((jA - (jB <<< ((8 : Int32) &&& 0x3f).toInt64)) + jB).toUInt64 >>> ((16 : Int32) &&& 0x3f).toInt64.toUInt64).toInt64)), (.long (((jA - (jB <<< ((8 : Int32) &&& 0x3f).toInt64)) + jB) &&& (65535 : Int64)))]))
  refine own_back ?_ (fun t k => XS.land X0.here hx rfl (hb hby d3_24) rfl k)
  show own_Go p e below PO (s₁.setTop (mkF m 25 #[.val (.long jA), .second, .val (.long jB), .second, .val (.long ((jA - (jB <<< ((8 : Int32) &&& 0x3f).toInt64)) + jB)), .second] [(.long (((((jA - (jB <<< ((8 : Int32) &&& 0x3f).toInt64)) + jB).toUInt64 >>> ((16 : Int32) &&& 0x3f).toInt64.toUInt64).toInt64) &&& (65535 : Int64))), (.long (((jA - (jB <<< ((8 : Int32) &&& 0x3f).toInt64)) + jB) &&& (65535 : Int64)))]))
  refine own_back ?_ (fun t k => XS.ladd X0.here hx rfl (hb hby d3_25) rfl k)
  show own_Go p e below PO (s₁.setTop (mkF m 26 #[.val (.long jA), .second, .val (.long jB), .second, .val (.long ((jA - (jB <<< ((8 : Int32) &&& 0x3f).toInt64)) + jB)), .second] [(.long ((((jA - (jB <<< ((8 : Int32) &&& 0x3f).toInt64)) + jB) &&& (65535 : Int64)) + (((((jA - (jB <<< ((8 : Int32) &&& 0x3f).toInt64)) + jB).toUInt64 >>> ((16 : Int32) &&& 0x3f).toInt64.toUInt64).toInt64) &&& (65535 : Int64))))]))
  refine own_back ?_ (fun t k => XS.lload X0.here hx rfl (hb hby d3_26) rfl k)
  show own_Go p e below PO (s₁.setTop (mkF m 28 #[.val (.long jA), .second, .val (.long jB), .second, .val (.long ((jA - (jB <<< ((8 : Int32) &&& 0x3f).toInt64)) + jB)), .second] [(.long ((jA - (jB <<< ((8 : Int32) &&& 0x3f).toInt64)) + jB)), (.long ((((jA - (jB <<< ((8 : Int32) &&& 0x3f).toInt64)) + jB) &&& (65535 : Int64)) + (((((jA - (jB <<< ((8 : Int32) &&& 0x3f).toInt64)) + jB).toUInt64 >>> ((16 : Int32) &&& 0x3f).toInt64.toUInt64).toInt64) &&& (65535 : Int64))))]))
  refine own_back ?_ (fun t k => XS.bipush X0.here hx rfl (hb hby d3_28) k)
  show own_Go p e below PO (s₁.setTop (mkF m 30 #[.val (.long jA), .second, .val (.long jB), .second, .val (.long ((jA - (jB <<< ((8 : Int32) &&& 0x3f).toInt64)) + jB)), .second] [(.int (32 : Int32)), (.long ((jA - (jB <<< ((8 : Int32) &&& 0x3f).toInt64)) + jB)), (.long ((((jA - (jB <<< ((8 : Int32) &&& 0x3f).toInt64)) + jB) &&& (65535 : Int64)) + (((((jA - (jB <<< ((8 : Int32) &&& 0x3f).toInt64)) + jB).toUInt64 >>> ((16 : Int32) &&& 0x3f).toInt64.toUInt64).toInt64) &&& (65535 : Int64))))]))
  refine own_back ?_ (fun t k => XS.lushr X0.here hx rfl (hb hby d3_30) rfl k)
  show own_Go p e below PO (s₁.setTop (mkF m 31 #[.val (.long jA), .second, .val (.long jB), .second, .val (.long ((jA - (jB <<< ((8 : Int32) &&& 0x3f).toInt64)) + jB)), .second] [(.long ((((jA - (jB <<< ((8 : Int32) &&& 0x3f).toInt64)) + jB).toUInt64 >>> ((32 : Int32) &&& 0x3f).toInt64.toUInt64).toInt64)), (.long ((((jA - (jB <<< ((8 : Int32) &&& 0x3f).toInt64)) + jB) &&& (65535 : Int64)) + (((((jA - (jB <<< ((8 : Int32) &&& 0x3f).toInt64)) + jB).toUInt64 >>> ((16 : Int32) &&& 0x3f).toInt64.toUInt64).toInt64) &&& (65535 : Int64))))]))
  refine own_back ?_ (fun t k => X0.ldc2Long hx hown (mvT hZ (hw _ (List.mem_of_getElem? (i := 14) rfl))) (g := (mkF m 31 #[.val (.long jA), .second, .val (.long jB), .second, .val (.long ((jA - (jB <<< ((8 : Int32) &&& 0x3f).toInt64)) + jB)), .second] [(.long ((((jA - (jB <<< ((8 : Int32) &&& 0x3f).toInt64)) + jB).toUInt64 >>> ((32 : Int32) &&& 0x3f).toInt64.toUInt64).toInt64)), (.long ((((jA - (jB <<< ((8 : Int32) &&& 0x3f).toInt64)) + jB) &&& (65535 : Int64)) + (((((jA - (jB <<< ((8 : Int32) &&& 0x3f).toInt64)) + jB).toUInt64 >>> ((16 : Int32) &&& 0x3f).toInt64.toUInt64).toInt64) &&& (65535 : Int64))))])) rfl (hb hby d3_31) _ k)
  show own_Go p e below PO (s₁.setTop (mkF m 34 #[.val (.long jA), .second, .val (.long jB), .second, .val (.long ((jA - (jB <<< ((8 : Int32) &&& 0x3f).toInt64)) + jB)), .second] [(.long (65535 : Int64)), (.long ((((jA - (jB <<< ((8 : Int32) &&& 0x3f).toInt64)) + jB).toUInt64 >>> ((32 : Int32) &&& 0x3f).toInt64.toUInt64).toInt64)), (.long ((((jA - (jB <<< ((8 : Int32) &&& 0x3f).toInt64)) + jB) &&& (65535 : Int64)) + (((((jA - (jB <<< ((8 : Int32) &&& 0x3f).toInt64)) + jB).toUInt64 >>> ((16 : Int32) &&& 0x3f).toInt64.toUInt64).toInt64) &&& (65535 : Int64))))]))
  refine own_back ?_ (fun t k => XS.land X0.here hx rfl (hb hby d3_34) rfl k)
  show own_Go p e below PO (s₁.setTop (mkF m 35 #[.val (.long jA), .second, .val (.long jB), .second, .val (.long ((jA - (jB <<< ((8 : Int32) &&& 0x3f).toInt64)) + jB)), .second] [(.long (((((jA - (jB <<< ((8 : Int32) &&& 0x3f).toInt64)) + jB).toUInt64 >>> ((32 : Int32) &&& 0x3f).toInt64.toUInt64).toInt64) &&& (65535 : Int64))), (.long ((((jA - (jB <<< ((8 : Int32) &&& 0x3f).toInt64)) + jB) &&& (65535 : Int64)) + (((((jA - (jB <<< ((8 : Int32) &&& 0x3f).toInt64)) + jB).toUInt64 >>> ((16 : Int32) &&& 0x3f).toInt64.toUInt64).toInt64) &&& (65535 : Int64))))]))
  refine own_back ?_ (fun t k => XS.ladd X0.here hx rfl (hb hby d3_35) rfl k)
  show own_Go p e below PO (s₁.setTop (mkF m 36 #[.val (.long jA), .second, .val (.long jB), .second, .val (.long ((jA - (jB <<< ((8 : Int32) &&& 0x3f).toInt64)) + jB)), .second] [(.long (((((jA - (jB <<< ((8 : Int32) &&& 0x3f).toInt64)) + jB) &&& (65535 : Int64)) + (((((jA - (jB <<< ((8 : Int32) &&& 0x3f).toInt64)) + jB).toUInt64 >>> ((16 : Int32) &&& 0x3f).toInt64.toUInt64).toInt64) &&& (65535 : Int64))) + (((((jA - (jB <<< ((8 : Int32) &&& 0x3f).toInt64)) + jB).toUInt64 >>> ((32 : Int32) &&& 0x3f).toInt64.toUInt64).toInt64) &&& (65535 : Int64))))]))
  refine own_back ?_ (fun t k => XS.lload X0.here hx rfl (hb hby d3_36) rfl k)
  show own_Go p e below PO (s₁.setTop (mkF m 38 #[.val (.long jA), .second, .val (.long jB), .second, .val (.long ((jA - (jB <<< ((8 : Int32) &&& 0x3f).toInt64)) + jB)), .second] [(.long ((jA - (jB <<< ((8 : Int32) &&& 0x3f).toInt64)) + jB)), (.long (((((jA - (jB <<< ((8 : Int32) &&& 0x3f).toInt64)) + jB) &&& (65535 : Int64)) + (((((jA - (jB <<< ((8 : Int32) &&& 0x3f).toInt64)) + jB).toUInt64 >>> ((16 : Int32) &&& 0x3f).toInt64.toUInt64).toInt64) &&& (65535 : Int64))) + (((((jA - (jB <<< ((8 : Int32) &&& 0x3f).toInt64)) + jB).toUInt64 >>> ((32 : Int32) &&& 0x3f).toInt64.toUInt64).toInt64) &&& (65535 : Int64))))]))
  refine own_back ?_ (fun t k => XS.bipush X0.here hx rfl (hb hby d3_38) k)
  show own_Go p e below PO (s₁.setTop (mkF m 40 #[.val (.long jA), .second, .val (.long jB), .second, .val (.long ((jA - (jB <<< ((8 : Int32) &&& 0x3f).toInt64)) + jB)), .second] [(.int (48 : Int32)), (.long ((jA - (jB <<< ((8 : Int32) &&& 0x3f).toInt64)) + jB)), (.long (((((jA - (jB <<< ((8 : Int32) &&& 0x3f).toInt64)) + jB) &&& (65535 : Int64)) + (((((jA - (jB <<< ((8 : Int32) &&& 0x3f).toInt64)) + jB).toUInt64 >>> ((16 : Int32) &&& 0x3f).toInt64.toUInt64).toInt64) &&& (65535 : Int64))) + (((((jA - (jB <<< ((8 : Int32) &&& 0x3f).toInt64)) + jB).toUInt64 >>> ((32 : Int32) &&& 0x3f).toInt64.toUInt64).toInt64) &&& (65535 : Int64))))]))
  refine own_back ?_ (fun t k => XS.lushr X0.here hx rfl (hb hby d3_40) rfl k)
  show own_Go p e below PO (s₁.setTop (mkF m 41 #[.val (.long jA), .second, .val (.long jB), .second, .val (.long ((jA - (jB <<< ((8 : Int32) &&& 0x3f).toInt64)) + jB)), .second] [(.long ((((jA - (jB <<< ((8 : Int32) &&& 0x3f).toInt64)) + jB).toUInt64 >>> ((48 : Int32) &&& 0x3f).toInt64.toUInt64).toInt64)), (.long (((((jA - (jB <<< ((8 : Int32) &&& 0x3f).toInt64)) + jB) &&& (65535 : Int64)) + (((((jA - (jB <<< ((8 : Int32) &&& 0x3f).toInt64)) + jB).toUInt64 >>> ((16 : Int32) &&& 0x3f).toInt64.toUInt64).toInt64) &&& (65535 : Int64))) + (((((jA - (jB <<< ((8 : Int32) &&& 0x3f).toInt64)) + jB).toUInt64 >>> ((32 : Int32) &&& 0x3f).toInt64.toUInt64).toInt64) &&& (65535 : Int64))))]))
  refine own_back ?_ (fun t k => XS.ladd X0.here hx rfl (hb hby d3_41) rfl k)
  show own_Go p e below PO (s₁.setTop (mkF m 42 #[.val (.long jA), .second, .val (.long jB), .second, .val (.long ((jA - (jB <<< ((8 : Int32) &&& 0x3f).toInt64)) + jB)), .second] [(.long ((((((jA - (jB <<< ((8 : Int32) &&& 0x3f).toInt64)) + jB) &&& (65535 : Int64)) + (((((jA - (jB <<< ((8 : Int32) &&& 0x3f).toInt64)) + jB).toUInt64 >>> ((16 : Int32) &&& 0x3f).toInt64.toUInt64).toInt64) &&& (65535 : Int64))) + (((((jA - (jB <<< ((8 : Int32) &&& 0x3f).toInt64)) + jB).toUInt64 >>> ((32 : Int32) &&& 0x3f).toInt64.toUInt64).toInt64) &&& (65535 : Int64))) + ((((jA - (jB <<< ((8 : Int32) &&& 0x3f).toInt64)) + jB).toUInt64 >>> ((48 : Int32) &&& 0x3f).toInt64.toUInt64).toInt64)))]))
  refine own_back ?_ (fun t k => XS.l2i X0.here hx rfl (hb hby d3_42) rfl k)
  show own_Go p e below PO (s₁.setTop (mkF m 43 #[.val (.long jA), .second, .val (.long jB), .second, .val (.long ((jA - (jB <<< ((8 : Int32) &&& 0x3f).toInt64)) + jB)), .second] [(.int (((((((jA - (jB <<< ((8 : Int32) &&& 0x3f).toInt64)) + jB) &&& (65535 : Int64)) + (((((jA - (jB <<< ((8 : Int32) &&& 0x3f).toInt64)) + jB).toUInt64 >>> ((16 : Int32) &&& 0x3f).toInt64.toUInt64).toInt64) &&& (65535 : Int64))) + (((((jA - (jB <<< ((8 : Int32) &&& 0x3f).toInt64)) + jB).toUInt64 >>> ((32 : Int32) &&& 0x3f).toInt64.toUInt64).toInt64) &&& (65535 : Int64))) + ((((jA - (jB <<< ((8 : Int32) &&& 0x3f).toInt64)) + jB).toUInt64 >>> ((48 : Int32) &&& 0x3f).toInt64.toUInt64).toInt64)).toInt32))]))
  refine own_retI X0 hx (rest := []) Bd.returns (hb hby d3_43) e0 (Bd.notSynchronized) ?_ (by decide) (by decide)
  exact ⟨rfl, N0, rfl⟩
theorem pd_0 : parseMethodDescriptor "(J)J" = some ⟨[.long], some .long⟩ := by decide +kernel
theorem pd_1 : parseMethodDescriptor "(J)I" = some ⟨[.long], some .int⟩ := by decide +kernel
theorem pd_2 : parseMethodDescriptor "(JJ)I" = some ⟨[.long, .long], some .int⟩ := by decide +kernel
theorem ef_rm0 (m : MethodId) (x0 : Int64) (x1 : Int64) (x2 : Int32) (x3 : Int32) : entryFrame m #[(.long x0), (.long x1), (.int x2), (.int x3)] maxLocals = mkF m 0 #[.val (.long x0), .second, .val (.long x1), .second, .val (.int x2), .val (.int x3), .unset, .unset, .unset, .unset, .unset, .unset, .unset] [] := by first | (simp [entryFrame, mkF, argsToLocals, Value.category, maxLocals]; done) | rfl
def Q_rm0 (n0 : Nat) (v : Option Value) (h : Heap) (L : List Loc) : Prop := v = some (.int 1) ∧ Fr n0 L
set_option maxRecDepth 65536 in
set_option maxHeartbeats 40000000 in
theorem rm0 (l : Launch) (Z : State) (a0 : Array Value) (hw : ∀ d ∈ tables_1, d.before a0 Z = true) (ws : List Jvm.Cond) (pA : Int64) (pB : Int64) (pC : Int32) (pD : Int32)  (h0 : Heap) (n0 : Nat) (Z0 : n0 ≤ h0.size)  :
    MetFree l x (head1 (Jvm.Cond.code x code maxLocals ret :: ws) room_1) (fun a U => a = #[(.long pA), (.long pB), (.int pC), (.int pD)] ∧ Z.Warmed39 U.vm ∧ U.heap = h0) (fun _ _ _ _ _ => True) (fun _ U o U' => ∃ v L, o = .returned v ∧ Q_rm0 n0 v U'.heap L ∧ FrameEnd U o U' L room_1.cells room_1.slots) := by
  refine MetFree.of_bodySF (plainFor_of_name pn_0) hisR ?_
  intro p e s m args below meth c s₁ Bd hml0 hP hK
  obtain ⟨rfl, hZ, hh⟩ := hP
  have hx := Bd.exec
  have hby := Bd.bytes
  have hml : c.maxLocals = 13 := hml0
  have hown : s.vm.findClass "com/example/fillwire/fillwire/wire/WordsByteSumPinLaw" = some m.cls := findClass_of_methodNamed Bd.named
  have hnm := (name_of_methodNamed Bd.named Bd.method).1
  have X0 : Stand p l e room_1 s m #[(.long pA), (.long pB), (.int pC), (.int pD)] below meth c s₁ [] 0 0 := Stand.of_body Bd
  have e0 : s₁.heap = h0 := by rw [← hh, Bd.state]; rfl
  have N0 := Fr.nil n0
  let PO : Outcome → State → Prop := own_PO s (Q_rm0 n0) 0 0
  show own_Go p e below PO (s₁.setTop (entryFrame m #[(.long pA), (.long pB), (.int pC), (.int pD)] maxLocals))
  rw [ef_rm0]
  show own_Go p e below PO (s₁.setTop (mkF m 0 #[.val (.long pA), .second, .val (.long pB), .second, .val (.int pC), .val (.int pD), .unset, .unset, .unset, .unset, .unset, .unset, .unset] []))
  refine own_back ?_ (fun t k => XS.iload X0.here hx rfl (hb hby at_0) rfl k)
  show own_Go p e below PO (s₁.setTop (mkF m 2 #[.val (.long pA), .second, .val (.long pB), .second, .val (.int pC), .val (.int pD), .unset, .unset, .unset, .unset, .unset, .unset, .unset] [(.int pC)]))
  refine own_back ?_ (fun t k => X0.ldcInt hx hown (mvT hZ (hw _ (List.mem_of_getElem? (i := 0) rfl))) (g := (mkF m 2 #[.val (.long pA), .second, .val (.long pB), .second, .val (.int pC), .val (.int pD), .unset, .unset, .unset, .unset, .unset, .unset, .unset] [(.int pC)])) rfl (hb hby at_2) _ k)
  show own_Go p e below PO (s₁.setTop (mkF m 4 #[.val (.long pA), .second, .val (.long pB), .second, .val (.int pC), .val (.int pD), .unset, .unset, .unset, .unset, .unset, .unset, .unset] [(.int (2147483647 : Int32)), (.int pC)]))
  refine own_back ?_ (fun t k => XS.iand X0.here hx rfl (hb hby at_4) rfl k)
  show own_Go p e below PO (s₁.setTop (mkF m 5 #[.val (.long pA), .second, .val (.long pB), .second, .val (.int pC), .val (.int pD), .unset, .unset, .unset, .unset, .unset, .unset, .unset] [(.int (pC &&& (2147483647 : Int32)))]))
  refine own_back ?_ (fun t k => XS.sipush X0.here hx rfl (hb hby at_5) k)
  show own_Go p e below PO (s₁.setTop (mkF m 8 #[.val (.long pA), .second, .val (.long pB), .second, .val (.int pC), .val (.int pD), .unset, .unset, .unset, .unset, .unset, .unset, .unset] [(.int (129 : Int32)), (.int (pC &&& (2147483647 : Int32)))]))
  refine own_back ?_ (fun t k => iremM X0 hx rfl (hb hby at_8) rfl (by decide) k)
  show own_Go p e below PO (s₁.setTop (mkF m 9 #[.val (.long pA), .second, .val (.long pB), .second, .val (.int pC), .val (.int pD), .unset, .unset, .unset, .unset, .unset, .unset, .unset] [(.int ((pC &&& (2147483647 : Int32)) % (129 : Int32)))]))
  refine own_back ?_ (fun t k => XS.istore X0.here hx rfl (hb hby at_9) rfl (l' := #[.val (.long pA), .second, .val (.long pB), .second, .val (.int pC), .val (.int pD), .val (.int ((pC &&& (2147483647 : Int32)) % (129 : Int32))), .unset, .unset, .unset, .unset, .unset, .unset]) rfl k)
  show own_Go p e below PO (s₁.setTop (mkF m 11 #[.val (.long pA), .second, .val (.long pB), .second, .val (.int pC), .val (.int pD), .val (.int ((pC &&& (2147483647 : Int32)) % (129 : Int32))), .unset, .unset, .unset, .unset, .unset, .unset] []))
  refine own_gen (A := Int32) ((pC &&& (2147483647 : Int32)) % (129 : Int32)) (fun v6_1 => own_Go p e below PO (s₁.setTop (mkF m 11 #[.val (.long pA), .second, .val (.long pB), .second, .val (.int pC), .val (.int pD), .val (.int v6_1), .unset, .unset, .unset, .unset, .unset, .unset] []))) ?_
  intro v6_1 h_v6_1
  show own_Go p e below PO (s₁.setTop (mkF m 11 #[.val (.long pA), .second, .val (.long pB), .second, .val (.int pC), .val (.int pD), .val (.int v6_1), .unset, .unset, .unset, .unset, .unset, .unset] []))
  refine own_back ?_ (fun t k => XS.iload X0.here hx rfl (hb hby at_11) rfl k)
  show own_Go p e below PO (s₁.setTop (mkF m 13 #[.val (.long pA), .second, .val (.long pB), .second, .val (.int pC), .val (.int pD), .val (.int v6_1), .unset, .unset, .unset, .unset, .unset, .unset] [(.int pD)]))
  refine own_back ?_ (fun t k => X0.ldcInt hx hown (mvT hZ (hw _ (List.mem_of_getElem? (i := 0) rfl))) (g := (mkF m 13 #[.val (.long pA), .second, .val (.long pB), .second, .val (.int pC), .val (.int pD), .val (.int v6_1), .unset, .unset, .unset, .unset, .unset, .unset] [(.int pD)])) rfl (hb hby at_13) _ k)
  show own_Go p e below PO (s₁.setTop (mkF m 15 #[.val (.long pA), .second, .val (.long pB), .second, .val (.int pC), .val (.int pD), .val (.int v6_1), .unset, .unset, .unset, .unset, .unset, .unset] [(.int (2147483647 : Int32)), (.int pD)]))
  refine own_back ?_ (fun t k => XS.iand X0.here hx rfl (hb hby at_15) rfl k)
  show own_Go p e below PO (s₁.setTop (mkF m 16 #[.val (.long pA), .second, .val (.long pB), .second, .val (.int pC), .val (.int pD), .val (.int v6_1), .unset, .unset, .unset, .unset, .unset, .unset] [(.int (pD &&& (2147483647 : Int32)))]))
  refine own_back ?_ (fun t k => XS.sipush X0.here hx rfl (hb hby at_16) k)
  show own_Go p e below PO (s₁.setTop (mkF m 19 #[.val (.long pA), .second, .val (.long pB), .second, .val (.int pC), .val (.int pD), .val (.int v6_1), .unset, .unset, .unset, .unset, .unset, .unset] [(.int (129 : Int32)), (.int (pD &&& (2147483647 : Int32)))]))
  refine own_back ?_ (fun t k => XS.iload X0.here hx rfl (hb hby at_19) rfl k)
  show own_Go p e below PO (s₁.setTop (mkF m 21 #[.val (.long pA), .second, .val (.long pB), .second, .val (.int pC), .val (.int pD), .val (.int v6_1), .unset, .unset, .unset, .unset, .unset, .unset] [(.int v6_1), (.int (129 : Int32)), (.int (pD &&& (2147483647 : Int32)))]))
  refine own_back ?_ (fun t k => XS.isub X0.here hx rfl (hb hby at_21) rfl k)
  show own_Go p e below PO (s₁.setTop (mkF m 22 #[.val (.long pA), .second, .val (.long pB), .second, .val (.int pC), .val (.int pD), .val (.int v6_1), .unset, .unset, .unset, .unset, .unset, .unset] [(.int ((129 : Int32) - v6_1)), (.int (pD &&& (2147483647 : Int32)))]))
  refine own_back ?_ (fun t k => iremM X0 hx rfl (hb hby at_22) rfl (own_nz h_v6_1) k)
  show own_Go p e below PO (s₁.setTop (mkF m 23 #[.val (.long pA), .second, .val (.long pB), .second, .val (.int pC), .val (.int pD), .val (.int v6_1), .unset, .unset, .unset, .unset, .unset, .unset] [(.int ((pD &&& (2147483647 : Int32)) % ((129 : Int32) - v6_1)))]))
  refine own_back ?_ (fun t k => XS.istore X0.here hx rfl (hb hby at_23) rfl (l' := #[.val (.long pA), .second, .val (.long pB), .second, .val (.int pC), .val (.int pD), .val (.int v6_1), .val (.int ((pD &&& (2147483647 : Int32)) % ((129 : Int32) - v6_1))), .unset, .unset, .unset, .unset, .unset]) rfl k)
  show own_Go p e below PO (s₁.setTop (mkF m 25 #[.val (.long pA), .second, .val (.long pB), .second, .val (.int pC), .val (.int pD), .val (.int v6_1), .val (.int ((pD &&& (2147483647 : Int32)) % ((129 : Int32) - v6_1))), .unset, .unset, .unset, .unset, .unset] []))
  refine own_gen (A := Int32) ((pD &&& (2147483647 : Int32)) % ((129 : Int32) - v6_1)) (fun v7_2 => own_Go p e below PO (s₁.setTop (mkF m 25 #[.val (.long pA), .second, .val (.long pB), .second, .val (.int pC), .val (.int pD), .val (.int v6_1), .val (.int v7_2), .unset, .unset, .unset, .unset, .unset] []))) ?_
  intro v7_2 h_v7_2
  show own_Go p e below PO (s₁.setTop (mkF m 25 #[.val (.long pA), .second, .val (.long pB), .second, .val (.int pC), .val (.int pD), .val (.int v6_1), .val (.int v7_2), .unset, .unset, .unset, .unset, .unset] []))
  refine own_back ?_ (fun t k => XS.lloadN X0.here hx rfl (hb hby at_25) rfl k)
  show own_Go p e below PO (s₁.setTop (mkF m 26 #[.val (.long pA), .second, .val (.long pB), .second, .val (.int pC), .val (.int pD), .val (.int v6_1), .val (.int v7_2), .unset, .unset, .unset, .unset, .unset] [(.long pA)]))
  refine own_back ?_ (fun t k => XS.iload X0.here hx rfl (hb hby at_26) rfl k)
  show own_Go p e below PO (s₁.setTop (mkF m 28 #[.val (.long pA), .second, .val (.long pB), .second, .val (.int pC), .val (.int pD), .val (.int v6_1), .val (.int v7_2), .unset, .unset, .unset, .unset, .unset] [(.int v6_1), (.long pA)]))
  refine own_back ?_ (fun t k => XS.i2l X0.here hx rfl (hb hby at_28) rfl k)
  show own_Go p e below PO (s₁.setTop (mkF m 29 #[.val (.long pA), .second, .val (.long pB), .second, .val (.int pC), .val (.int pD), .val (.int v6_1), .val (.int v7_2), .unset, .unset, .unset, .unset, .unset] [(.long (v6_1.toInt64)), (.long pA)]))
  refine own_back ?_ (fun t k => XS.lmul X0.here hx rfl (hb hby at_29) rfl k)
  show own_Go p e below PO (s₁.setTop (mkF m 30 #[.val (.long pA), .second, .val (.long pB), .second, .val (.int pC), .val (.int pD), .val (.int v6_1), .val (.int v7_2), .unset, .unset, .unset, .unset, .unset] [(.long (pA * (v6_1.toInt64)))]))
  refine own_back ?_ (fun t k => XS.lloadN X0.here hx rfl (hb hby at_30) rfl k)
  show own_Go p e below PO (s₁.setTop (mkF m 31 #[.val (.long pA), .second, .val (.long pB), .second, .val (.int pC), .val (.int pD), .val (.int v6_1), .val (.int v7_2), .unset, .unset, .unset, .unset, .unset] [(.long pB), (.long (pA * (v6_1.toInt64)))]))
  refine own_back ?_ (fun t k => XS.iload X0.here hx rfl (hb hby at_31) rfl k)
  show own_Go p e below PO (s₁.setTop (mkF m 33 #[.val (.long pA), .second, .val (.long pB), .second, .val (.int pC), .val (.int pD), .val (.int v6_1), .val (.int v7_2), .unset, .unset, .unset, .unset, .unset] [(.int v7_2), (.long pB), (.long (pA * (v6_1.toInt64)))]))
  refine own_back ?_ (fun t k => XS.i2l X0.here hx rfl (hb hby at_33) rfl k)
  show own_Go p e below PO (s₁.setTop (mkF m 34 #[.val (.long pA), .second, .val (.long pB), .second, .val (.int pC), .val (.int pD), .val (.int v6_1), .val (.int v7_2), .unset, .unset, .unset, .unset, .unset] [(.long (v7_2.toInt64)), (.long pB), (.long (pA * (v6_1.toInt64)))]))
  refine own_back ?_ (fun t k => XS.lmul X0.here hx rfl (hb hby at_34) rfl k)
  show own_Go p e below PO (s₁.setTop (mkF m 35 #[.val (.long pA), .second, .val (.long pB), .second, .val (.int pC), .val (.int pD), .val (.int v6_1), .val (.int v7_2), .unset, .unset, .unset, .unset, .unset] [(.long (pB * (v7_2.toInt64))), (.long (pA * (v6_1.toInt64)))]))
  refine own_back ?_ (fun t k => XS.ladd X0.here hx rfl (hb hby at_35) rfl k)
  show own_Go p e below PO (s₁.setTop (mkF m 36 #[.val (.long pA), .second, .val (.long pB), .second, .val (.int pC), .val (.int pD), .val (.int v6_1), .val (.int v7_2), .unset, .unset, .unset, .unset, .unset] [(.long ((pA * (v6_1.toInt64)) + (pB * (v7_2.toInt64))))]))
  refine own_back ?_ (fun t k => XS.lstore X0.here hx rfl (hb hby at_36) rfl (l' := #[.val (.long pA), .second, .val (.long pB), .second, .val (.int pC), .val (.int pD), .val (.int v6_1), .val (.int v7_2), .val (.long ((pA * (v6_1.toInt64)) + (pB * (v7_2.toInt64)))), .second, .unset, .unset, .unset]) rfl k)
  show own_Go p e below PO (s₁.setTop (mkF m 38 #[.val (.long pA), .second, .val (.long pB), .second, .val (.int pC), .val (.int pD), .val (.int v6_1), .val (.int v7_2), .val (.long ((pA * (v6_1.toInt64)) + (pB * (v7_2.toInt64)))), .second, .unset, .unset, .unset] []))
  refine own_gen (A := Int64) ((pA * (v6_1.toInt64)) + (pB * (v7_2.toInt64))) (fun v8_3 => own_Go p e below PO (s₁.setTop (mkF m 38 #[.val (.long pA), .second, .val (.long pB), .second, .val (.int pC), .val (.int pD), .val (.int v6_1), .val (.int v7_2), .val (.long v8_3), .second, .unset, .unset, .unset] []))) ?_
  intro v8_3 h_v8_3
  show own_Go p e below PO (s₁.setTop (mkF m 38 #[.val (.long pA), .second, .val (.long pB), .second, .val (.int pC), .val (.int pD), .val (.int v6_1), .val (.int v7_2), .val (.long v8_3), .second, .unset, .unset, .unset] []))
  refine own_back ?_ (fun t k => XS.lloadN X0.here hx rfl (hb hby at_38) rfl k)
  show own_Go p e below PO (s₁.setTop (mkF m 39 #[.val (.long pA), .second, .val (.long pB), .second, .val (.int pC), .val (.int pD), .val (.int v6_1), .val (.int v7_2), .val (.long v8_3), .second, .unset, .unset, .unset] [(.long pA)]))
  obtain ⟨_, _, ⟨T4, L4, k4, n4⟩, -, X4, ⟨Lc4, hQ4, l4, y4, z4⟩, st4⟩ := Jvm.LawKit.callS X0 hx (y := (⟨"com/example/fillwire/fillwire/wire/WordsByteSumPinLaw", "oddOf", "(J)J"⟩ : MethodName)) hown (mvT hZ (hw _ (List.mem_of_getElem? (i := 1) rfl))) (mvT hZ (hw _ (List.mem_of_getElem? (i := 2) rfl))) (mvT hZ (hw _ (List.mem_of_getElem? (i := 3) rfl))) (mvT hZ (hw _ (List.mem_of_getElem? (i := 4) rfl))) (by decide) (backOf (W := 0) (rm1 l Z a0 hw [] pA  h0 n0 Z0 ) hZ (hw _ (List.mem_of_getElem? (i := 4) rfl)) (hw _ (List.mem_of_getElem? (i := 3) rfl)) (by decide) (by decide)) (g := (mkF m 39 #[.val (.long pA), .second, .val (.long pB), .second, .val (.int pC), .val (.int pD), .val (.int v6_1), .val (.int v7_2), .val (.long v8_3), .second, .unset, .unset, .unset] [(.long pA)])) rfl (by rw [hml]; rfl) (argsL := [(.long pA)]) (rest := []) (lenOf pd_0 rfl) rfl (by show 2 * 0 + _ ≤ _; exact Nat.le_of_eq rfl) (hb hby at_39) (fun _ _ => ⟨rfl, e0, (by decide : 0 + 0 ≤ _), (by decide : 0 + 0 ≤ _)⟩)
  dsimp only [Pt.U, Pt.locs, Pt.cells, Pt.slots] at X4 l4 y4 z4 st4 hQ4
  subst l4 y4 z4
  obtain ⟨rfl, N4q, e4⟩ := hQ4
  have N4 := Fr.app N0 N4q
  refine own_back ?_ st4
  show own_Go p e below PO (T4.setTop (mkF m 42 #[.val (.long pA), .second, .val (.long pB), .second, .val (.int pC), .val (.int pD), .val (.int v6_1), .val (.int v7_2), .val (.long v8_3), .second, .unset, .unset, .unset] [(.long (own_odd pA))]))
  refine own_gen (A := Int64) (own_odd pA) (fun r39_5 => own_Go p e below PO (T4.setTop (mkF m 42 #[.val (.long pA), .second, .val (.long pB), .second, .val (.int pC), .val (.int pD), .val (.int v6_1), .val (.int v7_2), .val (.long v8_3), .second, .unset, .unset, .unset] [(.long r39_5)]))) ?_
  intro r39_5 h_r39_5
  show own_Go p e below PO (T4.setTop (mkF m 42 #[.val (.long pA), .second, .val (.long pB), .second, .val (.int pC), .val (.int pD), .val (.int v6_1), .val (.int v7_2), .val (.long v8_3), .second, .unset, .unset, .unset] [(.long r39_5)]))
  refine own_back ?_ (fun t k => XS.iload X4.here hx rfl (hb hby at_42) rfl k)
  show own_Go p e below PO (T4.setTop (mkF m 44 #[.val (.long pA), .second, .val (.long pB), .second, .val (.int pC), .val (.int pD), .val (.int v6_1), .val (.int v7_2), .val (.long v8_3), .second, .unset, .unset, .unset] [(.int v6_1), (.long r39_5)]))
  refine own_back ?_ (fun t k => XS.i2l X4.here hx rfl (hb hby at_44) rfl k)
  show own_Go p e below PO (T4.setTop (mkF m 45 #[.val (.long pA), .second, .val (.long pB), .second, .val (.int pC), .val (.int pD), .val (.int v6_1), .val (.int v7_2), .val (.long v8_3), .second, .unset, .unset, .unset] [(.long (v6_1.toInt64)), (.long r39_5)]))
  refine own_back ?_ (fun t k => XS.lmul X4.here hx rfl (hb hby at_45) rfl k)
  show own_Go p e below PO (T4.setTop (mkF m 46 #[.val (.long pA), .second, .val (.long pB), .second, .val (.int pC), .val (.int pD), .val (.int v6_1), .val (.int v7_2), .val (.long v8_3), .second, .unset, .unset, .unset] [(.long (r39_5 * (v6_1.toInt64)))]))
  refine own_back ?_ (fun t k => XS.lloadN X4.here hx rfl (hb hby at_46) rfl k)
  show own_Go p e below PO (T4.setTop (mkF m 47 #[.val (.long pA), .second, .val (.long pB), .second, .val (.int pC), .val (.int pD), .val (.int v6_1), .val (.int v7_2), .val (.long v8_3), .second, .unset, .unset, .unset] [(.long pB), (.long (r39_5 * (v6_1.toInt64)))]))
  obtain ⟨_, _, ⟨T6, L6, k6, n6⟩, -, X6, ⟨Lc6, hQ6, l6, y6, z6⟩, st6⟩ := Jvm.LawKit.callS X4 hx (y := (⟨"com/example/fillwire/fillwire/wire/WordsByteSumPinLaw", "oddOf", "(J)J"⟩ : MethodName)) hown (mvT hZ (hw _ (List.mem_of_getElem? (i := 1) rfl))) (mvT hZ (hw _ (List.mem_of_getElem? (i := 2) rfl))) (mvT hZ (hw _ (List.mem_of_getElem? (i := 3) rfl))) (mvT hZ (hw _ (List.mem_of_getElem? (i := 4) rfl))) (by decide) (backOf (W := 2) (rm1 l Z a0 hw [] pB  h0 n0 Z0 ) hZ (hw _ (List.mem_of_getElem? (i := 4) rfl)) (hw _ (List.mem_of_getElem? (i := 3) rfl)) (by decide) (by decide)) (g := (mkF m 47 #[.val (.long pA), .second, .val (.long pB), .second, .val (.int pC), .val (.int pD), .val (.int v6_1), .val (.int v7_2), .val (.long v8_3), .second, .unset, .unset, .unset] [(.long pB), (.long (r39_5 * (v6_1.toInt64)))])) rfl (by rw [hml]; rfl) (argsL := [(.long pB)]) (rest := [(.long (r39_5 * (v6_1.toInt64)))]) (lenOf pd_0 rfl) rfl (by show 2 * 0 + _ ≤ _; exact Nat.le_of_eq rfl) (hb hby at_47) (fun _ _ => ⟨rfl, e4, (by decide : 0 + 0 ≤ _), (by decide : 0 + 0 ≤ _)⟩)
  dsimp only [Pt.U, Pt.locs, Pt.cells, Pt.slots] at X6 l6 y6 z6 st6 hQ6
  subst l6 y6 z6
  obtain ⟨rfl, N6q, e6⟩ := hQ6
  have N6 := Fr.app N4 N6q
  refine own_back ?_ st6
  show own_Go p e below PO (T6.setTop (mkF m 50 #[.val (.long pA), .second, .val (.long pB), .second, .val (.int pC), .val (.int pD), .val (.int v6_1), .val (.int v7_2), .val (.long v8_3), .second, .unset, .unset, .unset] [(.long (own_odd pB)), (.long (r39_5 * (v6_1.toInt64)))]))
  refine own_gen (A := Int64) (own_odd pB) (fun r47_7 => own_Go p e below PO (T6.setTop (mkF m 50 #[.val (.long pA), .second, .val (.long pB), .second, .val (.int pC), .val (.int pD), .val (.int v6_1), .val (.int v7_2), .val (.long v8_3), .second, .unset, .unset, .unset] [(.long r47_7), (.long (r39_5 * (v6_1.toInt64)))]))) ?_
  intro r47_7 h_r47_7
  show own_Go p e below PO (T6.setTop (mkF m 50 #[.val (.long pA), .second, .val (.long pB), .second, .val (.int pC), .val (.int pD), .val (.int v6_1), .val (.int v7_2), .val (.long v8_3), .second, .unset, .unset, .unset] [(.long r47_7), (.long (r39_5 * (v6_1.toInt64)))]))
  refine own_back ?_ (fun t k => XS.iload X6.here hx rfl (hb hby at_50) rfl k)
  show own_Go p e below PO (T6.setTop (mkF m 52 #[.val (.long pA), .second, .val (.long pB), .second, .val (.int pC), .val (.int pD), .val (.int v6_1), .val (.int v7_2), .val (.long v8_3), .second, .unset, .unset, .unset] [(.int v7_2), (.long r47_7), (.long (r39_5 * (v6_1.toInt64)))]))
  refine own_back ?_ (fun t k => XS.i2l X6.here hx rfl (hb hby at_52) rfl k)
  show own_Go p e below PO (T6.setTop (mkF m 53 #[.val (.long pA), .second, .val (.long pB), .second, .val (.int pC), .val (.int pD), .val (.int v6_1), .val (.int v7_2), .val (.long v8_3), .second, .unset, .unset, .unset] [(.long (v7_2.toInt64)), (.long r47_7), (.long (r39_5 * (v6_1.toInt64)))]))
  refine own_back ?_ (fun t k => XS.lmul X6.here hx rfl (hb hby at_53) rfl k)
  show own_Go p e below PO (T6.setTop (mkF m 54 #[.val (.long pA), .second, .val (.long pB), .second, .val (.int pC), .val (.int pD), .val (.int v6_1), .val (.int v7_2), .val (.long v8_3), .second, .unset, .unset, .unset] [(.long (r47_7 * (v7_2.toInt64))), (.long (r39_5 * (v6_1.toInt64)))]))
  refine own_back ?_ (fun t k => XS.ladd X6.here hx rfl (hb hby at_54) rfl k)
  show own_Go p e below PO (T6.setTop (mkF m 55 #[.val (.long pA), .second, .val (.long pB), .second, .val (.int pC), .val (.int pD), .val (.int v6_1), .val (.int v7_2), .val (.long v8_3), .second, .unset, .unset, .unset] [(.long ((r39_5 * (v6_1.toInt64)) + (r47_7 * (v7_2.toInt64))))]))
  refine own_back ?_ (fun t k => XS.lstore X6.here hx rfl (hb hby at_55) rfl (l' := #[.val (.long pA), .second, .val (.long pB), .second, .val (.int pC), .val (.int pD), .val (.int v6_1), .val (.int v7_2), .val (.long v8_3), .second, .val (.long ((r39_5 * (v6_1.toInt64)) + (r47_7 * (v7_2.toInt64)))), .second, .unset]) rfl k)
  show own_Go p e below PO (T6.setTop (mkF m 57 #[.val (.long pA), .second, .val (.long pB), .second, .val (.int pC), .val (.int pD), .val (.int v6_1), .val (.int v7_2), .val (.long v8_3), .second, .val (.long ((r39_5 * (v6_1.toInt64)) + (r47_7 * (v7_2.toInt64)))), .second, .unset] []))
  refine own_gen (A := Int64) ((r39_5 * (v6_1.toInt64)) + (r47_7 * (v7_2.toInt64))) (fun v10_8 => own_Go p e below PO (T6.setTop (mkF m 57 #[.val (.long pA), .second, .val (.long pB), .second, .val (.int pC), .val (.int pD), .val (.int v6_1), .val (.int v7_2), .val (.long v8_3), .second, .val (.long v10_8), .second, .unset] []))) ?_
  intro v10_8 h_v10_8
  show own_Go p e below PO (T6.setTop (mkF m 57 #[.val (.long pA), .second, .val (.long pB), .second, .val (.int pC), .val (.int pD), .val (.int v6_1), .val (.int v7_2), .val (.long v8_3), .second, .val (.long v10_8), .second, .unset] []))
  refine own_back ?_ (fun t k => XS.iload X6.here hx rfl (hb hby at_57) rfl k)
  show own_Go p e below PO (T6.setTop (mkF m 59 #[.val (.long pA), .second, .val (.long pB), .second, .val (.int pC), .val (.int pD), .val (.int v6_1), .val (.int v7_2), .val (.long v8_3), .second, .val (.long v10_8), .second, .unset] [(.int v6_1)]))
  refine own_back ?_ (fun t k => XS.lloadN X6.here hx rfl (hb hby at_59) rfl k)
  show own_Go p e below PO (T6.setTop (mkF m 60 #[.val (.long pA), .second, .val (.long pB), .second, .val (.int pC), .val (.int pD), .val (.int v6_1), .val (.int v7_2), .val (.long v8_3), .second, .val (.long v10_8), .second, .unset] [(.long pA), (.int v6_1)]))
  obtain ⟨_, _, ⟨T9, L9, k9, n9⟩, -, X9, ⟨Lc9, hQ9, l9, y9, z9⟩, st9⟩ := Jvm.LawKit.callS X6 hx (y := (⟨"com/example/fillwire/fillwire/wire/WordsByteSumPinLaw", "bytesOf", "(J)I"⟩ : MethodName)) hown (mvT hZ (hw _ (List.mem_of_getElem? (i := 6) rfl))) (mvT hZ (hw _ (List.mem_of_getElem? (i := 7) rfl))) (mvT hZ (hw _ (List.mem_of_getElem? (i := 3) rfl))) (mvT hZ (hw _ (List.mem_of_getElem? (i := 8) rfl))) (by decide) (backOf (W := 1) (rm2 l Z a0 hw [] pA  h0 n0 Z0 ) hZ (hw _ (List.mem_of_getElem? (i := 8) rfl)) (hw _ (List.mem_of_getElem? (i := 3) rfl)) (by decide) (by decide)) (g := (mkF m 60 #[.val (.long pA), .second, .val (.long pB), .second, .val (.int pC), .val (.int pD), .val (.int v6_1), .val (.int v7_2), .val (.long v8_3), .second, .val (.long v10_8), .second, .unset] [(.long pA), (.int v6_1)])) rfl (by rw [hml]; rfl) (argsL := [(.long pA)]) (rest := [(.int v6_1)]) (lenOf pd_1 rfl) rfl (by show 2 * 0 + _ ≤ _; exact Nat.le_of_eq rfl) (hb hby at_60) (fun _ _ => ⟨rfl, e6, (by decide : 0 + 0 ≤ _), (by decide : 0 + 0 ≤ _)⟩)
  dsimp only [Pt.U, Pt.locs, Pt.cells, Pt.slots] at X9 l9 y9 z9 st9 hQ9
  subst l9 y9 z9
  obtain ⟨rfl, N9q, e9⟩ := hQ9
  have N9 := Fr.app N6 N9q
  refine own_back ?_ st9
  show own_Go p e below PO (T9.setTop (mkF m 63 #[.val (.long pA), .second, .val (.long pB), .second, .val (.int pC), .val (.int pD), .val (.int v6_1), .val (.int v7_2), .val (.long v8_3), .second, .val (.long v10_8), .second, .unset] [(.int (own_by pA)), (.int v6_1)]))
  refine own_gen (A := Int32) (own_by pA) (fun r60_10 => own_Go p e below PO (T9.setTop (mkF m 63 #[.val (.long pA), .second, .val (.long pB), .second, .val (.int pC), .val (.int pD), .val (.int v6_1), .val (.int v7_2), .val (.long v8_3), .second, .val (.long v10_8), .second, .unset] [(.int r60_10), (.int v6_1)]))) ?_
  intro r60_10 h_r60_10
  show own_Go p e below PO (T9.setTop (mkF m 63 #[.val (.long pA), .second, .val (.long pB), .second, .val (.int pC), .val (.int pD), .val (.int v6_1), .val (.int v7_2), .val (.long v8_3), .second, .val (.long v10_8), .second, .unset] [(.int r60_10), (.int v6_1)]))
  refine own_back ?_ (fun t k => XS.imul X9.here hx rfl (hb hby at_63) rfl k)
  show own_Go p e below PO (T9.setTop (mkF m 64 #[.val (.long pA), .second, .val (.long pB), .second, .val (.int pC), .val (.int pD), .val (.int v6_1), .val (.int v7_2), .val (.long v8_3), .second, .val (.long v10_8), .second, .unset] [(.int (v6_1 * r60_10))]))
  refine own_back ?_ (fun t k => XS.iload X9.here hx rfl (hb hby at_64) rfl k)
  show own_Go p e below PO (T9.setTop (mkF m 66 #[.val (.long pA), .second, .val (.long pB), .second, .val (.int pC), .val (.int pD), .val (.int v6_1), .val (.int v7_2), .val (.long v8_3), .second, .val (.long v10_8), .second, .unset] [(.int v7_2), (.int (v6_1 * r60_10))]))
  refine own_back ?_ (fun t k => XS.lloadN X9.here hx rfl (hb hby at_66) rfl k)
  show own_Go p e below PO (T9.setTop (mkF m 67 #[.val (.long pA), .second, .val (.long pB), .second, .val (.int pC), .val (.int pD), .val (.int v6_1), .val (.int v7_2), .val (.long v8_3), .second, .val (.long v10_8), .second, .unset] [(.long pB), (.int v7_2), (.int (v6_1 * r60_10))]))
  obtain ⟨_, _, ⟨T11, L11, k11, n11⟩, -, X11, ⟨Lc11, hQ11, l11, y11, z11⟩, st11⟩ := Jvm.LawKit.callS X9 hx (y := (⟨"com/example/fillwire/fillwire/wire/WordsByteSumPinLaw", "bytesOf", "(J)I"⟩ : MethodName)) hown (mvT hZ (hw _ (List.mem_of_getElem? (i := 6) rfl))) (mvT hZ (hw _ (List.mem_of_getElem? (i := 7) rfl))) (mvT hZ (hw _ (List.mem_of_getElem? (i := 3) rfl))) (mvT hZ (hw _ (List.mem_of_getElem? (i := 8) rfl))) (by decide) (backOf (W := 2) (rm2 l Z a0 hw [] pB  h0 n0 Z0 ) hZ (hw _ (List.mem_of_getElem? (i := 8) rfl)) (hw _ (List.mem_of_getElem? (i := 3) rfl)) (by decide) (by decide)) (g := (mkF m 67 #[.val (.long pA), .second, .val (.long pB), .second, .val (.int pC), .val (.int pD), .val (.int v6_1), .val (.int v7_2), .val (.long v8_3), .second, .val (.long v10_8), .second, .unset] [(.long pB), (.int v7_2), (.int (v6_1 * r60_10))])) rfl (by rw [hml]; rfl) (argsL := [(.long pB)]) (rest := [(.int v7_2), (.int (v6_1 * r60_10))]) (lenOf pd_1 rfl) rfl (by show 2 * 0 + _ ≤ _; exact Nat.le_of_eq rfl) (hb hby at_67) (fun _ _ => ⟨rfl, e9, (by decide : 0 + 0 ≤ _), (by decide : 0 + 0 ≤ _)⟩)
  dsimp only [Pt.U, Pt.locs, Pt.cells, Pt.slots] at X11 l11 y11 z11 st11 hQ11
  subst l11 y11 z11
  obtain ⟨rfl, N11q, e11⟩ := hQ11
  have N11 := Fr.app N9 N11q
  refine own_back ?_ st11
  show own_Go p e below PO (T11.setTop (mkF m 70 #[.val (.long pA), .second, .val (.long pB), .second, .val (.int pC), .val (.int pD), .val (.int v6_1), .val (.int v7_2), .val (.long v8_3), .second, .val (.long v10_8), .second, .unset] [(.int (own_by pB)), (.int v7_2), (.int (v6_1 * r60_10))]))
  refine own_gen (A := Int32) (own_by pB) (fun r67_12 => own_Go p e below PO (T11.setTop (mkF m 70 #[.val (.long pA), .second, .val (.long pB), .second, .val (.int pC), .val (.int pD), .val (.int v6_1), .val (.int v7_2), .val (.long v8_3), .second, .val (.long v10_8), .second, .unset] [(.int r67_12), (.int v7_2), (.int (v6_1 * r60_10))]))) ?_
  intro r67_12 h_r67_12
  show own_Go p e below PO (T11.setTop (mkF m 70 #[.val (.long pA), .second, .val (.long pB), .second, .val (.int pC), .val (.int pD), .val (.int v6_1), .val (.int v7_2), .val (.long v8_3), .second, .val (.long v10_8), .second, .unset] [(.int r67_12), (.int v7_2), (.int (v6_1 * r60_10))]))
  refine own_back ?_ (fun t k => XS.imul X11.here hx rfl (hb hby at_70) rfl k)
  show own_Go p e below PO (T11.setTop (mkF m 71 #[.val (.long pA), .second, .val (.long pB), .second, .val (.int pC), .val (.int pD), .val (.int v6_1), .val (.int v7_2), .val (.long v8_3), .second, .val (.long v10_8), .second, .unset] [(.int (v7_2 * r67_12)), (.int (v6_1 * r60_10))]))
  refine own_back ?_ (fun t k => XS.iadd X11.here hx rfl (hb hby at_71) rfl k)
  show own_Go p e below PO (T11.setTop (mkF m 72 #[.val (.long pA), .second, .val (.long pB), .second, .val (.int pC), .val (.int pD), .val (.int v6_1), .val (.int v7_2), .val (.long v8_3), .second, .val (.long v10_8), .second, .unset] [(.int ((v6_1 * r60_10) + (v7_2 * r67_12)))]))
  refine own_back ?_ (fun t k => XS.istore X11.here hx rfl (hb hby at_72) rfl (l' := #[.val (.long pA), .second, .val (.long pB), .second, .val (.int pC), .val (.int pD), .val (.int v6_1), .val (.int v7_2), .val (.long v8_3), .second, .val (.long v10_8), .second, .val (.int ((v6_1 * r60_10) + (v7_2 * r67_12)))]) rfl k)
  show own_Go p e below PO (T11.setTop (mkF m 74 #[.val (.long pA), .second, .val (.long pB), .second, .val (.int pC), .val (.int pD), .val (.int v6_1), .val (.int v7_2), .val (.long v8_3), .second, .val (.long v10_8), .second, .val (.int ((v6_1 * r60_10) + (v7_2 * r67_12)))] []))
  refine own_gen (A := Int32) ((v6_1 * r60_10) + (v7_2 * r67_12)) (fun v12_13 => own_Go p e below PO (T11.setTop (mkF m 74 #[.val (.long pA), .second, .val (.long pB), .second, .val (.int pC), .val (.int pD), .val (.int v6_1), .val (.int v7_2), .val (.long v8_3), .second, .val (.long v10_8), .second, .val (.int v12_13)] []))) ?_
  intro v12_13 h_v12_13
  show own_Go p e below PO (T11.setTop (mkF m 74 #[.val (.long pA), .second, .val (.long pB), .second, .val (.int pC), .val (.int pD), .val (.int v6_1), .val (.int v7_2), .val (.long v8_3), .second, .val (.long v10_8), .second, .val (.int v12_13)] []))
  refine own_back ?_ (fun t k => XS.lload X11.here hx rfl (hb hby at_74) rfl k)
  show own_Go p e below PO (T11.setTop (mkF m 76 #[.val (.long pA), .second, .val (.long pB), .second, .val (.int pC), .val (.int pD), .val (.int v6_1), .val (.int v7_2), .val (.long v8_3), .second, .val (.long v10_8), .second, .val (.int v12_13)] [(.long v8_3)]))
  refine own_back ?_ (fun t k => XS.lload X11.here hx rfl (hb hby at_76) rfl k)
  show own_Go p e below PO (T11.setTop (mkF m 78 #[.val (.long pA), .second, .val (.long pB), .second, .val (.int pC), .val (.int pD), .val (.int v6_1), .val (.int v7_2), .val (.long v8_3), .second, .val (.long v10_8), .second, .val (.int v12_13)] [(.long v10_8), (.long v8_3)]))
  obtain ⟨_, _, ⟨T14, L14, k14, n14⟩, -, X14, ⟨Lc14, hQ14, l14, y14, z14⟩, st14⟩ := Jvm.LawKit.callS X11 hx (y := (⟨"com/example/fillwire/fillwire/wire/Words", "byteSum", "(JJ)I"⟩ : MethodName)) hown (mvT hZ (hw _ (List.mem_of_getElem? (i := 10) rfl))) (mvT hZ (hw _ (List.mem_of_getElem? (i := 11) rfl))) (mvT hZ (hw _ (List.mem_of_getElem? (i := 12) rfl))) (mvT hZ (hw _ (List.mem_of_getElem? (i := 13) rfl))) (by decide) (backOf (W := 0) (rm3 l Z a0 hw [] v8_3 v10_8  h0 n0 Z0 ) hZ (hw _ (List.mem_of_getElem? (i := 13) rfl)) (hw _ (List.mem_of_getElem? (i := 12) rfl)) (by decide) (by decide)) (g := (mkF m 78 #[.val (.long pA), .second, .val (.long pB), .second, .val (.int pC), .val (.int pD), .val (.int v6_1), .val (.int v7_2), .val (.long v8_3), .second, .val (.long v10_8), .second, .val (.int v12_13)] [(.long v10_8), (.long v8_3)])) rfl (by rw [hml]; rfl) (argsL := [(.long v8_3), (.long v10_8)]) (rest := []) (lenOf pd_2 rfl) rfl (by show 2 * 0 + _ ≤ _; exact Nat.le_of_eq rfl) (hb hby at_78) (fun _ _ => ⟨rfl, e11, (by decide : 0 + 0 ≤ _), (by decide : 0 + 0 ≤ _)⟩)
  dsimp only [Pt.U, Pt.locs, Pt.cells, Pt.slots] at X14 l14 y14 z14 st14 hQ14
  subst l14 y14 z14
  obtain ⟨rfl, N14q, e14⟩ := hQ14
  have N14 := Fr.app N11 N14q
  refine own_back ?_ st14
  show own_Go p e below PO (T14.setTop (mkF m 81 #[.val (.long pA), .second, .val (.long pB), .second, .val (.int pC), .val (.int pD), .val (.int v6_1), .val (.int v7_2), .val (.long v8_3), .second, .val (.long v10_8), .second, .val (.int v12_13)] [(.int (own_bs v8_3 v10_8))]))
  refine own_gen (A := Int32) (own_bs v8_3 v10_8) (fun r78_15 => own_Go p e below PO (T14.setTop (mkF m 81 #[.val (.long pA), .second, .val (.long pB), .second, .val (.int pC), .val (.int pD), .val (.int v6_1), .val (.int v7_2), .val (.long v8_3), .second, .val (.long v10_8), .second, .val (.int v12_13)] [(.int r78_15)]))) ?_
  intro r78_15 h_r78_15
  show own_Go p e below PO (T14.setTop (mkF m 81 #[.val (.long pA), .second, .val (.long pB), .second, .val (.int pC), .val (.int pD), .val (.int v6_1), .val (.int v7_2), .val (.long v8_3), .second, .val (.long v10_8), .second, .val (.int v12_13)] [(.int r78_15)]))
  refine own_back ?_ (fun t k => XS.iload X14.here hx rfl (hb hby at_81) rfl k)
  show own_Go p e below PO (T14.setTop (mkF m 83 #[.val (.long pA), .second, .val (.long pB), .second, .val (.int pC), .val (.int pD), .val (.int v6_1), .val (.int v7_2), .val (.long v8_3), .second, .val (.long v10_8), .second, .val (.int v12_13)] [(.int v12_13), (.int r78_15)]))
  have hd83_16 : r78_15 = v12_13 := by rw [h_r78_15, h_v12_13, h_v8_3, h_v10_8, h_r39_5, h_r47_7, h_r60_10, h_r67_12]; exact own_main pA pB h_v6_1 h_v7_2
  refine own_back ?_ (fun t k => XS.icmpNo X14.here hx rfl (hb hby at_83) rfl (teq hd83_16).2 k)
  show own_Go p e below PO (T14.setTop (mkF m 86 #[.val (.long pA), .second, .val (.long pB), .second, .val (.int pC), .val (.int pD), .val (.int v6_1), .val (.int v7_2), .val (.long v8_3), .second, .val (.long v10_8), .second, .val (.int v12_13)] []))
  refine own_back ?_ (fun t k => XS.iconst X14.here hx rfl (hb hby at_86) k)
  show own_Go p e below PO (T14.setTop (mkF m 87 #[.val (.long pA), .second, .val (.long pB), .second, .val (.int pC), .val (.int pD), .val (.int v6_1), .val (.int v7_2), .val (.long v8_3), .second, .val (.long v10_8), .second, .val (.int v12_13)] [(.int (1 : Int32))]))
  refine own_back ?_ (fun t k => XS.goto X14.here hx rfl (pc0 := 87) (pc' := 91) rfl (hb hby at_87) (by decide) (by decide) k)
  show own_Go p e below PO (T14.setTop (mkF m 91 #[.val (.long pA), .second, .val (.long pB), .second, .val (.int pC), .val (.int pD), .val (.int v6_1), .val (.int v7_2), .val (.long v8_3), .second, .val (.long v10_8), .second, .val (.int v12_13)] [(.int (1 : Int32))]))
  refine own_retN X14 hx (t := .boolean) (rest := []) Bd.returns (by decide) (by simp) (hb hby at_91) e14 (Bd.notSynchronized) ?_ (by decide) (by decide)
  exact ⟨rfl, N14⟩
set_option maxRecDepth 65536 in
set_option maxHeartbeats 40000000 in
theorem comes_1 {Post : Tables → Env → Array Value → State → Outcome → State → Prop} (hpost : ∀ tb e args s v u, (limb_1_1.after args s (.returned v) u = true ∧ limb_1_2.after args s (.returned v) u = true ∧ True) → FrameEnd s (.returned v) u (Jvm.fieldLocs frame_1_writes args s ++ Jvm.arrayLocs frame_1_arrays args s ++ Jvm.staticLocs frame_1_statics s) 0 0 → Post tb e args s (.returned v) u) :
    ArmFor flags0 classFile x code maxLocals ret World_1 tables_1 room_1 Calls_1 rest_1 Pre_1 Post := by
  intro l hfl _ _ p e ha hc hk s m args below hf hA hF happ hP
  obtain ⟨hcalls, hrest, hpre⟩ := hP
  obtain ⟨-, -, -, hnamed, -, -, -, hat⟩ := (Spec.applies_iff hf).mp happ
  obtain ⟨hg, hn⟩ := and_e (Cond.before_iff.mp (show (Jvm.Cond.and given_1 narrow_1).before args s = true from hpre))
  obtain ⟨gc, g0⟩ := and_e hg
  obtain ⟨ga0, g1⟩ := and_e g0
  obtain ⟨ga1, g2⟩ := and_e g1
  obtain ⟨ga2, g3⟩ := and_e g2
  obtain ⟨w0, w1, w2, w3, rfl⟩ : ∃ w0 w1 w2 w3 : Value, args = #[w0, w1, w2, w3] := by
    have hs : args.size = 4 := by simpa [Cond.value, given_1] using gc
    obtain ⟨L⟩ := args
    match L, hs with
    | [w0, w1, w2, w3], _ => exact ⟨w0, w1, w2, w3, rfl⟩
  have hw := fun d (hd : d ∈ tables_1) => atoms_spec (ws := Jvm.Cond.code x code maxLocals ret :: tables_1) hat d (List.mem_cons_of_mem _ hd)
  obtain ⟨i0, ei0⟩ := isL_v ga0
  obtain rfl : w0 = (.long i0) := Option.some.inj ei0
  obtain ⟨i1, ei1⟩ := isL_v ga1
  obtain rfl : w1 = (.long i1) := Option.some.inj ei1
  obtain ⟨i2, ei2⟩ := is_v ga2
  obtain rfl : w2 = (.int i2) := Option.some.inj ei2
  obtain ⟨i3, ei3⟩ := is_v g3
  obtain rfl : w3 = (.int i3) := Option.some.inj ei3
  obtain ⟨n, o, h1, h2, h3, _, L, rfl, ⟨rfl, N⟩, hq⟩ := rm0 l s _ hw tables_1 i0 i1 i2 i3  s.heap s.heap.size (Nat.le_refl _)  p e ha hc hk s m _ below hf ((Spec.applies_iff_loose hf).mp happ).1 ⟨rfl, State.Warmed39.refl s, rfl⟩ trivial
  refine ⟨n, _, h1, h2, h3, hpost _ _ _ _ _ _ ⟨Cond.after_iff.mpr rfl, Cond.after_iff.mpr (eq_i res_at (Term.int_eval (1)) rfl), trivial⟩ ⟨hq.1, hq.2.1, (hq.2.2.sift fun y hy => Or.inr (N y hy)).mono (by decide) (by decide)⟩⟩
theorem main_1_1 : Claimed_1_1 := comes_1 fun _ _ _ _ _ _ h hF => ⟨h.1, hF⟩
theorem main_1_2 : Claimed_1_2 := comes_1 fun _ _ _ _ _ _ h hF => ⟨h.2.1, hF⟩
end Jvm.Pilot.@@N@@
namespace Jvm.Pilot.@@N@@
open Jvm Jvm.ClassFile Sem Op Lib Jvm.Free Jvm.Stand Jvm.Pilot.@@N@@.Jvm.D
/-! MADE BY PROGRAM (witnessworld.py) out of the Statement's table words and the real class files: 9 classes; the members and pool entries that the words name. The judged class is class 1, her method 3. -/
namespace start1
open Jvm.ClassFile
def u (s : String) : CpInfo := .utf8 (stringToUtf16 s)
/-- a pool by its gaps: so many unusable entries, then the entry; so many at the end -/
def gap : Nat → List CpInfo → List CpInfo
  | 0, r => r
  | n + 1, r => .unusable :: gap n r
def poolList (es : List (Nat × CpInfo)) (last : Nat) : List CpInfo := es.foldr (fun e r => gap e.1 (e.2 :: r)) (gap last [])
def pool (es : List (Nat × CpInfo)) (last : Nat) : Array CpInfo := ⟨poolList es last⟩
def fileOf (pool : Array CpInfo) (this : Nat) (attrs : Array Attribute := #[]) (ms : Array MethodInfo := #[]) (fl : Nat := 33) (sup : Nat := 0) (ifs : Array Nat := #[]) (fds : Array FieldInfo := #[]) : ClassFile where
  minorVersion := 0
  majorVersion := 65
  constantPool := pool
  accessFlags := fl
  thisClass := this
  superClass := sup
  interfaces := ifs
  fields := fds
  methods := ms
  attributes := attrs
def plain (name : String) (sup : Option ClassId) : Class where
  name := name
  kind := .ordinary
  loader := none
  accessFlags := 33
  super := sup
  interfaces := #[]
  cf := none
  fields := #[]
  methods := #[]
  instanceTypes := #[]
  staticTypes := #[]
  resolved := #[]
  callSites := []
  init := .initialized
  statics := none
  mirror := none

def pool0 : Array CpInfo := pool [(5, u "<init>"), (0, u "()V"), (1, .class_ 10), (1, u "java/lang/Object")] 113

def k0m0 : Method := { name := "<init>", desc := "()V", sig := { parameters := [], returnType := none }, accessFlags := 1, code := none }
/-- java/lang/Object -/
def k0 : Class := { plain "java/lang/Object" none with
  accessFlags := 33
  interfaces := #[]
  cf := some (fileOf pool0 8 #[] #[{ accessFlags := 1, nameIndex := 5, descriptorIndex := 6, attributes := #[] }] 33 0 #[] #[])
  fields := #[]
  methods := #[k0m0]
  instanceTypes := #[]
  staticTypes := #[]
  resolved := Array.replicate 124 none
  statics := none }

def pool1 : Array CpInfo := pool [(2, .class_ 4), (1, u "java/lang/Object"), (0, u "<init>"), (0, u "()V"), (0, .long 71777214294589695), (1, .long 255), (1, .integer 2147483647), (0, .methodref 13 14), (0, .class_ 15), (0, .nameAndType 16 17), (0, u "com/example/fillwire/fillwire/wire/WordsByteSumPinLaw"), (0, u "oddOf"), (0, u "(J)J"), (0, .methodref 13 19), (0, .nameAndType 20 21), (0, u "bytesOf"), (0, u "(J)I"), (0, .methodref 23 24), (0, .class_ 25), (0, .nameAndType 26 27), (0, u "com/example/fillwire/fillwire/wire/Words"), (0, u "byteSum"), (0, u "(JJ)I"), (2, u "law"), (0, u "(JJII)Z")] 3

def k1m0 : Method := { name := "<init>", desc := "()V", sig := { parameters := [], returnType := none }, accessFlags := 2, code := none }
def k1c1 : Code := { maxStack := 4, maxLocals := 2, code := method_2_code, exceptionTable := #[], attributes := #[] }
def k1m1 : Method := { name := "oddOf", desc := "(J)J", sig := { parameters := [.long], returnType := some .long }, accessFlags := 10, code := some k1c1 }
def k1c2 : Code := { maxStack := 6, maxLocals := 2, code := method_3_code, exceptionTable := #[], attributes := #[] }
def k1m2 : Method := { name := "bytesOf", desc := "(J)I", sig := { parameters := [.long], returnType := some .int }, accessFlags := 10, code := some k1c2 }
def k1c3 : Code := { maxStack := 6, maxLocals := 13, code := code, exceptionTable := #[], attributes := #[] }
def k1m3 : Method := { name := "law", desc := "(JJII)Z", sig := { parameters := [.long, .long, .int, .int], returnType := some .boolean }, accessFlags := 9, code := some k1c3 }
/-- com/example/fillwire/fillwire/wire/WordsByteSumPinLaw -/
def k1 : Class := { plain "com/example/fillwire/fillwire/wire/WordsByteSumPinLaw" (some 0) with
  accessFlags := 49
  interfaces := #[]
  cf := some (fileOf pool1 13 #[] #[{ accessFlags := 2, nameIndex := 5, descriptorIndex := 6, attributes := #[] }, { accessFlags := 10, nameIndex := 16, descriptorIndex := 17, attributes := #[] }, { accessFlags := 10, nameIndex := 20, descriptorIndex := 21, attributes := #[] }, { accessFlags := 9, nameIndex := 30, descriptorIndex := 31, attributes := #[] }] 49 2 #[] #[])
  fields := #[]
  methods := #[k1m0, k1m1, k1m2, k1m3]
  instanceTypes := #[]
  staticTypes := #[]
  resolved := Array.replicate 35 none
  statics := none }

def pool2 : Array CpInfo := pool [(2, .class_ 4), (1, u "java/lang/Object"), (0, u "<init>"), (0, u "()V"), (0, .class_ 8), (0, u "com/example/fillwire/fillwire/wire/Words"), (14, .long 65535), (3, u "ZEROS"), (0, u "J"), (2, u "PAST_NINE"), (24, u "MARKS"), (1, u "MAX_SUMMED_WORDS"), (0, u "I"), (1, u "ONES"), (0, u "EVERY_OTHER_BYTE"), (0, u "FIRST_BYTE_OF_EACH_HALF"), (9, u "byteSum"), (0, u "(JJ)I")] 7

def k2m0 : Method := { name := "<init>", desc := "()V", sig := { parameters := [], returnType := none }, accessFlags := 2, code := none }
def k2c1 : Code := { maxStack := 6, maxLocals := 6, code := prog_40_method_8_code, exceptionTable := #[], attributes := #[] }
def k2m1 : Method := { name := "byteSum", desc := "(JJ)I", sig := { parameters := [.long, .long], returnType := some .int }, accessFlags := 8, code := some k2c1 }
/-- com/example/fillwire/fillwire/wire/Words -/
def k2 : Class := { plain "com/example/fillwire/fillwire/wire/Words" (some 0) with
  accessFlags := 48
  interfaces := #[]
  cf := some (fileOf pool2 7 #[] #[{ accessFlags := 2, nameIndex := 5, descriptorIndex := 6, attributes := #[] }, { accessFlags := 8, nameIndex := 73, descriptorIndex := 74, attributes := #[] }] 48 2 #[] #[{ accessFlags := 24, nameIndex := 56, descriptorIndex := 28, attributes := #[] }, { accessFlags := 24, nameIndex := 58, descriptorIndex := 59, attributes := #[] }, { accessFlags := 26, nameIndex := 61, descriptorIndex := 28, attributes := #[] }, { accessFlags := 26, nameIndex := 27, descriptorIndex := 28, attributes := #[] }, { accessFlags := 26, nameIndex := 31, descriptorIndex := 28, attributes := #[] }, { accessFlags := 26, nameIndex := 62, descriptorIndex := 28, attributes := #[] }, { accessFlags := 26, nameIndex := 63, descriptorIndex := 28, attributes := #[] }])
  fields := #[{ name := "MARKS", type := .long, accessFlags := 24, slot := 0, constantValue := 0 }, { name := "MAX_SUMMED_WORDS", type := .int, accessFlags := 24, slot := 1, constantValue := 0 }, { name := "ONES", type := .long, accessFlags := 26, slot := 2, constantValue := 0 }, { name := "ZEROS", type := .long, accessFlags := 26, slot := 3, constantValue := 0 }, { name := "PAST_NINE", type := .long, accessFlags := 26, slot := 4, constantValue := 0 }, { name := "EVERY_OTHER_BYTE", type := .long, accessFlags := 26, slot := 5, constantValue := 0 }, { name := "FIRST_BYTE_OF_EACH_HALF", type := .long, accessFlags := 26, slot := 6, constantValue := 0 }]
  methods := #[k2m0, k2m1]
  instanceTypes := #[]
  staticTypes := #[.long, .int, .long, .long, .long, .long, .long]
  resolved := Array.replicate 82 none
  statics := none }

def pool3 : Array CpInfo := pool [(1, u "java/lang/Cloneable"), (0, .class_ 1), (0, u "java/lang/Object"), (0, .class_ 3)] 3

/-- java/lang/Cloneable -/
def k3 : Class := { plain "java/lang/Cloneable" (some 0) with
  accessFlags := 1537
  interfaces := #[]
  cf := some (fileOf pool3 2 #[] #[] 1537 4 #[] #[])
  fields := #[]
  methods := #[]
  instanceTypes := #[]
  staticTypes := #[]
  resolved := Array.replicate 8 none
  statics := none }

def pool4 : Array CpInfo := pool [(1, u "java/io/Serializable"), (0, .class_ 1), (0, u "java/lang/Object"), (0, .class_ 3)] 3

/-- java/io/Serializable -/
def k4 : Class := { plain "java/io/Serializable" (some 0) with
  accessFlags := 1537
  interfaces := #[]
  cf := some (fileOf pool4 2 #[] #[] 1537 4 #[] #[])
  fields := #[]
  methods := #[]
  instanceTypes := #[]
  staticTypes := #[]
  resolved := Array.replicate 8 none
  statics := none }

/-- the primitive byte -/
def k5 : Class := { plain "byte" none with kind := .primitive 'B', accessFlags := 0x411 }
/-- [B -/
def k6 : Class := { plain "[B" (some 0) with kind := .array 5 .byte, interfaces := #[3, 4], accessFlags := 1041 }

/-- the primitive int -/
def k7 : Class := { plain "int" none with kind := .primitive 'I', accessFlags := 0x411 }
/-- [I -/
def k8 : Class := { plain "[I" (some 0) with kind := .array 7 .int, interfaces := #[3, 4], accessFlags := 1041 }

def heap : Heap := #[]
def classes : Array Class := #[k0, k1, k2, k3, k4, k5, k6, k7, k8]
def interned : List (Array UInt16 × Addr) := []
def slotsUsed : Nat := 0
def theMethod : MethodId := ⟨1, 3⟩
def args0 : Array Value := #[.long 5, .long 5, .int 5, .int 5]
def aboutOver (below : List Frame) : State where
  vm := { classes := classes, interned := interned.toArray }
  heap := heap
  slotsUsed := slotsUsed
  threads := #[{ frames := .invoking theMethod args0 :: below }]
def below0 : List Frame := [.native { method := ⟨0, 0⟩, args := #[] }]
def about1 : State := aboutOver below0
def p0 : Program := .bare "" "" ""
def e0 : Env := launch0.env 0 0 0
theorem w_frames : about1.frames = Frame.invoking theMethod args0 :: below0 := rfl
set_option maxRecDepth 65536 in
theorem w_args : argsFit about1.vm theMethod args0 = true := by decide +kernel
set_option maxRecDepth 65536 in
theorem w_heap : heapFits about1 = true := by decide +kernel
set_option maxRecDepth 65536 in
theorem w_runnable : about1.curStatus? = some .runnable := by decide +kernel
set_option maxRecDepth 65536 in
theorem w_alone : about1.alone = true := by decide +kernel
set_option maxRecDepth 65536 in
theorem w_named : about1.methodNamed? x = some theMethod := by decide +kernel
set_option maxRecDepth 65536 in
theorem w_hears : about1.hears theMethod below0 = true := by decide +kernel
set_option maxRecDepth 65536 in
theorem w_ripe : about1.ripe theMethod args0 below0 = true := by decide +kernel
theorem w_running : about1.status = .running := rfl
set_option maxRecDepth 65536 in
theorem w_room : about1.hasRoom e0.platform room_1 = true :=
  launch0.hasRoom_least _ room_1 (by decide +kernel) (by decide +kernel) (by decide +kernel) (by decide +kernel) (by decide +kernel) (by decide +kernel)
theorem allAtoms_all (ts : List Jvm.Cond) (a : Array Jvm.Value) (st : Jvm.State) : (allAtoms ts).before a st = ts.all (fun c => c.before a st) := by
  induction ts with
  | nil => rfl
  | cons c t ih =>
    show (Jvm.Cond.and c (allAtoms t)).before a st = _
    rw [Jvm.Cond.before_and, ih, List.all_cons]
def words1 : List Jvm.Cond := Jvm.Cond.code x code maxLocals ret :: tables_1
/-- a 'code' word, met by the world's own term for the bytes: nothing is compared byte by byte -/
theorem code_word {y : MethodName} {bytes : ByteArray} {mx : Nat} {rt : Option FieldType} {a : Array Value} {s : State} {m : MethodId} {meth : Method} {c : Code} (h1 : s.methodNamed? y = some m) (h2 : s.vm.method? m = some meth) (h3 : meth.code = some c) (h4 : c.code = bytes)
    (h5 : (c.maxLocals == mx && c.exceptionTable.isEmpty && decide (c.maxStack ≤ mostOperands) && decide (meth.sig.returnType = rt) && !meth.locks && decide (parseMethodDescriptor y.desc = some meth.sig)) = true) : (Jvm.Cond.code y bytes mx rt).before a s = true := by
  simp only [Bool.and_eq_true, beq_iff_eq, Bool.not_eq_true', decide_eq_true_eq] at h5
  obtain ⟨⟨⟨⟨⟨g1, g2⟩, g3⟩, g4⟩, g5⟩, g6⟩ := h5
  simp [Cond.before, Cond.holds, Cond.value, h1, h2, h3, h4, g1, g2, g3, g4, g5, g6]
def isCode : Jvm.Cond → Bool
  | .code _ _ _ _ => true
  | _ => false
theorem all_split {L : List Jvm.Cond} {P : Jvm.Cond → Bool} (h1 : L.all (fun c => isCode c || P c) = true) (h2 : ∀ c ∈ L.filter isCode, P c = true) : L.all P = true := by
  refine List.all_eq_true.mpr fun c hc => ?_
  have h := List.all_eq_true.mp h1 c hc
  rcases Bool.eq_false_or_eq_true (isCode c) with hi | hi
  · exact h2 c (List.mem_filter.mpr ⟨hc, hi⟩)
  · simpa [hi] using h
set_option maxRecDepth 65536 in
theorem w_c0 : (Jvm.Cond.code x code maxLocals ret).before args0 about1 = true := code_word (m := ⟨1, 3⟩) (meth := k1m3) (c := k1c3) (by decide +kernel) rfl rfl rfl (by decide +kernel)
set_option maxRecDepth 65536 in
theorem w_c1 : (Jvm.Cond.code ({ cls := "com/example/fillwire/fillwire/wire/WordsByteSumPinLaw", name := "oddOf", desc := "(J)J" } : Jvm.MethodName) method_2_code (2 : Nat) (Option.some Jvm.ClassFile.FieldType.long)).before args0 about1 = true := code_word (m := ⟨1, 1⟩) (meth := k1m1) (c := k1c1) (by decide +kernel) rfl rfl rfl (by decide +kernel)
set_option maxRecDepth 65536 in
theorem w_c2 : (Jvm.Cond.code ({ cls := "com/example/fillwire/fillwire/wire/WordsByteSumPinLaw", name := "bytesOf", desc := "(J)I" } : Jvm.MethodName) method_3_code (2 : Nat) (Option.some Jvm.ClassFile.FieldType.int)).before args0 about1 = true := code_word (m := ⟨1, 2⟩) (meth := k1m2) (c := k1c2) (by decide +kernel) rfl rfl rfl (by decide +kernel)
set_option maxRecDepth 65536 in
theorem w_c3 : (Jvm.Cond.code ({ cls := "com/example/fillwire/fillwire/wire/Words", name := "byteSum", desc := "(JJ)I" } : Jvm.MethodName) prog_40_method_8_code (6 : Nat) (Option.some Jvm.ClassFile.FieldType.int)).before args0 about1 = true := code_word (m := ⟨2, 1⟩) (meth := k2m1) (c := k2c1) (by decide +kernel) rfl rfl rfl (by decide +kernel)
def codes1 : List Jvm.Cond := [Jvm.Cond.code x code maxLocals ret, Jvm.Cond.code ({ cls := "com/example/fillwire/fillwire/wire/WordsByteSumPinLaw", name := "oddOf", desc := "(J)J" } : Jvm.MethodName) method_2_code (2 : Nat) (Option.some Jvm.ClassFile.FieldType.long), Jvm.Cond.code ({ cls := "com/example/fillwire/fillwire/wire/WordsByteSumPinLaw", name := "bytesOf", desc := "(J)I" } : Jvm.MethodName) method_3_code (2 : Nat) (Option.some Jvm.ClassFile.FieldType.int), Jvm.Cond.code ({ cls := "com/example/fillwire/fillwire/wire/Words", name := "byteSum", desc := "(JJ)I" } : Jvm.MethodName) prog_40_method_8_code (6 : Nat) (Option.some Jvm.ClassFile.FieldType.int)]
set_option maxRecDepth 65536 in
theorem codes_eq : words1.filter isCode = codes1 := rfl
theorem w_codes : ∀ c ∈ words1.filter isCode, c.before args0 about1 = true := by
  rw [codes_eq]
  intro c hc
  simp only [codes1, List.mem_cons, List.not_mem_nil, or_false] at hc
  rcases hc with rfl | rfl | rfl | rfl
  · exact w_c0
  · exact w_c1
  · exact w_c2
  · exact w_c3
set_option maxRecDepth 65536 in
theorem w_t1 : words1.all (fun c => isCode c || c.before args0 about1) = true := by decide +kernel
theorem w_tables : (allAtoms (Jvm.Cond.code x code maxLocals ret :: tables_1)).before args0 about1 = true := by
  rw [allAtoms_all]
  show words1.all (fun c => c.before args0 about1) = true
  refine all_split ?_ w_codes
  rw [w_t1]
set_option maxRecDepth 65536 in
theorem w_case : (Jvm.Cond.and given_1 narrow_1).before args0 about1 = true := by decide +kernel
theorem w_applies : (headSpec (Jvm.Cond.code x code maxLocals ret :: tables_1) room_1).applies x e0.platform about1 = true :=
  (Spec.applies_iff w_frames).mpr ⟨w_running, w_runnable, w_alone, w_named, w_hears, w_ripe, w_room, w_tables⟩
theorem atStart : AtStart classFile x code maxLocals ret World_1 tables_1 room_1 Calls_1 rest_1 Pre_1 launch0 p0 e0 about1 theMethod args0 below0 :=
  ⟨lists_1, trivial, launch0.admits_env _ _ _, launch0.least_env, fairChoices_fair.cas, fairChoices_fair.clock, w_frames, w_args, w_heap, w_applies, trivial, trivial, w_case⟩
end start1
theorem witness_1 : WitnessClaimed_1 := ⟨start1.p0, start1.e0, start1.about1, start1.theMethod, start1.args0, start1.below0, start1.atStart⟩
end Jvm.Pilot.@@N@@
