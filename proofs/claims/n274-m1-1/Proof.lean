import JvmDerived
import JvmDerived.Pilot.@@N@@Statement
import JvmDerived.Pilot.@@N@@Code
set_option linter.unusedVariables false
set_option linter.unusedSimpArgs false
namespace Jvm.Pilot.@@N@@
open Jvm Jvm.ClassFile Sem Op Lib Jvm.Free Jvm.Stand Jvm.LawKit Jvm.RoadKit Bundle Jvm.Pilot.@@N@@.Jvm.D
-- OWN KIT (mine): reach, finish, weakening of the counters, arrays by a function, arithmetic in omega's form
abbrev own_R (tb : Tables) (e : Env) (below : List Frame) (F0 F : State) : Prop := ∀ t, Steps tb e below F t → Steps tb e below F0 t
abbrev own_G (p : Program) (e : Env) (below : List Frame) (s F0 : State) (Q : Option Value → Heap → List Loc → Prop) (kc ks : Nat) : Prop :=
  ∃ s₂ o, Steps p.tables e below F0 s₂ ∧ s₂.status = .running ∧ Ended s₂ below o ∧ ∃ v L, o = .returned v ∧ Q v s₂.heap L ∧ FrameEnd s o s₂ L kc ks
section OwnKit
variable {p : Program} {l : Launch} {e : Env} {R : Room} {s : State} {m : MethodId} {args : Array Value} {below : List Frame} {meth : Method} {c : Code} {T : State} {locs : List Loc} {cells slots : Nat}
theorem own_fin (X : Stand p l e R s m args below meth c T locs cells slots) (hl : meth.locks = false) {F0 : State} {Q : Option Value → Heap → List Loc → Prop} {kc ks : Nat} (v : Option Value) (hv : meth.sig.returnType = none → v = none) (hq : Q v T.heap locs) (hc : cells ≤ kc) (hs : slots ≤ ks)
    (st : ∀ fs, (∀ (f : JFrame) (acts : List Action), f.method = m → f.locked = none → f.entered = [] → (doReturn e (T.setTop f) acts v).1 = T.setFrames fs) → Steps p.tables e below F0 (T.setFrames fs)) : own_G p e below s F0 Q kc ks := by
  obtain ⟨fs, hr, hrun, hended, hW, hsame⟩ := X.leave hv hl
  exact ⟨_, _, st fs hr, hrun, hended, _, _, rfl, hq, ⟨_, rfl⟩, hW, hsame.mono hc hs⟩
theorem own_mono (X : Stand p l e R s m args below meth c T locs cells slots) {c' s' : Nat} (hc : cells ≤ c') (hs : slots ≤ s') : Stand p l e R s m args below meth c T locs c' s' := { X with same := X.same.mono hc hs }
end OwnKit
theorem own_hv {meth : Method} {t : FieldType} {v : Option Value} (h : meth.sig.returnType = some t) : meth.sig.returnType = none → v = none := fun q => by rw [h] at q; cases q
theorem own_lt32 {a b : Int32} (h : a < b) : a.toInt < b.toInt := Int32.lt_iff_toInt_lt.mp h
theorem own_nlt32 {a b : Int32} (h : ¬ a < b) : b.toInt ≤ a.toInt := Int.not_lt.mp fun q => h (Int32.lt_iff_toInt_lt.mpr q)
theorem own_eq32 {a b : Int32} (h : a = b) : a.toInt = b.toInt := congrArg Int32.toInt h
theorem own_ne32 {a b : Int32} (h : ¬ a = b) : a.toInt ≠ b.toInt := fun q => h (Int32.toInt_inj.mp q)
theorem own_lt64 {a b : Int64} (h : a < b) : a.toInt < b.toInt := Int64.lt_iff_toInt_lt.mp h
theorem own_nlt64 {a b : Int64} (h : ¬ a < b) : b.toInt ≤ a.toInt := Int.not_lt.mp fun q => h (Int64.lt_iff_toInt_lt.mpr q)
theorem own_eq64 {a b : Int64} (h : a = b) : a.toInt = b.toInt := congrArg Int64.toInt h
theorem own_ne64 {a b : Int64} (h : ¬ a = b) : a.toInt ≠ b.toInt := fun q => h (Int64.toInt_inj.mp q)
theorem own_imulc (x y : Int32) (d : Int) (h : y.toInt = d) : ((x * y).toInt - x.toInt * d) % 4294967296 = 0 := by rw [← h]; exact c_imul x y
theorem own_imulc' (x y : Int32) (d : Int) (h : x.toInt = d) : ((x * y).toInt - d * y.toInt) % 4294967296 = 0 := by rw [← h]; exact c_imul x y
theorem own_lmulc (x y : Int64) (d : Int) (h : y.toInt = d) : ((x * y).toInt - x.toInt * d) % 18446744073709551616 = 0 := by rw [← h]; exact c_lmul x y
theorem own_lmulc' (x y : Int64) (d : Int) (h : x.toInt = d) : ((x * y).toInt - d * y.toInt) % 18446744073709551616 = 0 := by rw [← h]; exact c_lmul x y
theorem own_mask (x m : Int32) (k : Nat) (P : Int) (hk : k ≤ 31) (hm : m.toBitVec.toNat = 2 ^ k - 1) (hP : P = ((2 ^ k : Nat) : Int)) : (x &&& m).toInt = x.toInt % P := by rw [hP]; exact c_mask x m k hk hm
theorem own_maskL (x m : Int64) (k : Nat) (P : Int) (hk : k ≤ 63) (hm : m.toBitVec.toNat = 2 ^ k - 1) (hP : P = ((2 ^ k : Nat) : Int)) : (x &&& m).toInt = x.toInt % P := by rw [hP]; exact c_maskL x m k hk hm
theorem own_ishr (x q : Int32) (k : Nat) (P : Int) (hk : q.toBitVec.toNat % 32 = k) (hP : P = ((2 ^ k : Nat) : Int)) : (x >>> (q &&& 31)).toInt = x.toInt / P := by rw [hP]; exact c_ishr x q k hk
theorem own_ishl (x q : Int32) (k : Nat) (P : Int) (hk : q.toBitVec.toNat % 32 = k) (hP : P = ((2 ^ k : Nat) : Int)) : ((x <<< (q &&& 31)).toInt - x.toInt * P) % 4294967296 = 0 := by rw [hP]; exact c_ishl x q k hk
theorem own_iushr (x q : Int32) (k : Nat) (P : Int) (hk : q.toBitVec.toNat % 32 = k) (h0 : 0 < k) (hP : P = ((2 ^ k : Nat) : Int)) : ((x.toUInt32 >>> (q &&& 31).toUInt32).toInt32).toInt = (x.toInt % 4294967296) / P := by rw [hP]; exact c_iushr x q k hk h0
theorem own_lshr (x : Int64) (q : Int32) (k : Nat) (P : Int) (hk : q.toBitVec.toNat % 64 = k) (hP : P = ((2 ^ k : Nat) : Int)) : (x >>> (q &&& 0x3f).toInt64).toInt = x.toInt / P := by rw [hP]; exact c_lshr x q k hk
theorem own_lshl (x : Int64) (q : Int32) (k : Nat) (P : Int) (hk : q.toBitVec.toNat % 64 = k) (hP : P = ((2 ^ k : Nat) : Int)) : ((x <<< (q &&& 0x3f).toInt64).toInt - x.toInt * P) % 18446744073709551616 = 0 := by rw [hP]; exact c_lshl x q k hk
theorem own_lushr (x : Int64) (q : Int32) (k : Nat) (P : Int) (hk : q.toBitVec.toNat % 64 = k) (h0 : 0 < k) (hP : P = ((2 ^ k : Nat) : Int)) : ((x.toUInt64 >>> (q &&& 0x3f).toInt64.toUInt64).toInt64).toInt = (x.toInt % 18446744073709551616) / P := by rw [hP]; exact c_lushr x q k hk h0
theorem own_lc_lt {x y : Int64} {cd : ClassFile.Cond} {b : Bool} (h : if_icmp.holds cd (lcmpW x y) 0 = b) : ifCond.holds cd (lcmpW x y) = b := (if0 _ _).trans h
theorem own_l_lt {x y : Int64} (h : x < y) : ifCond.holds .lt (lcmpW x y) = true ∧ ifCond.holds .ge (lcmpW x y) = false := ⟨(if0 _ _).trans (tlt ((lw_lt x y).mpr h)).1, (if0 _ _).trans (tlt ((lw_lt x y).mpr h)).2.1⟩
theorem own_l_nlt {x y : Int64} (h : ¬ x < y) : ifCond.holds .lt (lcmpW x y) = false ∧ ifCond.holds .ge (lcmpW x y) = true := ⟨(if0 _ _).trans (flt (fun q => h ((lw_lt x y).mp q))).1, (if0 _ _).trans (flt (fun q => h ((lw_lt x y).mp q))).2.1⟩
theorem own_l_gt {x y : Int64} (h : y < x) : ifCond.holds .gt (lcmpW x y) = true ∧ ifCond.holds .le (lcmpW x y) = false := ⟨(if0 _ _).trans (tlt ((lw_gt x y).mpr h)).2.2.1, (if0 _ _).trans (tlt ((lw_gt x y).mpr h)).2.2.2⟩
theorem own_l_ngt {x y : Int64} (h : ¬ y < x) : ifCond.holds .gt (lcmpW x y) = false ∧ ifCond.holds .le (lcmpW x y) = true := ⟨(if0 _ _).trans (flt (fun q => h ((lw_gt x y).mp q))).2.2.1, (if0 _ _).trans (flt (fun q => h ((lw_gt x y).mp q))).2.2.2⟩
theorem own_l_eq {x y : Int64} (h : x = y) : ifCond.holds .eq (lcmpW x y) = true ∧ ifCond.holds .ne (lcmpW x y) = false := ⟨(if0 _ _).trans (teq ((lw_eq x y).mpr h)).1, (if0 _ _).trans (teq ((lw_eq x y).mpr h)).2⟩
theorem own_l_neq {x y : Int64} (h : ¬ x = y) : ifCond.holds .eq (lcmpW x y) = false ∧ ifCond.holds .ne (lcmpW x y) = true := ⟨(if0 _ _).trans (feq (fun q => h ((lw_eq x y).mp q))).1, (if0 _ _).trans (feq (fun q => h ((lw_eq x y).mp q))).2⟩
theorem own_lrem {x y : Int64} {d : Int} (hy : y.toInt = d) : (0 ≤ x.toInt → (x - (x / y) * y).toInt = x.toInt % d) ∧ (x.toInt < 0 → (x - (x / y) * y).toInt = -((-x.toInt) % d)) := c_lrem x y d hy
theorem own_lremf (x y : Int64) (d : Int) (hy : y.toInt = d) : (0 ≤ x.toInt → (x % y).toInt = x.toInt % d) ∧ (x.toInt < 0 → (x % y).toInt = -((-x.toInt) % d)) := by rw [Int64.toInt_mod, hy]; exact tr _ _
theorem own_lremM {p : Program} {l : Launch} {e : Env} {R : Room} {s : State} {m : MethodId} {args : Array Value} {below : List Frame} {meth : Method} {c : Code} {T : State} {locs : List Loc} {cells slots : Nat} {g : JFrame} {target : State} (X : Stand p l e R s m args below meth c T locs cells slots) (hx : p.tables.exec = Jvm.exec) (hg : g.method = m) {x y : Int64} {rest : List Value} (hd : decode c.code g.pc = .ok (.lrem, 1)) (hs : g.stack = .long y :: .long x :: rest) (hy : y ≠ 0)
    (hr : Steps p.tables e below (T.setTop { g with pc := g.pc + 1, stack := .long (x % y) :: rest }) target) : Steps p.tables e below (T.setTop g) target :=
  XS.lrem X.here hx hg hd hs hy (by rw [lrem_mod]; exact hr)
theorem own_R32 (x : Int32) : -2147483648 ≤ x.toInt ∧ x.toInt ≤ 2147483647 := by have := rng32 x; omega
theorem own_R64 (x : Int64) : -9223372036854775808 ≤ x.toInt ∧ x.toInt ≤ 9223372036854775807 := by have := rng64 x; omega
theorem own_iaddR {x y : Int32} {a b c d : Int} (lo hi : Int) (hx : a ≤ x.toInt ∧ x.toInt ≤ b) (hy : c ≤ y.toInt ∧ y.toInt ≤ d) (h1 : -2147483648 ≤ a + c ∧ b + d ≤ 2147483647) (h2 : lo ≤ a + c ∧ b + d ≤ hi) : (x + y).toInt = x.toInt + y.toInt ∧ lo ≤ (x + y).toInt ∧ (x + y).toInt ≤ hi := by have := c_iadd x y; have := rng32 (x + y); omega
theorem own_isubR {x y : Int32} {a b c d : Int} (lo hi : Int) (hx : a ≤ x.toInt ∧ x.toInt ≤ b) (hy : c ≤ y.toInt ∧ y.toInt ≤ d) (h1 : -2147483648 ≤ a - d ∧ b - c ≤ 2147483647) (h2 : lo ≤ a - d ∧ b - c ≤ hi) : (x - y).toInt = x.toInt - y.toInt ∧ lo ≤ (x - y).toInt ∧ (x - y).toInt ≤ hi := by have := c_isub x y; have := rng32 (x - y); omega
theorem own_laddR {x y : Int64} {a b c d : Int} (lo hi : Int) (hx : a ≤ x.toInt ∧ x.toInt ≤ b) (hy : c ≤ y.toInt ∧ y.toInt ≤ d) (h1 : -9223372036854775808 ≤ a + c ∧ b + d ≤ 9223372036854775807) (h2 : lo ≤ a + c ∧ b + d ≤ hi) : (x + y).toInt = x.toInt + y.toInt ∧ lo ≤ (x + y).toInt ∧ (x + y).toInt ≤ hi := by have := c_ladd x y; have := rng64 (x + y); omega
theorem own_lsubR {x y : Int64} {a b c d : Int} (lo hi : Int) (hx : a ≤ x.toInt ∧ x.toInt ≤ b) (hy : c ≤ y.toInt ∧ y.toInt ≤ d) (h1 : -9223372036854775808 ≤ a - d ∧ b - c ≤ 9223372036854775807) (h2 : lo ≤ a - d ∧ b - c ≤ hi) : (x - y).toInt = x.toInt - y.toInt ∧ lo ≤ (x - y).toInt ∧ (x - y).toInt ≤ hi := by have := c_lsub x y; have := rng64 (x - y); omega
theorem own_imulR {x y : Int32} {a b k : Int} (lo hi : Int) (hx : a ≤ x.toInt ∧ x.toInt ≤ b) (hy : y.toInt = k) (hk : 0 ≤ k) (h1 : -2147483648 ≤ a * k ∧ b * k ≤ 2147483647) (h2 : lo ≤ a * k ∧ b * k ≤ hi) : (x * y).toInt = x.toInt * k ∧ lo ≤ (x * y).toInt ∧ (x * y).toInt ≤ hi := by
  have h := c_imul x y; have := rng32 (x * y); rw [hy] at h
  have p1 := Int.mul_le_mul_of_nonneg_right hx.1 hk; have p2 := Int.mul_le_mul_of_nonneg_right hx.2 hk
  generalize x.toInt * k = z at *; generalize a * k = z1 at *; generalize b * k = z2 at *; omega
theorem own_lmulR {x y : Int64} {a b k : Int} (lo hi : Int) (hx : a ≤ x.toInt ∧ x.toInt ≤ b) (hy : y.toInt = k) (hk : 0 ≤ k) (h1 : -9223372036854775808 ≤ a * k ∧ b * k ≤ 9223372036854775807) (h2 : lo ≤ a * k ∧ b * k ≤ hi) : (x * y).toInt = x.toInt * k ∧ lo ≤ (x * y).toInt ∧ (x * y).toInt ≤ hi := by
  have h := c_lmul x y; have := rng64 (x * y); rw [hy] at h
  have p1 := Int.mul_le_mul_of_nonneg_right hx.1 hk; have p2 := Int.mul_le_mul_of_nonneg_right hx.2 hk
  generalize x.toInt * k = z at *; generalize a * k = z1 at *; generalize b * k = z2 at *; omega
theorem own_imulR' {x y : Int32} {a b k : Int} (lo hi : Int) (hx : a ≤ y.toInt ∧ y.toInt ≤ b) (hy : x.toInt = k) (hk : 0 ≤ k) (h1 : -2147483648 ≤ a * k ∧ b * k ≤ 2147483647) (h2 : lo ≤ a * k ∧ b * k ≤ hi) : (x * y).toInt = y.toInt * k ∧ lo ≤ (x * y).toInt ∧ (x * y).toInt ≤ hi := by rw [Int32.mul_comm]; exact own_imulR lo hi hx hy hk h1 h2
theorem own_lmulR' {x y : Int64} {a b k : Int} (lo hi : Int) (hx : a ≤ y.toInt ∧ y.toInt ≤ b) (hy : x.toInt = k) (hk : 0 ≤ k) (h1 : -9223372036854775808 ≤ a * k ∧ b * k ≤ 9223372036854775807) (h2 : lo ≤ a * k ∧ b * k ≤ hi) : (x * y).toInt = y.toInt * k ∧ lo ≤ (x * y).toInt ∧ (x * y).toInt ≤ hi := by rw [Int64.mul_comm]; exact own_lmulR lo hi hx hy hk h1 h2
theorem own_maskR (x m : Int32) (k : Nat) (P : Int) (hk : k ≤ 31) (hm : m.toBitVec.toNat = 2 ^ k - 1) (hP : P = ((2 ^ k : Nat) : Int)) (hi : Int) (h0 : 0 < P) (h : P ≤ hi + 1) : (x &&& m).toInt = x.toInt % P ∧ 0 ≤ (x &&& m).toInt ∧ (x &&& m).toInt ≤ hi := by
  have e := own_mask x m k P hk hm hP; have h1 := Int.emod_nonneg x.toInt (show P ≠ 0 by omega); have h2 := Int.emod_lt_of_pos x.toInt h0; omega
theorem own_maskLR (x m : Int64) (k : Nat) (P : Int) (hk : k ≤ 63) (hm : m.toBitVec.toNat = 2 ^ k - 1) (hP : P = ((2 ^ k : Nat) : Int)) (hi : Int) (h0 : 0 < P) (h : P ≤ hi + 1) : (x &&& m).toInt = x.toInt % P ∧ 0 ≤ (x &&& m).toInt ∧ (x &&& m).toInt ≤ hi := by
  have e := own_maskL x m k P hk hm hP; have h1 := Int.emod_nonneg x.toInt (show P ≠ 0 by omega); have h2 := Int.emod_lt_of_pos x.toInt h0; omega
theorem own_iremR {x y : Int32} {a b d : Int} (hi : Int) (hx : a ≤ x.toInt ∧ x.toInt ≤ b) (hy : y.toInt = d) (ha : 0 ≤ a) (hd : 0 < d) (h : d ≤ hi + 1) : (x % y).toInt = x.toInt % d ∧ 0 ≤ (x % y).toInt ∧ (x % y).toInt ≤ hi := by
  have e := (c_irem x y d hy).1 (by omega); have h1 := Int.emod_nonneg x.toInt (show d ≠ 0 by omega); have h2 := Int.emod_lt_of_pos x.toInt hd; omega
theorem own_lremR {x y : Int64} {a b d : Int} (hi : Int) (hx : a ≤ x.toInt ∧ x.toInt ≤ b) (hy : y.toInt = d) (ha : 0 ≤ a) (hd : 0 < d) (h : d ≤ hi + 1) : (x % y).toInt = x.toInt % d ∧ 0 ≤ (x % y).toInt ∧ (x % y).toInt ≤ hi := by
  have e := (own_lremf x y d hy).1 (by omega); have h1 := Int.emod_nonneg x.toInt (show d ≠ 0 by omega); have h2 := Int.emod_lt_of_pos x.toInt hd; omega
theorem own_idivR {x y : Int32} {a b d : Int} (lo hi : Int) (hx : a ≤ x.toInt ∧ x.toInt ≤ b) (hy : y.toInt = d) (hy1 : y ≠ -1) (ha : 0 ≤ a) (hd : 0 < d) (h : lo ≤ a / d ∧ b / d ≤ hi) : (x / y).toInt = x.toInt / d ∧ lo ≤ (x / y).toInt ∧ (x / y).toInt ≤ hi := by
  have e := (c_idiv x y d hy hy1).1 (by omega); have h1 := Int.ediv_le_ediv hd hx.1; have h2 := Int.ediv_le_ediv hd hx.2; omega
theorem own_ldivR {x y : Int64} {a b d : Int} (lo hi : Int) (hx : a ≤ x.toInt ∧ x.toInt ≤ b) (hy : y.toInt = d) (hy1 : y ≠ -1) (ha : 0 ≤ a) (hd : 0 < d) (h : lo ≤ a / d ∧ b / d ≤ hi) : (x / y).toInt = x.toInt / d ∧ lo ≤ (x / y).toInt ∧ (x / y).toInt ≤ hi := by
  have e := (c_ldiv x y d hy hy1).1 (by omega); have h1 := Int.ediv_le_ediv hd hx.1; have h2 := Int.ediv_le_ediv hd hx.2; omega
theorem own_l2iR {x : Int64} {a b : Int} (hx : a ≤ x.toInt ∧ x.toInt ≤ b) (h1 : -2147483648 ≤ a ∧ b ≤ 2147483647) : x.toInt32.toInt = x.toInt ∧ a ≤ x.toInt32.toInt ∧ x.toInt32.toInt ≤ b := by have := c_l2i x; have := rng32 x.toInt32; omega
theorem own_i2lR {x : Int32} {a b : Int} (hx : a ≤ x.toInt ∧ x.toInt ≤ b) : x.toInt64.toInt = x.toInt ∧ a ≤ x.toInt64.toInt ∧ x.toInt64.toInt ≤ b := by have := c_i2l x; omega
theorem own_eqR32 {x y : Int32} {a b : Int} (h : x = y) (hy : a ≤ y.toInt ∧ y.toInt ≤ b) : x.toInt = y.toInt ∧ a ≤ x.toInt ∧ x.toInt ≤ b := by subst h; exact ⟨rfl, hy⟩
theorem own_eqR64 {x y : Int64} {a b : Int} (h : x = y) (hy : a ≤ y.toInt ∧ y.toInt ≤ b) : x.toInt = y.toInt ∧ a ≤ x.toInt ∧ x.toInt ≤ b := by subst h; exact ⟨rfl, hy⟩
theorem own_lushrR {x : Int64} {a b : Int} (q : Int32) (k : Nat) (P lo hi : Int) (hx : a ≤ x.toInt ∧ x.toInt ≤ b) (ha : 0 ≤ a) (hk : q.toBitVec.toNat % 64 = k) (h0 : 0 < k) (hP : P = ((2 ^ k : Nat) : Int)) (hPp : 0 < P) (h : lo ≤ a / P ∧ b / P ≤ hi) : ((x.toUInt64 >>> (q &&& 0x3f).toInt64.toUInt64).toInt64).toInt = x.toInt / P ∧ lo ≤ ((x.toUInt64 >>> (q &&& 0x3f).toInt64.toUInt64).toInt64).toInt ∧ ((x.toUInt64 >>> (q &&& 0x3f).toInt64.toUInt64).toInt64).toInt ≤ hi := by
  have e := own_lushr x q k P hk h0 hP; have := rng64 x; rw [Int.emod_eq_of_lt (by omega) (by omega)] at e; have h1 := Int.ediv_le_ediv hPp hx.1; have h2 := Int.ediv_le_ediv hPp hx.2; omega
theorem own_iushrR {x : Int32} {a b : Int} (q : Int32) (k : Nat) (P lo hi : Int) (hx : a ≤ x.toInt ∧ x.toInt ≤ b) (ha : 0 ≤ a) (hk : q.toBitVec.toNat % 32 = k) (h0 : 0 < k) (hP : P = ((2 ^ k : Nat) : Int)) (hPp : 0 < P) (h : lo ≤ a / P ∧ b / P ≤ hi) : ((x.toUInt32 >>> (q &&& 31).toUInt32).toInt32).toInt = x.toInt / P ∧ lo ≤ ((x.toUInt32 >>> (q &&& 31).toUInt32).toInt32).toInt ∧ ((x.toUInt32 >>> (q &&& 31).toUInt32).toInt32).toInt ≤ hi := by
  have e := own_iushr x q k P hk h0 hP; have := rng32 x; rw [Int.emod_eq_of_lt (by omega) (by omega)] at e; have h1 := Int.ediv_le_ediv hPp hx.1; have h2 := Int.ediv_le_ediv hPp hx.2; omega
-- OWN KIT 1 (mine): an array by a function of its places
def own_Arf (Z : State) (h : Heap) (a : Addr) (ty : FieldType) (n : Nat) (f : Nat → Value) : Prop := ∃ c : Cell, Arr Z h a c ty ∧ c.slots.size = n ∧ n < 2 ^ 31 ∧ ∀ j, j < n → c.slots[j]? = some (f j)
section OwnArf
variable {Z : State} {h h' : Heap} {a b : Addr} {ty : FieldType} {n : Nat} {f f' : Nat → Value} {sl : Nat} {v : Value} {ws : List Addr}
theorem own_Arf.lt (F : own_Arf Z h a ty n f) : a < h.size := by obtain ⟨c, A, -⟩ := F; exact A.lt
theorem own_Arf.ext (F : own_Arf Z h a ty n f) (E : Ext h h') : own_Arf Z h' a ty n f := by obtain ⟨c, A, r⟩ := F; exact ⟨c, A.ext E, r⟩
theorem own_Arf.other (F : own_Arf Z h b ty n f) (W : Wr h h' a sl v) (q : b ≠ a) : own_Arf Z h' b ty n f := by obtain ⟨c, A, r⟩ := F; exact ⟨c, A.other W q, r⟩
theorem own_Arf.keep (F : own_Arf Z h a ty n f) (K : Keep h h' ws) (q : a ∉ ws) : own_Arf Z h' a ty n f := by obtain ⟨c, A, r⟩ := F; exact ⟨c, ⟨K.2.1 a c A.1 q, A.2⟩, r⟩
theorem own_Arf.cong (F : own_Arf Z h a ty n f) (q : ∀ j, j < n → f j = f' j) : own_Arf Z h a ty n f' := by obtain ⟨c, A, r1, r2, r3⟩ := F; exact ⟨c, A, r1, r2, fun j hj => (q j hj) ▸ r3 j hj⟩
theorem own_Arf.new {k : ClassId} {z : Int32} (A : Arr Z h a (newA k ty z) ty) (q : ¬ z < 0) : own_Arf Z h a ty z.toNatClampNeg (fun _ => defaultValue ty) :=
  ⟨_, A, sz_new _ _ _, (back32 q).2, fun j hj => by simp [newA, hj]⟩
theorem own_inb {j : Int32} {n : Nat} (h1 : 0 ≤ j.toInt) (h2 : j.toInt < n) : ¬ (j < 0 ∨ n ≤ j.toNatClampNeg) := by
  have q : j.toNatClampNeg = j.toInt.toNat := rfl
  rintro (p | p)
  · have := Int32.lt_iff_toInt_lt.mp p; rw [show (0 : Int32).toInt = 0 from rfl] at this; omega
  · rw [q] at p; omega
theorem own_set {c : Cell} {k : Nat} (A : Arr Z h a c ty) (S : c.slots.size = n) (hn : n < 2 ^ 31) (H : ∀ j, j < n → c.slots[j]? = some (f j)) (W : Wr h h' a k v) (hk : k < n) : own_Arf Z h' a ty n (fun i => if i = k then v else f i) := by
  refine ⟨_, A.same W, by rw [sz_set]; exact S, hn, fun j hj => ?_⟩
  by_cases q : j = k
  · subst q; simp [Cell.setSlot, S, hj]
  · show _ = some (if j = k then v else f j)
    rw [if_neg q, ← H j hj]; exact Array.getElem?_setIfInBounds_ne (Ne.symm q)
variable {p : Program} {l : Launch} {e : Env} {R : Room} {s : State} {m : MethodId} {args : Array Value} {below : List Frame} {meth : Method} {c : Code} {T : State} {locs : List Loc} {cells slots : Nat}
theorem own_ld {A : Prop} {j : Int32} (F : own_Arf Z h a ty n f) (h1 : 0 ≤ j.toInt) (h2 : j.toInt < n) (k : ∀ c : Cell, Arr Z h a c ty → ¬ (j < 0 ∨ c.slots.size ≤ j.toNatClampNeg) → c.slots[j.toNatClampNeg]? = some (f j.toNatClampNeg) → A) : A := by
  obtain ⟨c, Ar, S, hn, H⟩ := F
  exact k c Ar (by rw [S]; exact own_inb h1 h2) (H _ (by have q : j.toNatClampNeg = j.toInt.toNat := rfl; omega))
theorem own_iaload (X : Stand p l e R s m args below meth c T locs cells slots) (hx : p.tables.exec = Jvm.exec) (hZ : Z.Warmed39 s.vm) (eT : T.heap = h) {j : Int32} (F : own_Arf Z h a .int n f) (h1 : 0 ≤ j.toInt) (h2 : j.toInt < n) {w : Value} (hv : f j.toNatClampNeg = w) {g : JFrame} (hg : g.method = m) {rest : List Value} (hs : g.stack = .int j :: .ref a :: rest) (hd : decode c.code g.pc = .ok (.iaload, 1)) :
    ∀ target, Steps p.tables e below (T.setTop { g with pc := g.pc + 1, stack := w :: rest }) target → Steps p.tables e below (T.setTop g) target := by
  subst hv
  exact own_ld F h1 h2 fun cl Ar hin hat => X.iaload hx (j := j) (by rw [eT]; exact Ar.1) (State.isArrayOf_alike hZ.alike Ar.2.1) Ar.2.2 hin hat hg hs hd
theorem own_baloadB (X : Stand p l e R s m args below meth c T locs cells slots) (hx : p.tables.exec = Jvm.exec) (hZ : Z.Warmed39 s.vm) (eT : T.heap = h) {j : Int32} (F : own_Arf Z h a .byte n f) (h1 : 0 ≤ j.toInt) (h2 : j.toInt < n) {w : Value} (hv : f j.toNatClampNeg = w) {g : JFrame} (hg : g.method = m) {rest : List Value} (hs : g.stack = .int j :: .ref a :: rest) (hd : decode c.code g.pc = .ok (.baload, 1)) :
    ∀ target, Steps p.tables e below (T.setTop { g with pc := g.pc + 1, stack := w :: rest }) target → Steps p.tables e below (T.setTop g) target := by
  subst hv
  exact own_ld F h1 h2 fun cl Ar hin hat => X.baloadBytes hx (j := j) (by rw [eT]; exact Ar.1) (State.isArrayOf_alike hZ.alike Ar.2.1) Ar.2.2 hin hat hg hs hd
theorem own_baloadZ (X : Stand p l e R s m args below meth c T locs cells slots) (hx : p.tables.exec = Jvm.exec) (hZ : Z.Warmed39 s.vm) (eT : T.heap = h) {j : Int32} (F : own_Arf Z h a .boolean n f) (h1 : 0 ≤ j.toInt) (h2 : j.toInt < n) {w : Value} (hv : f j.toNatClampNeg = w) {g : JFrame} (hg : g.method = m) {rest : List Value} (hs : g.stack = .int j :: .ref a :: rest) (hd : decode c.code g.pc = .ok (.baload, 1)) :
    ∀ target, Steps p.tables e below (T.setTop { g with pc := g.pc + 1, stack := w :: rest }) target → Steps p.tables e below (T.setTop g) target := by
  subst hv
  exact own_ld F h1 h2 fun cl Ar hin hat => X.baloadBooleans hx (j := j) (by rw [eT]; exact Ar.1) (State.isArrayOf_alike hZ.alike Ar.2.1) Ar.2.2 hin hat hg hs hd
theorem own_len32 {c : Cell} {n : Nat} (S : c.slots.size = n) {z : Int32} (hz : z = Int32.ofNat n) : c.slots.size.toInt32 = z := by rw [S, hz]
theorem own_alen (X : Stand p l e R s m args below meth c T locs cells slots) (hx : p.tables.exec = Jvm.exec) (hZ : Z.Warmed39 s.vm) (eT : T.heap = h) (F : own_Arf Z h a ty n f) (z : Int32) (hz : z = Int32.ofNat n) {g : JFrame} (hg : g.method = m) {rest : List Value} (hs : g.stack = .ref a :: rest) (hd : decode c.code g.pc = .ok (.arraylength, 1)) :
    ∀ target, Steps p.tables e below (T.setTop { g with pc := g.pc + 1, stack := .int z :: rest }) target → Steps p.tables e below (T.setTop g) target := by
  obtain ⟨cl, Ar, S, hn, H⟩ := F
  intro t k
  refine X.arraylength hx (cell := cl) (by rw [eT]; exact Ar.1) (State.isArrayOf_alike hZ.alike Ar.2.1) hg hs hd t ?_
  rw [own_len32 S hz]; exact k
theorem own_stI (X : Stand p l e R s m args below meth c T locs cells slots) (hx : p.tables.exec = Jvm.exec) (hZ : Z.Warmed39 s.vm) (eT : T.heap = h) {j x : Int32} (F : own_Arf Z h a .int n f) (h1 : 0 ≤ j.toInt) (h2 : j.toInt < n) {g : JFrame} (hg : g.method = m) {rest : List Value} (hs : g.stack = .int x :: .int j :: .ref a :: rest) (hd : decode c.code g.pc = .ok (.iastore, 1)) :
    ∃ T' h', Stand p l e R s m args below meth c T' (locs ++ [⟨a, j.toNatClampNeg⟩]) cells slots ∧ T'.heap = h' ∧ Wr h h' a j.toNatClampNeg (.int x) ∧ own_Arf Z h' a .int n (fun i => if i = j.toNatClampNeg then .int x else f i) ∧ ∀ target, Steps p.tables e below (T'.setTop { g with pc := g.pc + 1, stack := rest }) target → Steps p.tables e below (T.setTop g) target := by
  obtain ⟨cl, Ar, S, hn, H⟩ := F
  have hin : ¬ (j < 0 ∨ cl.slots.size ≤ j.toNatClampNeg) := by rw [S]; exact own_inb h1 h2
  obtain ⟨T', h', X', e', W, st⟩ := stI X hx hZ eT Ar (j := j) hin hg hs hd
  exact ⟨T', h', X', e', W, own_set Ar S hn H W (by have q : j.toNatClampNeg = j.toInt.toNat := rfl; omega), st⟩
theorem own_stB (X : Stand p l e R s m args below meth c T locs cells slots) (hx : p.tables.exec = Jvm.exec) (hZ : Z.Warmed39 s.vm) (eT : T.heap = h) {j x : Int32} (F : own_Arf Z h a .byte n f) (h1 : 0 ≤ j.toInt) (h2 : j.toInt < n) {g : JFrame} (hg : g.method = m) {rest : List Value} (hs : g.stack = .int x :: .int j :: .ref a :: rest) (hd : decode c.code g.pc = .ok (.bastore, 1)) :
    ∃ T' h', Stand p l e R s m args below meth c T' (locs ++ [⟨a, j.toNatClampNeg⟩]) cells slots ∧ T'.heap = h' ∧ Wr h h' a j.toNatClampNeg (.int (nar .byte x)) ∧ own_Arf Z h' a .byte n (fun i => if i = j.toNatClampNeg then .int (nar .byte x) else f i) ∧ ∀ target, Steps p.tables e below (T'.setTop { g with pc := g.pc + 1, stack := rest }) target → Steps p.tables e below (T.setTop g) target := by
  obtain ⟨cl, Ar, S, hn, H⟩ := F
  have hin : ¬ (j < 0 ∨ cl.slots.size ≤ j.toNatClampNeg) := by rw [S]; exact own_inb h1 h2
  obtain ⟨T', h', X', e', W, st⟩ := stB X hx hZ eT Ar (j := j) hin hg hs hd
  exact ⟨T', h', X', e', W, own_set Ar S hn H W (by have q : j.toNatClampNeg = j.toInt.toNat := rfl; omega), st⟩
theorem own_stZ (X : Stand p l e R s m args below meth c T locs cells slots) (hx : p.tables.exec = Jvm.exec) (hZ : Z.Warmed39 s.vm) (eT : T.heap = h) {j x : Int32} (F : own_Arf Z h a .boolean n f) (h1 : 0 ≤ j.toInt) (h2 : j.toInt < n) {g : JFrame} (hg : g.method = m) {rest : List Value} (hs : g.stack = .int x :: .int j :: .ref a :: rest) (hd : decode c.code g.pc = .ok (.bastore, 1)) :
    ∃ T' h', Stand p l e R s m args below meth c T' (locs ++ [⟨a, j.toNatClampNeg⟩]) cells slots ∧ T'.heap = h' ∧ Wr h h' a j.toNatClampNeg (.int (nar .boolean x)) ∧ own_Arf Z h' a .boolean n (fun i => if i = j.toNatClampNeg then .int (nar .boolean x) else f i) ∧ ∀ target, Steps p.tables e below (T'.setTop { g with pc := g.pc + 1, stack := rest }) target → Steps p.tables e below (T.setTop g) target := by
  obtain ⟨cl, Ar, S, hn, H⟩ := F
  have hin : ¬ (j < 0 ∨ cl.slots.size ≤ j.toNatClampNeg) := by rw [S]; exact own_inb h1 h2
  obtain ⟨T', h', X', e', W, st⟩ := stZ X hx hZ eT Ar (j := j) hin hg hs hd
  exact ⟨T', h', X', e', W, own_set Ar S hn H W (by have q : j.toNatClampNeg = j.toInt.toNat := rfl; omega), st⟩
end OwnArf
theorem own_clamp {i : Int32} {k : Nat} (h : i.toInt = k) : i.toNatClampNeg = k := by show i.toInt.toNat = k; omega
theorem own_tabArf {s : State} {a : Addr} {cl : Cell} {ty : FieldType} {n : Nat} (hf : Fit s) (A : Arr s s.heap a cl ty) (ht : ty = .int ∨ ty = .boolean ∨ ty = .byte ∨ ty = .char ∨ ty = .short) (S : cl.slots.size = n) (hn : n < 2 ^ 31) : ∃ g : Nat → Int32, own_Arf s s.heap a ty n (fun i => .int (g i)) := by
  refine ⟨fun i => atv cl (Int32.ofNat i), cl, A, S, hn, fun j hj => ?_⟩
  have e1 : (Int32.ofNat j).toInt = j := Int32.toInt_ofNat_of_lt (by omega)
  have e2 : (Int32.ofNat j).toNatClampNeg = j := by show (Int32.ofNat j).toInt.toNat = j; omega
  have hin : ¬ (Int32.ofNat j < 0 ∨ cl.slots.size ≤ (Int32.ofNat j).toNatClampNeg) := by rw [S]; exact own_inb (by omega) (by omega)
  obtain ⟨v, h1, h2⟩ := elem_fit hf A hin
  obtain ⟨x, rfl⟩ := fit_I h2 ht
  show cl.slots[j]? = some (.int (atv cl (Int32.ofNat j)))
  rw [atv_of h1, ← e2]; exact h1
theorem own_lenOf {args : Array Value} {s : State} {t : Term} {a : Addr} {cl : Cell} {ty : FieldType} {k : Int32} (ev : t.eval args s none [] s = some (.ref a)) (A : Arr s s.heap a cl ty) (h : (Cond.eq (.length t) (.int k)).value args s none s [] = some true) (hk : 0 ≤ k.toInt) : cl.slots.size = k.toInt.toNat ∧ cl.slots.size < 2 ^ 31 := by
  have ha := A.fin (Vm.Alike.refl _)
  by_cases q : cl.slots.size < 2 ^ 31
  · have e1 : (Term.length t).eval args s none [] s = some (.int cl.slots.size.toInt32) := len_f ev ha q
    have e2 : cl.slots.size.toInt32 = k := by
      have hh := h
      simp only [Cond.value] at hh
      rw [e1] at hh
      simpa [Term.eval] using hh
    have e3 := len_toInt q
    rw [e2] at e3
    exact ⟨by omega, q⟩
  · exfalso
    have e1 : (Term.length t).eval args s none [] s = none := by simp [Term.eval, ev, ha, q]
    simp [Cond.value, e1] at h
theorem own_nameI {Z : State} {h : Heap} {a : Addr} {ty : FieldType} {n k : Nat} {g : Nat → Int32} {x : Int32} (V : own_Arf Z h a ty n (fun i => if i = k then .int x else .int (g i))) : ∃ g' : Nat → Int32, (∀ i, g' i = if i = k then x else g i) ∧ own_Arf Z h a ty n (fun i => .int (g' i)) :=
  ⟨fun i => if i = k then x else g i, fun _ => rfl, V.cong (fun i _ => by by_cases q : i = k <;> simp [q])⟩
theorem own_nameD {Z : State} {h : Heap} {a : Addr} {ty : FieldType} {n k : Nat} {g : Nat → UInt64} {x : UInt64} (V : own_Arf Z h a ty n (fun i => if i = k then .double x else .double (g i))) : ∃ g' : Nat → UInt64, (∀ i, g' i = if i = k then x else g i) ∧ own_Arf Z h a ty n (fun i => .double (g' i)) :=
  ⟨fun i => if i = k then x else g i, fun _ => rfl, V.cong (fun i _ => by by_cases q : i = k <;> simp [q])⟩
theorem own_natOf {i : Int32} {lo hi : Int} (h1 : 0 ≤ i.toInt) : ∃ k : Nat, i.toInt = k := ⟨i.toInt.toNat, by omega⟩
theorem own_tn {i : Int32} {k : Nat} (h : i.toInt = k) : i.toBitVec.toNat = k := by
  have h1 : i.toBitVec.toInt = k := h
  have h2 := BitVec.toInt_eq_toNat_cond i.toBitVec
  have h3 := i.toBitVec.isLt
  rw [h1] at h2
  split at h2 <;> omega
-- OWN KIT 2 (mine): Java's >>> on longs as a shift of bits
def own_sh (x : Int64) (k : Int32) : Int64 := (x.toUInt64 >>> (k &&& 0x3f).toInt64.toUInt64).toInt64
theorem own_sh_bv (x : Int64) (k : Int32) (n : Nat) (hk : k.toBitVec.toNat % 64 = n) : (own_sh x k).toBitVec = x.toBitVec >>> n := by
  obtain ⟨q1, q2⟩ := sm64 k n hk
  show (x.toBitVec >>> ((k &&& 0x3f).toInt64.toBitVec % 64)) = _
  rw [q1]
  show x.toBitVec >>> (BitVec.ofNat 64 n % 64).toNat = _
  rw [BitVec.toNat_umod, BitVec.toNat_ofNat]
  congr 1
  show n % 2 ^ 64 % 64 = n
  omega
def own_sl (x : Int64) (k : Int32) : Int64 := x <<< (k &&& 0x3f).toInt64
theorem own_sl_bv (x : Int64) (k : Int32) (n : Nat) (hk : k.toBitVec.toNat % 64 = n) : (own_sl x k).toBitVec = x.toBitVec <<< n := by
  obtain ⟨q1, q2⟩ := sm64 k n hk
  show (x.toBitVec <<< ((k &&& 0x3f).toInt64.toBitVec.smod 64)) = _
  rw [q1]
  show x.toBitVec <<< ((BitVec.ofNat 64 n).smod 64).toNat = _
  rw [smod64 n q2]
theorem own_b255 (i : Nat) : (255#64).getLsbD i = decide (i < 8) := by
  by_cases h : i < 64
  · have : ∀ j : Fin 64, (255#64).getLsbD j.1 = decide (j.1 < 8) := by decide +kernel
    exact this ⟨i, h⟩
  · rw [BitVec.getLsbD_of_ge _ _ (by omega), decide_eq_false (by omega)]
theorem own_shift (r v b : Int64) (k : Nat) (hk : k < 8) (hr : r.toBitVec = v.toBitVec >>> (64 - 8 * k)) (hb : b.toBitVec = (v.toBitVec >>> (56 - 8 * k)) &&& 255#64) :
    ((r <<< ((8 : Int32) &&& 0x3f).toInt64) ||| b).toBitVec = v.toBitVec >>> (64 - 8 * (k + 1)) := by
  rw [Int64.toBitVec_or, show (r <<< ((8 : Int32) &&& 0x3f).toInt64).toBitVec = r.toBitVec <<< 8 from own_sl_bv r 8 8 (by decide), hr, hb]
  apply BitVec.eq_of_getLsbD_eq
  intro i hi
  simp only [BitVec.getLsbD_and, BitVec.getLsbD_or, BitVec.getLsbD_ushiftRight, BitVec.getLsbD_shiftLeft, own_b255]
  rw [show 64 - 8 * (k + 1) + i = 56 - 8 * k + i by omega]
  by_cases h : i < 8
  · simp [h]
  · rw [show 64 - 8 * k + (i - 8) = 56 - 8 * k + i by omega]
    simp [h, hi]
theorem own_byte (x : Int64) : (((nar .byte (x.toInt32.toInt8.toInt32)) &&& (255 : Int32)).toInt64).toBitVec = x.toBitVec &&& 255#64 := by
  show _ = (x &&& (255 : Int64)).toBitVec
  congr 1
  apply Int64.toInt_inj.mp
  have h1 := own_maskL x 255 8 256 (by decide) (by decide) (by decide)
  have h2 := own_mask (nar .byte (x.toInt32.toInt8.toInt32)) 255 8 256 (by decide) (by decide) (by decide)
  have h3 := c_i2l (nar .byte (x.toInt32.toInt8.toInt32) &&& (255 : Int32))
  have h4 : (nar .byte (x.toInt32.toInt8.toInt32)) = (x.toInt32.toInt8.toInt32).toInt8.toInt32 := rfl
  have h5 := c_i2b (x.toInt32.toInt8.toInt32)
  have h6 := c_i2b x.toInt32
  have h7 := c_l2i x
  rw [← h4] at h5
  omega
theorem own_byteS (v : Int64) (q : Int32) (n : Nat) (hq : q.toBitVec.toNat % 64 = n) : (((nar .byte (((v.toUInt64 >>> (q &&& 0x3f).toInt64.toUInt64).toInt64).toInt32.toInt8.toInt32)) &&& (255 : Int32)).toInt64).toBitVec = (v.toBitVec >>> n) &&& 255#64 := by
  rw [own_byte, ← own_sh_bv v q n hq]; rfl
theorem own_final (v r : Int64) (len : Int32) (Ln : Nat) (hL : len.toInt = Ln) (h8 : Ln ≤ 8) (h0 : ¬ len = 0) (hr : r.toBitVec = v.toBitVec >>> (64 - 8 * Ln)) : r = ((v.toUInt64 >>> (((64 : Int32) - (8 : Int32) * len) &&& 0x3f).toInt64.toUInt64).toInt64) := by
  apply Int64.toBitVec_inj.mp
  have h1 : Ln ≠ 0 := fun q => h0 (Int32.toInt_inj.mp (by rw [hL, q]; rfl))
  have h2 : ((64 : Int32) - (8 : Int32) * len).toInt = ((64 - 8 * Ln : Nat) : Int) := by
    have := c_isub 64 (8 * len); have := own_imulc' 8 len 8 (by decide); have := rng32 ((64 : Int32) - (8 : Int32) * len); have := rng32 ((8 : Int32) * len); have : (64 : Int32).toInt = 64 := by decide
    omega
  have h3 := own_tn h2
  have h4 := own_sh_bv v ((64 : Int32) - (8 : Int32) * len) (64 - 8 * Ln) (by rw [h3]; omega)
  rw [hr, ← h4]; rfl
theorem own_final0 (v r : Int64) (hr : r.toBitVec = v.toBitVec >>> (64 - 8 * 0)) : r = 0 := by
  apply Int64.toBitVec_inj.mp
  rw [hr]
  apply BitVec.eq_of_getLsbD_eq
  intro i hi
  rw [BitVec.getLsbD_ushiftRight, BitVec.getLsbD_of_ge _ _ (by omega)]
  exact (BitVec.getLsbD_zero).symm
theorem pn_0 : plainName "com/example/garlicwire/garlicwire/data/DataReader" = true := by first | (simp [plainName, overriddenIn]; done) | decide +kernel
theorem d1_0 : decode prog_17_method_5_code 0 = .ok (.lconst 0, 1) := by decide +kernel
theorem d1_1 : decode prog_17_method_5_code 1 = .ok (.lstore_n 3, 1) := by decide +kernel
theorem d1_2 : decode prog_17_method_5_code 2 = .ok (.iload_n 1, 1) := by decide +kernel
theorem d1_3 : decode prog_17_method_5_code 3 = .ok (.istore 5, 2) := by decide +kernel
theorem d1_5 : decode prog_17_method_5_code 5 = .ok (.iload 5, 2) := by decide +kernel
theorem d1_7 : decode prog_17_method_5_code 7 = .ok (.iload_n 1, 1) := by decide +kernel
theorem d1_8 : decode prog_17_method_5_code 8 = .ok (.iload_n 2, 1) := by decide +kernel
theorem d1_9 : decode prog_17_method_5_code 9 = .ok (.iadd, 1) := by decide +kernel
theorem d1_10 : decode prog_17_method_5_code 10 = .ok (.if_icmp .ge 24, 3) := by decide +kernel
theorem d1_13 : decode prog_17_method_5_code 13 = .ok (.lload_n 3, 1) := by decide +kernel
theorem d1_14 : decode prog_17_method_5_code 14 = .ok (.bipush 8, 2) := by decide +kernel
theorem d1_16 : decode prog_17_method_5_code 16 = .ok (.lshl, 1) := by decide +kernel
theorem d1_17 : decode prog_17_method_5_code 17 = .ok (.aload_n 0, 1) := by decide +kernel
theorem d1_18 : decode prog_17_method_5_code 18 = .ok (.iload 5, 2) := by decide +kernel
theorem d1_20 : decode prog_17_method_5_code 20 = .ok (.baload, 1) := by decide +kernel
theorem d1_21 : decode prog_17_method_5_code 21 = .ok (.sipush 255, 3) := by decide +kernel
theorem d1_24 : decode prog_17_method_5_code 24 = .ok (.iand, 1) := by decide +kernel
theorem d1_25 : decode prog_17_method_5_code 25 = .ok (.i2l, 1) := by decide +kernel
theorem d1_26 : decode prog_17_method_5_code 26 = .ok (.lor, 1) := by decide +kernel
theorem d1_27 : decode prog_17_method_5_code 27 = .ok (.lstore_n 3, 1) := by decide +kernel
theorem d1_28 : decode prog_17_method_5_code 28 = .ok (.iinc 5 1, 3) := by decide +kernel
theorem d1_31 : decode prog_17_method_5_code 31 = .ok (.goto (-26), 3) := by decide +kernel
theorem d1_34 : decode prog_17_method_5_code 34 = .ok (.lload_n 3, 1) := by decide +kernel
theorem d1_35 : decode prog_17_method_5_code 35 = .ok (.lreturn, 1) := by decide +kernel
theorem ef_1 (m : MethodId) (x0 : Addr) (x1 : Int32) (x2 : Int32) : entryFrame m #[(.ref x0), (.int x1), (.int x2)] 6 = mkF m 0 #[.val (.ref x0), .val (.int x1), .val (.int x2), .unset, .unset, .unset] [] := by first | (simp [entryFrame, mkF, argsToLocals, Value.category]; done) | rfl
def Q1 (Z : State) (a0 : Addr) (p1 : Int32) (p2 : Int32) (n : Nat) (g : Nat → Int32) (A : Nat) (Ln : Nat) (vv : Int64) (h0 : Heap) (n0 : Nat) (v : Option Value) (h : Heap) (L : List Loc) : Prop := ∃ (rr : Int64), v = some (.long rr) ∧ Fr n0 L ∧ h = h0 ∧ rr.toBitVec = vv.toBitVec >>> (64 - 8 * Ln)
set_option maxRecDepth 65536 in
set_option maxHeartbeats 40000000 in
theorem rm1 (l : Launch) (Z : State) (a0 : Array Value) (hw : ∀ d ∈ tables_1, d.before a0 Z = true) (ws : List Jvm.Cond) (a0 : Addr) (p1 : Int32) (p2 : Int32) (n : Nat) (g : Nat → Int32) (A : Nat) (Ln : Nat) (vv : Int64) (h0 : Heap) (n0 : Nat) (Z0 : n0 ≤ h0.size) (A1 : own_Arf Z h0 a0 .byte n (fun i => (.int (g i)))) (hA : p1.toInt = A) (hL : p2.toInt = Ln) (hn : A + Ln ≤ n ∧ n ≤ 100) (hL8 : Ln ≤ 8) (hgv : ∀ k, k < Ln → (((g (A + k)) &&& (255 : Int32)).toInt64).toBitVec = (vv.toBitVec >>> (56 - 8 * k)) &&& 255#64) :
    MetFree l (⟨"com/example/garlicwire/garlicwire/data/DataReader", "integer", "([BII)J"⟩ : MethodName) (head1 (Jvm.Cond.code (⟨"com/example/garlicwire/garlicwire/data/DataReader", "integer", "([BII)J"⟩ : MethodName) prog_17_method_5_code 6 (some .long) :: ws) ({ frames := 0, cells := 0, slots := 0, locals := 0 } : Room)) (fun a U => a = #[(.ref a0), (.int p1), (.int p2)] ∧ Z.Warmed39 U.vm ∧ U.heap = h0) (fun _ _ _ _ _ => True) (fun _ U o U' => ∃ v L, o = .returned v ∧ Q1 Z a0 p1 p2 n g A Ln vv h0 n0 v U'.heap L ∧ FrameEnd U o U' L ({ frames := 0, cells := 0, slots := 0, locals := 0 } : Room).cells ({ frames := 0, cells := 0, slots := 0, locals := 0 } : Room).slots) := by
  refine MetFree.of_bodySF (plainFor_of_name pn_0) hisR ?_
  intro p e s m args below meth c s₁ Bd hml0 hP hK
  obtain ⟨rfl, hZ, hh⟩ := hP
  have hx := Bd.exec
  have hby := Bd.bytes
  have hml : c.maxLocals = 6 := hml0
  have hown : s.vm.findClass "com/example/garlicwire/garlicwire/data/DataReader" = some m.cls := findClass_of_methodNamed Bd.named
  have hnm := (name_of_methodNamed Bd.named Bd.method).1
  have hlk : meth.locks = false := BodyLoose.notSynchronized Bd
  have X0 : Stand p l e ({ frames := 0, cells := 0, slots := 0, locals := 0 } : Room) s m #[(.ref a0), (.int p1), (.int p2)] below meth c s₁ [] 0 0 := Stand.of_body Bd
  have e0 : s₁.heap = h0 := by rw [← hh, Bd.state]; rfl
  have N0 := Fr.nil n0
  have K0 : Keep h0 h0 [] := Keep.refl h0 _
  have key : ∀ (F0 : State) (G : Prop), (own_G p e below s F0 (Q1 Z a0 p1 p2 n g A Ln vv h0 n0) ({ frames := 0, cells := 0, slots := 0, locals := 0 } : Room).cells ({ frames := 0, cells := 0, slots := 0, locals := 0 } : Room).slots → G) → own_R p.tables e below F0 (s₁.setTop (mkF m 0 #[.val (.ref a0), .val (.int p1), .val (.int p2), .unset, .unset, .unset] [])) → G := by
    intro F0 G hG r0
    have r1 : own_R p.tables e below F0 (s₁.setTop (mkF m 5 #[.val (.ref a0), .val (.int p1), .val (.int p2), .val (.long (0 : Int64)), .second, .val (.int p1)] [])) := fun tg_ kg_ => by
      refine r0 tg_ ?_
      show Steps p.tables e below (s₁.setTop (mkF m 0 #[.val (.ref a0), .val (.int p1), .val (.int p2), .unset, .unset, .unset] [])) _
      refine XS.lconst X0.here hx rfl (hb hby d1_0) ?_
      show Steps p.tables e below (s₁.setTop (mkF m 1 #[.val (.ref a0), .val (.int p1), .val (.int p2), .unset, .unset, .unset] [(.long (0 : Int64))])) _
      refine XS.lstoreN X0.here hx rfl (hb hby d1_1) rfl (l' := #[.val (.ref a0), .val (.int p1), .val (.int p2), .val (.long (0 : Int64)), .second, .unset]) rfl ?_
      show Steps p.tables e below (s₁.setTop (mkF m 2 #[.val (.ref a0), .val (.int p1), .val (.int p2), .val (.long (0 : Int64)), .second, .unset] [])) _
      refine XS.iloadN X0.here hx rfl (hb hby d1_2) rfl ?_
      show Steps p.tables e below (s₁.setTop (mkF m 3 #[.val (.ref a0), .val (.int p1), .val (.int p2), .val (.long (0 : Int64)), .second, .unset] [(.int p1)])) _
      refine XS.istore X0.here hx rfl (hb hby d1_3) rfl (l' := #[.val (.ref a0), .val (.int p1), .val (.int p2), .val (.long (0 : Int64)), .second, .val (.int p1)]) rfl ?_
      exact kg_
    have J2 : ∀ (k5 : Nat) (r : Int64) (i : Int32) (k : Nat) (hi : i.toInt = ((A + k : Nat) : Int)) (hk : k ≤ Ln) (hr : r.toBitVec = vv.toBitVec >>> (64 - 8 * k)) (_ : Ln - k = k5) (r3 : own_R p.tables e below F0 (s₁.setTop (mkF m 5 #[.val (.ref a0), .val (.int p1), .val (.int p2), .val (.long r), .second, .val (.int i)] []))), G := by
      intro k5
      induction k5 using Nat.strongRecOn with
      | ind k5 ih4 =>
        intro r i k hi hk hr hm6 r3
        have r7 : own_R p.tables e below F0 (s₁.setTop (mkF m 10 #[.val (.ref a0), .val (.int p1), .val (.int p2), .val (.long r), .second, .val (.int i)] [(.int (p1 + p2)), (.int i)])) := fun tg_ kg_ => by
          refine r3 tg_ ?_
          show Steps p.tables e below (s₁.setTop (mkF m 5 #[.val (.ref a0), .val (.int p1), .val (.int p2), .val (.long r), .second, .val (.int i)] [])) _
          refine XS.iload X0.here hx rfl (hb hby d1_5) rfl ?_
          show Steps p.tables e below (s₁.setTop (mkF m 7 #[.val (.ref a0), .val (.int p1), .val (.int p2), .val (.long r), .second, .val (.int i)] [(.int i)])) _
          refine XS.iloadN X0.here hx rfl (hb hby d1_7) rfl ?_
          show Steps p.tables e below (s₁.setTop (mkF m 8 #[.val (.ref a0), .val (.int p1), .val (.int p2), .val (.long r), .second, .val (.int i)] [(.int p1), (.int i)])) _
          refine XS.iloadN X0.here hx rfl (hb hby d1_8) rfl ?_
          show Steps p.tables e below (s₁.setTop (mkF m 9 #[.val (.ref a0), .val (.int p1), .val (.int p2), .val (.long r), .second, .val (.int i)] [(.int p2), (.int p1), (.int i)])) _
          refine XS.iadd X0.here hx rfl (hb hby d1_9) rfl ?_
          exact kg_
        by_cases hc8 : i < (p1 + p2)
        · have r9 : own_R p.tables e below F0 (s₁.setTop (mkF m 5 #[.val (.ref a0), .val (.int p1), .val (.int p2), .val (.long ((r <<< ((8 : Int32) &&& 0x3f).toInt64) ||| (((g (A + k)) &&& (255 : Int32)).toInt64))), .second, .val (.int (i + (1 : Int32)))] [])) := fun tg_ kg_ => by
            refine r7 tg_ ?_
            show Steps p.tables e below (s₁.setTop (mkF m 10 #[.val (.ref a0), .val (.int p1), .val (.int p2), .val (.long r), .second, .val (.int i)] [(.int (p1 + p2)), (.int i)])) _
            refine XS.icmpNo X0.here hx rfl (hb hby d1_10) rfl (tlt hc8).2.1 ?_
            show Steps p.tables e below (s₁.setTop (mkF m 13 #[.val (.ref a0), .val (.int p1), .val (.int p2), .val (.long r), .second, .val (.int i)] [])) _
            refine XS.lloadN X0.here hx rfl (hb hby d1_13) rfl ?_
            show Steps p.tables e below (s₁.setTop (mkF m 14 #[.val (.ref a0), .val (.int p1), .val (.int p2), .val (.long r), .second, .val (.int i)] [(.long r)])) _
            refine XS.bipush X0.here hx rfl (hb hby d1_14) ?_
            show Steps p.tables e below (s₁.setTop (mkF m 16 #[.val (.ref a0), .val (.int p1), .val (.int p2), .val (.long r), .second, .val (.int i)] [(.int (8 : Int32)), (.long r)])) _
            refine XS.lshl X0.here hx rfl (hb hby d1_16) rfl ?_
            show Steps p.tables e below (s₁.setTop (mkF m 17 #[.val (.ref a0), .val (.int p1), .val (.int p2), .val (.long r), .second, .val (.int i)] [(.long (r <<< ((8 : Int32) &&& 0x3f).toInt64))])) _
            refine XS.aloadN X0.here hx rfl (hb hby d1_17) rfl rfl ?_
            show Steps p.tables e below (s₁.setTop (mkF m 18 #[.val (.ref a0), .val (.int p1), .val (.int p2), .val (.long r), .second, .val (.int i)] [(.ref a0), (.long (r <<< ((8 : Int32) &&& 0x3f).toInt64))])) _
            refine XS.iload X0.here hx rfl (hb hby d1_18) rfl ?_
            show Steps p.tables e below (s₁.setTop (mkF m 20 #[.val (.ref a0), .val (.int p1), .val (.int p2), .val (.long r), .second, .val (.int i)] [(.int i), (.ref a0), (.long (r <<< ((8 : Int32) &&& 0x3f).toInt64))])) _
            refine own_baloadB X0 hx hZ e0 (j := i) A1 (by
                        have q28_r := own_R32 i
                        have q29_r := own_R32 p1
                        have q30_r := own_R32 p2
                        have q31_r := own_R32 (p1 + p2)
                        have q32_ := c_iadd p1 p2
                        have q33_c := own_lt32 hc8
                        omega) (by
                        have q34_r := own_R32 i
                        have q35_r := own_R32 p1
                        have q36_r := own_R32 p2
                        have q37_r := own_R32 (p1 + p2)
                        have q38_ := c_iadd p1 p2
                        have q39_c := own_lt32 hc8
                        omega) (w := (.int (g (A + k)))) (congrArg (fun j => Value.int (g j)) (own_clamp hi)) (g := (mkF m 20 #[.val (.ref a0), .val (.int p1), .val (.int p2), .val (.long r), .second, .val (.int i)] [(.int i), (.ref a0), (.long (r <<< ((8 : Int32) &&& 0x3f).toInt64))])) rfl rfl (hb hby d1_20) _ ?_
            show Steps p.tables e below (s₁.setTop (mkF m 21 #[.val (.ref a0), .val (.int p1), .val (.int p2), .val (.long r), .second, .val (.int i)] [(.int (g (A + k))), (.long (r <<< ((8 : Int32) &&& 0x3f).toInt64))])) _
            refine XS.sipush X0.here hx rfl (hb hby d1_21) ?_
            show Steps p.tables e below (s₁.setTop (mkF m 24 #[.val (.ref a0), .val (.int p1), .val (.int p2), .val (.long r), .second, .val (.int i)] [(.int (255 : Int32)), (.int (g (A + k))), (.long (r <<< ((8 : Int32) &&& 0x3f).toInt64))])) _
            refine XS.iand X0.here hx rfl (hb hby d1_24) rfl ?_
            show Steps p.tables e below (s₁.setTop (mkF m 25 #[.val (.ref a0), .val (.int p1), .val (.int p2), .val (.long r), .second, .val (.int i)] [(.int ((g (A + k)) &&& (255 : Int32))), (.long (r <<< ((8 : Int32) &&& 0x3f).toInt64))])) _
            refine XS.i2l X0.here hx rfl (hb hby d1_25) rfl ?_
            show Steps p.tables e below (s₁.setTop (mkF m 26 #[.val (.ref a0), .val (.int p1), .val (.int p2), .val (.long r), .second, .val (.int i)] [(.long (((g (A + k)) &&& (255 : Int32)).toInt64)), (.long (r <<< ((8 : Int32) &&& 0x3f).toInt64))])) _
            refine XS.lor X0.here hx rfl (hb hby d1_26) rfl ?_
            show Steps p.tables e below (s₁.setTop (mkF m 27 #[.val (.ref a0), .val (.int p1), .val (.int p2), .val (.long r), .second, .val (.int i)] [(.long ((r <<< ((8 : Int32) &&& 0x3f).toInt64) ||| (((g (A + k)) &&& (255 : Int32)).toInt64)))])) _
            refine XS.lstoreN X0.here hx rfl (hb hby d1_27) rfl (l' := #[.val (.ref a0), .val (.int p1), .val (.int p2), .val (.long ((r <<< ((8 : Int32) &&& 0x3f).toInt64) ||| (((g (A + k)) &&& (255 : Int32)).toInt64))), .second, .val (.int i)]) rfl ?_
            show Steps p.tables e below (s₁.setTop (mkF m 28 #[.val (.ref a0), .val (.int p1), .val (.int p2), .val (.long ((r <<< ((8 : Int32) &&& 0x3f).toInt64) ||| (((g (A + k)) &&& (255 : Int32)).toInt64))), .second, .val (.int i)] [])) _
            refine XS.iinc X0.here hx rfl (hb hby d1_28) rfl (l' := #[.val (.ref a0), .val (.int p1), .val (.int p2), .val (.long ((r <<< ((8 : Int32) &&& 0x3f).toInt64) ||| (((g (A + k)) &&& (255 : Int32)).toInt64))), .second, .val (.int (i + (1 : Int32)))]) rfl ?_
            show Steps p.tables e below (s₁.setTop (mkF m 31 #[.val (.ref a0), .val (.int p1), .val (.int p2), .val (.long ((r <<< ((8 : Int32) &&& 0x3f).toInt64) ||| (((g (A + k)) &&& (255 : Int32)).toInt64))), .second, .val (.int (i + (1 : Int32)))] [])) _
            refine XS.goto X0.here hx rfl (pc0 := 31) (pc' := 5) rfl (hb hby d1_31) (by decide) (by decide) ?_
            exact kg_
          have q40_r := own_R32 i
          have q41_r := own_R32 p1
          have q42_r := own_R32 p2
          have q43_r := own_R32 (p1 + p2)
          have q44_ := c_iadd p1 p2
          have q45_e : (1 : Int32).toInt = 1 := (by decide)
          have q45_r : (1 : Int) ≤ (1 : Int32).toInt ∧ (1 : Int32).toInt ≤ 1 := ⟨Int.le_of_eq q45_e.symm, Int.le_of_eq q45_e⟩
          have q46_r := own_R32 (i + (1 : Int32))
          have q47_ := c_iadd i (1 : Int32)
          have q48_c := own_lt32 hc8
          exact ih4 _ (by omega) ((r <<< ((8 : Int32) &&& 0x3f).toInt64) ||| (((g (A + k)) &&& (255 : Int32)).toInt64)) (i + (1 : Int32)) (k + 1) (by omega) (by omega) (own_shift r vv _ k (by omega) hr (hgv k (by omega))) rfl r9
        · have r10 : own_R p.tables e below F0 (s₁.setTop (mkF m 35 #[.val (.ref a0), .val (.int p1), .val (.int p2), .val (.long r), .second, .val (.int i)] [(.long r)])) := fun tg_ kg_ => by
            refine r7 tg_ ?_
            show Steps p.tables e below (s₁.setTop (mkF m 10 #[.val (.ref a0), .val (.int p1), .val (.int p2), .val (.long r), .second, .val (.int i)] [(.int (p1 + p2)), (.int i)])) _
            refine XS.icmpYes X0.here hx rfl (pc0 := 10) (pc' := 34) rfl (hb hby d1_10) rfl (flt hc8).2.1 (by decide) (by decide) ?_
            show Steps p.tables e below (s₁.setTop (mkF m 34 #[.val (.ref a0), .val (.int p1), .val (.int p2), .val (.long r), .second, .val (.int i)] [])) _
            refine XS.lloadN X0.here hx rfl (hb hby d1_34) rfl ?_
            exact kg_
          refine hG (own_fin X0 hlk (some (.long r)) (own_hv Bd.returns) ?_ (by decide) (by decide) (fun fs hr => r10 _ (retOut X0 hx Bd.returns rfl (Or.inr (Or.inl ⟨rfl, rfl, _, rfl⟩)) (hb hby d1_35) hr)))
          rw [e0]
          refine ⟨r, ?_, N0, rfl, (by
              have q49_r := own_R32 i
              have q50_r := own_R32 p1
              have q51_r := own_R32 p2
              have q52_r := own_R32 (p1 + p2)
              have q53_ := c_iadd p1 p2
              have q54_c := own_nlt32 hc8
              have : k = Ln := by omega
              subst this; exact hr)⟩
          rfl
    exact J2 _ (0 : Int64) p1 0 (by omega) (Nat.zero_le _) (by
      apply BitVec.eq_of_getLsbD_eq
      intro i hi
      rw [BitVec.getLsbD_ushiftRight, BitVec.getLsbD_of_ge vv.toBitVec _ (by omega)]
      exact BitVec.getLsbD_zero) rfl r1
  exact key _ _ id (fun t k => castTop (ef_1 m a0 p1 p2) k)
theorem pn_1 : plainName "com/example/garlicwire/garlicwire/data/DataReaderIntegerPinLaw" = true := by first | (simp [plainName, overriddenIn]; done) | decide +kernel
theorem pd_0 : parseMethodDescriptor "([BII)J" = some ⟨[(.array .byte), .int, .int], some .long⟩ := by decide +kernel
theorem ef_0 (m : MethodId) (x0 : Int64) (x1 : Int64) (x2 : Int32) (x3 : Int32) : entryFrame m #[(.long x0), (.long x1), (.int x2), (.int x3)] maxLocals = mkF m 0 #[.val (.long x0), .second, .val (.long x1), .second, .val (.int x2), .val (.int x3), .unset, .unset, .unset, .unset, .unset] [] := by first | (simp [entryFrame, mkF, argsToLocals, Value.category, maxLocals]; done) | rfl
def Q0 (Z : State) (p0s : Int64) (p1s : Int64) (p2s : Int32) (p3s : Int32) (h0 : Heap) (n0 : Nat) (v : Option Value) (h : Heap) (L : List Loc) : Prop := v = some (.int (1 : Int32)) ∧ Fr n0 L
set_option maxRecDepth 65536 in
set_option maxHeartbeats 40000000 in
theorem rm0 (l : Launch) (Z : State) (a0 : Array Value) (hw : ∀ d ∈ tables_1, d.before a0 Z = true) (ws : List Jvm.Cond) (p0s : Int64) (p1s : Int64) (p2s : Int32) (p3s : Int32) (h0 : Heap) (n0 : Nat) (Z0 : n0 ≤ h0.size) :
    MetFree l x (head1 (Jvm.Cond.code x code maxLocals ret :: ws) room_1) (fun a U => a = #[(.long p0s), (.long p1s), (.int p2s), (.int p3s)] ∧ Z.Warmed39 U.vm ∧ U.heap = h0) (fun _ _ _ _ _ => True) (fun _ U o U' => ∃ v L, o = .returned v ∧ Q0 Z p0s p1s p2s p3s h0 n0 v U'.heap L ∧ FrameEnd U o U' L 16 128) := by
  refine MetFree.of_bodySF (plainFor_of_name pn_1) hisR ?_
  intro p e s m args below meth c s₁ Bd hml0 hP hK
  obtain ⟨rfl, hZ, hh⟩ := hP
  have hx := Bd.exec
  have hby := Bd.bytes
  have hml : c.maxLocals = 11 := hml0
  have hown : s.vm.findClass "com/example/garlicwire/garlicwire/data/DataReaderIntegerPinLaw" = some m.cls := findClass_of_methodNamed Bd.named
  have hnm := (name_of_methodNamed Bd.named Bd.method).1
  have hlk : meth.locks = false := BodyLoose.notSynchronized Bd
  have X0 : Stand p l e room_1 s m #[(.long p0s), (.long p1s), (.int p2s), (.int p3s)] below meth c s₁ [] 0 0 := Stand.of_body Bd
  have e0 : s₁.heap = h0 := by rw [← hh, Bd.state]; rfl
  have N0 := Fr.nil n0
  have K0 : Keep h0 h0 [] := Keep.refl h0 _
  have key : ∀ (F0 : State) (G : Prop), (own_G p e below s F0 (Q0 Z p0s p1s p2s p3s h0 n0) 16 128 → G) → own_R p.tables e below F0 (s₁.setTop (mkF m 0 #[.val (.long p0s), .second, .val (.long p1s), .second, .val (.int p2s), .val (.int p3s), .unset, .unset, .unset, .unset, .unset] [])) → G := by
    intro F0 G hG r0
    obtain ⟨z11, hz11⟩ : ∃ z : Int32, z = ((p3s &&& (2147483647 : Int32)) % (9 : Int32)) := ⟨_, rfl⟩
    obtain ⟨z12, hz12⟩ : ∃ z : Int32, z = ((p2s &&& (2147483647 : Int32)) % (5 : Int32)) := ⟨_, rfl⟩
    have r13 : own_R p.tables e below F0 (s₁.setTop (mkF m 19 #[.val (.long p0s), .second, .val (.long p1s), .second, .val (.int p2s), .val (.int p3s), .val (.int z11), .val (.int z12), .unset, .unset, .unset] [])) := fun tg_ kg_ => by
      refine r0 tg_ ?_
      show Steps p.tables e below (s₁.setTop (mkF m 0 #[.val (.long p0s), .second, .val (.long p1s), .second, .val (.int p2s), .val (.int p3s), .unset, .unset, .unset, .unset, .unset] [])) _
      refine XS.iload X0.here hx rfl (hb hby at_0) rfl ?_
      show Steps p.tables e below (s₁.setTop (mkF m 2 #[.val (.long p0s), .second, .val (.long p1s), .second, .val (.int p2s), .val (.int p3s), .unset, .unset, .unset, .unset, .unset] [(.int p3s)])) _
      refine X0.ldcI hx hown (mvT hZ (hw _ (List.mem_of_getElem? (i := 0) rfl))) rfl (hb hby at_2) ?_
      show Steps p.tables e below (s₁.setTop (mkF m 4 #[.val (.long p0s), .second, .val (.long p1s), .second, .val (.int p2s), .val (.int p3s), .unset, .unset, .unset, .unset, .unset] [(.int (2147483647 : Int32)), (.int p3s)])) _
      refine XS.iand X0.here hx rfl (hb hby at_4) rfl ?_
      show Steps p.tables e below (s₁.setTop (mkF m 5 #[.val (.long p0s), .second, .val (.long p1s), .second, .val (.int p2s), .val (.int p3s), .unset, .unset, .unset, .unset, .unset] [(.int (p3s &&& (2147483647 : Int32)))])) _
      refine XS.bipush X0.here hx rfl (hb hby at_5) ?_
      show Steps p.tables e below (s₁.setTop (mkF m 7 #[.val (.long p0s), .second, .val (.long p1s), .second, .val (.int p2s), .val (.int p3s), .unset, .unset, .unset, .unset, .unset] [(.int (9 : Int32)), (.int (p3s &&& (2147483647 : Int32)))])) _
      refine iremM X0 hx rfl (hb hby at_7) rfl (by decide) ?_
      show Steps p.tables e below (s₁.setTop (mkF m 8 #[.val (.long p0s), .second, .val (.long p1s), .second, .val (.int p2s), .val (.int p3s), .unset, .unset, .unset, .unset, .unset] [(.int ((p3s &&& (2147483647 : Int32)) % (9 : Int32)))])) _
      refine XS.istore X0.here hx rfl (hb hby at_8) (x := z11) (rest := []) (by subst hz11; rfl) (l' := #[.val (.long p0s), .second, .val (.long p1s), .second, .val (.int p2s), .val (.int p3s), .val (.int z11), .unset, .unset, .unset, .unset]) rfl ?_
      show Steps p.tables e below (s₁.setTop (mkF m 10 #[.val (.long p0s), .second, .val (.long p1s), .second, .val (.int p2s), .val (.int p3s), .val (.int z11), .unset, .unset, .unset, .unset] [])) _
      refine XS.iload X0.here hx rfl (hb hby at_10) rfl ?_
      show Steps p.tables e below (s₁.setTop (mkF m 12 #[.val (.long p0s), .second, .val (.long p1s), .second, .val (.int p2s), .val (.int p3s), .val (.int z11), .unset, .unset, .unset, .unset] [(.int p2s)])) _
      refine X0.ldcI hx hown (mvT hZ (hw _ (List.mem_of_getElem? (i := 0) rfl))) rfl (hb hby at_12) ?_
      show Steps p.tables e below (s₁.setTop (mkF m 14 #[.val (.long p0s), .second, .val (.long p1s), .second, .val (.int p2s), .val (.int p3s), .val (.int z11), .unset, .unset, .unset, .unset] [(.int (2147483647 : Int32)), (.int p2s)])) _
      refine XS.iand X0.here hx rfl (hb hby at_14) rfl ?_
      show Steps p.tables e below (s₁.setTop (mkF m 15 #[.val (.long p0s), .second, .val (.long p1s), .second, .val (.int p2s), .val (.int p3s), .val (.int z11), .unset, .unset, .unset, .unset] [(.int (p2s &&& (2147483647 : Int32)))])) _
      refine XS.iconst X0.here hx rfl (hb hby at_15) ?_
      show Steps p.tables e below (s₁.setTop (mkF m 16 #[.val (.long p0s), .second, .val (.long p1s), .second, .val (.int p2s), .val (.int p3s), .val (.int z11), .unset, .unset, .unset, .unset] [(.int (5 : Int32)), (.int (p2s &&& (2147483647 : Int32)))])) _
      refine iremM X0 hx rfl (hb hby at_16) rfl (by decide) ?_
      show Steps p.tables e below (s₁.setTop (mkF m 17 #[.val (.long p0s), .second, .val (.long p1s), .second, .val (.int p2s), .val (.int p3s), .val (.int z11), .unset, .unset, .unset, .unset] [(.int ((p2s &&& (2147483647 : Int32)) % (5 : Int32)))])) _
      refine XS.istore X0.here hx rfl (hb hby at_17) (x := z12) (rest := []) (by subst hz12; rfl) (l' := #[.val (.long p0s), .second, .val (.long p1s), .second, .val (.int p2s), .val (.int p3s), .val (.int z11), .val (.int z12), .unset, .unset, .unset]) rfl ?_
      exact kg_
    have q176_r := own_R32 p3s
    have q177_e : (2147483647 : Int32).toInt = 2147483647 := (by decide)
    have q177_r : (2147483647 : Int) ≤ (2147483647 : Int32).toInt ∧ (2147483647 : Int32).toInt ≤ 2147483647 := ⟨Int.le_of_eq q177_e.symm, Int.le_of_eq q177_e⟩
    have q178_ := own_maskR p3s (2147483647 : Int32) 31 2147483648 (by decide) (by decide) (by decide) 2147483647 (by decide) (by decide)
    have q178_e := q178_.1
    have q178_r := q178_.2
    have q179_e : (9 : Int32).toInt = 9 := (by decide)
    have q179_r : (9 : Int) ≤ (9 : Int32).toInt ∧ (9 : Int32).toInt ≤ 9 := ⟨Int.le_of_eq q179_e.symm, Int.le_of_eq q179_e⟩
    have q180_ := own_iremR 8 q178_r (show (9 : Int32).toInt = 9 from by decide) (by decide) (by decide) (by decide)
    have q180_e := q180_.1
    have q180_r := q180_.2
    have q181_ := own_eqR32 hz11 q180_r
    have q181_e := q181_.1
    have q181_r := q181_.2
    have q182_r := own_R32 p2s
    have q183_ := own_maskR p2s (2147483647 : Int32) 31 2147483648 (by decide) (by decide) (by decide) 2147483647 (by decide) (by decide)
    have q183_e := q183_.1
    have q183_r := q183_.2
    have q184_e : (5 : Int32).toInt = 5 := (by decide)
    have q184_r : (5 : Int) ≤ (5 : Int32).toInt ∧ (5 : Int32).toInt ≤ 5 := ⟨Int.le_of_eq q184_e.symm, Int.le_of_eq q184_e⟩
    have q185_ := own_iremR 4 q183_r (show (5 : Int32).toInt = 5 from by decide) (by decide) (by decide) (by decide)
    have q185_e := q185_.1
    have q185_r := q185_.2
    have q186_ := own_eqR32 hz12 q185_r
    have q186_e := q186_.1
    have q186_r := q186_.2
    obtain ⟨A, hA⟩ : ∃ A : Nat, z12.toInt = A := ⟨z12.toInt.toNat, by omega⟩
    obtain ⟨Ln, hL⟩ : ∃ A : Nat, z11.toInt = A := ⟨z11.toInt.toNat, by omega⟩
    have hA4 : A ≤ 4 := by omega
    have hL8 : Ln ≤ 8 := by omega
    have := hA4
    have r14 : own_R p.tables e below F0 (s₁.setTop (mkF m 21 #[.val (.long p0s), .second, .val (.long p1s), .second, .val (.int p2s), .val (.int p3s), .val (.int z11), .val (.int z12), .unset, .unset, .unset] [(.int (12 : Int32))])) := fun tg_ kg_ => by
      refine r13 tg_ ?_
      show Steps p.tables e below (s₁.setTop (mkF m 19 #[.val (.long p0s), .second, .val (.long p1s), .second, .val (.int p2s), .val (.int p3s), .val (.int z11), .val (.int z12), .unset, .unset, .unset] [])) _
      refine XS.bipush X0.here hx rfl (hb hby at_19) ?_
      exact kg_
    obtain ⟨T15, h15, k15, X15, e15, E15, A15, st15⟩ := newP X0 hx hZ (hw _ (List.mem_of_getElem? (i := 1) rfl)) e0 (g := (mkF m 21 #[.val (.long p0s), .second, .val (.long p1s), .second, .val (.int p2s), .val (.int p3s), .val (.int z11), .val (.int z12), .unset, .unset, .unset] [(.int (12 : Int32))])) rfl (hb hby at_21) rfl (by decide) (cap := 12) (by decide) (by decide) (by decide) (by decide)
    obtain ⟨b15, g15⟩ : ∃ z, z = h0.size := ⟨_, rfl⟩
    rw [← g15] at A15 st15
    have ge15 : n0 ≤ b15 := Nat.le_trans Z0 (Nat.le_of_eq g15.symm)
    have old15 : h0.size ≤ b15 := Nat.le_trans K0.1 (Nat.le_of_eq g15.symm)
    have K15 : Keep h0 h15 [] := K0.ext E15
    have Zs16 : n0 ≤ h15.size := Nat.le_trans Z0 E15.1
    have F17 : own_Arf Z h15 b15 .byte 12 (fun i => (.int ((fun _ => (0 : Int32)) i))) := by
      have q := own_Arf.new A15 (by decide)
      rw [show ((12 : Int32)).toNatClampNeg = 12 from rfl] at q
      exact q
    have r15 : own_R p.tables e below F0 (T15.setTop (mkF m 23 #[.val (.long p0s), .second, .val (.long p1s), .second, .val (.int p2s), .val (.int p3s), .val (.int z11), .val (.int z12), .unset, .unset, .unset] [(.ref b15)])) := fun tg_ kg_ => r14 tg_ (st15 tg_ kg_)
    have r18 : own_R p.tables e below F0 (T15.setTop (mkF m 31 #[.val (.long p0s), .second, .val (.long p1s), .second, .val (.int p2s), .val (.int p3s), .val (.int z11), .val (.int z12), .val (.ref b15), .unset, .unset] [(.int ((p1s.toInt32).toInt8.toInt32)), (.int (0 : Int32)), (.ref b15)])) := fun tg_ kg_ => by
      refine r15 tg_ ?_
      show Steps p.tables e below (T15.setTop (mkF m 23 #[.val (.long p0s), .second, .val (.long p1s), .second, .val (.int p2s), .val (.int p3s), .val (.int z11), .val (.int z12), .unset, .unset, .unset] [(.ref b15)])) _
      refine XS.astore X15.here hx rfl (hb hby at_23) rfl rfl (l' := #[.val (.long p0s), .second, .val (.long p1s), .second, .val (.int p2s), .val (.int p3s), .val (.int z11), .val (.int z12), .val (.ref b15), .unset, .unset]) rfl ?_
      show Steps p.tables e below (T15.setTop (mkF m 25 #[.val (.long p0s), .second, .val (.long p1s), .second, .val (.int p2s), .val (.int p3s), .val (.int z11), .val (.int z12), .val (.ref b15), .unset, .unset] [])) _
      refine XS.aload X15.here hx rfl (hb hby at_25) rfl rfl ?_
      show Steps p.tables e below (T15.setTop (mkF m 27 #[.val (.long p0s), .second, .val (.long p1s), .second, .val (.int p2s), .val (.int p3s), .val (.int z11), .val (.int z12), .val (.ref b15), .unset, .unset] [(.ref b15)])) _
      refine XS.iconst X15.here hx rfl (hb hby at_27) ?_
      show Steps p.tables e below (T15.setTop (mkF m 28 #[.val (.long p0s), .second, .val (.long p1s), .second, .val (.int p2s), .val (.int p3s), .val (.int z11), .val (.int z12), .val (.ref b15), .unset, .unset] [(.int (0 : Int32)), (.ref b15)])) _
      refine XS.lloadN X15.here hx rfl (hb hby at_28) rfl ?_
      show Steps p.tables e below (T15.setTop (mkF m 29 #[.val (.long p0s), .second, .val (.long p1s), .second, .val (.int p2s), .val (.int p3s), .val (.int z11), .val (.int z12), .val (.ref b15), .unset, .unset] [(.long p1s), (.int (0 : Int32)), (.ref b15)])) _
      refine XS.l2i X15.here hx rfl (hb hby at_29) rfl ?_
      show Steps p.tables e below (T15.setTop (mkF m 30 #[.val (.long p0s), .second, .val (.long p1s), .second, .val (.int p2s), .val (.int p3s), .val (.int z11), .val (.int z12), .val (.ref b15), .unset, .unset] [(.int (p1s.toInt32)), (.int (0 : Int32)), (.ref b15)])) _
      refine XS.i2b X15.here hx rfl (hb hby at_30) rfl ?_
      exact kg_
    obtain ⟨T19, h19, X19, e19, W19, V19, st19⟩ := own_stB X15 hx hZ e15 (j := (0 : Int32)) F17 (by decide) (by decide) (g := (mkF m 31 #[.val (.long p0s), .second, .val (.long p1s), .second, .val (.int p2s), .val (.int p3s), .val (.int z11), .val (.int z12), .val (.ref b15), .unset, .unset] [(.int ((p1s.toInt32).toInt8.toInt32)), (.int (0 : Int32)), (.ref b15)])) rfl rfl (hb hby at_31)
    have V19 : own_Arf Z h19 b15 .byte 12 (fun i => if i = 0 then (.int (nar .byte ((p1s.toInt32).toInt8.toInt32))) else (.int ((fun _ => (0 : Int32)) i))) := V19
    obtain ⟨gf19, hgf19, V19'⟩ := own_nameI (g := (fun _ => (0 : Int32))) V19
    have F20 : own_Arf Z h19 b15 .byte 12 (fun i => (.int (gf19 i))) := V19'
    have Zs21 : n0 ≤ h19.size := by rw [W19.size]; exact Zs16
    have N22 := Fr.snoc X19 N0 ge15
    have K23 : Keep h0 h19 [] := K15.wr W19 (Or.inr old15)
    have r19 : own_R p.tables e below F0 (T19.setTop (mkF m 32 #[.val (.long p0s), .second, .val (.long p1s), .second, .val (.int p2s), .val (.int p3s), .val (.int z11), .val (.int z12), .val (.ref b15), .unset, .unset] [])) := fun tg_ kg_ => r18 tg_ (st19 tg_ kg_)
    have r24 : own_R p.tables e below F0 (T19.setTop (mkF m 41 #[.val (.long p0s), .second, .val (.long p1s), .second, .val (.int p2s), .val (.int p3s), .val (.int z11), .val (.int z12), .val (.ref b15), .unset, .unset] [(.int ((((p1s.toUInt64 >>> ((8 : Int32) &&& 0x3f).toInt64.toUInt64).toInt64).toInt32).toInt8.toInt32)), (.int (1 : Int32)), (.ref b15)])) := fun tg_ kg_ => by
      refine r19 tg_ ?_
      show Steps p.tables e below (T19.setTop (mkF m 32 #[.val (.long p0s), .second, .val (.long p1s), .second, .val (.int p2s), .val (.int p3s), .val (.int z11), .val (.int z12), .val (.ref b15), .unset, .unset] [])) _
      refine XS.aload X19.here hx rfl (hb hby at_32) rfl rfl ?_
      show Steps p.tables e below (T19.setTop (mkF m 34 #[.val (.long p0s), .second, .val (.long p1s), .second, .val (.int p2s), .val (.int p3s), .val (.int z11), .val (.int z12), .val (.ref b15), .unset, .unset] [(.ref b15)])) _
      refine XS.iconst X19.here hx rfl (hb hby at_34) ?_
      show Steps p.tables e below (T19.setTop (mkF m 35 #[.val (.long p0s), .second, .val (.long p1s), .second, .val (.int p2s), .val (.int p3s), .val (.int z11), .val (.int z12), .val (.ref b15), .unset, .unset] [(.int (1 : Int32)), (.ref b15)])) _
      refine XS.lloadN X19.here hx rfl (hb hby at_35) rfl ?_
      show Steps p.tables e below (T19.setTop (mkF m 36 #[.val (.long p0s), .second, .val (.long p1s), .second, .val (.int p2s), .val (.int p3s), .val (.int z11), .val (.int z12), .val (.ref b15), .unset, .unset] [(.long p1s), (.int (1 : Int32)), (.ref b15)])) _
      refine XS.bipush X19.here hx rfl (hb hby at_36) ?_
      show Steps p.tables e below (T19.setTop (mkF m 38 #[.val (.long p0s), .second, .val (.long p1s), .second, .val (.int p2s), .val (.int p3s), .val (.int z11), .val (.int z12), .val (.ref b15), .unset, .unset] [(.int (8 : Int32)), (.long p1s), (.int (1 : Int32)), (.ref b15)])) _
      refine XS.lushr X19.here hx rfl (hb hby at_38) rfl ?_
      show Steps p.tables e below (T19.setTop (mkF m 39 #[.val (.long p0s), .second, .val (.long p1s), .second, .val (.int p2s), .val (.int p3s), .val (.int z11), .val (.int z12), .val (.ref b15), .unset, .unset] [(.long ((p1s.toUInt64 >>> ((8 : Int32) &&& 0x3f).toInt64.toUInt64).toInt64)), (.int (1 : Int32)), (.ref b15)])) _
      refine XS.l2i X19.here hx rfl (hb hby at_39) rfl ?_
      show Steps p.tables e below (T19.setTop (mkF m 40 #[.val (.long p0s), .second, .val (.long p1s), .second, .val (.int p2s), .val (.int p3s), .val (.int z11), .val (.int z12), .val (.ref b15), .unset, .unset] [(.int (((p1s.toUInt64 >>> ((8 : Int32) &&& 0x3f).toInt64.toUInt64).toInt64).toInt32)), (.int (1 : Int32)), (.ref b15)])) _
      refine XS.i2b X19.here hx rfl (hb hby at_40) rfl ?_
      exact kg_
    obtain ⟨T25, h25, X25, e25, W25, V25, st25⟩ := own_stB X19 hx hZ e19 (j := (1 : Int32)) F20 (by decide) (by decide) (g := (mkF m 41 #[.val (.long p0s), .second, .val (.long p1s), .second, .val (.int p2s), .val (.int p3s), .val (.int z11), .val (.int z12), .val (.ref b15), .unset, .unset] [(.int ((((p1s.toUInt64 >>> ((8 : Int32) &&& 0x3f).toInt64.toUInt64).toInt64).toInt32).toInt8.toInt32)), (.int (1 : Int32)), (.ref b15)])) rfl rfl (hb hby at_41)
    have V25 : own_Arf Z h25 b15 .byte 12 (fun i => if i = 1 then (.int (nar .byte ((((p1s.toUInt64 >>> ((8 : Int32) &&& 0x3f).toInt64.toUInt64).toInt64).toInt32).toInt8.toInt32))) else (.int (gf19 i))) := V25
    obtain ⟨gf25, hgf25, V25'⟩ := own_nameI (g := gf19) V25
    have F26 : own_Arf Z h25 b15 .byte 12 (fun i => (.int (gf25 i))) := V25'
    have Zs27 : n0 ≤ h25.size := by rw [W25.size]; exact Zs21
    have N28 := Fr.snoc X25 N22 ge15
    have K29 : Keep h0 h25 [] := K23.wr W25 (Or.inr old15)
    have r25 : own_R p.tables e below F0 (T25.setTop (mkF m 42 #[.val (.long p0s), .second, .val (.long p1s), .second, .val (.int p2s), .val (.int p3s), .val (.int z11), .val (.int z12), .val (.ref b15), .unset, .unset] [])) := fun tg_ kg_ => r24 tg_ (st25 tg_ kg_)
    have r30 : own_R p.tables e below F0 (T25.setTop (mkF m 51 #[.val (.long p0s), .second, .val (.long p1s), .second, .val (.int p2s), .val (.int p3s), .val (.int z11), .val (.int z12), .val (.ref b15), .unset, .unset] [(.int ((((p1s.toUInt64 >>> ((16 : Int32) &&& 0x3f).toInt64.toUInt64).toInt64).toInt32).toInt8.toInt32)), (.int (2 : Int32)), (.ref b15)])) := fun tg_ kg_ => by
      refine r25 tg_ ?_
      show Steps p.tables e below (T25.setTop (mkF m 42 #[.val (.long p0s), .second, .val (.long p1s), .second, .val (.int p2s), .val (.int p3s), .val (.int z11), .val (.int z12), .val (.ref b15), .unset, .unset] [])) _
      refine XS.aload X25.here hx rfl (hb hby at_42) rfl rfl ?_
      show Steps p.tables e below (T25.setTop (mkF m 44 #[.val (.long p0s), .second, .val (.long p1s), .second, .val (.int p2s), .val (.int p3s), .val (.int z11), .val (.int z12), .val (.ref b15), .unset, .unset] [(.ref b15)])) _
      refine XS.iconst X25.here hx rfl (hb hby at_44) ?_
      show Steps p.tables e below (T25.setTop (mkF m 45 #[.val (.long p0s), .second, .val (.long p1s), .second, .val (.int p2s), .val (.int p3s), .val (.int z11), .val (.int z12), .val (.ref b15), .unset, .unset] [(.int (2 : Int32)), (.ref b15)])) _
      refine XS.lloadN X25.here hx rfl (hb hby at_45) rfl ?_
      show Steps p.tables e below (T25.setTop (mkF m 46 #[.val (.long p0s), .second, .val (.long p1s), .second, .val (.int p2s), .val (.int p3s), .val (.int z11), .val (.int z12), .val (.ref b15), .unset, .unset] [(.long p1s), (.int (2 : Int32)), (.ref b15)])) _
      refine XS.bipush X25.here hx rfl (hb hby at_46) ?_
      show Steps p.tables e below (T25.setTop (mkF m 48 #[.val (.long p0s), .second, .val (.long p1s), .second, .val (.int p2s), .val (.int p3s), .val (.int z11), .val (.int z12), .val (.ref b15), .unset, .unset] [(.int (16 : Int32)), (.long p1s), (.int (2 : Int32)), (.ref b15)])) _
      refine XS.lushr X25.here hx rfl (hb hby at_48) rfl ?_
      show Steps p.tables e below (T25.setTop (mkF m 49 #[.val (.long p0s), .second, .val (.long p1s), .second, .val (.int p2s), .val (.int p3s), .val (.int z11), .val (.int z12), .val (.ref b15), .unset, .unset] [(.long ((p1s.toUInt64 >>> ((16 : Int32) &&& 0x3f).toInt64.toUInt64).toInt64)), (.int (2 : Int32)), (.ref b15)])) _
      refine XS.l2i X25.here hx rfl (hb hby at_49) rfl ?_
      show Steps p.tables e below (T25.setTop (mkF m 50 #[.val (.long p0s), .second, .val (.long p1s), .second, .val (.int p2s), .val (.int p3s), .val (.int z11), .val (.int z12), .val (.ref b15), .unset, .unset] [(.int (((p1s.toUInt64 >>> ((16 : Int32) &&& 0x3f).toInt64.toUInt64).toInt64).toInt32)), (.int (2 : Int32)), (.ref b15)])) _
      refine XS.i2b X25.here hx rfl (hb hby at_50) rfl ?_
      exact kg_
    obtain ⟨T31, h31, X31, e31, W31, V31, st31⟩ := own_stB X25 hx hZ e25 (j := (2 : Int32)) F26 (by decide) (by decide) (g := (mkF m 51 #[.val (.long p0s), .second, .val (.long p1s), .second, .val (.int p2s), .val (.int p3s), .val (.int z11), .val (.int z12), .val (.ref b15), .unset, .unset] [(.int ((((p1s.toUInt64 >>> ((16 : Int32) &&& 0x3f).toInt64.toUInt64).toInt64).toInt32).toInt8.toInt32)), (.int (2 : Int32)), (.ref b15)])) rfl rfl (hb hby at_51)
    have V31 : own_Arf Z h31 b15 .byte 12 (fun i => if i = 2 then (.int (nar .byte ((((p1s.toUInt64 >>> ((16 : Int32) &&& 0x3f).toInt64.toUInt64).toInt64).toInt32).toInt8.toInt32))) else (.int (gf25 i))) := V31
    obtain ⟨gf31, hgf31, V31'⟩ := own_nameI (g := gf25) V31
    have F32 : own_Arf Z h31 b15 .byte 12 (fun i => (.int (gf31 i))) := V31'
    have Zs33 : n0 ≤ h31.size := by rw [W31.size]; exact Zs27
    have N34 := Fr.snoc X31 N28 ge15
    have K35 : Keep h0 h31 [] := K29.wr W31 (Or.inr old15)
    have r31 : own_R p.tables e below F0 (T31.setTop (mkF m 52 #[.val (.long p0s), .second, .val (.long p1s), .second, .val (.int p2s), .val (.int p3s), .val (.int z11), .val (.int z12), .val (.ref b15), .unset, .unset] [])) := fun tg_ kg_ => r30 tg_ (st31 tg_ kg_)
    have r36 : own_R p.tables e below F0 (T31.setTop (mkF m 61 #[.val (.long p0s), .second, .val (.long p1s), .second, .val (.int p2s), .val (.int p3s), .val (.int z11), .val (.int z12), .val (.ref b15), .unset, .unset] [(.int ((((p1s.toUInt64 >>> ((24 : Int32) &&& 0x3f).toInt64.toUInt64).toInt64).toInt32).toInt8.toInt32)), (.int (3 : Int32)), (.ref b15)])) := fun tg_ kg_ => by
      refine r31 tg_ ?_
      show Steps p.tables e below (T31.setTop (mkF m 52 #[.val (.long p0s), .second, .val (.long p1s), .second, .val (.int p2s), .val (.int p3s), .val (.int z11), .val (.int z12), .val (.ref b15), .unset, .unset] [])) _
      refine XS.aload X31.here hx rfl (hb hby at_52) rfl rfl ?_
      show Steps p.tables e below (T31.setTop (mkF m 54 #[.val (.long p0s), .second, .val (.long p1s), .second, .val (.int p2s), .val (.int p3s), .val (.int z11), .val (.int z12), .val (.ref b15), .unset, .unset] [(.ref b15)])) _
      refine XS.iconst X31.here hx rfl (hb hby at_54) ?_
      show Steps p.tables e below (T31.setTop (mkF m 55 #[.val (.long p0s), .second, .val (.long p1s), .second, .val (.int p2s), .val (.int p3s), .val (.int z11), .val (.int z12), .val (.ref b15), .unset, .unset] [(.int (3 : Int32)), (.ref b15)])) _
      refine XS.lloadN X31.here hx rfl (hb hby at_55) rfl ?_
      show Steps p.tables e below (T31.setTop (mkF m 56 #[.val (.long p0s), .second, .val (.long p1s), .second, .val (.int p2s), .val (.int p3s), .val (.int z11), .val (.int z12), .val (.ref b15), .unset, .unset] [(.long p1s), (.int (3 : Int32)), (.ref b15)])) _
      refine XS.bipush X31.here hx rfl (hb hby at_56) ?_
      show Steps p.tables e below (T31.setTop (mkF m 58 #[.val (.long p0s), .second, .val (.long p1s), .second, .val (.int p2s), .val (.int p3s), .val (.int z11), .val (.int z12), .val (.ref b15), .unset, .unset] [(.int (24 : Int32)), (.long p1s), (.int (3 : Int32)), (.ref b15)])) _
      refine XS.lushr X31.here hx rfl (hb hby at_58) rfl ?_
      show Steps p.tables e below (T31.setTop (mkF m 59 #[.val (.long p0s), .second, .val (.long p1s), .second, .val (.int p2s), .val (.int p3s), .val (.int z11), .val (.int z12), .val (.ref b15), .unset, .unset] [(.long ((p1s.toUInt64 >>> ((24 : Int32) &&& 0x3f).toInt64.toUInt64).toInt64)), (.int (3 : Int32)), (.ref b15)])) _
      refine XS.l2i X31.here hx rfl (hb hby at_59) rfl ?_
      show Steps p.tables e below (T31.setTop (mkF m 60 #[.val (.long p0s), .second, .val (.long p1s), .second, .val (.int p2s), .val (.int p3s), .val (.int z11), .val (.int z12), .val (.ref b15), .unset, .unset] [(.int (((p1s.toUInt64 >>> ((24 : Int32) &&& 0x3f).toInt64.toUInt64).toInt64).toInt32)), (.int (3 : Int32)), (.ref b15)])) _
      refine XS.i2b X31.here hx rfl (hb hby at_60) rfl ?_
      exact kg_
    obtain ⟨T37, h37, X37, e37, W37, V37, st37⟩ := own_stB X31 hx hZ e31 (j := (3 : Int32)) F32 (by decide) (by decide) (g := (mkF m 61 #[.val (.long p0s), .second, .val (.long p1s), .second, .val (.int p2s), .val (.int p3s), .val (.int z11), .val (.int z12), .val (.ref b15), .unset, .unset] [(.int ((((p1s.toUInt64 >>> ((24 : Int32) &&& 0x3f).toInt64.toUInt64).toInt64).toInt32).toInt8.toInt32)), (.int (3 : Int32)), (.ref b15)])) rfl rfl (hb hby at_61)
    have V37 : own_Arf Z h37 b15 .byte 12 (fun i => if i = 3 then (.int (nar .byte ((((p1s.toUInt64 >>> ((24 : Int32) &&& 0x3f).toInt64.toUInt64).toInt64).toInt32).toInt8.toInt32))) else (.int (gf31 i))) := V37
    obtain ⟨gf37, hgf37, V37'⟩ := own_nameI (g := gf31) V37
    have F38 : own_Arf Z h37 b15 .byte 12 (fun i => (.int (gf37 i))) := V37'
    have Zs39 : n0 ≤ h37.size := by rw [W37.size]; exact Zs33
    have N40 := Fr.snoc X37 N34 ge15
    have K41 : Keep h0 h37 [] := K35.wr W37 (Or.inr old15)
    have r37 : own_R p.tables e below F0 (T37.setTop (mkF m 62 #[.val (.long p0s), .second, .val (.long p1s), .second, .val (.int p2s), .val (.int p3s), .val (.int z11), .val (.int z12), .val (.ref b15), .unset, .unset] [])) := fun tg_ kg_ => r36 tg_ (st37 tg_ kg_)
    have r42 : own_R p.tables e below F0 (T37.setTop (mkF m 71 #[.val (.long p0s), .second, .val (.long p1s), .second, .val (.int p2s), .val (.int p3s), .val (.int z11), .val (.int z12), .val (.ref b15), .unset, .unset] [(.int ((((p1s.toUInt64 >>> ((32 : Int32) &&& 0x3f).toInt64.toUInt64).toInt64).toInt32).toInt8.toInt32)), (.int (4 : Int32)), (.ref b15)])) := fun tg_ kg_ => by
      refine r37 tg_ ?_
      show Steps p.tables e below (T37.setTop (mkF m 62 #[.val (.long p0s), .second, .val (.long p1s), .second, .val (.int p2s), .val (.int p3s), .val (.int z11), .val (.int z12), .val (.ref b15), .unset, .unset] [])) _
      refine XS.aload X37.here hx rfl (hb hby at_62) rfl rfl ?_
      show Steps p.tables e below (T37.setTop (mkF m 64 #[.val (.long p0s), .second, .val (.long p1s), .second, .val (.int p2s), .val (.int p3s), .val (.int z11), .val (.int z12), .val (.ref b15), .unset, .unset] [(.ref b15)])) _
      refine XS.iconst X37.here hx rfl (hb hby at_64) ?_
      show Steps p.tables e below (T37.setTop (mkF m 65 #[.val (.long p0s), .second, .val (.long p1s), .second, .val (.int p2s), .val (.int p3s), .val (.int z11), .val (.int z12), .val (.ref b15), .unset, .unset] [(.int (4 : Int32)), (.ref b15)])) _
      refine XS.lloadN X37.here hx rfl (hb hby at_65) rfl ?_
      show Steps p.tables e below (T37.setTop (mkF m 66 #[.val (.long p0s), .second, .val (.long p1s), .second, .val (.int p2s), .val (.int p3s), .val (.int z11), .val (.int z12), .val (.ref b15), .unset, .unset] [(.long p1s), (.int (4 : Int32)), (.ref b15)])) _
      refine XS.bipush X37.here hx rfl (hb hby at_66) ?_
      show Steps p.tables e below (T37.setTop (mkF m 68 #[.val (.long p0s), .second, .val (.long p1s), .second, .val (.int p2s), .val (.int p3s), .val (.int z11), .val (.int z12), .val (.ref b15), .unset, .unset] [(.int (32 : Int32)), (.long p1s), (.int (4 : Int32)), (.ref b15)])) _
      refine XS.lushr X37.here hx rfl (hb hby at_68) rfl ?_
      show Steps p.tables e below (T37.setTop (mkF m 69 #[.val (.long p0s), .second, .val (.long p1s), .second, .val (.int p2s), .val (.int p3s), .val (.int z11), .val (.int z12), .val (.ref b15), .unset, .unset] [(.long ((p1s.toUInt64 >>> ((32 : Int32) &&& 0x3f).toInt64.toUInt64).toInt64)), (.int (4 : Int32)), (.ref b15)])) _
      refine XS.l2i X37.here hx rfl (hb hby at_69) rfl ?_
      show Steps p.tables e below (T37.setTop (mkF m 70 #[.val (.long p0s), .second, .val (.long p1s), .second, .val (.int p2s), .val (.int p3s), .val (.int z11), .val (.int z12), .val (.ref b15), .unset, .unset] [(.int (((p1s.toUInt64 >>> ((32 : Int32) &&& 0x3f).toInt64.toUInt64).toInt64).toInt32)), (.int (4 : Int32)), (.ref b15)])) _
      refine XS.i2b X37.here hx rfl (hb hby at_70) rfl ?_
      exact kg_
    obtain ⟨T43, h43, X43, e43, W43, V43, st43⟩ := own_stB X37 hx hZ e37 (j := (4 : Int32)) F38 (by decide) (by decide) (g := (mkF m 71 #[.val (.long p0s), .second, .val (.long p1s), .second, .val (.int p2s), .val (.int p3s), .val (.int z11), .val (.int z12), .val (.ref b15), .unset, .unset] [(.int ((((p1s.toUInt64 >>> ((32 : Int32) &&& 0x3f).toInt64.toUInt64).toInt64).toInt32).toInt8.toInt32)), (.int (4 : Int32)), (.ref b15)])) rfl rfl (hb hby at_71)
    have V43 : own_Arf Z h43 b15 .byte 12 (fun i => if i = 4 then (.int (nar .byte ((((p1s.toUInt64 >>> ((32 : Int32) &&& 0x3f).toInt64.toUInt64).toInt64).toInt32).toInt8.toInt32))) else (.int (gf37 i))) := V43
    obtain ⟨gf43, hgf43, V43'⟩ := own_nameI (g := gf37) V43
    have F44 : own_Arf Z h43 b15 .byte 12 (fun i => (.int (gf43 i))) := V43'
    have Zs45 : n0 ≤ h43.size := by rw [W43.size]; exact Zs39
    have N46 := Fr.snoc X43 N40 ge15
    have K47 : Keep h0 h43 [] := K41.wr W43 (Or.inr old15)
    have r43 : own_R p.tables e below F0 (T43.setTop (mkF m 72 #[.val (.long p0s), .second, .val (.long p1s), .second, .val (.int p2s), .val (.int p3s), .val (.int z11), .val (.int z12), .val (.ref b15), .unset, .unset] [])) := fun tg_ kg_ => r42 tg_ (st43 tg_ kg_)
    have r48 : own_R p.tables e below F0 (T43.setTop (mkF m 81 #[.val (.long p0s), .second, .val (.long p1s), .second, .val (.int p2s), .val (.int p3s), .val (.int z11), .val (.int z12), .val (.ref b15), .unset, .unset] [(.int ((((p1s.toUInt64 >>> ((40 : Int32) &&& 0x3f).toInt64.toUInt64).toInt64).toInt32).toInt8.toInt32)), (.int (5 : Int32)), (.ref b15)])) := fun tg_ kg_ => by
      refine r43 tg_ ?_
      show Steps p.tables e below (T43.setTop (mkF m 72 #[.val (.long p0s), .second, .val (.long p1s), .second, .val (.int p2s), .val (.int p3s), .val (.int z11), .val (.int z12), .val (.ref b15), .unset, .unset] [])) _
      refine XS.aload X43.here hx rfl (hb hby at_72) rfl rfl ?_
      show Steps p.tables e below (T43.setTop (mkF m 74 #[.val (.long p0s), .second, .val (.long p1s), .second, .val (.int p2s), .val (.int p3s), .val (.int z11), .val (.int z12), .val (.ref b15), .unset, .unset] [(.ref b15)])) _
      refine XS.iconst X43.here hx rfl (hb hby at_74) ?_
      show Steps p.tables e below (T43.setTop (mkF m 75 #[.val (.long p0s), .second, .val (.long p1s), .second, .val (.int p2s), .val (.int p3s), .val (.int z11), .val (.int z12), .val (.ref b15), .unset, .unset] [(.int (5 : Int32)), (.ref b15)])) _
      refine XS.lloadN X43.here hx rfl (hb hby at_75) rfl ?_
      show Steps p.tables e below (T43.setTop (mkF m 76 #[.val (.long p0s), .second, .val (.long p1s), .second, .val (.int p2s), .val (.int p3s), .val (.int z11), .val (.int z12), .val (.ref b15), .unset, .unset] [(.long p1s), (.int (5 : Int32)), (.ref b15)])) _
      refine XS.bipush X43.here hx rfl (hb hby at_76) ?_
      show Steps p.tables e below (T43.setTop (mkF m 78 #[.val (.long p0s), .second, .val (.long p1s), .second, .val (.int p2s), .val (.int p3s), .val (.int z11), .val (.int z12), .val (.ref b15), .unset, .unset] [(.int (40 : Int32)), (.long p1s), (.int (5 : Int32)), (.ref b15)])) _
      refine XS.lushr X43.here hx rfl (hb hby at_78) rfl ?_
      show Steps p.tables e below (T43.setTop (mkF m 79 #[.val (.long p0s), .second, .val (.long p1s), .second, .val (.int p2s), .val (.int p3s), .val (.int z11), .val (.int z12), .val (.ref b15), .unset, .unset] [(.long ((p1s.toUInt64 >>> ((40 : Int32) &&& 0x3f).toInt64.toUInt64).toInt64)), (.int (5 : Int32)), (.ref b15)])) _
      refine XS.l2i X43.here hx rfl (hb hby at_79) rfl ?_
      show Steps p.tables e below (T43.setTop (mkF m 80 #[.val (.long p0s), .second, .val (.long p1s), .second, .val (.int p2s), .val (.int p3s), .val (.int z11), .val (.int z12), .val (.ref b15), .unset, .unset] [(.int (((p1s.toUInt64 >>> ((40 : Int32) &&& 0x3f).toInt64.toUInt64).toInt64).toInt32)), (.int (5 : Int32)), (.ref b15)])) _
      refine XS.i2b X43.here hx rfl (hb hby at_80) rfl ?_
      exact kg_
    obtain ⟨T49, h49, X49, e49, W49, V49, st49⟩ := own_stB X43 hx hZ e43 (j := (5 : Int32)) F44 (by decide) (by decide) (g := (mkF m 81 #[.val (.long p0s), .second, .val (.long p1s), .second, .val (.int p2s), .val (.int p3s), .val (.int z11), .val (.int z12), .val (.ref b15), .unset, .unset] [(.int ((((p1s.toUInt64 >>> ((40 : Int32) &&& 0x3f).toInt64.toUInt64).toInt64).toInt32).toInt8.toInt32)), (.int (5 : Int32)), (.ref b15)])) rfl rfl (hb hby at_81)
    have V49 : own_Arf Z h49 b15 .byte 12 (fun i => if i = 5 then (.int (nar .byte ((((p1s.toUInt64 >>> ((40 : Int32) &&& 0x3f).toInt64.toUInt64).toInt64).toInt32).toInt8.toInt32))) else (.int (gf43 i))) := V49
    obtain ⟨gf49, hgf49, V49'⟩ := own_nameI (g := gf43) V49
    have F50 : own_Arf Z h49 b15 .byte 12 (fun i => (.int (gf49 i))) := V49'
    have Zs51 : n0 ≤ h49.size := by rw [W49.size]; exact Zs45
    have N52 := Fr.snoc X49 N46 ge15
    have K53 : Keep h0 h49 [] := K47.wr W49 (Or.inr old15)
    have r49 : own_R p.tables e below F0 (T49.setTop (mkF m 82 #[.val (.long p0s), .second, .val (.long p1s), .second, .val (.int p2s), .val (.int p3s), .val (.int z11), .val (.int z12), .val (.ref b15), .unset, .unset] [])) := fun tg_ kg_ => r48 tg_ (st49 tg_ kg_)
    have r54 : own_R p.tables e below F0 (T49.setTop (mkF m 92 #[.val (.long p0s), .second, .val (.long p1s), .second, .val (.int p2s), .val (.int p3s), .val (.int z11), .val (.int z12), .val (.ref b15), .unset, .unset] [(.int ((((p1s.toUInt64 >>> ((48 : Int32) &&& 0x3f).toInt64.toUInt64).toInt64).toInt32).toInt8.toInt32)), (.int (6 : Int32)), (.ref b15)])) := fun tg_ kg_ => by
      refine r49 tg_ ?_
      show Steps p.tables e below (T49.setTop (mkF m 82 #[.val (.long p0s), .second, .val (.long p1s), .second, .val (.int p2s), .val (.int p3s), .val (.int z11), .val (.int z12), .val (.ref b15), .unset, .unset] [])) _
      refine XS.aload X49.here hx rfl (hb hby at_82) rfl rfl ?_
      show Steps p.tables e below (T49.setTop (mkF m 84 #[.val (.long p0s), .second, .val (.long p1s), .second, .val (.int p2s), .val (.int p3s), .val (.int z11), .val (.int z12), .val (.ref b15), .unset, .unset] [(.ref b15)])) _
      refine XS.bipush X49.here hx rfl (hb hby at_84) ?_
      show Steps p.tables e below (T49.setTop (mkF m 86 #[.val (.long p0s), .second, .val (.long p1s), .second, .val (.int p2s), .val (.int p3s), .val (.int z11), .val (.int z12), .val (.ref b15), .unset, .unset] [(.int (6 : Int32)), (.ref b15)])) _
      refine XS.lloadN X49.here hx rfl (hb hby at_86) rfl ?_
      show Steps p.tables e below (T49.setTop (mkF m 87 #[.val (.long p0s), .second, .val (.long p1s), .second, .val (.int p2s), .val (.int p3s), .val (.int z11), .val (.int z12), .val (.ref b15), .unset, .unset] [(.long p1s), (.int (6 : Int32)), (.ref b15)])) _
      refine XS.bipush X49.here hx rfl (hb hby at_87) ?_
      show Steps p.tables e below (T49.setTop (mkF m 89 #[.val (.long p0s), .second, .val (.long p1s), .second, .val (.int p2s), .val (.int p3s), .val (.int z11), .val (.int z12), .val (.ref b15), .unset, .unset] [(.int (48 : Int32)), (.long p1s), (.int (6 : Int32)), (.ref b15)])) _
      refine XS.lushr X49.here hx rfl (hb hby at_89) rfl ?_
      show Steps p.tables e below (T49.setTop (mkF m 90 #[.val (.long p0s), .second, .val (.long p1s), .second, .val (.int p2s), .val (.int p3s), .val (.int z11), .val (.int z12), .val (.ref b15), .unset, .unset] [(.long ((p1s.toUInt64 >>> ((48 : Int32) &&& 0x3f).toInt64.toUInt64).toInt64)), (.int (6 : Int32)), (.ref b15)])) _
      refine XS.l2i X49.here hx rfl (hb hby at_90) rfl ?_
      show Steps p.tables e below (T49.setTop (mkF m 91 #[.val (.long p0s), .second, .val (.long p1s), .second, .val (.int p2s), .val (.int p3s), .val (.int z11), .val (.int z12), .val (.ref b15), .unset, .unset] [(.int (((p1s.toUInt64 >>> ((48 : Int32) &&& 0x3f).toInt64.toUInt64).toInt64).toInt32)), (.int (6 : Int32)), (.ref b15)])) _
      refine XS.i2b X49.here hx rfl (hb hby at_91) rfl ?_
      exact kg_
    obtain ⟨T55, h55, X55, e55, W55, V55, st55⟩ := own_stB X49 hx hZ e49 (j := (6 : Int32)) F50 (by decide) (by decide) (g := (mkF m 92 #[.val (.long p0s), .second, .val (.long p1s), .second, .val (.int p2s), .val (.int p3s), .val (.int z11), .val (.int z12), .val (.ref b15), .unset, .unset] [(.int ((((p1s.toUInt64 >>> ((48 : Int32) &&& 0x3f).toInt64.toUInt64).toInt64).toInt32).toInt8.toInt32)), (.int (6 : Int32)), (.ref b15)])) rfl rfl (hb hby at_92)
    have V55 : own_Arf Z h55 b15 .byte 12 (fun i => if i = 6 then (.int (nar .byte ((((p1s.toUInt64 >>> ((48 : Int32) &&& 0x3f).toInt64.toUInt64).toInt64).toInt32).toInt8.toInt32))) else (.int (gf49 i))) := V55
    obtain ⟨gf55, hgf55, V55'⟩ := own_nameI (g := gf49) V55
    have F56 : own_Arf Z h55 b15 .byte 12 (fun i => (.int (gf55 i))) := V55'
    have Zs57 : n0 ≤ h55.size := by rw [W55.size]; exact Zs51
    have N58 := Fr.snoc X55 N52 ge15
    have K59 : Keep h0 h55 [] := K53.wr W55 (Or.inr old15)
    have r55 : own_R p.tables e below F0 (T55.setTop (mkF m 93 #[.val (.long p0s), .second, .val (.long p1s), .second, .val (.int p2s), .val (.int p3s), .val (.int z11), .val (.int z12), .val (.ref b15), .unset, .unset] [])) := fun tg_ kg_ => r54 tg_ (st55 tg_ kg_)
    have r60 : own_R p.tables e below F0 (T55.setTop (mkF m 103 #[.val (.long p0s), .second, .val (.long p1s), .second, .val (.int p2s), .val (.int p3s), .val (.int z11), .val (.int z12), .val (.ref b15), .unset, .unset] [(.int ((((p1s.toUInt64 >>> ((56 : Int32) &&& 0x3f).toInt64.toUInt64).toInt64).toInt32).toInt8.toInt32)), (.int (7 : Int32)), (.ref b15)])) := fun tg_ kg_ => by
      refine r55 tg_ ?_
      show Steps p.tables e below (T55.setTop (mkF m 93 #[.val (.long p0s), .second, .val (.long p1s), .second, .val (.int p2s), .val (.int p3s), .val (.int z11), .val (.int z12), .val (.ref b15), .unset, .unset] [])) _
      refine XS.aload X55.here hx rfl (hb hby at_93) rfl rfl ?_
      show Steps p.tables e below (T55.setTop (mkF m 95 #[.val (.long p0s), .second, .val (.long p1s), .second, .val (.int p2s), .val (.int p3s), .val (.int z11), .val (.int z12), .val (.ref b15), .unset, .unset] [(.ref b15)])) _
      refine XS.bipush X55.here hx rfl (hb hby at_95) ?_
      show Steps p.tables e below (T55.setTop (mkF m 97 #[.val (.long p0s), .second, .val (.long p1s), .second, .val (.int p2s), .val (.int p3s), .val (.int z11), .val (.int z12), .val (.ref b15), .unset, .unset] [(.int (7 : Int32)), (.ref b15)])) _
      refine XS.lloadN X55.here hx rfl (hb hby at_97) rfl ?_
      show Steps p.tables e below (T55.setTop (mkF m 98 #[.val (.long p0s), .second, .val (.long p1s), .second, .val (.int p2s), .val (.int p3s), .val (.int z11), .val (.int z12), .val (.ref b15), .unset, .unset] [(.long p1s), (.int (7 : Int32)), (.ref b15)])) _
      refine XS.bipush X55.here hx rfl (hb hby at_98) ?_
      show Steps p.tables e below (T55.setTop (mkF m 100 #[.val (.long p0s), .second, .val (.long p1s), .second, .val (.int p2s), .val (.int p3s), .val (.int z11), .val (.int z12), .val (.ref b15), .unset, .unset] [(.int (56 : Int32)), (.long p1s), (.int (7 : Int32)), (.ref b15)])) _
      refine XS.lushr X55.here hx rfl (hb hby at_100) rfl ?_
      show Steps p.tables e below (T55.setTop (mkF m 101 #[.val (.long p0s), .second, .val (.long p1s), .second, .val (.int p2s), .val (.int p3s), .val (.int z11), .val (.int z12), .val (.ref b15), .unset, .unset] [(.long ((p1s.toUInt64 >>> ((56 : Int32) &&& 0x3f).toInt64.toUInt64).toInt64)), (.int (7 : Int32)), (.ref b15)])) _
      refine XS.l2i X55.here hx rfl (hb hby at_101) rfl ?_
      show Steps p.tables e below (T55.setTop (mkF m 102 #[.val (.long p0s), .second, .val (.long p1s), .second, .val (.int p2s), .val (.int p3s), .val (.int z11), .val (.int z12), .val (.ref b15), .unset, .unset] [(.int (((p1s.toUInt64 >>> ((56 : Int32) &&& 0x3f).toInt64.toUInt64).toInt64).toInt32)), (.int (7 : Int32)), (.ref b15)])) _
      refine XS.i2b X55.here hx rfl (hb hby at_102) rfl ?_
      exact kg_
    obtain ⟨T61, h61, X61, e61, W61, V61, st61⟩ := own_stB X55 hx hZ e55 (j := (7 : Int32)) F56 (by decide) (by decide) (g := (mkF m 103 #[.val (.long p0s), .second, .val (.long p1s), .second, .val (.int p2s), .val (.int p3s), .val (.int z11), .val (.int z12), .val (.ref b15), .unset, .unset] [(.int ((((p1s.toUInt64 >>> ((56 : Int32) &&& 0x3f).toInt64.toUInt64).toInt64).toInt32).toInt8.toInt32)), (.int (7 : Int32)), (.ref b15)])) rfl rfl (hb hby at_103)
    have V61 : own_Arf Z h61 b15 .byte 12 (fun i => if i = 7 then (.int (nar .byte ((((p1s.toUInt64 >>> ((56 : Int32) &&& 0x3f).toInt64.toUInt64).toInt64).toInt32).toInt8.toInt32))) else (.int (gf55 i))) := V61
    obtain ⟨gf61, hgf61, V61'⟩ := own_nameI (g := gf55) V61
    have F62 : own_Arf Z h61 b15 .byte 12 (fun i => (.int (gf61 i))) := V61'
    have Zs63 : n0 ≤ h61.size := by rw [W61.size]; exact Zs57
    have N64 := Fr.snoc X61 N58 ge15
    have K65 : Keep h0 h61 [] := K59.wr W61 (Or.inr old15)
    have r61 : own_R p.tables e below F0 (T61.setTop (mkF m 104 #[.val (.long p0s), .second, .val (.long p1s), .second, .val (.int p2s), .val (.int p3s), .val (.int z11), .val (.int z12), .val (.ref b15), .unset, .unset] [])) := fun tg_ kg_ => r60 tg_ (st61 tg_ kg_)
    have r66 : own_R p.tables e below F0 (T61.setTop (mkF m 113 #[.val (.long p0s), .second, .val (.long p1s), .second, .val (.int p2s), .val (.int p3s), .val (.int z11), .val (.int z12), .val (.ref b15), .unset, .unset] [(.int ((((p1s.toUInt64 >>> ((4 : Int32) &&& 0x3f).toInt64.toUInt64).toInt64).toInt32).toInt8.toInt32)), (.int (8 : Int32)), (.ref b15)])) := fun tg_ kg_ => by
      refine r61 tg_ ?_
      show Steps p.tables e below (T61.setTop (mkF m 104 #[.val (.long p0s), .second, .val (.long p1s), .second, .val (.int p2s), .val (.int p3s), .val (.int z11), .val (.int z12), .val (.ref b15), .unset, .unset] [])) _
      refine XS.aload X61.here hx rfl (hb hby at_104) rfl rfl ?_
      show Steps p.tables e below (T61.setTop (mkF m 106 #[.val (.long p0s), .second, .val (.long p1s), .second, .val (.int p2s), .val (.int p3s), .val (.int z11), .val (.int z12), .val (.ref b15), .unset, .unset] [(.ref b15)])) _
      refine XS.bipush X61.here hx rfl (hb hby at_106) ?_
      show Steps p.tables e below (T61.setTop (mkF m 108 #[.val (.long p0s), .second, .val (.long p1s), .second, .val (.int p2s), .val (.int p3s), .val (.int z11), .val (.int z12), .val (.ref b15), .unset, .unset] [(.int (8 : Int32)), (.ref b15)])) _
      refine XS.lloadN X61.here hx rfl (hb hby at_108) rfl ?_
      show Steps p.tables e below (T61.setTop (mkF m 109 #[.val (.long p0s), .second, .val (.long p1s), .second, .val (.int p2s), .val (.int p3s), .val (.int z11), .val (.int z12), .val (.ref b15), .unset, .unset] [(.long p1s), (.int (8 : Int32)), (.ref b15)])) _
      refine XS.iconst X61.here hx rfl (hb hby at_109) ?_
      show Steps p.tables e below (T61.setTop (mkF m 110 #[.val (.long p0s), .second, .val (.long p1s), .second, .val (.int p2s), .val (.int p3s), .val (.int z11), .val (.int z12), .val (.ref b15), .unset, .unset] [(.int (4 : Int32)), (.long p1s), (.int (8 : Int32)), (.ref b15)])) _
      refine XS.lushr X61.here hx rfl (hb hby at_110) rfl ?_
      show Steps p.tables e below (T61.setTop (mkF m 111 #[.val (.long p0s), .second, .val (.long p1s), .second, .val (.int p2s), .val (.int p3s), .val (.int z11), .val (.int z12), .val (.ref b15), .unset, .unset] [(.long ((p1s.toUInt64 >>> ((4 : Int32) &&& 0x3f).toInt64.toUInt64).toInt64)), (.int (8 : Int32)), (.ref b15)])) _
      refine XS.l2i X61.here hx rfl (hb hby at_111) rfl ?_
      show Steps p.tables e below (T61.setTop (mkF m 112 #[.val (.long p0s), .second, .val (.long p1s), .second, .val (.int p2s), .val (.int p3s), .val (.int z11), .val (.int z12), .val (.ref b15), .unset, .unset] [(.int (((p1s.toUInt64 >>> ((4 : Int32) &&& 0x3f).toInt64.toUInt64).toInt64).toInt32)), (.int (8 : Int32)), (.ref b15)])) _
      refine XS.i2b X61.here hx rfl (hb hby at_112) rfl ?_
      exact kg_
    obtain ⟨T67, h67, X67, e67, W67, V67, st67⟩ := own_stB X61 hx hZ e61 (j := (8 : Int32)) F62 (by decide) (by decide) (g := (mkF m 113 #[.val (.long p0s), .second, .val (.long p1s), .second, .val (.int p2s), .val (.int p3s), .val (.int z11), .val (.int z12), .val (.ref b15), .unset, .unset] [(.int ((((p1s.toUInt64 >>> ((4 : Int32) &&& 0x3f).toInt64.toUInt64).toInt64).toInt32).toInt8.toInt32)), (.int (8 : Int32)), (.ref b15)])) rfl rfl (hb hby at_113)
    have V67 : own_Arf Z h67 b15 .byte 12 (fun i => if i = 8 then (.int (nar .byte ((((p1s.toUInt64 >>> ((4 : Int32) &&& 0x3f).toInt64.toUInt64).toInt64).toInt32).toInt8.toInt32))) else (.int (gf61 i))) := V67
    obtain ⟨gf67, hgf67, V67'⟩ := own_nameI (g := gf61) V67
    have F68 : own_Arf Z h67 b15 .byte 12 (fun i => (.int (gf67 i))) := V67'
    have Zs69 : n0 ≤ h67.size := by rw [W67.size]; exact Zs63
    have N70 := Fr.snoc X67 N64 ge15
    have K71 : Keep h0 h67 [] := K65.wr W67 (Or.inr old15)
    have r67 : own_R p.tables e below F0 (T67.setTop (mkF m 114 #[.val (.long p0s), .second, .val (.long p1s), .second, .val (.int p2s), .val (.int p3s), .val (.int z11), .val (.int z12), .val (.ref b15), .unset, .unset] [])) := fun tg_ kg_ => r66 tg_ (st67 tg_ kg_)
    have r72 : own_R p.tables e below F0 (T67.setTop (mkF m 124 #[.val (.long p0s), .second, .val (.long p1s), .second, .val (.int p2s), .val (.int p3s), .val (.int z11), .val (.int z12), .val (.ref b15), .unset, .unset] [(.int ((((p1s.toUInt64 >>> ((12 : Int32) &&& 0x3f).toInt64.toUInt64).toInt64).toInt32).toInt8.toInt32)), (.int (9 : Int32)), (.ref b15)])) := fun tg_ kg_ => by
      refine r67 tg_ ?_
      show Steps p.tables e below (T67.setTop (mkF m 114 #[.val (.long p0s), .second, .val (.long p1s), .second, .val (.int p2s), .val (.int p3s), .val (.int z11), .val (.int z12), .val (.ref b15), .unset, .unset] [])) _
      refine XS.aload X67.here hx rfl (hb hby at_114) rfl rfl ?_
      show Steps p.tables e below (T67.setTop (mkF m 116 #[.val (.long p0s), .second, .val (.long p1s), .second, .val (.int p2s), .val (.int p3s), .val (.int z11), .val (.int z12), .val (.ref b15), .unset, .unset] [(.ref b15)])) _
      refine XS.bipush X67.here hx rfl (hb hby at_116) ?_
      show Steps p.tables e below (T67.setTop (mkF m 118 #[.val (.long p0s), .second, .val (.long p1s), .second, .val (.int p2s), .val (.int p3s), .val (.int z11), .val (.int z12), .val (.ref b15), .unset, .unset] [(.int (9 : Int32)), (.ref b15)])) _
      refine XS.lloadN X67.here hx rfl (hb hby at_118) rfl ?_
      show Steps p.tables e below (T67.setTop (mkF m 119 #[.val (.long p0s), .second, .val (.long p1s), .second, .val (.int p2s), .val (.int p3s), .val (.int z11), .val (.int z12), .val (.ref b15), .unset, .unset] [(.long p1s), (.int (9 : Int32)), (.ref b15)])) _
      refine XS.bipush X67.here hx rfl (hb hby at_119) ?_
      show Steps p.tables e below (T67.setTop (mkF m 121 #[.val (.long p0s), .second, .val (.long p1s), .second, .val (.int p2s), .val (.int p3s), .val (.int z11), .val (.int z12), .val (.ref b15), .unset, .unset] [(.int (12 : Int32)), (.long p1s), (.int (9 : Int32)), (.ref b15)])) _
      refine XS.lushr X67.here hx rfl (hb hby at_121) rfl ?_
      show Steps p.tables e below (T67.setTop (mkF m 122 #[.val (.long p0s), .second, .val (.long p1s), .second, .val (.int p2s), .val (.int p3s), .val (.int z11), .val (.int z12), .val (.ref b15), .unset, .unset] [(.long ((p1s.toUInt64 >>> ((12 : Int32) &&& 0x3f).toInt64.toUInt64).toInt64)), (.int (9 : Int32)), (.ref b15)])) _
      refine XS.l2i X67.here hx rfl (hb hby at_122) rfl ?_
      show Steps p.tables e below (T67.setTop (mkF m 123 #[.val (.long p0s), .second, .val (.long p1s), .second, .val (.int p2s), .val (.int p3s), .val (.int z11), .val (.int z12), .val (.ref b15), .unset, .unset] [(.int (((p1s.toUInt64 >>> ((12 : Int32) &&& 0x3f).toInt64.toUInt64).toInt64).toInt32)), (.int (9 : Int32)), (.ref b15)])) _
      refine XS.i2b X67.here hx rfl (hb hby at_123) rfl ?_
      exact kg_
    obtain ⟨T73, h73, X73, e73, W73, V73, st73⟩ := own_stB X67 hx hZ e67 (j := (9 : Int32)) F68 (by decide) (by decide) (g := (mkF m 124 #[.val (.long p0s), .second, .val (.long p1s), .second, .val (.int p2s), .val (.int p3s), .val (.int z11), .val (.int z12), .val (.ref b15), .unset, .unset] [(.int ((((p1s.toUInt64 >>> ((12 : Int32) &&& 0x3f).toInt64.toUInt64).toInt64).toInt32).toInt8.toInt32)), (.int (9 : Int32)), (.ref b15)])) rfl rfl (hb hby at_124)
    have V73 : own_Arf Z h73 b15 .byte 12 (fun i => if i = 9 then (.int (nar .byte ((((p1s.toUInt64 >>> ((12 : Int32) &&& 0x3f).toInt64.toUInt64).toInt64).toInt32).toInt8.toInt32))) else (.int (gf67 i))) := V73
    obtain ⟨gf73, hgf73, V73'⟩ := own_nameI (g := gf67) V73
    have F74 : own_Arf Z h73 b15 .byte 12 (fun i => (.int (gf73 i))) := V73'
    have Zs75 : n0 ≤ h73.size := by rw [W73.size]; exact Zs69
    have N76 := Fr.snoc X73 N70 ge15
    have K77 : Keep h0 h73 [] := K71.wr W73 (Or.inr old15)
    have r73 : own_R p.tables e below F0 (T73.setTop (mkF m 125 #[.val (.long p0s), .second, .val (.long p1s), .second, .val (.int p2s), .val (.int p3s), .val (.int z11), .val (.int z12), .val (.ref b15), .unset, .unset] [])) := fun tg_ kg_ => r72 tg_ (st73 tg_ kg_)
    have r78 : own_R p.tables e below F0 (T73.setTop (mkF m 135 #[.val (.long p0s), .second, .val (.long p1s), .second, .val (.int p2s), .val (.int p3s), .val (.int z11), .val (.int z12), .val (.ref b15), .unset, .unset] [(.int ((((p1s.toUInt64 >>> ((20 : Int32) &&& 0x3f).toInt64.toUInt64).toInt64).toInt32).toInt8.toInt32)), (.int (10 : Int32)), (.ref b15)])) := fun tg_ kg_ => by
      refine r73 tg_ ?_
      show Steps p.tables e below (T73.setTop (mkF m 125 #[.val (.long p0s), .second, .val (.long p1s), .second, .val (.int p2s), .val (.int p3s), .val (.int z11), .val (.int z12), .val (.ref b15), .unset, .unset] [])) _
      refine XS.aload X73.here hx rfl (hb hby at_125) rfl rfl ?_
      show Steps p.tables e below (T73.setTop (mkF m 127 #[.val (.long p0s), .second, .val (.long p1s), .second, .val (.int p2s), .val (.int p3s), .val (.int z11), .val (.int z12), .val (.ref b15), .unset, .unset] [(.ref b15)])) _
      refine XS.bipush X73.here hx rfl (hb hby at_127) ?_
      show Steps p.tables e below (T73.setTop (mkF m 129 #[.val (.long p0s), .second, .val (.long p1s), .second, .val (.int p2s), .val (.int p3s), .val (.int z11), .val (.int z12), .val (.ref b15), .unset, .unset] [(.int (10 : Int32)), (.ref b15)])) _
      refine XS.lloadN X73.here hx rfl (hb hby at_129) rfl ?_
      show Steps p.tables e below (T73.setTop (mkF m 130 #[.val (.long p0s), .second, .val (.long p1s), .second, .val (.int p2s), .val (.int p3s), .val (.int z11), .val (.int z12), .val (.ref b15), .unset, .unset] [(.long p1s), (.int (10 : Int32)), (.ref b15)])) _
      refine XS.bipush X73.here hx rfl (hb hby at_130) ?_
      show Steps p.tables e below (T73.setTop (mkF m 132 #[.val (.long p0s), .second, .val (.long p1s), .second, .val (.int p2s), .val (.int p3s), .val (.int z11), .val (.int z12), .val (.ref b15), .unset, .unset] [(.int (20 : Int32)), (.long p1s), (.int (10 : Int32)), (.ref b15)])) _
      refine XS.lushr X73.here hx rfl (hb hby at_132) rfl ?_
      show Steps p.tables e below (T73.setTop (mkF m 133 #[.val (.long p0s), .second, .val (.long p1s), .second, .val (.int p2s), .val (.int p3s), .val (.int z11), .val (.int z12), .val (.ref b15), .unset, .unset] [(.long ((p1s.toUInt64 >>> ((20 : Int32) &&& 0x3f).toInt64.toUInt64).toInt64)), (.int (10 : Int32)), (.ref b15)])) _
      refine XS.l2i X73.here hx rfl (hb hby at_133) rfl ?_
      show Steps p.tables e below (T73.setTop (mkF m 134 #[.val (.long p0s), .second, .val (.long p1s), .second, .val (.int p2s), .val (.int p3s), .val (.int z11), .val (.int z12), .val (.ref b15), .unset, .unset] [(.int (((p1s.toUInt64 >>> ((20 : Int32) &&& 0x3f).toInt64.toUInt64).toInt64).toInt32)), (.int (10 : Int32)), (.ref b15)])) _
      refine XS.i2b X73.here hx rfl (hb hby at_134) rfl ?_
      exact kg_
    obtain ⟨T79, h79, X79, e79, W79, V79, st79⟩ := own_stB X73 hx hZ e73 (j := (10 : Int32)) F74 (by decide) (by decide) (g := (mkF m 135 #[.val (.long p0s), .second, .val (.long p1s), .second, .val (.int p2s), .val (.int p3s), .val (.int z11), .val (.int z12), .val (.ref b15), .unset, .unset] [(.int ((((p1s.toUInt64 >>> ((20 : Int32) &&& 0x3f).toInt64.toUInt64).toInt64).toInt32).toInt8.toInt32)), (.int (10 : Int32)), (.ref b15)])) rfl rfl (hb hby at_135)
    have V79 : own_Arf Z h79 b15 .byte 12 (fun i => if i = 10 then (.int (nar .byte ((((p1s.toUInt64 >>> ((20 : Int32) &&& 0x3f).toInt64.toUInt64).toInt64).toInt32).toInt8.toInt32))) else (.int (gf73 i))) := V79
    obtain ⟨gf79, hgf79, V79'⟩ := own_nameI (g := gf73) V79
    have F80 : own_Arf Z h79 b15 .byte 12 (fun i => (.int (gf79 i))) := V79'
    have Zs81 : n0 ≤ h79.size := by rw [W79.size]; exact Zs75
    have N82 := Fr.snoc X79 N76 ge15
    have K83 : Keep h0 h79 [] := K77.wr W79 (Or.inr old15)
    have r79 : own_R p.tables e below F0 (T79.setTop (mkF m 136 #[.val (.long p0s), .second, .val (.long p1s), .second, .val (.int p2s), .val (.int p3s), .val (.int z11), .val (.int z12), .val (.ref b15), .unset, .unset] [])) := fun tg_ kg_ => r78 tg_ (st79 tg_ kg_)
    have r84 : own_R p.tables e below F0 (T79.setTop (mkF m 146 #[.val (.long p0s), .second, .val (.long p1s), .second, .val (.int p2s), .val (.int p3s), .val (.int z11), .val (.int z12), .val (.ref b15), .unset, .unset] [(.int ((((p1s.toUInt64 >>> ((28 : Int32) &&& 0x3f).toInt64.toUInt64).toInt64).toInt32).toInt8.toInt32)), (.int (11 : Int32)), (.ref b15)])) := fun tg_ kg_ => by
      refine r79 tg_ ?_
      show Steps p.tables e below (T79.setTop (mkF m 136 #[.val (.long p0s), .second, .val (.long p1s), .second, .val (.int p2s), .val (.int p3s), .val (.int z11), .val (.int z12), .val (.ref b15), .unset, .unset] [])) _
      refine XS.aload X79.here hx rfl (hb hby at_136) rfl rfl ?_
      show Steps p.tables e below (T79.setTop (mkF m 138 #[.val (.long p0s), .second, .val (.long p1s), .second, .val (.int p2s), .val (.int p3s), .val (.int z11), .val (.int z12), .val (.ref b15), .unset, .unset] [(.ref b15)])) _
      refine XS.bipush X79.here hx rfl (hb hby at_138) ?_
      show Steps p.tables e below (T79.setTop (mkF m 140 #[.val (.long p0s), .second, .val (.long p1s), .second, .val (.int p2s), .val (.int p3s), .val (.int z11), .val (.int z12), .val (.ref b15), .unset, .unset] [(.int (11 : Int32)), (.ref b15)])) _
      refine XS.lloadN X79.here hx rfl (hb hby at_140) rfl ?_
      show Steps p.tables e below (T79.setTop (mkF m 141 #[.val (.long p0s), .second, .val (.long p1s), .second, .val (.int p2s), .val (.int p3s), .val (.int z11), .val (.int z12), .val (.ref b15), .unset, .unset] [(.long p1s), (.int (11 : Int32)), (.ref b15)])) _
      refine XS.bipush X79.here hx rfl (hb hby at_141) ?_
      show Steps p.tables e below (T79.setTop (mkF m 143 #[.val (.long p0s), .second, .val (.long p1s), .second, .val (.int p2s), .val (.int p3s), .val (.int z11), .val (.int z12), .val (.ref b15), .unset, .unset] [(.int (28 : Int32)), (.long p1s), (.int (11 : Int32)), (.ref b15)])) _
      refine XS.lushr X79.here hx rfl (hb hby at_143) rfl ?_
      show Steps p.tables e below (T79.setTop (mkF m 144 #[.val (.long p0s), .second, .val (.long p1s), .second, .val (.int p2s), .val (.int p3s), .val (.int z11), .val (.int z12), .val (.ref b15), .unset, .unset] [(.long ((p1s.toUInt64 >>> ((28 : Int32) &&& 0x3f).toInt64.toUInt64).toInt64)), (.int (11 : Int32)), (.ref b15)])) _
      refine XS.l2i X79.here hx rfl (hb hby at_144) rfl ?_
      show Steps p.tables e below (T79.setTop (mkF m 145 #[.val (.long p0s), .second, .val (.long p1s), .second, .val (.int p2s), .val (.int p3s), .val (.int z11), .val (.int z12), .val (.ref b15), .unset, .unset] [(.int (((p1s.toUInt64 >>> ((28 : Int32) &&& 0x3f).toInt64.toUInt64).toInt64).toInt32)), (.int (11 : Int32)), (.ref b15)])) _
      refine XS.i2b X79.here hx rfl (hb hby at_145) rfl ?_
      exact kg_
    obtain ⟨T85, h85, X85, e85, W85, V85, st85⟩ := own_stB X79 hx hZ e79 (j := (11 : Int32)) F80 (by decide) (by decide) (g := (mkF m 146 #[.val (.long p0s), .second, .val (.long p1s), .second, .val (.int p2s), .val (.int p3s), .val (.int z11), .val (.int z12), .val (.ref b15), .unset, .unset] [(.int ((((p1s.toUInt64 >>> ((28 : Int32) &&& 0x3f).toInt64.toUInt64).toInt64).toInt32).toInt8.toInt32)), (.int (11 : Int32)), (.ref b15)])) rfl rfl (hb hby at_146)
    have V85 : own_Arf Z h85 b15 .byte 12 (fun i => if i = 11 then (.int (nar .byte ((((p1s.toUInt64 >>> ((28 : Int32) &&& 0x3f).toInt64.toUInt64).toInt64).toInt32).toInt8.toInt32))) else (.int (gf79 i))) := V85
    obtain ⟨gf85, hgf85, V85'⟩ := own_nameI (g := gf79) V85
    have F86 : own_Arf Z h85 b15 .byte 12 (fun i => (.int (gf85 i))) := V85'
    have Zs87 : n0 ≤ h85.size := by rw [W85.size]; exact Zs81
    have N88 := Fr.snoc X85 N82 ge15
    have K89 : Keep h0 h85 [] := K83.wr W85 (Or.inr old15)
    have r85 : own_R p.tables e below F0 (T85.setTop (mkF m 147 #[.val (.long p0s), .second, .val (.long p1s), .second, .val (.int p2s), .val (.int p3s), .val (.int z11), .val (.int z12), .val (.ref b15), .unset, .unset] [])) := fun tg_ kg_ => r84 tg_ (st85 tg_ kg_)
    have r90 : own_R p.tables e below F0 (T85.setTop (mkF m 157 #[.val (.long p0s), .second, .val (.long p1s), .second, .val (.int p2s), .val (.int p3s), .val (.int z11), .val (.int z12), .val (.ref b15), .unset, .unset] [(.int ((((p0s.toUInt64 >>> ((56 : Int32) &&& 0x3f).toInt64.toUInt64).toInt64).toInt32).toInt8.toInt32)), (.int z12), (.ref b15)])) := fun tg_ kg_ => by
      refine r85 tg_ ?_
      show Steps p.tables e below (T85.setTop (mkF m 147 #[.val (.long p0s), .second, .val (.long p1s), .second, .val (.int p2s), .val (.int p3s), .val (.int z11), .val (.int z12), .val (.ref b15), .unset, .unset] [])) _
      refine XS.aload X85.here hx rfl (hb hby at_147) rfl rfl ?_
      show Steps p.tables e below (T85.setTop (mkF m 149 #[.val (.long p0s), .second, .val (.long p1s), .second, .val (.int p2s), .val (.int p3s), .val (.int z11), .val (.int z12), .val (.ref b15), .unset, .unset] [(.ref b15)])) _
      refine XS.iload X85.here hx rfl (hb hby at_149) rfl ?_
      show Steps p.tables e below (T85.setTop (mkF m 151 #[.val (.long p0s), .second, .val (.long p1s), .second, .val (.int p2s), .val (.int p3s), .val (.int z11), .val (.int z12), .val (.ref b15), .unset, .unset] [(.int z12), (.ref b15)])) _
      refine XS.lloadN X85.here hx rfl (hb hby at_151) rfl ?_
      show Steps p.tables e below (T85.setTop (mkF m 152 #[.val (.long p0s), .second, .val (.long p1s), .second, .val (.int p2s), .val (.int p3s), .val (.int z11), .val (.int z12), .val (.ref b15), .unset, .unset] [(.long p0s), (.int z12), (.ref b15)])) _
      refine XS.bipush X85.here hx rfl (hb hby at_152) ?_
      show Steps p.tables e below (T85.setTop (mkF m 154 #[.val (.long p0s), .second, .val (.long p1s), .second, .val (.int p2s), .val (.int p3s), .val (.int z11), .val (.int z12), .val (.ref b15), .unset, .unset] [(.int (56 : Int32)), (.long p0s), (.int z12), (.ref b15)])) _
      refine XS.lushr X85.here hx rfl (hb hby at_154) rfl ?_
      show Steps p.tables e below (T85.setTop (mkF m 155 #[.val (.long p0s), .second, .val (.long p1s), .second, .val (.int p2s), .val (.int p3s), .val (.int z11), .val (.int z12), .val (.ref b15), .unset, .unset] [(.long ((p0s.toUInt64 >>> ((56 : Int32) &&& 0x3f).toInt64.toUInt64).toInt64)), (.int z12), (.ref b15)])) _
      refine XS.l2i X85.here hx rfl (hb hby at_155) rfl ?_
      show Steps p.tables e below (T85.setTop (mkF m 156 #[.val (.long p0s), .second, .val (.long p1s), .second, .val (.int p2s), .val (.int p3s), .val (.int z11), .val (.int z12), .val (.ref b15), .unset, .unset] [(.int (((p0s.toUInt64 >>> ((56 : Int32) &&& 0x3f).toInt64.toUInt64).toInt64).toInt32)), (.int z12), (.ref b15)])) _
      refine XS.i2b X85.here hx rfl (hb hby at_156) rfl ?_
      exact kg_
    obtain ⟨T91, h91, X91, e91, W91, V91, st91⟩ := own_stB X85 hx hZ e85 (j := z12) F86 (by
    
          omega) (by
    
          omega) (g := (mkF m 157 #[.val (.long p0s), .second, .val (.long p1s), .second, .val (.int p2s), .val (.int p3s), .val (.int z11), .val (.int z12), .val (.ref b15), .unset, .unset] [(.int ((((p0s.toUInt64 >>> ((56 : Int32) &&& 0x3f).toInt64.toUInt64).toInt64).toInt32).toInt8.toInt32)), (.int z12), (.ref b15)])) rfl rfl (hb hby at_157)
    rw [show (z12).toNatClampNeg = (A + 0) from (own_clamp (by
    
          omega))] at V91
    obtain ⟨gf91, hgf91, V91'⟩ := own_nameI (g := gf85) V91
    have F92 : own_Arf Z h91 b15 .byte 12 (fun i => (.int (gf91 i))) := V91'
    have Zs93 : n0 ≤ h91.size := by rw [W91.size]; exact Zs87
    have N94 := Fr.snoc X91 N88 ge15
    have K95 : Keep h0 h91 [] := K89.wr W91 (Or.inr old15)
    have r91 : own_R p.tables e below F0 (T91.setTop (mkF m 158 #[.val (.long p0s), .second, .val (.long p1s), .second, .val (.int p2s), .val (.int p3s), .val (.int z11), .val (.int z12), .val (.ref b15), .unset, .unset] [])) := fun tg_ kg_ => r90 tg_ (st91 tg_ kg_)
    have r96 : own_R p.tables e below F0 (T91.setTop (mkF m 170 #[.val (.long p0s), .second, .val (.long p1s), .second, .val (.int p2s), .val (.int p3s), .val (.int z11), .val (.int z12), .val (.ref b15), .unset, .unset] [(.int ((((p0s.toUInt64 >>> ((48 : Int32) &&& 0x3f).toInt64.toUInt64).toInt64).toInt32).toInt8.toInt32)), (.int (z12 + (1 : Int32))), (.ref b15)])) := fun tg_ kg_ => by
      refine r91 tg_ ?_
      show Steps p.tables e below (T91.setTop (mkF m 158 #[.val (.long p0s), .second, .val (.long p1s), .second, .val (.int p2s), .val (.int p3s), .val (.int z11), .val (.int z12), .val (.ref b15), .unset, .unset] [])) _
      refine XS.aload X91.here hx rfl (hb hby at_158) rfl rfl ?_
      show Steps p.tables e below (T91.setTop (mkF m 160 #[.val (.long p0s), .second, .val (.long p1s), .second, .val (.int p2s), .val (.int p3s), .val (.int z11), .val (.int z12), .val (.ref b15), .unset, .unset] [(.ref b15)])) _
      refine XS.iload X91.here hx rfl (hb hby at_160) rfl ?_
      show Steps p.tables e below (T91.setTop (mkF m 162 #[.val (.long p0s), .second, .val (.long p1s), .second, .val (.int p2s), .val (.int p3s), .val (.int z11), .val (.int z12), .val (.ref b15), .unset, .unset] [(.int z12), (.ref b15)])) _
      refine XS.iconst X91.here hx rfl (hb hby at_162) ?_
      show Steps p.tables e below (T91.setTop (mkF m 163 #[.val (.long p0s), .second, .val (.long p1s), .second, .val (.int p2s), .val (.int p3s), .val (.int z11), .val (.int z12), .val (.ref b15), .unset, .unset] [(.int (1 : Int32)), (.int z12), (.ref b15)])) _
      refine XS.iadd X91.here hx rfl (hb hby at_163) rfl ?_
      show Steps p.tables e below (T91.setTop (mkF m 164 #[.val (.long p0s), .second, .val (.long p1s), .second, .val (.int p2s), .val (.int p3s), .val (.int z11), .val (.int z12), .val (.ref b15), .unset, .unset] [(.int (z12 + (1 : Int32))), (.ref b15)])) _
      refine XS.lloadN X91.here hx rfl (hb hby at_164) rfl ?_
      show Steps p.tables e below (T91.setTop (mkF m 165 #[.val (.long p0s), .second, .val (.long p1s), .second, .val (.int p2s), .val (.int p3s), .val (.int z11), .val (.int z12), .val (.ref b15), .unset, .unset] [(.long p0s), (.int (z12 + (1 : Int32))), (.ref b15)])) _
      refine XS.bipush X91.here hx rfl (hb hby at_165) ?_
      show Steps p.tables e below (T91.setTop (mkF m 167 #[.val (.long p0s), .second, .val (.long p1s), .second, .val (.int p2s), .val (.int p3s), .val (.int z11), .val (.int z12), .val (.ref b15), .unset, .unset] [(.int (48 : Int32)), (.long p0s), (.int (z12 + (1 : Int32))), (.ref b15)])) _
      refine XS.lushr X91.here hx rfl (hb hby at_167) rfl ?_
      show Steps p.tables e below (T91.setTop (mkF m 168 #[.val (.long p0s), .second, .val (.long p1s), .second, .val (.int p2s), .val (.int p3s), .val (.int z11), .val (.int z12), .val (.ref b15), .unset, .unset] [(.long ((p0s.toUInt64 >>> ((48 : Int32) &&& 0x3f).toInt64.toUInt64).toInt64)), (.int (z12 + (1 : Int32))), (.ref b15)])) _
      refine XS.l2i X91.here hx rfl (hb hby at_168) rfl ?_
      show Steps p.tables e below (T91.setTop (mkF m 169 #[.val (.long p0s), .second, .val (.long p1s), .second, .val (.int p2s), .val (.int p3s), .val (.int z11), .val (.int z12), .val (.ref b15), .unset, .unset] [(.int (((p0s.toUInt64 >>> ((48 : Int32) &&& 0x3f).toInt64.toUInt64).toInt64).toInt32)), (.int (z12 + (1 : Int32))), (.ref b15)])) _
      refine XS.i2b X91.here hx rfl (hb hby at_169) rfl ?_
      exact kg_
    obtain ⟨T97, h97, X97, e97, W97, V97, st97⟩ := own_stB X91 hx hZ e91 (j := (z12 + (1 : Int32))) F92 (by
          have q187_r := own_R32 p2s
          have q188_e : (2147483647 : Int32).toInt = 2147483647 := (by decide)
          have q188_r : (2147483647 : Int) ≤ (2147483647 : Int32).toInt ∧ (2147483647 : Int32).toInt ≤ 2147483647 := ⟨Int.le_of_eq q188_e.symm, Int.le_of_eq q188_e⟩
          have q189_ := own_maskR p2s (2147483647 : Int32) 31 2147483648 (by decide) (by decide) (by decide) 2147483647 (by decide) (by decide)
          have q189_e := q189_.1
          have q189_r := q189_.2
          have q190_e : (5 : Int32).toInt = 5 := (by decide)
          have q190_r : (5 : Int) ≤ (5 : Int32).toInt ∧ (5 : Int32).toInt ≤ 5 := ⟨Int.le_of_eq q190_e.symm, Int.le_of_eq q190_e⟩
          have q191_ := own_iremR 4 q189_r (show (5 : Int32).toInt = 5 from by decide) (by decide) (by decide) (by decide)
          have q191_e := q191_.1
          have q191_r := q191_.2
          have q192_ := own_eqR32 hz12 q191_r
          have q192_e := q192_.1
          have q192_r := q192_.2
          have q193_e : (1 : Int32).toInt = 1 := (by decide)
          have q193_r : (1 : Int) ≤ (1 : Int32).toInt ∧ (1 : Int32).toInt ≤ 1 := ⟨Int.le_of_eq q193_e.symm, Int.le_of_eq q193_e⟩
          have q194_ := own_iaddR (1) (5) q192_r q193_r (by decide) (by decide)
          have q194_e := q194_.1
          have q194_r := q194_.2
          omega) (by
          have q187_r := own_R32 p2s
          have q188_e : (2147483647 : Int32).toInt = 2147483647 := (by decide)
          have q188_r : (2147483647 : Int) ≤ (2147483647 : Int32).toInt ∧ (2147483647 : Int32).toInt ≤ 2147483647 := ⟨Int.le_of_eq q188_e.symm, Int.le_of_eq q188_e⟩
          have q189_ := own_maskR p2s (2147483647 : Int32) 31 2147483648 (by decide) (by decide) (by decide) 2147483647 (by decide) (by decide)
          have q189_e := q189_.1
          have q189_r := q189_.2
          have q190_e : (5 : Int32).toInt = 5 := (by decide)
          have q190_r : (5 : Int) ≤ (5 : Int32).toInt ∧ (5 : Int32).toInt ≤ 5 := ⟨Int.le_of_eq q190_e.symm, Int.le_of_eq q190_e⟩
          have q191_ := own_iremR 4 q189_r (show (5 : Int32).toInt = 5 from by decide) (by decide) (by decide) (by decide)
          have q191_e := q191_.1
          have q191_r := q191_.2
          have q192_ := own_eqR32 hz12 q191_r
          have q192_e := q192_.1
          have q192_r := q192_.2
          have q193_e : (1 : Int32).toInt = 1 := (by decide)
          have q193_r : (1 : Int) ≤ (1 : Int32).toInt ∧ (1 : Int32).toInt ≤ 1 := ⟨Int.le_of_eq q193_e.symm, Int.le_of_eq q193_e⟩
          have q194_ := own_iaddR (1) (5) q192_r q193_r (by decide) (by decide)
          have q194_e := q194_.1
          have q194_r := q194_.2
          omega) (g := (mkF m 170 #[.val (.long p0s), .second, .val (.long p1s), .second, .val (.int p2s), .val (.int p3s), .val (.int z11), .val (.int z12), .val (.ref b15), .unset, .unset] [(.int ((((p0s.toUInt64 >>> ((48 : Int32) &&& 0x3f).toInt64.toUInt64).toInt64).toInt32).toInt8.toInt32)), (.int (z12 + (1 : Int32))), (.ref b15)])) rfl rfl (hb hby at_170)
    rw [show ((z12 + (1 : Int32))).toNatClampNeg = (A + 1) from (own_clamp (by
          have q195_r := own_R32 p2s
          have q196_e : (2147483647 : Int32).toInt = 2147483647 := (by decide)
          have q196_r : (2147483647 : Int) ≤ (2147483647 : Int32).toInt ∧ (2147483647 : Int32).toInt ≤ 2147483647 := ⟨Int.le_of_eq q196_e.symm, Int.le_of_eq q196_e⟩
          have q197_ := own_maskR p2s (2147483647 : Int32) 31 2147483648 (by decide) (by decide) (by decide) 2147483647 (by decide) (by decide)
          have q197_e := q197_.1
          have q197_r := q197_.2
          have q198_e : (5 : Int32).toInt = 5 := (by decide)
          have q198_r : (5 : Int) ≤ (5 : Int32).toInt ∧ (5 : Int32).toInt ≤ 5 := ⟨Int.le_of_eq q198_e.symm, Int.le_of_eq q198_e⟩
          have q199_ := own_iremR 4 q197_r (show (5 : Int32).toInt = 5 from by decide) (by decide) (by decide) (by decide)
          have q199_e := q199_.1
          have q199_r := q199_.2
          have q200_ := own_eqR32 hz12 q199_r
          have q200_e := q200_.1
          have q200_r := q200_.2
          have q201_e : (1 : Int32).toInt = 1 := (by decide)
          have q201_r : (1 : Int) ≤ (1 : Int32).toInt ∧ (1 : Int32).toInt ≤ 1 := ⟨Int.le_of_eq q201_e.symm, Int.le_of_eq q201_e⟩
          have q202_ := own_iaddR (1) (5) q200_r q201_r (by decide) (by decide)
          have q202_e := q202_.1
          have q202_r := q202_.2
          omega))] at V97
    obtain ⟨gf97, hgf97, V97'⟩ := own_nameI (g := gf91) V97
    have F98 : own_Arf Z h97 b15 .byte 12 (fun i => (.int (gf97 i))) := V97'
    have Zs99 : n0 ≤ h97.size := by rw [W97.size]; exact Zs93
    have N100 := Fr.snoc X97 N94 ge15
    have K101 : Keep h0 h97 [] := K95.wr W97 (Or.inr old15)
    have r97 : own_R p.tables e below F0 (T97.setTop (mkF m 171 #[.val (.long p0s), .second, .val (.long p1s), .second, .val (.int p2s), .val (.int p3s), .val (.int z11), .val (.int z12), .val (.ref b15), .unset, .unset] [])) := fun tg_ kg_ => r96 tg_ (st97 tg_ kg_)
    have r102 : own_R p.tables e below F0 (T97.setTop (mkF m 183 #[.val (.long p0s), .second, .val (.long p1s), .second, .val (.int p2s), .val (.int p3s), .val (.int z11), .val (.int z12), .val (.ref b15), .unset, .unset] [(.int ((((p0s.toUInt64 >>> ((40 : Int32) &&& 0x3f).toInt64.toUInt64).toInt64).toInt32).toInt8.toInt32)), (.int (z12 + (2 : Int32))), (.ref b15)])) := fun tg_ kg_ => by
      refine r97 tg_ ?_
      show Steps p.tables e below (T97.setTop (mkF m 171 #[.val (.long p0s), .second, .val (.long p1s), .second, .val (.int p2s), .val (.int p3s), .val (.int z11), .val (.int z12), .val (.ref b15), .unset, .unset] [])) _
      refine XS.aload X97.here hx rfl (hb hby at_171) rfl rfl ?_
      show Steps p.tables e below (T97.setTop (mkF m 173 #[.val (.long p0s), .second, .val (.long p1s), .second, .val (.int p2s), .val (.int p3s), .val (.int z11), .val (.int z12), .val (.ref b15), .unset, .unset] [(.ref b15)])) _
      refine XS.iload X97.here hx rfl (hb hby at_173) rfl ?_
      show Steps p.tables e below (T97.setTop (mkF m 175 #[.val (.long p0s), .second, .val (.long p1s), .second, .val (.int p2s), .val (.int p3s), .val (.int z11), .val (.int z12), .val (.ref b15), .unset, .unset] [(.int z12), (.ref b15)])) _
      refine XS.iconst X97.here hx rfl (hb hby at_175) ?_
      show Steps p.tables e below (T97.setTop (mkF m 176 #[.val (.long p0s), .second, .val (.long p1s), .second, .val (.int p2s), .val (.int p3s), .val (.int z11), .val (.int z12), .val (.ref b15), .unset, .unset] [(.int (2 : Int32)), (.int z12), (.ref b15)])) _
      refine XS.iadd X97.here hx rfl (hb hby at_176) rfl ?_
      show Steps p.tables e below (T97.setTop (mkF m 177 #[.val (.long p0s), .second, .val (.long p1s), .second, .val (.int p2s), .val (.int p3s), .val (.int z11), .val (.int z12), .val (.ref b15), .unset, .unset] [(.int (z12 + (2 : Int32))), (.ref b15)])) _
      refine XS.lloadN X97.here hx rfl (hb hby at_177) rfl ?_
      show Steps p.tables e below (T97.setTop (mkF m 178 #[.val (.long p0s), .second, .val (.long p1s), .second, .val (.int p2s), .val (.int p3s), .val (.int z11), .val (.int z12), .val (.ref b15), .unset, .unset] [(.long p0s), (.int (z12 + (2 : Int32))), (.ref b15)])) _
      refine XS.bipush X97.here hx rfl (hb hby at_178) ?_
      show Steps p.tables e below (T97.setTop (mkF m 180 #[.val (.long p0s), .second, .val (.long p1s), .second, .val (.int p2s), .val (.int p3s), .val (.int z11), .val (.int z12), .val (.ref b15), .unset, .unset] [(.int (40 : Int32)), (.long p0s), (.int (z12 + (2 : Int32))), (.ref b15)])) _
      refine XS.lushr X97.here hx rfl (hb hby at_180) rfl ?_
      show Steps p.tables e below (T97.setTop (mkF m 181 #[.val (.long p0s), .second, .val (.long p1s), .second, .val (.int p2s), .val (.int p3s), .val (.int z11), .val (.int z12), .val (.ref b15), .unset, .unset] [(.long ((p0s.toUInt64 >>> ((40 : Int32) &&& 0x3f).toInt64.toUInt64).toInt64)), (.int (z12 + (2 : Int32))), (.ref b15)])) _
      refine XS.l2i X97.here hx rfl (hb hby at_181) rfl ?_
      show Steps p.tables e below (T97.setTop (mkF m 182 #[.val (.long p0s), .second, .val (.long p1s), .second, .val (.int p2s), .val (.int p3s), .val (.int z11), .val (.int z12), .val (.ref b15), .unset, .unset] [(.int (((p0s.toUInt64 >>> ((40 : Int32) &&& 0x3f).toInt64.toUInt64).toInt64).toInt32)), (.int (z12 + (2 : Int32))), (.ref b15)])) _
      refine XS.i2b X97.here hx rfl (hb hby at_182) rfl ?_
      exact kg_
    obtain ⟨T103, h103, X103, e103, W103, V103, st103⟩ := own_stB X97 hx hZ e97 (j := (z12 + (2 : Int32))) F98 (by
          have q203_r := own_R32 p2s
          have q204_e : (2147483647 : Int32).toInt = 2147483647 := (by decide)
          have q204_r : (2147483647 : Int) ≤ (2147483647 : Int32).toInt ∧ (2147483647 : Int32).toInt ≤ 2147483647 := ⟨Int.le_of_eq q204_e.symm, Int.le_of_eq q204_e⟩
          have q205_ := own_maskR p2s (2147483647 : Int32) 31 2147483648 (by decide) (by decide) (by decide) 2147483647 (by decide) (by decide)
          have q205_e := q205_.1
          have q205_r := q205_.2
          have q206_e : (5 : Int32).toInt = 5 := (by decide)
          have q206_r : (5 : Int) ≤ (5 : Int32).toInt ∧ (5 : Int32).toInt ≤ 5 := ⟨Int.le_of_eq q206_e.symm, Int.le_of_eq q206_e⟩
          have q207_ := own_iremR 4 q205_r (show (5 : Int32).toInt = 5 from by decide) (by decide) (by decide) (by decide)
          have q207_e := q207_.1
          have q207_r := q207_.2
          have q208_ := own_eqR32 hz12 q207_r
          have q208_e := q208_.1
          have q208_r := q208_.2
          have q209_e : (2 : Int32).toInt = 2 := (by decide)
          have q209_r : (2 : Int) ≤ (2 : Int32).toInt ∧ (2 : Int32).toInt ≤ 2 := ⟨Int.le_of_eq q209_e.symm, Int.le_of_eq q209_e⟩
          have q210_ := own_iaddR (2) (6) q208_r q209_r (by decide) (by decide)
          have q210_e := q210_.1
          have q210_r := q210_.2
          omega) (by
          have q203_r := own_R32 p2s
          have q204_e : (2147483647 : Int32).toInt = 2147483647 := (by decide)
          have q204_r : (2147483647 : Int) ≤ (2147483647 : Int32).toInt ∧ (2147483647 : Int32).toInt ≤ 2147483647 := ⟨Int.le_of_eq q204_e.symm, Int.le_of_eq q204_e⟩
          have q205_ := own_maskR p2s (2147483647 : Int32) 31 2147483648 (by decide) (by decide) (by decide) 2147483647 (by decide) (by decide)
          have q205_e := q205_.1
          have q205_r := q205_.2
          have q206_e : (5 : Int32).toInt = 5 := (by decide)
          have q206_r : (5 : Int) ≤ (5 : Int32).toInt ∧ (5 : Int32).toInt ≤ 5 := ⟨Int.le_of_eq q206_e.symm, Int.le_of_eq q206_e⟩
          have q207_ := own_iremR 4 q205_r (show (5 : Int32).toInt = 5 from by decide) (by decide) (by decide) (by decide)
          have q207_e := q207_.1
          have q207_r := q207_.2
          have q208_ := own_eqR32 hz12 q207_r
          have q208_e := q208_.1
          have q208_r := q208_.2
          have q209_e : (2 : Int32).toInt = 2 := (by decide)
          have q209_r : (2 : Int) ≤ (2 : Int32).toInt ∧ (2 : Int32).toInt ≤ 2 := ⟨Int.le_of_eq q209_e.symm, Int.le_of_eq q209_e⟩
          have q210_ := own_iaddR (2) (6) q208_r q209_r (by decide) (by decide)
          have q210_e := q210_.1
          have q210_r := q210_.2
          omega) (g := (mkF m 183 #[.val (.long p0s), .second, .val (.long p1s), .second, .val (.int p2s), .val (.int p3s), .val (.int z11), .val (.int z12), .val (.ref b15), .unset, .unset] [(.int ((((p0s.toUInt64 >>> ((40 : Int32) &&& 0x3f).toInt64.toUInt64).toInt64).toInt32).toInt8.toInt32)), (.int (z12 + (2 : Int32))), (.ref b15)])) rfl rfl (hb hby at_183)
    rw [show ((z12 + (2 : Int32))).toNatClampNeg = (A + 2) from (own_clamp (by
          have q211_r := own_R32 p2s
          have q212_e : (2147483647 : Int32).toInt = 2147483647 := (by decide)
          have q212_r : (2147483647 : Int) ≤ (2147483647 : Int32).toInt ∧ (2147483647 : Int32).toInt ≤ 2147483647 := ⟨Int.le_of_eq q212_e.symm, Int.le_of_eq q212_e⟩
          have q213_ := own_maskR p2s (2147483647 : Int32) 31 2147483648 (by decide) (by decide) (by decide) 2147483647 (by decide) (by decide)
          have q213_e := q213_.1
          have q213_r := q213_.2
          have q214_e : (5 : Int32).toInt = 5 := (by decide)
          have q214_r : (5 : Int) ≤ (5 : Int32).toInt ∧ (5 : Int32).toInt ≤ 5 := ⟨Int.le_of_eq q214_e.symm, Int.le_of_eq q214_e⟩
          have q215_ := own_iremR 4 q213_r (show (5 : Int32).toInt = 5 from by decide) (by decide) (by decide) (by decide)
          have q215_e := q215_.1
          have q215_r := q215_.2
          have q216_ := own_eqR32 hz12 q215_r
          have q216_e := q216_.1
          have q216_r := q216_.2
          have q217_e : (2 : Int32).toInt = 2 := (by decide)
          have q217_r : (2 : Int) ≤ (2 : Int32).toInt ∧ (2 : Int32).toInt ≤ 2 := ⟨Int.le_of_eq q217_e.symm, Int.le_of_eq q217_e⟩
          have q218_ := own_iaddR (2) (6) q216_r q217_r (by decide) (by decide)
          have q218_e := q218_.1
          have q218_r := q218_.2
          omega))] at V103
    obtain ⟨gf103, hgf103, V103'⟩ := own_nameI (g := gf97) V103
    have F104 : own_Arf Z h103 b15 .byte 12 (fun i => (.int (gf103 i))) := V103'
    have Zs105 : n0 ≤ h103.size := by rw [W103.size]; exact Zs99
    have N106 := Fr.snoc X103 N100 ge15
    have K107 : Keep h0 h103 [] := K101.wr W103 (Or.inr old15)
    have r103 : own_R p.tables e below F0 (T103.setTop (mkF m 184 #[.val (.long p0s), .second, .val (.long p1s), .second, .val (.int p2s), .val (.int p3s), .val (.int z11), .val (.int z12), .val (.ref b15), .unset, .unset] [])) := fun tg_ kg_ => r102 tg_ (st103 tg_ kg_)
    have r108 : own_R p.tables e below F0 (T103.setTop (mkF m 196 #[.val (.long p0s), .second, .val (.long p1s), .second, .val (.int p2s), .val (.int p3s), .val (.int z11), .val (.int z12), .val (.ref b15), .unset, .unset] [(.int ((((p0s.toUInt64 >>> ((32 : Int32) &&& 0x3f).toInt64.toUInt64).toInt64).toInt32).toInt8.toInt32)), (.int (z12 + (3 : Int32))), (.ref b15)])) := fun tg_ kg_ => by
      refine r103 tg_ ?_
      show Steps p.tables e below (T103.setTop (mkF m 184 #[.val (.long p0s), .second, .val (.long p1s), .second, .val (.int p2s), .val (.int p3s), .val (.int z11), .val (.int z12), .val (.ref b15), .unset, .unset] [])) _
      refine XS.aload X103.here hx rfl (hb hby at_184) rfl rfl ?_
      show Steps p.tables e below (T103.setTop (mkF m 186 #[.val (.long p0s), .second, .val (.long p1s), .second, .val (.int p2s), .val (.int p3s), .val (.int z11), .val (.int z12), .val (.ref b15), .unset, .unset] [(.ref b15)])) _
      refine XS.iload X103.here hx rfl (hb hby at_186) rfl ?_
      show Steps p.tables e below (T103.setTop (mkF m 188 #[.val (.long p0s), .second, .val (.long p1s), .second, .val (.int p2s), .val (.int p3s), .val (.int z11), .val (.int z12), .val (.ref b15), .unset, .unset] [(.int z12), (.ref b15)])) _
      refine XS.iconst X103.here hx rfl (hb hby at_188) ?_
      show Steps p.tables e below (T103.setTop (mkF m 189 #[.val (.long p0s), .second, .val (.long p1s), .second, .val (.int p2s), .val (.int p3s), .val (.int z11), .val (.int z12), .val (.ref b15), .unset, .unset] [(.int (3 : Int32)), (.int z12), (.ref b15)])) _
      refine XS.iadd X103.here hx rfl (hb hby at_189) rfl ?_
      show Steps p.tables e below (T103.setTop (mkF m 190 #[.val (.long p0s), .second, .val (.long p1s), .second, .val (.int p2s), .val (.int p3s), .val (.int z11), .val (.int z12), .val (.ref b15), .unset, .unset] [(.int (z12 + (3 : Int32))), (.ref b15)])) _
      refine XS.lloadN X103.here hx rfl (hb hby at_190) rfl ?_
      show Steps p.tables e below (T103.setTop (mkF m 191 #[.val (.long p0s), .second, .val (.long p1s), .second, .val (.int p2s), .val (.int p3s), .val (.int z11), .val (.int z12), .val (.ref b15), .unset, .unset] [(.long p0s), (.int (z12 + (3 : Int32))), (.ref b15)])) _
      refine XS.bipush X103.here hx rfl (hb hby at_191) ?_
      show Steps p.tables e below (T103.setTop (mkF m 193 #[.val (.long p0s), .second, .val (.long p1s), .second, .val (.int p2s), .val (.int p3s), .val (.int z11), .val (.int z12), .val (.ref b15), .unset, .unset] [(.int (32 : Int32)), (.long p0s), (.int (z12 + (3 : Int32))), (.ref b15)])) _
      refine XS.lushr X103.here hx rfl (hb hby at_193) rfl ?_
      show Steps p.tables e below (T103.setTop (mkF m 194 #[.val (.long p0s), .second, .val (.long p1s), .second, .val (.int p2s), .val (.int p3s), .val (.int z11), .val (.int z12), .val (.ref b15), .unset, .unset] [(.long ((p0s.toUInt64 >>> ((32 : Int32) &&& 0x3f).toInt64.toUInt64).toInt64)), (.int (z12 + (3 : Int32))), (.ref b15)])) _
      refine XS.l2i X103.here hx rfl (hb hby at_194) rfl ?_
      show Steps p.tables e below (T103.setTop (mkF m 195 #[.val (.long p0s), .second, .val (.long p1s), .second, .val (.int p2s), .val (.int p3s), .val (.int z11), .val (.int z12), .val (.ref b15), .unset, .unset] [(.int (((p0s.toUInt64 >>> ((32 : Int32) &&& 0x3f).toInt64.toUInt64).toInt64).toInt32)), (.int (z12 + (3 : Int32))), (.ref b15)])) _
      refine XS.i2b X103.here hx rfl (hb hby at_195) rfl ?_
      exact kg_
    obtain ⟨T109, h109, X109, e109, W109, V109, st109⟩ := own_stB X103 hx hZ e103 (j := (z12 + (3 : Int32))) F104 (by
          have q219_r := own_R32 p2s
          have q220_e : (2147483647 : Int32).toInt = 2147483647 := (by decide)
          have q220_r : (2147483647 : Int) ≤ (2147483647 : Int32).toInt ∧ (2147483647 : Int32).toInt ≤ 2147483647 := ⟨Int.le_of_eq q220_e.symm, Int.le_of_eq q220_e⟩
          have q221_ := own_maskR p2s (2147483647 : Int32) 31 2147483648 (by decide) (by decide) (by decide) 2147483647 (by decide) (by decide)
          have q221_e := q221_.1
          have q221_r := q221_.2
          have q222_e : (5 : Int32).toInt = 5 := (by decide)
          have q222_r : (5 : Int) ≤ (5 : Int32).toInt ∧ (5 : Int32).toInt ≤ 5 := ⟨Int.le_of_eq q222_e.symm, Int.le_of_eq q222_e⟩
          have q223_ := own_iremR 4 q221_r (show (5 : Int32).toInt = 5 from by decide) (by decide) (by decide) (by decide)
          have q223_e := q223_.1
          have q223_r := q223_.2
          have q224_ := own_eqR32 hz12 q223_r
          have q224_e := q224_.1
          have q224_r := q224_.2
          have q225_e : (3 : Int32).toInt = 3 := (by decide)
          have q225_r : (3 : Int) ≤ (3 : Int32).toInt ∧ (3 : Int32).toInt ≤ 3 := ⟨Int.le_of_eq q225_e.symm, Int.le_of_eq q225_e⟩
          have q226_ := own_iaddR (3) (7) q224_r q225_r (by decide) (by decide)
          have q226_e := q226_.1
          have q226_r := q226_.2
          omega) (by
          have q219_r := own_R32 p2s
          have q220_e : (2147483647 : Int32).toInt = 2147483647 := (by decide)
          have q220_r : (2147483647 : Int) ≤ (2147483647 : Int32).toInt ∧ (2147483647 : Int32).toInt ≤ 2147483647 := ⟨Int.le_of_eq q220_e.symm, Int.le_of_eq q220_e⟩
          have q221_ := own_maskR p2s (2147483647 : Int32) 31 2147483648 (by decide) (by decide) (by decide) 2147483647 (by decide) (by decide)
          have q221_e := q221_.1
          have q221_r := q221_.2
          have q222_e : (5 : Int32).toInt = 5 := (by decide)
          have q222_r : (5 : Int) ≤ (5 : Int32).toInt ∧ (5 : Int32).toInt ≤ 5 := ⟨Int.le_of_eq q222_e.symm, Int.le_of_eq q222_e⟩
          have q223_ := own_iremR 4 q221_r (show (5 : Int32).toInt = 5 from by decide) (by decide) (by decide) (by decide)
          have q223_e := q223_.1
          have q223_r := q223_.2
          have q224_ := own_eqR32 hz12 q223_r
          have q224_e := q224_.1
          have q224_r := q224_.2
          have q225_e : (3 : Int32).toInt = 3 := (by decide)
          have q225_r : (3 : Int) ≤ (3 : Int32).toInt ∧ (3 : Int32).toInt ≤ 3 := ⟨Int.le_of_eq q225_e.symm, Int.le_of_eq q225_e⟩
          have q226_ := own_iaddR (3) (7) q224_r q225_r (by decide) (by decide)
          have q226_e := q226_.1
          have q226_r := q226_.2
          omega) (g := (mkF m 196 #[.val (.long p0s), .second, .val (.long p1s), .second, .val (.int p2s), .val (.int p3s), .val (.int z11), .val (.int z12), .val (.ref b15), .unset, .unset] [(.int ((((p0s.toUInt64 >>> ((32 : Int32) &&& 0x3f).toInt64.toUInt64).toInt64).toInt32).toInt8.toInt32)), (.int (z12 + (3 : Int32))), (.ref b15)])) rfl rfl (hb hby at_196)
    rw [show ((z12 + (3 : Int32))).toNatClampNeg = (A + 3) from (own_clamp (by
          have q227_r := own_R32 p2s
          have q228_e : (2147483647 : Int32).toInt = 2147483647 := (by decide)
          have q228_r : (2147483647 : Int) ≤ (2147483647 : Int32).toInt ∧ (2147483647 : Int32).toInt ≤ 2147483647 := ⟨Int.le_of_eq q228_e.symm, Int.le_of_eq q228_e⟩
          have q229_ := own_maskR p2s (2147483647 : Int32) 31 2147483648 (by decide) (by decide) (by decide) 2147483647 (by decide) (by decide)
          have q229_e := q229_.1
          have q229_r := q229_.2
          have q230_e : (5 : Int32).toInt = 5 := (by decide)
          have q230_r : (5 : Int) ≤ (5 : Int32).toInt ∧ (5 : Int32).toInt ≤ 5 := ⟨Int.le_of_eq q230_e.symm, Int.le_of_eq q230_e⟩
          have q231_ := own_iremR 4 q229_r (show (5 : Int32).toInt = 5 from by decide) (by decide) (by decide) (by decide)
          have q231_e := q231_.1
          have q231_r := q231_.2
          have q232_ := own_eqR32 hz12 q231_r
          have q232_e := q232_.1
          have q232_r := q232_.2
          have q233_e : (3 : Int32).toInt = 3 := (by decide)
          have q233_r : (3 : Int) ≤ (3 : Int32).toInt ∧ (3 : Int32).toInt ≤ 3 := ⟨Int.le_of_eq q233_e.symm, Int.le_of_eq q233_e⟩
          have q234_ := own_iaddR (3) (7) q232_r q233_r (by decide) (by decide)
          have q234_e := q234_.1
          have q234_r := q234_.2
          omega))] at V109
    obtain ⟨gf109, hgf109, V109'⟩ := own_nameI (g := gf103) V109
    have F110 : own_Arf Z h109 b15 .byte 12 (fun i => (.int (gf109 i))) := V109'
    have Zs111 : n0 ≤ h109.size := by rw [W109.size]; exact Zs105
    have N112 := Fr.snoc X109 N106 ge15
    have K113 : Keep h0 h109 [] := K107.wr W109 (Or.inr old15)
    have r109 : own_R p.tables e below F0 (T109.setTop (mkF m 197 #[.val (.long p0s), .second, .val (.long p1s), .second, .val (.int p2s), .val (.int p3s), .val (.int z11), .val (.int z12), .val (.ref b15), .unset, .unset] [])) := fun tg_ kg_ => r108 tg_ (st109 tg_ kg_)
    have r114 : own_R p.tables e below F0 (T109.setTop (mkF m 209 #[.val (.long p0s), .second, .val (.long p1s), .second, .val (.int p2s), .val (.int p3s), .val (.int z11), .val (.int z12), .val (.ref b15), .unset, .unset] [(.int ((((p0s.toUInt64 >>> ((24 : Int32) &&& 0x3f).toInt64.toUInt64).toInt64).toInt32).toInt8.toInt32)), (.int (z12 + (4 : Int32))), (.ref b15)])) := fun tg_ kg_ => by
      refine r109 tg_ ?_
      show Steps p.tables e below (T109.setTop (mkF m 197 #[.val (.long p0s), .second, .val (.long p1s), .second, .val (.int p2s), .val (.int p3s), .val (.int z11), .val (.int z12), .val (.ref b15), .unset, .unset] [])) _
      refine XS.aload X109.here hx rfl (hb hby at_197) rfl rfl ?_
      show Steps p.tables e below (T109.setTop (mkF m 199 #[.val (.long p0s), .second, .val (.long p1s), .second, .val (.int p2s), .val (.int p3s), .val (.int z11), .val (.int z12), .val (.ref b15), .unset, .unset] [(.ref b15)])) _
      refine XS.iload X109.here hx rfl (hb hby at_199) rfl ?_
      show Steps p.tables e below (T109.setTop (mkF m 201 #[.val (.long p0s), .second, .val (.long p1s), .second, .val (.int p2s), .val (.int p3s), .val (.int z11), .val (.int z12), .val (.ref b15), .unset, .unset] [(.int z12), (.ref b15)])) _
      refine XS.iconst X109.here hx rfl (hb hby at_201) ?_
      show Steps p.tables e below (T109.setTop (mkF m 202 #[.val (.long p0s), .second, .val (.long p1s), .second, .val (.int p2s), .val (.int p3s), .val (.int z11), .val (.int z12), .val (.ref b15), .unset, .unset] [(.int (4 : Int32)), (.int z12), (.ref b15)])) _
      refine XS.iadd X109.here hx rfl (hb hby at_202) rfl ?_
      show Steps p.tables e below (T109.setTop (mkF m 203 #[.val (.long p0s), .second, .val (.long p1s), .second, .val (.int p2s), .val (.int p3s), .val (.int z11), .val (.int z12), .val (.ref b15), .unset, .unset] [(.int (z12 + (4 : Int32))), (.ref b15)])) _
      refine XS.lloadN X109.here hx rfl (hb hby at_203) rfl ?_
      show Steps p.tables e below (T109.setTop (mkF m 204 #[.val (.long p0s), .second, .val (.long p1s), .second, .val (.int p2s), .val (.int p3s), .val (.int z11), .val (.int z12), .val (.ref b15), .unset, .unset] [(.long p0s), (.int (z12 + (4 : Int32))), (.ref b15)])) _
      refine XS.bipush X109.here hx rfl (hb hby at_204) ?_
      show Steps p.tables e below (T109.setTop (mkF m 206 #[.val (.long p0s), .second, .val (.long p1s), .second, .val (.int p2s), .val (.int p3s), .val (.int z11), .val (.int z12), .val (.ref b15), .unset, .unset] [(.int (24 : Int32)), (.long p0s), (.int (z12 + (4 : Int32))), (.ref b15)])) _
      refine XS.lushr X109.here hx rfl (hb hby at_206) rfl ?_
      show Steps p.tables e below (T109.setTop (mkF m 207 #[.val (.long p0s), .second, .val (.long p1s), .second, .val (.int p2s), .val (.int p3s), .val (.int z11), .val (.int z12), .val (.ref b15), .unset, .unset] [(.long ((p0s.toUInt64 >>> ((24 : Int32) &&& 0x3f).toInt64.toUInt64).toInt64)), (.int (z12 + (4 : Int32))), (.ref b15)])) _
      refine XS.l2i X109.here hx rfl (hb hby at_207) rfl ?_
      show Steps p.tables e below (T109.setTop (mkF m 208 #[.val (.long p0s), .second, .val (.long p1s), .second, .val (.int p2s), .val (.int p3s), .val (.int z11), .val (.int z12), .val (.ref b15), .unset, .unset] [(.int (((p0s.toUInt64 >>> ((24 : Int32) &&& 0x3f).toInt64.toUInt64).toInt64).toInt32)), (.int (z12 + (4 : Int32))), (.ref b15)])) _
      refine XS.i2b X109.here hx rfl (hb hby at_208) rfl ?_
      exact kg_
    obtain ⟨T115, h115, X115, e115, W115, V115, st115⟩ := own_stB X109 hx hZ e109 (j := (z12 + (4 : Int32))) F110 (by
          have q235_r := own_R32 p2s
          have q236_e : (2147483647 : Int32).toInt = 2147483647 := (by decide)
          have q236_r : (2147483647 : Int) ≤ (2147483647 : Int32).toInt ∧ (2147483647 : Int32).toInt ≤ 2147483647 := ⟨Int.le_of_eq q236_e.symm, Int.le_of_eq q236_e⟩
          have q237_ := own_maskR p2s (2147483647 : Int32) 31 2147483648 (by decide) (by decide) (by decide) 2147483647 (by decide) (by decide)
          have q237_e := q237_.1
          have q237_r := q237_.2
          have q238_e : (5 : Int32).toInt = 5 := (by decide)
          have q238_r : (5 : Int) ≤ (5 : Int32).toInt ∧ (5 : Int32).toInt ≤ 5 := ⟨Int.le_of_eq q238_e.symm, Int.le_of_eq q238_e⟩
          have q239_ := own_iremR 4 q237_r (show (5 : Int32).toInt = 5 from by decide) (by decide) (by decide) (by decide)
          have q239_e := q239_.1
          have q239_r := q239_.2
          have q240_ := own_eqR32 hz12 q239_r
          have q240_e := q240_.1
          have q240_r := q240_.2
          have q241_e : (4 : Int32).toInt = 4 := (by decide)
          have q241_r : (4 : Int) ≤ (4 : Int32).toInt ∧ (4 : Int32).toInt ≤ 4 := ⟨Int.le_of_eq q241_e.symm, Int.le_of_eq q241_e⟩
          have q242_ := own_iaddR (4) (8) q240_r q241_r (by decide) (by decide)
          have q242_e := q242_.1
          have q242_r := q242_.2
          omega) (by
          have q235_r := own_R32 p2s
          have q236_e : (2147483647 : Int32).toInt = 2147483647 := (by decide)
          have q236_r : (2147483647 : Int) ≤ (2147483647 : Int32).toInt ∧ (2147483647 : Int32).toInt ≤ 2147483647 := ⟨Int.le_of_eq q236_e.symm, Int.le_of_eq q236_e⟩
          have q237_ := own_maskR p2s (2147483647 : Int32) 31 2147483648 (by decide) (by decide) (by decide) 2147483647 (by decide) (by decide)
          have q237_e := q237_.1
          have q237_r := q237_.2
          have q238_e : (5 : Int32).toInt = 5 := (by decide)
          have q238_r : (5 : Int) ≤ (5 : Int32).toInt ∧ (5 : Int32).toInt ≤ 5 := ⟨Int.le_of_eq q238_e.symm, Int.le_of_eq q238_e⟩
          have q239_ := own_iremR 4 q237_r (show (5 : Int32).toInt = 5 from by decide) (by decide) (by decide) (by decide)
          have q239_e := q239_.1
          have q239_r := q239_.2
          have q240_ := own_eqR32 hz12 q239_r
          have q240_e := q240_.1
          have q240_r := q240_.2
          have q241_e : (4 : Int32).toInt = 4 := (by decide)
          have q241_r : (4 : Int) ≤ (4 : Int32).toInt ∧ (4 : Int32).toInt ≤ 4 := ⟨Int.le_of_eq q241_e.symm, Int.le_of_eq q241_e⟩
          have q242_ := own_iaddR (4) (8) q240_r q241_r (by decide) (by decide)
          have q242_e := q242_.1
          have q242_r := q242_.2
          omega) (g := (mkF m 209 #[.val (.long p0s), .second, .val (.long p1s), .second, .val (.int p2s), .val (.int p3s), .val (.int z11), .val (.int z12), .val (.ref b15), .unset, .unset] [(.int ((((p0s.toUInt64 >>> ((24 : Int32) &&& 0x3f).toInt64.toUInt64).toInt64).toInt32).toInt8.toInt32)), (.int (z12 + (4 : Int32))), (.ref b15)])) rfl rfl (hb hby at_209)
    rw [show ((z12 + (4 : Int32))).toNatClampNeg = (A + 4) from (own_clamp (by
          have q243_r := own_R32 p2s
          have q244_e : (2147483647 : Int32).toInt = 2147483647 := (by decide)
          have q244_r : (2147483647 : Int) ≤ (2147483647 : Int32).toInt ∧ (2147483647 : Int32).toInt ≤ 2147483647 := ⟨Int.le_of_eq q244_e.symm, Int.le_of_eq q244_e⟩
          have q245_ := own_maskR p2s (2147483647 : Int32) 31 2147483648 (by decide) (by decide) (by decide) 2147483647 (by decide) (by decide)
          have q245_e := q245_.1
          have q245_r := q245_.2
          have q246_e : (5 : Int32).toInt = 5 := (by decide)
          have q246_r : (5 : Int) ≤ (5 : Int32).toInt ∧ (5 : Int32).toInt ≤ 5 := ⟨Int.le_of_eq q246_e.symm, Int.le_of_eq q246_e⟩
          have q247_ := own_iremR 4 q245_r (show (5 : Int32).toInt = 5 from by decide) (by decide) (by decide) (by decide)
          have q247_e := q247_.1
          have q247_r := q247_.2
          have q248_ := own_eqR32 hz12 q247_r
          have q248_e := q248_.1
          have q248_r := q248_.2
          have q249_e : (4 : Int32).toInt = 4 := (by decide)
          have q249_r : (4 : Int) ≤ (4 : Int32).toInt ∧ (4 : Int32).toInt ≤ 4 := ⟨Int.le_of_eq q249_e.symm, Int.le_of_eq q249_e⟩
          have q250_ := own_iaddR (4) (8) q248_r q249_r (by decide) (by decide)
          have q250_e := q250_.1
          have q250_r := q250_.2
          omega))] at V115
    obtain ⟨gf115, hgf115, V115'⟩ := own_nameI (g := gf109) V115
    have F116 : own_Arf Z h115 b15 .byte 12 (fun i => (.int (gf115 i))) := V115'
    have Zs117 : n0 ≤ h115.size := by rw [W115.size]; exact Zs111
    have N118 := Fr.snoc X115 N112 ge15
    have K119 : Keep h0 h115 [] := K113.wr W115 (Or.inr old15)
    have r115 : own_R p.tables e below F0 (T115.setTop (mkF m 210 #[.val (.long p0s), .second, .val (.long p1s), .second, .val (.int p2s), .val (.int p3s), .val (.int z11), .val (.int z12), .val (.ref b15), .unset, .unset] [])) := fun tg_ kg_ => r114 tg_ (st115 tg_ kg_)
    have r120 : own_R p.tables e below F0 (T115.setTop (mkF m 222 #[.val (.long p0s), .second, .val (.long p1s), .second, .val (.int p2s), .val (.int p3s), .val (.int z11), .val (.int z12), .val (.ref b15), .unset, .unset] [(.int ((((p0s.toUInt64 >>> ((16 : Int32) &&& 0x3f).toInt64.toUInt64).toInt64).toInt32).toInt8.toInt32)), (.int (z12 + (5 : Int32))), (.ref b15)])) := fun tg_ kg_ => by
      refine r115 tg_ ?_
      show Steps p.tables e below (T115.setTop (mkF m 210 #[.val (.long p0s), .second, .val (.long p1s), .second, .val (.int p2s), .val (.int p3s), .val (.int z11), .val (.int z12), .val (.ref b15), .unset, .unset] [])) _
      refine XS.aload X115.here hx rfl (hb hby at_210) rfl rfl ?_
      show Steps p.tables e below (T115.setTop (mkF m 212 #[.val (.long p0s), .second, .val (.long p1s), .second, .val (.int p2s), .val (.int p3s), .val (.int z11), .val (.int z12), .val (.ref b15), .unset, .unset] [(.ref b15)])) _
      refine XS.iload X115.here hx rfl (hb hby at_212) rfl ?_
      show Steps p.tables e below (T115.setTop (mkF m 214 #[.val (.long p0s), .second, .val (.long p1s), .second, .val (.int p2s), .val (.int p3s), .val (.int z11), .val (.int z12), .val (.ref b15), .unset, .unset] [(.int z12), (.ref b15)])) _
      refine XS.iconst X115.here hx rfl (hb hby at_214) ?_
      show Steps p.tables e below (T115.setTop (mkF m 215 #[.val (.long p0s), .second, .val (.long p1s), .second, .val (.int p2s), .val (.int p3s), .val (.int z11), .val (.int z12), .val (.ref b15), .unset, .unset] [(.int (5 : Int32)), (.int z12), (.ref b15)])) _
      refine XS.iadd X115.here hx rfl (hb hby at_215) rfl ?_
      show Steps p.tables e below (T115.setTop (mkF m 216 #[.val (.long p0s), .second, .val (.long p1s), .second, .val (.int p2s), .val (.int p3s), .val (.int z11), .val (.int z12), .val (.ref b15), .unset, .unset] [(.int (z12 + (5 : Int32))), (.ref b15)])) _
      refine XS.lloadN X115.here hx rfl (hb hby at_216) rfl ?_
      show Steps p.tables e below (T115.setTop (mkF m 217 #[.val (.long p0s), .second, .val (.long p1s), .second, .val (.int p2s), .val (.int p3s), .val (.int z11), .val (.int z12), .val (.ref b15), .unset, .unset] [(.long p0s), (.int (z12 + (5 : Int32))), (.ref b15)])) _
      refine XS.bipush X115.here hx rfl (hb hby at_217) ?_
      show Steps p.tables e below (T115.setTop (mkF m 219 #[.val (.long p0s), .second, .val (.long p1s), .second, .val (.int p2s), .val (.int p3s), .val (.int z11), .val (.int z12), .val (.ref b15), .unset, .unset] [(.int (16 : Int32)), (.long p0s), (.int (z12 + (5 : Int32))), (.ref b15)])) _
      refine XS.lushr X115.here hx rfl (hb hby at_219) rfl ?_
      show Steps p.tables e below (T115.setTop (mkF m 220 #[.val (.long p0s), .second, .val (.long p1s), .second, .val (.int p2s), .val (.int p3s), .val (.int z11), .val (.int z12), .val (.ref b15), .unset, .unset] [(.long ((p0s.toUInt64 >>> ((16 : Int32) &&& 0x3f).toInt64.toUInt64).toInt64)), (.int (z12 + (5 : Int32))), (.ref b15)])) _
      refine XS.l2i X115.here hx rfl (hb hby at_220) rfl ?_
      show Steps p.tables e below (T115.setTop (mkF m 221 #[.val (.long p0s), .second, .val (.long p1s), .second, .val (.int p2s), .val (.int p3s), .val (.int z11), .val (.int z12), .val (.ref b15), .unset, .unset] [(.int (((p0s.toUInt64 >>> ((16 : Int32) &&& 0x3f).toInt64.toUInt64).toInt64).toInt32)), (.int (z12 + (5 : Int32))), (.ref b15)])) _
      refine XS.i2b X115.here hx rfl (hb hby at_221) rfl ?_
      exact kg_
    obtain ⟨T121, h121, X121, e121, W121, V121, st121⟩ := own_stB X115 hx hZ e115 (j := (z12 + (5 : Int32))) F116 (by
          have q251_r := own_R32 p2s
          have q252_e : (2147483647 : Int32).toInt = 2147483647 := (by decide)
          have q252_r : (2147483647 : Int) ≤ (2147483647 : Int32).toInt ∧ (2147483647 : Int32).toInt ≤ 2147483647 := ⟨Int.le_of_eq q252_e.symm, Int.le_of_eq q252_e⟩
          have q253_ := own_maskR p2s (2147483647 : Int32) 31 2147483648 (by decide) (by decide) (by decide) 2147483647 (by decide) (by decide)
          have q253_e := q253_.1
          have q253_r := q253_.2
          have q254_e : (5 : Int32).toInt = 5 := (by decide)
          have q254_r : (5 : Int) ≤ (5 : Int32).toInt ∧ (5 : Int32).toInt ≤ 5 := ⟨Int.le_of_eq q254_e.symm, Int.le_of_eq q254_e⟩
          have q255_ := own_iremR 4 q253_r (show (5 : Int32).toInt = 5 from by decide) (by decide) (by decide) (by decide)
          have q255_e := q255_.1
          have q255_r := q255_.2
          have q256_ := own_eqR32 hz12 q255_r
          have q256_e := q256_.1
          have q256_r := q256_.2
          have q257_ := own_iaddR (5) (9) q256_r q254_r (by decide) (by decide)
          have q257_e := q257_.1
          have q257_r := q257_.2
          omega) (by
          have q251_r := own_R32 p2s
          have q252_e : (2147483647 : Int32).toInt = 2147483647 := (by decide)
          have q252_r : (2147483647 : Int) ≤ (2147483647 : Int32).toInt ∧ (2147483647 : Int32).toInt ≤ 2147483647 := ⟨Int.le_of_eq q252_e.symm, Int.le_of_eq q252_e⟩
          have q253_ := own_maskR p2s (2147483647 : Int32) 31 2147483648 (by decide) (by decide) (by decide) 2147483647 (by decide) (by decide)
          have q253_e := q253_.1
          have q253_r := q253_.2
          have q254_e : (5 : Int32).toInt = 5 := (by decide)
          have q254_r : (5 : Int) ≤ (5 : Int32).toInt ∧ (5 : Int32).toInt ≤ 5 := ⟨Int.le_of_eq q254_e.symm, Int.le_of_eq q254_e⟩
          have q255_ := own_iremR 4 q253_r (show (5 : Int32).toInt = 5 from by decide) (by decide) (by decide) (by decide)
          have q255_e := q255_.1
          have q255_r := q255_.2
          have q256_ := own_eqR32 hz12 q255_r
          have q256_e := q256_.1
          have q256_r := q256_.2
          have q257_ := own_iaddR (5) (9) q256_r q254_r (by decide) (by decide)
          have q257_e := q257_.1
          have q257_r := q257_.2
          omega) (g := (mkF m 222 #[.val (.long p0s), .second, .val (.long p1s), .second, .val (.int p2s), .val (.int p3s), .val (.int z11), .val (.int z12), .val (.ref b15), .unset, .unset] [(.int ((((p0s.toUInt64 >>> ((16 : Int32) &&& 0x3f).toInt64.toUInt64).toInt64).toInt32).toInt8.toInt32)), (.int (z12 + (5 : Int32))), (.ref b15)])) rfl rfl (hb hby at_222)
    rw [show ((z12 + (5 : Int32))).toNatClampNeg = (A + 5) from (own_clamp (by
          have q258_r := own_R32 p2s
          have q259_e : (2147483647 : Int32).toInt = 2147483647 := (by decide)
          have q259_r : (2147483647 : Int) ≤ (2147483647 : Int32).toInt ∧ (2147483647 : Int32).toInt ≤ 2147483647 := ⟨Int.le_of_eq q259_e.symm, Int.le_of_eq q259_e⟩
          have q260_ := own_maskR p2s (2147483647 : Int32) 31 2147483648 (by decide) (by decide) (by decide) 2147483647 (by decide) (by decide)
          have q260_e := q260_.1
          have q260_r := q260_.2
          have q261_e : (5 : Int32).toInt = 5 := (by decide)
          have q261_r : (5 : Int) ≤ (5 : Int32).toInt ∧ (5 : Int32).toInt ≤ 5 := ⟨Int.le_of_eq q261_e.symm, Int.le_of_eq q261_e⟩
          have q262_ := own_iremR 4 q260_r (show (5 : Int32).toInt = 5 from by decide) (by decide) (by decide) (by decide)
          have q262_e := q262_.1
          have q262_r := q262_.2
          have q263_ := own_eqR32 hz12 q262_r
          have q263_e := q263_.1
          have q263_r := q263_.2
          have q264_ := own_iaddR (5) (9) q263_r q261_r (by decide) (by decide)
          have q264_e := q264_.1
          have q264_r := q264_.2
          omega))] at V121
    obtain ⟨gf121, hgf121, V121'⟩ := own_nameI (g := gf115) V121
    have F122 : own_Arf Z h121 b15 .byte 12 (fun i => (.int (gf121 i))) := V121'
    have Zs123 : n0 ≤ h121.size := by rw [W121.size]; exact Zs117
    have N124 := Fr.snoc X121 N118 ge15
    have K125 : Keep h0 h121 [] := K119.wr W121 (Or.inr old15)
    have r121 : own_R p.tables e below F0 (T121.setTop (mkF m 223 #[.val (.long p0s), .second, .val (.long p1s), .second, .val (.int p2s), .val (.int p3s), .val (.int z11), .val (.int z12), .val (.ref b15), .unset, .unset] [])) := fun tg_ kg_ => r120 tg_ (st121 tg_ kg_)
    have r126 : own_R p.tables e below F0 (T121.setTop (mkF m 236 #[.val (.long p0s), .second, .val (.long p1s), .second, .val (.int p2s), .val (.int p3s), .val (.int z11), .val (.int z12), .val (.ref b15), .unset, .unset] [(.int ((((p0s.toUInt64 >>> ((8 : Int32) &&& 0x3f).toInt64.toUInt64).toInt64).toInt32).toInt8.toInt32)), (.int (z12 + (6 : Int32))), (.ref b15)])) := fun tg_ kg_ => by
      refine r121 tg_ ?_
      show Steps p.tables e below (T121.setTop (mkF m 223 #[.val (.long p0s), .second, .val (.long p1s), .second, .val (.int p2s), .val (.int p3s), .val (.int z11), .val (.int z12), .val (.ref b15), .unset, .unset] [])) _
      refine XS.aload X121.here hx rfl (hb hby at_223) rfl rfl ?_
      show Steps p.tables e below (T121.setTop (mkF m 225 #[.val (.long p0s), .second, .val (.long p1s), .second, .val (.int p2s), .val (.int p3s), .val (.int z11), .val (.int z12), .val (.ref b15), .unset, .unset] [(.ref b15)])) _
      refine XS.iload X121.here hx rfl (hb hby at_225) rfl ?_
      show Steps p.tables e below (T121.setTop (mkF m 227 #[.val (.long p0s), .second, .val (.long p1s), .second, .val (.int p2s), .val (.int p3s), .val (.int z11), .val (.int z12), .val (.ref b15), .unset, .unset] [(.int z12), (.ref b15)])) _
      refine XS.bipush X121.here hx rfl (hb hby at_227) ?_
      show Steps p.tables e below (T121.setTop (mkF m 229 #[.val (.long p0s), .second, .val (.long p1s), .second, .val (.int p2s), .val (.int p3s), .val (.int z11), .val (.int z12), .val (.ref b15), .unset, .unset] [(.int (6 : Int32)), (.int z12), (.ref b15)])) _
      refine XS.iadd X121.here hx rfl (hb hby at_229) rfl ?_
      show Steps p.tables e below (T121.setTop (mkF m 230 #[.val (.long p0s), .second, .val (.long p1s), .second, .val (.int p2s), .val (.int p3s), .val (.int z11), .val (.int z12), .val (.ref b15), .unset, .unset] [(.int (z12 + (6 : Int32))), (.ref b15)])) _
      refine XS.lloadN X121.here hx rfl (hb hby at_230) rfl ?_
      show Steps p.tables e below (T121.setTop (mkF m 231 #[.val (.long p0s), .second, .val (.long p1s), .second, .val (.int p2s), .val (.int p3s), .val (.int z11), .val (.int z12), .val (.ref b15), .unset, .unset] [(.long p0s), (.int (z12 + (6 : Int32))), (.ref b15)])) _
      refine XS.bipush X121.here hx rfl (hb hby at_231) ?_
      show Steps p.tables e below (T121.setTop (mkF m 233 #[.val (.long p0s), .second, .val (.long p1s), .second, .val (.int p2s), .val (.int p3s), .val (.int z11), .val (.int z12), .val (.ref b15), .unset, .unset] [(.int (8 : Int32)), (.long p0s), (.int (z12 + (6 : Int32))), (.ref b15)])) _
      refine XS.lushr X121.here hx rfl (hb hby at_233) rfl ?_
      show Steps p.tables e below (T121.setTop (mkF m 234 #[.val (.long p0s), .second, .val (.long p1s), .second, .val (.int p2s), .val (.int p3s), .val (.int z11), .val (.int z12), .val (.ref b15), .unset, .unset] [(.long ((p0s.toUInt64 >>> ((8 : Int32) &&& 0x3f).toInt64.toUInt64).toInt64)), (.int (z12 + (6 : Int32))), (.ref b15)])) _
      refine XS.l2i X121.here hx rfl (hb hby at_234) rfl ?_
      show Steps p.tables e below (T121.setTop (mkF m 235 #[.val (.long p0s), .second, .val (.long p1s), .second, .val (.int p2s), .val (.int p3s), .val (.int z11), .val (.int z12), .val (.ref b15), .unset, .unset] [(.int (((p0s.toUInt64 >>> ((8 : Int32) &&& 0x3f).toInt64.toUInt64).toInt64).toInt32)), (.int (z12 + (6 : Int32))), (.ref b15)])) _
      refine XS.i2b X121.here hx rfl (hb hby at_235) rfl ?_
      exact kg_
    obtain ⟨T127, h127, X127, e127, W127, V127, st127⟩ := own_stB X121 hx hZ e121 (j := (z12 + (6 : Int32))) F122 (by
          have q265_r := own_R32 p2s
          have q266_e : (2147483647 : Int32).toInt = 2147483647 := (by decide)
          have q266_r : (2147483647 : Int) ≤ (2147483647 : Int32).toInt ∧ (2147483647 : Int32).toInt ≤ 2147483647 := ⟨Int.le_of_eq q266_e.symm, Int.le_of_eq q266_e⟩
          have q267_ := own_maskR p2s (2147483647 : Int32) 31 2147483648 (by decide) (by decide) (by decide) 2147483647 (by decide) (by decide)
          have q267_e := q267_.1
          have q267_r := q267_.2
          have q268_e : (5 : Int32).toInt = 5 := (by decide)
          have q268_r : (5 : Int) ≤ (5 : Int32).toInt ∧ (5 : Int32).toInt ≤ 5 := ⟨Int.le_of_eq q268_e.symm, Int.le_of_eq q268_e⟩
          have q269_ := own_iremR 4 q267_r (show (5 : Int32).toInt = 5 from by decide) (by decide) (by decide) (by decide)
          have q269_e := q269_.1
          have q269_r := q269_.2
          have q270_ := own_eqR32 hz12 q269_r
          have q270_e := q270_.1
          have q270_r := q270_.2
          have q271_e : (6 : Int32).toInt = 6 := (by decide)
          have q271_r : (6 : Int) ≤ (6 : Int32).toInt ∧ (6 : Int32).toInt ≤ 6 := ⟨Int.le_of_eq q271_e.symm, Int.le_of_eq q271_e⟩
          have q272_ := own_iaddR (6) (10) q270_r q271_r (by decide) (by decide)
          have q272_e := q272_.1
          have q272_r := q272_.2
          omega) (by
          have q265_r := own_R32 p2s
          have q266_e : (2147483647 : Int32).toInt = 2147483647 := (by decide)
          have q266_r : (2147483647 : Int) ≤ (2147483647 : Int32).toInt ∧ (2147483647 : Int32).toInt ≤ 2147483647 := ⟨Int.le_of_eq q266_e.symm, Int.le_of_eq q266_e⟩
          have q267_ := own_maskR p2s (2147483647 : Int32) 31 2147483648 (by decide) (by decide) (by decide) 2147483647 (by decide) (by decide)
          have q267_e := q267_.1
          have q267_r := q267_.2
          have q268_e : (5 : Int32).toInt = 5 := (by decide)
          have q268_r : (5 : Int) ≤ (5 : Int32).toInt ∧ (5 : Int32).toInt ≤ 5 := ⟨Int.le_of_eq q268_e.symm, Int.le_of_eq q268_e⟩
          have q269_ := own_iremR 4 q267_r (show (5 : Int32).toInt = 5 from by decide) (by decide) (by decide) (by decide)
          have q269_e := q269_.1
          have q269_r := q269_.2
          have q270_ := own_eqR32 hz12 q269_r
          have q270_e := q270_.1
          have q270_r := q270_.2
          have q271_e : (6 : Int32).toInt = 6 := (by decide)
          have q271_r : (6 : Int) ≤ (6 : Int32).toInt ∧ (6 : Int32).toInt ≤ 6 := ⟨Int.le_of_eq q271_e.symm, Int.le_of_eq q271_e⟩
          have q272_ := own_iaddR (6) (10) q270_r q271_r (by decide) (by decide)
          have q272_e := q272_.1
          have q272_r := q272_.2
          omega) (g := (mkF m 236 #[.val (.long p0s), .second, .val (.long p1s), .second, .val (.int p2s), .val (.int p3s), .val (.int z11), .val (.int z12), .val (.ref b15), .unset, .unset] [(.int ((((p0s.toUInt64 >>> ((8 : Int32) &&& 0x3f).toInt64.toUInt64).toInt64).toInt32).toInt8.toInt32)), (.int (z12 + (6 : Int32))), (.ref b15)])) rfl rfl (hb hby at_236)
    rw [show ((z12 + (6 : Int32))).toNatClampNeg = (A + 6) from (own_clamp (by
          have q273_r := own_R32 p2s
          have q274_e : (2147483647 : Int32).toInt = 2147483647 := (by decide)
          have q274_r : (2147483647 : Int) ≤ (2147483647 : Int32).toInt ∧ (2147483647 : Int32).toInt ≤ 2147483647 := ⟨Int.le_of_eq q274_e.symm, Int.le_of_eq q274_e⟩
          have q275_ := own_maskR p2s (2147483647 : Int32) 31 2147483648 (by decide) (by decide) (by decide) 2147483647 (by decide) (by decide)
          have q275_e := q275_.1
          have q275_r := q275_.2
          have q276_e : (5 : Int32).toInt = 5 := (by decide)
          have q276_r : (5 : Int) ≤ (5 : Int32).toInt ∧ (5 : Int32).toInt ≤ 5 := ⟨Int.le_of_eq q276_e.symm, Int.le_of_eq q276_e⟩
          have q277_ := own_iremR 4 q275_r (show (5 : Int32).toInt = 5 from by decide) (by decide) (by decide) (by decide)
          have q277_e := q277_.1
          have q277_r := q277_.2
          have q278_ := own_eqR32 hz12 q277_r
          have q278_e := q278_.1
          have q278_r := q278_.2
          have q279_e : (6 : Int32).toInt = 6 := (by decide)
          have q279_r : (6 : Int) ≤ (6 : Int32).toInt ∧ (6 : Int32).toInt ≤ 6 := ⟨Int.le_of_eq q279_e.symm, Int.le_of_eq q279_e⟩
          have q280_ := own_iaddR (6) (10) q278_r q279_r (by decide) (by decide)
          have q280_e := q280_.1
          have q280_r := q280_.2
          omega))] at V127
    obtain ⟨gf127, hgf127, V127'⟩ := own_nameI (g := gf121) V127
    have F128 : own_Arf Z h127 b15 .byte 12 (fun i => (.int (gf127 i))) := V127'
    have Zs129 : n0 ≤ h127.size := by rw [W127.size]; exact Zs123
    have N130 := Fr.snoc X127 N124 ge15
    have K131 : Keep h0 h127 [] := K125.wr W127 (Or.inr old15)
    have r127 : own_R p.tables e below F0 (T127.setTop (mkF m 237 #[.val (.long p0s), .second, .val (.long p1s), .second, .val (.int p2s), .val (.int p3s), .val (.int z11), .val (.int z12), .val (.ref b15), .unset, .unset] [])) := fun tg_ kg_ => r126 tg_ (st127 tg_ kg_)
    have r132 : own_R p.tables e below F0 (T127.setTop (mkF m 247 #[.val (.long p0s), .second, .val (.long p1s), .second, .val (.int p2s), .val (.int p3s), .val (.int z11), .val (.int z12), .val (.ref b15), .unset, .unset] [(.int ((p0s.toInt32).toInt8.toInt32)), (.int (z12 + (7 : Int32))), (.ref b15)])) := fun tg_ kg_ => by
      refine r127 tg_ ?_
      show Steps p.tables e below (T127.setTop (mkF m 237 #[.val (.long p0s), .second, .val (.long p1s), .second, .val (.int p2s), .val (.int p3s), .val (.int z11), .val (.int z12), .val (.ref b15), .unset, .unset] [])) _
      refine XS.aload X127.here hx rfl (hb hby at_237) rfl rfl ?_
      show Steps p.tables e below (T127.setTop (mkF m 239 #[.val (.long p0s), .second, .val (.long p1s), .second, .val (.int p2s), .val (.int p3s), .val (.int z11), .val (.int z12), .val (.ref b15), .unset, .unset] [(.ref b15)])) _
      refine XS.iload X127.here hx rfl (hb hby at_239) rfl ?_
      show Steps p.tables e below (T127.setTop (mkF m 241 #[.val (.long p0s), .second, .val (.long p1s), .second, .val (.int p2s), .val (.int p3s), .val (.int z11), .val (.int z12), .val (.ref b15), .unset, .unset] [(.int z12), (.ref b15)])) _
      refine XS.bipush X127.here hx rfl (hb hby at_241) ?_
      show Steps p.tables e below (T127.setTop (mkF m 243 #[.val (.long p0s), .second, .val (.long p1s), .second, .val (.int p2s), .val (.int p3s), .val (.int z11), .val (.int z12), .val (.ref b15), .unset, .unset] [(.int (7 : Int32)), (.int z12), (.ref b15)])) _
      refine XS.iadd X127.here hx rfl (hb hby at_243) rfl ?_
      show Steps p.tables e below (T127.setTop (mkF m 244 #[.val (.long p0s), .second, .val (.long p1s), .second, .val (.int p2s), .val (.int p3s), .val (.int z11), .val (.int z12), .val (.ref b15), .unset, .unset] [(.int (z12 + (7 : Int32))), (.ref b15)])) _
      refine XS.lloadN X127.here hx rfl (hb hby at_244) rfl ?_
      show Steps p.tables e below (T127.setTop (mkF m 245 #[.val (.long p0s), .second, .val (.long p1s), .second, .val (.int p2s), .val (.int p3s), .val (.int z11), .val (.int z12), .val (.ref b15), .unset, .unset] [(.long p0s), (.int (z12 + (7 : Int32))), (.ref b15)])) _
      refine XS.l2i X127.here hx rfl (hb hby at_245) rfl ?_
      show Steps p.tables e below (T127.setTop (mkF m 246 #[.val (.long p0s), .second, .val (.long p1s), .second, .val (.int p2s), .val (.int p3s), .val (.int z11), .val (.int z12), .val (.ref b15), .unset, .unset] [(.int (p0s.toInt32)), (.int (z12 + (7 : Int32))), (.ref b15)])) _
      refine XS.i2b X127.here hx rfl (hb hby at_246) rfl ?_
      exact kg_
    obtain ⟨T133, h133, X133, e133, W133, V133, st133⟩ := own_stB X127 hx hZ e127 (j := (z12 + (7 : Int32))) F128 (by
          have q281_r := own_R32 p2s
          have q282_e : (2147483647 : Int32).toInt = 2147483647 := (by decide)
          have q282_r : (2147483647 : Int) ≤ (2147483647 : Int32).toInt ∧ (2147483647 : Int32).toInt ≤ 2147483647 := ⟨Int.le_of_eq q282_e.symm, Int.le_of_eq q282_e⟩
          have q283_ := own_maskR p2s (2147483647 : Int32) 31 2147483648 (by decide) (by decide) (by decide) 2147483647 (by decide) (by decide)
          have q283_e := q283_.1
          have q283_r := q283_.2
          have q284_e : (5 : Int32).toInt = 5 := (by decide)
          have q284_r : (5 : Int) ≤ (5 : Int32).toInt ∧ (5 : Int32).toInt ≤ 5 := ⟨Int.le_of_eq q284_e.symm, Int.le_of_eq q284_e⟩
          have q285_ := own_iremR 4 q283_r (show (5 : Int32).toInt = 5 from by decide) (by decide) (by decide) (by decide)
          have q285_e := q285_.1
          have q285_r := q285_.2
          have q286_ := own_eqR32 hz12 q285_r
          have q286_e := q286_.1
          have q286_r := q286_.2
          have q287_e : (7 : Int32).toInt = 7 := (by decide)
          have q287_r : (7 : Int) ≤ (7 : Int32).toInt ∧ (7 : Int32).toInt ≤ 7 := ⟨Int.le_of_eq q287_e.symm, Int.le_of_eq q287_e⟩
          have q288_ := own_iaddR (7) (11) q286_r q287_r (by decide) (by decide)
          have q288_e := q288_.1
          have q288_r := q288_.2
          omega) (by
          have q281_r := own_R32 p2s
          have q282_e : (2147483647 : Int32).toInt = 2147483647 := (by decide)
          have q282_r : (2147483647 : Int) ≤ (2147483647 : Int32).toInt ∧ (2147483647 : Int32).toInt ≤ 2147483647 := ⟨Int.le_of_eq q282_e.symm, Int.le_of_eq q282_e⟩
          have q283_ := own_maskR p2s (2147483647 : Int32) 31 2147483648 (by decide) (by decide) (by decide) 2147483647 (by decide) (by decide)
          have q283_e := q283_.1
          have q283_r := q283_.2
          have q284_e : (5 : Int32).toInt = 5 := (by decide)
          have q284_r : (5 : Int) ≤ (5 : Int32).toInt ∧ (5 : Int32).toInt ≤ 5 := ⟨Int.le_of_eq q284_e.symm, Int.le_of_eq q284_e⟩
          have q285_ := own_iremR 4 q283_r (show (5 : Int32).toInt = 5 from by decide) (by decide) (by decide) (by decide)
          have q285_e := q285_.1
          have q285_r := q285_.2
          have q286_ := own_eqR32 hz12 q285_r
          have q286_e := q286_.1
          have q286_r := q286_.2
          have q287_e : (7 : Int32).toInt = 7 := (by decide)
          have q287_r : (7 : Int) ≤ (7 : Int32).toInt ∧ (7 : Int32).toInt ≤ 7 := ⟨Int.le_of_eq q287_e.symm, Int.le_of_eq q287_e⟩
          have q288_ := own_iaddR (7) (11) q286_r q287_r (by decide) (by decide)
          have q288_e := q288_.1
          have q288_r := q288_.2
          omega) (g := (mkF m 247 #[.val (.long p0s), .second, .val (.long p1s), .second, .val (.int p2s), .val (.int p3s), .val (.int z11), .val (.int z12), .val (.ref b15), .unset, .unset] [(.int ((p0s.toInt32).toInt8.toInt32)), (.int (z12 + (7 : Int32))), (.ref b15)])) rfl rfl (hb hby at_247)
    rw [show ((z12 + (7 : Int32))).toNatClampNeg = (A + 7) from (own_clamp (by
          have q289_r := own_R32 p2s
          have q290_e : (2147483647 : Int32).toInt = 2147483647 := (by decide)
          have q290_r : (2147483647 : Int) ≤ (2147483647 : Int32).toInt ∧ (2147483647 : Int32).toInt ≤ 2147483647 := ⟨Int.le_of_eq q290_e.symm, Int.le_of_eq q290_e⟩
          have q291_ := own_maskR p2s (2147483647 : Int32) 31 2147483648 (by decide) (by decide) (by decide) 2147483647 (by decide) (by decide)
          have q291_e := q291_.1
          have q291_r := q291_.2
          have q292_e : (5 : Int32).toInt = 5 := (by decide)
          have q292_r : (5 : Int) ≤ (5 : Int32).toInt ∧ (5 : Int32).toInt ≤ 5 := ⟨Int.le_of_eq q292_e.symm, Int.le_of_eq q292_e⟩
          have q293_ := own_iremR 4 q291_r (show (5 : Int32).toInt = 5 from by decide) (by decide) (by decide) (by decide)
          have q293_e := q293_.1
          have q293_r := q293_.2
          have q294_ := own_eqR32 hz12 q293_r
          have q294_e := q294_.1
          have q294_r := q294_.2
          have q295_e : (7 : Int32).toInt = 7 := (by decide)
          have q295_r : (7 : Int) ≤ (7 : Int32).toInt ∧ (7 : Int32).toInt ≤ 7 := ⟨Int.le_of_eq q295_e.symm, Int.le_of_eq q295_e⟩
          have q296_ := own_iaddR (7) (11) q294_r q295_r (by decide) (by decide)
          have q296_e := q296_.1
          have q296_r := q296_.2
          omega))] at V133
    obtain ⟨gf133, hgf133, V133'⟩ := own_nameI (g := gf127) V133
    have F134 : own_Arf Z h133 b15 .byte 12 (fun i => (.int (gf133 i))) := V133'
    have Zs135 : n0 ≤ h133.size := by rw [W133.size]; exact Zs129
    have N136 := Fr.snoc X133 N130 ge15
    have K137 : Keep h0 h133 [] := K131.wr W133 (Or.inr old15)
    have r133 : own_R p.tables e below F0 (T133.setTop (mkF m 248 #[.val (.long p0s), .second, .val (.long p1s), .second, .val (.int p2s), .val (.int p3s), .val (.int z11), .val (.int z12), .val (.ref b15), .unset, .unset] [])) := fun tg_ kg_ => r132 tg_ (st133 tg_ kg_)
    have r138 : own_R p.tables e below F0 (T133.setTop (mkF m 250 #[.val (.long p0s), .second, .val (.long p1s), .second, .val (.int p2s), .val (.int p3s), .val (.int z11), .val (.int z12), .val (.ref b15), .unset, .unset] [(.int z11)])) := fun tg_ kg_ => by
      refine r133 tg_ ?_
      show Steps p.tables e below (T133.setTop (mkF m 248 #[.val (.long p0s), .second, .val (.long p1s), .second, .val (.int p2s), .val (.int p3s), .val (.int z11), .val (.int z12), .val (.ref b15), .unset, .unset] [])) _
      refine XS.iload X133.here hx rfl (hb hby at_248) rfl ?_
      exact kg_
    by_cases hc139 : z11 = (0 : Int32)
    · have r140 : own_R p.tables e below F0 (T133.setTop (mkF m 277 #[.val (.long p0s), .second, .val (.long p1s), .second, .val (.int p2s), .val (.int p3s), .val (.int z11), .val (.int z12), .val (.ref b15), .val (.long (0 : Int64)), .second] [(.int z11), (.int z12), (.ref b15)])) := fun tg_ kg_ => by
        refine r138 tg_ ?_
        show Steps p.tables e below (T133.setTop (mkF m 250 #[.val (.long p0s), .second, .val (.long p1s), .second, .val (.int p2s), .val (.int p3s), .val (.int z11), .val (.int z12), .val (.ref b15), .unset, .unset] [(.int z11)])) _
        refine XS.ifNo X133.here hx rfl (hb hby at_250) rfl ((if0 _ _).trans (teq hc139).2) ?_
        show Steps p.tables e below (T133.setTop (mkF m 253 #[.val (.long p0s), .second, .val (.long p1s), .second, .val (.int p2s), .val (.int p3s), .val (.int z11), .val (.int z12), .val (.ref b15), .unset, .unset] [])) _
        refine XS.lconst X133.here hx rfl (hb hby at_253) ?_
        show Steps p.tables e below (T133.setTop (mkF m 254 #[.val (.long p0s), .second, .val (.long p1s), .second, .val (.int p2s), .val (.int p3s), .val (.int z11), .val (.int z12), .val (.ref b15), .unset, .unset] [(.long (0 : Int64))])) _
        refine XS.lstore X133.here hx rfl (hb hby at_254) rfl (l' := #[.val (.long p0s), .second, .val (.long p1s), .second, .val (.int p2s), .val (.int p3s), .val (.int z11), .val (.int z12), .val (.ref b15), .val (.long (0 : Int64)), .second]) rfl ?_
        show Steps p.tables e below (T133.setTop (mkF m 256 #[.val (.long p0s), .second, .val (.long p1s), .second, .val (.int p2s), .val (.int p3s), .val (.int z11), .val (.int z12), .val (.ref b15), .val (.long (0 : Int64)), .second] [])) _
        refine XS.goto X133.here hx rfl (pc0 := 256) (pc' := 271) rfl (hb hby at_256) (by decide) (by decide) ?_
        show Steps p.tables e below (T133.setTop (mkF m 271 #[.val (.long p0s), .second, .val (.long p1s), .second, .val (.int p2s), .val (.int p3s), .val (.int z11), .val (.int z12), .val (.ref b15), .val (.long (0 : Int64)), .second] [])) _
        refine XS.aload X133.here hx rfl (hb hby at_271) rfl rfl ?_
        show Steps p.tables e below (T133.setTop (mkF m 273 #[.val (.long p0s), .second, .val (.long p1s), .second, .val (.int p2s), .val (.int p3s), .val (.int z11), .val (.int z12), .val (.ref b15), .val (.long (0 : Int64)), .second] [(.ref b15)])) _
        refine XS.iload X133.here hx rfl (hb hby at_273) rfl ?_
        show Steps p.tables e below (T133.setTop (mkF m 275 #[.val (.long p0s), .second, .val (.long p1s), .second, .val (.int p2s), .val (.int p3s), .val (.int z11), .val (.int z12), .val (.ref b15), .val (.long (0 : Int64)), .second] [(.int z12), (.ref b15)])) _
        refine XS.iload X133.here hx rfl (hb hby at_275) rfl ?_
        exact kg_
      obtain ⟨_, _, ⟨T141, L141, k141, n141⟩, -, X141, ⟨Lc141, hQ141, l141, y141, z141⟩, st141⟩ := Jvm.LawKit.callS X133 hx (y := (⟨"com/example/garlicwire/garlicwire/data/DataReader", "integer", "([BII)J"⟩ : MethodName)) hown (mvT hZ (hw _ (List.mem_of_getElem? (i := 2) rfl))) (mvT hZ (hw _ (List.mem_of_getElem? (i := 3) rfl))) (mvT hZ (hw _ (List.mem_of_getElem? (i := 4) rfl))) (mvT hZ (hw _ (List.mem_of_getElem? (i := 5) rfl))) (by decide) (backOf (W := 0) (rm1 l Z a0 hw [] b15 z12 z11 (12) (gf133) (A) (Ln) (p0s) h133 n0 Zs135 F134 hA hL ⟨by omega, by decide⟩ hL8 (by
              intro k hk
              have hk8 : k = 0 ∨ k = 1 ∨ k = 2 ∨ k = 3 ∨ k = 4 ∨ k = 5 ∨ k = 6 ∨ k = 7 := by omega
              rcases hk8 with rfl | rfl | rfl | rfl | rfl | rfl | rfl | rfl
              · rw [hgf133, if_neg (by omega), hgf127, if_neg (by omega), hgf121, if_neg (by omega), hgf115, if_neg (by omega), hgf109, if_neg (by omega), hgf103, if_neg (by omega), hgf97, if_neg (by omega), hgf91, if_pos rfl]; exact own_byteS _ _ 56 (by decide)
              · rw [hgf133, if_neg (by omega), hgf127, if_neg (by omega), hgf121, if_neg (by omega), hgf115, if_neg (by omega), hgf109, if_neg (by omega), hgf103, if_neg (by omega), hgf97, if_pos rfl]; exact own_byteS _ _ 48 (by decide)
              · rw [hgf133, if_neg (by omega), hgf127, if_neg (by omega), hgf121, if_neg (by omega), hgf115, if_neg (by omega), hgf109, if_neg (by omega), hgf103, if_pos rfl]; exact own_byteS _ _ 40 (by decide)
              · rw [hgf133, if_neg (by omega), hgf127, if_neg (by omega), hgf121, if_neg (by omega), hgf115, if_neg (by omega), hgf109, if_pos rfl]; exact own_byteS _ _ 32 (by decide)
              · rw [hgf133, if_neg (by omega), hgf127, if_neg (by omega), hgf121, if_neg (by omega), hgf115, if_pos rfl]; exact own_byteS _ _ 24 (by decide)
              · rw [hgf133, if_neg (by omega), hgf127, if_neg (by omega), hgf121, if_pos rfl]; exact own_byteS _ _ 16 (by decide)
              · rw [hgf133, if_neg (by omega), hgf127, if_pos rfl]; exact own_byteS _ _ 8 (by decide)
              · rw [hgf133, if_pos rfl]; exact (own_byte _).trans (by simp))) hZ (hw _ (List.mem_of_getElem? (i := 5) rfl)) (hw _ (List.mem_of_getElem? (i := 4) rfl)) (by decide) (by decide)) (g := (mkF m 277 #[.val (.long p0s), .second, .val (.long p1s), .second, .val (.int p2s), .val (.int p3s), .val (.int z11), .val (.int z12), .val (.ref b15), .val (.long (0 : Int64)), .second] [(.int z11), (.int z12), (.ref b15)])) rfl (by rw [hml]; rfl) (argsL := [(.ref b15), (.int z12), (.int z11)]) (rest := []) (lenOf pd_0 rfl) rfl (by show 2 * 0 + _ ≤ _; exact Nat.le_of_eq rfl) (hb hby at_277) (fun _ _ => ⟨rfl, e133, (by decide : 1 + 0 ≤ _), (by decide : 12 + 0 ≤ _)⟩)
      dsimp only [Pt.U, Pt.locs, Pt.cells, Pt.slots] at X141 l141 y141 z141 st141 hQ141
      subst l141 y141 z141
      obtain ⟨rr_141, rfl, N141q, I141_0, I141_1⟩ := hQ141
      have N141 := Fr.app N136 N141q
      have r141 : own_R p.tables e below F0 (T141.setTop (mkF m 280 #[.val (.long p0s), .second, .val (.long p1s), .second, .val (.int p2s), .val (.int p3s), .val (.int z11), .val (.int z12), .val (.ref b15), .val (.long (0 : Int64)), .second] [(.long rr_141)])) := fun tg_ kg_ => r140 tg_ (st141 tg_ kg_)
      have r143 : own_R p.tables e below F0 (T141.setTop (mkF m 283 #[.val (.long p0s), .second, .val (.long p1s), .second, .val (.int p2s), .val (.int p3s), .val (.int z11), .val (.int z12), .val (.ref b15), .val (.long (0 : Int64)), .second] [(.int (lcmpW rr_141 (0 : Int64)))])) := fun tg_ kg_ => by
        refine r141 tg_ ?_
        show Steps p.tables e below (T141.setTop (mkF m 280 #[.val (.long p0s), .second, .val (.long p1s), .second, .val (.int p2s), .val (.int p3s), .val (.int z11), .val (.int z12), .val (.ref b15), .val (.long (0 : Int64)), .second] [(.long rr_141)])) _
        refine XS.lload X141.here hx rfl (hb hby at_280) rfl ?_
        show Steps p.tables e below (T141.setTop (mkF m 282 #[.val (.long p0s), .second, .val (.long p1s), .second, .val (.int p2s), .val (.int p3s), .val (.int z11), .val (.int z12), .val (.ref b15), .val (.long (0 : Int64)), .second] [(.long (0 : Int64)), (.long rr_141)])) _
        refine XS.lcmp X141.here hx rfl (hb hby at_282) rfl ?_
        exact kg_
      have hc142 : rr_141 = (0 : Int64) := own_final0 p0s _ (by
            have e0 : Ln = 0 := by
              have := own_eq32 hc139
              rw [hL] at this; exact Int.ofNat.inj this
            rw [e0] at I141_1; exact I141_1)
      have r144 : own_R p.tables e below F0 (T141.setTop (mkF m 291 #[.val (.long p0s), .second, .val (.long p1s), .second, .val (.int p2s), .val (.int p3s), .val (.int z11), .val (.int z12), .val (.ref b15), .val (.long (0 : Int64)), .second] [(.int (1 : Int32))])) := fun tg_ kg_ => by
        refine r143 tg_ ?_
        show Steps p.tables e below (T141.setTop (mkF m 283 #[.val (.long p0s), .second, .val (.long p1s), .second, .val (.int p2s), .val (.int p3s), .val (.int z11), .val (.int z12), .val (.ref b15), .val (.long (0 : Int64)), .second] [(.int (lcmpW rr_141 (0 : Int64)))])) _
        refine XS.ifNo X141.here hx rfl (hb hby at_283) rfl (own_l_eq hc142).2 ?_
        show Steps p.tables e below (T141.setTop (mkF m 286 #[.val (.long p0s), .second, .val (.long p1s), .second, .val (.int p2s), .val (.int p3s), .val (.int z11), .val (.int z12), .val (.ref b15), .val (.long (0 : Int64)), .second] [])) _
        refine XS.iconst X141.here hx rfl (hb hby at_286) ?_
        show Steps p.tables e below (T141.setTop (mkF m 287 #[.val (.long p0s), .second, .val (.long p1s), .second, .val (.int p2s), .val (.int p3s), .val (.int z11), .val (.int z12), .val (.ref b15), .val (.long (0 : Int64)), .second] [(.int (1 : Int32))])) _
        refine XS.goto X141.here hx rfl (pc0 := 287) (pc' := 291) rfl (hb hby at_287) (by decide) (by decide) ?_
        exact kg_
      refine hG (own_fin X141 hlk (some (.int (nar .boolean (1 : Int32)))) (own_hv Bd.returns) ?_ (by decide) (by decide) (fun fs hr => r144 _ (retN X141 hx (t := .boolean) Bd.returns (by simp) (hb hby at_291) hr)))
      rw [I141_0]
      exact ⟨rfl, N141⟩
    · obtain ⟨z145, hz145⟩ : ∃ z : Int64, z = ((p0s.toUInt64 >>> (((64 : Int32) - ((8 : Int32) * z11)) &&& 0x3f).toInt64.toUInt64).toInt64) := ⟨_, rfl⟩
      have r146 : own_R p.tables e below F0 (T133.setTop (mkF m 277 #[.val (.long p0s), .second, .val (.long p1s), .second, .val (.int p2s), .val (.int p3s), .val (.int z11), .val (.int z12), .val (.ref b15), .val (.long z145), .second] [(.int z11), (.int z12), (.ref b15)])) := fun tg_ kg_ => by
        refine r138 tg_ ?_
        show Steps p.tables e below (T133.setTop (mkF m 250 #[.val (.long p0s), .second, .val (.long p1s), .second, .val (.int p2s), .val (.int p3s), .val (.int z11), .val (.int z12), .val (.ref b15), .unset, .unset] [(.int z11)])) _
        refine XS.ifYes X133.here hx rfl (pc0 := 250) (pc' := 259) rfl (hb hby at_250) rfl ((if0 _ _).trans (feq hc139).2) (by decide) (by decide) ?_
        show Steps p.tables e below (T133.setTop (mkF m 259 #[.val (.long p0s), .second, .val (.long p1s), .second, .val (.int p2s), .val (.int p3s), .val (.int z11), .val (.int z12), .val (.ref b15), .unset, .unset] [])) _
        refine XS.lloadN X133.here hx rfl (hb hby at_259) rfl ?_
        show Steps p.tables e below (T133.setTop (mkF m 260 #[.val (.long p0s), .second, .val (.long p1s), .second, .val (.int p2s), .val (.int p3s), .val (.int z11), .val (.int z12), .val (.ref b15), .unset, .unset] [(.long p0s)])) _
        refine XS.bipush X133.here hx rfl (hb hby at_260) ?_
        show Steps p.tables e below (T133.setTop (mkF m 262 #[.val (.long p0s), .second, .val (.long p1s), .second, .val (.int p2s), .val (.int p3s), .val (.int z11), .val (.int z12), .val (.ref b15), .unset, .unset] [(.int (64 : Int32)), (.long p0s)])) _
        refine XS.bipush X133.here hx rfl (hb hby at_262) ?_
        show Steps p.tables e below (T133.setTop (mkF m 264 #[.val (.long p0s), .second, .val (.long p1s), .second, .val (.int p2s), .val (.int p3s), .val (.int z11), .val (.int z12), .val (.ref b15), .unset, .unset] [(.int (8 : Int32)), (.int (64 : Int32)), (.long p0s)])) _
        refine XS.iload X133.here hx rfl (hb hby at_264) rfl ?_
        show Steps p.tables e below (T133.setTop (mkF m 266 #[.val (.long p0s), .second, .val (.long p1s), .second, .val (.int p2s), .val (.int p3s), .val (.int z11), .val (.int z12), .val (.ref b15), .unset, .unset] [(.int z11), (.int (8 : Int32)), (.int (64 : Int32)), (.long p0s)])) _
        refine XS.imul X133.here hx rfl (hb hby at_266) rfl ?_
        show Steps p.tables e below (T133.setTop (mkF m 267 #[.val (.long p0s), .second, .val (.long p1s), .second, .val (.int p2s), .val (.int p3s), .val (.int z11), .val (.int z12), .val (.ref b15), .unset, .unset] [(.int ((8 : Int32) * z11)), (.int (64 : Int32)), (.long p0s)])) _
        refine XS.isub X133.here hx rfl (hb hby at_267) rfl ?_
        show Steps p.tables e below (T133.setTop (mkF m 268 #[.val (.long p0s), .second, .val (.long p1s), .second, .val (.int p2s), .val (.int p3s), .val (.int z11), .val (.int z12), .val (.ref b15), .unset, .unset] [(.int ((64 : Int32) - ((8 : Int32) * z11))), (.long p0s)])) _
        refine XS.lushr X133.here hx rfl (hb hby at_268) rfl ?_
        show Steps p.tables e below (T133.setTop (mkF m 269 #[.val (.long p0s), .second, .val (.long p1s), .second, .val (.int p2s), .val (.int p3s), .val (.int z11), .val (.int z12), .val (.ref b15), .unset, .unset] [(.long ((p0s.toUInt64 >>> (((64 : Int32) - ((8 : Int32) * z11)) &&& 0x3f).toInt64.toUInt64).toInt64))])) _
        refine XS.lstore X133.here hx rfl (hb hby at_269) (x := z145) (rest := []) (by subst hz145; rfl) (l' := #[.val (.long p0s), .second, .val (.long p1s), .second, .val (.int p2s), .val (.int p3s), .val (.int z11), .val (.int z12), .val (.ref b15), .val (.long z145), .second]) rfl ?_
        show Steps p.tables e below (T133.setTop (mkF m 271 #[.val (.long p0s), .second, .val (.long p1s), .second, .val (.int p2s), .val (.int p3s), .val (.int z11), .val (.int z12), .val (.ref b15), .val (.long z145), .second] [])) _
        refine XS.aload X133.here hx rfl (hb hby at_271) rfl rfl ?_
        show Steps p.tables e below (T133.setTop (mkF m 273 #[.val (.long p0s), .second, .val (.long p1s), .second, .val (.int p2s), .val (.int p3s), .val (.int z11), .val (.int z12), .val (.ref b15), .val (.long z145), .second] [(.ref b15)])) _
        refine XS.iload X133.here hx rfl (hb hby at_273) rfl ?_
        show Steps p.tables e below (T133.setTop (mkF m 275 #[.val (.long p0s), .second, .val (.long p1s), .second, .val (.int p2s), .val (.int p3s), .val (.int z11), .val (.int z12), .val (.ref b15), .val (.long z145), .second] [(.int z12), (.ref b15)])) _
        refine XS.iload X133.here hx rfl (hb hby at_275) rfl ?_
        exact kg_
      obtain ⟨_, _, ⟨T147, L147, k147, n147⟩, -, X147, ⟨Lc147, hQ147, l147, y147, z147⟩, st147⟩ := Jvm.LawKit.callS X133 hx (y := (⟨"com/example/garlicwire/garlicwire/data/DataReader", "integer", "([BII)J"⟩ : MethodName)) hown (mvT hZ (hw _ (List.mem_of_getElem? (i := 2) rfl))) (mvT hZ (hw _ (List.mem_of_getElem? (i := 3) rfl))) (mvT hZ (hw _ (List.mem_of_getElem? (i := 4) rfl))) (mvT hZ (hw _ (List.mem_of_getElem? (i := 5) rfl))) (by decide) (backOf (W := 0) (rm1 l Z a0 hw [] b15 z12 z11 (12) (gf133) (A) (Ln) (p0s) h133 n0 Zs135 F134 hA hL ⟨by omega, by decide⟩ hL8 (by
              intro k hk
              have hk8 : k = 0 ∨ k = 1 ∨ k = 2 ∨ k = 3 ∨ k = 4 ∨ k = 5 ∨ k = 6 ∨ k = 7 := by omega
              rcases hk8 with rfl | rfl | rfl | rfl | rfl | rfl | rfl | rfl
              · rw [hgf133, if_neg (by omega), hgf127, if_neg (by omega), hgf121, if_neg (by omega), hgf115, if_neg (by omega), hgf109, if_neg (by omega), hgf103, if_neg (by omega), hgf97, if_neg (by omega), hgf91, if_pos rfl]; exact own_byteS _ _ 56 (by decide)
              · rw [hgf133, if_neg (by omega), hgf127, if_neg (by omega), hgf121, if_neg (by omega), hgf115, if_neg (by omega), hgf109, if_neg (by omega), hgf103, if_neg (by omega), hgf97, if_pos rfl]; exact own_byteS _ _ 48 (by decide)
              · rw [hgf133, if_neg (by omega), hgf127, if_neg (by omega), hgf121, if_neg (by omega), hgf115, if_neg (by omega), hgf109, if_neg (by omega), hgf103, if_pos rfl]; exact own_byteS _ _ 40 (by decide)
              · rw [hgf133, if_neg (by omega), hgf127, if_neg (by omega), hgf121, if_neg (by omega), hgf115, if_neg (by omega), hgf109, if_pos rfl]; exact own_byteS _ _ 32 (by decide)
              · rw [hgf133, if_neg (by omega), hgf127, if_neg (by omega), hgf121, if_neg (by omega), hgf115, if_pos rfl]; exact own_byteS _ _ 24 (by decide)
              · rw [hgf133, if_neg (by omega), hgf127, if_neg (by omega), hgf121, if_pos rfl]; exact own_byteS _ _ 16 (by decide)
              · rw [hgf133, if_neg (by omega), hgf127, if_pos rfl]; exact own_byteS _ _ 8 (by decide)
              · rw [hgf133, if_pos rfl]; exact (own_byte _).trans (by simp))) hZ (hw _ (List.mem_of_getElem? (i := 5) rfl)) (hw _ (List.mem_of_getElem? (i := 4) rfl)) (by decide) (by decide)) (g := (mkF m 277 #[.val (.long p0s), .second, .val (.long p1s), .second, .val (.int p2s), .val (.int p3s), .val (.int z11), .val (.int z12), .val (.ref b15), .val (.long z145), .second] [(.int z11), (.int z12), (.ref b15)])) rfl (by rw [hml]; rfl) (argsL := [(.ref b15), (.int z12), (.int z11)]) (rest := []) (lenOf pd_0 rfl) rfl (by show 2 * 0 + _ ≤ _; exact Nat.le_of_eq rfl) (hb hby at_277) (fun _ _ => ⟨rfl, e133, (by decide : 1 + 0 ≤ _), (by decide : 12 + 0 ≤ _)⟩)
      dsimp only [Pt.U, Pt.locs, Pt.cells, Pt.slots] at X147 l147 y147 z147 st147 hQ147
      subst l147 y147 z147
      obtain ⟨rr_147, rfl, N147q, I147_0, I147_1⟩ := hQ147
      have N147 := Fr.app N136 N147q
      have r147 : own_R p.tables e below F0 (T147.setTop (mkF m 280 #[.val (.long p0s), .second, .val (.long p1s), .second, .val (.int p2s), .val (.int p3s), .val (.int z11), .val (.int z12), .val (.ref b15), .val (.long z145), .second] [(.long rr_147)])) := fun tg_ kg_ => r146 tg_ (st147 tg_ kg_)
      have r149 : own_R p.tables e below F0 (T147.setTop (mkF m 283 #[.val (.long p0s), .second, .val (.long p1s), .second, .val (.int p2s), .val (.int p3s), .val (.int z11), .val (.int z12), .val (.ref b15), .val (.long z145), .second] [(.int (lcmpW rr_147 z145))])) := fun tg_ kg_ => by
        refine r147 tg_ ?_
        show Steps p.tables e below (T147.setTop (mkF m 280 #[.val (.long p0s), .second, .val (.long p1s), .second, .val (.int p2s), .val (.int p3s), .val (.int z11), .val (.int z12), .val (.ref b15), .val (.long z145), .second] [(.long rr_147)])) _
        refine XS.lload X147.here hx rfl (hb hby at_280) rfl ?_
        show Steps p.tables e below (T147.setTop (mkF m 282 #[.val (.long p0s), .second, .val (.long p1s), .second, .val (.int p2s), .val (.int p3s), .val (.int z11), .val (.int z12), .val (.ref b15), .val (.long z145), .second] [(.long z145), (.long rr_147)])) _
        refine XS.lcmp X147.here hx rfl (hb hby at_282) rfl ?_
        exact kg_
      have hc148 : rr_147 = z145 := (own_final _ _ _ Ln hL hL8 hc139 I147_1).trans hz145.symm
      have r150 : own_R p.tables e below F0 (T147.setTop (mkF m 291 #[.val (.long p0s), .second, .val (.long p1s), .second, .val (.int p2s), .val (.int p3s), .val (.int z11), .val (.int z12), .val (.ref b15), .val (.long z145), .second] [(.int (1 : Int32))])) := fun tg_ kg_ => by
        refine r149 tg_ ?_
        show Steps p.tables e below (T147.setTop (mkF m 283 #[.val (.long p0s), .second, .val (.long p1s), .second, .val (.int p2s), .val (.int p3s), .val (.int z11), .val (.int z12), .val (.ref b15), .val (.long z145), .second] [(.int (lcmpW rr_147 z145))])) _
        refine XS.ifNo X147.here hx rfl (hb hby at_283) rfl (own_l_eq hc148).2 ?_
        show Steps p.tables e below (T147.setTop (mkF m 286 #[.val (.long p0s), .second, .val (.long p1s), .second, .val (.int p2s), .val (.int p3s), .val (.int z11), .val (.int z12), .val (.ref b15), .val (.long z145), .second] [])) _
        refine XS.iconst X147.here hx rfl (hb hby at_286) ?_
        show Steps p.tables e below (T147.setTop (mkF m 287 #[.val (.long p0s), .second, .val (.long p1s), .second, .val (.int p2s), .val (.int p3s), .val (.int z11), .val (.int z12), .val (.ref b15), .val (.long z145), .second] [(.int (1 : Int32))])) _
        refine XS.goto X147.here hx rfl (pc0 := 287) (pc' := 291) rfl (hb hby at_287) (by decide) (by decide) ?_
        exact kg_
      refine hG (own_fin X147 hlk (some (.int (nar .boolean (1 : Int32)))) (own_hv Bd.returns) ?_ (by decide) (by decide) (fun fs hr => r150 _ (retN X147 hx (t := .boolean) Bd.returns (by simp) (hb hby at_291) hr)))
      rw [I147_0]
      exact ⟨rfl, N147⟩
  exact key _ _ id (fun t k => castTop (ef_0 m p0s p1s p2s p3s) k)
set_option maxRecDepth 65536 in
set_option maxHeartbeats 40000000 in
theorem comes_1 {Post : Tables → Env → Array Value → State → Outcome → State → Prop} (hpost : ∀ tb e args s v u, (limb_1_1.after args s (.returned v) u = true ∧ limb_1_2.after args s (.returned v) u = true ∧ True) → FrameEnd s (.returned v) u (Jvm.fieldLocs frame_1_writes args s ++ Jvm.arrayLocs frame_1_arrays args s ++ Jvm.staticLocs frame_1_statics s) 16 128 → Post tb e args s (.returned v) u) :
    ArmFor flags0 classFile x code maxLocals ret World_1 tables_1 room_1 Calls_1 rest_1 Pre_1 Post := by
  intro l hfl _ _ p e ha hc hk s m args below hf hA hF happ hP
  obtain ⟨hcalls, hrest, hpre⟩ := hP
  obtain ⟨-, -, -, hnamed, -, -, -, hat⟩ := (Spec.applies_iff hf).mp happ
  obtain ⟨hg, hn⟩ := and_e (Cond.before_iff.mp (show (Jvm.Cond.and given_1 narrow_1).before args s = true from hpre))
  obtain ⟨gw1, gw2⟩ := and_e hg
  obtain ⟨gw3, gw4⟩ := and_e gw2
  obtain ⟨gw5, gw6⟩ := and_e gw4
  obtain ⟨gw7, gw8⟩ := and_e gw6
  obtain ⟨w0, w1, w2, w3, rfl⟩ : ∃ w0 w1 w2 w3 : Value, args = #[w0, w1, w2, w3] := by
    have hs : args.size = 4 := by simpa [Cond.value, given_1] using gw1
    obtain ⟨L⟩ := args
    match L, hs with
    | [w0, w1, w2, w3], _ => exact ⟨w0, w1, w2, w3, rfl⟩
  have hw := fun d (hd : d ∈ tables_1) => atoms_spec (ws := Jvm.Cond.code x code maxLocals ret :: tables_1) hat d (List.mem_cons_of_mem _ hd)
  have hfit : Fit s := fun {y c} hc i hi => by
    obtain ⟨ha, rfl⟩ := Array.getElem?_eq_some_iff.mp hc
    have q := List.all_eq_true.mp ((Array.all_eq_true_iff_forall_mem.mp hF) _ (Array.getElem_mem ha)) i (List.mem_range.mpr hi)
    simpa [Array.getElem?_eq_getElem hi] using q
  obtain ⟨i0, ei0⟩ := isL_v gw3
  obtain rfl : w0 = (.long i0) := Option.some.inj ei0
  obtain ⟨i1, ei1⟩ := isL_v gw5
  obtain rfl : w1 = (.long i1) := Option.some.inj ei1
  obtain ⟨i2, ei2⟩ := is_v gw7
  obtain rfl : w2 = (.int i2) := Option.some.inj ei2
  obtain ⟨i3, ei3⟩ := is_v gw8
  obtain rfl : w3 = (.int i3) := Option.some.inj ei3
  obtain ⟨n, o, h1, h2, h3, _, L, rfl, ⟨rfl, N⟩, hq⟩ := rm0 l s _ hw tables_1 i0 i1 i2 i3  s.heap s.heap.size (Nat.le_refl _)  p e ha hc hk s m _ below hf ((Spec.applies_iff_loose hf).mp happ).1 ⟨rfl, State.Warmed39.refl s, rfl⟩ trivial
  refine ⟨n, _, h1, h2, h3, hpost _ _ _ _ _ _ ⟨Cond.after_iff.mpr rfl, Cond.after_iff.mpr (eq_i res_at (Term.int_eval (1)) rfl), trivial⟩ ⟨hq.1, hq.2.1, (hq.2.2.sift fun y hy => Or.inr (N y hy)).mono (by decide) (by decide)⟩⟩
theorem main_1_1 : Claimed_1_1 := comes_1 fun _ _ _ _ _ _ h hF => ⟨h.1, hF⟩
theorem main_1_2 : Claimed_1_2 := comes_1 fun _ _ _ _ _ _ h hF => ⟨h.2.1, hF⟩
end Jvm.Pilot.@@N@@
namespace Jvm.Pilot.@@N@@
open Jvm Jvm.ClassFile Sem Op Lib Jvm.Free Jvm.Stand Jvm.Pilot.@@N@@.Jvm.D
/-! MADE BY PROGRAM (witnessworld.py) out of the Statement's table words and the real class files: 9 classes; the members and pool entries that the words name. The judged class is class 1, her method 1. -/
namespace start1
open Jvm.ClassFile
def u (s : String) : CpInfo := .utf8 (stringToUtf16 s)
/-- a pool by its gaps: so many unusable entries, then the entry; so many at the end -/
def gap : Nat → List CpInfo → List CpInfo
  | 0, r => r
  | n + 1, r => .unusable :: gap n r
def poolList (es : List (Nat × CpInfo)) (last : Nat) : List CpInfo := es.foldr (fun e r => gap e.1 (e.2 :: r)) (gap last [])
def pool (es : List (Nat × CpInfo)) (last : Nat) : Array CpInfo := ⟨poolList es last⟩
def fileOf (pool : Array CpInfo) (this : Nat) (attrs : Array Attribute := #[]) (ms : Array MethodInfo := #[]) (fl : Nat := 33) (sup : Nat := 0) (ifs : Array Nat := #[]) (fds : Array FieldInfo := #[]) : ClassFile where
  minorVersion := 0
  majorVersion := 65
  constantPool := pool
  accessFlags := fl
  thisClass := this
  superClass := sup
  interfaces := ifs
  fields := fds
  methods := ms
  attributes := attrs
def plain (name : String) (sup : Option ClassId) : Class where
  name := name
  kind := .ordinary
  loader := none
  accessFlags := 33
  super := sup
  interfaces := #[]
  cf := none
  fields := #[]
  methods := #[]
  instanceTypes := #[]
  staticTypes := #[]
  resolved := #[]
  callSites := []
  init := .initialized
  statics := none
  mirror := none

def pool0 : Array CpInfo := pool [(5, u "<init>"), (0, u "()V"), (1, .class_ 10), (1, u "java/lang/Object")] 113

def k0m0 : Method := { name := "<init>", desc := "()V", sig := { parameters := [], returnType := none }, accessFlags := 1, code := none }
/-- java/lang/Object -/
def k0 : Class := { plain "java/lang/Object" none with
  accessFlags := 33
  interfaces := #[]
  cf := some (fileOf pool0 8 #[] #[{ accessFlags := 1, nameIndex := 5, descriptorIndex := 6, attributes := #[] }] 33 0 #[] #[])
  fields := #[]
  methods := #[k0m0]
  instanceTypes := #[]
  staticTypes := #[]
  resolved := Array.replicate 124 none
  statics := none }

def pool1 : Array CpInfo := pool [(2, .class_ 4), (1, u "java/lang/Object"), (0, u "<init>"), (0, u "()V"), (0, .integer 2147483647), (0, .methodref 9 10), (0, .class_ 11), (0, .nameAndType 12 13), (0, u "com/example/garlicwire/garlicwire/data/DataReader"), (0, u "integer"), (0, u "([BII)J"), (0, .class_ 15), (0, u "com/example/garlicwire/garlicwire/data/DataReaderIntegerPinLaw"), (2, u "law"), (0, u "(JJII)Z")] 5

def k1m0 : Method := { name := "<init>", desc := "()V", sig := { parameters := [], returnType := none }, accessFlags := 2, code := none }
def k1c1 : Code := { maxStack := 5, maxLocals := 11, code := code, exceptionTable := #[], attributes := #[] }
def k1m1 : Method := { name := "law", desc := "(JJII)Z", sig := { parameters := [.long, .long, .int, .int], returnType := some .boolean }, accessFlags := 9, code := some k1c1 }
/-- com/example/garlicwire/garlicwire/data/DataReaderIntegerPinLaw -/
def k1 : Class := { plain "com/example/garlicwire/garlicwire/data/DataReaderIntegerPinLaw" (some 0) with
  accessFlags := 49
  interfaces := #[]
  cf := some (fileOf pool1 14 #[] #[{ accessFlags := 2, nameIndex := 5, descriptorIndex := 6, attributes := #[] }, { accessFlags := 9, nameIndex := 18, descriptorIndex := 19, attributes := #[] }] 49 2 #[] #[])
  fields := #[]
  methods := #[k1m0, k1m1]
  instanceTypes := #[]
  staticTypes := #[]
  resolved := Array.replicate 25 none
  statics := none }

def pool2 : Array CpInfo := pool [(2, .class_ 4), (1, u "com/example/garlicwire/garlicwire/data/DataReader"), (3, .class_ 10), (1, u "java/lang/Object"), (9, u "data"), (0, u "[B"), (2, u "start"), (0, u "I"), (2, u "limit"), (2, u "position"), (25, .class_ 59), (1, u "com/example/garlicwire/garlicwire/data/DataReader$Structure"), (11, u "integer"), (0, u "([BII)J")] 113

def k2c0 : Code := { maxStack := 4, maxLocals := 6, code := prog_17_method_5_code, exceptionTable := #[], attributes := #[] }
def k2m0 : Method := { name := "integer", desc := "([BII)J", sig := { parameters := [(.array .byte), .int, .int], returnType := some .long }, accessFlags := 9, code := some k2c0 }
/-- com/example/garlicwire/garlicwire/data/DataReader -/
def k2 : Class := { plain "com/example/garlicwire/garlicwire/data/DataReader" (some 0) with
  accessFlags := 49
  interfaces := #[]
  cf := some (fileOf pool2 2 #[.nestMembers #[57]] #[{ accessFlags := 9, nameIndex := 71, descriptorIndex := 72, attributes := #[] }] 49 8 #[] #[{ accessFlags := 18, nameIndex := 20, descriptorIndex := 21, attributes := #[] }, { accessFlags := 18, nameIndex := 24, descriptorIndex := 25, attributes := #[] }, { accessFlags := 18, nameIndex := 28, descriptorIndex := 25, attributes := #[] }, { accessFlags := 2, nameIndex := 31, descriptorIndex := 25, attributes := #[] }])
  fields := #[{ name := "data", type := (.array .byte), accessFlags := 18, slot := 0, constantValue := 0 }, { name := "start", type := .int, accessFlags := 18, slot := 1, constantValue := 0 }, { name := "limit", type := .int, accessFlags := 18, slot := 2, constantValue := 0 }, { name := "position", type := .int, accessFlags := 2, slot := 3, constantValue := 0 }]
  methods := #[k2m0]
  instanceTypes := #[(.array .byte), .int, .int, .int]
  staticTypes := #[]
  resolved := Array.replicate 186 none
  statics := none }

def pool3 : Array CpInfo := pool [(1, u "java/lang/Cloneable"), (0, .class_ 1), (0, u "java/lang/Object"), (0, .class_ 3)] 3

/-- java/lang/Cloneable -/
def k3 : Class := { plain "java/lang/Cloneable" (some 0) with
  accessFlags := 1537
  interfaces := #[]
  cf := some (fileOf pool3 2 #[] #[] 1537 4 #[] #[])
  fields := #[]
  methods := #[]
  instanceTypes := #[]
  staticTypes := #[]
  resolved := Array.replicate 8 none
  statics := none }

def pool4 : Array CpInfo := pool [(1, u "java/io/Serializable"), (0, .class_ 1), (0, u "java/lang/Object"), (0, .class_ 3)] 3

/-- java/io/Serializable -/
def k4 : Class := { plain "java/io/Serializable" (some 0) with
  accessFlags := 1537
  interfaces := #[]
  cf := some (fileOf pool4 2 #[] #[] 1537 4 #[] #[])
  fields := #[]
  methods := #[]
  instanceTypes := #[]
  staticTypes := #[]
  resolved := Array.replicate 8 none
  statics := none }

/-- the primitive byte -/
def k5 : Class := { plain "byte" none with kind := .primitive 'B', accessFlags := 0x411 }
/-- [B -/
def k6 : Class := { plain "[B" (some 0) with kind := .array 5 .byte, interfaces := #[3, 4], accessFlags := 1041 }

/-- the primitive int -/
def k7 : Class := { plain "int" none with kind := .primitive 'I', accessFlags := 0x411 }
/-- [I -/
def k8 : Class := { plain "[I" (some 0) with kind := .array 7 .int, interfaces := #[3, 4], accessFlags := 1041 }

def heap : Heap := #[]
def classes : Array Class := #[k0, k1, k2, k3, k4, k5, k6, k7, k8]
def interned : List (Array UInt16 × Addr) := []
def slotsUsed : Nat := 0
def theMethod : MethodId := ⟨1, 1⟩
def args0 : Array Value := #[.long 5, .long 3, .int 3, .int 9]
def aboutOver (below : List Frame) : State where
  vm := { classes := classes, interned := interned.toArray }
  heap := heap
  slotsUsed := slotsUsed
  threads := #[{ frames := .invoking theMethod args0 :: below }]
def below0 : List Frame := [.native { method := ⟨0, 0⟩, args := #[] }]
def about1 : State := aboutOver below0
def p0 : Program := .bare "" "" ""
def e0 : Env := launch0.env 0 0 0
theorem w_frames : about1.frames = Frame.invoking theMethod args0 :: below0 := rfl
set_option maxRecDepth 65536 in
theorem w_args : argsFit about1.vm theMethod args0 = true := by decide +kernel
set_option maxRecDepth 65536 in
theorem w_heap : heapFits about1 = true := by decide +kernel
set_option maxRecDepth 65536 in
theorem w_runnable : about1.curStatus? = some .runnable := by decide +kernel
set_option maxRecDepth 65536 in
theorem w_alone : about1.alone = true := by decide +kernel
set_option maxRecDepth 65536 in
theorem w_named : about1.methodNamed? x = some theMethod := by decide +kernel
set_option maxRecDepth 65536 in
theorem w_hears : about1.hears theMethod below0 = true := by decide +kernel
set_option maxRecDepth 65536 in
theorem w_ripe : about1.ripe theMethod args0 below0 = true := by decide +kernel
theorem w_running : about1.status = .running := rfl
set_option maxRecDepth 65536 in
theorem w_room : about1.hasRoom e0.platform room_1 = true :=
  launch0.hasRoom_least _ room_1 (by decide +kernel) (by decide +kernel) (by decide +kernel) (by decide +kernel) (by decide +kernel) (by decide +kernel)
theorem allAtoms_all (ts : List Jvm.Cond) (a : Array Jvm.Value) (st : Jvm.State) : (allAtoms ts).before a st = ts.all (fun c => c.before a st) := by
  induction ts with
  | nil => rfl
  | cons c t ih =>
    show (Jvm.Cond.and c (allAtoms t)).before a st = _
    rw [Jvm.Cond.before_and, ih, List.all_cons]
def words1 : List Jvm.Cond := Jvm.Cond.code x code maxLocals ret :: tables_1
/-- a 'code' word, met by the world's own term for the bytes: nothing is compared byte by byte -/
theorem code_word {y : MethodName} {bytes : ByteArray} {mx : Nat} {rt : Option FieldType} {a : Array Value} {s : State} {m : MethodId} {meth : Method} {c : Code} (h1 : s.methodNamed? y = some m) (h2 : s.vm.method? m = some meth) (h3 : meth.code = some c) (h4 : c.code = bytes)
    (h5 : (c.maxLocals == mx && c.exceptionTable.isEmpty && decide (c.maxStack ≤ mostOperands) && decide (meth.sig.returnType = rt) && !meth.locks && decide (parseMethodDescriptor y.desc = some meth.sig)) = true) : (Jvm.Cond.code y bytes mx rt).before a s = true := by
  simp only [Bool.and_eq_true, beq_iff_eq, Bool.not_eq_true', decide_eq_true_eq] at h5
  obtain ⟨⟨⟨⟨⟨g1, g2⟩, g3⟩, g4⟩, g5⟩, g6⟩ := h5
  simp [Cond.before, Cond.holds, Cond.value, h1, h2, h3, h4, g1, g2, g3, g4, g5, g6]
def isCode : Jvm.Cond → Bool
  | .code _ _ _ _ => true
  | _ => false
theorem all_split {L : List Jvm.Cond} {P : Jvm.Cond → Bool} (h1 : L.all (fun c => isCode c || P c) = true) (h2 : ∀ c ∈ L.filter isCode, P c = true) : L.all P = true := by
  refine List.all_eq_true.mpr fun c hc => ?_
  have h := List.all_eq_true.mp h1 c hc
  rcases Bool.eq_false_or_eq_true (isCode c) with hi | hi
  · exact h2 c (List.mem_filter.mpr ⟨hc, hi⟩)
  · simpa [hi] using h
set_option maxRecDepth 65536 in
theorem w_c0 : (Jvm.Cond.code x code maxLocals ret).before args0 about1 = true := code_word (m := ⟨1, 1⟩) (meth := k1m1) (c := k1c1) (by decide +kernel) rfl rfl rfl (by decide +kernel)
set_option maxRecDepth 65536 in
theorem w_c1 : (Jvm.Cond.code ({ cls := "com/example/garlicwire/garlicwire/data/DataReader", name := "integer", desc := "([BII)J" } : Jvm.MethodName) prog_17_method_5_code (6 : Nat) (Option.some Jvm.ClassFile.FieldType.long)).before args0 about1 = true := code_word (m := ⟨2, 0⟩) (meth := k2m0) (c := k2c0) (by decide +kernel) rfl rfl rfl (by decide +kernel)
def codes1 : List Jvm.Cond := [Jvm.Cond.code x code maxLocals ret, Jvm.Cond.code ({ cls := "com/example/garlicwire/garlicwire/data/DataReader", name := "integer", desc := "([BII)J" } : Jvm.MethodName) prog_17_method_5_code (6 : Nat) (Option.some Jvm.ClassFile.FieldType.long)]
set_option maxRecDepth 65536 in
theorem codes_eq : words1.filter isCode = codes1 := rfl
theorem w_codes : ∀ c ∈ words1.filter isCode, c.before args0 about1 = true := by
  rw [codes_eq]
  intro c hc
  simp only [codes1, List.mem_cons, List.not_mem_nil, or_false] at hc
  rcases hc with rfl | rfl
  · exact w_c0
  · exact w_c1
set_option maxRecDepth 65536 in
theorem w_t1 : words1.all (fun c => isCode c || c.before args0 about1) = true := by decide +kernel
theorem w_tables : (allAtoms (Jvm.Cond.code x code maxLocals ret :: tables_1)).before args0 about1 = true := by
  rw [allAtoms_all]
  show words1.all (fun c => c.before args0 about1) = true
  refine all_split ?_ w_codes
  rw [w_t1]
set_option maxRecDepth 65536 in
theorem w_case : (Jvm.Cond.and given_1 narrow_1).before args0 about1 = true := by decide +kernel
theorem w_applies : (headSpec (Jvm.Cond.code x code maxLocals ret :: tables_1) room_1).applies x e0.platform about1 = true :=
  (Spec.applies_iff w_frames).mpr ⟨w_running, w_runnable, w_alone, w_named, w_hears, w_ripe, w_room, w_tables⟩
theorem atStart : AtStart classFile x code maxLocals ret World_1 tables_1 room_1 Calls_1 rest_1 Pre_1 launch0 p0 e0 about1 theMethod args0 below0 :=
  ⟨lists_1, trivial, launch0.admits_env _ _ _, launch0.least_env, fairChoices_fair.cas, fairChoices_fair.clock, w_frames, w_args, w_heap, w_applies, trivial, trivial, w_case⟩
end start1
theorem witness_1 : WitnessClaimed_1 := ⟨start1.p0, start1.e0, start1.about1, start1.theMethod, start1.args0, start1.below0, start1.atStart⟩
end Jvm.Pilot.@@N@@
