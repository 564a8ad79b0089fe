import JvmDerived
import JvmDerived.Pilot.@@N@@Statement
import JvmDerived.Pilot.@@N@@Code
set_option linter.unusedVariables false
set_option linter.unusedSimpArgs false
namespace Jvm.Pilot.@@N@@
open Jvm Jvm.ClassFile Sem Op Lib Jvm.Free Jvm.Stand Jvm.LawKit Jvm.RoadKit Bundle Jvm.Pilot.@@N@@.Jvm.D
-- OWN KIT (mine): reach, finish, weakening of the counters, arrays by a function, arithmetic in omega's form
abbrev own_R (tb : Tables) (e : Env) (below : List Frame) (F0 F : State) : Prop := ∀ t, Steps tb e below F t → Steps tb e below F0 t
abbrev own_G (p : Program) (e : Env) (below : List Frame) (s F0 : State) (Q : Option Value → Heap → List Loc → Prop) (kc ks : Nat) : Prop :=
  ∃ s₂ o, Steps p.tables e below F0 s₂ ∧ s₂.status = .running ∧ Ended s₂ below o ∧ ∃ v L, o = .returned v ∧ Q v s₂.heap L ∧ FrameEnd s o s₂ L kc ks
section OwnKit
variable {p : Program} {l : Launch} {e : Env} {R : Room} {s : State} {m : MethodId} {args : Array Value} {below : List Frame} {meth : Method} {c : Code} {T : State} {locs : List Loc} {cells slots : Nat}
theorem own_fin (X : Stand p l e R s m args below meth c T locs cells slots) (hl : meth.locks = false) {F0 : State} {Q : Option Value → Heap → List Loc → Prop} {kc ks : Nat} (v : Option Value) (hv : meth.sig.returnType = none → v = none) (hq : Q v T.heap locs) (hc : cells ≤ kc) (hs : slots ≤ ks)
    (st : ∀ fs, (∀ (f : JFrame) (acts : List Action), f.method = m → f.locked = none → f.entered = [] → (doReturn e (T.setTop f) acts v).1 = T.setFrames fs) → Steps p.tables e below F0 (T.setFrames fs)) : own_G p e below s F0 Q kc ks := by
  obtain ⟨fs, hr, hrun, hended, hW, hsame⟩ := X.leave hv hl
  exact ⟨_, _, st fs hr, hrun, hended, _, _, rfl, hq, ⟨_, rfl⟩, hW, hsame.mono hc hs⟩
theorem own_mono (X : Stand p l e R s m args below meth c T locs cells slots) {c' s' : Nat} (hc : cells ≤ c') (hs : slots ≤ s') : Stand p l e R s m args below meth c T locs c' s' := { X with same := X.same.mono hc hs }
end OwnKit
theorem own_hv {meth : Method} {t : FieldType} {v : Option Value} (h : meth.sig.returnType = some t) : meth.sig.returnType = none → v = none := fun q => by rw [h] at q; cases q
theorem own_lt32 {a b : Int32} (h : a < b) : a.toInt < b.toInt := Int32.lt_iff_toInt_lt.mp h
theorem own_nlt32 {a b : Int32} (h : ¬ a < b) : b.toInt ≤ a.toInt := Int.not_lt.mp fun q => h (Int32.lt_iff_toInt_lt.mpr q)
theorem own_eq32 {a b : Int32} (h : a = b) : a.toInt = b.toInt := congrArg Int32.toInt h
theorem own_ne32 {a b : Int32} (h : ¬ a = b) : a.toInt ≠ b.toInt := fun q => h (Int32.toInt_inj.mp q)
theorem own_lt64 {a b : Int64} (h : a < b) : a.toInt < b.toInt := Int64.lt_iff_toInt_lt.mp h
theorem own_nlt64 {a b : Int64} (h : ¬ a < b) : b.toInt ≤ a.toInt := Int.not_lt.mp fun q => h (Int64.lt_iff_toInt_lt.mpr q)
theorem own_eq64 {a b : Int64} (h : a = b) : a.toInt = b.toInt := congrArg Int64.toInt h
theorem own_ne64 {a b : Int64} (h : ¬ a = b) : a.toInt ≠ b.toInt := fun q => h (Int64.toInt_inj.mp q)
theorem own_imulc (x y : Int32) (d : Int) (h : y.toInt = d) : ((x * y).toInt - x.toInt * d) % 4294967296 = 0 := by rw [← h]; exact c_imul x y
theorem own_imulc' (x y : Int32) (d : Int) (h : x.toInt = d) : ((x * y).toInt - d * y.toInt) % 4294967296 = 0 := by rw [← h]; exact c_imul x y
theorem own_lmulc (x y : Int64) (d : Int) (h : y.toInt = d) : ((x * y).toInt - x.toInt * d) % 18446744073709551616 = 0 := by rw [← h]; exact c_lmul x y
theorem own_lmulc' (x y : Int64) (d : Int) (h : x.toInt = d) : ((x * y).toInt - d * y.toInt) % 18446744073709551616 = 0 := by rw [← h]; exact c_lmul x y
theorem own_mask (x m : Int32) (k : Nat) (P : Int) (hk : k ≤ 31) (hm : m.toBitVec.toNat = 2 ^ k - 1) (hP : P = ((2 ^ k : Nat) : Int)) : (x &&& m).toInt = x.toInt % P := by rw [hP]; exact c_mask x m k hk hm
theorem own_maskL (x m : Int64) (k : Nat) (P : Int) (hk : k ≤ 63) (hm : m.toBitVec.toNat = 2 ^ k - 1) (hP : P = ((2 ^ k : Nat) : Int)) : (x &&& m).toInt = x.toInt % P := by rw [hP]; exact c_maskL x m k hk hm
theorem own_ishr (x q : Int32) (k : Nat) (P : Int) (hk : q.toBitVec.toNat % 32 = k) (hP : P = ((2 ^ k : Nat) : Int)) : (x >>> (q &&& 31)).toInt = x.toInt / P := by rw [hP]; exact c_ishr x q k hk
theorem own_ishl (x q : Int32) (k : Nat) (P : Int) (hk : q.toBitVec.toNat % 32 = k) (hP : P = ((2 ^ k : Nat) : Int)) : ((x <<< (q &&& 31)).toInt - x.toInt * P) % 4294967296 = 0 := by rw [hP]; exact c_ishl x q k hk
theorem own_iushr (x q : Int32) (k : Nat) (P : Int) (hk : q.toBitVec.toNat % 32 = k) (h0 : 0 < k) (hP : P = ((2 ^ k : Nat) : Int)) : ((x.toUInt32 >>> (q &&& 31).toUInt32).toInt32).toInt = (x.toInt % 4294967296) / P := by rw [hP]; exact c_iushr x q k hk h0
theorem own_lshr (x : Int64) (q : Int32) (k : Nat) (P : Int) (hk : q.toBitVec.toNat % 64 = k) (hP : P = ((2 ^ k : Nat) : Int)) : (x >>> (q &&& 0x3f).toInt64).toInt = x.toInt / P := by rw [hP]; exact c_lshr x q k hk
theorem own_lshl (x : Int64) (q : Int32) (k : Nat) (P : Int) (hk : q.toBitVec.toNat % 64 = k) (hP : P = ((2 ^ k : Nat) : Int)) : ((x <<< (q &&& 0x3f).toInt64).toInt - x.toInt * P) % 18446744073709551616 = 0 := by rw [hP]; exact c_lshl x q k hk
theorem own_lushr (x : Int64) (q : Int32) (k : Nat) (P : Int) (hk : q.toBitVec.toNat % 64 = k) (h0 : 0 < k) (hP : P = ((2 ^ k : Nat) : Int)) : ((x.toUInt64 >>> (q &&& 0x3f).toInt64.toUInt64).toInt64).toInt = (x.toInt % 18446744073709551616) / P := by rw [hP]; exact c_lushr x q k hk h0
theorem own_lc_lt {x y : Int64} {cd : ClassFile.Cond} {b : Bool} (h : if_icmp.holds cd (lcmpW x y) 0 = b) : ifCond.holds cd (lcmpW x y) = b := (if0 _ _).trans h
theorem own_l_lt {x y : Int64} (h : x < y) : ifCond.holds .lt (lcmpW x y) = true ∧ ifCond.holds .ge (lcmpW x y) = false := ⟨(if0 _ _).trans (tlt ((lw_lt x y).mpr h)).1, (if0 _ _).trans (tlt ((lw_lt x y).mpr h)).2.1⟩
theorem own_l_nlt {x y : Int64} (h : ¬ x < y) : ifCond.holds .lt (lcmpW x y) = false ∧ ifCond.holds .ge (lcmpW x y) = true := ⟨(if0 _ _).trans (flt (fun q => h ((lw_lt x y).mp q))).1, (if0 _ _).trans (flt (fun q => h ((lw_lt x y).mp q))).2.1⟩
theorem own_l_gt {x y : Int64} (h : y < x) : ifCond.holds .gt (lcmpW x y) = true ∧ ifCond.holds .le (lcmpW x y) = false := ⟨(if0 _ _).trans (tlt ((lw_gt x y).mpr h)).2.2.1, (if0 _ _).trans (tlt ((lw_gt x y).mpr h)).2.2.2⟩
theorem own_l_ngt {x y : Int64} (h : ¬ y < x) : ifCond.holds .gt (lcmpW x y) = false ∧ ifCond.holds .le (lcmpW x y) = true := ⟨(if0 _ _).trans (flt (fun q => h ((lw_gt x y).mp q))).2.2.1, (if0 _ _).trans (flt (fun q => h ((lw_gt x y).mp q))).2.2.2⟩
theorem own_l_eq {x y : Int64} (h : x = y) : ifCond.holds .eq (lcmpW x y) = true ∧ ifCond.holds .ne (lcmpW x y) = false := ⟨(if0 _ _).trans (teq ((lw_eq x y).mpr h)).1, (if0 _ _).trans (teq ((lw_eq x y).mpr h)).2⟩
theorem own_l_neq {x y : Int64} (h : ¬ x = y) : ifCond.holds .eq (lcmpW x y) = false ∧ ifCond.holds .ne (lcmpW x y) = true := ⟨(if0 _ _).trans (feq (fun q => h ((lw_eq x y).mp q))).1, (if0 _ _).trans (feq (fun q => h ((lw_eq x y).mp q))).2⟩
theorem own_lrem {x y : Int64} {d : Int} (hy : y.toInt = d) : (0 ≤ x.toInt → (x - (x / y) * y).toInt = x.toInt % d) ∧ (x.toInt < 0 → (x - (x / y) * y).toInt = -((-x.toInt) % d)) := c_lrem x y d hy
theorem own_lremf (x y : Int64) (d : Int) (hy : y.toInt = d) : (0 ≤ x.toInt → (x % y).toInt = x.toInt % d) ∧ (x.toInt < 0 → (x % y).toInt = -((-x.toInt) % d)) := by rw [Int64.toInt_mod, hy]; exact tr _ _
theorem own_lremM {p : Program} {l : Launch} {e : Env} {R : Room} {s : State} {m : MethodId} {args : Array Value} {below : List Frame} {meth : Method} {c : Code} {T : State} {locs : List Loc} {cells slots : Nat} {g : JFrame} {target : State} (X : Stand p l e R s m args below meth c T locs cells slots) (hx : p.tables.exec = Jvm.exec) (hg : g.method = m) {x y : Int64} {rest : List Value} (hd : decode c.code g.pc = .ok (.lrem, 1)) (hs : g.stack = .long y :: .long x :: rest) (hy : y ≠ 0)
    (hr : Steps p.tables e below (T.setTop { g with pc := g.pc + 1, stack := .long (x % y) :: rest }) target) : Steps p.tables e below (T.setTop g) target :=
  XS.lrem X.here hx hg hd hs hy (by rw [lrem_mod]; exact hr)
theorem own_R32 (x : Int32) : -2147483648 ≤ x.toInt ∧ x.toInt ≤ 2147483647 := by have := rng32 x; omega
theorem own_R64 (x : Int64) : -9223372036854775808 ≤ x.toInt ∧ x.toInt ≤ 9223372036854775807 := by have := rng64 x; omega
theorem own_iaddR {x y : Int32} {a b c d : Int} (lo hi : Int) (hx : a ≤ x.toInt ∧ x.toInt ≤ b) (hy : c ≤ y.toInt ∧ y.toInt ≤ d) (h1 : -2147483648 ≤ a + c ∧ b + d ≤ 2147483647) (h2 : lo ≤ a + c ∧ b + d ≤ hi) : (x + y).toInt = x.toInt + y.toInt ∧ lo ≤ (x + y).toInt ∧ (x + y).toInt ≤ hi := by have := c_iadd x y; have := rng32 (x + y); omega
theorem own_isubR {x y : Int32} {a b c d : Int} (lo hi : Int) (hx : a ≤ x.toInt ∧ x.toInt ≤ b) (hy : c ≤ y.toInt ∧ y.toInt ≤ d) (h1 : -2147483648 ≤ a - d ∧ b - c ≤ 2147483647) (h2 : lo ≤ a - d ∧ b - c ≤ hi) : (x - y).toInt = x.toInt - y.toInt ∧ lo ≤ (x - y).toInt ∧ (x - y).toInt ≤ hi := by have := c_isub x y; have := rng32 (x - y); omega
theorem own_laddR {x y : Int64} {a b c d : Int} (lo hi : Int) (hx : a ≤ x.toInt ∧ x.toInt ≤ b) (hy : c ≤ y.toInt ∧ y.toInt ≤ d) (h1 : -9223372036854775808 ≤ a + c ∧ b + d ≤ 9223372036854775807) (h2 : lo ≤ a + c ∧ b + d ≤ hi) : (x + y).toInt = x.toInt + y.toInt ∧ lo ≤ (x + y).toInt ∧ (x + y).toInt ≤ hi := by have := c_ladd x y; have := rng64 (x + y); omega
theorem own_lsubR {x y : Int64} {a b c d : Int} (lo hi : Int) (hx : a ≤ x.toInt ∧ x.toInt ≤ b) (hy : c ≤ y.toInt ∧ y.toInt ≤ d) (h1 : -9223372036854775808 ≤ a - d ∧ b - c ≤ 9223372036854775807) (h2 : lo ≤ a - d ∧ b - c ≤ hi) : (x - y).toInt = x.toInt - y.toInt ∧ lo ≤ (x - y).toInt ∧ (x - y).toInt ≤ hi := by have := c_lsub x y; have := rng64 (x - y); omega
theorem own_imulR {x y : Int32} {a b k : Int} (lo hi : Int) (hx : a ≤ x.toInt ∧ x.toInt ≤ b) (hy : y.toInt = k) (hk : 0 ≤ k) (h1 : -2147483648 ≤ a * k ∧ b * k ≤ 2147483647) (h2 : lo ≤ a * k ∧ b * k ≤ hi) : (x * y).toInt = x.toInt * k ∧ lo ≤ (x * y).toInt ∧ (x * y).toInt ≤ hi := by
  have h := c_imul x y; have := rng32 (x * y); rw [hy] at h
  have p1 := Int.mul_le_mul_of_nonneg_right hx.1 hk; have p2 := Int.mul_le_mul_of_nonneg_right hx.2 hk
  generalize x.toInt * k = z at *; generalize a * k = z1 at *; generalize b * k = z2 at *; omega
theorem own_lmulR {x y : Int64} {a b k : Int} (lo hi : Int) (hx : a ≤ x.toInt ∧ x.toInt ≤ b) (hy : y.toInt = k) (hk : 0 ≤ k) (h1 : -9223372036854775808 ≤ a * k ∧ b * k ≤ 9223372036854775807) (h2 : lo ≤ a * k ∧ b * k ≤ hi) : (x * y).toInt = x.toInt * k ∧ lo ≤ (x * y).toInt ∧ (x * y).toInt ≤ hi := by
  have h := c_lmul x y; have := rng64 (x * y); rw [hy] at h
  have p1 := Int.mul_le_mul_of_nonneg_right hx.1 hk; have p2 := Int.mul_le_mul_of_nonneg_right hx.2 hk
  generalize x.toInt * k = z at *; generalize a * k = z1 at *; generalize b * k = z2 at *; omega
theorem own_imulR' {x y : Int32} {a b k : Int} (lo hi : Int) (hx : a ≤ y.toInt ∧ y.toInt ≤ b) (hy : x.toInt = k) (hk : 0 ≤ k) (h1 : -2147483648 ≤ a * k ∧ b * k ≤ 2147483647) (h2 : lo ≤ a * k ∧ b * k ≤ hi) : (x * y).toInt = y.toInt * k ∧ lo ≤ (x * y).toInt ∧ (x * y).toInt ≤ hi := by rw [Int32.mul_comm]; exact own_imulR lo hi hx hy hk h1 h2
theorem own_lmulR' {x y : Int64} {a b k : Int} (lo hi : Int) (hx : a ≤ y.toInt ∧ y.toInt ≤ b) (hy : x.toInt = k) (hk : 0 ≤ k) (h1 : -9223372036854775808 ≤ a * k ∧ b * k ≤ 9223372036854775807) (h2 : lo ≤ a * k ∧ b * k ≤ hi) : (x * y).toInt = y.toInt * k ∧ lo ≤ (x * y).toInt ∧ (x * y).toInt ≤ hi := by rw [Int64.mul_comm]; exact own_lmulR lo hi hx hy hk h1 h2
theorem own_maskR (x m : Int32) (k : Nat) (P : Int) (hk : k ≤ 31) (hm : m.toBitVec.toNat = 2 ^ k - 1) (hP : P = ((2 ^ k : Nat) : Int)) (hi : Int) (h0 : 0 < P) (h : P ≤ hi + 1) : (x &&& m).toInt = x.toInt % P ∧ 0 ≤ (x &&& m).toInt ∧ (x &&& m).toInt ≤ hi := by
  have e := own_mask x m k P hk hm hP; have h1 := Int.emod_nonneg x.toInt (show P ≠ 0 by omega); have h2 := Int.emod_lt_of_pos x.toInt h0; omega
theorem own_maskLR (x m : Int64) (k : Nat) (P : Int) (hk : k ≤ 63) (hm : m.toBitVec.toNat = 2 ^ k - 1) (hP : P = ((2 ^ k : Nat) : Int)) (hi : Int) (h0 : 0 < P) (h : P ≤ hi + 1) : (x &&& m).toInt = x.toInt % P ∧ 0 ≤ (x &&& m).toInt ∧ (x &&& m).toInt ≤ hi := by
  have e := own_maskL x m k P hk hm hP; have h1 := Int.emod_nonneg x.toInt (show P ≠ 0 by omega); have h2 := Int.emod_lt_of_pos x.toInt h0; omega
theorem own_iremR {x y : Int32} {a b d : Int} (hi : Int) (hx : a ≤ x.toInt ∧ x.toInt ≤ b) (hy : y.toInt = d) (ha : 0 ≤ a) (hd : 0 < d) (h : d ≤ hi + 1) : (x % y).toInt = x.toInt % d ∧ 0 ≤ (x % y).toInt ∧ (x % y).toInt ≤ hi := by
  have e := (c_irem x y d hy).1 (by omega); have h1 := Int.emod_nonneg x.toInt (show d ≠ 0 by omega); have h2 := Int.emod_lt_of_pos x.toInt hd; omega
theorem own_lremR {x y : Int64} {a b d : Int} (hi : Int) (hx : a ≤ x.toInt ∧ x.toInt ≤ b) (hy : y.toInt = d) (ha : 0 ≤ a) (hd : 0 < d) (h : d ≤ hi + 1) : (x % y).toInt = x.toInt % d ∧ 0 ≤ (x % y).toInt ∧ (x % y).toInt ≤ hi := by
  have e := (own_lremf x y d hy).1 (by omega); have h1 := Int.emod_nonneg x.toInt (show d ≠ 0 by omega); have h2 := Int.emod_lt_of_pos x.toInt hd; omega
theorem own_idivR {x y : Int32} {a b d : Int} (lo hi : Int) (hx : a ≤ x.toInt ∧ x.toInt ≤ b) (hy : y.toInt = d) (hy1 : y ≠ -1) (ha : 0 ≤ a) (hd : 0 < d) (h : lo ≤ a / d ∧ b / d ≤ hi) : (x / y).toInt = x.toInt / d ∧ lo ≤ (x / y).toInt ∧ (x / y).toInt ≤ hi := by
  have e := (c_idiv x y d hy hy1).1 (by omega); have h1 := Int.ediv_le_ediv hd hx.1; have h2 := Int.ediv_le_ediv hd hx.2; omega
theorem own_ldivR {x y : Int64} {a b d : Int} (lo hi : Int) (hx : a ≤ x.toInt ∧ x.toInt ≤ b) (hy : y.toInt = d) (hy1 : y ≠ -1) (ha : 0 ≤ a) (hd : 0 < d) (h : lo ≤ a / d ∧ b / d ≤ hi) : (x / y).toInt = x.toInt / d ∧ lo ≤ (x / y).toInt ∧ (x / y).toInt ≤ hi := by
  have e := (c_ldiv x y d hy hy1).1 (by omega); have h1 := Int.ediv_le_ediv hd hx.1; have h2 := Int.ediv_le_ediv hd hx.2; omega
theorem own_l2iR {x : Int64} {a b : Int} (hx : a ≤ x.toInt ∧ x.toInt ≤ b) (h1 : -2147483648 ≤ a ∧ b ≤ 2147483647) : x.toInt32.toInt = x.toInt ∧ a ≤ x.toInt32.toInt ∧ x.toInt32.toInt ≤ b := by have := c_l2i x; have := rng32 x.toInt32; omega
theorem own_i2lR {x : Int32} {a b : Int} (hx : a ≤ x.toInt ∧ x.toInt ≤ b) : x.toInt64.toInt = x.toInt ∧ a ≤ x.toInt64.toInt ∧ x.toInt64.toInt ≤ b := by have := c_i2l x; omega
theorem own_eqR32 {x y : Int32} {a b : Int} (h : x = y) (hy : a ≤ y.toInt ∧ y.toInt ≤ b) : x.toInt = y.toInt ∧ a ≤ x.toInt ∧ x.toInt ≤ b := by subst h; exact ⟨rfl, hy⟩
theorem own_eqR64 {x y : Int64} {a b : Int} (h : x = y) (hy : a ≤ y.toInt ∧ y.toInt ≤ b) : x.toInt = y.toInt ∧ a ≤ x.toInt ∧ x.toInt ≤ b := by subst h; exact ⟨rfl, hy⟩
theorem own_lushrR {x : Int64} {a b : Int} (q : Int32) (k : Nat) (P lo hi : Int) (hx : a ≤ x.toInt ∧ x.toInt ≤ b) (ha : 0 ≤ a) (hk : q.toBitVec.toNat % 64 = k) (h0 : 0 < k) (hP : P = ((2 ^ k : Nat) : Int)) (hPp : 0 < P) (h : lo ≤ a / P ∧ b / P ≤ hi) : ((x.toUInt64 >>> (q &&& 0x3f).toInt64.toUInt64).toInt64).toInt = x.toInt / P ∧ lo ≤ ((x.toUInt64 >>> (q &&& 0x3f).toInt64.toUInt64).toInt64).toInt ∧ ((x.toUInt64 >>> (q &&& 0x3f).toInt64.toUInt64).toInt64).toInt ≤ hi := by
  have e := own_lushr x q k P hk h0 hP; have := rng64 x; rw [Int.emod_eq_of_lt (by omega) (by omega)] at e; have h1 := Int.ediv_le_ediv hPp hx.1; have h2 := Int.ediv_le_ediv hPp hx.2; omega
theorem own_iushrR {x : Int32} {a b : Int} (q : Int32) (k : Nat) (P lo hi : Int) (hx : a ≤ x.toInt ∧ x.toInt ≤ b) (ha : 0 ≤ a) (hk : q.toBitVec.toNat % 32 = k) (h0 : 0 < k) (hP : P = ((2 ^ k : Nat) : Int)) (hPp : 0 < P) (h : lo ≤ a / P ∧ b / P ≤ hi) : ((x.toUInt32 >>> (q &&& 31).toUInt32).toInt32).toInt = x.toInt / P ∧ lo ≤ ((x.toUInt32 >>> (q &&& 31).toUInt32).toInt32).toInt ∧ ((x.toUInt32 >>> (q &&& 31).toUInt32).toInt32).toInt ≤ hi := by
  have e := own_iushr x q k P hk h0 hP; have := rng32 x; rw [Int.emod_eq_of_lt (by omega) (by omega)] at e; have h1 := Int.ediv_le_ediv hPp hx.1; have h2 := Int.ediv_le_ediv hPp hx.2; omega
theorem own_iremVR {x y : Int32} {a b c d : Int} (hi : Int) (hx : a ≤ x.toInt ∧ x.toInt ≤ b) (hy : c ≤ y.toInt ∧ y.toInt ≤ d) (ha : 0 ≤ a) (hc : 0 < c) (h : d ≤ hi + 1) : ((x % y).toInt < y.toInt ∧ (x % y).toInt ≤ x.toInt) ∧ 0 ≤ (x % y).toInt ∧ (x % y).toInt ≤ hi := by
  have q := (c_iremV x y).1 (by omega) (by omega); omega
-- OWN KIT 1 (mine): an array by a function of its places
def own_Arf (Z : State) (h : Heap) (a : Addr) (ty : FieldType) (n : Nat) (f : Nat → Value) : Prop := ∃ c : Cell, Arr Z h a c ty ∧ c.slots.size = n ∧ n < 2 ^ 31 ∧ ∀ j, j < n → c.slots[j]? = some (f j)
section OwnArf
variable {Z : State} {h h' : Heap} {a b : Addr} {ty : FieldType} {n : Nat} {f f' : Nat → Value} {sl : Nat} {v : Value} {ws : List Addr}
theorem own_Arf.lt (F : own_Arf Z h a ty n f) : a < h.size := by obtain ⟨c, A, -⟩ := F; exact A.lt
theorem own_Arf.ext (F : own_Arf Z h a ty n f) (E : Ext h h') : own_Arf Z h' a ty n f := by obtain ⟨c, A, r⟩ := F; exact ⟨c, A.ext E, r⟩
theorem own_Arf.other (F : own_Arf Z h b ty n f) (W : Wr h h' a sl v) (q : b ≠ a) : own_Arf Z h' b ty n f := by obtain ⟨c, A, r⟩ := F; exact ⟨c, A.other W q, r⟩
theorem own_Arf.keep (F : own_Arf Z h a ty n f) (K : Keep h h' ws) (q : a ∉ ws) : own_Arf Z h' a ty n f := by obtain ⟨c, A, r⟩ := F; exact ⟨c, ⟨K.2.1 a c A.1 q, A.2⟩, r⟩
theorem own_Arf.cong (F : own_Arf Z h a ty n f) (q : ∀ j, j < n → f j = f' j) : own_Arf Z h a ty n f' := by obtain ⟨c, A, r1, r2, r3⟩ := F; exact ⟨c, A, r1, r2, fun j hj => (q j hj) ▸ r3 j hj⟩
theorem own_Arf.new {k : ClassId} {z : Int32} (A : Arr Z h a (newA k ty z) ty) (q : ¬ z < 0) : own_Arf Z h a ty z.toNatClampNeg (fun _ => defaultValue ty) :=
  ⟨_, A, sz_new _ _ _, (back32 q).2, fun j hj => by simp [newA, hj]⟩
theorem own_inb {j : Int32} {n : Nat} (h1 : 0 ≤ j.toInt) (h2 : j.toInt < n) : ¬ (j < 0 ∨ n ≤ j.toNatClampNeg) := by
  have q : j.toNatClampNeg = j.toInt.toNat := rfl
  rintro (p | p)
  · have := Int32.lt_iff_toInt_lt.mp p; rw [show (0 : Int32).toInt = 0 from rfl] at this; omega
  · rw [q] at p; omega
theorem own_set {c : Cell} {k : Nat} (A : Arr Z h a c ty) (S : c.slots.size = n) (hn : n < 2 ^ 31) (H : ∀ j, j < n → c.slots[j]? = some (f j)) (W : Wr h h' a k v) (hk : k < n) : own_Arf Z h' a ty n (fun i => if i = k then v else f i) := by
  refine ⟨_, A.same W, by rw [sz_set]; exact S, hn, fun j hj => ?_⟩
  by_cases q : j = k
  · subst q; simp [Cell.setSlot, S, hj]
  · show _ = some (if j = k then v else f j)
    rw [if_neg q, ← H j hj]; exact Array.getElem?_setIfInBounds_ne (Ne.symm q)
variable {p : Program} {l : Launch} {e : Env} {R : Room} {s : State} {m : MethodId} {args : Array Value} {below : List Frame} {meth : Method} {c : Code} {T : State} {locs : List Loc} {cells slots : Nat}
theorem own_ld {A : Prop} {j : Int32} (F : own_Arf Z h a ty n f) (h1 : 0 ≤ j.toInt) (h2 : j.toInt < n) (k : ∀ c : Cell, Arr Z h a c ty → ¬ (j < 0 ∨ c.slots.size ≤ j.toNatClampNeg) → c.slots[j.toNatClampNeg]? = some (f j.toNatClampNeg) → A) : A := by
  obtain ⟨c, Ar, S, hn, H⟩ := F
  exact k c Ar (by rw [S]; exact own_inb h1 h2) (H _ (by have q : j.toNatClampNeg = j.toInt.toNat := rfl; omega))
theorem own_iaload (X : Stand p l e R s m args below meth c T locs cells slots) (hx : p.tables.exec = Jvm.exec) (hZ : Z.Warmed39 s.vm) (eT : T.heap = h) {j : Int32} (F : own_Arf Z h a .int n f) (h1 : 0 ≤ j.toInt) (h2 : j.toInt < n) {w : Value} (hv : f j.toNatClampNeg = w) {g : JFrame} (hg : g.method = m) {rest : List Value} (hs : g.stack = .int j :: .ref a :: rest) (hd : decode c.code g.pc = .ok (.iaload, 1)) :
    ∀ target, Steps p.tables e below (T.setTop { g with pc := g.pc + 1, stack := w :: rest }) target → Steps p.tables e below (T.setTop g) target := by
  subst hv
  exact own_ld F h1 h2 fun cl Ar hin hat => X.iaload hx (j := j) (by rw [eT]; exact Ar.1) (State.isArrayOf_alike hZ.alike Ar.2.1) Ar.2.2 hin hat hg hs hd
theorem own_baloadB (X : Stand p l e R s m args below meth c T locs cells slots) (hx : p.tables.exec = Jvm.exec) (hZ : Z.Warmed39 s.vm) (eT : T.heap = h) {j : Int32} (F : own_Arf Z h a .byte n f) (h1 : 0 ≤ j.toInt) (h2 : j.toInt < n) {w : Value} (hv : f j.toNatClampNeg = w) {g : JFrame} (hg : g.method = m) {rest : List Value} (hs : g.stack = .int j :: .ref a :: rest) (hd : decode c.code g.pc = .ok (.baload, 1)) :
    ∀ target, Steps p.tables e below (T.setTop { g with pc := g.pc + 1, stack := w :: rest }) target → Steps p.tables e below (T.setTop g) target := by
  subst hv
  exact own_ld F h1 h2 fun cl Ar hin hat => X.baloadBytes hx (j := j) (by rw [eT]; exact Ar.1) (State.isArrayOf_alike hZ.alike Ar.2.1) Ar.2.2 hin hat hg hs hd
theorem own_baloadZ (X : Stand p l e R s m args below meth c T locs cells slots) (hx : p.tables.exec = Jvm.exec) (hZ : Z.Warmed39 s.vm) (eT : T.heap = h) {j : Int32} (F : own_Arf Z h a .boolean n f) (h1 : 0 ≤ j.toInt) (h2 : j.toInt < n) {w : Value} (hv : f j.toNatClampNeg = w) {g : JFrame} (hg : g.method = m) {rest : List Value} (hs : g.stack = .int j :: .ref a :: rest) (hd : decode c.code g.pc = .ok (.baload, 1)) :
    ∀ target, Steps p.tables e below (T.setTop { g with pc := g.pc + 1, stack := w :: rest }) target → Steps p.tables e below (T.setTop g) target := by
  subst hv
  exact own_ld F h1 h2 fun cl Ar hin hat => X.baloadBooleans hx (j := j) (by rw [eT]; exact Ar.1) (State.isArrayOf_alike hZ.alike Ar.2.1) Ar.2.2 hin hat hg hs hd
theorem own_len32 {c : Cell} {n : Nat} (S : c.slots.size = n) {z : Int32} (hz : z = Int32.ofNat n) : c.slots.size.toInt32 = z := by rw [S, hz]
theorem own_alen (X : Stand p l e R s m args below meth c T locs cells slots) (hx : p.tables.exec = Jvm.exec) (hZ : Z.Warmed39 s.vm) (eT : T.heap = h) (F : own_Arf Z h a ty n f) (z : Int32) (hz : z = Int32.ofNat n) {g : JFrame} (hg : g.method = m) {rest : List Value} (hs : g.stack = .ref a :: rest) (hd : decode c.code g.pc = .ok (.arraylength, 1)) :
    ∀ target, Steps p.tables e below (T.setTop { g with pc := g.pc + 1, stack := .int z :: rest }) target → Steps p.tables e below (T.setTop g) target := by
  obtain ⟨cl, Ar, S, hn, H⟩ := F
  intro t k
  refine X.arraylength hx (cell := cl) (by rw [eT]; exact Ar.1) (State.isArrayOf_alike hZ.alike Ar.2.1) hg hs hd t ?_
  rw [own_len32 S hz]; exact k
theorem own_stI (X : Stand p l e R s m args below meth c T locs cells slots) (hx : p.tables.exec = Jvm.exec) (hZ : Z.Warmed39 s.vm) (eT : T.heap = h) {j x : Int32} (F : own_Arf Z h a .int n f) (h1 : 0 ≤ j.toInt) (h2 : j.toInt < n) {g : JFrame} (hg : g.method = m) {rest : List Value} (hs : g.stack = .int x :: .int j :: .ref a :: rest) (hd : decode c.code g.pc = .ok (.iastore, 1)) :
    ∃ T' h', Stand p l e R s m args below meth c T' (locs ++ [⟨a, j.toNatClampNeg⟩]) cells slots ∧ T'.heap = h' ∧ Wr h h' a j.toNatClampNeg (.int x) ∧ own_Arf Z h' a .int n (fun i => if i = j.toNatClampNeg then .int x else f i) ∧ ∀ target, Steps p.tables e below (T'.setTop { g with pc := g.pc + 1, stack := rest }) target → Steps p.tables e below (T.setTop g) target := by
  obtain ⟨cl, Ar, S, hn, H⟩ := F
  have hin : ¬ (j < 0 ∨ cl.slots.size ≤ j.toNatClampNeg) := by rw [S]; exact own_inb h1 h2
  obtain ⟨T', h', X', e', W, st⟩ := stI X hx hZ eT Ar (j := j) hin hg hs hd
  exact ⟨T', h', X', e', W, own_set Ar S hn H W (by have q : j.toNatClampNeg = j.toInt.toNat := rfl; omega), st⟩
theorem own_stB (X : Stand p l e R s m args below meth c T locs cells slots) (hx : p.tables.exec = Jvm.exec) (hZ : Z.Warmed39 s.vm) (eT : T.heap = h) {j x : Int32} (F : own_Arf Z h a .byte n f) (h1 : 0 ≤ j.toInt) (h2 : j.toInt < n) {g : JFrame} (hg : g.method = m) {rest : List Value} (hs : g.stack = .int x :: .int j :: .ref a :: rest) (hd : decode c.code g.pc = .ok (.bastore, 1)) :
    ∃ T' h', Stand p l e R s m args below meth c T' (locs ++ [⟨a, j.toNatClampNeg⟩]) cells slots ∧ T'.heap = h' ∧ Wr h h' a j.toNatClampNeg (.int (nar .byte x)) ∧ own_Arf Z h' a .byte n (fun i => if i = j.toNatClampNeg then .int (nar .byte x) else f i) ∧ ∀ target, Steps p.tables e below (T'.setTop { g with pc := g.pc + 1, stack := rest }) target → Steps p.tables e below (T.setTop g) target := by
  obtain ⟨cl, Ar, S, hn, H⟩ := F
  have hin : ¬ (j < 0 ∨ cl.slots.size ≤ j.toNatClampNeg) := by rw [S]; exact own_inb h1 h2
  obtain ⟨T', h', X', e', W, st⟩ := stB X hx hZ eT Ar (j := j) hin hg hs hd
  exact ⟨T', h', X', e', W, own_set Ar S hn H W (by have q : j.toNatClampNeg = j.toInt.toNat := rfl; omega), st⟩
theorem own_stZ (X : Stand p l e R s m args below meth c T locs cells slots) (hx : p.tables.exec = Jvm.exec) (hZ : Z.Warmed39 s.vm) (eT : T.heap = h) {j x : Int32} (F : own_Arf Z h a .boolean n f) (h1 : 0 ≤ j.toInt) (h2 : j.toInt < n) {g : JFrame} (hg : g.method = m) {rest : List Value} (hs : g.stack = .int x :: .int j :: .ref a :: rest) (hd : decode c.code g.pc = .ok (.bastore, 1)) :
    ∃ T' h', Stand p l e R s m args below meth c T' (locs ++ [⟨a, j.toNatClampNeg⟩]) cells slots ∧ T'.heap = h' ∧ Wr h h' a j.toNatClampNeg (.int (nar .boolean x)) ∧ own_Arf Z h' a .boolean n (fun i => if i = j.toNatClampNeg then .int (nar .boolean x) else f i) ∧ ∀ target, Steps p.tables e below (T'.setTop { g with pc := g.pc + 1, stack := rest }) target → Steps p.tables e below (T.setTop g) target := by
  obtain ⟨cl, Ar, S, hn, H⟩ := F
  have hin : ¬ (j < 0 ∨ cl.slots.size ≤ j.toNatClampNeg) := by rw [S]; exact own_inb h1 h2
  obtain ⟨T', h', X', e', W, st⟩ := stZ X hx hZ eT Ar (j := j) hin hg hs hd
  exact ⟨T', h', X', e', W, own_set Ar S hn H W (by have q : j.toNatClampNeg = j.toInt.toNat := rfl; omega), st⟩
end OwnArf
theorem own_clamp {i : Int32} {k : Nat} (h : i.toInt = k) : i.toNatClampNeg = k := by show i.toInt.toNat = k; omega
theorem own_tabArf {s : State} {a : Addr} {cl : Cell} {ty : FieldType} {n : Nat} (hf : Fit s) (A : Arr s s.heap a cl ty) (ht : ty = .int ∨ ty = .boolean ∨ ty = .byte ∨ ty = .char ∨ ty = .short) (S : cl.slots.size = n) (hn : n < 2 ^ 31) : ∃ g : Nat → Int32, own_Arf s s.heap a ty n (fun i => .int (g i)) := by
  refine ⟨fun i => atv cl (Int32.ofNat i), cl, A, S, hn, fun j hj => ?_⟩
  have e1 : (Int32.ofNat j).toInt = j := Int32.toInt_ofNat_of_lt (by omega)
  have e2 : (Int32.ofNat j).toNatClampNeg = j := by show (Int32.ofNat j).toInt.toNat = j; omega
  have hin : ¬ (Int32.ofNat j < 0 ∨ cl.slots.size ≤ (Int32.ofNat j).toNatClampNeg) := by rw [S]; exact own_inb (by omega) (by omega)
  obtain ⟨v, h1, h2⟩ := elem_fit hf A hin
  obtain ⟨x, rfl⟩ := fit_I h2 ht
  show cl.slots[j]? = some (.int (atv cl (Int32.ofNat j)))
  rw [atv_of h1, ← e2]; exact h1
theorem own_lenOf {args : Array Value} {s : State} {t : Term} {a : Addr} {cl : Cell} {ty : FieldType} {k : Int32} (ev : t.eval args s none [] s = some (.ref a)) (A : Arr s s.heap a cl ty) (h : (Cond.eq (.length t) (.int k)).value args s none s [] = some true) (hk : 0 ≤ k.toInt) : cl.slots.size = k.toInt.toNat ∧ cl.slots.size < 2 ^ 31 := by
  have ha := A.fin (Vm.Alike.refl _)
  by_cases q : cl.slots.size < 2 ^ 31
  · have e1 : (Term.length t).eval args s none [] s = some (.int cl.slots.size.toInt32) := len_f ev ha q
    have e2 : cl.slots.size.toInt32 = k := by
      have hh := h
      simp only [Cond.value] at hh
      rw [e1] at hh
      simpa [Term.eval] using hh
    have e3 := len_toInt q
    rw [e2] at e3
    exact ⟨by omega, q⟩
  · exfalso
    have e1 : (Term.length t).eval args s none [] s = none := by simp [Term.eval, ev, ha, q]
    simp [Cond.value, e1] at h
theorem own_nameI {Z : State} {h : Heap} {a : Addr} {ty : FieldType} {n k : Nat} {g : Nat → Int32} {x : Int32} (V : own_Arf Z h a ty n (fun i => if i = k then .int x else .int (g i))) : ∃ g' : Nat → Int32, (∀ i, g' i = if i = k then x else g i) ∧ own_Arf Z h a ty n (fun i => .int (g' i)) :=
  ⟨fun i => if i = k then x else g i, fun _ => rfl, V.cong (fun i _ => by by_cases q : i = k <;> simp [q])⟩
theorem own_nameD {Z : State} {h : Heap} {a : Addr} {ty : FieldType} {n k : Nat} {g : Nat → UInt64} {x : UInt64} (V : own_Arf Z h a ty n (fun i => if i = k then .double x else .double (g i))) : ∃ g' : Nat → UInt64, (∀ i, g' i = if i = k then x else g i) ∧ own_Arf Z h a ty n (fun i => .double (g' i)) :=
  ⟨fun i => if i = k then x else g i, fun _ => rfl, V.cong (fun i _ => by by_cases q : i = k <;> simp [q])⟩
theorem own_natOf {i : Int32} {lo hi : Int} (h1 : 0 ≤ i.toInt) : ∃ k : Nat, i.toInt = k := ⟨i.toInt.toNat, by omega⟩
theorem own_tn {i : Int32} {k : Nat} (h : i.toInt = k) : i.toBitVec.toNat = k := by
  have h1 : i.toBitVec.toInt = k := h
  have h2 := BitVec.toInt_eq_toNat_cond i.toBitVec
  have h3 := i.toBitVec.isLt
  rw [h1] at h2
  split at h2 <;> omega
-- OWN KIT 3 (mine): extension, clones, arrays of references
theorem own_extR (h : Heap) : Ext h h := ⟨Nat.le_refl _, fun _ _ q => q⟩
theorem own_extT {h h' h'' : Heap} (E : Ext h h') (E' : Ext h' h'') : Ext h h'' := ⟨Nat.le_trans E.1 E'.1, fun a c q => E'.2 a c (E.2 a c q)⟩
theorem own_extK {h h' : Heap} (K : Keep h h' []) : Ext h h' := ⟨K.1, fun a c q => K.2.1 a c q nin0⟩
section OwnRef
variable {Z : State} {h h' : Heap} {a b : Addr} {ty : FieldType} {n : Nat} {f f' : Nat → Value} {p : Program} {l : Launch} {e : Env} {R : Room} {s : State} {m : MethodId} {args : Array Value} {below : List Frame} {meth : Method} {c : Code} {T : State} {locs : List Loc} {cells slots : Nat} {a0 : Array Value}
theorem own_aaload (X : Stand p l e R s m args below meth c T locs cells slots) (hx : p.tables.exec = Jvm.exec) (hZ : Z.Warmed39 s.vm) (eT : T.heap = h) {j : Int32} (F : own_Arf Z h a ty n f) (h1 : 0 ≤ j.toInt) (h2 : j.toInt < n) {w : Value} (hv : f j.toNatClampNeg = w) (hty : ty.isReference = true) {g : JFrame} (hg : g.method = m) {rest : List Value} (hs : g.stack = .int j :: .ref a :: rest) (hd : decode c.code g.pc = .ok (.aaload, 1)) :
    ∀ target, Steps p.tables e below (T.setTop { g with pc := g.pc + 1, stack := w :: rest }) target → Steps p.tables e below (T.setTop g) target := by
  subst hv
  exact own_ld F h1 h2 fun cl Ar hin hat => X.aaload hx (j := j) (by rw [eT]; exact Ar.1) (State.isArrayOf_alike hZ.alike Ar.2.1) hty Ar.2.2 hin hat hg hs hd
theorem own_clone (X : Stand p l e R s m args below meth c T locs cells slots) (hx : p.tables.exec = Jvm.exec) (hZ : Z.Warmed39 s.vm) {own ad : String} {index : Nat} (hown : s.vm.findClass own = some m.cls)
    (w1 : (Cond.methodLink own index ⟨ad, "clone", "()Ljava/lang/Object;"⟩).before a0 Z = true) (w2 : (Cond.sameMethod ad "java/lang/Object" "clone" "()Ljava/lang/Object;").before a0 Z = true) (w3 : (Cond.native ⟨"java/lang/Object", "clone", "()Ljava/lang/Object;"⟩).before a0 Z = true)
    (w4 : (Cond.instanceMethod ⟨"java/lang/Object", "clone", "()Ljava/lang/Object;"⟩).before a0 Z = true) (w5 : (Cond.selects ad ⟨ad, "clone", "()Ljava/lang/Object;"⟩ ⟨"java/lang/Object", "clone", "()Ljava/lang/Object;"⟩).before a0 Z = true) (w6 : (Cond.castable ad "java/lang/Cloneable").before a0 Z = true)
    (eT : T.heap = h) (F : own_Arf Z h a ty n f) (hfit : ∀ j, j < n → fits ty (f j) = true) (E : Exa Z h a ad) {g : JFrame} (hg : g.method = m) (hsize : g.locals.size = c.maxLocals) {rest : List Value} (hs : g.stack = .ref a :: rest) (hd : decode c.code g.pc = .ok (.invokevirtual index, 3))
    (hf : 1 ≤ R.frames) {W cap : Nat} (hW : 2 * g.monitorRoom + (rest.map fun v => v.category).sum ≤ W) (hl : W + 14 ≤ R.locals) (hcap : n ≤ cap) (hc : cells + 1 ≤ R.cells) (hsl : slots + cap ≤ R.slots) :
    ∃ T' h', Stand p l e R s m args below meth c T' locs (cells + 1) (slots + cap) ∧ T'.heap = h' ∧ Ext h h' ∧ own_Arf Z h' h.size ty n f ∧ Exa Z h' h.size ad ∧
      ∀ target, Steps p.tables e below (T'.setTop { g with pc := g.pc + 3, stack := .ref h.size :: rest }) target → Steps p.tables e below (T.setTop g) target := by
  obtain ⟨cl, A, S, hn, H⟩ := F
  have FC : FitC Z cl := fitC_of A fun i hi v hv => by rw [H i (by omega)] at hv; cases hv; exact hfit i (by omega)
  obtain ⟨T', h', X', e', ex, A', E', st⟩ := cloneA X hx hZ hown w1 w2 w3 w4 w5 w6 eT A E FC hg hsize hs hd hf hW hl (by omega) hc hsl
  exact ⟨T', h', X', e', ex, ⟨cloneOf cl, A', S, hn, H⟩, E', st⟩
end OwnRef
theorem own_elemAt {args : Array Value} {s : State} {t u : Term} {a b : Addr} {cl : Cell} {ty : FieldType} {k : Int32} (ev : t.eval args s none [] s = some (.ref a)) (eu : u.eval args s none [] s = some (.ref b)) (A : Arr s s.heap a cl ty) (h : (Cond.eq (.elem t (.int k)) u).value args s none s [] = some true) (hk : ¬ k < 0) : cl.slots[k.toNatClampNeg]? = some (.ref b) := by
  have ha := A.fin (Vm.Alike.refl _)
  have e1 : (Term.elem t (.int k)).eval args s none [] s = cl.slots[k.toNatClampNeg]? := elem_f ev rfl ha hk
  have hh := h
  simp only [Cond.value] at hh
  rw [e1, eu] at hh
  cases hc : cl.slots[k.toNatClampNeg]? with
  | none => rw [hc] at hh; simp at hh
  | some v => rw [hc] at hh; cases v <;> simp at hh; rw [hh]
theorem own_privSel {s : State} {args : Array Value} {y : MethodName} {n : Nat} (hi : (Cond.instantiable y.cls n).before args s = true) (hpriv : s.PrivateAt y) (hinst : (Cond.instanceMethod y).before args s = true) (hy : y.cls ≠ "java/lang/invoke/MethodHandle" ∧ y.cls ≠ "java/lang/invoke/VarHandle") : (Cond.selects y.cls y y).before args s = true := by
  obtain ⟨c, k, h1, h2, -, h4, -⟩ := Cond.instantiable_spec hi
  exact Jvm.Stand.selects_self_of_private h1 h2 (by simp only [Bool.or_eq_false_iff] at h4; exact h4.1) hpriv hinst hy
theorem own_zeroArv {Z : State} {h : Heap} {a : Addr} {ty : FieldType} {n : Nat} {v : Value} (F : own_Arf Z h a ty n (fun _ => v)) (hf : fits ty v = true) : ∃ k, Arv Z h a k ty (Int32.ofNat n) [] v := by
  obtain ⟨c, A, S, hn, H⟩ := F
  have e1 : (Int32.ofNat n).toInt = n := Int32.toInt_ofNat_of_lt (by omega)
  have e2 : (Int32.ofNat n).toNatClampNeg = n := by show (Int32.ofNat n).toInt.toNat = n; omega
  refine ⟨c.cls, c, A, rfl, by rw [e2]; exact S, fun q => ?_, fun k hk => by rw [H k (by omega)]; simp, fun i hi => by simpa using hf⟩
  have := own_lt32 q; rw [show (0 : Int32).toInt = 0 from rfl] at this; omega
theorem pn_0 : plainName "jdk/internal/util/Preconditions" = true := by first | (simp [plainName, overriddenIn]; done) | decide +kernel
theorem d4_0 : decode jdk_41_method_13_code 0 = .ok (.iload_n 2, 1) := by decide +kernel
theorem d4_1 : decode jdk_41_method_13_code 1 = .ok (.iload_n 0, 1) := by decide +kernel
theorem d4_2 : decode jdk_41_method_13_code 2 = .ok (.ior, 1) := by decide +kernel
theorem d4_3 : decode jdk_41_method_13_code 3 = .ok (.iload_n 1, 1) := by decide +kernel
theorem d4_4 : decode jdk_41_method_13_code 4 = .ok (.ior, 1) := by decide +kernel
theorem d4_5 : decode jdk_41_method_13_code 5 = .ok (.ifCond .lt 10, 3) := by decide +kernel
theorem d4_8 : decode jdk_41_method_13_code 8 = .ok (.iload_n 1, 1) := by decide +kernel
theorem d4_9 : decode jdk_41_method_13_code 9 = .ok (.iload_n 2, 1) := by decide +kernel
theorem d4_10 : decode jdk_41_method_13_code 10 = .ok (.iload_n 0, 1) := by decide +kernel
theorem d4_11 : decode jdk_41_method_13_code 11 = .ok (.isub, 1) := by decide +kernel
theorem d4_12 : decode jdk_41_method_13_code 12 = .ok (.if_icmp .le 11, 3) := by decide +kernel
theorem d4_23 : decode jdk_41_method_13_code 23 = .ok (.iload_n 0, 1) := by decide +kernel
theorem d4_24 : decode jdk_41_method_13_code 24 = .ok (.ireturn, 1) := by decide +kernel
theorem ef_4 (m : MethodId) (x0 : Int32) (x1 : Int32) (x2 : Int32) : entryFrame m #[(.int x0), (.int x1), (.int x2), .null] 4 = mkF m 0 #[.val (.int x0), .val (.int x1), .val (.int x2), .val .null] [] := by first | (simp [entryFrame, mkF, argsToLocals, Value.category]; done) | rfl
def Q4 (Z : State) (p0 : Int32) (p1 : Int32) (p2 : Int32) (h0 : Heap) (n0 : Nat) (v : Option Value) (h : Heap) (L : List Loc) : Prop := v = some (.int p0) ∧ Fr n0 L ∧ h = h0
set_option maxRecDepth 65536 in
set_option maxHeartbeats 40000000 in
theorem rm4 (l : Launch) (Z : State) (a0 : Array Value) (hw : ∀ d ∈ tables_1, d.before a0 Z = true) (ws : List Jvm.Cond) (p0 : Int32) (p1 : Int32) (p2 : Int32) (h0 : Heap) (n0 : Nat) (Z0 : n0 ≤ h0.size) (hr : 0 ≤ p0.toInt ∧ 0 ≤ p1.toInt ∧ p0.toInt + p1.toInt ≤ p2.toInt) :
    MetFree l (⟨"jdk/internal/util/Preconditions", "checkFromIndexSize", "(IIILjava/util/function/BiFunction;)I"⟩ : MethodName) (head1 (Jvm.Cond.code (⟨"jdk/internal/util/Preconditions", "checkFromIndexSize", "(IIILjava/util/function/BiFunction;)I"⟩ : MethodName) jdk_41_method_13_code 4 (some .int) :: ws) ({ frames := 0, cells := 0, slots := 0, locals := 0 } : Room)) (fun a U => a = #[(.int p0), (.int p1), (.int p2), .null] ∧ Z.Warmed39 U.vm ∧ U.heap = h0) (fun _ _ _ _ _ => True) (fun _ U o U' => ∃ v L, o = .returned v ∧ Q4 Z p0 p1 p2 h0 n0 v U'.heap L ∧ FrameEnd U o U' L ({ frames := 0, cells := 0, slots := 0, locals := 0 } : Room).cells ({ frames := 0, cells := 0, slots := 0, locals := 0 } : Room).slots) := by
  refine MetFree.of_bodySF (plainFor_of_name pn_0) hisR ?_
  intro p e s m args below meth c s₁ Bd hml0 hP hK
  obtain ⟨rfl, hZ, hh⟩ := hP
  have hx := Bd.exec
  have hby := Bd.bytes
  have hml : c.maxLocals = 4 := hml0
  have hown : s.vm.findClass "jdk/internal/util/Preconditions" = some m.cls := findClass_of_methodNamed Bd.named
  have hnm := (name_of_methodNamed Bd.named Bd.method).1
  have hlk : meth.locks = false := BodyLoose.notSynchronized Bd
  have X0 : Stand p l e ({ frames := 0, cells := 0, slots := 0, locals := 0 } : Room) s m #[(.int p0), (.int p1), (.int p2), .null] below meth c s₁ [] 0 0 := Stand.of_body Bd
  have e0 : s₁.heap = h0 := by rw [← hh, Bd.state]; rfl
  have N0 := Fr.nil n0
  have K0 : Keep h0 h0 [] := Keep.refl h0 _
  have key : ∀ (F0 : State) (G : Prop), (own_G p e below s F0 (Q4 Z p0 p1 p2 h0 n0) ({ frames := 0, cells := 0, slots := 0, locals := 0 } : Room).cells ({ frames := 0, cells := 0, slots := 0, locals := 0 } : Room).slots → G) → own_R p.tables e below F0 (s₁.setTop (mkF m 0 #[.val (.int p0), .val (.int p1), .val (.int p2), .val .null] [])) → G := by
    intro F0 G hG r0
    have r2 : own_R p.tables e below F0 (s₁.setTop (mkF m 5 #[.val (.int p0), .val (.int p1), .val (.int p2), .val .null] [(.int ((p2 ||| p0) ||| p1))])) := fun tg_ kg_ => by
      refine r0 tg_ ?_
      show Steps p.tables e below (s₁.setTop (mkF m 0 #[.val (.int p0), .val (.int p1), .val (.int p2), .val .null] [])) _
      refine XS.iloadN X0.here hx rfl (hb hby d4_0) rfl ?_
      show Steps p.tables e below (s₁.setTop (mkF m 1 #[.val (.int p0), .val (.int p1), .val (.int p2), .val .null] [(.int p2)])) _
      refine XS.iloadN X0.here hx rfl (hb hby d4_1) rfl ?_
      show Steps p.tables e below (s₁.setTop (mkF m 2 #[.val (.int p0), .val (.int p1), .val (.int p2), .val .null] [(.int p0), (.int p2)])) _
      refine XS.ior X0.here hx rfl (hb hby d4_2) rfl ?_
      show Steps p.tables e below (s₁.setTop (mkF m 3 #[.val (.int p0), .val (.int p1), .val (.int p2), .val .null] [(.int (p2 ||| p0))])) _
      refine XS.iloadN X0.here hx rfl (hb hby d4_3) rfl ?_
      show Steps p.tables e below (s₁.setTop (mkF m 4 #[.val (.int p0), .val (.int p1), .val (.int p2), .val .null] [(.int p1), (.int (p2 ||| p0))])) _
      refine XS.ior X0.here hx rfl (hb hby d4_4) rfl ?_
      exact kg_
    have hc1 : ¬ (((p2 ||| p0) ||| p1) < (0 : Int32)) := (fun q => by
          have q39_r := own_R32 p2
          have q40_r := own_R32 p0
          have q41_r := own_R32 (p2 ||| p0)
          have q42_ := c_orS p2 p0
          have q43_r := own_R32 p1
          have q44_r := own_R32 ((p2 ||| p0) ||| p1)
          have q45_ := c_orS (p2 ||| p0) p1
          have q46_e : (0 : Int32).toInt = 0 := (by decide)
          have q46_r : (0 : Int) ≤ (0 : Int32).toInt ∧ (0 : Int32).toInt ≤ 0 := ⟨Int.le_of_eq q46_e.symm, Int.le_of_eq q46_e⟩
          have := own_lt32 q
          omega)
    have r4 : own_R p.tables e below F0 (s₁.setTop (mkF m 12 #[.val (.int p0), .val (.int p1), .val (.int p2), .val .null] [(.int (p2 - p0)), (.int p1)])) := fun tg_ kg_ => by
      refine r2 tg_ ?_
      show Steps p.tables e below (s₁.setTop (mkF m 5 #[.val (.int p0), .val (.int p1), .val (.int p2), .val .null] [(.int ((p2 ||| p0) ||| p1))])) _
      refine XS.ifNo X0.here hx rfl (hb hby d4_5) rfl ((if0 _ _).trans (flt hc1).1) ?_
      show Steps p.tables e below (s₁.setTop (mkF m 8 #[.val (.int p0), .val (.int p1), .val (.int p2), .val .null] [])) _
      refine XS.iloadN X0.here hx rfl (hb hby d4_8) rfl ?_
      show Steps p.tables e below (s₁.setTop (mkF m 9 #[.val (.int p0), .val (.int p1), .val (.int p2), .val .null] [(.int p1)])) _
      refine XS.iloadN X0.here hx rfl (hb hby d4_9) rfl ?_
      show Steps p.tables e below (s₁.setTop (mkF m 10 #[.val (.int p0), .val (.int p1), .val (.int p2), .val .null] [(.int p2), (.int p1)])) _
      refine XS.iloadN X0.here hx rfl (hb hby d4_10) rfl ?_
      show Steps p.tables e below (s₁.setTop (mkF m 11 #[.val (.int p0), .val (.int p1), .val (.int p2), .val .null] [(.int p0), (.int p2), (.int p1)])) _
      refine XS.isub X0.here hx rfl (hb hby d4_11) rfl ?_
      exact kg_
    have hc3 : ¬ ((p2 - p0) < p1) := (fun q => by
          have q47_r := own_R32 p2
          have q48_r := own_R32 p0
          have q49_r := own_R32 (p2 ||| p0)
          have q50_ := c_orS p2 p0
          have q51_r := own_R32 p1
          have q52_r := own_R32 ((p2 ||| p0) ||| p1)
          have q53_ := c_orS (p2 ||| p0) p1
          have q54_e : (0 : Int32).toInt = 0 := (by decide)
          have q54_r : (0 : Int) ≤ (0 : Int32).toInt ∧ (0 : Int32).toInt ≤ 0 := ⟨Int.le_of_eq q54_e.symm, Int.le_of_eq q54_e⟩
          have q55_r := own_R32 (p2 - p0)
          have q56_ := c_isub p2 p0
          have q57_c := own_nlt32 hc1
          have := own_lt32 q
          omega)
    have r5 : own_R p.tables e below F0 (s₁.setTop (mkF m 24 #[.val (.int p0), .val (.int p1), .val (.int p2), .val .null] [(.int p0)])) := fun tg_ kg_ => by
      refine r4 tg_ ?_
      show Steps p.tables e below (s₁.setTop (mkF m 12 #[.val (.int p0), .val (.int p1), .val (.int p2), .val .null] [(.int (p2 - p0)), (.int p1)])) _
      refine XS.icmpYes X0.here hx rfl (pc0 := 12) (pc' := 23) rfl (hb hby d4_12) rfl (flt hc3).2.2.2 (by decide) (by decide) ?_
      show Steps p.tables e below (s₁.setTop (mkF m 23 #[.val (.int p0), .val (.int p1), .val (.int p2), .val .null] [])) _
      refine XS.iloadN X0.here hx rfl (hb hby d4_23) rfl ?_
      exact kg_
    refine hG (own_fin X0 hlk (some (.int p0)) (own_hv Bd.returns) ?_ (by decide) (by decide) (fun fs hr => r5 _ (retOut X0 hx Bd.returns rfl (Or.inl ⟨rfl, Or.inl rfl, _, rfl⟩) (hb hby d4_24) hr)))
    rw [e0]
    refine ⟨?_, N0, rfl⟩
    rfl
  exact key _ _ id (fun t k => castTop (ef_4 m p0 p1 p2) k)
theorem pn_1 : plainName "java/util/Objects" = true := by first | (simp [plainName, overriddenIn]; done) | decide +kernel
theorem pd_0 : parseMethodDescriptor "(IIILjava/util/function/BiFunction;)I" = some ⟨[.int, .int, .int, (.object "java/util/function/BiFunction")], some .int⟩ := by decide +kernel
theorem d3_0 : decode jdk_31_method_19_code 0 = .ok (.iload_n 0, 1) := by decide +kernel
theorem d3_1 : decode jdk_31_method_19_code 1 = .ok (.iload_n 1, 1) := by decide +kernel
theorem d3_2 : decode jdk_31_method_19_code 2 = .ok (.iload_n 2, 1) := by decide +kernel
theorem d3_3 : decode jdk_31_method_19_code 3 = .ok (.aconst_null, 1) := by decide +kernel
theorem d3_4 : decode jdk_31_method_19_code 4 = .ok (.invokestatic 115, 3) := by decide +kernel
theorem d3_7 : decode jdk_31_method_19_code 7 = .ok (.ireturn, 1) := by decide +kernel
theorem ef_3 (m : MethodId) (x0 : Int32) (x1 : Int32) (x2 : Int32) : entryFrame m #[(.int x0), (.int x1), (.int x2)] 3 = mkF m 0 #[.val (.int x0), .val (.int x1), .val (.int x2)] [] := by first | (simp [entryFrame, mkF, argsToLocals, Value.category]; done) | rfl
def Q3 (Z : State) (p0 : Int32) (p1 : Int32) (p2 : Int32) (h0 : Heap) (n0 : Nat) (v : Option Value) (h : Heap) (L : List Loc) : Prop := v = some (.int p0) ∧ Fr n0 L ∧ h = h0
set_option maxRecDepth 65536 in
set_option maxHeartbeats 40000000 in
theorem rm3 (l : Launch) (Z : State) (a0 : Array Value) (hw : ∀ d ∈ tables_1, d.before a0 Z = true) (ws : List Jvm.Cond) (p0 : Int32) (p1 : Int32) (p2 : Int32) (h0 : Heap) (n0 : Nat) (Z0 : n0 ≤ h0.size) (hr : 0 ≤ p0.toInt ∧ 0 ≤ p1.toInt ∧ p0.toInt + p1.toInt ≤ p2.toInt) :
    MetFree l (⟨"java/util/Objects", "checkFromIndexSize", "(III)I"⟩ : MethodName) (head1 (Jvm.Cond.code (⟨"java/util/Objects", "checkFromIndexSize", "(III)I"⟩ : MethodName) jdk_31_method_19_code 3 (some .int) :: ws) ({ frames := 1, cells := 0, slots := 0, locals := 15 } : Room)) (fun a U => a = #[(.int p0), (.int p1), (.int p2)] ∧ Z.Warmed39 U.vm ∧ U.heap = h0) (fun _ _ _ _ _ => True) (fun _ U o U' => ∃ v L, o = .returned v ∧ Q3 Z p0 p1 p2 h0 n0 v U'.heap L ∧ FrameEnd U o U' L ({ frames := 1, cells := 0, slots := 0, locals := 15 } : Room).cells ({ frames := 1, cells := 0, slots := 0, locals := 15 } : Room).slots) := by
  refine MetFree.of_bodySF (plainFor_of_name pn_1) hisR ?_
  intro p e s m args below meth c s₁ Bd hml0 hP hK
  obtain ⟨rfl, hZ, hh⟩ := hP
  have hx := Bd.exec
  have hby := Bd.bytes
  have hml : c.maxLocals = 3 := hml0
  have hown : s.vm.findClass "java/util/Objects" = some m.cls := findClass_of_methodNamed Bd.named
  have hnm := (name_of_methodNamed Bd.named Bd.method).1
  have hlk : meth.locks = false := BodyLoose.notSynchronized Bd
  have X0 : Stand p l e ({ frames := 1, cells := 0, slots := 0, locals := 15 } : Room) s m #[(.int p0), (.int p1), (.int p2)] below meth c s₁ [] 0 0 := Stand.of_body Bd
  have e0 : s₁.heap = h0 := by rw [← hh, Bd.state]; rfl
  have N0 := Fr.nil n0
  have K0 : Keep h0 h0 [] := Keep.refl h0 _
  have key : ∀ (F0 : State) (G : Prop), (own_G p e below s F0 (Q3 Z p0 p1 p2 h0 n0) ({ frames := 1, cells := 0, slots := 0, locals := 15 } : Room).cells ({ frames := 1, cells := 0, slots := 0, locals := 15 } : Room).slots → G) → own_R p.tables e below F0 (s₁.setTop (mkF m 0 #[.val (.int p0), .val (.int p1), .val (.int p2)] [])) → G := by
    intro F0 G hG r0
    have r6 : own_R p.tables e below F0 (s₁.setTop (mkF m 4 #[.val (.int p0), .val (.int p1), .val (.int p2)] [.null, (.int p2), (.int p1), (.int p0)])) := fun tg_ kg_ => by
      refine r0 tg_ ?_
      show Steps p.tables e below (s₁.setTop (mkF m 0 #[.val (.int p0), .val (.int p1), .val (.int p2)] [])) _
      refine XS.iloadN X0.here hx rfl (hb hby d3_0) rfl ?_
      show Steps p.tables e below (s₁.setTop (mkF m 1 #[.val (.int p0), .val (.int p1), .val (.int p2)] [(.int p0)])) _
      refine XS.iloadN X0.here hx rfl (hb hby d3_1) rfl ?_
      show Steps p.tables e below (s₁.setTop (mkF m 2 #[.val (.int p0), .val (.int p1), .val (.int p2)] [(.int p1), (.int p0)])) _
      refine XS.iloadN X0.here hx rfl (hb hby d3_2) rfl ?_
      show Steps p.tables e below (s₁.setTop (mkF m 3 #[.val (.int p0), .val (.int p1), .val (.int p2)] [(.int p2), (.int p1), (.int p0)])) _
      refine XS.aconstNull X0.here hx rfl (hb hby d3_3) ?_
      exact kg_
    obtain ⟨_, _, ⟨T7, L7, k7, n7⟩, -, X7, ⟨Lc7, hQ7, l7, y7, z7⟩, st7⟩ := Jvm.LawKit.callS X0 hx (y := (⟨"jdk/internal/util/Preconditions", "checkFromIndexSize", "(IIILjava/util/function/BiFunction;)I"⟩ : MethodName)) hown (mvT hZ (hw _ (List.mem_of_getElem? (i := 15) rfl))) (mvT hZ (hw _ (List.mem_of_getElem? (i := 16) rfl))) (mvT hZ (hw _ (List.mem_of_getElem? (i := 17) rfl))) (mvT hZ (hw _ (List.mem_of_getElem? (i := 18) rfl))) (by decide) (backOf (W := 0) (rm4 l Z a0 hw [] p0 p1 p2 h0 n0 Z0 hr) hZ (hw _ (List.mem_of_getElem? (i := 18) rfl)) (hw _ (List.mem_of_getElem? (i := 17) rfl)) (by decide) (by decide)) (g := (mkF m 4 #[.val (.int p0), .val (.int p1), .val (.int p2)] [.null, (.int p2), (.int p1), (.int p0)])) rfl (by rw [hml]; rfl) (argsL := [(.int p0), (.int p1), (.int p2), .null]) (rest := []) (lenOf pd_0 rfl) rfl (by show 2 * 0 + _ ≤ _; exact Nat.le_of_eq rfl) (hb hby d3_4) (fun _ _ => ⟨rfl, e0, (by decide : 0 + 0 ≤ _), (by decide : 0 + 0 ≤ _)⟩)
    dsimp only [Pt.U, Pt.locs, Pt.cells, Pt.slots] at X7 l7 y7 z7 st7 hQ7
    subst l7 y7 z7
    obtain ⟨rfl, N7q, I7_0⟩ := hQ7
    have N7 := Fr.app N0 N7q
    have r7 : own_R p.tables e below F0 (T7.setTop (mkF m 7 #[.val (.int p0), .val (.int p1), .val (.int p2)] [(.int p0)])) := fun tg_ kg_ => r6 tg_ (st7 tg_ kg_)
    refine hG (own_fin X7 hlk (some (.int p0)) (own_hv Bd.returns) ?_ (by decide) (by decide) (fun fs hr => r7 _ (retOut X7 hx Bd.returns rfl (Or.inl ⟨rfl, Or.inl rfl, _, rfl⟩) (hb hby d3_7) hr)))
    rw [I7_0]
    refine ⟨?_, N7, rfl⟩
    rfl
  exact key _ _ id (fun t k => castTop (ef_3 m p0 p1 p2) k)
theorem pn_2 : plainName "java/util/Arrays" = true := by first | (simp [plainName, overriddenIn]; done) | decide +kernel
theorem d13_0 : decode jdk_65_method_131_code 0 = .ok (.iload_n 1, 1) := by decide +kernel
theorem d13_1 : decode jdk_65_method_131_code 1 = .ok (.iload_n 0, 1) := by decide +kernel
theorem d13_2 : decode jdk_65_method_131_code 2 = .ok (.if_icmp .ge 35, 3) := by decide +kernel
theorem d13_37 : decode jdk_65_method_131_code 37 = .ok (.return_, 1) := by decide +kernel
theorem ef_13 (m : MethodId) (x0 : Int32) (x1 : Int32) : entryFrame m #[(.int x0), (.int x1)] 2 = mkF m 0 #[.val (.int x0), .val (.int x1)] [] := by first | (simp [entryFrame, mkF, argsToLocals, Value.category]; done) | rfl
def Q13 (Z : State) (p0 : Int32) (p1 : Int32) (h0 : Heap) (n0 : Nat) (v : Option Value) (h : Heap) (L : List Loc) : Prop := v = none ∧ Fr n0 L ∧ h = h0
set_option maxRecDepth 65536 in
set_option maxHeartbeats 40000000 in
theorem rm13 (l : Launch) (Z : State) (a0 : Array Value) (hw : ∀ d ∈ tables_1, d.before a0 Z = true) (ws : List Jvm.Cond) (p0 : Int32) (p1 : Int32) (h0 : Heap) (n0 : Nat) (Z0 : n0 ≤ h0.size) (hr : p0.toInt ≤ p1.toInt) :
    MetFree l (⟨"java/util/Arrays", "checkLength", "(II)V"⟩ : MethodName) (head1 (Jvm.Cond.code (⟨"java/util/Arrays", "checkLength", "(II)V"⟩ : MethodName) jdk_65_method_131_code 2 none :: ws) ({ frames := 0, cells := 0, slots := 0, locals := 0 } : Room)) (fun a U => a = #[(.int p0), (.int p1)] ∧ Z.Warmed39 U.vm ∧ U.heap = h0) (fun _ _ _ _ _ => True) (fun _ U o U' => ∃ v L, o = .returned v ∧ Q13 Z p0 p1 h0 n0 v U'.heap L ∧ FrameEnd U o U' L ({ frames := 0, cells := 0, slots := 0, locals := 0 } : Room).cells ({ frames := 0, cells := 0, slots := 0, locals := 0 } : Room).slots) := by
  refine MetFree.of_bodySF (plainFor_of_name pn_2) hisR ?_
  intro p e s m args below meth c s₁ Bd hml0 hP hK
  obtain ⟨rfl, hZ, hh⟩ := hP
  have hx := Bd.exec
  have hby := Bd.bytes
  have hml : c.maxLocals = 2 := hml0
  have hown : s.vm.findClass "java/util/Arrays" = some m.cls := findClass_of_methodNamed Bd.named
  have hnm := (name_of_methodNamed Bd.named Bd.method).1
  have hlk : meth.locks = false := BodyLoose.notSynchronized Bd
  have X0 : Stand p l e ({ frames := 0, cells := 0, slots := 0, locals := 0 } : Room) s m #[(.int p0), (.int p1)] below meth c s₁ [] 0 0 := Stand.of_body Bd
  have e0 : s₁.heap = h0 := by rw [← hh, Bd.state]; rfl
  have N0 := Fr.nil n0
  have K0 : Keep h0 h0 [] := Keep.refl h0 _
  have key : ∀ (F0 : State) (G : Prop), (own_G p e below s F0 (Q13 Z p0 p1 h0 n0) ({ frames := 0, cells := 0, slots := 0, locals := 0 } : Room).cells ({ frames := 0, cells := 0, slots := 0, locals := 0 } : Room).slots → G) → own_R p.tables e below F0 (s₁.setTop (mkF m 0 #[.val (.int p0), .val (.int p1)] [])) → G := by
    intro F0 G hG r0
    have r9 : own_R p.tables e below F0 (s₁.setTop (mkF m 2 #[.val (.int p0), .val (.int p1)] [(.int p0), (.int p1)])) := fun tg_ kg_ => by
      refine r0 tg_ ?_
      show Steps p.tables e below (s₁.setTop (mkF m 0 #[.val (.int p0), .val (.int p1)] [])) _
      refine XS.iloadN X0.here hx rfl (hb hby d13_0) rfl ?_
      show Steps p.tables e below (s₁.setTop (mkF m 1 #[.val (.int p0), .val (.int p1)] [(.int p1)])) _
      refine XS.iloadN X0.here hx rfl (hb hby d13_1) rfl ?_
      exact kg_
    have hc8 : ¬ (p1 < p0) := (fun q => by
          have q60_r := own_R32 p1
          have q61_r := own_R32 p0
          have := own_lt32 q
          omega)
    have r10 : own_R p.tables e below F0 (s₁.setTop (mkF m 37 #[.val (.int p0), .val (.int p1)] [])) := fun tg_ kg_ => by
      refine r9 tg_ ?_
      show Steps p.tables e below (s₁.setTop (mkF m 2 #[.val (.int p0), .val (.int p1)] [(.int p0), (.int p1)])) _
      refine XS.icmpYes X0.here hx rfl (pc0 := 2) (pc' := 37) rfl (hb hby d13_2) rfl (flt hc8).2.1 (by decide) (by decide) ?_
      exact kg_
    refine hG (own_fin X0 hlk (none) (fun _ => rfl) ?_ (by decide) (by decide) (fun fs hr => r10 _ (X0.returnOut hx Bd.returns (hb hby d13_37) hr)))
    rw [e0]
    refine ⟨?_, N0, rfl⟩
    rfl
  exact key _ _ id (fun t k => castTop (ef_13 m p0 p1) k)
def own_min (p0 : Int32) (p1 : Int32) : Int32 := (if p1 < p0 then p1 else p0)
theorem d14_0 : decode jdk_29_method_69_code 0 = .ok (.iload_n 0, 1) := by decide +kernel
theorem d14_1 : decode jdk_29_method_69_code 1 = .ok (.iload_n 1, 1) := by decide +kernel
theorem d14_2 : decode jdk_29_method_69_code 2 = .ok (.if_icmp .gt 7, 3) := by decide +kernel
theorem d14_5 : decode jdk_29_method_69_code 5 = .ok (.iload_n 0, 1) := by decide +kernel
theorem d14_6 : decode jdk_29_method_69_code 6 = .ok (.goto 4, 3) := by decide +kernel
theorem d14_9 : decode jdk_29_method_69_code 9 = .ok (.iload_n 1, 1) := by decide +kernel
theorem d14_10 : decode jdk_29_method_69_code 10 = .ok (.ireturn, 1) := by decide +kernel
theorem ef_14 (m : MethodId) (x0 : Int32) (x1 : Int32) : entryFrame m #[(.int x0), (.int x1)] 2 = mkF m 0 #[.val (.int x0), .val (.int x1)] [] := by first | (simp [entryFrame, mkF, argsToLocals, Value.category]; done) | rfl
def Q14 (Z : State) (p0 : Int32) (p1 : Int32) (h0 : Heap) (n0 : Nat) (v : Option Value) (h : Heap) (L : List Loc) : Prop := v = some (.int (own_min p0 p1)) ∧ Fr n0 L ∧ h = h0
set_option maxRecDepth 65536 in
set_option maxHeartbeats 40000000 in
theorem rm14 (l : Launch) (Z : State) (a0 : Array Value) (hw : ∀ d ∈ tables_1, d.before a0 Z = true) (ws : List Jvm.Cond) (p0 : Int32) (p1 : Int32) (h0 : Heap) (n0 : Nat) (Z0 : n0 ≤ h0.size) :
    MetFree l (⟨"java/lang/Math", "min", "(II)I"⟩ : MethodName) (head1 (Jvm.Cond.code (⟨"java/lang/Math", "min", "(II)I"⟩ : MethodName) jdk_29_method_69_code 2 (some .int) :: ws) ({ frames := 0, cells := 0, slots := 0, locals := 0 } : Room)) (fun a U => a = #[(.int p0), (.int p1)] ∧ Z.Warmed39 U.vm ∧ U.heap = h0) (fun _ _ _ _ _ => True) (fun _ U o U' => ∃ v L, o = .returned v ∧ Q14 Z p0 p1 h0 n0 v U'.heap L ∧ FrameEnd U o U' L ({ frames := 0, cells := 0, slots := 0, locals := 0 } : Room).cells ({ frames := 0, cells := 0, slots := 0, locals := 0 } : Room).slots) := by
  refine MetFree.of_bodySF (Jvm.Free.JP.mathPlain rfl (by decide +kernel)) hisR ?_
  intro p e s m args below meth c s₁ Bd hml0 hP hK
  obtain ⟨rfl, hZ, hh⟩ := hP
  have hx := Bd.exec
  have hby := Bd.bytes
  have hml : c.maxLocals = 2 := hml0
  have hown : s.vm.findClass "java/lang/Math" = some m.cls := findClass_of_methodNamed Bd.named
  have hnm := (name_of_methodNamed Bd.named Bd.method).1
  have hlk : meth.locks = false := BodyLoose.notSynchronized Bd
  have X0 : Stand p l e ({ frames := 0, cells := 0, slots := 0, locals := 0 } : Room) s m #[(.int p0), (.int p1)] below meth c s₁ [] 0 0 := Stand.of_body Bd
  have e0 : s₁.heap = h0 := by rw [← hh, Bd.state]; rfl
  have N0 := Fr.nil n0
  have K0 : Keep h0 h0 [] := Keep.refl h0 _
  have key : ∀ (F0 : State) (G : Prop), (own_G p e below s F0 (Q14 Z p0 p1 h0 n0) ({ frames := 0, cells := 0, slots := 0, locals := 0 } : Room).cells ({ frames := 0, cells := 0, slots := 0, locals := 0 } : Room).slots → G) → own_R p.tables e below F0 (s₁.setTop (mkF m 0 #[.val (.int p0), .val (.int p1)] [])) → G := by
    intro F0 G hG r0
    have r11 : own_R p.tables e below F0 (s₁.setTop (mkF m 2 #[.val (.int p0), .val (.int p1)] [(.int p1), (.int p0)])) := fun tg_ kg_ => by
      refine r0 tg_ ?_
      show Steps p.tables e below (s₁.setTop (mkF m 0 #[.val (.int p0), .val (.int p1)] [])) _
      refine XS.iloadN X0.here hx rfl (hb hby d14_0) rfl ?_
      show Steps p.tables e below (s₁.setTop (mkF m 1 #[.val (.int p0), .val (.int p1)] [(.int p0)])) _
      refine XS.iloadN X0.here hx rfl (hb hby d14_1) rfl ?_
      exact kg_
    by_cases hc12 : p1 < p0
    · have r13 : own_R p.tables e below F0 (s₁.setTop (mkF m 10 #[.val (.int p0), .val (.int p1)] [(.int p1)])) := fun tg_ kg_ => by
        refine r11 tg_ ?_
        show Steps p.tables e below (s₁.setTop (mkF m 2 #[.val (.int p0), .val (.int p1)] [(.int p1), (.int p0)])) _
        refine XS.icmpYes X0.here hx rfl (pc0 := 2) (pc' := 9) rfl (hb hby d14_2) rfl (tlt hc12).2.2.1 (by decide) (by decide) ?_
        show Steps p.tables e below (s₁.setTop (mkF m 9 #[.val (.int p0), .val (.int p1)] [])) _
        refine XS.iloadN X0.here hx rfl (hb hby d14_9) rfl ?_
        exact kg_
      refine hG (own_fin X0 hlk (some (.int p1)) (own_hv Bd.returns) ?_ (by decide) (by decide) (fun fs hr => r13 _ (retOut X0 hx Bd.returns rfl (Or.inl ⟨rfl, Or.inl rfl, _, rfl⟩) (hb hby d14_10) hr)))
      rw [e0]
      refine ⟨?_, N0, rfl⟩
      have ev : (own_min p0 p1) = p1 := by unfold own_min; rw [if_pos hc12]
      rw [ev]
    · have r14 : own_R p.tables e below F0 (s₁.setTop (mkF m 10 #[.val (.int p0), .val (.int p1)] [(.int p0)])) := fun tg_ kg_ => by
        refine r11 tg_ ?_
        show Steps p.tables e below (s₁.setTop (mkF m 2 #[.val (.int p0), .val (.int p1)] [(.int p1), (.int p0)])) _
        refine XS.icmpNo X0.here hx rfl (hb hby d14_2) rfl (flt hc12).2.2.1 ?_
        show Steps p.tables e below (s₁.setTop (mkF m 5 #[.val (.int p0), .val (.int p1)] [])) _
        refine XS.iloadN X0.here hx rfl (hb hby d14_5) rfl ?_
        show Steps p.tables e below (s₁.setTop (mkF m 6 #[.val (.int p0), .val (.int p1)] [(.int p0)])) _
        refine XS.goto X0.here hx rfl (pc0 := 6) (pc' := 10) rfl (hb hby d14_6) (by decide) (by decide) ?_
        exact kg_
      refine hG (own_fin X0 hlk (some (.int p0)) (own_hv Bd.returns) ?_ (by decide) (by decide) (fun fs hr => r14 _ (retOut X0 hx Bd.returns rfl (Or.inl ⟨rfl, Or.inl rfl, _, rfl⟩) (hb hby d14_10) hr)))
      rw [e0]
      refine ⟨?_, N0, rfl⟩
      have ev : (own_min p0 p1) = p0 := by unfold own_min; rw [if_neg hc12]
      rw [ev]
  exact key _ _ id (fun t k => castTop (ef_14 m p0 p1) k)
theorem pd_1 : parseMethodDescriptor "(II)V" = some ⟨[.int, .int], none⟩ := by decide +kernel
theorem pd_2 : parseMethodDescriptor "(II)I" = some ⟨[.int, .int], some .int⟩ := by decide +kernel
theorem d12_0 : decode jdk_65_method_133_code 0 = .ok (.iload_n 1, 1) := by decide +kernel
theorem d12_1 : decode jdk_65_method_133_code 1 = .ok (.iload_n 2, 1) := by decide +kernel
theorem d12_2 : decode jdk_65_method_133_code 2 = .ok (.invokestatic 343, 3) := by decide +kernel
theorem d12_5 : decode jdk_65_method_133_code 5 = .ok (.iload_n 2, 1) := by decide +kernel
theorem d12_6 : decode jdk_65_method_133_code 6 = .ok (.iload_n 1, 1) := by decide +kernel
theorem d12_7 : decode jdk_65_method_133_code 7 = .ok (.isub, 1) := by decide +kernel
theorem d12_8 : decode jdk_65_method_133_code 8 = .ok (.istore_n 3, 1) := by decide +kernel
theorem d12_9 : decode jdk_65_method_133_code 9 = .ok (.iload_n 3, 1) := by decide +kernel
theorem d12_10 : decode jdk_65_method_133_code 10 = .ok (.newarray .byte, 2) := by decide +kernel
theorem d12_12 : decode jdk_65_method_133_code 12 = .ok (.astore 4, 2) := by decide +kernel
theorem d12_14 : decode jdk_65_method_133_code 14 = .ok (.aload_n 0, 1) := by decide +kernel
theorem d12_15 : decode jdk_65_method_133_code 15 = .ok (.iload_n 1, 1) := by decide +kernel
theorem d12_16 : decode jdk_65_method_133_code 16 = .ok (.aload 4, 2) := by decide +kernel
theorem d12_18 : decode jdk_65_method_133_code 18 = .ok (.iconst 0, 1) := by decide +kernel
theorem d12_19 : decode jdk_65_method_133_code 19 = .ok (.aload_n 0, 1) := by decide +kernel
theorem d12_20 : decode jdk_65_method_133_code 20 = .ok (.arraylength, 1) := by decide +kernel
theorem d12_21 : decode jdk_65_method_133_code 21 = .ok (.iload_n 1, 1) := by decide +kernel
theorem d12_22 : decode jdk_65_method_133_code 22 = .ok (.isub, 1) := by decide +kernel
theorem d12_23 : decode jdk_65_method_133_code 23 = .ok (.iload_n 3, 1) := by decide +kernel
theorem d12_24 : decode jdk_65_method_133_code 24 = .ok (.invokestatic 304, 3) := by decide +kernel
theorem d12_27 : decode jdk_65_method_133_code 27 = .ok (.invokestatic 150, 3) := by decide +kernel
theorem d12_30 : decode jdk_65_method_133_code 30 = .ok (.aload 4, 2) := by decide +kernel
theorem d12_32 : decode jdk_65_method_133_code 32 = .ok (.areturn, 1) := by decide +kernel
theorem ef_12 (m : MethodId) (x0 : Addr) (x1 : Int32) (x2 : Int32) : entryFrame m #[(.ref x0), (.int x1), (.int x2)] 5 = mkF m 0 #[.val (.ref x0), .val (.int x1), .val (.int x2), .unset, .unset] [] := by first | (simp [entryFrame, mkF, argsToLocals, Value.category]; done) | rfl
def Q12 (Z : State) (ar0 : Addr) (p1 : Int32) (p2 : Int32) (nn : Nat) (h0 : Heap) (n0 : Nat) (v : Option Value) (h : Heap) (L : List Loc) : Prop := ∃ (b : Addr), v = some (.ref b) ∧ Fr n0 L ∧ Keep h0 h [] ∧ h0.size ≤ b
set_option maxRecDepth 65536 in
set_option maxHeartbeats 40000000 in
theorem rm12 (l : Launch) (Z : State) (a0 : Array Value) (hw : ∀ d ∈ tables_1, d.before a0 Z = true) (ws : List Jvm.Cond) (ar0 : Addr) (p1 : Int32) (p2 : Int32) (nn : Nat) (h0 : Heap) (n0 : Nat) (Z0 : n0 ≤ h0.size) (A0 : own_Arf Z h0 ar0 .byte nn (fun i => (.int ((fun _ => (0 : Int32)) i)))) (hr : 0 ≤ p1.toInt ∧ p1.toInt ≤ p2.toInt ∧ p2.toInt ≤ nn ∧ nn ≤ 15) :
    MetFree l (⟨"java/util/Arrays", "copyOfRangeByte", "([BII)[B"⟩ : MethodName) (head1 (Jvm.Cond.code (⟨"java/util/Arrays", "copyOfRangeByte", "([BII)[B"⟩ : MethodName) jdk_65_method_133_code 5 (some (.array .byte)) :: ws) ({ frames := 1, cells := 1, slots := 15, locals := 18 } : Room)) (fun a U => a = #[(.ref ar0), (.int p1), (.int p2)] ∧ Z.Warmed39 U.vm ∧ U.heap = h0) (fun _ _ _ _ _ => True) (fun _ U o U' => ∃ v L, o = .returned v ∧ Q12 Z ar0 p1 p2 nn h0 n0 v U'.heap L ∧ FrameEnd U o U' L ({ frames := 1, cells := 1, slots := 15, locals := 18 } : Room).cells ({ frames := 1, cells := 1, slots := 15, locals := 18 } : Room).slots) := by
  refine MetFree.of_bodySF (plainFor_of_name pn_2) hisR ?_
  intro p e s m args below meth c s₁ Bd hml0 hP hK
  obtain ⟨rfl, hZ, hh⟩ := hP
  have hx := Bd.exec
  have hby := Bd.bytes
  have hml : c.maxLocals = 5 := hml0
  have hown : s.vm.findClass "java/util/Arrays" = some m.cls := findClass_of_methodNamed Bd.named
  have hnm := (name_of_methodNamed Bd.named Bd.method).1
  have hlk : meth.locks = false := BodyLoose.notSynchronized Bd
  have X0 : Stand p l e ({ frames := 1, cells := 1, slots := 15, locals := 18 } : Room) s m #[(.ref ar0), (.int p1), (.int p2)] below meth c s₁ [] 0 0 := Stand.of_body Bd
  have e0 : s₁.heap = h0 := by rw [← hh, Bd.state]; rfl
  have N0 := Fr.nil n0
  have K0 : Keep h0 h0 [] := Keep.refl h0 _
  have key : ∀ (F0 : State) (G : Prop), (own_G p e below s F0 (Q12 Z ar0 p1 p2 nn h0 n0) ({ frames := 1, cells := 1, slots := 15, locals := 18 } : Room).cells ({ frames := 1, cells := 1, slots := 15, locals := 18 } : Room).slots → G) → own_R p.tables e below F0 (s₁.setTop (mkF m 0 #[.val (.ref ar0), .val (.int p1), .val (.int p2), .unset, .unset] [])) → G := by
    intro F0 G hG r0
    have hN : (Int32.ofNat nn).toInt = nn := Int32.toInt_ofNat_of_lt (by omega)
    have r15 : own_R p.tables e below F0 (s₁.setTop (mkF m 2 #[.val (.ref ar0), .val (.int p1), .val (.int p2), .unset, .unset] [(.int p2), (.int p1)])) := fun tg_ kg_ => by
      refine r0 tg_ ?_
      show Steps p.tables e below (s₁.setTop (mkF m 0 #[.val (.ref ar0), .val (.int p1), .val (.int p2), .unset, .unset] [])) _
      refine XS.iloadN X0.here hx rfl (hb hby d12_0) rfl ?_
      show Steps p.tables e below (s₁.setTop (mkF m 1 #[.val (.ref ar0), .val (.int p1), .val (.int p2), .unset, .unset] [(.int p1)])) _
      refine XS.iloadN X0.here hx rfl (hb hby d12_1) rfl ?_
      exact kg_
    obtain ⟨_, _, ⟨T16, L16, k16, n16⟩, -, X16, ⟨Lc16, hQ16, l16, y16, z16⟩, st16⟩ := Jvm.LawKit.callS X0 hx (y := (⟨"java/util/Arrays", "checkLength", "(II)V"⟩ : MethodName)) hown (mvT hZ (hw _ (List.mem_of_getElem? (i := 72) rfl))) (mvT hZ (hw _ (List.mem_of_getElem? (i := 73) rfl))) (mvT hZ (hw _ (List.mem_of_getElem? (i := 43) rfl))) (mvT hZ (hw _ (List.mem_of_getElem? (i := 74) rfl))) (by decide) (backOf (W := 0) (rm13 l Z a0 hw [] p1 p2 h0 n0 Z0 hr.2.1) hZ (hw _ (List.mem_of_getElem? (i := 74) rfl)) (hw _ (List.mem_of_getElem? (i := 43) rfl)) (by decide) (by decide)) (g := (mkF m 2 #[.val (.ref ar0), .val (.int p1), .val (.int p2), .unset, .unset] [(.int p2), (.int p1)])) rfl (by rw [hml]; rfl) (argsL := [(.int p1), (.int p2)]) (rest := []) (lenOf pd_1 rfl) rfl (by show 2 * 0 + _ ≤ _; exact Nat.le_of_eq rfl) (hb hby d12_2) (fun _ _ => ⟨rfl, e0, (by decide : 0 + 0 ≤ _), (by decide : 0 + 0 ≤ _)⟩)
    dsimp only [Pt.U, Pt.locs, Pt.cells, Pt.slots] at X16 l16 y16 z16 st16 hQ16
    subst l16 y16 z16
    obtain ⟨rfl, N16q, I16_0⟩ := hQ16
    have N16 := Fr.app N0 N16q
    have r16 : own_R p.tables e below F0 (T16.setTop (mkF m 5 #[.val (.ref ar0), .val (.int p1), .val (.int p2), .unset, .unset] [])) := fun tg_ kg_ => r15 tg_ (st16 tg_ kg_)
    have r17 : own_R p.tables e below F0 (T16.setTop (mkF m 10 #[.val (.ref ar0), .val (.int p1), .val (.int p2), .val (.int (p2 - p1)), .unset] [(.int (p2 - p1))])) := fun tg_ kg_ => by
      refine r16 tg_ ?_
      show Steps p.tables e below (T16.setTop (mkF m 5 #[.val (.ref ar0), .val (.int p1), .val (.int p2), .unset, .unset] [])) _
      refine XS.iloadN X16.here hx rfl (hb hby d12_5) rfl ?_
      show Steps p.tables e below (T16.setTop (mkF m 6 #[.val (.ref ar0), .val (.int p1), .val (.int p2), .unset, .unset] [(.int p2)])) _
      refine XS.iloadN X16.here hx rfl (hb hby d12_6) rfl ?_
      show Steps p.tables e below (T16.setTop (mkF m 7 #[.val (.ref ar0), .val (.int p1), .val (.int p2), .unset, .unset] [(.int p1), (.int p2)])) _
      refine XS.isub X16.here hx rfl (hb hby d12_7) rfl ?_
      show Steps p.tables e below (T16.setTop (mkF m 8 #[.val (.ref ar0), .val (.int p1), .val (.int p2), .unset, .unset] [(.int (p2 - p1))])) _
      refine XS.istoreN X16.here hx rfl (hb hby d12_8) rfl (l' := #[.val (.ref ar0), .val (.int p1), .val (.int p2), .val (.int (p2 - p1)), .unset]) rfl ?_
      show Steps p.tables e below (T16.setTop (mkF m 9 #[.val (.ref ar0), .val (.int p1), .val (.int p2), .val (.int (p2 - p1)), .unset] [])) _
      refine XS.iloadN X16.here hx rfl (hb hby d12_9) rfl ?_
      exact kg_
    obtain ⟨mm, hmm⟩ : ∃ A : Nat, (p2 - p1).toInt = A := ⟨(p2 - p1).toInt.toNat, by
          have q84_r := own_R32 p2
          have q85_r := own_R32 p1
          have q86_r := own_R32 (p2 - p1)
          have q87_ := c_isub p2 p1
          omega⟩
    obtain ⟨T18, h18, k18, X18, e18, E18, A18, st18⟩ := newP X16 hx hZ (hw _ (List.mem_of_getElem? (i := 1) rfl)) I16_0 (g := (mkF m 10 #[.val (.ref ar0), .val (.int p1), .val (.int p2), .val (.int (p2 - p1)), .unset] [(.int (p2 - p1))])) rfl (hb hby d12_10) rfl (fun q => by
          have q84_r := own_R32 p2
          have q85_r := own_R32 p1
          have q86_r := own_R32 (p2 - p1)
          have q87_ := c_isub p2 p1
          have := own_lt32 q
          have : (0 : Int32).toInt = 0 := rfl
          omega) (cap := 15) (by
          have q84_r := own_R32 p2
          have q85_r := own_R32 p1
          have q86_r := own_R32 (p2 - p1)
          have q87_ := c_isub p2 p1
          rw [own_clamp hmm]
          omega) (by decide) (by decide) (by decide)
    obtain ⟨b18, g18⟩ : ∃ z, z = h0.size := ⟨_, rfl⟩
    rw [← g18] at A18 st18
    have ne19 : ar0 ≠ b18 := Nat.ne_of_lt (Nat.lt_of_lt_of_le A0.lt (Nat.le_of_eq g18.symm))
    have ge18 : n0 ≤ b18 := Nat.le_trans Z0 (Nat.le_of_eq g18.symm)
    have old18 : h0.size ≤ b18 := Nat.le_trans K0.1 (Nat.le_of_eq g18.symm)
    have K18 : Keep h0 h18 [] := K0.ext E18
    have F20 : own_Arf Z h18 ar0 .byte nn (fun i => (.int ((fun _ => (0 : Int32)) i))) := A0.ext E18
    have Zs21 : n0 ≤ h18.size := Nat.le_trans Z0 E18.1
    have F22 : own_Arf Z h18 b18 .byte mm (fun i => (.int ((fun _ => (0 : Int32)) i))) := by
      have q := own_Arf.new A18 (fun q => by
          have q84_r := own_R32 p2
          have q85_r := own_R32 p1
          have q86_r := own_R32 (p2 - p1)
          have q87_ := c_isub p2 p1
          have := own_lt32 q
          have : (0 : Int32).toInt = 0 := rfl
          omega)
      rw [show ((p2 - p1)).toNatClampNeg = mm from own_clamp hmm] at q
      exact q
    have r18 : own_R p.tables e below F0 (T18.setTop (mkF m 12 #[.val (.ref ar0), .val (.int p1), .val (.int p2), .val (.int (p2 - p1)), .unset] [(.ref b18)])) := fun tg_ kg_ => r17 tg_ (st18 tg_ kg_)
    have r23 : own_R p.tables e below F0 (T18.setTop (mkF m 24 #[.val (.ref ar0), .val (.int p1), .val (.int p2), .val (.int (p2 - p1)), .val (.ref b18)] [(.int (p2 - p1)), (.int ((Int32.ofNat nn) - p1)), (.int (0 : Int32)), (.ref b18), (.int p1), (.ref ar0)])) := fun tg_ kg_ => by
      refine r18 tg_ ?_
      show Steps p.tables e below (T18.setTop (mkF m 12 #[.val (.ref ar0), .val (.int p1), .val (.int p2), .val (.int (p2 - p1)), .unset] [(.ref b18)])) _
      refine XS.astore X18.here hx rfl (hb hby d12_12) rfl rfl (l' := #[.val (.ref ar0), .val (.int p1), .val (.int p2), .val (.int (p2 - p1)), .val (.ref b18)]) rfl ?_
      show Steps p.tables e below (T18.setTop (mkF m 14 #[.val (.ref ar0), .val (.int p1), .val (.int p2), .val (.int (p2 - p1)), .val (.ref b18)] [])) _
      refine XS.aloadN X18.here hx rfl (hb hby d12_14) rfl rfl ?_
      show Steps p.tables e below (T18.setTop (mkF m 15 #[.val (.ref ar0), .val (.int p1), .val (.int p2), .val (.int (p2 - p1)), .val (.ref b18)] [(.ref ar0)])) _
      refine XS.iloadN X18.here hx rfl (hb hby d12_15) rfl ?_
      show Steps p.tables e below (T18.setTop (mkF m 16 #[.val (.ref ar0), .val (.int p1), .val (.int p2), .val (.int (p2 - p1)), .val (.ref b18)] [(.int p1), (.ref ar0)])) _
      refine XS.aload X18.here hx rfl (hb hby d12_16) rfl rfl ?_
      show Steps p.tables e below (T18.setTop (mkF m 18 #[.val (.ref ar0), .val (.int p1), .val (.int p2), .val (.int (p2 - p1)), .val (.ref b18)] [(.ref b18), (.int p1), (.ref ar0)])) _
      refine XS.iconst X18.here hx rfl (hb hby d12_18) ?_
      show Steps p.tables e below (T18.setTop (mkF m 19 #[.val (.ref ar0), .val (.int p1), .val (.int p2), .val (.int (p2 - p1)), .val (.ref b18)] [(.int (0 : Int32)), (.ref b18), (.int p1), (.ref ar0)])) _
      refine XS.aloadN X18.here hx rfl (hb hby d12_19) rfl rfl ?_
      show Steps p.tables e below (T18.setTop (mkF m 20 #[.val (.ref ar0), .val (.int p1), .val (.int p2), .val (.int (p2 - p1)), .val (.ref b18)] [(.ref ar0), (.int (0 : Int32)), (.ref b18), (.int p1), (.ref ar0)])) _
      refine own_alen X18 hx hZ e18 F20 (Int32.ofNat nn) rfl (g := (mkF m 20 #[.val (.ref ar0), .val (.int p1), .val (.int p2), .val (.int (p2 - p1)), .val (.ref b18)] [(.ref ar0), (.int (0 : Int32)), (.ref b18), (.int p1), (.ref ar0)])) rfl rfl (hb hby d12_20) _ ?_
      show Steps p.tables e below (T18.setTop (mkF m 21 #[.val (.ref ar0), .val (.int p1), .val (.int p2), .val (.int (p2 - p1)), .val (.ref b18)] [(.int (Int32.ofNat nn)), (.int (0 : Int32)), (.ref b18), (.int p1), (.ref ar0)])) _
      refine XS.iloadN X18.here hx rfl (hb hby d12_21) rfl ?_
      show Steps p.tables e below (T18.setTop (mkF m 22 #[.val (.ref ar0), .val (.int p1), .val (.int p2), .val (.int (p2 - p1)), .val (.ref b18)] [(.int p1), (.int (Int32.ofNat nn)), (.int (0 : Int32)), (.ref b18), (.int p1), (.ref ar0)])) _
      refine XS.isub X18.here hx rfl (hb hby d12_22) rfl ?_
      show Steps p.tables e below (T18.setTop (mkF m 23 #[.val (.ref ar0), .val (.int p1), .val (.int p2), .val (.int (p2 - p1)), .val (.ref b18)] [(.int ((Int32.ofNat nn) - p1)), (.int (0 : Int32)), (.ref b18), (.int p1), (.ref ar0)])) _
      refine XS.iloadN X18.here hx rfl (hb hby d12_23) rfl ?_
      exact kg_
    obtain ⟨_, _, ⟨T24, L24, k24, n24⟩, -, X24, ⟨Lc24, hQ24, l24, y24, z24⟩, st24⟩ := Jvm.LawKit.callS X18 hx (y := (⟨"java/lang/Math", "min", "(II)I"⟩ : MethodName)) hown (mvT hZ (hw _ (List.mem_of_getElem? (i := 75) rfl))) (mvT hZ (hw _ (List.mem_of_getElem? (i := 76) rfl))) (mvT hZ (hw _ (List.mem_of_getElem? (i := 77) rfl))) (mvT hZ (hw _ (List.mem_of_getElem? (i := 78) rfl))) (by decide) (backOf (W := 4) (rm14 l Z a0 hw [] ((Int32.ofNat nn) - p1) (p2 - p1) h18 n0 Zs21 ) hZ (hw _ (List.mem_of_getElem? (i := 78) rfl)) (hw _ (List.mem_of_getElem? (i := 77) rfl)) (by decide) (by decide)) (g := (mkF m 24 #[.val (.ref ar0), .val (.int p1), .val (.int p2), .val (.int (p2 - p1)), .val (.ref b18)] [(.int (p2 - p1)), (.int ((Int32.ofNat nn) - p1)), (.int (0 : Int32)), (.ref b18), (.int p1), (.ref ar0)])) rfl (by rw [hml]; rfl) (argsL := [(.int ((Int32.ofNat nn) - p1)), (.int (p2 - p1))]) (rest := [(.int (0 : Int32)), (.ref b18), (.int p1), (.ref ar0)]) (lenOf pd_2 rfl) rfl (by show 2 * 0 + _ ≤ _; exact Nat.le_of_eq rfl) (hb hby d12_24) (fun _ _ => ⟨rfl, e18, (by decide : 1 + 0 ≤ _), (by decide : 15 + 0 ≤ _)⟩)
    dsimp only [Pt.U, Pt.locs, Pt.cells, Pt.slots] at X24 l24 y24 z24 st24 hQ24
    subst l24 y24 z24
    obtain ⟨rfl, N24q, I24_0⟩ := hQ24
    have N24 := Fr.app N16 N24q
    have r24 : own_R p.tables e below F0 (T24.setTop (mkF m 27 #[.val (.ref ar0), .val (.int p1), .val (.int p2), .val (.int (p2 - p1)), .val (.ref b18)] [(.int (own_min ((Int32.ofNat nn) - p1) (p2 - p1))), (.int (0 : Int32)), (.ref b18), (.int p1), (.ref ar0)])) := fun tg_ kg_ => r23 tg_ (st24 tg_ kg_)
    by_cases hc25 : (p2 - p1) < ((Int32.ofNat nn) - p1)
    · have ev26 : (own_min ((Int32.ofNat nn) - p1) (p2 - p1)) = (p2 - p1) := by unfold own_min; rw [if_pos hc25]
      have r27 : own_R p.tables e below F0 (T24.setTop (mkF m 27 #[.val (.ref ar0), .val (.int p1), .val (.int p2), .val (.int (p2 - p1)), .val (.ref b18)] [(.int (p2 - p1)), (.int (0 : Int32)), (.ref b18), (.int p1), (.ref ar0)])) := by have q := r24; rw [ev26] at q; exact q
      obtain ⟨ka28, Aa28⟩ := own_zeroArv F20 rfl
      obtain ⟨kb28, Ab28⟩ := own_zeroArv F22 rfl
      obtain ⟨T28, h28, lo28, X28, e28, N28, K28, -, st28⟩ := cpA X24 hx hZ hown (hw _ (List.mem_of_getElem? (i := 79) rfl)) (hw _ (List.mem_of_getElem? (i := 82) rfl)) (hw _ (List.mem_of_getElem? (i := 80) rfl)) (hw _ (List.mem_of_getElem? (i := 81) rfl)) I24_0 Aa28 (Ab28.pad (pad_rep [] (.int (0 : Int32)) 100)) (Or.inl ⟨rfl, rfl⟩) (sp := p1) (dp := (0 : Int32)) (nn := (p2 - p1)) (fun q => by
            have q88_r := own_R32 p2
            have q89_r := own_R32 p1
            have q90_r := own_R32 (p2 - p1)
            have q91_ := c_isub p2 p1
            have q92_r := own_R32 (Int32.ofNat nn)
            have q93_r := own_R32 ((Int32.ofNat nn) - p1)
            have q94_ := c_isub (Int32.ofNat nn) p1
            have q95_e : (0 : Int32).toInt = 0 := (by decide)
            have q95_r : (0 : Int) ≤ (0 : Int32).toInt ∧ (0 : Int32).toInt ≤ 0 := ⟨Int.le_of_eq q95_e.symm, Int.le_of_eq q95_e⟩
            have q96_c := own_lt32 hc25
            have := own_lt32 q
            have : (0 : Int32).toInt = 0 := rfl
            omega) (fun q => by
            have q88_r := own_R32 p2
            have q89_r := own_R32 p1
            have q90_r := own_R32 (p2 - p1)
            have q91_ := c_isub p2 p1
            have q92_r := own_R32 (Int32.ofNat nn)
            have q93_r := own_R32 ((Int32.ofNat nn) - p1)
            have q94_ := c_isub (Int32.ofNat nn) p1
            have q95_e : (0 : Int32).toInt = 0 := (by decide)
            have q95_r : (0 : Int) ≤ (0 : Int32).toInt ∧ (0 : Int32).toInt ≤ 0 := ⟨Int.le_of_eq q95_e.symm, Int.le_of_eq q95_e⟩
            have q96_c := own_lt32 hc25
            have := own_lt32 q
            have : (0 : Int32).toInt = 0 := rfl
            omega) (fun q => by
            have q88_r := own_R32 p2
            have q89_r := own_R32 p1
            have q90_r := own_R32 (p2 - p1)
            have q91_ := c_isub p2 p1
            have q92_r := own_R32 (Int32.ofNat nn)
            have q93_r := own_R32 ((Int32.ofNat nn) - p1)
            have q94_ := c_isub (Int32.ofNat nn) p1
            have q95_e : (0 : Int32).toInt = 0 := (by decide)
            have q95_r : (0 : Int) ≤ (0 : Int32).toInt ∧ (0 : Int32).toInt ≤ 0 := ⟨Int.le_of_eq q95_e.symm, Int.le_of_eq q95_e⟩
            have q96_c := own_lt32 hc25
            have := own_lt32 q
            have : (0 : Int32).toInt = 0 := rfl
            omega) (by
            have q88_r := own_R32 p2
            have q89_r := own_R32 p1
            have q90_r := own_R32 (p2 - p1)
            have q91_ := c_isub p2 p1
            have q92_r := own_R32 (Int32.ofNat nn)
            have q93_r := own_R32 ((Int32.ofNat nn) - p1)
            have q94_ := c_isub (Int32.ofNat nn) p1
            have q95_e : (0 : Int32).toInt = 0 := (by decide)
            have q95_r : (0 : Int) ≤ (0 : Int32).toInt ∧ (0 : Int32).toInt ≤ 0 := ⟨Int.le_of_eq q95_e.symm, Int.le_of_eq q95_e⟩
            have q96_c := own_lt32 hc25
            have cs : (p1).toNatClampNeg = (p1).toInt.toNat := rfl
            have cs : ((0 : Int32)).toNatClampNeg = ((0 : Int32)).toInt.toNat := rfl
            have cs : ((p2 - p1)).toNatClampNeg = ((p2 - p1)).toInt.toNat := rfl
            have cz : (Int32.ofNat (nn)).toNatClampNeg = (Int32.ofNat (nn)).toInt.toNat := rfl
            have cz' : (Int32.ofNat (nn)).toInt = (nn) := Int32.toInt_ofNat_of_lt (by omega)
            have cz : (Int32.ofNat (mm)).toNatClampNeg = (Int32.ofNat (mm)).toInt.toNat := rfl
            have cz' : (Int32.ofNat (mm)).toInt = (mm) := Int32.toInt_ofNat_of_lt (by omega)
            omega) (by
            have q88_r := own_R32 p2
            have q89_r := own_R32 p1
            have q90_r := own_R32 (p2 - p1)
            have q91_ := c_isub p2 p1
            have q92_r := own_R32 (Int32.ofNat nn)
            have q93_r := own_R32 ((Int32.ofNat nn) - p1)
            have q94_ := c_isub (Int32.ofNat nn) p1
            have q95_e : (0 : Int32).toInt = 0 := (by decide)
            have q95_r : (0 : Int) ≤ (0 : Int32).toInt ∧ (0 : Int32).toInt ≤ 0 := ⟨Int.le_of_eq q95_e.symm, Int.le_of_eq q95_e⟩
            have q96_c := own_lt32 hc25
            have cs : (p1).toNatClampNeg = (p1).toInt.toNat := rfl
            have cs : ((0 : Int32)).toNatClampNeg = ((0 : Int32)).toInt.toNat := rfl
            have cs : ((p2 - p1)).toNatClampNeg = ((p2 - p1)).toInt.toNat := rfl
            have cz : (Int32.ofNat (nn)).toNatClampNeg = (Int32.ofNat (nn)).toInt.toNat := rfl
            have cz' : (Int32.ofNat (nn)).toInt = (nn) := Int32.toInt_ofNat_of_lt (by omega)
            have cz : (Int32.ofNat (mm)).toNatClampNeg = (Int32.ofNat (mm)).toInt.toNat := rfl
            have cz' : (Int32.ofNat (mm)).toInt = (mm) := Int32.toInt_ofNat_of_lt (by omega)
            omega) rfl (by
            have q88_r := own_R32 p2
            have q89_r := own_R32 p1
            have q90_r := own_R32 (p2 - p1)
            have q91_ := c_isub p2 p1
            have q92_r := own_R32 (Int32.ofNat nn)
            have q93_r := own_R32 ((Int32.ofNat nn) - p1)
            have q94_ := c_isub (Int32.ofNat nn) p1
            have q95_e : (0 : Int32).toInt = 0 := (by decide)
            have q95_r : (0 : Int) ≤ (0 : Int32).toInt ∧ (0 : Int32).toInt ≤ 0 := ⟨Int.le_of_eq q95_e.symm, Int.le_of_eq q95_e⟩
            have q96_c := own_lt32 hc25
            have cs : (p1).toNatClampNeg = (p1).toInt.toNat := rfl
            have cs : ((0 : Int32)).toNatClampNeg = ((0 : Int32)).toInt.toNat := rfl
            have cs : ((p2 - p1)).toNatClampNeg = ((p2 - p1)).toInt.toNat := rfl
            have cz : (Int32.ofNat (nn)).toNatClampNeg = (Int32.ofNat (nn)).toInt.toNat := rfl
            have cz' : (Int32.ofNat (nn)).toInt = (nn) := Int32.toInt_ofNat_of_lt (by omega)
            have cz : (Int32.ofNat (mm)).toNatClampNeg = (Int32.ofNat (mm)).toInt.toNat := rfl
            have cz' : (Int32.ofNat (mm)).toInt = (mm) := Int32.toInt_ofNat_of_lt (by omega)
            simp only [List.nil_append, List.length_replicate]
            omega) N24 ge18 (g := (mkF m 27 #[.val (.ref ar0), .val (.int p1), .val (.int p2), .val (.int (p2 - p1)), .val (.ref b18)] [(.int (p2 - p1)), (.int (0 : Int32)), (.ref b18), (.int p1), (.ref ar0)])) rfl (by rw [hml]; rfl) rfl (hb hby d12_27) (by decide) (W := 0) (by show 2 * 0 + _ ≤ _; exact Nat.le_of_eq rfl) (by decide)
      have F29 : own_Arf Z h28 ar0 .byte nn (fun i => (.int ((fun _ => (0 : Int32)) i))) := F20.keep K28 (ninS ne19 nin0)
      have K30 : Keep h0 h28 [] := K18.trans K28 (allS (Or.inr old18) all0)
      have Zs31 : n0 ≤ h28.size := Nat.le_trans Zs21 K28.1
      have r28 : own_R p.tables e below F0 (T28.setTop (mkF m 30 #[.val (.ref ar0), .val (.int p1), .val (.int p2), .val (.int (p2 - p1)), .val (.ref b18)] [])) := fun tg_ kg_ => r27 tg_ (st28 tg_ kg_)
      have r32 : own_R p.tables e below F0 (T28.setTop (mkF m 32 #[.val (.ref ar0), .val (.int p1), .val (.int p2), .val (.int (p2 - p1)), .val (.ref b18)] [(.ref b18)])) := fun tg_ kg_ => by
        refine r28 tg_ ?_
        show Steps p.tables e below (T28.setTop (mkF m 30 #[.val (.ref ar0), .val (.int p1), .val (.int p2), .val (.int (p2 - p1)), .val (.ref b18)] [])) _
        refine XS.aload X28.here hx rfl (hb hby d12_30) rfl rfl ?_
        exact kg_
      refine hG (own_fin X28 hlk (some (.ref b18)) (own_hv Bd.returns) ?_ (by decide) (by decide) (fun fs hr => r32 _ (retOut X28 hx Bd.returns rfl (Or.inr (Or.inr (Or.inr (Or.inr ⟨rfl, rfl, rfl⟩)))) (hb hby d12_32) hr)))
      rw [e28]
      refine ⟨b18, ?_, N28, K30, old18⟩
      rfl
    · have ev33 : (own_min ((Int32.ofNat nn) - p1) (p2 - p1)) = ((Int32.ofNat nn) - p1) := by unfold own_min; rw [if_neg hc25]
      have r34 : own_R p.tables e below F0 (T24.setTop (mkF m 27 #[.val (.ref ar0), .val (.int p1), .val (.int p2), .val (.int (p2 - p1)), .val (.ref b18)] [(.int ((Int32.ofNat nn) - p1)), (.int (0 : Int32)), (.ref b18), (.int p1), (.ref ar0)])) := by have q := r24; rw [ev33] at q; exact q
      obtain ⟨ka35, Aa35⟩ := own_zeroArv F20 rfl
      obtain ⟨kb35, Ab35⟩ := own_zeroArv F22 rfl
      obtain ⟨T35, h35, lo35, X35, e35, N35, K35, -, st35⟩ := cpA X24 hx hZ hown (hw _ (List.mem_of_getElem? (i := 79) rfl)) (hw _ (List.mem_of_getElem? (i := 82) rfl)) (hw _ (List.mem_of_getElem? (i := 80) rfl)) (hw _ (List.mem_of_getElem? (i := 81) rfl)) I24_0 Aa35 (Ab35.pad (pad_rep [] (.int (0 : Int32)) 100)) (Or.inl ⟨rfl, rfl⟩) (sp := p1) (dp := (0 : Int32)) (nn := ((Int32.ofNat nn) - p1)) (fun q => by
            have q97_r := own_R32 p2
            have q98_r := own_R32 p1
            have q99_r := own_R32 (p2 - p1)
            have q100_ := c_isub p2 p1
            have q101_r := own_R32 (Int32.ofNat nn)
            have q102_r := own_R32 ((Int32.ofNat nn) - p1)
            have q103_ := c_isub (Int32.ofNat nn) p1
            have q104_e : (0 : Int32).toInt = 0 := (by decide)
            have q104_r : (0 : Int) ≤ (0 : Int32).toInt ∧ (0 : Int32).toInt ≤ 0 := ⟨Int.le_of_eq q104_e.symm, Int.le_of_eq q104_e⟩
            have q105_c := own_nlt32 hc25
            have := own_lt32 q
            have : (0 : Int32).toInt = 0 := rfl
            omega) (fun q => by
            have q97_r := own_R32 p2
            have q98_r := own_R32 p1
            have q99_r := own_R32 (p2 - p1)
            have q100_ := c_isub p2 p1
            have q101_r := own_R32 (Int32.ofNat nn)
            have q102_r := own_R32 ((Int32.ofNat nn) - p1)
            have q103_ := c_isub (Int32.ofNat nn) p1
            have q104_e : (0 : Int32).toInt = 0 := (by decide)
            have q104_r : (0 : Int) ≤ (0 : Int32).toInt ∧ (0 : Int32).toInt ≤ 0 := ⟨Int.le_of_eq q104_e.symm, Int.le_of_eq q104_e⟩
            have q105_c := own_nlt32 hc25
            have := own_lt32 q
            have : (0 : Int32).toInt = 0 := rfl
            omega) (fun q => by
            have q97_r := own_R32 p2
            have q98_r := own_R32 p1
            have q99_r := own_R32 (p2 - p1)
            have q100_ := c_isub p2 p1
            have q101_r := own_R32 (Int32.ofNat nn)
            have q102_r := own_R32 ((Int32.ofNat nn) - p1)
            have q103_ := c_isub (Int32.ofNat nn) p1
            have q104_e : (0 : Int32).toInt = 0 := (by decide)
            have q104_r : (0 : Int) ≤ (0 : Int32).toInt ∧ (0 : Int32).toInt ≤ 0 := ⟨Int.le_of_eq q104_e.symm, Int.le_of_eq q104_e⟩
            have q105_c := own_nlt32 hc25
            have := own_lt32 q
            have : (0 : Int32).toInt = 0 := rfl
            omega) (by
            have q97_r := own_R32 p2
            have q98_r := own_R32 p1
            have q99_r := own_R32 (p2 - p1)
            have q100_ := c_isub p2 p1
            have q101_r := own_R32 (Int32.ofNat nn)
            have q102_r := own_R32 ((Int32.ofNat nn) - p1)
            have q103_ := c_isub (Int32.ofNat nn) p1
            have q104_e : (0 : Int32).toInt = 0 := (by decide)
            have q104_r : (0 : Int) ≤ (0 : Int32).toInt ∧ (0 : Int32).toInt ≤ 0 := ⟨Int.le_of_eq q104_e.symm, Int.le_of_eq q104_e⟩
            have q105_c := own_nlt32 hc25
            have cs : (p1).toNatClampNeg = (p1).toInt.toNat := rfl
            have cs : ((0 : Int32)).toNatClampNeg = ((0 : Int32)).toInt.toNat := rfl
            have cs : (((Int32.ofNat nn) - p1)).toNatClampNeg = (((Int32.ofNat nn) - p1)).toInt.toNat := rfl
            have cz : (Int32.ofNat (nn)).toNatClampNeg = (Int32.ofNat (nn)).toInt.toNat := rfl
            have cz' : (Int32.ofNat (nn)).toInt = (nn) := Int32.toInt_ofNat_of_lt (by omega)
            have cz : (Int32.ofNat (mm)).toNatClampNeg = (Int32.ofNat (mm)).toInt.toNat := rfl
            have cz' : (Int32.ofNat (mm)).toInt = (mm) := Int32.toInt_ofNat_of_lt (by omega)
            omega) (by
            have q97_r := own_R32 p2
            have q98_r := own_R32 p1
            have q99_r := own_R32 (p2 - p1)
            have q100_ := c_isub p2 p1
            have q101_r := own_R32 (Int32.ofNat nn)
            have q102_r := own_R32 ((Int32.ofNat nn) - p1)
            have q103_ := c_isub (Int32.ofNat nn) p1
            have q104_e : (0 : Int32).toInt = 0 := (by decide)
            have q104_r : (0 : Int) ≤ (0 : Int32).toInt ∧ (0 : Int32).toInt ≤ 0 := ⟨Int.le_of_eq q104_e.symm, Int.le_of_eq q104_e⟩
            have q105_c := own_nlt32 hc25
            have cs : (p1).toNatClampNeg = (p1).toInt.toNat := rfl
            have cs : ((0 : Int32)).toNatClampNeg = ((0 : Int32)).toInt.toNat := rfl
            have cs : (((Int32.ofNat nn) - p1)).toNatClampNeg = (((Int32.ofNat nn) - p1)).toInt.toNat := rfl
            have cz : (Int32.ofNat (nn)).toNatClampNeg = (Int32.ofNat (nn)).toInt.toNat := rfl
            have cz' : (Int32.ofNat (nn)).toInt = (nn) := Int32.toInt_ofNat_of_lt (by omega)
            have cz : (Int32.ofNat (mm)).toNatClampNeg = (Int32.ofNat (mm)).toInt.toNat := rfl
            have cz' : (Int32.ofNat (mm)).toInt = (mm) := Int32.toInt_ofNat_of_lt (by omega)
            omega) rfl (by
            have q97_r := own_R32 p2
            have q98_r := own_R32 p1
            have q99_r := own_R32 (p2 - p1)
            have q100_ := c_isub p2 p1
            have q101_r := own_R32 (Int32.ofNat nn)
            have q102_r := own_R32 ((Int32.ofNat nn) - p1)
            have q103_ := c_isub (Int32.ofNat nn) p1
            have q104_e : (0 : Int32).toInt = 0 := (by decide)
            have q104_r : (0 : Int) ≤ (0 : Int32).toInt ∧ (0 : Int32).toInt ≤ 0 := ⟨Int.le_of_eq q104_e.symm, Int.le_of_eq q104_e⟩
            have q105_c := own_nlt32 hc25
            have cs : (p1).toNatClampNeg = (p1).toInt.toNat := rfl
            have cs : ((0 : Int32)).toNatClampNeg = ((0 : Int32)).toInt.toNat := rfl
            have cs : (((Int32.ofNat nn) - p1)).toNatClampNeg = (((Int32.ofNat nn) - p1)).toInt.toNat := rfl
            have cz : (Int32.ofNat (nn)).toNatClampNeg = (Int32.ofNat (nn)).toInt.toNat := rfl
            have cz' : (Int32.ofNat (nn)).toInt = (nn) := Int32.toInt_ofNat_of_lt (by omega)
            have cz : (Int32.ofNat (mm)).toNatClampNeg = (Int32.ofNat (mm)).toInt.toNat := rfl
            have cz' : (Int32.ofNat (mm)).toInt = (mm) := Int32.toInt_ofNat_of_lt (by omega)
            simp only [List.nil_append, List.length_replicate]
            omega) N24 ge18 (g := (mkF m 27 #[.val (.ref ar0), .val (.int p1), .val (.int p2), .val (.int (p2 - p1)), .val (.ref b18)] [(.int ((Int32.ofNat nn) - p1)), (.int (0 : Int32)), (.ref b18), (.int p1), (.ref ar0)])) rfl (by rw [hml]; rfl) rfl (hb hby d12_27) (by decide) (W := 0) (by show 2 * 0 + _ ≤ _; exact Nat.le_of_eq rfl) (by decide)
      have F36 : own_Arf Z h35 ar0 .byte nn (fun i => (.int ((fun _ => (0 : Int32)) i))) := F20.keep K35 (ninS ne19 nin0)
      have K37 : Keep h0 h35 [] := K18.trans K35 (allS (Or.inr old18) all0)
      have Zs38 : n0 ≤ h35.size := Nat.le_trans Zs21 K35.1
      have r35 : own_R p.tables e below F0 (T35.setTop (mkF m 30 #[.val (.ref ar0), .val (.int p1), .val (.int p2), .val (.int (p2 - p1)), .val (.ref b18)] [])) := fun tg_ kg_ => r34 tg_ (st35 tg_ kg_)
      have r39 : own_R p.tables e below F0 (T35.setTop (mkF m 32 #[.val (.ref ar0), .val (.int p1), .val (.int p2), .val (.int (p2 - p1)), .val (.ref b18)] [(.ref b18)])) := fun tg_ kg_ => by
        refine r35 tg_ ?_
        show Steps p.tables e below (T35.setTop (mkF m 30 #[.val (.ref ar0), .val (.int p1), .val (.int p2), .val (.int (p2 - p1)), .val (.ref b18)] [])) _
        refine XS.aload X35.here hx rfl (hb hby d12_30) rfl rfl ?_
        exact kg_
      refine hG (own_fin X35 hlk (some (.ref b18)) (own_hv Bd.returns) ?_ (by decide) (by decide) (fun fs hr => r39 _ (retOut X35 hx Bd.returns rfl (Or.inr (Or.inr (Or.inr (Or.inr ⟨rfl, rfl, rfl⟩)))) (hb hby d12_32) hr)))
      rw [e35]
      refine ⟨b18, ?_, N35, K37, old18⟩
      rfl
  exact key _ _ id (fun t k => castTop (ef_12 m ar0 p1 p2) k)
theorem pd_3 : parseMethodDescriptor "([BII)[B" = some ⟨[(.array .byte), .int, .int], some (.array .byte)⟩ := by decide +kernel
theorem d8_0 : decode jdk_65_method_132_code 0 = .ok (.iload_n 1, 1) := by decide +kernel
theorem d8_1 : decode jdk_65_method_132_code 1 = .ok (.ifCond .ne 9, 3) := by decide +kernel
theorem d8_4 : decode jdk_65_method_132_code 4 = .ok (.iload_n 2, 1) := by decide +kernel
theorem d8_5 : decode jdk_65_method_132_code 5 = .ok (.aload_n 0, 1) := by decide +kernel
theorem d8_6 : decode jdk_65_method_132_code 6 = .ok (.arraylength, 1) := by decide +kernel
theorem d8_7 : decode jdk_65_method_132_code 7 = .ok (.if_icmp .eq 10, 3) := by decide +kernel
theorem d8_10 : decode jdk_65_method_132_code 10 = .ok (.aload_n 0, 1) := by decide +kernel
theorem d8_11 : decode jdk_65_method_132_code 11 = .ok (.iload_n 1, 1) := by decide +kernel
theorem d8_12 : decode jdk_65_method_132_code 12 = .ok (.iload_n 2, 1) := by decide +kernel
theorem d8_13 : decode jdk_65_method_132_code 13 = .ok (.invokestatic 339, 3) := by decide +kernel
theorem d8_16 : decode jdk_65_method_132_code 16 = .ok (.areturn, 1) := by decide +kernel
theorem d8_17 : decode jdk_65_method_132_code 17 = .ok (.aload_n 0, 1) := by decide +kernel
theorem d8_18 : decode jdk_65_method_132_code 18 = .ok (.invokevirtual 310, 3) := by decide +kernel
theorem d8_21 : decode jdk_65_method_132_code 21 = .ok (.checkcast 311, 3) := by decide +kernel
theorem d8_24 : decode jdk_65_method_132_code 24 = .ok (.areturn, 1) := by decide +kernel
theorem ef_8 (m : MethodId) (x0 : Addr) (x1 : Int32) (x2 : Int32) : entryFrame m #[(.ref x0), (.int x1), (.int x2)] 3 = mkF m 0 #[.val (.ref x0), .val (.int x1), .val (.int x2)] [] := by first | (simp [entryFrame, mkF, argsToLocals, Value.category]; done) | rfl
def Q8 (Z : State) (ar0 : Addr) (p1 : Int32) (p2 : Int32) (nn : Nat) (h0 : Heap) (n0 : Nat) (v : Option Value) (h : Heap) (L : List Loc) : Prop := ∃ (b : Addr), v = some (.ref b) ∧ Fr n0 L ∧ Keep h0 h [] ∧ h0.size ≤ b
set_option maxRecDepth 65536 in
set_option maxHeartbeats 40000000 in
theorem rm8 (l : Launch) (Z : State) (a0 : Array Value) (hw : ∀ d ∈ tables_1, d.before a0 Z = true) (ws : List Jvm.Cond) (ar0 : Addr) (p1 : Int32) (p2 : Int32) (nn : Nat) (h0 : Heap) (n0 : Nat) (Z0 : n0 ≤ h0.size) (A0 : own_Arf Z h0 ar0 .byte nn (fun i => (.int ((fun _ => (0 : Int32)) i)))) (E0 : Exa Z h0 ar0 "[B") (hr : 0 ≤ p1.toInt ∧ p1.toInt ≤ p2.toInt ∧ p2.toInt ≤ nn ∧ nn ≤ 15) :
    MetFree l (⟨"java/util/Arrays", "copyOfRange", "([BII)[B"⟩ : MethodName) (head1 (Jvm.Cond.code (⟨"java/util/Arrays", "copyOfRange", "([BII)[B"⟩ : MethodName) jdk_65_method_132_code 3 (some (.array .byte)) :: ws) ({ frames := 2, cells := 1, slots := 15, locals := 34 } : Room)) (fun a U => a = #[(.ref ar0), (.int p1), (.int p2)] ∧ Z.Warmed39 U.vm ∧ U.heap = h0) (fun _ _ _ _ _ => True) (fun _ U o U' => ∃ v L, o = .returned v ∧ Q8 Z ar0 p1 p2 nn h0 n0 v U'.heap L ∧ FrameEnd U o U' L ({ frames := 2, cells := 1, slots := 15, locals := 34 } : Room).cells ({ frames := 2, cells := 1, slots := 15, locals := 34 } : Room).slots) := by
  refine MetFree.of_bodySF (plainFor_of_name pn_2) hisR ?_
  intro p e s m args below meth c s₁ Bd hml0 hP hK
  obtain ⟨rfl, hZ, hh⟩ := hP
  have hx := Bd.exec
  have hby := Bd.bytes
  have hml : c.maxLocals = 3 := hml0
  have hown : s.vm.findClass "java/util/Arrays" = some m.cls := findClass_of_methodNamed Bd.named
  have hnm := (name_of_methodNamed Bd.named Bd.method).1
  have hlk : meth.locks = false := BodyLoose.notSynchronized Bd
  have X0 : Stand p l e ({ frames := 2, cells := 1, slots := 15, locals := 34 } : Room) s m #[(.ref ar0), (.int p1), (.int p2)] below meth c s₁ [] 0 0 := Stand.of_body Bd
  have e0 : s₁.heap = h0 := by rw [← hh, Bd.state]; rfl
  have N0 := Fr.nil n0
  have K0 : Keep h0 h0 [] := Keep.refl h0 _
  have key : ∀ (F0 : State) (G : Prop), (own_G p e below s F0 (Q8 Z ar0 p1 p2 nn h0 n0) ({ frames := 2, cells := 1, slots := 15, locals := 34 } : Room).cells ({ frames := 2, cells := 1, slots := 15, locals := 34 } : Room).slots → G) → own_R p.tables e below F0 (s₁.setTop (mkF m 0 #[.val (.ref ar0), .val (.int p1), .val (.int p2)] [])) → G := by
    intro F0 G hG r0
    have hN : (Int32.ofNat nn).toInt = nn := Int32.toInt_ofNat_of_lt (by omega)
    have r40 : own_R p.tables e below F0 (s₁.setTop (mkF m 1 #[.val (.ref ar0), .val (.int p1), .val (.int p2)] [(.int p1)])) := fun tg_ kg_ => by
      refine r0 tg_ ?_
      show Steps p.tables e below (s₁.setTop (mkF m 0 #[.val (.ref ar0), .val (.int p1), .val (.int p2)] [])) _
      refine XS.iloadN X0.here hx rfl (hb hby d8_0) rfl ?_
      exact kg_
    by_cases hc41 : p1 = (0 : Int32)
    · have r42 : own_R p.tables e below F0 (s₁.setTop (mkF m 7 #[.val (.ref ar0), .val (.int p1), .val (.int p2)] [(.int (Int32.ofNat nn)), (.int p2)])) := fun tg_ kg_ => by
        refine r40 tg_ ?_
        show Steps p.tables e below (s₁.setTop (mkF m 1 #[.val (.ref ar0), .val (.int p1), .val (.int p2)] [(.int p1)])) _
        refine XS.ifNo X0.here hx rfl (hb hby d8_1) rfl ((if0 _ _).trans (teq hc41).2) ?_
        show Steps p.tables e below (s₁.setTop (mkF m 4 #[.val (.ref ar0), .val (.int p1), .val (.int p2)] [])) _
        refine XS.iloadN X0.here hx rfl (hb hby d8_4) rfl ?_
        show Steps p.tables e below (s₁.setTop (mkF m 5 #[.val (.ref ar0), .val (.int p1), .val (.int p2)] [(.int p2)])) _
        refine XS.aloadN X0.here hx rfl (hb hby d8_5) rfl rfl ?_
        show Steps p.tables e below (s₁.setTop (mkF m 6 #[.val (.ref ar0), .val (.int p1), .val (.int p2)] [(.ref ar0), (.int p2)])) _
        refine own_alen X0 hx hZ e0 A0 (Int32.ofNat nn) rfl (g := (mkF m 6 #[.val (.ref ar0), .val (.int p1), .val (.int p2)] [(.ref ar0), (.int p2)])) rfl rfl (hb hby d8_6) _ ?_
        exact kg_
      by_cases hc43 : p2 = (Int32.ofNat nn)
      · have r44 : own_R p.tables e below F0 (s₁.setTop (mkF m 18 #[.val (.ref ar0), .val (.int p1), .val (.int p2)] [(.ref ar0)])) := fun tg_ kg_ => by
          refine r42 tg_ ?_
          show Steps p.tables e below (s₁.setTop (mkF m 7 #[.val (.ref ar0), .val (.int p1), .val (.int p2)] [(.int (Int32.ofNat nn)), (.int p2)])) _
          refine XS.icmpYes X0.here hx rfl (pc0 := 7) (pc' := 17) rfl (hb hby d8_7) rfl (teq hc43).1 (by decide) (by decide) ?_
          show Steps p.tables e below (s₁.setTop (mkF m 17 #[.val (.ref ar0), .val (.int p1), .val (.int p2)] [])) _
          refine XS.aloadN X0.here hx rfl (hb hby d8_17) rfl rfl ?_
          exact kg_
        obtain ⟨T45, h45, X45, e45, E45, A45, C45, st45⟩ := own_clone X0 hx hZ hown (hw _ (List.mem_of_getElem? (i := 45) rfl)) (hw _ (List.mem_of_getElem? (i := 46) rfl)) (hw _ (List.mem_of_getElem? (i := 50) rfl)) (hw _ (List.mem_of_getElem? (i := 48) rfl)) (hw _ (List.mem_of_getElem? (i := 49) rfl)) (hw _ (List.mem_of_getElem? (i := 51) rfl)) e0 A0 (fun j hj => rfl) E0 (g := (mkF m 18 #[.val (.ref ar0), .val (.int p1), .val (.int p2)] [(.ref ar0)])) rfl (by rw [hml]; rfl) rfl (hb hby d8_18) (by decide) (W := 0) (cap := 15) (by show 2 * 0 + _ ≤ _; exact Nat.le_of_eq rfl) (by decide) (by first | decide | omega) (by decide) (by decide)
        obtain ⟨b45, g45⟩ : ∃ z, z = h0.size := ⟨_, rfl⟩
        rw [← g45] at A45 C45 st45
        have ne46 : ar0 ≠ b45 := Nat.ne_of_lt (Nat.lt_of_lt_of_le A0.lt (Nat.le_of_eq g45.symm))
        have ge45 : n0 ≤ b45 := Nat.le_trans Z0 (Nat.le_of_eq g45.symm)
        have old45 : h0.size ≤ b45 := Nat.le_trans K0.1 (Nat.le_of_eq g45.symm)
        have K45 : Keep h0 h45 [] := K0.ext E45
        have F47 : own_Arf Z h45 ar0 .byte nn (fun i => (.int ((fun _ => (0 : Int32)) i))) := A0.ext E45
        have F48 : Exa Z h45 ar0 "[B" := E0.ext E45
        have Zs49 : n0 ≤ h45.size := Nat.le_trans Z0 E45.1
        have r45 : own_R p.tables e below F0 (T45.setTop (mkF m 21 #[.val (.ref ar0), .val (.int p1), .val (.int p2)] [(.ref b45)])) := fun tg_ kg_ => r44 tg_ (st45 tg_ kg_)
        obtain ⟨T50, X50, e50, st50⟩ := castY X45 hx hZ hown (hw _ (List.mem_of_getElem? (i := 52) rfl)) e45 (Ins.self C45) (g := (mkF m 21 #[.val (.ref ar0), .val (.int p1), .val (.int p2)] [(.ref b45)])) rfl rfl (hb hby d8_21)
        have r50 : own_R p.tables e below F0 (T50.setTop (mkF m 24 #[.val (.ref ar0), .val (.int p1), .val (.int p2)] [(.ref b45)])) := fun tg_ kg_ => r45 tg_ (st50 tg_ kg_)
        refine hG (own_fin X50 hlk (some (.ref b45)) (own_hv Bd.returns) ?_ (by decide) (by decide) (fun fs hr => r50 _ (retOut X50 hx Bd.returns rfl (Or.inr (Or.inr (Or.inr (Or.inr ⟨rfl, rfl, rfl⟩)))) (hb hby d8_24) hr)))
        rw [e50]
        refine ⟨b45, ?_, N0, K45, old45⟩
        rfl
      · have r51 : own_R p.tables e below F0 (s₁.setTop (mkF m 13 #[.val (.ref ar0), .val (.int p1), .val (.int p2)] [(.int p2), (.int p1), (.ref ar0)])) := fun tg_ kg_ => by
          refine r42 tg_ ?_
          show Steps p.tables e below (s₁.setTop (mkF m 7 #[.val (.ref ar0), .val (.int p1), .val (.int p2)] [(.int (Int32.ofNat nn)), (.int p2)])) _
          refine XS.icmpNo X0.here hx rfl (hb hby d8_7) rfl (feq hc43).1 ?_
          show Steps p.tables e below (s₁.setTop (mkF m 10 #[.val (.ref ar0), .val (.int p1), .val (.int p2)] [])) _
          refine XS.aloadN X0.here hx rfl (hb hby d8_10) rfl rfl ?_
          show Steps p.tables e below (s₁.setTop (mkF m 11 #[.val (.ref ar0), .val (.int p1), .val (.int p2)] [(.ref ar0)])) _
          refine XS.iloadN X0.here hx rfl (hb hby d8_11) rfl ?_
          show Steps p.tables e below (s₁.setTop (mkF m 12 #[.val (.ref ar0), .val (.int p1), .val (.int p2)] [(.int p1), (.ref ar0)])) _
          refine XS.iloadN X0.here hx rfl (hb hby d8_12) rfl ?_
          exact kg_
        obtain ⟨_, _, ⟨T52, L52, k52, n52⟩, -, X52, ⟨Lc52, hQ52, l52, y52, z52⟩, st52⟩ := Jvm.LawKit.callS X0 hx (y := (⟨"java/util/Arrays", "copyOfRangeByte", "([BII)[B"⟩ : MethodName)) hown (mvT hZ (hw _ (List.mem_of_getElem? (i := 69) rfl))) (mvT hZ (hw _ (List.mem_of_getElem? (i := 70) rfl))) (mvT hZ (hw _ (List.mem_of_getElem? (i := 43) rfl))) (mvT hZ (hw _ (List.mem_of_getElem? (i := 71) rfl))) (by decide) (backOf (W := 0) (rm12 l Z a0 hw [] ar0 p1 p2 (nn) h0 n0 Z0 A0 hr) hZ (hw _ (List.mem_of_getElem? (i := 71) rfl)) (hw _ (List.mem_of_getElem? (i := 43) rfl)) (by decide) (by decide)) (g := (mkF m 13 #[.val (.ref ar0), .val (.int p1), .val (.int p2)] [(.int p2), (.int p1), (.ref ar0)])) rfl (by rw [hml]; rfl) (argsL := [(.ref ar0), (.int p1), (.int p2)]) (rest := []) (lenOf pd_3 rfl) rfl (by show 2 * 0 + _ ≤ _; exact Nat.le_of_eq rfl) (hb hby d8_13) (fun _ _ => ⟨rfl, e0, (by decide : 0 + 1 ≤ _), (by decide : 0 + 15 ≤ _)⟩)
        dsimp only [Pt.U, Pt.locs, Pt.cells, Pt.slots] at X52 l52 y52 z52 st52 hQ52
        subst l52 y52 z52
        obtain ⟨b_52, rfl, N52q, I52_0, I52_1⟩ := hQ52
        have N52 := Fr.app N0 N52q
        obtain ⟨h52, e52⟩ : ∃ z, T52.heap = z := ⟨_, rfl⟩
        rw [e52] at I52_0
        have ne53 : ar0 ≠ b_52 := Nat.ne_of_lt (Nat.lt_of_lt_of_le A0.lt I52_1)
        have ge54 : n0 ≤ b_52 := Nat.le_trans Z0 I52_1
        have old55 : h0.size ≤ b_52 := Nat.le_trans K0.1 I52_1
        have F56 : own_Arf Z h52 ar0 .byte nn (fun i => (.int ((fun _ => (0 : Int32)) i))) := A0.keep I52_0 nin0
        have F57 : Exa Z h52 ar0 "[B" := E0.keep I52_0
        have K58 : Keep h0 h52 [] := K0.trans I52_0 all0
        have Zs59 : n0 ≤ h52.size := Nat.le_trans Z0 I52_0.1
        have r52 : own_R p.tables e below F0 (T52.setTop (mkF m 16 #[.val (.ref ar0), .val (.int p1), .val (.int p2)] [(.ref b_52)])) := fun tg_ kg_ => r51 tg_ (st52 tg_ kg_)
        refine hG (own_fin X52 hlk (some (.ref b_52)) (own_hv Bd.returns) ?_ (by decide) (by decide) (fun fs hr => r52 _ (retOut X52 hx Bd.returns rfl (Or.inr (Or.inr (Or.inr (Or.inr ⟨rfl, rfl, rfl⟩)))) (hb hby d8_16) hr)))
        rw [e52]
        refine ⟨b_52, ?_, N52, K58, old55⟩
        rfl
    · have r60 : own_R p.tables e below F0 (s₁.setTop (mkF m 13 #[.val (.ref ar0), .val (.int p1), .val (.int p2)] [(.int p2), (.int p1), (.ref ar0)])) := fun tg_ kg_ => by
        refine r40 tg_ ?_
        show Steps p.tables e below (s₁.setTop (mkF m 1 #[.val (.ref ar0), .val (.int p1), .val (.int p2)] [(.int p1)])) _
        refine XS.ifYes X0.here hx rfl (pc0 := 1) (pc' := 10) rfl (hb hby d8_1) rfl ((if0 _ _).trans (feq hc41).2) (by decide) (by decide) ?_
        show Steps p.tables e below (s₁.setTop (mkF m 10 #[.val (.ref ar0), .val (.int p1), .val (.int p2)] [])) _
        refine XS.aloadN X0.here hx rfl (hb hby d8_10) rfl rfl ?_
        show Steps p.tables e below (s₁.setTop (mkF m 11 #[.val (.ref ar0), .val (.int p1), .val (.int p2)] [(.ref ar0)])) _
        refine XS.iloadN X0.here hx rfl (hb hby d8_11) rfl ?_
        show Steps p.tables e below (s₁.setTop (mkF m 12 #[.val (.ref ar0), .val (.int p1), .val (.int p2)] [(.int p1), (.ref ar0)])) _
        refine XS.iloadN X0.here hx rfl (hb hby d8_12) rfl ?_
        exact kg_
      obtain ⟨_, _, ⟨T61, L61, k61, n61⟩, -, X61, ⟨Lc61, hQ61, l61, y61, z61⟩, st61⟩ := Jvm.LawKit.callS X0 hx (y := (⟨"java/util/Arrays", "copyOfRangeByte", "([BII)[B"⟩ : MethodName)) hown (mvT hZ (hw _ (List.mem_of_getElem? (i := 69) rfl))) (mvT hZ (hw _ (List.mem_of_getElem? (i := 70) rfl))) (mvT hZ (hw _ (List.mem_of_getElem? (i := 43) rfl))) (mvT hZ (hw _ (List.mem_of_getElem? (i := 71) rfl))) (by decide) (backOf (W := 0) (rm12 l Z a0 hw [] ar0 p1 p2 (nn) h0 n0 Z0 A0 hr) hZ (hw _ (List.mem_of_getElem? (i := 71) rfl)) (hw _ (List.mem_of_getElem? (i := 43) rfl)) (by decide) (by decide)) (g := (mkF m 13 #[.val (.ref ar0), .val (.int p1), .val (.int p2)] [(.int p2), (.int p1), (.ref ar0)])) rfl (by rw [hml]; rfl) (argsL := [(.ref ar0), (.int p1), (.int p2)]) (rest := []) (lenOf pd_3 rfl) rfl (by show 2 * 0 + _ ≤ _; exact Nat.le_of_eq rfl) (hb hby d8_13) (fun _ _ => ⟨rfl, e0, (by decide : 0 + 1 ≤ _), (by decide : 0 + 15 ≤ _)⟩)
      dsimp only [Pt.U, Pt.locs, Pt.cells, Pt.slots] at X61 l61 y61 z61 st61 hQ61
      subst l61 y61 z61
      obtain ⟨b_61, rfl, N61q, I61_0, I61_1⟩ := hQ61
      have N61 := Fr.app N0 N61q
      obtain ⟨h61, e61⟩ : ∃ z, T61.heap = z := ⟨_, rfl⟩
      rw [e61] at I61_0
      have ne62 : ar0 ≠ b_61 := Nat.ne_of_lt (Nat.lt_of_lt_of_le A0.lt I61_1)
      have ge63 : n0 ≤ b_61 := Nat.le_trans Z0 I61_1
      have old64 : h0.size ≤ b_61 := Nat.le_trans K0.1 I61_1
      have F65 : own_Arf Z h61 ar0 .byte nn (fun i => (.int ((fun _ => (0 : Int32)) i))) := A0.keep I61_0 nin0
      have F66 : Exa Z h61 ar0 "[B" := E0.keep I61_0
      have K67 : Keep h0 h61 [] := K0.trans I61_0 all0
      have Zs68 : n0 ≤ h61.size := Nat.le_trans Z0 I61_0.1
      have r61 : own_R p.tables e below F0 (T61.setTop (mkF m 16 #[.val (.ref ar0), .val (.int p1), .val (.int p2)] [(.ref b_61)])) := fun tg_ kg_ => r60 tg_ (st61 tg_ kg_)
      refine hG (own_fin X61 hlk (some (.ref b_61)) (own_hv Bd.returns) ?_ (by decide) (by decide) (fun fs hr => r61 _ (retOut X61 hx Bd.returns rfl (Or.inr (Or.inr (Or.inr (Or.inr ⟨rfl, rfl, rfl⟩)))) (hb hby d8_16) hr)))
      rw [e61]
      refine ⟨b_61, ?_, N61, K67, old64⟩
      rfl
  exact key _ _ id (fun t k => castTop (ef_8 m ar0 p1 p2) k)
theorem pn_3 : plainName "com/example/garlicwire/garlicwire/data/DataReader" = true := by first | (simp [plainName, overriddenIn]; done) | decide +kernel
theorem pd_4 : parseMethodDescriptor "(III)I" = some ⟨[.int, .int, .int], some .int⟩ := by decide +kernel
theorem d1_0 : decode prog_17_method_2_code 0 = .ok (.aload_n 0, 1) := by decide +kernel
theorem d1_1 : decode prog_17_method_2_code 1 = .ok (.invokespecial 7, 3) := by decide +kernel
theorem d1_4 : decode prog_17_method_2_code 4 = .ok (.iload_n 2, 1) := by decide +kernel
theorem d1_5 : decode prog_17_method_2_code 5 = .ok (.iload_n 3, 1) := by decide +kernel
theorem d1_6 : decode prog_17_method_2_code 6 = .ok (.aload_n 1, 1) := by decide +kernel
theorem d1_7 : decode prog_17_method_2_code 7 = .ok (.arraylength, 1) := by decide +kernel
theorem d1_8 : decode prog_17_method_2_code 8 = .ok (.invokestatic 12, 3) := by decide +kernel
theorem d1_11 : decode prog_17_method_2_code 11 = .ok (.pop, 1) := by decide +kernel
theorem d1_12 : decode prog_17_method_2_code 12 = .ok (.aload_n 0, 1) := by decide +kernel
theorem d1_13 : decode prog_17_method_2_code 13 = .ok (.aload_n 1, 1) := by decide +kernel
theorem d1_14 : decode prog_17_method_2_code 14 = .ok (.putfield 18, 3) := by decide +kernel
theorem d1_17 : decode prog_17_method_2_code 17 = .ok (.aload_n 0, 1) := by decide +kernel
theorem d1_18 : decode prog_17_method_2_code 18 = .ok (.iload_n 2, 1) := by decide +kernel
theorem d1_19 : decode prog_17_method_2_code 19 = .ok (.putfield 22, 3) := by decide +kernel
theorem d1_22 : decode prog_17_method_2_code 22 = .ok (.aload_n 0, 1) := by decide +kernel
theorem d1_23 : decode prog_17_method_2_code 23 = .ok (.iload_n 2, 1) := by decide +kernel
theorem d1_24 : decode prog_17_method_2_code 24 = .ok (.iload_n 3, 1) := by decide +kernel
theorem d1_25 : decode prog_17_method_2_code 25 = .ok (.iadd, 1) := by decide +kernel
theorem d1_26 : decode prog_17_method_2_code 26 = .ok (.putfield 26, 3) := by decide +kernel
theorem d1_29 : decode prog_17_method_2_code 29 = .ok (.aload_n 0, 1) := by decide +kernel
theorem d1_30 : decode prog_17_method_2_code 30 = .ok (.iload_n 2, 1) := by decide +kernel
theorem d1_31 : decode prog_17_method_2_code 31 = .ok (.putfield 29, 3) := by decide +kernel
theorem d1_34 : decode prog_17_method_2_code 34 = .ok (.return_, 1) := by decide +kernel
theorem ef_1 (m : MethodId) (x0 : Addr) (x1 : Addr) (x2 : Int32) (x3 : Int32) : entryFrame m #[(.ref x0), (.ref x1), (.int x2), (.int x3)] 4 = mkF m 0 #[.val (.ref x0), .val (.ref x1), .val (.int x2), .val (.int x3)] [] := by first | (simp [entryFrame, mkF, argsToLocals, Value.category]; done) | rfl
def Q1 (Z : State) (a1 : Addr) (a2 : Addr) (p3 : Int32) (p4 : Int32) (nn : Nat) (h0 : Heap) (n0 : Nat) (v : Option Value) (h : Heap) (L : List Loc) : Prop := v = none ∧ Fr n0 L ∧ Keep h0 h [a1] ∧ Exa Z h a1 "com/example/garlicwire/garlicwire/data/DataReader" ∧ Fld Z h a1 "com/example/garlicwire/garlicwire/data/DataReader" "data" "[B" (.ref a2) ∧ Fld Z h a1 "com/example/garlicwire/garlicwire/data/DataReader" "start" "I" (.int p3) ∧ Fld Z h a1 "com/example/garlicwire/garlicwire/data/DataReader" "limit" "I" (.int (p3 + p4)) ∧ Fld Z h a1 "com/example/garlicwire/garlicwire/data/DataReader" "position" "I" (.int p3)
set_option maxRecDepth 65536 in
set_option maxHeartbeats 40000000 in
theorem rm1 (l : Launch) (Z : State) (a0 : Array Value) (hw : ∀ d ∈ tables_1, d.before a0 Z = true) (ws : List Jvm.Cond) (a1 : Addr) (a2 : Addr) (p3 : Int32) (p4 : Int32) (nn : Nat) (h0 : Heap) (n0 : Nat) (Z0 : n0 ≤ h0.size) (E1 : Exa Z h0 a1 "com/example/garlicwire/garlicwire/data/DataReader") (P1 : Fld Z h0 a1 "com/example/garlicwire/garlicwire/data/DataReader" "data" "[B" .null) (P2 : Fld Z h0 a1 "com/example/garlicwire/garlicwire/data/DataReader" "start" "I" (.int (0 : Int32))) (P3 : Fld Z h0 a1 "com/example/garlicwire/garlicwire/data/DataReader" "limit" "I" (.int (0 : Int32))) (P4 : Fld Z h0 a1 "com/example/garlicwire/garlicwire/data/DataReader" "position" "I" (.int (0 : Int32))) (ga1 : n0 ≤ a1) (A2 : own_Arf Z h0 a2 .byte nn (fun i => (.int ((fun _ => (0 : Int32)) i)))) (n12 : a2 ≠ a1) (hr : 0 ≤ p3.toInt ∧ 0 ≤ p4.toInt ∧ p3.toInt + p4.toInt ≤ nn ∧ nn ≤ 15) :
    MetFree l (⟨"com/example/garlicwire/garlicwire/data/DataReader", "<init>", "([BII)V"⟩ : MethodName) (head1 (Jvm.Cond.code (⟨"com/example/garlicwire/garlicwire/data/DataReader", "<init>", "([BII)V"⟩ : MethodName) prog_17_method_2_code 4 none :: ws) ({ frames := 2, cells := 0, slots := 0, locals := 29 } : Room)) (fun a U => a = #[(.ref a1), (.ref a2), (.int p3), (.int p4)] ∧ Z.Warmed39 U.vm ∧ U.heap = h0) (fun _ _ _ _ _ => True) (fun _ U o U' => ∃ v L, o = .returned v ∧ Q1 Z a1 a2 p3 p4 nn h0 n0 v U'.heap L ∧ FrameEnd U o U' L ({ frames := 2, cells := 0, slots := 0, locals := 29 } : Room).cells ({ frames := 2, cells := 0, slots := 0, locals := 29 } : Room).slots) := by
  refine MetFree.of_bodySF (plainFor_of_name pn_3) hisR ?_
  intro p e s m args below meth c s₁ Bd hml0 hP hK
  obtain ⟨rfl, hZ, hh⟩ := hP
  have hx := Bd.exec
  have hby := Bd.bytes
  have hml : c.maxLocals = 4 := hml0
  have hown : s.vm.findClass "com/example/garlicwire/garlicwire/data/DataReader" = some m.cls := findClass_of_methodNamed Bd.named
  have hnm := (name_of_methodNamed Bd.named Bd.method).1
  have hlk : meth.locks = false := BodyLoose.notSynchronized Bd
  have X0 : Stand p l e ({ frames := 2, cells := 0, slots := 0, locals := 29 } : Room) s m #[(.ref a1), (.ref a2), (.int p3), (.int p4)] below meth c s₁ [] 0 0 := Stand.of_body Bd
  have e0 : s₁.heap = h0 := by rw [← hh, Bd.state]; rfl
  have N0 := Fr.nil n0
  have K0 : Keep h0 h0 [a1] := Keep.refl h0 _
  have key : ∀ (F0 : State) (G : Prop), (own_G p e below s F0 (Q1 Z a1 a2 p3 p4 nn h0 n0) ({ frames := 2, cells := 0, slots := 0, locals := 29 } : Room).cells ({ frames := 2, cells := 0, slots := 0, locals := 29 } : Room).slots → G) → own_R p.tables e below F0 (s₁.setTop (mkF m 0 #[.val (.ref a1), .val (.ref a2), .val (.int p3), .val (.int p4)] [])) → G := by
    intro F0 G hG r0
    have hN : (Int32.ofNat nn).toInt = nn := Int32.toInt_ofNat_of_lt (by omega)
    have r69 : own_R p.tables e below F0 (s₁.setTop (mkF m 1 #[.val (.ref a1), .val (.ref a2), .val (.int p3), .val (.int p4)] [(.ref a1)])) := fun tg_ kg_ => by
      refine r0 tg_ ?_
      show Steps p.tables e below (s₁.setTop (mkF m 0 #[.val (.ref a1), .val (.ref a2), .val (.int p3), .val (.int p4)] [])) _
      refine XS.aloadN X0.here hx rfl (hb hby d1_0) rfl rfl ?_
      exact kg_
    obtain ⟨T70, X70, e70, st70⟩ := initO X0 hx hZ hown (hw _ (List.mem_of_getElem? (i := 8) rfl)) (hw _ (List.mem_of_getElem? (i := 9) rfl)) (hw _ (List.mem_of_getElem? (i := 10) rfl)) e0 (g := (mkF m 1 #[.val (.ref a1), .val (.ref a2), .val (.int p3), .val (.int p4)] [(.ref a1)])) rfl (by rw [hml]; rfl) rfl (hb hby d1_1) (by decide) (W := 0) (by show 2 * 0 + _ ≤ _; exact Nat.le_of_eq rfl) (by decide)
    have r70 : own_R p.tables e below F0 (T70.setTop (mkF m 4 #[.val (.ref a1), .val (.ref a2), .val (.int p3), .val (.int p4)] [])) := fun tg_ kg_ => r69 tg_ (st70 tg_ kg_)
    have r71 : own_R p.tables e below F0 (T70.setTop (mkF m 8 #[.val (.ref a1), .val (.ref a2), .val (.int p3), .val (.int p4)] [(.int (Int32.ofNat nn)), (.int p4), (.int p3)])) := fun tg_ kg_ => by
      refine r70 tg_ ?_
      show Steps p.tables e below (T70.setTop (mkF m 4 #[.val (.ref a1), .val (.ref a2), .val (.int p3), .val (.int p4)] [])) _
      refine XS.iloadN X70.here hx rfl (hb hby d1_4) rfl ?_
      show Steps p.tables e below (T70.setTop (mkF m 5 #[.val (.ref a1), .val (.ref a2), .val (.int p3), .val (.int p4)] [(.int p3)])) _
      refine XS.iloadN X70.here hx rfl (hb hby d1_5) rfl ?_
      show Steps p.tables e below (T70.setTop (mkF m 6 #[.val (.ref a1), .val (.ref a2), .val (.int p3), .val (.int p4)] [(.int p4), (.int p3)])) _
      refine XS.aloadN X70.here hx rfl (hb hby d1_6) rfl rfl ?_
      show Steps p.tables e below (T70.setTop (mkF m 7 #[.val (.ref a1), .val (.ref a2), .val (.int p3), .val (.int p4)] [(.ref a2), (.int p4), (.int p3)])) _
      refine own_alen X70 hx hZ e70 A2 (Int32.ofNat nn) rfl (g := (mkF m 7 #[.val (.ref a1), .val (.ref a2), .val (.int p3), .val (.int p4)] [(.ref a2), (.int p4), (.int p3)])) rfl rfl (hb hby d1_7) _ ?_
      exact kg_
    obtain ⟨_, _, ⟨T72, L72, k72, n72⟩, -, X72, ⟨Lc72, hQ72, l72, y72, z72⟩, st72⟩ := Jvm.LawKit.callS X70 hx (y := (⟨"java/util/Objects", "checkFromIndexSize", "(III)I"⟩ : MethodName)) hown (mvT hZ (hw _ (List.mem_of_getElem? (i := 11) rfl))) (mvT hZ (hw _ (List.mem_of_getElem? (i := 12) rfl))) (mvT hZ (hw _ (List.mem_of_getElem? (i := 13) rfl))) (mvT hZ (hw _ (List.mem_of_getElem? (i := 14) rfl))) (by decide) (backOf (W := 0) (rm3 l Z a0 hw [] p3 p4 (Int32.ofNat nn) h0 n0 Z0 (by rw [hN]; exact ⟨hr.1, hr.2.1, hr.2.2.1⟩)) hZ (hw _ (List.mem_of_getElem? (i := 14) rfl)) (hw _ (List.mem_of_getElem? (i := 13) rfl)) (by decide) (by decide)) (g := (mkF m 8 #[.val (.ref a1), .val (.ref a2), .val (.int p3), .val (.int p4)] [(.int (Int32.ofNat nn)), (.int p4), (.int p3)])) rfl (by rw [hml]; rfl) (argsL := [(.int p3), (.int p4), (.int (Int32.ofNat nn))]) (rest := []) (lenOf pd_4 rfl) rfl (by show 2 * 0 + _ ≤ _; exact Nat.le_of_eq rfl) (hb hby d1_8) (fun _ _ => ⟨rfl, e70, (by decide : 0 + 0 ≤ _), (by decide : 0 + 0 ≤ _)⟩)
    dsimp only [Pt.U, Pt.locs, Pt.cells, Pt.slots] at X72 l72 y72 z72 st72 hQ72
    subst l72 y72 z72
    obtain ⟨rfl, N72q, I72_0⟩ := hQ72
    have N72 := Fr.app N0 N72q
    have r72 : own_R p.tables e below F0 (T72.setTop (mkF m 11 #[.val (.ref a1), .val (.ref a2), .val (.int p3), .val (.int p4)] [(.int p3)])) := fun tg_ kg_ => r71 tg_ (st72 tg_ kg_)
    have r73 : own_R p.tables e below F0 (T72.setTop (mkF m 14 #[.val (.ref a1), .val (.ref a2), .val (.int p3), .val (.int p4)] [(.ref a2), (.ref a1)])) := fun tg_ kg_ => by
      refine r72 tg_ ?_
      show Steps p.tables e below (T72.setTop (mkF m 11 #[.val (.ref a1), .val (.ref a2), .val (.int p3), .val (.int p4)] [(.int p3)])) _
      refine XS.pop X72.here hx rfl (hb hby d1_11) rfl rfl ?_
      show Steps p.tables e below (T72.setTop (mkF m 12 #[.val (.ref a1), .val (.ref a2), .val (.int p3), .val (.int p4)] [])) _
      refine XS.aloadN X72.here hx rfl (hb hby d1_12) rfl rfl ?_
      show Steps p.tables e below (T72.setTop (mkF m 13 #[.val (.ref a1), .val (.ref a2), .val (.int p3), .val (.int p4)] [(.ref a1)])) _
      refine XS.aloadN X72.here hx rfl (hb hby d1_13) rfl rfl ?_
      exact kg_
    obtain ⟨T74, h74, X74, e74, W74, st74⟩ := putF X72 hx hZ hown (host := "") (Or.inl (hw _ (List.mem_of_getElem? (i := 19) rfl))) Via.refl I72_0 P1 E1 (Or.inr ⟨(hw _ (List.mem_of_getElem? (i := 20) rfl)), rfl, hnm⟩) (hw _ (List.mem_of_getElem? (i := 3) rfl)) (ty := (.array .byte)) (by decide) rfl rfl (g := (mkF m 14 #[.val (.ref a1), .val (.ref a2), .val (.int p3), .val (.int p4)] [(.ref a2), (.ref a1)])) rfl rfl (hb hby d1_14)
    have F75 : Exa Z h74 a1 "com/example/garlicwire/garlicwire/data/DataReader" := E1.wr W74
    have F76 : Fld Z h74 a1 "com/example/garlicwire/garlicwire/data/DataReader" "data" "[B" (.ref a2) := P1.same W74
    have F77 : Fld Z h74 a1 "com/example/garlicwire/garlicwire/data/DataReader" "start" "I" (.int (0 : Int32)) := P2.other W74 (Or.inr (slot_ne (Or.inr (hw _ (List.mem_of_getElem? (i := 22) rfl))) (Or.inr (hw _ (List.mem_of_getElem? (i := 20) rfl))) (by decide) (t := .int) (t' := (.array .byte)) (by decide) (by decide)))
    have F78 : Fld Z h74 a1 "com/example/garlicwire/garlicwire/data/DataReader" "limit" "I" (.int (0 : Int32)) := P3.other W74 (Or.inr (slot_ne (Or.inr (hw _ (List.mem_of_getElem? (i := 24) rfl))) (Or.inr (hw _ (List.mem_of_getElem? (i := 20) rfl))) (by decide) (t := .int) (t' := (.array .byte)) (by decide) (by decide)))
    have F79 : Fld Z h74 a1 "com/example/garlicwire/garlicwire/data/DataReader" "position" "I" (.int (0 : Int32)) := P4.other W74 (Or.inr (slot_ne (Or.inl (hw _ (List.mem_of_getElem? (i := 26) rfl))) (Or.inr (hw _ (List.mem_of_getElem? (i := 20) rfl))) (by decide) (t := .int) (t' := (.array .byte)) (by decide) (by decide)))
    have F80 : own_Arf Z h74 a2 .byte nn (fun i => (.int ((fun _ => (0 : Int32)) i))) := A2.other W74 n12
    have Zs81 : n0 ≤ h74.size := by rw [W74.size]; exact Z0
    have N82 := Fr.snoc X74 N72 ga1
    have K83 : Keep h0 h74 [a1] := K0.wr W74 (Or.inl (List.mem_of_getElem? (i := 0) rfl))
    have r74 : own_R p.tables e below F0 (T74.setTop (mkF m 17 #[.val (.ref a1), .val (.ref a2), .val (.int p3), .val (.int p4)] [])) := fun tg_ kg_ => r73 tg_ (st74 tg_ kg_)
    have r84 : own_R p.tables e below F0 (T74.setTop (mkF m 19 #[.val (.ref a1), .val (.ref a2), .val (.int p3), .val (.int p4)] [(.int p3), (.ref a1)])) := fun tg_ kg_ => by
      refine r74 tg_ ?_
      show Steps p.tables e below (T74.setTop (mkF m 17 #[.val (.ref a1), .val (.ref a2), .val (.int p3), .val (.int p4)] [])) _
      refine XS.aloadN X74.here hx rfl (hb hby d1_17) rfl rfl ?_
      show Steps p.tables e below (T74.setTop (mkF m 18 #[.val (.ref a1), .val (.ref a2), .val (.int p3), .val (.int p4)] [(.ref a1)])) _
      refine XS.iloadN X74.here hx rfl (hb hby d1_18) rfl ?_
      exact kg_
    obtain ⟨T85, h85, X85, e85, W85, st85⟩ := putF X74 hx hZ hown (host := "") (Or.inl (hw _ (List.mem_of_getElem? (i := 21) rfl))) Via.refl e74 F77 F75 (Or.inr ⟨(hw _ (List.mem_of_getElem? (i := 22) rfl)), rfl, hnm⟩) (hw _ (List.mem_of_getElem? (i := 3) rfl)) (ty := .int) (by decide) rfl rfl (g := (mkF m 19 #[.val (.ref a1), .val (.ref a2), .val (.int p3), .val (.int p4)] [(.int p3), (.ref a1)])) rfl rfl (hb hby d1_19)
    have F86 : Exa Z h85 a1 "com/example/garlicwire/garlicwire/data/DataReader" := F75.wr W85
    have F87 : Fld Z h85 a1 "com/example/garlicwire/garlicwire/data/DataReader" "data" "[B" (.ref a2) := F76.other W85 (Or.inr (slot_ne (Or.inr (hw _ (List.mem_of_getElem? (i := 20) rfl))) (Or.inr (hw _ (List.mem_of_getElem? (i := 22) rfl))) (by decide) (t := (.array .byte)) (t' := .int) (by decide) (by decide)))
    have F88 : Fld Z h85 a1 "com/example/garlicwire/garlicwire/data/DataReader" "start" "I" (.int p3) := F77.same W85
    have F89 : Fld Z h85 a1 "com/example/garlicwire/garlicwire/data/DataReader" "limit" "I" (.int (0 : Int32)) := F78.other W85 (Or.inr (slot_ne (Or.inr (hw _ (List.mem_of_getElem? (i := 24) rfl))) (Or.inr (hw _ (List.mem_of_getElem? (i := 22) rfl))) (by decide) (t := .int) (t' := .int) (by decide) (by decide)))
    have F90 : Fld Z h85 a1 "com/example/garlicwire/garlicwire/data/DataReader" "position" "I" (.int (0 : Int32)) := F79.other W85 (Or.inr (slot_ne (Or.inl (hw _ (List.mem_of_getElem? (i := 26) rfl))) (Or.inr (hw _ (List.mem_of_getElem? (i := 22) rfl))) (by decide) (t := .int) (t' := .int) (by decide) (by decide)))
    have F91 : own_Arf Z h85 a2 .byte nn (fun i => (.int ((fun _ => (0 : Int32)) i))) := F80.other W85 n12
    have Zs92 : n0 ≤ h85.size := by rw [W85.size]; exact Zs81
    have N93 := Fr.snoc X85 N82 ga1
    have K94 : Keep h0 h85 [a1] := K83.wr W85 (Or.inl (List.mem_of_getElem? (i := 0) rfl))
    have r85 : own_R p.tables e below F0 (T85.setTop (mkF m 22 #[.val (.ref a1), .val (.ref a2), .val (.int p3), .val (.int p4)] [])) := fun tg_ kg_ => r84 tg_ (st85 tg_ kg_)
    have r95 : own_R p.tables e below F0 (T85.setTop (mkF m 26 #[.val (.ref a1), .val (.ref a2), .val (.int p3), .val (.int p4)] [(.int (p3 + p4)), (.ref a1)])) := fun tg_ kg_ => by
      refine r85 tg_ ?_
      show Steps p.tables e below (T85.setTop (mkF m 22 #[.val (.ref a1), .val (.ref a2), .val (.int p3), .val (.int p4)] [])) _
      refine XS.aloadN X85.here hx rfl (hb hby d1_22) rfl rfl ?_
      show Steps p.tables e below (T85.setTop (mkF m 23 #[.val (.ref a1), .val (.ref a2), .val (.int p3), .val (.int p4)] [(.ref a1)])) _
      refine XS.iloadN X85.here hx rfl (hb hby d1_23) rfl ?_
      show Steps p.tables e below (T85.setTop (mkF m 24 #[.val (.ref a1), .val (.ref a2), .val (.int p3), .val (.int p4)] [(.int p3), (.ref a1)])) _
      refine XS.iloadN X85.here hx rfl (hb hby d1_24) rfl ?_
      show Steps p.tables e below (T85.setTop (mkF m 25 #[.val (.ref a1), .val (.ref a2), .val (.int p3), .val (.int p4)] [(.int p4), (.int p3), (.ref a1)])) _
      refine XS.iadd X85.here hx rfl (hb hby d1_25) rfl ?_
      exact kg_
    obtain ⟨T96, h96, X96, e96, W96, st96⟩ := putF X85 hx hZ hown (host := "") (Or.inl (hw _ (List.mem_of_getElem? (i := 23) rfl))) Via.refl e85 F89 F86 (Or.inr ⟨(hw _ (List.mem_of_getElem? (i := 24) rfl)), rfl, hnm⟩) (hw _ (List.mem_of_getElem? (i := 3) rfl)) (ty := .int) (by decide) rfl rfl (g := (mkF m 26 #[.val (.ref a1), .val (.ref a2), .val (.int p3), .val (.int p4)] [(.int (p3 + p4)), (.ref a1)])) rfl rfl (hb hby d1_26)
    have F97 : Exa Z h96 a1 "com/example/garlicwire/garlicwire/data/DataReader" := F86.wr W96
    have F98 : Fld Z h96 a1 "com/example/garlicwire/garlicwire/data/DataReader" "data" "[B" (.ref a2) := F87.other W96 (Or.inr (slot_ne (Or.inr (hw _ (List.mem_of_getElem? (i := 20) rfl))) (Or.inr (hw _ (List.mem_of_getElem? (i := 24) rfl))) (by decide) (t := (.array .byte)) (t' := .int) (by decide) (by decide)))
    have F99 : Fld Z h96 a1 "com/example/garlicwire/garlicwire/data/DataReader" "start" "I" (.int p3) := F88.other W96 (Or.inr (slot_ne (Or.inr (hw _ (List.mem_of_getElem? (i := 22) rfl))) (Or.inr (hw _ (List.mem_of_getElem? (i := 24) rfl))) (by decide) (t := .int) (t' := .int) (by decide) (by decide)))
    have F100 : Fld Z h96 a1 "com/example/garlicwire/garlicwire/data/DataReader" "limit" "I" (.int (p3 + p4)) := F89.same W96
    have F101 : Fld Z h96 a1 "com/example/garlicwire/garlicwire/data/DataReader" "position" "I" (.int (0 : Int32)) := F90.other W96 (Or.inr (slot_ne (Or.inl (hw _ (List.mem_of_getElem? (i := 26) rfl))) (Or.inr (hw _ (List.mem_of_getElem? (i := 24) rfl))) (by decide) (t := .int) (t' := .int) (by decide) (by decide)))
    have F102 : own_Arf Z h96 a2 .byte nn (fun i => (.int ((fun _ => (0 : Int32)) i))) := F91.other W96 n12
    have Zs103 : n0 ≤ h96.size := by rw [W96.size]; exact Zs92
    have N104 := Fr.snoc X96 N93 ga1
    have K105 : Keep h0 h96 [a1] := K94.wr W96 (Or.inl (List.mem_of_getElem? (i := 0) rfl))
    have r96 : own_R p.tables e below F0 (T96.setTop (mkF m 29 #[.val (.ref a1), .val (.ref a2), .val (.int p3), .val (.int p4)] [])) := fun tg_ kg_ => r95 tg_ (st96 tg_ kg_)
    have r106 : own_R p.tables e below F0 (T96.setTop (mkF m 31 #[.val (.ref a1), .val (.ref a2), .val (.int p3), .val (.int p4)] [(.int p3), (.ref a1)])) := fun tg_ kg_ => by
      refine r96 tg_ ?_
      show Steps p.tables e below (T96.setTop (mkF m 29 #[.val (.ref a1), .val (.ref a2), .val (.int p3), .val (.int p4)] [])) _
      refine XS.aloadN X96.here hx rfl (hb hby d1_29) rfl rfl ?_
      show Steps p.tables e below (T96.setTop (mkF m 30 #[.val (.ref a1), .val (.ref a2), .val (.int p3), .val (.int p4)] [(.ref a1)])) _
      refine XS.iloadN X96.here hx rfl (hb hby d1_30) rfl ?_
      exact kg_
    obtain ⟨T107, h107, X107, e107, W107, st107⟩ := putF X96 hx hZ hown (host := "") (Or.inl (hw _ (List.mem_of_getElem? (i := 25) rfl))) Via.refl e96 F101 F97 (Or.inl (hw _ (List.mem_of_getElem? (i := 26) rfl))) (hw _ (List.mem_of_getElem? (i := 3) rfl)) (ty := .int) (by decide) rfl rfl (g := (mkF m 31 #[.val (.ref a1), .val (.ref a2), .val (.int p3), .val (.int p4)] [(.int p3), (.ref a1)])) rfl rfl (hb hby d1_31)
    have F108 : Exa Z h107 a1 "com/example/garlicwire/garlicwire/data/DataReader" := F97.wr W107
    have F109 : Fld Z h107 a1 "com/example/garlicwire/garlicwire/data/DataReader" "data" "[B" (.ref a2) := F98.other W107 (Or.inr (slot_ne (Or.inr (hw _ (List.mem_of_getElem? (i := 20) rfl))) (Or.inl (hw _ (List.mem_of_getElem? (i := 26) rfl))) (by decide) (t := (.array .byte)) (t' := .int) (by decide) (by decide)))
    have F110 : Fld Z h107 a1 "com/example/garlicwire/garlicwire/data/DataReader" "start" "I" (.int p3) := F99.other W107 (Or.inr (slot_ne (Or.inr (hw _ (List.mem_of_getElem? (i := 22) rfl))) (Or.inl (hw _ (List.mem_of_getElem? (i := 26) rfl))) (by decide) (t := .int) (t' := .int) (by decide) (by decide)))
    have F111 : Fld Z h107 a1 "com/example/garlicwire/garlicwire/data/DataReader" "limit" "I" (.int (p3 + p4)) := F100.other W107 (Or.inr (slot_ne (Or.inr (hw _ (List.mem_of_getElem? (i := 24) rfl))) (Or.inl (hw _ (List.mem_of_getElem? (i := 26) rfl))) (by decide) (t := .int) (t' := .int) (by decide) (by decide)))
    have F112 : Fld Z h107 a1 "com/example/garlicwire/garlicwire/data/DataReader" "position" "I" (.int p3) := F101.same W107
    have F113 : own_Arf Z h107 a2 .byte nn (fun i => (.int ((fun _ => (0 : Int32)) i))) := F102.other W107 n12
    have Zs114 : n0 ≤ h107.size := by rw [W107.size]; exact Zs103
    have N115 := Fr.snoc X107 N104 ga1
    have K116 : Keep h0 h107 [a1] := K105.wr W107 (Or.inl (List.mem_of_getElem? (i := 0) rfl))
    have r107 : own_R p.tables e below F0 (T107.setTop (mkF m 34 #[.val (.ref a1), .val (.ref a2), .val (.int p3), .val (.int p4)] [])) := fun tg_ kg_ => r106 tg_ (st107 tg_ kg_)
    refine hG (own_fin X107 hlk (none) (fun _ => rfl) ?_ (by decide) (by decide) (fun fs hr => r107 _ (X107.returnOut hx Bd.returns (hb hby d1_34) hr)))
    rw [e107]
    refine ⟨?_, N115, K116, F108, F109, F110, F111, F112⟩
    rfl
  exact key _ _ id (fun t k => castTop (ef_1 m a1 a2 p3 p4) k)
theorem d6_0 : decode prog_17_method_18_code 0 = .ok (.iload_n 1, 1) := by decide +kernel
theorem d6_1 : decode prog_17_method_18_code 1 = .ok (.aload_n 0, 1) := by decide +kernel
theorem d6_2 : decode prog_17_method_18_code 2 = .ok (.getfield 26, 3) := by decide +kernel
theorem d6_5 : decode prog_17_method_18_code 5 = .ok (.aload_n 0, 1) := by decide +kernel
theorem d6_6 : decode prog_17_method_18_code 6 = .ok (.getfield 29, 3) := by decide +kernel
theorem d6_9 : decode prog_17_method_18_code 9 = .ok (.isub, 1) := by decide +kernel
theorem d6_10 : decode prog_17_method_18_code 10 = .ok (.if_icmp .le 12, 3) := by decide +kernel
theorem d6_22 : decode prog_17_method_18_code 22 = .ok (.aload_n 0, 1) := by decide +kernel
theorem d6_23 : decode prog_17_method_18_code 23 = .ok (.dup, 1) := by decide +kernel
theorem d6_24 : decode prog_17_method_18_code 24 = .ok (.getfield 29, 3) := by decide +kernel
theorem d6_27 : decode prog_17_method_18_code 27 = .ok (.iload_n 1, 1) := by decide +kernel
theorem d6_28 : decode prog_17_method_18_code 28 = .ok (.iadd, 1) := by decide +kernel
theorem d6_29 : decode prog_17_method_18_code 29 = .ok (.putfield 29, 3) := by decide +kernel
theorem d6_32 : decode prog_17_method_18_code 32 = .ok (.return_, 1) := by decide +kernel
theorem ef_6 (m : MethodId) (x0 : Addr) (x1 : Int32) : entryFrame m #[(.ref x0), (.int x1)] 2 = mkF m 0 #[.val (.ref x0), .val (.int x1)] [] := by first | (simp [entryFrame, mkF, argsToLocals, Value.category]; done) | rfl
def Q6 (Z : State) (a1 : Addr) (p1 : Int32) (wl : Int32) (wp : Int32) (wd : Addr) (wst : Int32) (h0 : Heap) (n0 : Nat) (v : Option Value) (h : Heap) (L : List Loc) : Prop := v = none ∧ Fr n0 L ∧ Keep h0 h [a1] ∧ Exa Z h a1 "com/example/garlicwire/garlicwire/data/DataReader" ∧ Fld Z h a1 "com/example/garlicwire/garlicwire/data/DataReader" "limit" "I" (.int wl) ∧ Fld Z h a1 "com/example/garlicwire/garlicwire/data/DataReader" "position" "I" (.int (wp + p1)) ∧ Fld Z h a1 "com/example/garlicwire/garlicwire/data/DataReader" "data" "[B" (.ref wd) ∧ Fld Z h a1 "com/example/garlicwire/garlicwire/data/DataReader" "start" "I" (.int wst)
set_option maxRecDepth 65536 in
set_option maxHeartbeats 40000000 in
theorem rm6 (l : Launch) (Z : State) (a0 : Array Value) (hw : ∀ d ∈ tables_1, d.before a0 Z = true) (ws : List Jvm.Cond) (a1 : Addr) (p1 : Int32) (wl : Int32) (wp : Int32) (wd : Addr) (wst : Int32) (h0 : Heap) (n0 : Nat) (Z0 : n0 ≤ h0.size) (E1 : Exa Z h0 a1 "com/example/garlicwire/garlicwire/data/DataReader") (ga1 : n0 ≤ a1) (Fd0 : Fld Z h0 a1 "com/example/garlicwire/garlicwire/data/DataReader" "data" "[B" (.ref wd)) (F3 : Fld Z h0 a1 "com/example/garlicwire/garlicwire/data/DataReader" "start" "I" (.int wst)) (F1 : Fld Z h0 a1 "com/example/garlicwire/garlicwire/data/DataReader" "limit" "I" (.int wl)) (F2 : Fld Z h0 a1 "com/example/garlicwire/garlicwire/data/DataReader" "position" "I" (.int wp)) (hr : 0 ≤ wp.toInt ∧ 0 ≤ p1.toInt ∧ wp.toInt + p1.toInt ≤ wl.toInt ∧ wl.toInt ≤ 15) :
    MetFree l (⟨"com/example/garlicwire/garlicwire/data/DataReader", "take", "(I)V"⟩ : MethodName) (head1 (Jvm.Cond.code (⟨"com/example/garlicwire/garlicwire/data/DataReader", "take", "(I)V"⟩ : MethodName) prog_17_method_18_code 2 none :: ws) ({ frames := 0, cells := 0, slots := 0, locals := 0 } : Room)) (fun a U => a = #[(.ref a1), (.int p1)] ∧ Z.Warmed39 U.vm ∧ U.heap = h0) (fun _ _ _ _ _ => True) (fun _ U o U' => ∃ v L, o = .returned v ∧ Q6 Z a1 p1 wl wp wd wst h0 n0 v U'.heap L ∧ FrameEnd U o U' L ({ frames := 0, cells := 0, slots := 0, locals := 0 } : Room).cells ({ frames := 0, cells := 0, slots := 0, locals := 0 } : Room).slots) := by
  refine MetFree.of_bodySF (plainFor_of_name pn_3) hisR ?_
  intro p e s m args below meth c s₁ Bd hml0 hP hK
  obtain ⟨rfl, hZ, hh⟩ := hP
  have hx := Bd.exec
  have hby := Bd.bytes
  have hml : c.maxLocals = 2 := hml0
  have hown : s.vm.findClass "com/example/garlicwire/garlicwire/data/DataReader" = some m.cls := findClass_of_methodNamed Bd.named
  have hnm := (name_of_methodNamed Bd.named Bd.method).1
  have hlk : meth.locks = false := BodyLoose.notSynchronized Bd
  have X0 : Stand p l e ({ frames := 0, cells := 0, slots := 0, locals := 0 } : Room) s m #[(.ref a1), (.int p1)] below meth c s₁ [] 0 0 := Stand.of_body Bd
  have e0 : s₁.heap = h0 := by rw [← hh, Bd.state]; rfl
  have N0 := Fr.nil n0
  have K0 : Keep h0 h0 [a1] := Keep.refl h0 _
  have key : ∀ (F0 : State) (G : Prop), (own_G p e below s F0 (Q6 Z a1 p1 wl wp wd wst h0 n0) ({ frames := 0, cells := 0, slots := 0, locals := 0 } : Room).cells ({ frames := 0, cells := 0, slots := 0, locals := 0 } : Room).slots → G) → own_R p.tables e below F0 (s₁.setTop (mkF m 0 #[.val (.ref a1), .val (.int p1)] [])) → G := by
    intro F0 G hG r0
    have r117 : own_R p.tables e below F0 (s₁.setTop (mkF m 2 #[.val (.ref a1), .val (.int p1)] [(.ref a1), (.int p1)])) := fun tg_ kg_ => by
      refine r0 tg_ ?_
      show Steps p.tables e below (s₁.setTop (mkF m 0 #[.val (.ref a1), .val (.int p1)] [])) _
      refine XS.iloadN X0.here hx rfl (hb hby d6_0) rfl ?_
      show Steps p.tables e below (s₁.setTop (mkF m 1 #[.val (.ref a1), .val (.int p1)] [(.int p1)])) _
      refine XS.aloadN X0.here hx rfl (hb hby d6_1) rfl rfl ?_
      exact kg_
    obtain ⟨T118, X118, e118, st118⟩ := getF X0 hx hZ hown (host := "") (Or.inl (hw _ (List.mem_of_getElem? (i := 23) rfl))) Via.refl e0 F1 (g := (mkF m 2 #[.val (.ref a1), .val (.int p1)] [(.ref a1), (.int p1)])) rfl rfl (hb hby d6_2)
    have r118 : own_R p.tables e below F0 (T118.setTop (mkF m 5 #[.val (.ref a1), .val (.int p1)] [(.int wl), (.int p1)])) := fun tg_ kg_ => r117 tg_ (st118 tg_ kg_)
    have r119 : own_R p.tables e below F0 (T118.setTop (mkF m 6 #[.val (.ref a1), .val (.int p1)] [(.ref a1), (.int wl), (.int p1)])) := fun tg_ kg_ => by
      refine r118 tg_ ?_
      show Steps p.tables e below (T118.setTop (mkF m 5 #[.val (.ref a1), .val (.int p1)] [(.int wl), (.int p1)])) _
      refine XS.aloadN X118.here hx rfl (hb hby d6_5) rfl rfl ?_
      exact kg_
    obtain ⟨T120, X120, e120, st120⟩ := getF X118 hx hZ hown (host := "") (Or.inl (hw _ (List.mem_of_getElem? (i := 25) rfl))) Via.refl e118 F2 (g := (mkF m 6 #[.val (.ref a1), .val (.int p1)] [(.ref a1), (.int wl), (.int p1)])) rfl rfl (hb hby d6_6)
    have r120 : own_R p.tables e below F0 (T120.setTop (mkF m 9 #[.val (.ref a1), .val (.int p1)] [(.int wp), (.int wl), (.int p1)])) := fun tg_ kg_ => r119 tg_ (st120 tg_ kg_)
    have r122 : own_R p.tables e below F0 (T120.setTop (mkF m 10 #[.val (.ref a1), .val (.int p1)] [(.int (wl - wp)), (.int p1)])) := fun tg_ kg_ => by
      refine r120 tg_ ?_
      show Steps p.tables e below (T120.setTop (mkF m 9 #[.val (.ref a1), .val (.int p1)] [(.int wp), (.int wl), (.int p1)])) _
      refine XS.isub X120.here hx rfl (hb hby d6_9) rfl ?_
      exact kg_
    have hc121 : ¬ ((wl - wp) < p1) := (fun q => by
          have q111_r := own_R32 wl
          have q112_r := own_R32 wp
          have q113_r := own_R32 (wl - wp)
          have q114_ := c_isub wl wp
          have q115_r := own_R32 p1
          have := own_lt32 q
          omega)
    have r123 : own_R p.tables e below F0 (T120.setTop (mkF m 24 #[.val (.ref a1), .val (.int p1)] [(.ref a1), (.ref a1)])) := fun tg_ kg_ => by
      refine r122 tg_ ?_
      show Steps p.tables e below (T120.setTop (mkF m 10 #[.val (.ref a1), .val (.int p1)] [(.int (wl - wp)), (.int p1)])) _
      refine XS.icmpYes X120.here hx rfl (pc0 := 10) (pc' := 22) rfl (hb hby d6_10) rfl (flt hc121).2.2.2 (by decide) (by decide) ?_
      show Steps p.tables e below (T120.setTop (mkF m 22 #[.val (.ref a1), .val (.int p1)] [])) _
      refine XS.aloadN X120.here hx rfl (hb hby d6_22) rfl rfl ?_
      show Steps p.tables e below (T120.setTop (mkF m 23 #[.val (.ref a1), .val (.int p1)] [(.ref a1)])) _
      refine XS.dup X120.here hx rfl (hb hby d6_23) rfl rfl ?_
      exact kg_
    obtain ⟨T124, X124, e124, st124⟩ := getF X120 hx hZ hown (host := "") (Or.inl (hw _ (List.mem_of_getElem? (i := 25) rfl))) Via.refl e120 F2 (g := (mkF m 24 #[.val (.ref a1), .val (.int p1)] [(.ref a1), (.ref a1)])) rfl rfl (hb hby d6_24)
    have r124 : own_R p.tables e below F0 (T124.setTop (mkF m 27 #[.val (.ref a1), .val (.int p1)] [(.int wp), (.ref a1)])) := fun tg_ kg_ => r123 tg_ (st124 tg_ kg_)
    have r125 : own_R p.tables e below F0 (T124.setTop (mkF m 29 #[.val (.ref a1), .val (.int p1)] [(.int (wp + p1)), (.ref a1)])) := fun tg_ kg_ => by
      refine r124 tg_ ?_
      show Steps p.tables e below (T124.setTop (mkF m 27 #[.val (.ref a1), .val (.int p1)] [(.int wp), (.ref a1)])) _
      refine XS.iloadN X124.here hx rfl (hb hby d6_27) rfl ?_
      show Steps p.tables e below (T124.setTop (mkF m 28 #[.val (.ref a1), .val (.int p1)] [(.int p1), (.int wp), (.ref a1)])) _
      refine XS.iadd X124.here hx rfl (hb hby d6_28) rfl ?_
      exact kg_
    obtain ⟨T126, h126, X126, e126, W126, st126⟩ := putF X124 hx hZ hown (host := "") (Or.inl (hw _ (List.mem_of_getElem? (i := 25) rfl))) Via.refl e124 F2 E1 (Or.inl (hw _ (List.mem_of_getElem? (i := 26) rfl))) (hw _ (List.mem_of_getElem? (i := 3) rfl)) (ty := .int) (by decide) rfl rfl (g := (mkF m 29 #[.val (.ref a1), .val (.int p1)] [(.int (wp + p1)), (.ref a1)])) rfl rfl (hb hby d6_29)
    have F127 : Exa Z h126 a1 "com/example/garlicwire/garlicwire/data/DataReader" := E1.wr W126
    have F128 : Fld Z h126 a1 "com/example/garlicwire/garlicwire/data/DataReader" "data" "[B" (.ref wd) := Fd0.other W126 (Or.inr (slot_ne (Or.inr (hw _ (List.mem_of_getElem? (i := 20) rfl))) (Or.inl (hw _ (List.mem_of_getElem? (i := 26) rfl))) (by decide) (t := (.array .byte)) (t' := .int) (by decide) (by decide)))
    have F129 : Fld Z h126 a1 "com/example/garlicwire/garlicwire/data/DataReader" "start" "I" (.int wst) := F3.other W126 (Or.inr (slot_ne (Or.inr (hw _ (List.mem_of_getElem? (i := 22) rfl))) (Or.inl (hw _ (List.mem_of_getElem? (i := 26) rfl))) (by decide) (t := .int) (t' := .int) (by decide) (by decide)))
    have F130 : Fld Z h126 a1 "com/example/garlicwire/garlicwire/data/DataReader" "limit" "I" (.int wl) := F1.other W126 (Or.inr (slot_ne (Or.inr (hw _ (List.mem_of_getElem? (i := 24) rfl))) (Or.inl (hw _ (List.mem_of_getElem? (i := 26) rfl))) (by decide) (t := .int) (t' := .int) (by decide) (by decide)))
    have F131 : Fld Z h126 a1 "com/example/garlicwire/garlicwire/data/DataReader" "position" "I" (.int (wp + p1)) := F2.same W126
    have Zs132 : n0 ≤ h126.size := by rw [W126.size]; exact Z0
    have N133 := Fr.snoc X126 N0 ga1
    have K134 : Keep h0 h126 [a1] := K0.wr W126 (Or.inl (List.mem_of_getElem? (i := 0) rfl))
    have r126 : own_R p.tables e below F0 (T126.setTop (mkF m 32 #[.val (.ref a1), .val (.int p1)] [])) := fun tg_ kg_ => r125 tg_ (st126 tg_ kg_)
    refine hG (own_fin X126 hlk (none) (fun _ => rfl) ?_ (by decide) (by decide) (fun fs hr => r126 _ (X126.returnOut hx Bd.returns (hb hby d6_32) hr)))
    rw [e126]
    refine ⟨?_, N133, K134, F127, F130, F131, F128, F129⟩
    rfl
  exact key _ _ id (fun t k => castTop (ef_6 m a1 p1) k)
theorem pd_5 : parseMethodDescriptor "(I)V" = some ⟨[.int], none⟩ := by decide +kernel
theorem d5_0 : decode prog_17_method_9_code 0 = .ok (.aload_n 0, 1) := by decide +kernel
theorem d5_1 : decode prog_17_method_9_code 1 = .ok (.iload_n 1, 1) := by decide +kernel
theorem d5_2 : decode prog_17_method_9_code 2 = .ok (.invokevirtual 65, 3) := by decide +kernel
theorem d5_5 : decode prog_17_method_9_code 5 = .ok (.return_, 1) := by decide +kernel
theorem ef_5 (m : MethodId) (x0 : Addr) (x1 : Int32) : entryFrame m #[(.ref x0), (.int x1)] 2 = mkF m 0 #[.val (.ref x0), .val (.int x1)] [] := by first | (simp [entryFrame, mkF, argsToLocals, Value.category]; done) | rfl
def Q5 (Z : State) (a1 : Addr) (p1 : Int32) (wl : Int32) (wp : Int32) (wd : Addr) (wst : Int32) (h0 : Heap) (n0 : Nat) (v : Option Value) (h : Heap) (L : List Loc) : Prop := v = none ∧ Fr n0 L ∧ Keep h0 h [a1] ∧ Exa Z h a1 "com/example/garlicwire/garlicwire/data/DataReader" ∧ Fld Z h a1 "com/example/garlicwire/garlicwire/data/DataReader" "limit" "I" (.int wl) ∧ Fld Z h a1 "com/example/garlicwire/garlicwire/data/DataReader" "position" "I" (.int (wp + p1)) ∧ Fld Z h a1 "com/example/garlicwire/garlicwire/data/DataReader" "data" "[B" (.ref wd) ∧ Fld Z h a1 "com/example/garlicwire/garlicwire/data/DataReader" "start" "I" (.int wst)
set_option maxRecDepth 65536 in
set_option maxHeartbeats 40000000 in
theorem rm5 (l : Launch) (Z : State) (a0 : Array Value) (hw : ∀ d ∈ tables_1, d.before a0 Z = true) (ws : List Jvm.Cond) (a1 : Addr) (p1 : Int32) (wl : Int32) (wp : Int32) (wd : Addr) (wst : Int32) (h0 : Heap) (n0 : Nat) (Z0 : n0 ≤ h0.size) (E1 : Exa Z h0 a1 "com/example/garlicwire/garlicwire/data/DataReader") (ga1 : n0 ≤ a1) (Fd0 : Fld Z h0 a1 "com/example/garlicwire/garlicwire/data/DataReader" "data" "[B" (.ref wd)) (F3 : Fld Z h0 a1 "com/example/garlicwire/garlicwire/data/DataReader" "start" "I" (.int wst)) (F1 : Fld Z h0 a1 "com/example/garlicwire/garlicwire/data/DataReader" "limit" "I" (.int wl)) (F2 : Fld Z h0 a1 "com/example/garlicwire/garlicwire/data/DataReader" "position" "I" (.int wp)) (hr : 0 ≤ wp.toInt ∧ 0 ≤ p1.toInt ∧ wp.toInt + p1.toInt ≤ wl.toInt ∧ wl.toInt ≤ 15) :
    MetFree l (⟨"com/example/garlicwire/garlicwire/data/DataReader", "skip", "(I)V"⟩ : MethodName) (head1 (Jvm.Cond.code (⟨"com/example/garlicwire/garlicwire/data/DataReader", "skip", "(I)V"⟩ : MethodName) prog_17_method_9_code 2 none :: ws) ({ frames := 1, cells := 0, slots := 0, locals := 13 } : Room)) (fun a U => a = #[(.ref a1), (.int p1)] ∧ Z.Warmed39 U.vm ∧ U.heap = h0) (fun _ _ _ _ _ => True) (fun _ U o U' => ∃ v L, o = .returned v ∧ Q5 Z a1 p1 wl wp wd wst h0 n0 v U'.heap L ∧ FrameEnd U o U' L ({ frames := 1, cells := 0, slots := 0, locals := 13 } : Room).cells ({ frames := 1, cells := 0, slots := 0, locals := 13 } : Room).slots) := by
  refine MetFree.of_bodySF (plainFor_of_name pn_3) hisR ?_
  intro p e s m args below meth c s₁ Bd hml0 hP hK
  obtain ⟨rfl, hZ, hh⟩ := hP
  have hx := Bd.exec
  have hby := Bd.bytes
  have hml : c.maxLocals = 2 := hml0
  have hown : s.vm.findClass "com/example/garlicwire/garlicwire/data/DataReader" = some m.cls := findClass_of_methodNamed Bd.named
  have hnm := (name_of_methodNamed Bd.named Bd.method).1
  have hlk : meth.locks = false := BodyLoose.notSynchronized Bd
  have X0 : Stand p l e ({ frames := 1, cells := 0, slots := 0, locals := 13 } : Room) s m #[(.ref a1), (.int p1)] below meth c s₁ [] 0 0 := Stand.of_body Bd
  have e0 : s₁.heap = h0 := by rw [← hh, Bd.state]; rfl
  have N0 := Fr.nil n0
  have K0 : Keep h0 h0 [a1] := Keep.refl h0 _
  have key : ∀ (F0 : State) (G : Prop), (own_G p e below s F0 (Q5 Z a1 p1 wl wp wd wst h0 n0) ({ frames := 1, cells := 0, slots := 0, locals := 13 } : Room).cells ({ frames := 1, cells := 0, slots := 0, locals := 13 } : Room).slots → G) → own_R p.tables e below F0 (s₁.setTop (mkF m 0 #[.val (.ref a1), .val (.int p1)] [])) → G := by
    intro F0 G hG r0
    have r135 : own_R p.tables e below F0 (s₁.setTop (mkF m 2 #[.val (.ref a1), .val (.int p1)] [(.int p1), (.ref a1)])) := fun tg_ kg_ => by
      refine r0 tg_ ?_
      show Steps p.tables e below (s₁.setTop (mkF m 0 #[.val (.ref a1), .val (.int p1)] [])) _
      refine XS.aloadN X0.here hx rfl (hb hby d5_0) rfl rfl ?_
      show Steps p.tables e below (s₁.setTop (mkF m 1 #[.val (.ref a1), .val (.int p1)] [(.ref a1)])) _
      refine XS.iloadN X0.here hx rfl (hb hby d5_1) rfl ?_
      exact kg_
    obtain ⟨cq136, q136, q136'⟩ := E1.cell
    obtain ⟨_, _, ⟨T136, L136, k136, n136⟩, -, X136, ⟨Lc136, hQ136, l136, y136, z136⟩, st136⟩ := X0.privateBack hx (y := (⟨"com/example/garlicwire/garlicwire/data/DataReader", "take", "(I)V"⟩ : MethodName)) hown (mvT hZ (hw _ (List.mem_of_getElem? (i := 32) rfl))) (mvT hZ (hw _ (List.mem_of_getElem? (i := 33) rfl))) (own_privSel (args := #[]) (mvT hZ (hw _ (List.mem_of_getElem? (i := 3) rfl))) (Cond.privateMethod_at (mvP hZ (hw _ (List.mem_of_getElem? (i := 34) rfl)) (args := #[]))) (mvT hZ (hw _ (List.mem_of_getElem? (i := 33) rfl))) (by decide)) (Cond.privateMethod_at (mvP hZ (hw _ (List.mem_of_getElem? (i := 34) rfl)) (args := #[]))) (mvT hZ (hw _ (List.mem_of_getElem? (i := 35) rfl))) (by decide) (backOf (W := 0) (rm6 l Z a0 hw [] a1 p1 (wl) (wp) (wd) (wst) h0 n0 Z0 E1 ga1 Fd0 F3 F1 F2 hr) hZ (hw _ (List.mem_of_getElem? (i := 35) rfl)) (hw _ (List.mem_of_getElem? (i := 4) rfl)) (by decide) (by decide)) (g := (mkF m 2 #[.val (.ref a1), .val (.int p1)] [(.int p1), (.ref a1)])) rfl (by rw [hml]; rfl) (Steps.refl _) (a := a1) (by rw [e0]; exact q136) q136' (argsL := [(.int p1)]) (rest := []) (lenOf pd_5 rfl) rfl (by show 2 * 0 + _ ≤ _; exact Nat.le_of_eq rfl) (hb hby d5_2) (fun _ _ => ⟨rfl, e0, (by decide : 0 + 0 ≤ _), (by decide : 0 + 0 ≤ _)⟩)
    dsimp only [Pt.U, Pt.locs, Pt.cells, Pt.slots] at X136 l136 y136 z136 st136 hQ136
    subst l136 y136 z136
    obtain ⟨rfl, N136q, I136_0, I136_1, I136_2, I136_3, I136_4, I136_5⟩ := hQ136
    have N136 := Fr.app N0 N136q
    obtain ⟨h136, e136⟩ : ∃ z, T136.heap = z := ⟨_, rfl⟩
    rw [e136] at I136_0 I136_1 I136_2 I136_3 I136_4 I136_5
    have K137 : Keep h0 h136 [a1] := K0.trans I136_0 (allS (Or.inl (List.mem_of_getElem? (i := 0) rfl)) all0)
    have Zs138 : n0 ≤ h136.size := Nat.le_trans Z0 I136_0.1
    have r136 : own_R p.tables e below F0 (T136.setTop (mkF m 5 #[.val (.ref a1), .val (.int p1)] [])) := fun tg_ kg_ => r135 tg_ (st136.trans kg_)
    refine hG (own_fin X136 hlk (none) (fun _ => rfl) ?_ (by decide) (by decide) (fun fs hr => r136 _ (X136.returnOut hx Bd.returns (hb hby d5_5) hr)))
    rw [e136]
    refine ⟨?_, N136, K137, I136_1, I136_2, I136_3, I136_4, I136_5⟩
    rfl
  exact key _ _ id (fun t k => castTop (ef_5 m a1 p1) k)
theorem d7_0 : decode prog_17_method_10_code 0 = .ok (.aload_n 0, 1) := by decide +kernel
theorem d7_1 : decode prog_17_method_10_code 1 = .ok (.getfield 18, 3) := by decide +kernel
theorem d7_4 : decode prog_17_method_10_code 4 = .ok (.aload_n 0, 1) := by decide +kernel
theorem d7_5 : decode prog_17_method_10_code 5 = .ok (.getfield 29, 3) := by decide +kernel
theorem d7_8 : decode prog_17_method_10_code 8 = .ok (.aload_n 0, 1) := by decide +kernel
theorem d7_9 : decode prog_17_method_10_code 9 = .ok (.getfield 26, 3) := by decide +kernel
theorem d7_12 : decode prog_17_method_10_code 12 = .ok (.invokestatic 73, 3) := by decide +kernel
theorem d7_15 : decode prog_17_method_10_code 15 = .ok (.astore_n 1, 1) := by decide +kernel
theorem d7_16 : decode prog_17_method_10_code 16 = .ok (.aload_n 0, 1) := by decide +kernel
theorem d7_17 : decode prog_17_method_10_code 17 = .ok (.aload_n 0, 1) := by decide +kernel
theorem d7_18 : decode prog_17_method_10_code 18 = .ok (.getfield 26, 3) := by decide +kernel
theorem d7_21 : decode prog_17_method_10_code 21 = .ok (.putfield 29, 3) := by decide +kernel
theorem d7_24 : decode prog_17_method_10_code 24 = .ok (.aload_n 1, 1) := by decide +kernel
theorem d7_25 : decode prog_17_method_10_code 25 = .ok (.areturn, 1) := by decide +kernel
theorem ef_7 (m : MethodId) (x0 : Addr) : entryFrame m #[(.ref x0)] 2 = mkF m 0 #[.val (.ref x0), .unset] [] := by first | (simp [entryFrame, mkF, argsToLocals, Value.category]; done) | rfl
def Q7 (Z : State) (a1 : Addr) (wl : Int32) (wp : Int32) (nn : Nat) (wd : Addr) (wst : Int32) (h0 : Heap) (n0 : Nat) (v : Option Value) (h : Heap) (L : List Loc) : Prop := ∃ (b : Addr), v = some (.ref b) ∧ Fr n0 L ∧ Keep h0 h [a1] ∧ Exa Z h a1 "com/example/garlicwire/garlicwire/data/DataReader" ∧ Fld Z h a1 "com/example/garlicwire/garlicwire/data/DataReader" "limit" "I" (.int wl) ∧ Fld Z h a1 "com/example/garlicwire/garlicwire/data/DataReader" "position" "I" (.int wl) ∧ Fld Z h a1 "com/example/garlicwire/garlicwire/data/DataReader" "data" "[B" (.ref wd) ∧ Fld Z h a1 "com/example/garlicwire/garlicwire/data/DataReader" "start" "I" (.int wst)
set_option maxRecDepth 65536 in
set_option maxHeartbeats 40000000 in
theorem rm7 (l : Launch) (Z : State) (a0 : Array Value) (hw : ∀ d ∈ tables_1, d.before a0 Z = true) (ws : List Jvm.Cond) (a1 : Addr) (wl : Int32) (wp : Int32) (nn : Nat) (wd : Addr) (wst : Int32) (h0 : Heap) (n0 : Nat) (Z0 : n0 ≤ h0.size) (E1 : Exa Z h0 a1 "com/example/garlicwire/garlicwire/data/DataReader") (ga1 : n0 ≤ a1) (Fd0 : Fld Z h0 a1 "com/example/garlicwire/garlicwire/data/DataReader" "data" "[B" (.ref wd)) (F3 : Fld Z h0 a1 "com/example/garlicwire/garlicwire/data/DataReader" "start" "I" (.int wst)) (F1 : Fld Z h0 a1 "com/example/garlicwire/garlicwire/data/DataReader" "limit" "I" (.int wl)) (F2 : Fld Z h0 a1 "com/example/garlicwire/garlicwire/data/DataReader" "position" "I" (.int wp)) (A0 : own_Arf Z h0 wd .byte nn (fun i => (.int ((fun _ => (0 : Int32)) i)))) (E0 : Exa Z h0 wd "[B") (n01 : wd ≠ a1) (hr : 0 ≤ wp.toInt ∧ wp.toInt ≤ wl.toInt ∧ wl.toInt ≤ nn ∧ nn ≤ 15) :
    MetFree l (⟨"com/example/garlicwire/garlicwire/data/DataReader", "rest", "()[B"⟩ : MethodName) (head1 (Jvm.Cond.code (⟨"com/example/garlicwire/garlicwire/data/DataReader", "rest", "()[B"⟩ : MethodName) prog_17_method_10_code 2 (some (.array .byte)) :: ws) ({ frames := 3, cells := 1, slots := 15, locals := 48 } : Room)) (fun a U => a = #[(.ref a1)] ∧ Z.Warmed39 U.vm ∧ U.heap = h0) (fun _ _ _ _ _ => True) (fun _ U o U' => ∃ v L, o = .returned v ∧ Q7 Z a1 wl wp nn wd wst h0 n0 v U'.heap L ∧ FrameEnd U o U' L ({ frames := 3, cells := 1, slots := 15, locals := 48 } : Room).cells ({ frames := 3, cells := 1, slots := 15, locals := 48 } : Room).slots) := by
  refine MetFree.of_bodySF (plainFor_of_name pn_3) hisR ?_
  intro p e s m args below meth c s₁ Bd hml0 hP hK
  obtain ⟨rfl, hZ, hh⟩ := hP
  have hx := Bd.exec
  have hby := Bd.bytes
  have hml : c.maxLocals = 2 := hml0
  have hown : s.vm.findClass "com/example/garlicwire/garlicwire/data/DataReader" = some m.cls := findClass_of_methodNamed Bd.named
  have hnm := (name_of_methodNamed Bd.named Bd.method).1
  have hlk : meth.locks = false := BodyLoose.notSynchronized Bd
  have X0 : Stand p l e ({ frames := 3, cells := 1, slots := 15, locals := 48 } : Room) s m #[(.ref a1)] below meth c s₁ [] 0 0 := Stand.of_body Bd
  have e0 : s₁.heap = h0 := by rw [← hh, Bd.state]; rfl
  have N0 := Fr.nil n0
  have K0 : Keep h0 h0 [a1] := Keep.refl h0 _
  have key : ∀ (F0 : State) (G : Prop), (own_G p e below s F0 (Q7 Z a1 wl wp nn wd wst h0 n0) ({ frames := 3, cells := 1, slots := 15, locals := 48 } : Room).cells ({ frames := 3, cells := 1, slots := 15, locals := 48 } : Room).slots → G) → own_R p.tables e below F0 (s₁.setTop (mkF m 0 #[.val (.ref a1), .unset] [])) → G := by
    intro F0 G hG r0
    have r139 : own_R p.tables e below F0 (s₁.setTop (mkF m 1 #[.val (.ref a1), .unset] [(.ref a1)])) := fun tg_ kg_ => by
      refine r0 tg_ ?_
      show Steps p.tables e below (s₁.setTop (mkF m 0 #[.val (.ref a1), .unset] [])) _
      refine XS.aloadN X0.here hx rfl (hb hby d7_0) rfl rfl ?_
      exact kg_
    obtain ⟨T140, X140, e140, st140⟩ := getF X0 hx hZ hown (host := "") (Or.inl (hw _ (List.mem_of_getElem? (i := 19) rfl))) Via.refl e0 Fd0 (g := (mkF m 1 #[.val (.ref a1), .unset] [(.ref a1)])) rfl rfl (hb hby d7_1)
    have r140 : own_R p.tables e below F0 (T140.setTop (mkF m 4 #[.val (.ref a1), .unset] [(.ref wd)])) := fun tg_ kg_ => r139 tg_ (st140 tg_ kg_)
    have r141 : own_R p.tables e below F0 (T140.setTop (mkF m 5 #[.val (.ref a1), .unset] [(.ref a1), (.ref wd)])) := fun tg_ kg_ => by
      refine r140 tg_ ?_
      show Steps p.tables e below (T140.setTop (mkF m 4 #[.val (.ref a1), .unset] [(.ref wd)])) _
      refine XS.aloadN X140.here hx rfl (hb hby d7_4) rfl rfl ?_
      exact kg_
    obtain ⟨T142, X142, e142, st142⟩ := getF X140 hx hZ hown (host := "") (Or.inl (hw _ (List.mem_of_getElem? (i := 25) rfl))) Via.refl e140 F2 (g := (mkF m 5 #[.val (.ref a1), .unset] [(.ref a1), (.ref wd)])) rfl rfl (hb hby d7_5)
    have r142 : own_R p.tables e below F0 (T142.setTop (mkF m 8 #[.val (.ref a1), .unset] [(.int wp), (.ref wd)])) := fun tg_ kg_ => r141 tg_ (st142 tg_ kg_)
    have r143 : own_R p.tables e below F0 (T142.setTop (mkF m 9 #[.val (.ref a1), .unset] [(.ref a1), (.int wp), (.ref wd)])) := fun tg_ kg_ => by
      refine r142 tg_ ?_
      show Steps p.tables e below (T142.setTop (mkF m 8 #[.val (.ref a1), .unset] [(.int wp), (.ref wd)])) _
      refine XS.aloadN X142.here hx rfl (hb hby d7_8) rfl rfl ?_
      exact kg_
    obtain ⟨T144, X144, e144, st144⟩ := getF X142 hx hZ hown (host := "") (Or.inl (hw _ (List.mem_of_getElem? (i := 23) rfl))) Via.refl e142 F1 (g := (mkF m 9 #[.val (.ref a1), .unset] [(.ref a1), (.int wp), (.ref wd)])) rfl rfl (hb hby d7_9)
    have r144 : own_R p.tables e below F0 (T144.setTop (mkF m 12 #[.val (.ref a1), .unset] [(.int wl), (.int wp), (.ref wd)])) := fun tg_ kg_ => r143 tg_ (st144 tg_ kg_)
    obtain ⟨_, _, ⟨T145, L145, k145, n145⟩, -, X145, ⟨Lc145, hQ145, l145, y145, z145⟩, st145⟩ := Jvm.LawKit.callS X144 hx (y := (⟨"java/util/Arrays", "copyOfRange", "([BII)[B"⟩ : MethodName)) hown (mvT hZ (hw _ (List.mem_of_getElem? (i := 41) rfl))) (mvT hZ (hw _ (List.mem_of_getElem? (i := 42) rfl))) (mvT hZ (hw _ (List.mem_of_getElem? (i := 43) rfl))) (mvT hZ (hw _ (List.mem_of_getElem? (i := 44) rfl))) (by decide) (backOf (W := 0) (rm8 l Z a0 hw [] wd wp wl (nn) h0 n0 Z0 A0 E0 hr) hZ (hw _ (List.mem_of_getElem? (i := 44) rfl)) (hw _ (List.mem_of_getElem? (i := 43) rfl)) (by decide) (by decide)) (g := (mkF m 12 #[.val (.ref a1), .unset] [(.int wl), (.int wp), (.ref wd)])) rfl (by rw [hml]; rfl) (argsL := [(.ref wd), (.int wp), (.int wl)]) (rest := []) (lenOf pd_3 rfl) rfl (by show 2 * 0 + _ ≤ _; exact Nat.le_of_eq rfl) (hb hby d7_12) (fun _ _ => ⟨rfl, e144, (by decide : 0 + 1 ≤ _), (by decide : 0 + 15 ≤ _)⟩)
    dsimp only [Pt.U, Pt.locs, Pt.cells, Pt.slots] at X145 l145 y145 z145 st145 hQ145
    subst l145 y145 z145
    obtain ⟨b_145, rfl, N145q, I145_0, I145_1⟩ := hQ145
    have N145 := Fr.app N0 N145q
    obtain ⟨h145, e145⟩ : ∃ z, T145.heap = z := ⟨_, rfl⟩
    rw [e145] at I145_0
    have ne146 : a1 ≠ b_145 := Nat.ne_of_lt (Nat.lt_of_lt_of_le E1.lt I145_1)
    have ne147 : wd ≠ b_145 := Nat.ne_of_lt (Nat.lt_of_lt_of_le A0.lt I145_1)
    have ge148 : n0 ≤ b_145 := Nat.le_trans Z0 I145_1
    have old149 : h0.size ≤ b_145 := Nat.le_trans K0.1 I145_1
    have F150 : Exa Z h145 a1 "com/example/garlicwire/garlicwire/data/DataReader" := E1.keep I145_0
    have F151 : Fld Z h145 a1 "com/example/garlicwire/garlicwire/data/DataReader" "data" "[B" (.ref wd) := Fd0.keep I145_0 nin0
    have F152 : Fld Z h145 a1 "com/example/garlicwire/garlicwire/data/DataReader" "start" "I" (.int wst) := F3.keep I145_0 nin0
    have F153 : Fld Z h145 a1 "com/example/garlicwire/garlicwire/data/DataReader" "limit" "I" (.int wl) := F1.keep I145_0 nin0
    have F154 : Fld Z h145 a1 "com/example/garlicwire/garlicwire/data/DataReader" "position" "I" (.int wp) := F2.keep I145_0 nin0
    have F155 : own_Arf Z h145 wd .byte nn (fun i => (.int ((fun _ => (0 : Int32)) i))) := A0.keep I145_0 nin0
    have F156 : Exa Z h145 wd "[B" := E0.keep I145_0
    have K157 : Keep h0 h145 [a1] := K0.trans I145_0 all0
    have Zs158 : n0 ≤ h145.size := Nat.le_trans Z0 I145_0.1
    have r145 : own_R p.tables e below F0 (T145.setTop (mkF m 15 #[.val (.ref a1), .unset] [(.ref b_145)])) := fun tg_ kg_ => r144 tg_ (st145 tg_ kg_)
    have r159 : own_R p.tables e below F0 (T145.setTop (mkF m 18 #[.val (.ref a1), .val (.ref b_145)] [(.ref a1), (.ref a1)])) := fun tg_ kg_ => by
      refine r145 tg_ ?_
      show Steps p.tables e below (T145.setTop (mkF m 15 #[.val (.ref a1), .unset] [(.ref b_145)])) _
      refine XS.astoreN X145.here hx rfl (hb hby d7_15) rfl rfl (l' := #[.val (.ref a1), .val (.ref b_145)]) rfl ?_
      show Steps p.tables e below (T145.setTop (mkF m 16 #[.val (.ref a1), .val (.ref b_145)] [])) _
      refine XS.aloadN X145.here hx rfl (hb hby d7_16) rfl rfl ?_
      show Steps p.tables e below (T145.setTop (mkF m 17 #[.val (.ref a1), .val (.ref b_145)] [(.ref a1)])) _
      refine XS.aloadN X145.here hx rfl (hb hby d7_17) rfl rfl ?_
      exact kg_
    obtain ⟨T160, X160, e160, st160⟩ := getF X145 hx hZ hown (host := "") (Or.inl (hw _ (List.mem_of_getElem? (i := 23) rfl))) Via.refl e145 F153 (g := (mkF m 18 #[.val (.ref a1), .val (.ref b_145)] [(.ref a1), (.ref a1)])) rfl rfl (hb hby d7_18)
    have r160 : own_R p.tables e below F0 (T160.setTop (mkF m 21 #[.val (.ref a1), .val (.ref b_145)] [(.int wl), (.ref a1)])) := fun tg_ kg_ => r159 tg_ (st160 tg_ kg_)
    obtain ⟨T161, h161, X161, e161, W161, st161⟩ := putF X160 hx hZ hown (host := "") (Or.inl (hw _ (List.mem_of_getElem? (i := 25) rfl))) Via.refl e160 F154 F150 (Or.inl (hw _ (List.mem_of_getElem? (i := 26) rfl))) (hw _ (List.mem_of_getElem? (i := 3) rfl)) (ty := .int) (by decide) rfl rfl (g := (mkF m 21 #[.val (.ref a1), .val (.ref b_145)] [(.int wl), (.ref a1)])) rfl rfl (hb hby d7_21)
    have F162 : Exa Z h161 a1 "com/example/garlicwire/garlicwire/data/DataReader" := F150.wr W161
    have F163 : Fld Z h161 a1 "com/example/garlicwire/garlicwire/data/DataReader" "data" "[B" (.ref wd) := F151.other W161 (Or.inr (slot_ne (Or.inr (hw _ (List.mem_of_getElem? (i := 20) rfl))) (Or.inl (hw _ (List.mem_of_getElem? (i := 26) rfl))) (by decide) (t := (.array .byte)) (t' := .int) (by decide) (by decide)))
    have F164 : Fld Z h161 a1 "com/example/garlicwire/garlicwire/data/DataReader" "start" "I" (.int wst) := F152.other W161 (Or.inr (slot_ne (Or.inr (hw _ (List.mem_of_getElem? (i := 22) rfl))) (Or.inl (hw _ (List.mem_of_getElem? (i := 26) rfl))) (by decide) (t := .int) (t' := .int) (by decide) (by decide)))
    have F165 : Fld Z h161 a1 "com/example/garlicwire/garlicwire/data/DataReader" "limit" "I" (.int wl) := F153.other W161 (Or.inr (slot_ne (Or.inr (hw _ (List.mem_of_getElem? (i := 24) rfl))) (Or.inl (hw _ (List.mem_of_getElem? (i := 26) rfl))) (by decide) (t := .int) (t' := .int) (by decide) (by decide)))
    have F166 : Fld Z h161 a1 "com/example/garlicwire/garlicwire/data/DataReader" "position" "I" (.int wl) := F154.same W161
    have F167 : own_Arf Z h161 wd .byte nn (fun i => (.int ((fun _ => (0 : Int32)) i))) := F155.other W161 n01
    have F168 : Exa Z h161 wd "[B" := F156.wr W161
    have Zs169 : n0 ≤ h161.size := by rw [W161.size]; exact Zs158
    have N170 := Fr.snoc X161 N145 ga1
    have K171 : Keep h0 h161 [a1] := K157.wr W161 (Or.inl (List.mem_of_getElem? (i := 0) rfl))
    have r161 : own_R p.tables e below F0 (T161.setTop (mkF m 24 #[.val (.ref a1), .val (.ref b_145)] [])) := fun tg_ kg_ => r160 tg_ (st161 tg_ kg_)
    have r172 : own_R p.tables e below F0 (T161.setTop (mkF m 25 #[.val (.ref a1), .val (.ref b_145)] [(.ref b_145)])) := fun tg_ kg_ => by
      refine r161 tg_ ?_
      show Steps p.tables e below (T161.setTop (mkF m 24 #[.val (.ref a1), .val (.ref b_145)] [])) _
      refine XS.aloadN X161.here hx rfl (hb hby d7_24) rfl rfl ?_
      exact kg_
    refine hG (own_fin X161 hlk (some (.ref b_145)) (own_hv Bd.returns) ?_ (by decide) (by decide) (fun fs hr => r172 _ (retOut X161 hx Bd.returns rfl (Or.inr (Or.inr (Or.inr (Or.inr ⟨rfl, rfl, rfl⟩)))) (hb hby d7_25) hr)))
    rw [e161]
    refine ⟨b_145, ?_, N170, K171, F162, F165, F166, F163, F164⟩
    rfl
  exact key _ _ id (fun t k => castTop (ef_7 m a1) k)
theorem d11_0 : decode prog_17_method_6_code 0 = .ok (.aload_n 0, 1) := by decide +kernel
theorem d11_1 : decode prog_17_method_6_code 1 = .ok (.iload_n 1, 1) := by decide +kernel
theorem d11_2 : decode prog_17_method_6_code 2 = .ok (.invokevirtual 65, 3) := by decide +kernel
theorem d11_5 : decode prog_17_method_6_code 5 = .ok (.aload_n 0, 1) := by decide +kernel
theorem d11_6 : decode prog_17_method_6_code 6 = .ok (.getfield 18, 3) := by decide +kernel
theorem d11_9 : decode prog_17_method_6_code 9 = .ok (.aload_n 0, 1) := by decide +kernel
theorem d11_10 : decode prog_17_method_6_code 10 = .ok (.getfield 29, 3) := by decide +kernel
theorem d11_13 : decode prog_17_method_6_code 13 = .ok (.iload_n 1, 1) := by decide +kernel
theorem d11_14 : decode prog_17_method_6_code 14 = .ok (.isub, 1) := by decide +kernel
theorem d11_15 : decode prog_17_method_6_code 15 = .ok (.aload_n 0, 1) := by decide +kernel
theorem d11_16 : decode prog_17_method_6_code 16 = .ok (.getfield 29, 3) := by decide +kernel
theorem d11_19 : decode prog_17_method_6_code 19 = .ok (.invokestatic 73, 3) := by decide +kernel
theorem d11_22 : decode prog_17_method_6_code 22 = .ok (.areturn, 1) := by decide +kernel
theorem ef_11 (m : MethodId) (x0 : Addr) (x1 : Int32) : entryFrame m #[(.ref x0), (.int x1)] 2 = mkF m 0 #[.val (.ref x0), .val (.int x1)] [] := by first | (simp [entryFrame, mkF, argsToLocals, Value.category]; done) | rfl
def Q11 (Z : State) (a1 : Addr) (p1 : Int32) (wl : Int32) (wp : Int32) (nn : Nat) (wd : Addr) (wst : Int32) (h0 : Heap) (n0 : Nat) (v : Option Value) (h : Heap) (L : List Loc) : Prop := ∃ (b : Addr), v = some (.ref b) ∧ Fr n0 L ∧ Keep h0 h [a1] ∧ Exa Z h a1 "com/example/garlicwire/garlicwire/data/DataReader" ∧ Fld Z h a1 "com/example/garlicwire/garlicwire/data/DataReader" "limit" "I" (.int wl) ∧ Fld Z h a1 "com/example/garlicwire/garlicwire/data/DataReader" "position" "I" (.int (wp + p1)) ∧ Fld Z h a1 "com/example/garlicwire/garlicwire/data/DataReader" "data" "[B" (.ref wd) ∧ Fld Z h a1 "com/example/garlicwire/garlicwire/data/DataReader" "start" "I" (.int wst)
set_option maxRecDepth 65536 in
set_option maxHeartbeats 40000000 in
theorem rm11 (l : Launch) (Z : State) (a0 : Array Value) (hw : ∀ d ∈ tables_1, d.before a0 Z = true) (ws : List Jvm.Cond) (a1 : Addr) (p1 : Int32) (wl : Int32) (wp : Int32) (nn : Nat) (wd : Addr) (wst : Int32) (h0 : Heap) (n0 : Nat) (Z0 : n0 ≤ h0.size) (E1 : Exa Z h0 a1 "com/example/garlicwire/garlicwire/data/DataReader") (ga1 : n0 ≤ a1) (Fd0 : Fld Z h0 a1 "com/example/garlicwire/garlicwire/data/DataReader" "data" "[B" (.ref wd)) (F3 : Fld Z h0 a1 "com/example/garlicwire/garlicwire/data/DataReader" "start" "I" (.int wst)) (F1 : Fld Z h0 a1 "com/example/garlicwire/garlicwire/data/DataReader" "limit" "I" (.int wl)) (F2 : Fld Z h0 a1 "com/example/garlicwire/garlicwire/data/DataReader" "position" "I" (.int wp)) (A0 : own_Arf Z h0 wd .byte nn (fun i => (.int ((fun _ => (0 : Int32)) i)))) (E0 : Exa Z h0 wd "[B") (n01 : wd ≠ a1) (hr : 0 ≤ wp.toInt ∧ 0 ≤ p1.toInt ∧ wp.toInt + p1.toInt ≤ wl.toInt ∧ wl.toInt ≤ nn ∧ nn ≤ 15) :
    MetFree l (⟨"com/example/garlicwire/garlicwire/data/DataReader", "bytes", "(I)[B"⟩ : MethodName) (head1 (Jvm.Cond.code (⟨"com/example/garlicwire/garlicwire/data/DataReader", "bytes", "(I)[B"⟩ : MethodName) prog_17_method_6_code 2 (some (.array .byte)) :: ws) ({ frames := 3, cells := 1, slots := 15, locals := 48 } : Room)) (fun a U => a = #[(.ref a1), (.int p1)] ∧ Z.Warmed39 U.vm ∧ U.heap = h0) (fun _ _ _ _ _ => True) (fun _ U o U' => ∃ v L, o = .returned v ∧ Q11 Z a1 p1 wl wp nn wd wst h0 n0 v U'.heap L ∧ FrameEnd U o U' L ({ frames := 3, cells := 1, slots := 15, locals := 48 } : Room).cells ({ frames := 3, cells := 1, slots := 15, locals := 48 } : Room).slots) := by
  refine MetFree.of_bodySF (plainFor_of_name pn_3) hisR ?_
  intro p e s m args below meth c s₁ Bd hml0 hP hK
  obtain ⟨rfl, hZ, hh⟩ := hP
  have hx := Bd.exec
  have hby := Bd.bytes
  have hml : c.maxLocals = 2 := hml0
  have hown : s.vm.findClass "com/example/garlicwire/garlicwire/data/DataReader" = some m.cls := findClass_of_methodNamed Bd.named
  have hnm := (name_of_methodNamed Bd.named Bd.method).1
  have hlk : meth.locks = false := BodyLoose.notSynchronized Bd
  have X0 : Stand p l e ({ frames := 3, cells := 1, slots := 15, locals := 48 } : Room) s m #[(.ref a1), (.int p1)] below meth c s₁ [] 0 0 := Stand.of_body Bd
  have e0 : s₁.heap = h0 := by rw [← hh, Bd.state]; rfl
  have N0 := Fr.nil n0
  have K0 : Keep h0 h0 [a1] := Keep.refl h0 _
  have key : ∀ (F0 : State) (G : Prop), (own_G p e below s F0 (Q11 Z a1 p1 wl wp nn wd wst h0 n0) ({ frames := 3, cells := 1, slots := 15, locals := 48 } : Room).cells ({ frames := 3, cells := 1, slots := 15, locals := 48 } : Room).slots → G) → own_R p.tables e below F0 (s₁.setTop (mkF m 0 #[.val (.ref a1), .val (.int p1)] [])) → G := by
    intro F0 G hG r0
    have r173 : own_R p.tables e below F0 (s₁.setTop (mkF m 2 #[.val (.ref a1), .val (.int p1)] [(.int p1), (.ref a1)])) := fun tg_ kg_ => by
      refine r0 tg_ ?_
      show Steps p.tables e below (s₁.setTop (mkF m 0 #[.val (.ref a1), .val (.int p1)] [])) _
      refine XS.aloadN X0.here hx rfl (hb hby d11_0) rfl rfl ?_
      show Steps p.tables e below (s₁.setTop (mkF m 1 #[.val (.ref a1), .val (.int p1)] [(.ref a1)])) _
      refine XS.iloadN X0.here hx rfl (hb hby d11_1) rfl ?_
      exact kg_
    obtain ⟨cq174, q174, q174'⟩ := E1.cell
    obtain ⟨_, _, ⟨T174, L174, k174, n174⟩, -, X174, ⟨Lc174, hQ174, l174, y174, z174⟩, st174⟩ := X0.privateBack hx (y := (⟨"com/example/garlicwire/garlicwire/data/DataReader", "take", "(I)V"⟩ : MethodName)) hown (mvT hZ (hw _ (List.mem_of_getElem? (i := 32) rfl))) (mvT hZ (hw _ (List.mem_of_getElem? (i := 33) rfl))) (own_privSel (args := #[]) (mvT hZ (hw _ (List.mem_of_getElem? (i := 3) rfl))) (Cond.privateMethod_at (mvP hZ (hw _ (List.mem_of_getElem? (i := 34) rfl)) (args := #[]))) (mvT hZ (hw _ (List.mem_of_getElem? (i := 33) rfl))) (by decide)) (Cond.privateMethod_at (mvP hZ (hw _ (List.mem_of_getElem? (i := 34) rfl)) (args := #[]))) (mvT hZ (hw _ (List.mem_of_getElem? (i := 35) rfl))) (by decide) (backOf (W := 0) (rm6 l Z a0 hw [] a1 p1 (wl) (wp) (wd) (wst) h0 n0 Z0 E1 ga1 Fd0 F3 F1 F2 ⟨hr.1, hr.2.1, hr.2.2.1, by omega⟩) hZ (hw _ (List.mem_of_getElem? (i := 35) rfl)) (hw _ (List.mem_of_getElem? (i := 4) rfl)) (by decide) (by decide)) (g := (mkF m 2 #[.val (.ref a1), .val (.int p1)] [(.int p1), (.ref a1)])) rfl (by rw [hml]; rfl) (Steps.refl _) (a := a1) (by rw [e0]; exact q174) q174' (argsL := [(.int p1)]) (rest := []) (lenOf pd_5 rfl) rfl (by show 2 * 0 + _ ≤ _; exact Nat.le_of_eq rfl) (hb hby d11_2) (fun _ _ => ⟨rfl, e0, (by decide : 0 + 0 ≤ _), (by decide : 0 + 0 ≤ _)⟩)
    dsimp only [Pt.U, Pt.locs, Pt.cells, Pt.slots] at X174 l174 y174 z174 st174 hQ174
    subst l174 y174 z174
    obtain ⟨rfl, N174q, I174_0, I174_1, I174_2, I174_3, I174_4, I174_5⟩ := hQ174
    have N174 := Fr.app N0 N174q
    obtain ⟨h174, e174⟩ : ∃ z, T174.heap = z := ⟨_, rfl⟩
    rw [e174] at I174_0 I174_1 I174_2 I174_3 I174_4 I174_5
    have F175 : own_Arf Z h174 wd .byte nn (fun i => (.int ((fun _ => (0 : Int32)) i))) := A0.keep I174_0 (ninS n01 nin0)
    have F176 : Exa Z h174 wd "[B" := E0.keep I174_0
    have K177 : Keep h0 h174 [a1] := K0.trans I174_0 (allS (Or.inl (List.mem_of_getElem? (i := 0) rfl)) all0)
    have Zs178 : n0 ≤ h174.size := Nat.le_trans Z0 I174_0.1
    have r174 : own_R p.tables e below F0 (T174.setTop (mkF m 5 #[.val (.ref a1), .val (.int p1)] [])) := fun tg_ kg_ => r173 tg_ (st174.trans kg_)
    have r179 : own_R p.tables e below F0 (T174.setTop (mkF m 6 #[.val (.ref a1), .val (.int p1)] [(.ref a1)])) := fun tg_ kg_ => by
      refine r174 tg_ ?_
      show Steps p.tables e below (T174.setTop (mkF m 5 #[.val (.ref a1), .val (.int p1)] [])) _
      refine XS.aloadN X174.here hx rfl (hb hby d11_5) rfl rfl ?_
      exact kg_
    obtain ⟨T180, X180, e180, st180⟩ := getF X174 hx hZ hown (host := "") (Or.inl (hw _ (List.mem_of_getElem? (i := 19) rfl))) Via.refl e174 I174_4 (g := (mkF m 6 #[.val (.ref a1), .val (.int p1)] [(.ref a1)])) rfl rfl (hb hby d11_6)
    have r180 : own_R p.tables e below F0 (T180.setTop (mkF m 9 #[.val (.ref a1), .val (.int p1)] [(.ref wd)])) := fun tg_ kg_ => r179 tg_ (st180 tg_ kg_)
    have r181 : own_R p.tables e below F0 (T180.setTop (mkF m 10 #[.val (.ref a1), .val (.int p1)] [(.ref a1), (.ref wd)])) := fun tg_ kg_ => by
      refine r180 tg_ ?_
      show Steps p.tables e below (T180.setTop (mkF m 9 #[.val (.ref a1), .val (.int p1)] [(.ref wd)])) _
      refine XS.aloadN X180.here hx rfl (hb hby d11_9) rfl rfl ?_
      exact kg_
    obtain ⟨T182, X182, e182, st182⟩ := getF X180 hx hZ hown (host := "") (Or.inl (hw _ (List.mem_of_getElem? (i := 25) rfl))) Via.refl e180 I174_3 (g := (mkF m 10 #[.val (.ref a1), .val (.int p1)] [(.ref a1), (.ref wd)])) rfl rfl (hb hby d11_10)
    have r182 : own_R p.tables e below F0 (T182.setTop (mkF m 13 #[.val (.ref a1), .val (.int p1)] [(.int (wp + p1)), (.ref wd)])) := fun tg_ kg_ => r181 tg_ (st182 tg_ kg_)
    have r183 : own_R p.tables e below F0 (T182.setTop (mkF m 16 #[.val (.ref a1), .val (.int p1)] [(.ref a1), (.int ((wp + p1) - p1)), (.ref wd)])) := fun tg_ kg_ => by
      refine r182 tg_ ?_
      show Steps p.tables e below (T182.setTop (mkF m 13 #[.val (.ref a1), .val (.int p1)] [(.int (wp + p1)), (.ref wd)])) _
      refine XS.iloadN X182.here hx rfl (hb hby d11_13) rfl ?_
      show Steps p.tables e below (T182.setTop (mkF m 14 #[.val (.ref a1), .val (.int p1)] [(.int p1), (.int (wp + p1)), (.ref wd)])) _
      refine XS.isub X182.here hx rfl (hb hby d11_14) rfl ?_
      show Steps p.tables e below (T182.setTop (mkF m 15 #[.val (.ref a1), .val (.int p1)] [(.int ((wp + p1) - p1)), (.ref wd)])) _
      refine XS.aloadN X182.here hx rfl (hb hby d11_15) rfl rfl ?_
      exact kg_
    obtain ⟨T184, X184, e184, st184⟩ := getF X182 hx hZ hown (host := "") (Or.inl (hw _ (List.mem_of_getElem? (i := 25) rfl))) Via.refl e182 I174_3 (g := (mkF m 16 #[.val (.ref a1), .val (.int p1)] [(.ref a1), (.int ((wp + p1) - p1)), (.ref wd)])) rfl rfl (hb hby d11_16)
    have r184 : own_R p.tables e below F0 (T184.setTop (mkF m 19 #[.val (.ref a1), .val (.int p1)] [(.int (wp + p1)), (.int ((wp + p1) - p1)), (.ref wd)])) := fun tg_ kg_ => r183 tg_ (st184 tg_ kg_)
    obtain ⟨_, _, ⟨T185, L185, k185, n185⟩, -, X185, ⟨Lc185, hQ185, l185, y185, z185⟩, st185⟩ := Jvm.LawKit.callS X184 hx (y := (⟨"java/util/Arrays", "copyOfRange", "([BII)[B"⟩ : MethodName)) hown (mvT hZ (hw _ (List.mem_of_getElem? (i := 41) rfl))) (mvT hZ (hw _ (List.mem_of_getElem? (i := 42) rfl))) (mvT hZ (hw _ (List.mem_of_getElem? (i := 43) rfl))) (mvT hZ (hw _ (List.mem_of_getElem? (i := 44) rfl))) (by decide) (backOf (W := 0) (rm8 l Z a0 hw [] wd ((wp + p1) - p1) (wp + p1) (nn) h174 n0 Zs178 F175 F176 (by
          have q1 := c_iadd wp p1
          have q2 := rng32 (wp + p1)
          have q3 := c_isub (wp + p1) p1
          have q4 := rng32 ((wp + p1) - p1)
          omega)) hZ (hw _ (List.mem_of_getElem? (i := 44) rfl)) (hw _ (List.mem_of_getElem? (i := 43) rfl)) (by decide) (by decide)) (g := (mkF m 19 #[.val (.ref a1), .val (.int p1)] [(.int (wp + p1)), (.int ((wp + p1) - p1)), (.ref wd)])) rfl (by rw [hml]; rfl) (argsL := [(.ref wd), (.int ((wp + p1) - p1)), (.int (wp + p1))]) (rest := []) (lenOf pd_3 rfl) rfl (by show 2 * 0 + _ ≤ _; exact Nat.le_of_eq rfl) (hb hby d11_19) (fun _ _ => ⟨rfl, e184, (by decide : 0 + 1 ≤ _), (by decide : 0 + 15 ≤ _)⟩)
    dsimp only [Pt.U, Pt.locs, Pt.cells, Pt.slots] at X185 l185 y185 z185 st185 hQ185
    subst l185 y185 z185
    obtain ⟨b_185, rfl, N185q, I185_0, I185_1⟩ := hQ185
    have N185 := Fr.app N174 N185q
    obtain ⟨h185, e185⟩ : ∃ z, T185.heap = z := ⟨_, rfl⟩
    rw [e185] at I185_0
    have ne186 : wd ≠ b_185 := Nat.ne_of_lt (Nat.lt_of_lt_of_le F175.lt I185_1)
    have ne187 : a1 ≠ b_185 := Nat.ne_of_lt (Nat.lt_of_lt_of_le I174_1.lt I185_1)
    have ge188 : n0 ≤ b_185 := Nat.le_trans Zs178 I185_1
    have old189 : h0.size ≤ b_185 := Nat.le_trans K177.1 I185_1
    have F190 : own_Arf Z h185 wd .byte nn (fun i => (.int ((fun _ => (0 : Int32)) i))) := F175.keep I185_0 nin0
    have F191 : Exa Z h185 wd "[B" := F176.keep I185_0
    have F192 : Exa Z h185 a1 "com/example/garlicwire/garlicwire/data/DataReader" := I174_1.keep I185_0
    have F193 : Fld Z h185 a1 "com/example/garlicwire/garlicwire/data/DataReader" "limit" "I" (.int wl) := I174_2.keep I185_0 nin0
    have F194 : Fld Z h185 a1 "com/example/garlicwire/garlicwire/data/DataReader" "position" "I" (.int (wp + p1)) := I174_3.keep I185_0 nin0
    have F195 : Fld Z h185 a1 "com/example/garlicwire/garlicwire/data/DataReader" "data" "[B" (.ref wd) := I174_4.keep I185_0 nin0
    have F196 : Fld Z h185 a1 "com/example/garlicwire/garlicwire/data/DataReader" "start" "I" (.int wst) := I174_5.keep I185_0 nin0
    have K197 : Keep h0 h185 [a1] := K177.trans I185_0 all0
    have Zs198 : n0 ≤ h185.size := Nat.le_trans Zs178 I185_0.1
    have r185 : own_R p.tables e below F0 (T185.setTop (mkF m 22 #[.val (.ref a1), .val (.int p1)] [(.ref b_185)])) := fun tg_ kg_ => r184 tg_ (st185 tg_ kg_)
    refine hG (own_fin X185 hlk (some (.ref b_185)) (own_hv Bd.returns) ?_ (by decide) (by decide) (fun fs hr => r185 _ (retOut X185 hx Bd.returns rfl (Or.inr (Or.inr (Or.inr (Or.inr ⟨rfl, rfl, rfl⟩)))) (hb hby d11_22) hr)))
    rw [e185]
    refine ⟨b_185, ?_, N185, K197, F192, F193, F194, F195, F196⟩
    rfl
  exact key _ _ id (fun t k => castTop (ef_11 m a1 p1) k)
theorem d9_0 : decode prog_17_method_16_code 0 = .ok (.aload_n 0, 1) := by decide +kernel
theorem d9_1 : decode prog_17_method_16_code 1 = .ok (.getfield 29, 3) := by decide +kernel
theorem d9_4 : decode prog_17_method_16_code 4 = .ok (.aload_n 0, 1) := by decide +kernel
theorem d9_5 : decode prog_17_method_16_code 5 = .ok (.getfield 26, 3) := by decide +kernel
theorem d9_8 : decode prog_17_method_16_code 8 = .ok (.if_icmp .eq 25, 3) := by decide +kernel
theorem d9_33 : decode prog_17_method_16_code 33 = .ok (.return_, 1) := by decide +kernel
theorem ef_9 (m : MethodId) (x0 : Addr) : entryFrame m #[(.ref x0)] 1 = mkF m 0 #[.val (.ref x0)] [] := by first | (simp [entryFrame, mkF, argsToLocals, Value.category]; done) | rfl
def Q9 (Z : State) (a1 : Addr) (wl : Int32) (wp : Int32) (h0 : Heap) (n0 : Nat) (v : Option Value) (h : Heap) (L : List Loc) : Prop := v = none ∧ Fr n0 L ∧ h = h0
set_option maxRecDepth 65536 in
set_option maxHeartbeats 40000000 in
theorem rm9 (l : Launch) (Z : State) (a0 : Array Value) (hw : ∀ d ∈ tables_1, d.before a0 Z = true) (ws : List Jvm.Cond) (a1 : Addr) (wl : Int32) (wp : Int32) (h0 : Heap) (n0 : Nat) (Z0 : n0 ≤ h0.size) (F1 : Fld Z h0 a1 "com/example/garlicwire/garlicwire/data/DataReader" "limit" "I" (.int wl)) (F2 : Fld Z h0 a1 "com/example/garlicwire/garlicwire/data/DataReader" "position" "I" (.int wp)) (hr : wp = wl) :
    MetFree l (⟨"com/example/garlicwire/garlicwire/data/DataReader", "end", "()V"⟩ : MethodName) (head1 (Jvm.Cond.code (⟨"com/example/garlicwire/garlicwire/data/DataReader", "end", "()V"⟩ : MethodName) prog_17_method_16_code 1 none :: ws) ({ frames := 0, cells := 0, slots := 0, locals := 0 } : Room)) (fun a U => a = #[(.ref a1)] ∧ Z.Warmed39 U.vm ∧ U.heap = h0) (fun _ _ _ _ _ => True) (fun _ U o U' => ∃ v L, o = .returned v ∧ Q9 Z a1 wl wp h0 n0 v U'.heap L ∧ FrameEnd U o U' L ({ frames := 0, cells := 0, slots := 0, locals := 0 } : Room).cells ({ frames := 0, cells := 0, slots := 0, locals := 0 } : Room).slots) := by
  refine MetFree.of_bodySF (plainFor_of_name pn_3) hisR ?_
  intro p e s m args below meth c s₁ Bd hml0 hP hK
  obtain ⟨rfl, hZ, hh⟩ := hP
  have hx := Bd.exec
  have hby := Bd.bytes
  have hml : c.maxLocals = 1 := hml0
  have hown : s.vm.findClass "com/example/garlicwire/garlicwire/data/DataReader" = some m.cls := findClass_of_methodNamed Bd.named
  have hnm := (name_of_methodNamed Bd.named Bd.method).1
  have hlk : meth.locks = false := BodyLoose.notSynchronized Bd
  have X0 : Stand p l e ({ frames := 0, cells := 0, slots := 0, locals := 0 } : Room) s m #[(.ref a1)] below meth c s₁ [] 0 0 := Stand.of_body Bd
  have e0 : s₁.heap = h0 := by rw [← hh, Bd.state]; rfl
  have N0 := Fr.nil n0
  have K0 : Keep h0 h0 [] := Keep.refl h0 _
  have key : ∀ (F0 : State) (G : Prop), (own_G p e below s F0 (Q9 Z a1 wl wp h0 n0) ({ frames := 0, cells := 0, slots := 0, locals := 0 } : Room).cells ({ frames := 0, cells := 0, slots := 0, locals := 0 } : Room).slots → G) → own_R p.tables e below F0 (s₁.setTop (mkF m 0 #[.val (.ref a1)] [])) → G := by
    intro F0 G hG r0
    have r199 : own_R p.tables e below F0 (s₁.setTop (mkF m 1 #[.val (.ref a1)] [(.ref a1)])) := fun tg_ kg_ => by
      refine r0 tg_ ?_
      show Steps p.tables e below (s₁.setTop (mkF m 0 #[.val (.ref a1)] [])) _
      refine XS.aloadN X0.here hx rfl (hb hby d9_0) rfl rfl ?_
      exact kg_
    obtain ⟨T200, X200, e200, st200⟩ := getF X0 hx hZ hown (host := "") (Or.inl (hw _ (List.mem_of_getElem? (i := 25) rfl))) Via.refl e0 F2 (g := (mkF m 1 #[.val (.ref a1)] [(.ref a1)])) rfl rfl (hb hby d9_1)
    have r200 : own_R p.tables e below F0 (T200.setTop (mkF m 4 #[.val (.ref a1)] [(.int wp)])) := fun tg_ kg_ => r199 tg_ (st200 tg_ kg_)
    have r201 : own_R p.tables e below F0 (T200.setTop (mkF m 5 #[.val (.ref a1)] [(.ref a1), (.int wp)])) := fun tg_ kg_ => by
      refine r200 tg_ ?_
      show Steps p.tables e below (T200.setTop (mkF m 4 #[.val (.ref a1)] [(.int wp)])) _
      refine XS.aloadN X200.here hx rfl (hb hby d9_4) rfl rfl ?_
      exact kg_
    obtain ⟨T202, X202, e202, st202⟩ := getF X200 hx hZ hown (host := "") (Or.inl (hw _ (List.mem_of_getElem? (i := 23) rfl))) Via.refl e200 F1 (g := (mkF m 5 #[.val (.ref a1)] [(.ref a1), (.int wp)])) rfl rfl (hb hby d9_5)
    have r202 : own_R p.tables e below F0 (T202.setTop (mkF m 8 #[.val (.ref a1)] [(.int wl), (.int wp)])) := fun tg_ kg_ => r201 tg_ (st202 tg_ kg_)
    have hc203 : wp = wl := hr
    have r204 : own_R p.tables e below F0 (T202.setTop (mkF m 33 #[.val (.ref a1)] [])) := fun tg_ kg_ => by
      refine r202 tg_ ?_
      show Steps p.tables e below (T202.setTop (mkF m 8 #[.val (.ref a1)] [(.int wl), (.int wp)])) _
      refine XS.icmpYes X202.here hx rfl (pc0 := 8) (pc' := 33) rfl (hb hby d9_8) rfl (teq hc203).1 (by decide) (by decide) ?_
      exact kg_
    refine hG (own_fin X202 hlk (none) (fun _ => rfl) ?_ (by decide) (by decide) (fun fs hr => r204 _ (X202.returnOut hx Bd.returns (hb hby d9_33) hr)))
    rw [e202]
    refine ⟨?_, N0, rfl⟩
    rfl
  exact key _ _ id (fun t k => castTop (ef_9 m a1) k)
theorem d10_0 : decode prog_17_method_14_code 0 = .ok (.aload_n 0, 1) := by decide +kernel
theorem d10_1 : decode prog_17_method_14_code 1 = .ok (.getfield 29, 3) := by decide +kernel
theorem d10_4 : decode prog_17_method_14_code 4 = .ok (.aload_n 0, 1) := by decide +kernel
theorem d10_5 : decode prog_17_method_14_code 5 = .ok (.getfield 22, 3) := by decide +kernel
theorem d10_8 : decode prog_17_method_14_code 8 = .ok (.isub, 1) := by decide +kernel
theorem d10_9 : decode prog_17_method_14_code 9 = .ok (.ireturn, 1) := by decide +kernel
theorem ef_10 (m : MethodId) (x0 : Addr) : entryFrame m #[(.ref x0)] 1 = mkF m 0 #[.val (.ref x0)] [] := by first | (simp [entryFrame, mkF, argsToLocals, Value.category]; done) | rfl
def Q10 (Z : State) (a1 : Addr) (wp : Int32) (wsx : Int32) (h0 : Heap) (n0 : Nat) (v : Option Value) (h : Heap) (L : List Loc) : Prop := v = some (.int (wp - wsx)) ∧ Fr n0 L ∧ h = h0
set_option maxRecDepth 65536 in
set_option maxHeartbeats 40000000 in
theorem rm10 (l : Launch) (Z : State) (a0 : Array Value) (hw : ∀ d ∈ tables_1, d.before a0 Z = true) (ws : List Jvm.Cond) (a1 : Addr) (wp : Int32) (wsx : Int32) (h0 : Heap) (n0 : Nat) (Z0 : n0 ≤ h0.size) (F_wp : Fld Z h0 a1 "com/example/garlicwire/garlicwire/data/DataReader" "position" "I" (.int wp)) (F_wsx : Fld Z h0 a1 "com/example/garlicwire/garlicwire/data/DataReader" "start" "I" (.int wsx)) :
    MetFree l (⟨"com/example/garlicwire/garlicwire/data/DataReader", "position", "()I"⟩ : MethodName) (head1 (Jvm.Cond.code (⟨"com/example/garlicwire/garlicwire/data/DataReader", "position", "()I"⟩ : MethodName) prog_17_method_14_code 1 (some .int) :: ws) ({ frames := 0, cells := 0, slots := 0, locals := 0 } : Room)) (fun a U => a = #[(.ref a1)] ∧ Z.Warmed39 U.vm ∧ U.heap = h0) (fun _ _ _ _ _ => True) (fun _ U o U' => ∃ v L, o = .returned v ∧ Q10 Z a1 wp wsx h0 n0 v U'.heap L ∧ FrameEnd U o U' L ({ frames := 0, cells := 0, slots := 0, locals := 0 } : Room).cells ({ frames := 0, cells := 0, slots := 0, locals := 0 } : Room).slots) := by
  refine MetFree.of_bodySF (plainFor_of_name pn_3) hisR ?_
  intro p e s m args below meth c s₁ Bd hml0 hP hK
  obtain ⟨rfl, hZ, hh⟩ := hP
  have hx := Bd.exec
  have hby := Bd.bytes
  have hml : c.maxLocals = 1 := hml0
  have hown : s.vm.findClass "com/example/garlicwire/garlicwire/data/DataReader" = some m.cls := findClass_of_methodNamed Bd.named
  have hnm := (name_of_methodNamed Bd.named Bd.method).1
  have hlk : meth.locks = false := BodyLoose.notSynchronized Bd
  have X0 : Stand p l e ({ frames := 0, cells := 0, slots := 0, locals := 0 } : Room) s m #[(.ref a1)] below meth c s₁ [] 0 0 := Stand.of_body Bd
  have e0 : s₁.heap = h0 := by rw [← hh, Bd.state]; rfl
  have N0 := Fr.nil n0
  have K0 : Keep h0 h0 [] := Keep.refl h0 _
  have key : ∀ (F0 : State) (G : Prop), (own_G p e below s F0 (Q10 Z a1 wp wsx h0 n0) ({ frames := 0, cells := 0, slots := 0, locals := 0 } : Room).cells ({ frames := 0, cells := 0, slots := 0, locals := 0 } : Room).slots → G) → own_R p.tables e below F0 (s₁.setTop (mkF m 0 #[.val (.ref a1)] [])) → G := by
    intro F0 G hG r0
    have r205 : own_R p.tables e below F0 (s₁.setTop (mkF m 1 #[.val (.ref a1)] [(.ref a1)])) := fun tg_ kg_ => by
      refine r0 tg_ ?_
      show Steps p.tables e below (s₁.setTop (mkF m 0 #[.val (.ref a1)] [])) _
      refine XS.aloadN X0.here hx rfl (hb hby d10_0) rfl rfl ?_
      exact kg_
    obtain ⟨T206, X206, e206, st206⟩ := getF X0 hx hZ hown (host := "") (Or.inl (hw _ (List.mem_of_getElem? (i := 25) rfl))) Via.refl e0 F_wp (g := (mkF m 1 #[.val (.ref a1)] [(.ref a1)])) rfl rfl (hb hby d10_1)
    have r206 : own_R p.tables e below F0 (T206.setTop (mkF m 4 #[.val (.ref a1)] [(.int wp)])) := fun tg_ kg_ => r205 tg_ (st206 tg_ kg_)
    have r207 : own_R p.tables e below F0 (T206.setTop (mkF m 5 #[.val (.ref a1)] [(.ref a1), (.int wp)])) := fun tg_ kg_ => by
      refine r206 tg_ ?_
      show Steps p.tables e below (T206.setTop (mkF m 4 #[.val (.ref a1)] [(.int wp)])) _
      refine XS.aloadN X206.here hx rfl (hb hby d10_4) rfl rfl ?_
      exact kg_
    obtain ⟨T208, X208, e208, st208⟩ := getF X206 hx hZ hown (host := "") (Or.inl (hw _ (List.mem_of_getElem? (i := 21) rfl))) Via.refl e206 F_wsx (g := (mkF m 5 #[.val (.ref a1)] [(.ref a1), (.int wp)])) rfl rfl (hb hby d10_5)
    have r208 : own_R p.tables e below F0 (T208.setTop (mkF m 8 #[.val (.ref a1)] [(.int wsx), (.int wp)])) := fun tg_ kg_ => r207 tg_ (st208 tg_ kg_)
    have r209 : own_R p.tables e below F0 (T208.setTop (mkF m 9 #[.val (.ref a1)] [(.int (wp - wsx))])) := fun tg_ kg_ => by
      refine r208 tg_ ?_
      show Steps p.tables e below (T208.setTop (mkF m 8 #[.val (.ref a1)] [(.int wsx), (.int wp)])) _
      refine XS.isub X208.here hx rfl (hb hby d10_8) rfl ?_
      exact kg_
    refine hG (own_fin X208 hlk (some (.int (wp - wsx))) (own_hv Bd.returns) ?_ (by decide) (by decide) (fun fs hr => r209 _ (retOut X208 hx Bd.returns rfl (Or.inl ⟨rfl, Or.inl rfl, _, rfl⟩) (hb hby d10_9) hr)))
    rw [e208]
    refine ⟨?_, N0, rfl⟩
    rfl
  exact key _ _ id (fun t k => castTop (ef_10 m a1) k)
theorem pn_4 : plainName "com/example/garlicwire/garlicwire/data/DataReaderEndPinLaw" = true := by first | (simp [plainName, overriddenIn]; done) | decide +kernel
theorem pd_6 : parseMethodDescriptor "([BII)V" = some ⟨[(.array .byte), .int, .int], none⟩ := by decide +kernel
theorem pd_7 : parseMethodDescriptor "()[B" = some ⟨[], some (.array .byte)⟩ := by decide +kernel
theorem pd_8 : parseMethodDescriptor "()V" = some ⟨[], none⟩ := by decide +kernel
theorem pd_9 : parseMethodDescriptor "()I" = some ⟨[], some .int⟩ := by decide +kernel
theorem pd_10 : parseMethodDescriptor "(I)[B" = some ⟨[.int], some (.array .byte)⟩ := by decide +kernel
theorem ef_0 (m : MethodId) (x0 : Int32) (x1 : Int32) (x2 : Int32) (x3 : Int32) (x4 : Int32) : entryFrame m #[(.int x0), (.int x1), (.int x2), (.int x3), (.int x4)] maxLocals = mkF m 0 #[.val (.int x0), .val (.int x1), .val (.int x2), .val (.int x3), .val (.int x4), .unset, .unset, .unset, .unset, .unset, .unset, .unset] [] := by first | (simp [entryFrame, mkF, argsToLocals, Value.category, maxLocals]; done) | rfl
def Q0 (Z : State) (p0s : Int32) (p1s : Int32) (p2s : Int32) (p3s : Int32) (p4s : Int32) (h0 : Heap) (n0 : Nat) (v : Option Value) (h : Heap) (L : List Loc) : Prop := v = some (.int (1 : Int32)) ∧ Fr n0 L
set_option maxRecDepth 65536 in
set_option maxHeartbeats 40000000 in
theorem rm0 (l : Launch) (Z : State) (a0 : Array Value) (hw : ∀ d ∈ tables_1, d.before a0 Z = true) (ws : List Jvm.Cond) (p0s : Int32) (p1s : Int32) (p2s : Int32) (p3s : Int32) (p4s : Int32) (h0 : Heap) (n0 : Nat) (Z0 : n0 ≤ h0.size) :
    MetFree l x (head1 (Jvm.Cond.code x code maxLocals ret :: ws) room_1) (fun a U => a = #[(.int p0s), (.int p1s), (.int p2s), (.int p3s), (.int p4s)] ∧ Z.Warmed39 U.vm ∧ U.heap = h0) (fun _ _ _ _ _ => True) (fun _ U o U' => ∃ v L, o = .returned v ∧ Q0 Z p0s p1s p2s p3s p4s h0 n0 v U'.heap L ∧ FrameEnd U o U' L 16 128) := by
  refine MetFree.of_bodySF (plainFor_of_name pn_4) hisR ?_
  intro p e s m args below meth c s₁ Bd hml0 hP hK
  obtain ⟨rfl, hZ, hh⟩ := hP
  have hx := Bd.exec
  have hby := Bd.bytes
  have hml : c.maxLocals = 12 := hml0
  have hown : s.vm.findClass "com/example/garlicwire/garlicwire/data/DataReaderEndPinLaw" = some m.cls := findClass_of_methodNamed Bd.named
  have hnm := (name_of_methodNamed Bd.named Bd.method).1
  have hlk : meth.locks = false := BodyLoose.notSynchronized Bd
  have X0 : Stand p l e room_1 s m #[(.int p0s), (.int p1s), (.int p2s), (.int p3s), (.int p4s)] below meth c s₁ [] 0 0 := Stand.of_body Bd
  have e0 : s₁.heap = h0 := by rw [← hh, Bd.state]; rfl
  have N0 := Fr.nil n0
  have K0 : Keep h0 h0 [] := Keep.refl h0 _
  have key : ∀ (F0 : State) (G : Prop), (own_G p e below s F0 (Q0 Z p0s p1s p2s p3s p4s h0 n0) 16 128 → G) → own_R p.tables e below F0 (s₁.setTop (mkF m 0 #[.val (.int p0s), .val (.int p1s), .val (.int p2s), .val (.int p3s), .val (.int p4s), .unset, .unset, .unset, .unset, .unset, .unset, .unset] [])) → G := by
    intro F0 G hG r0
    obtain ⟨z210, hz210⟩ : ∃ z : Int32, z = (p0s &&& (15 : Int32)) := ⟨_, rfl⟩
    obtain ⟨z211, hz211⟩ : ∃ z : Int32, z = ((p1s &&& (2147483647 : Int32)) % (z210 + (1 : Int32))) := ⟨_, rfl⟩
    obtain ⟨z212, hz212⟩ : ∃ z : Int32, z = ((p2s &&& (2147483647 : Int32)) % ((z210 - z211) + (1 : Int32))) := ⟨_, rfl⟩
    obtain ⟨z213, hz213⟩ : ∃ z : Int32, z = ((p3s &&& (2147483647 : Int32)) % (z212 + (1 : Int32))) := ⟨_, rfl⟩
    have r214 : own_R p.tables e below F0 (s₁.setTop (mkF m 44 #[.val (.int p0s), .val (.int p1s), .val (.int p2s), .val (.int p3s), .val (.int p4s), .val (.int z210), .val (.int z211), .val (.int z212), .val (.int z213), .unset, .unset, .unset] [(.int z210)])) := fun tg_ kg_ => by
      refine r0 tg_ ?_
      show Steps p.tables e below (s₁.setTop (mkF m 0 #[.val (.int p0s), .val (.int p1s), .val (.int p2s), .val (.int p3s), .val (.int p4s), .unset, .unset, .unset, .unset, .unset, .unset, .unset] [])) _
      refine XS.iloadN X0.here hx rfl (hb hby at_0) rfl ?_
      show Steps p.tables e below (s₁.setTop (mkF m 1 #[.val (.int p0s), .val (.int p1s), .val (.int p2s), .val (.int p3s), .val (.int p4s), .unset, .unset, .unset, .unset, .unset, .unset, .unset] [(.int p0s)])) _
      refine XS.bipush X0.here hx rfl (hb hby at_1) ?_
      show Steps p.tables e below (s₁.setTop (mkF m 3 #[.val (.int p0s), .val (.int p1s), .val (.int p2s), .val (.int p3s), .val (.int p4s), .unset, .unset, .unset, .unset, .unset, .unset, .unset] [(.int (15 : Int32)), (.int p0s)])) _
      refine XS.iand X0.here hx rfl (hb hby at_3) rfl ?_
      show Steps p.tables e below (s₁.setTop (mkF m 4 #[.val (.int p0s), .val (.int p1s), .val (.int p2s), .val (.int p3s), .val (.int p4s), .unset, .unset, .unset, .unset, .unset, .unset, .unset] [(.int (p0s &&& (15 : Int32)))])) _
      refine XS.istore X0.here hx rfl (hb hby at_4) (x := z210) (rest := []) (by subst hz210; rfl) (l' := #[.val (.int p0s), .val (.int p1s), .val (.int p2s), .val (.int p3s), .val (.int p4s), .val (.int z210), .unset, .unset, .unset, .unset, .unset, .unset]) rfl ?_
      show Steps p.tables e below (s₁.setTop (mkF m 6 #[.val (.int p0s), .val (.int p1s), .val (.int p2s), .val (.int p3s), .val (.int p4s), .val (.int z210), .unset, .unset, .unset, .unset, .unset, .unset] [])) _
      refine XS.iloadN X0.here hx rfl (hb hby at_6) rfl ?_
      show Steps p.tables e below (s₁.setTop (mkF m 7 #[.val (.int p0s), .val (.int p1s), .val (.int p2s), .val (.int p3s), .val (.int p4s), .val (.int z210), .unset, .unset, .unset, .unset, .unset, .unset] [(.int p1s)])) _
      refine X0.ldcI hx hown (mvT hZ (hw _ (List.mem_of_getElem? (i := 0) rfl))) rfl (hb hby at_7) ?_
      show Steps p.tables e below (s₁.setTop (mkF m 9 #[.val (.int p0s), .val (.int p1s), .val (.int p2s), .val (.int p3s), .val (.int p4s), .val (.int z210), .unset, .unset, .unset, .unset, .unset, .unset] [(.int (2147483647 : Int32)), (.int p1s)])) _
      refine XS.iand X0.here hx rfl (hb hby at_9) rfl ?_
      show Steps p.tables e below (s₁.setTop (mkF m 10 #[.val (.int p0s), .val (.int p1s), .val (.int p2s), .val (.int p3s), .val (.int p4s), .val (.int z210), .unset, .unset, .unset, .unset, .unset, .unset] [(.int (p1s &&& (2147483647 : Int32)))])) _
      refine XS.iload X0.here hx rfl (hb hby at_10) rfl ?_
      show Steps p.tables e below (s₁.setTop (mkF m 12 #[.val (.int p0s), .val (.int p1s), .val (.int p2s), .val (.int p3s), .val (.int p4s), .val (.int z210), .unset, .unset, .unset, .unset, .unset, .unset] [(.int z210), (.int (p1s &&& (2147483647 : Int32)))])) _
      refine XS.iconst X0.here hx rfl (hb hby at_12) ?_
      show Steps p.tables e below (s₁.setTop (mkF m 13 #[.val (.int p0s), .val (.int p1s), .val (.int p2s), .val (.int p3s), .val (.int p4s), .val (.int z210), .unset, .unset, .unset, .unset, .unset, .unset] [(.int (1 : Int32)), (.int z210), (.int (p1s &&& (2147483647 : Int32)))])) _
      refine XS.iadd X0.here hx rfl (hb hby at_13) rfl ?_
      show Steps p.tables e below (s₁.setTop (mkF m 14 #[.val (.int p0s), .val (.int p1s), .val (.int p2s), .val (.int p3s), .val (.int p4s), .val (.int z210), .unset, .unset, .unset, .unset, .unset, .unset] [(.int (z210 + (1 : Int32))), (.int (p1s &&& (2147483647 : Int32)))])) _
      refine iremM X0 hx rfl (hb hby at_14) rfl (fun q => by
          have q180_r := own_R32 p0s
          have q181_e : (15 : Int32).toInt = 15 := (by decide)
          have q181_r : (15 : Int) ≤ (15 : Int32).toInt ∧ (15 : Int32).toInt ≤ 15 := ⟨Int.le_of_eq q181_e.symm, Int.le_of_eq q181_e⟩
          have q182_ := own_maskR p0s (15 : Int32) 4 16 (by decide) (by decide) (by decide) 15 (by decide) (by decide)
          have q182_e := q182_.1
          have q182_r := q182_.2
          have q183_ := own_eqR32 hz210 q182_r
          have q183_e := q183_.1
          have q183_r := q183_.2
          have q184_e : (1 : Int32).toInt = 1 := (by decide)
          have q184_r : (1 : Int) ≤ (1 : Int32).toInt ∧ (1 : Int32).toInt ≤ 1 := ⟨Int.le_of_eq q184_e.symm, Int.le_of_eq q184_e⟩
          have q185_ := own_iaddR (1) (16) q183_r q184_r (by decide) (by decide)
          have q185_e := q185_.1
          have q185_r := q185_.2
          have := own_eq32 q
          have : (0 : Int32).toInt = 0 := rfl
          omega) ?_
      show Steps p.tables e below (s₁.setTop (mkF m 15 #[.val (.int p0s), .val (.int p1s), .val (.int p2s), .val (.int p3s), .val (.int p4s), .val (.int z210), .unset, .unset, .unset, .unset, .unset, .unset] [(.int ((p1s &&& (2147483647 : Int32)) % (z210 + (1 : Int32))))])) _
      refine XS.istore X0.here hx rfl (hb hby at_15) (x := z211) (rest := []) (by subst hz211; rfl) (l' := #[.val (.int p0s), .val (.int p1s), .val (.int p2s), .val (.int p3s), .val (.int p4s), .val (.int z210), .val (.int z211), .unset, .unset, .unset, .unset, .unset]) rfl ?_
      show Steps p.tables e below (s₁.setTop (mkF m 17 #[.val (.int p0s), .val (.int p1s), .val (.int p2s), .val (.int p3s), .val (.int p4s), .val (.int z210), .val (.int z211), .unset, .unset, .unset, .unset, .unset] [])) _
      refine XS.iloadN X0.here hx rfl (hb hby at_17) rfl ?_
      show Steps p.tables e below (s₁.setTop (mkF m 18 #[.val (.int p0s), .val (.int p1s), .val (.int p2s), .val (.int p3s), .val (.int p4s), .val (.int z210), .val (.int z211), .unset, .unset, .unset, .unset, .unset] [(.int p2s)])) _
      refine X0.ldcI hx hown (mvT hZ (hw _ (List.mem_of_getElem? (i := 0) rfl))) rfl (hb hby at_18) ?_
      show Steps p.tables e below (s₁.setTop (mkF m 20 #[.val (.int p0s), .val (.int p1s), .val (.int p2s), .val (.int p3s), .val (.int p4s), .val (.int z210), .val (.int z211), .unset, .unset, .unset, .unset, .unset] [(.int (2147483647 : Int32)), (.int p2s)])) _
      refine XS.iand X0.here hx rfl (hb hby at_20) rfl ?_
      show Steps p.tables e below (s₁.setTop (mkF m 21 #[.val (.int p0s), .val (.int p1s), .val (.int p2s), .val (.int p3s), .val (.int p4s), .val (.int z210), .val (.int z211), .unset, .unset, .unset, .unset, .unset] [(.int (p2s &&& (2147483647 : Int32)))])) _
      refine XS.iload X0.here hx rfl (hb hby at_21) rfl ?_
      show Steps p.tables e below (s₁.setTop (mkF m 23 #[.val (.int p0s), .val (.int p1s), .val (.int p2s), .val (.int p3s), .val (.int p4s), .val (.int z210), .val (.int z211), .unset, .unset, .unset, .unset, .unset] [(.int z210), (.int (p2s &&& (2147483647 : Int32)))])) _
      refine XS.iload X0.here hx rfl (hb hby at_23) rfl ?_
      show Steps p.tables e below (s₁.setTop (mkF m 25 #[.val (.int p0s), .val (.int p1s), .val (.int p2s), .val (.int p3s), .val (.int p4s), .val (.int z210), .val (.int z211), .unset, .unset, .unset, .unset, .unset] [(.int z211), (.int z210), (.int (p2s &&& (2147483647 : Int32)))])) _
      refine XS.isub X0.here hx rfl (hb hby at_25) rfl ?_
      show Steps p.tables e below (s₁.setTop (mkF m 26 #[.val (.int p0s), .val (.int p1s), .val (.int p2s), .val (.int p3s), .val (.int p4s), .val (.int z210), .val (.int z211), .unset, .unset, .unset, .unset, .unset] [(.int (z210 - z211)), (.int (p2s &&& (2147483647 : Int32)))])) _
      refine XS.iconst X0.here hx rfl (hb hby at_26) ?_
      show Steps p.tables e below (s₁.setTop (mkF m 27 #[.val (.int p0s), .val (.int p1s), .val (.int p2s), .val (.int p3s), .val (.int p4s), .val (.int z210), .val (.int z211), .unset, .unset, .unset, .unset, .unset] [(.int (1 : Int32)), (.int (z210 - z211)), (.int (p2s &&& (2147483647 : Int32)))])) _
      refine XS.iadd X0.here hx rfl (hb hby at_27) rfl ?_
      show Steps p.tables e below (s₁.setTop (mkF m 28 #[.val (.int p0s), .val (.int p1s), .val (.int p2s), .val (.int p3s), .val (.int p4s), .val (.int z210), .val (.int z211), .unset, .unset, .unset, .unset, .unset] [(.int ((z210 - z211) + (1 : Int32))), (.int (p2s &&& (2147483647 : Int32)))])) _
      refine iremM X0 hx rfl (hb hby at_28) rfl (fun q => by
          have q186_r := own_R32 p0s
          have q187_e : (15 : Int32).toInt = 15 := (by decide)
          have q187_r : (15 : Int) ≤ (15 : Int32).toInt ∧ (15 : Int32).toInt ≤ 15 := ⟨Int.le_of_eq q187_e.symm, Int.le_of_eq q187_e⟩
          have q188_ := own_maskR p0s (15 : Int32) 4 16 (by decide) (by decide) (by decide) 15 (by decide) (by decide)
          have q188_e := q188_.1
          have q188_r := q188_.2
          have q189_ := own_eqR32 hz210 q188_r
          have q189_e := q189_.1
          have q189_r := q189_.2
          have q190_r := own_R32 p1s
          have q191_e : (2147483647 : Int32).toInt = 2147483647 := (by decide)
          have q191_r : (2147483647 : Int) ≤ (2147483647 : Int32).toInt ∧ (2147483647 : Int32).toInt ≤ 2147483647 := ⟨Int.le_of_eq q191_e.symm, Int.le_of_eq q191_e⟩
          have q192_ := own_maskR p1s (2147483647 : Int32) 31 2147483648 (by decide) (by decide) (by decide) 2147483647 (by decide) (by decide)
          have q192_e := q192_.1
          have q192_r := q192_.2
          have q193_e : (1 : Int32).toInt = 1 := (by decide)
          have q193_r : (1 : Int) ≤ (1 : Int32).toInt ∧ (1 : Int32).toInt ≤ 1 := ⟨Int.le_of_eq q193_e.symm, Int.le_of_eq q193_e⟩
          have q194_ := own_iaddR (1) (16) q189_r q193_r (by decide) (by decide)
          have q194_e := q194_.1
          have q194_r := q194_.2
          have q195_ := own_iremVR (15) q192_r q194_r (by decide) (by decide) (by decide)
          have q195_e := q195_.1
          have q195_r := q195_.2
          have q196_ := own_eqR32 hz211 q195_r
          have q196_e := q196_.1
          have q196_r := q196_.2
          have q197_ := own_isubR (-15) (15) q189_r q196_r (by decide) (by decide)
          have q197_e := q197_.1
          have q197_r := q197_.2
          have q198_ := own_iaddR (-14) (16) q197_r q193_r (by decide) (by decide)
          have q198_e := q198_.1
          have q198_r := q198_.2
          have := own_eq32 q
          have : (0 : Int32).toInt = 0 := rfl
          omega) ?_
      show Steps p.tables e below (s₁.setTop (mkF m 29 #[.val (.int p0s), .val (.int p1s), .val (.int p2s), .val (.int p3s), .val (.int p4s), .val (.int z210), .val (.int z211), .unset, .unset, .unset, .unset, .unset] [(.int ((p2s &&& (2147483647 : Int32)) % ((z210 - z211) + (1 : Int32))))])) _
      refine XS.istore X0.here hx rfl (hb hby at_29) (x := z212) (rest := []) (by subst hz212; rfl) (l' := #[.val (.int p0s), .val (.int p1s), .val (.int p2s), .val (.int p3s), .val (.int p4s), .val (.int z210), .val (.int z211), .val (.int z212), .unset, .unset, .unset, .unset]) rfl ?_
      show Steps p.tables e below (s₁.setTop (mkF m 31 #[.val (.int p0s), .val (.int p1s), .val (.int p2s), .val (.int p3s), .val (.int p4s), .val (.int z210), .val (.int z211), .val (.int z212), .unset, .unset, .unset, .unset] [])) _
      refine XS.iloadN X0.here hx rfl (hb hby at_31) rfl ?_
      show Steps p.tables e below (s₁.setTop (mkF m 32 #[.val (.int p0s), .val (.int p1s), .val (.int p2s), .val (.int p3s), .val (.int p4s), .val (.int z210), .val (.int z211), .val (.int z212), .unset, .unset, .unset, .unset] [(.int p3s)])) _
      refine X0.ldcI hx hown (mvT hZ (hw _ (List.mem_of_getElem? (i := 0) rfl))) rfl (hb hby at_32) ?_
      show Steps p.tables e below (s₁.setTop (mkF m 34 #[.val (.int p0s), .val (.int p1s), .val (.int p2s), .val (.int p3s), .val (.int p4s), .val (.int z210), .val (.int z211), .val (.int z212), .unset, .unset, .unset, .unset] [(.int (2147483647 : Int32)), (.int p3s)])) _
      refine XS.iand X0.here hx rfl (hb hby at_34) rfl ?_
      show Steps p.tables e below (s₁.setTop (mkF m 35 #[.val (.int p0s), .val (.int p1s), .val (.int p2s), .val (.int p3s), .val (.int p4s), .val (.int z210), .val (.int z211), .val (.int z212), .unset, .unset, .unset, .unset] [(.int (p3s &&& (2147483647 : Int32)))])) _
      refine XS.iload X0.here hx rfl (hb hby at_35) rfl ?_
      show Steps p.tables e below (s₁.setTop (mkF m 37 #[.val (.int p0s), .val (.int p1s), .val (.int p2s), .val (.int p3s), .val (.int p4s), .val (.int z210), .val (.int z211), .val (.int z212), .unset, .unset, .unset, .unset] [(.int z212), (.int (p3s &&& (2147483647 : Int32)))])) _
      refine XS.iconst X0.here hx rfl (hb hby at_37) ?_
      show Steps p.tables e below (s₁.setTop (mkF m 38 #[.val (.int p0s), .val (.int p1s), .val (.int p2s), .val (.int p3s), .val (.int p4s), .val (.int z210), .val (.int z211), .val (.int z212), .unset, .unset, .unset, .unset] [(.int (1 : Int32)), (.int z212), (.int (p3s &&& (2147483647 : Int32)))])) _
      refine XS.iadd X0.here hx rfl (hb hby at_38) rfl ?_
      show Steps p.tables e below (s₁.setTop (mkF m 39 #[.val (.int p0s), .val (.int p1s), .val (.int p2s), .val (.int p3s), .val (.int p4s), .val (.int z210), .val (.int z211), .val (.int z212), .unset, .unset, .unset, .unset] [(.int (z212 + (1 : Int32))), (.int (p3s &&& (2147483647 : Int32)))])) _
      refine iremM X0 hx rfl (hb hby at_39) rfl (fun q => by
          have q199_r := own_R32 p2s
          have q200_e : (2147483647 : Int32).toInt = 2147483647 := (by decide)
          have q200_r : (2147483647 : Int) ≤ (2147483647 : Int32).toInt ∧ (2147483647 : Int32).toInt ≤ 2147483647 := ⟨Int.le_of_eq q200_e.symm, Int.le_of_eq q200_e⟩
          have q201_ := own_maskR p2s (2147483647 : Int32) 31 2147483648 (by decide) (by decide) (by decide) 2147483647 (by decide) (by decide)
          have q201_e := q201_.1
          have q201_r := q201_.2
          have q202_r := own_R32 p0s
          have q203_e : (15 : Int32).toInt = 15 := (by decide)
          have q203_r : (15 : Int) ≤ (15 : Int32).toInt ∧ (15 : Int32).toInt ≤ 15 := ⟨Int.le_of_eq q203_e.symm, Int.le_of_eq q203_e⟩
          have q204_ := own_maskR p0s (15 : Int32) 4 16 (by decide) (by decide) (by decide) 15 (by decide) (by decide)
          have q204_e := q204_.1
          have q204_r := q204_.2
          have q205_ := own_eqR32 hz210 q204_r
          have q205_e := q205_.1
          have q205_r := q205_.2
          have q206_r := own_R32 p1s
          have q207_ := own_maskR p1s (2147483647 : Int32) 31 2147483648 (by decide) (by decide) (by decide) 2147483647 (by decide) (by decide)
          have q207_e := q207_.1
          have q207_r := q207_.2
          have q208_e : (1 : Int32).toInt = 1 := (by decide)
          have q208_r : (1 : Int) ≤ (1 : Int32).toInt ∧ (1 : Int32).toInt ≤ 1 := ⟨Int.le_of_eq q208_e.symm, Int.le_of_eq q208_e⟩
          have q209_ := own_iaddR (1) (16) q205_r q208_r (by decide) (by decide)
          have q209_e := q209_.1
          have q209_r := q209_.2
          have q210_ := own_iremVR (15) q207_r q209_r (by decide) (by decide) (by decide)
          have q210_e := q210_.1
          have q210_r := q210_.2
          have q211_ := own_eqR32 hz211 q210_r
          have q211_e := q211_.1
          have q211_r := q211_.2
          have q212_ := own_isubR (-15) (15) q205_r q211_r (by decide) (by decide)
          have q212_e := q212_.1
          have q212_r := q212_.2
          have q213_ := own_iaddR (-14) (16) q212_r q208_r (by decide) (by decide)
          have q213_e := q213_.1
          have q213_r := q213_.2
          have q214_r := own_R32 ((p2s &&& (2147483647 : Int32)) % ((z210 - z211) + (1 : Int32)))
          have q215_ := c_iremV (p2s &&& (2147483647 : Int32)) ((z210 - z211) + (1 : Int32))
          have q216_ := own_eqR32 hz212 q214_r
          have q216_e := q216_.1
          have q216_r := q216_.2
          have q217_r := own_R32 (z212 + (1 : Int32))
          have q218_ := c_iadd z212 (1 : Int32)
          have := own_eq32 q
          have : (0 : Int32).toInt = 0 := rfl
          omega) ?_
      show Steps p.tables e below (s₁.setTop (mkF m 40 #[.val (.int p0s), .val (.int p1s), .val (.int p2s), .val (.int p3s), .val (.int p4s), .val (.int z210), .val (.int z211), .val (.int z212), .unset, .unset, .unset, .unset] [(.int ((p3s &&& (2147483647 : Int32)) % (z212 + (1 : Int32))))])) _
      refine XS.istore X0.here hx rfl (hb hby at_40) (x := z213) (rest := []) (by subst hz213; rfl) (l' := #[.val (.int p0s), .val (.int p1s), .val (.int p2s), .val (.int p3s), .val (.int p4s), .val (.int z210), .val (.int z211), .val (.int z212), .val (.int z213), .unset, .unset, .unset]) rfl ?_
      show Steps p.tables e below (s₁.setTop (mkF m 42 #[.val (.int p0s), .val (.int p1s), .val (.int p2s), .val (.int p3s), .val (.int p4s), .val (.int z210), .val (.int z211), .val (.int z212), .val (.int z213), .unset, .unset, .unset] [])) _
      refine XS.iload X0.here hx rfl (hb hby at_42) rfl ?_
      exact kg_
    have q219_r := own_R32 p0s
    have q220_e : (15 : Int32).toInt = 15 := (by decide)
    have q220_r : (15 : Int) ≤ (15 : Int32).toInt ∧ (15 : Int32).toInt ≤ 15 := ⟨Int.le_of_eq q220_e.symm, Int.le_of_eq q220_e⟩
    have q221_ := own_maskR p0s (15 : Int32) 4 16 (by decide) (by decide) (by decide) 15 (by decide) (by decide)
    have q221_e := q221_.1
    have q221_r := q221_.2
    have q222_ := own_eqR32 hz210 q221_r
    have q222_e := q222_.1
    have q222_r := q222_.2
    have q223_r := own_R32 p1s
    have q224_e : (2147483647 : Int32).toInt = 2147483647 := (by decide)
    have q224_r : (2147483647 : Int) ≤ (2147483647 : Int32).toInt ∧ (2147483647 : Int32).toInt ≤ 2147483647 := ⟨Int.le_of_eq q224_e.symm, Int.le_of_eq q224_e⟩
    have q225_ := own_maskR p1s (2147483647 : Int32) 31 2147483648 (by decide) (by decide) (by decide) 2147483647 (by decide) (by decide)
    have q225_e := q225_.1
    have q225_r := q225_.2
    have q226_e : (1 : Int32).toInt = 1 := (by decide)
    have q226_r : (1 : Int) ≤ (1 : Int32).toInt ∧ (1 : Int32).toInt ≤ 1 := ⟨Int.le_of_eq q226_e.symm, Int.le_of_eq q226_e⟩
    have q227_ := own_iaddR (1) (16) q222_r q226_r (by decide) (by decide)
    have q227_e := q227_.1
    have q227_r := q227_.2
    have q228_ := own_iremVR (15) q225_r q227_r (by decide) (by decide) (by decide)
    have q228_e := q228_.1
    have q228_r := q228_.2
    have q229_ := own_eqR32 hz211 q228_r
    have q229_e := q229_.1
    have q229_r := q229_.2
    have q230_r := own_R32 p2s
    have q231_ := own_maskR p2s (2147483647 : Int32) 31 2147483648 (by decide) (by decide) (by decide) 2147483647 (by decide) (by decide)
    have q231_e := q231_.1
    have q231_r := q231_.2
    have q232_ := own_isubR (-15) (15) q222_r q229_r (by decide) (by decide)
    have q232_e := q232_.1
    have q232_r := q232_.2
    have q233_ := own_iaddR (-14) (16) q232_r q226_r (by decide) (by decide)
    have q233_e := q233_.1
    have q233_r := q233_.2
    have q234_r := own_R32 ((p2s &&& (2147483647 : Int32)) % ((z210 - z211) + (1 : Int32)))
    have q235_ := c_iremV (p2s &&& (2147483647 : Int32)) ((z210 - z211) + (1 : Int32))
    have q236_ := own_eqR32 hz212 q234_r
    have q236_e := q236_.1
    have q236_r := q236_.2
    have q237_r := own_R32 p3s
    have q238_ := own_maskR p3s (2147483647 : Int32) 31 2147483648 (by decide) (by decide) (by decide) 2147483647 (by decide) (by decide)
    have q238_e := q238_.1
    have q238_r := q238_.2
    have q239_r := own_R32 (z212 + (1 : Int32))
    have q240_ := c_iadd z212 (1 : Int32)
    have q241_r := own_R32 ((p3s &&& (2147483647 : Int32)) % (z212 + (1 : Int32)))
    have q242_ := c_iremV (p3s &&& (2147483647 : Int32)) (z212 + (1 : Int32))
    have q243_ := own_eqR32 hz213 q241_r
    have q243_e := q243_.1
    have q243_r := q243_.2
    obtain ⟨nn, hnn⟩ : ∃ A : Nat, z210.toInt = A := ⟨z210.toInt.toNat, by omega⟩
    have hb1 : nn ≤ 15 := by omega
    have hb2 : 0 ≤ z211.toInt ∧ 0 ≤ z212.toInt ∧ z211.toInt + z212.toInt ≤ nn := by omega
    have hb3 : 0 ≤ z213.toInt ∧ z213.toInt ≤ z212.toInt := by omega
    obtain ⟨T215, h215, k215, X215, e215, E215, A215, C215, st215⟩ := newPE X0 hx hZ (hw _ (List.mem_of_getElem? (i := 1) rfl)) e0 (g := (mkF m 44 #[.val (.int p0s), .val (.int p1s), .val (.int p2s), .val (.int p3s), .val (.int p4s), .val (.int z210), .val (.int z211), .val (.int z212), .val (.int z213), .unset, .unset, .unset] [(.int z210)])) rfl (hb hby at_44) rfl (fun q => by have := own_lt32 q; have : (0 : Int32).toInt = 0 := rfl; omega) (cap := 15) (by rw [own_clamp hnn]; exact hb1) (by decide) (by decide) (by decide) (ad := "[B") (by decide)
    obtain ⟨b215, g215⟩ : ∃ z, z = h0.size := ⟨_, rfl⟩
    rw [← g215] at A215 C215 st215
    have ge215 : n0 ≤ b215 := Nat.le_trans Z0 (Nat.le_of_eq g215.symm)
    have old215 : h0.size ≤ b215 := Nat.le_trans K0.1 (Nat.le_of_eq g215.symm)
    have K215 : Keep h0 h215 [] := K0.ext E215
    have Zs216 : n0 ≤ h215.size := Nat.le_trans Z0 E215.1
    have F217 : own_Arf Z h215 b215 .byte nn (fun i => (.int ((fun _ => (0 : Int32)) i))) := by
      have q := own_Arf.new A215 (fun q => by have := own_lt32 q; have : (0 : Int32).toInt = 0 := rfl; omega)
      rw [show (z210).toNatClampNeg = nn from own_clamp hnn] at q
      exact q
    have r215 : own_R p.tables e below F0 (T215.setTop (mkF m 46 #[.val (.int p0s), .val (.int p1s), .val (.int p2s), .val (.int p3s), .val (.int p4s), .val (.int z210), .val (.int z211), .val (.int z212), .val (.int z213), .unset, .unset, .unset] [(.ref b215)])) := fun tg_ kg_ => r214 tg_ (st215 tg_ kg_)
    have r218 : own_R p.tables e below F0 (T215.setTop (mkF m 48 #[.val (.int p0s), .val (.int p1s), .val (.int p2s), .val (.int p3s), .val (.int p4s), .val (.int z210), .val (.int z211), .val (.int z212), .val (.int z213), .val (.ref b215), .unset, .unset] [])) := fun tg_ kg_ => by
      refine r215 tg_ ?_
      show Steps p.tables e below (T215.setTop (mkF m 46 #[.val (.int p0s), .val (.int p1s), .val (.int p2s), .val (.int p3s), .val (.int p4s), .val (.int z210), .val (.int z211), .val (.int z212), .val (.int z213), .unset, .unset, .unset] [(.ref b215)])) _
      refine XS.astore X215.here hx rfl (hb hby at_46) rfl rfl (l' := #[.val (.int p0s), .val (.int p1s), .val (.int p2s), .val (.int p3s), .val (.int p4s), .val (.int z210), .val (.int z211), .val (.int z212), .val (.int z213), .val (.ref b215), .unset, .unset]) rfl ?_
      exact kg_
    obtain ⟨T219, h219, X219, e219, E219, A219, D219, -, st219⟩ := newO X215 hx hZ hown (hw _ (List.mem_of_getElem? (i := 2) rfl)) (hw _ (List.mem_of_getElem? (i := 3) rfl)) (hw _ (List.mem_of_getElem? (i := 4) rfl)) e215 (g := (mkF m 48 #[.val (.int p0s), .val (.int p1s), .val (.int p2s), .val (.int p3s), .val (.int p4s), .val (.int z210), .val (.int z211), .val (.int z212), .val (.int z213), .val (.ref b215), .unset, .unset] [])) rfl (hb hby at_48) (by decide) (by decide)
    obtain ⟨b219, g219⟩ : ∃ z, z = h215.size := ⟨_, rfl⟩
    rw [← g219] at A219 D219 st219
    have ne220 : b215 ≠ b219 := Nat.ne_of_lt (Nat.lt_of_lt_of_le C215.lt (Nat.le_of_eq g219.symm))
    have ge219 : n0 ≤ b219 := Nat.le_trans Zs216 (Nat.le_of_eq g219.symm)
    have old219 : h0.size ≤ b219 := Nat.le_trans K215.1 (Nat.le_of_eq g219.symm)
    have K219 : Keep h0 h219 [] := K215.ext E219
    have F221 : Exa Z h219 b215 "[B" := C215.ext E219
    have F222 : own_Arf Z h219 b215 .byte nn (fun i => (.int ((fun _ => (0 : Int32)) i))) := F217.ext E219
    have Zs223 : n0 ≤ h219.size := Nat.le_trans Zs216 E219.1
    have F224 : Fld Z h219 b219 "com/example/garlicwire/garlicwire/data/DataReader" "data" "[B" .null := D219 (Or.inr (hw _ (List.mem_of_getElem? (i := 20) rfl))) (ty := (.array .byte)) (by decide)
    have F225 : Fld Z h219 b219 "com/example/garlicwire/garlicwire/data/DataReader" "start" "I" (.int (0 : Int32)) := D219 (Or.inr (hw _ (List.mem_of_getElem? (i := 22) rfl))) (ty := .int) (by decide)
    have F226 : Fld Z h219 b219 "com/example/garlicwire/garlicwire/data/DataReader" "limit" "I" (.int (0 : Int32)) := D219 (Or.inr (hw _ (List.mem_of_getElem? (i := 24) rfl))) (ty := .int) (by decide)
    have F227 : Fld Z h219 b219 "com/example/garlicwire/garlicwire/data/DataReader" "position" "I" (.int (0 : Int32)) := D219 (Or.inl (hw _ (List.mem_of_getElem? (i := 26) rfl))) (ty := .int) (by decide)
    have r219 : own_R p.tables e below F0 (T219.setTop (mkF m 51 #[.val (.int p0s), .val (.int p1s), .val (.int p2s), .val (.int p3s), .val (.int p4s), .val (.int z210), .val (.int z211), .val (.int z212), .val (.int z213), .val (.ref b215), .unset, .unset] [(.ref b219)])) := fun tg_ kg_ => r218 tg_ (st219 tg_ kg_)
    have r228 : own_R p.tables e below F0 (T219.setTop (mkF m 58 #[.val (.int p0s), .val (.int p1s), .val (.int p2s), .val (.int p3s), .val (.int p4s), .val (.int z210), .val (.int z211), .val (.int z212), .val (.int z213), .val (.ref b215), .unset, .unset] [(.int z212), (.int z211), (.ref b215), (.ref b219), (.ref b219)])) := fun tg_ kg_ => by
      refine r219 tg_ ?_
      show Steps p.tables e below (T219.setTop (mkF m 51 #[.val (.int p0s), .val (.int p1s), .val (.int p2s), .val (.int p3s), .val (.int p4s), .val (.int z210), .val (.int z211), .val (.int z212), .val (.int z213), .val (.ref b215), .unset, .unset] [(.ref b219)])) _
      refine XS.dup X219.here hx rfl (hb hby at_51) rfl rfl ?_
      show Steps p.tables e below (T219.setTop (mkF m 52 #[.val (.int p0s), .val (.int p1s), .val (.int p2s), .val (.int p3s), .val (.int p4s), .val (.int z210), .val (.int z211), .val (.int z212), .val (.int z213), .val (.ref b215), .unset, .unset] [(.ref b219), (.ref b219)])) _
      refine XS.aload X219.here hx rfl (hb hby at_52) rfl rfl ?_
      show Steps p.tables e below (T219.setTop (mkF m 54 #[.val (.int p0s), .val (.int p1s), .val (.int p2s), .val (.int p3s), .val (.int p4s), .val (.int z210), .val (.int z211), .val (.int z212), .val (.int z213), .val (.ref b215), .unset, .unset] [(.ref b215), (.ref b219), (.ref b219)])) _
      refine XS.iload X219.here hx rfl (hb hby at_54) rfl ?_
      show Steps p.tables e below (T219.setTop (mkF m 56 #[.val (.int p0s), .val (.int p1s), .val (.int p2s), .val (.int p3s), .val (.int p4s), .val (.int z210), .val (.int z211), .val (.int z212), .val (.int z213), .val (.ref b215), .unset, .unset] [(.int z211), (.ref b215), (.ref b219), (.ref b219)])) _
      refine XS.iload X219.here hx rfl (hb hby at_56) rfl ?_
      exact kg_
    obtain ⟨_, _, ⟨T229, L229, k229, n229⟩, -, X229, ⟨Lc229, hQ229, l229, y229, z229⟩, st229⟩ := X219.specialBack hx (y := (⟨"com/example/garlicwire/garlicwire/data/DataReader", "<init>", "([BII)V"⟩ : MethodName)) rfl hown (mvT hZ (hw _ (List.mem_of_getElem? (i := 5) rfl))) (mvT hZ (hw _ (List.mem_of_getElem? (i := 6) rfl))) (mvT hZ (hw _ (List.mem_of_getElem? (i := 7) rfl))) (by decide) (backOf (W := 1) (rm1 l Z a0 hw [] b219 b215 z211 z212 (nn) h219 n0 Zs223 A219 F224 F225 F226 F227 ge219 F222 ne220 ⟨hb2.1, hb2.2.1, hb2.2.2, hb1⟩) hZ (hw _ (List.mem_of_getElem? (i := 7) rfl)) (hw _ (List.mem_of_getElem? (i := 4) rfl)) (by decide) (by decide)) (g := (mkF m 58 #[.val (.int p0s), .val (.int p1s), .val (.int p2s), .val (.int p3s), .val (.int p4s), .val (.int z210), .val (.int z211), .val (.int z212), .val (.int z213), .val (.ref b215), .unset, .unset] [(.int z212), (.int z211), (.ref b215), (.ref b219), (.ref b219)])) rfl (by rw [hml]; rfl) (Steps.refl _) (a := b219) (argsL := [(.ref b215), (.int z211), (.int z212)]) (rest := [(.ref b219)]) (lenOf pd_6 rfl) rfl (by show 2 * 0 + _ ≤ _; exact Nat.le_of_eq rfl) (hb hby at_58) (fun _ _ => ⟨rfl, e219, (by decide : 2 + 0 ≤ _), (by decide : 19 + 0 ≤ _)⟩)
    dsimp only [Pt.U, Pt.locs, Pt.cells, Pt.slots] at X229 l229 y229 z229 st229 hQ229
    subst l229 y229 z229
    obtain ⟨rfl, N229q, I229_0, I229_1, I229_2, I229_3, I229_4, I229_5⟩ := hQ229
    have N229 := Fr.app N0 N229q
    obtain ⟨h229, e229⟩ : ∃ z, T229.heap = z := ⟨_, rfl⟩
    rw [e229] at I229_0 I229_1 I229_2 I229_3 I229_4 I229_5
    have F230 : Exa Z h229 b215 "[B" := F221.keep I229_0
    have F231 : own_Arf Z h229 b215 .byte nn (fun i => (.int ((fun _ => (0 : Int32)) i))) := F222.keep I229_0 (ninS ne220 nin0)
    have K232 : Keep h0 h229 [] := K219.trans I229_0 (allS (Or.inr old219) all0)
    have Zs233 : n0 ≤ h229.size := Nat.le_trans Zs223 I229_0.1
    have r229 : own_R p.tables e below F0 (T229.setTop (mkF m 61 #[.val (.int p0s), .val (.int p1s), .val (.int p2s), .val (.int p3s), .val (.int p4s), .val (.int z210), .val (.int z211), .val (.int z212), .val (.int z213), .val (.ref b215), .unset, .unset] [(.ref b219)])) := fun tg_ kg_ => r228 tg_ (st229.trans kg_)
    have r234 : own_R p.tables e below F0 (T229.setTop (mkF m 67 #[.val (.int p0s), .val (.int p1s), .val (.int p2s), .val (.int p3s), .val (.int p4s), .val (.int z210), .val (.int z211), .val (.int z212), .val (.int z213), .val (.ref b215), .val (.ref b219), .unset] [(.int z213), (.ref b219)])) := fun tg_ kg_ => by
      refine r229 tg_ ?_
      show Steps p.tables e below (T229.setTop (mkF m 61 #[.val (.int p0s), .val (.int p1s), .val (.int p2s), .val (.int p3s), .val (.int p4s), .val (.int z210), .val (.int z211), .val (.int z212), .val (.int z213), .val (.ref b215), .unset, .unset] [(.ref b219)])) _
      refine XS.astore X229.here hx rfl (hb hby at_61) rfl rfl (l' := #[.val (.int p0s), .val (.int p1s), .val (.int p2s), .val (.int p3s), .val (.int p4s), .val (.int z210), .val (.int z211), .val (.int z212), .val (.int z213), .val (.ref b215), .val (.ref b219), .unset]) rfl ?_
      show Steps p.tables e below (T229.setTop (mkF m 63 #[.val (.int p0s), .val (.int p1s), .val (.int p2s), .val (.int p3s), .val (.int p4s), .val (.int z210), .val (.int z211), .val (.int z212), .val (.int z213), .val (.ref b215), .val (.ref b219), .unset] [])) _
      refine XS.aload X229.here hx rfl (hb hby at_63) rfl rfl ?_
      show Steps p.tables e below (T229.setTop (mkF m 65 #[.val (.int p0s), .val (.int p1s), .val (.int p2s), .val (.int p3s), .val (.int p4s), .val (.int z210), .val (.int z211), .val (.int z212), .val (.int z213), .val (.ref b215), .val (.ref b219), .unset] [(.ref b219)])) _
      refine XS.iload X229.here hx rfl (hb hby at_65) rfl ?_
      exact kg_
    obtain ⟨cq235, kq235, q235a, q235b, q235c⟩ := isOf hZ e229 I229_1
    obtain ⟨_, _, ⟨T235, L235, k235, n235⟩, -, X235, ⟨Lc235, hQ235, l235, y235, z235⟩, st235⟩ := X229.virtualBack hx (y := (⟨"com/example/garlicwire/garlicwire/data/DataReader", "skip", "(I)V"⟩ : MethodName)) (z := (⟨"com/example/garlicwire/garlicwire/data/DataReader", "skip", "(I)V"⟩ : MethodName)) hown (mvT hZ (hw _ (List.mem_of_getElem? (i := 27) rfl))) (mvT hZ (hw _ (List.mem_of_getElem? (i := 28) rfl))) (notFace_of_selects (args := #[]) (mvT hZ (hw _ (List.mem_of_getElem? (i := 30) rfl)))) (mvT hZ (hw _ (List.mem_of_getElem? (i := 30) rfl))) (mvT hZ (hw _ (List.mem_of_getElem? (i := 29) rfl))) (by decide) (backOf (W := 0) (rm5 l Z a0 hw [] b219 z213 ((z211 + z212)) (z211) (b215) (z211) h229 n0 Zs233 I229_1 ge219 I229_2 I229_3 I229_4 I229_5 (by
          have q1 := c_iadd z211 z212
          have q2 := rng32 (z211 + z212)
          have q3 := c_iadd z211 z213
          have q4 := rng32 (z211 + z213)
          have q5 := c_isub z212 z213
          have q6 := rng32 (z212 - z213)
          have q7 := c_iadd (z211 + z213) (z212 - z213)
          have q8 := rng32 ((z211 + z213) + (z212 - z213))
          omega)) hZ (hw _ (List.mem_of_getElem? (i := 31) rfl)) (hw _ (List.mem_of_getElem? (i := 4) rfl)) (by decide) (by decide)) q235a q235c (g := (mkF m 67 #[.val (.int p0s), .val (.int p1s), .val (.int p2s), .val (.int p3s), .val (.int p4s), .val (.int z210), .val (.int z211), .val (.int z212), .val (.int z213), .val (.ref b215), .val (.ref b219), .unset] [(.int z213), (.ref b219)])) rfl (by rw [hml]; rfl) (Steps.refl _) (argsL := [(.int z213)]) (rest := []) (lenOf pd_5 rfl) rfl (by show 2 * 0 + _ ≤ _; exact Nat.le_of_eq rfl) (hb hby at_67) (fun _ _ => ⟨rfl, e229, (by decide : 2 + 0 ≤ _), (by decide : 19 + 0 ≤ _)⟩)
    dsimp only [Pt.U, Pt.locs, Pt.cells, Pt.slots] at X235 l235 y235 z235 st235 hQ235
    subst l235 y235 z235
    obtain ⟨rfl, N235q, I235_0, I235_1, I235_2, I235_3, I235_4, I235_5⟩ := hQ235
    have N235 := Fr.app N229 N235q
    obtain ⟨h235, e235⟩ : ∃ z, T235.heap = z := ⟨_, rfl⟩
    rw [e235] at I235_0 I235_1 I235_2 I235_3 I235_4 I235_5
    have F236 : Exa Z h235 b215 "[B" := F230.keep I235_0
    have F237 : own_Arf Z h235 b215 .byte nn (fun i => (.int ((fun _ => (0 : Int32)) i))) := F231.keep I235_0 (ninS ne220 nin0)
    have K238 : Keep h0 h235 [] := K232.trans I235_0 (allS (Or.inr old219) all0)
    have Zs239 : n0 ≤ h235.size := Nat.le_trans Zs233 I235_0.1
    have r235 : own_R p.tables e below F0 (T235.setTop (mkF m 70 #[.val (.int p0s), .val (.int p1s), .val (.int p2s), .val (.int p3s), .val (.int p4s), .val (.int z210), .val (.int z211), .val (.int z212), .val (.int z213), .val (.ref b215), .val (.ref b219), .unset] [])) := fun tg_ kg_ => r234 tg_ (st235.trans kg_)
    obtain ⟨z240, hz240⟩ : ∃ z : Int32, z = ((p4s &&& (2147483647 : Int32)) % (3 : Int32)) := ⟨_, rfl⟩
    have r241 : own_R p.tables e below F0 (T235.setTop (mkF m 81 #[.val (.int p0s), .val (.int p1s), .val (.int p2s), .val (.int p3s), .val (.int p4s), .val (.int z210), .val (.int z211), .val (.int z212), .val (.int z213), .val (.ref b215), .val (.ref b219), .val (.int z240)] [(.int z240)])) := fun tg_ kg_ => by
      refine r235 tg_ ?_
      show Steps p.tables e below (T235.setTop (mkF m 70 #[.val (.int p0s), .val (.int p1s), .val (.int p2s), .val (.int p3s), .val (.int p4s), .val (.int z210), .val (.int z211), .val (.int z212), .val (.int z213), .val (.ref b215), .val (.ref b219), .unset] [])) _
      refine XS.iload X235.here hx rfl (hb hby at_70) rfl ?_
      show Steps p.tables e below (T235.setTop (mkF m 72 #[.val (.int p0s), .val (.int p1s), .val (.int p2s), .val (.int p3s), .val (.int p4s), .val (.int z210), .val (.int z211), .val (.int z212), .val (.int z213), .val (.ref b215), .val (.ref b219), .unset] [(.int p4s)])) _
      refine X235.ldcI hx hown (mvT hZ (hw _ (List.mem_of_getElem? (i := 0) rfl))) rfl (hb hby at_72) ?_
      show Steps p.tables e below (T235.setTop (mkF m 74 #[.val (.int p0s), .val (.int p1s), .val (.int p2s), .val (.int p3s), .val (.int p4s), .val (.int z210), .val (.int z211), .val (.int z212), .val (.int z213), .val (.ref b215), .val (.ref b219), .unset] [(.int (2147483647 : Int32)), (.int p4s)])) _
      refine XS.iand X235.here hx rfl (hb hby at_74) rfl ?_
      show Steps p.tables e below (T235.setTop (mkF m 75 #[.val (.int p0s), .val (.int p1s), .val (.int p2s), .val (.int p3s), .val (.int p4s), .val (.int z210), .val (.int z211), .val (.int z212), .val (.int z213), .val (.ref b215), .val (.ref b219), .unset] [(.int (p4s &&& (2147483647 : Int32)))])) _
      refine XS.iconst X235.here hx rfl (hb hby at_75) ?_
      show Steps p.tables e below (T235.setTop (mkF m 76 #[.val (.int p0s), .val (.int p1s), .val (.int p2s), .val (.int p3s), .val (.int p4s), .val (.int z210), .val (.int z211), .val (.int z212), .val (.int z213), .val (.ref b215), .val (.ref b219), .unset] [(.int (3 : Int32)), (.int (p4s &&& (2147483647 : Int32)))])) _
      refine iremM X235 hx rfl (hb hby at_76) rfl (by decide) ?_
      show Steps p.tables e below (T235.setTop (mkF m 77 #[.val (.int p0s), .val (.int p1s), .val (.int p2s), .val (.int p3s), .val (.int p4s), .val (.int z210), .val (.int z211), .val (.int z212), .val (.int z213), .val (.ref b215), .val (.ref b219), .unset] [(.int ((p4s &&& (2147483647 : Int32)) % (3 : Int32)))])) _
      refine XS.istore X235.here hx rfl (hb hby at_77) (x := z240) (rest := []) (by subst hz240; rfl) (l' := #[.val (.int p0s), .val (.int p1s), .val (.int p2s), .val (.int p3s), .val (.int p4s), .val (.int z210), .val (.int z211), .val (.int z212), .val (.int z213), .val (.ref b215), .val (.ref b219), .val (.int z240)]) rfl ?_
      show Steps p.tables e below (T235.setTop (mkF m 79 #[.val (.int p0s), .val (.int p1s), .val (.int p2s), .val (.int p3s), .val (.int p4s), .val (.int z210), .val (.int z211), .val (.int z212), .val (.int z213), .val (.ref b215), .val (.ref b219), .val (.int z240)] [])) _
      refine XS.iload X235.here hx rfl (hb hby at_79) rfl ?_
      exact kg_
    by_cases hc242 : z240 = (0 : Int32)
    · have r243 : own_R p.tables e below F0 (T235.setTop (mkF m 86 #[.val (.int p0s), .val (.int p1s), .val (.int p2s), .val (.int p3s), .val (.int p4s), .val (.int z210), .val (.int z211), .val (.int z212), .val (.int z213), .val (.ref b215), .val (.ref b219), .val (.int z240)] [(.ref b219)])) := fun tg_ kg_ => by
        refine r241 tg_ ?_
        show Steps p.tables e below (T235.setTop (mkF m 81 #[.val (.int p0s), .val (.int p1s), .val (.int p2s), .val (.int p3s), .val (.int p4s), .val (.int z210), .val (.int z211), .val (.int z212), .val (.int z213), .val (.ref b215), .val (.ref b219), .val (.int z240)] [(.int z240)])) _
        refine XS.ifNo X235.here hx rfl (hb hby at_81) rfl ((if0 _ _).trans (teq hc242).2) ?_
        show Steps p.tables e below (T235.setTop (mkF m 84 #[.val (.int p0s), .val (.int p1s), .val (.int p2s), .val (.int p3s), .val (.int p4s), .val (.int z210), .val (.int z211), .val (.int z212), .val (.int z213), .val (.ref b215), .val (.ref b219), .val (.int z240)] [])) _
        refine XS.aload X235.here hx rfl (hb hby at_84) rfl rfl ?_
        exact kg_
      obtain ⟨cq244, kq244, q244a, q244b, q244c⟩ := isOf hZ e235 I235_1
      obtain ⟨_, _, ⟨T244, L244, k244, n244⟩, -, X244, ⟨Lc244, hQ244, l244, y244, z244⟩, st244⟩ := X235.virtualBack hx (y := (⟨"com/example/garlicwire/garlicwire/data/DataReader", "rest", "()[B"⟩ : MethodName)) (z := (⟨"com/example/garlicwire/garlicwire/data/DataReader", "rest", "()[B"⟩ : MethodName)) hown (mvT hZ (hw _ (List.mem_of_getElem? (i := 36) rfl))) (mvT hZ (hw _ (List.mem_of_getElem? (i := 37) rfl))) (notFace_of_selects (args := #[]) (mvT hZ (hw _ (List.mem_of_getElem? (i := 39) rfl)))) (mvT hZ (hw _ (List.mem_of_getElem? (i := 39) rfl))) (mvT hZ (hw _ (List.mem_of_getElem? (i := 38) rfl))) (by decide) (backOf (W := 0) (rm7 l Z a0 hw [] b219 ((z211 + z212)) ((z211 + z213)) (nn) (b215) (z211) h235 n0 Zs239 I235_1 ge219 I235_4 I235_5 I235_2 I235_3 F237 F236 ne220 (by
            have q1 := c_iadd z211 z212
            have q2 := rng32 (z211 + z212)
            have q3 := c_iadd z211 z213
            have q4 := rng32 (z211 + z213)
            have q5 := c_isub z212 z213
            have q6 := rng32 (z212 - z213)
            have q7 := c_iadd (z211 + z213) (z212 - z213)
            have q8 := rng32 ((z211 + z213) + (z212 - z213))
            omega)) hZ (hw _ (List.mem_of_getElem? (i := 40) rfl)) (hw _ (List.mem_of_getElem? (i := 4) rfl)) (by decide) (by decide)) q244a q244c (g := (mkF m 86 #[.val (.int p0s), .val (.int p1s), .val (.int p2s), .val (.int p3s), .val (.int p4s), .val (.int z210), .val (.int z211), .val (.int z212), .val (.int z213), .val (.ref b215), .val (.ref b219), .val (.int z240)] [(.ref b219)])) rfl (by rw [hml]; rfl) (Steps.refl _) (argsL := []) (rest := []) (lenOf pd_7 rfl) rfl (by show 2 * 0 + _ ≤ _; exact Nat.le_of_eq rfl) (hb hby at_86) (fun _ _ => ⟨rfl, e235, (by decide : 2 + 1 ≤ _), (by decide : 19 + 15 ≤ _)⟩)
      dsimp only [Pt.U, Pt.locs, Pt.cells, Pt.slots] at X244 l244 y244 z244 st244 hQ244
      subst l244 y244 z244
      obtain ⟨b_244, rfl, N244q, I244_0, I244_1, I244_2, I244_3, I244_4, I244_5⟩ := hQ244
      have N244 := Fr.app N235 N244q
      obtain ⟨h244, e244⟩ : ∃ z, T244.heap = z := ⟨_, rfl⟩
      rw [e244] at I244_0 I244_1 I244_2 I244_3 I244_4 I244_5
      have F245 : Exa Z h244 b215 "[B" := F236.keep I244_0
      have F246 : own_Arf Z h244 b215 .byte nn (fun i => (.int ((fun _ => (0 : Int32)) i))) := F237.keep I244_0 (ninS ne220 nin0)
      have K247 : Keep h0 h244 [] := K238.trans I244_0 (allS (Or.inr old219) all0)
      have Zs248 : n0 ≤ h244.size := Nat.le_trans Zs239 I244_0.1
      have r244 : own_R p.tables e below F0 (T244.setTop (mkF m 89 #[.val (.int p0s), .val (.int p1s), .val (.int p2s), .val (.int p3s), .val (.int p4s), .val (.int z210), .val (.int z211), .val (.int z212), .val (.int z213), .val (.ref b215), .val (.ref b219), .val (.int z240)] [(.ref b_244)])) := fun tg_ kg_ => r243 tg_ (st244.trans kg_)
      have r249 : own_R p.tables e below F0 (T244.setTop (mkF m 125 #[.val (.int p0s), .val (.int p1s), .val (.int p2s), .val (.int p3s), .val (.int p4s), .val (.int z210), .val (.int z211), .val (.int z212), .val (.int z213), .val (.ref b215), .val (.ref b219), .val (.int z240)] [(.ref b219)])) := fun tg_ kg_ => by
        refine r244 tg_ ?_
        show Steps p.tables e below (T244.setTop (mkF m 89 #[.val (.int p0s), .val (.int p1s), .val (.int p2s), .val (.int p3s), .val (.int p4s), .val (.int z210), .val (.int z211), .val (.int z212), .val (.int z213), .val (.ref b215), .val (.ref b219), .val (.int z240)] [(.ref b_244)])) _
        refine XS.pop X244.here hx rfl (hb hby at_89) rfl rfl ?_
        show Steps p.tables e below (T244.setTop (mkF m 90 #[.val (.int p0s), .val (.int p1s), .val (.int p2s), .val (.int p3s), .val (.int p4s), .val (.int z210), .val (.int z211), .val (.int z212), .val (.int z213), .val (.ref b215), .val (.ref b219), .val (.int z240)] [])) _
        refine XS.goto X244.here hx rfl (pc0 := 90) (pc' := 123) rfl (hb hby at_90) (by decide) (by decide) ?_
        show Steps p.tables e below (T244.setTop (mkF m 123 #[.val (.int p0s), .val (.int p1s), .val (.int p2s), .val (.int p3s), .val (.int p4s), .val (.int z210), .val (.int z211), .val (.int z212), .val (.int z213), .val (.ref b215), .val (.ref b219), .val (.int z240)] [])) _
        refine XS.aload X244.here hx rfl (hb hby at_123) rfl rfl ?_
        exact kg_
      obtain ⟨cq250, kq250, q250a, q250b, q250c⟩ := isOf hZ e244 I244_1
      obtain ⟨_, _, ⟨T250, L250, k250, n250⟩, -, X250, ⟨Lc250, hQ250, l250, y250, z250⟩, st250⟩ := X244.virtualBack hx (y := (⟨"com/example/garlicwire/garlicwire/data/DataReader", "end", "()V"⟩ : MethodName)) (z := (⟨"com/example/garlicwire/garlicwire/data/DataReader", "end", "()V"⟩ : MethodName)) hown (mvT hZ (hw _ (List.mem_of_getElem? (i := 54) rfl))) (mvT hZ (hw _ (List.mem_of_getElem? (i := 55) rfl))) (notFace_of_selects (args := #[]) (mvT hZ (hw _ (List.mem_of_getElem? (i := 57) rfl)))) (mvT hZ (hw _ (List.mem_of_getElem? (i := 57) rfl))) (mvT hZ (hw _ (List.mem_of_getElem? (i := 56) rfl))) (by decide) (backOf (W := 0) (rm9 l Z a0 hw [] b219 ((z211 + z212)) ((z211 + z212)) h244 n0 Zs248 I244_2 I244_3 rfl) hZ (hw _ (List.mem_of_getElem? (i := 58) rfl)) (hw _ (List.mem_of_getElem? (i := 4) rfl)) (by decide) (by decide)) q250a q250c (g := (mkF m 125 #[.val (.int p0s), .val (.int p1s), .val (.int p2s), .val (.int p3s), .val (.int p4s), .val (.int z210), .val (.int z211), .val (.int z212), .val (.int z213), .val (.ref b215), .val (.ref b219), .val (.int z240)] [(.ref b219)])) rfl (by rw [hml]; rfl) (Steps.refl _) (argsL := []) (rest := []) (lenOf pd_8 rfl) rfl (by show 2 * 0 + _ ≤ _; exact Nat.le_of_eq rfl) (hb hby at_125) (fun _ _ => ⟨rfl, e244, (by decide : 3 + 0 ≤ _), (by decide : 34 + 0 ≤ _)⟩)
      dsimp only [Pt.U, Pt.locs, Pt.cells, Pt.slots] at X250 l250 y250 z250 st250 hQ250
      subst l250 y250 z250
      obtain ⟨rfl, N250q, I250_0⟩ := hQ250
      have N250 := Fr.app N244 N250q
      have r250 : own_R p.tables e below F0 (T250.setTop (mkF m 128 #[.val (.int p0s), .val (.int p1s), .val (.int p2s), .val (.int p3s), .val (.int p4s), .val (.int z210), .val (.int z211), .val (.int z212), .val (.int z213), .val (.ref b215), .val (.ref b219), .val (.int z240)] [])) := fun tg_ kg_ => r249 tg_ (st250.trans kg_)
      have r251 : own_R p.tables e below F0 (T250.setTop (mkF m 130 #[.val (.int p0s), .val (.int p1s), .val (.int p2s), .val (.int p3s), .val (.int p4s), .val (.int z210), .val (.int z211), .val (.int z212), .val (.int z213), .val (.ref b215), .val (.ref b219), .val (.int z240)] [(.ref b219)])) := fun tg_ kg_ => by
        refine r250 tg_ ?_
        show Steps p.tables e below (T250.setTop (mkF m 128 #[.val (.int p0s), .val (.int p1s), .val (.int p2s), .val (.int p3s), .val (.int p4s), .val (.int z210), .val (.int z211), .val (.int z212), .val (.int z213), .val (.ref b215), .val (.ref b219), .val (.int z240)] [])) _
        refine XS.aload X250.here hx rfl (hb hby at_128) rfl rfl ?_
        exact kg_
      obtain ⟨cq252, kq252, q252a, q252b, q252c⟩ := isOf hZ I250_0 I244_1
      obtain ⟨_, _, ⟨T252, L252, k252, n252⟩, -, X252, ⟨Lc252, hQ252, l252, y252, z252⟩, st252⟩ := X250.virtualBack hx (y := (⟨"com/example/garlicwire/garlicwire/data/DataReader", "end", "()V"⟩ : MethodName)) (z := (⟨"com/example/garlicwire/garlicwire/data/DataReader", "end", "()V"⟩ : MethodName)) hown (mvT hZ (hw _ (List.mem_of_getElem? (i := 54) rfl))) (mvT hZ (hw _ (List.mem_of_getElem? (i := 55) rfl))) (notFace_of_selects (args := #[]) (mvT hZ (hw _ (List.mem_of_getElem? (i := 57) rfl)))) (mvT hZ (hw _ (List.mem_of_getElem? (i := 57) rfl))) (mvT hZ (hw _ (List.mem_of_getElem? (i := 56) rfl))) (by decide) (backOf (W := 0) (rm9 l Z a0 hw [] b219 ((z211 + z212)) ((z211 + z212)) h244 n0 Zs248 I244_2 I244_3 rfl) hZ (hw _ (List.mem_of_getElem? (i := 58) rfl)) (hw _ (List.mem_of_getElem? (i := 4) rfl)) (by decide) (by decide)) q252a q252c (g := (mkF m 130 #[.val (.int p0s), .val (.int p1s), .val (.int p2s), .val (.int p3s), .val (.int p4s), .val (.int z210), .val (.int z211), .val (.int z212), .val (.int z213), .val (.ref b215), .val (.ref b219), .val (.int z240)] [(.ref b219)])) rfl (by rw [hml]; rfl) (Steps.refl _) (argsL := []) (rest := []) (lenOf pd_8 rfl) rfl (by show 2 * 0 + _ ≤ _; exact Nat.le_of_eq rfl) (hb hby at_130) (fun _ _ => ⟨rfl, I250_0, (by decide : 3 + 0 ≤ _), (by decide : 34 + 0 ≤ _)⟩)
      dsimp only [Pt.U, Pt.locs, Pt.cells, Pt.slots] at X252 l252 y252 z252 st252 hQ252
      subst l252 y252 z252
      obtain ⟨rfl, N252q, I252_0⟩ := hQ252
      have N252 := Fr.app N250 N252q
      have r252 : own_R p.tables e below F0 (T252.setTop (mkF m 133 #[.val (.int p0s), .val (.int p1s), .val (.int p2s), .val (.int p3s), .val (.int p4s), .val (.int z210), .val (.int z211), .val (.int z212), .val (.int z213), .val (.ref b215), .val (.ref b219), .val (.int z240)] [])) := fun tg_ kg_ => r251 tg_ (st252.trans kg_)
      have r253 : own_R p.tables e below F0 (T252.setTop (mkF m 135 #[.val (.int p0s), .val (.int p1s), .val (.int p2s), .val (.int p3s), .val (.int p4s), .val (.int z210), .val (.int z211), .val (.int z212), .val (.int z213), .val (.ref b215), .val (.ref b219), .val (.int z240)] [(.ref b219)])) := fun tg_ kg_ => by
        refine r252 tg_ ?_
        show Steps p.tables e below (T252.setTop (mkF m 133 #[.val (.int p0s), .val (.int p1s), .val (.int p2s), .val (.int p3s), .val (.int p4s), .val (.int z210), .val (.int z211), .val (.int z212), .val (.int z213), .val (.ref b215), .val (.ref b219), .val (.int z240)] [])) _
        refine XS.aload X252.here hx rfl (hb hby at_133) rfl rfl ?_
        exact kg_
      obtain ⟨cq254, kq254, q254a, q254b, q254c⟩ := isOf hZ I252_0 I244_1
      obtain ⟨_, _, ⟨T254, L254, k254, n254⟩, -, X254, ⟨Lc254, hQ254, l254, y254, z254⟩, st254⟩ := X252.virtualBack hx (y := (⟨"com/example/garlicwire/garlicwire/data/DataReader", "position", "()I"⟩ : MethodName)) (z := (⟨"com/example/garlicwire/garlicwire/data/DataReader", "position", "()I"⟩ : MethodName)) hown (mvT hZ (hw _ (List.mem_of_getElem? (i := 59) rfl))) (mvT hZ (hw _ (List.mem_of_getElem? (i := 60) rfl))) (notFace_of_selects (args := #[]) (mvT hZ (hw _ (List.mem_of_getElem? (i := 62) rfl)))) (mvT hZ (hw _ (List.mem_of_getElem? (i := 62) rfl))) (mvT hZ (hw _ (List.mem_of_getElem? (i := 61) rfl))) (by decide) (backOf (W := 0) (rm10 l Z a0 hw [] b219 ((z211 + z212)) (z211) h244 n0 Zs248 I244_3 I244_5) hZ (hw _ (List.mem_of_getElem? (i := 63) rfl)) (hw _ (List.mem_of_getElem? (i := 4) rfl)) (by decide) (by decide)) q254a q254c (g := (mkF m 135 #[.val (.int p0s), .val (.int p1s), .val (.int p2s), .val (.int p3s), .val (.int p4s), .val (.int z210), .val (.int z211), .val (.int z212), .val (.int z213), .val (.ref b215), .val (.ref b219), .val (.int z240)] [(.ref b219)])) rfl (by rw [hml]; rfl) (Steps.refl _) (argsL := []) (rest := []) (lenOf pd_9 rfl) rfl (by show 2 * 0 + _ ≤ _; exact Nat.le_of_eq rfl) (hb hby at_135) (fun _ _ => ⟨rfl, I252_0, (by decide : 3 + 0 ≤ _), (by decide : 34 + 0 ≤ _)⟩)
      dsimp only [Pt.U, Pt.locs, Pt.cells, Pt.slots] at X254 l254 y254 z254 st254 hQ254
      subst l254 y254 z254
      obtain ⟨rfl, N254q, I254_0⟩ := hQ254
      have N254 := Fr.app N252 N254q
      have r254 : own_R p.tables e below F0 (T254.setTop (mkF m 138 #[.val (.int p0s), .val (.int p1s), .val (.int p2s), .val (.int p3s), .val (.int p4s), .val (.int z210), .val (.int z211), .val (.int z212), .val (.int z213), .val (.ref b215), .val (.ref b219), .val (.int z240)] [(.int ((z211 + z212) - z211))])) := fun tg_ kg_ => r253 tg_ (st254.trans kg_)
      have r256 : own_R p.tables e below F0 (T254.setTop (mkF m 140 #[.val (.int p0s), .val (.int p1s), .val (.int p2s), .val (.int p3s), .val (.int p4s), .val (.int z210), .val (.int z211), .val (.int z212), .val (.int z213), .val (.ref b215), .val (.ref b219), .val (.int z240)] [(.int z212), (.int ((z211 + z212) - z211))])) := fun tg_ kg_ => by
        refine r254 tg_ ?_
        show Steps p.tables e below (T254.setTop (mkF m 138 #[.val (.int p0s), .val (.int p1s), .val (.int p2s), .val (.int p3s), .val (.int p4s), .val (.int z210), .val (.int z211), .val (.int z212), .val (.int z213), .val (.ref b215), .val (.ref b219), .val (.int z240)] [(.int ((z211 + z212) - z211))])) _
        refine XS.iload X254.here hx rfl (hb hby at_138) rfl ?_
        exact kg_
      have hc255 : ((z211 + z212) - z211) = z212 := (Int32.toInt_inj.mp (by
            have q1 := c_iadd z211 z212
            have q2 := rng32 (z211 + z212)
            have q3 := c_iadd z211 z213
            have q4 := rng32 (z211 + z213)
            have q5 := c_isub z212 z213
            have q6 := rng32 (z212 - z213)
            have q7 := c_iadd (z211 + z213) (z212 - z213)
            have q8 := rng32 ((z211 + z213) + (z212 - z213))
            have q9 := c_isub ((z211 + z212)) z211
            have q10 := rng32 ((z211 + z212) - z211)
            omega))
      have r257 : own_R p.tables e below F0 (T254.setTop (mkF m 148 #[.val (.int p0s), .val (.int p1s), .val (.int p2s), .val (.int p3s), .val (.int p4s), .val (.int z210), .val (.int z211), .val (.int z212), .val (.int z213), .val (.ref b215), .val (.ref b219), .val (.int z240)] [(.int (1 : Int32))])) := fun tg_ kg_ => by
        refine r256 tg_ ?_
        show Steps p.tables e below (T254.setTop (mkF m 140 #[.val (.int p0s), .val (.int p1s), .val (.int p2s), .val (.int p3s), .val (.int p4s), .val (.int z210), .val (.int z211), .val (.int z212), .val (.int z213), .val (.ref b215), .val (.ref b219), .val (.int z240)] [(.int z212), (.int ((z211 + z212) - z211))])) _
        refine XS.icmpNo X254.here hx rfl (hb hby at_140) rfl (teq hc255).2 ?_
        show Steps p.tables e below (T254.setTop (mkF m 143 #[.val (.int p0s), .val (.int p1s), .val (.int p2s), .val (.int p3s), .val (.int p4s), .val (.int z210), .val (.int z211), .val (.int z212), .val (.int z213), .val (.ref b215), .val (.ref b219), .val (.int z240)] [])) _
        refine XS.iconst X254.here hx rfl (hb hby at_143) ?_
        show Steps p.tables e below (T254.setTop (mkF m 144 #[.val (.int p0s), .val (.int p1s), .val (.int p2s), .val (.int p3s), .val (.int p4s), .val (.int z210), .val (.int z211), .val (.int z212), .val (.int z213), .val (.ref b215), .val (.ref b219), .val (.int z240)] [(.int (1 : Int32))])) _
        refine XS.goto X254.here hx rfl (pc0 := 144) (pc' := 148) rfl (hb hby at_144) (by decide) (by decide) ?_
        exact kg_
      refine hG (own_fin X254 hlk (some (.int (nar .boolean (1 : Int32)))) (own_hv Bd.returns) ?_ (by decide) (by decide) (fun fs hr => r257 _ (retN X254 hx (t := .boolean) Bd.returns (by simp) (hb hby at_148) hr)))
      rw [I254_0]
      exact ⟨rfl, N254⟩
    · have r258 : own_R p.tables e below F0 (T235.setTop (mkF m 96 #[.val (.int p0s), .val (.int p1s), .val (.int p2s), .val (.int p3s), .val (.int p4s), .val (.int z210), .val (.int z211), .val (.int z212), .val (.int z213), .val (.ref b215), .val (.ref b219), .val (.int z240)] [(.int (1 : Int32)), (.int z240)])) := fun tg_ kg_ => by
        refine r241 tg_ ?_
        show Steps p.tables e below (T235.setTop (mkF m 81 #[.val (.int p0s), .val (.int p1s), .val (.int p2s), .val (.int p3s), .val (.int p4s), .val (.int z210), .val (.int z211), .val (.int z212), .val (.int z213), .val (.ref b215), .val (.ref b219), .val (.int z240)] [(.int z240)])) _
        refine XS.ifYes X235.here hx rfl (pc0 := 81) (pc' := 93) rfl (hb hby at_81) rfl ((if0 _ _).trans (feq hc242).2) (by decide) (by decide) ?_
        show Steps p.tables e below (T235.setTop (mkF m 93 #[.val (.int p0s), .val (.int p1s), .val (.int p2s), .val (.int p3s), .val (.int p4s), .val (.int z210), .val (.int z211), .val (.int z212), .val (.int z213), .val (.ref b215), .val (.ref b219), .val (.int z240)] [])) _
        refine XS.iload X235.here hx rfl (hb hby at_93) rfl ?_
        show Steps p.tables e below (T235.setTop (mkF m 95 #[.val (.int p0s), .val (.int p1s), .val (.int p2s), .val (.int p3s), .val (.int p4s), .val (.int z210), .val (.int z211), .val (.int z212), .val (.int z213), .val (.ref b215), .val (.ref b219), .val (.int z240)] [(.int z240)])) _
        refine XS.iconst X235.here hx rfl (hb hby at_95) ?_
        exact kg_
      by_cases hc259 : z240 = (1 : Int32)
      · have r260 : own_R p.tables e below F0 (T235.setTop (mkF m 106 #[.val (.int p0s), .val (.int p1s), .val (.int p2s), .val (.int p3s), .val (.int p4s), .val (.int z210), .val (.int z211), .val (.int z212), .val (.int z213), .val (.ref b215), .val (.ref b219), .val (.int z240)] [(.int (z212 - z213)), (.ref b219)])) := fun tg_ kg_ => by
          refine r258 tg_ ?_
          show Steps p.tables e below (T235.setTop (mkF m 96 #[.val (.int p0s), .val (.int p1s), .val (.int p2s), .val (.int p3s), .val (.int p4s), .val (.int z210), .val (.int z211), .val (.int z212), .val (.int z213), .val (.ref b215), .val (.ref b219), .val (.int z240)] [(.int (1 : Int32)), (.int z240)])) _
          refine XS.icmpNo X235.here hx rfl (hb hby at_96) rfl (teq hc259).2 ?_
          show Steps p.tables e below (T235.setTop (mkF m 99 #[.val (.int p0s), .val (.int p1s), .val (.int p2s), .val (.int p3s), .val (.int p4s), .val (.int z210), .val (.int z211), .val (.int z212), .val (.int z213), .val (.ref b215), .val (.ref b219), .val (.int z240)] [])) _
          refine XS.aload X235.here hx rfl (hb hby at_99) rfl rfl ?_
          show Steps p.tables e below (T235.setTop (mkF m 101 #[.val (.int p0s), .val (.int p1s), .val (.int p2s), .val (.int p3s), .val (.int p4s), .val (.int z210), .val (.int z211), .val (.int z212), .val (.int z213), .val (.ref b215), .val (.ref b219), .val (.int z240)] [(.ref b219)])) _
          refine XS.iload X235.here hx rfl (hb hby at_101) rfl ?_
          show Steps p.tables e below (T235.setTop (mkF m 103 #[.val (.int p0s), .val (.int p1s), .val (.int p2s), .val (.int p3s), .val (.int p4s), .val (.int z210), .val (.int z211), .val (.int z212), .val (.int z213), .val (.ref b215), .val (.ref b219), .val (.int z240)] [(.int z212), (.ref b219)])) _
          refine XS.iload X235.here hx rfl (hb hby at_103) rfl ?_
          show Steps p.tables e below (T235.setTop (mkF m 105 #[.val (.int p0s), .val (.int p1s), .val (.int p2s), .val (.int p3s), .val (.int p4s), .val (.int z210), .val (.int z211), .val (.int z212), .val (.int z213), .val (.ref b215), .val (.ref b219), .val (.int z240)] [(.int z213), (.int z212), (.ref b219)])) _
          refine XS.isub X235.here hx rfl (hb hby at_105) rfl ?_
          exact kg_
        obtain ⟨cq261, kq261, q261a, q261b, q261c⟩ := isOf hZ e235 I235_1
        obtain ⟨_, _, ⟨T261, L261, k261, n261⟩, -, X261, ⟨Lc261, hQ261, l261, y261, z261⟩, st261⟩ := X235.virtualBack hx (y := (⟨"com/example/garlicwire/garlicwire/data/DataReader", "skip", "(I)V"⟩ : MethodName)) (z := (⟨"com/example/garlicwire/garlicwire/data/DataReader", "skip", "(I)V"⟩ : MethodName)) hown (mvT hZ (hw _ (List.mem_of_getElem? (i := 27) rfl))) (mvT hZ (hw _ (List.mem_of_getElem? (i := 28) rfl))) (notFace_of_selects (args := #[]) (mvT hZ (hw _ (List.mem_of_getElem? (i := 30) rfl)))) (mvT hZ (hw _ (List.mem_of_getElem? (i := 30) rfl))) (mvT hZ (hw _ (List.mem_of_getElem? (i := 29) rfl))) (by decide) (backOf (W := 0) (rm5 l Z a0 hw [] b219 (z212 - z213) ((z211 + z212)) ((z211 + z213)) (b215) (z211) h235 n0 Zs239 I235_1 ge219 I235_4 I235_5 I235_2 I235_3 (by
              have q1 := c_iadd z211 z212
              have q2 := rng32 (z211 + z212)
              have q3 := c_iadd z211 z213
              have q4 := rng32 (z211 + z213)
              have q5 := c_isub z212 z213
              have q6 := rng32 (z212 - z213)
              have q7 := c_iadd (z211 + z213) (z212 - z213)
              have q8 := rng32 ((z211 + z213) + (z212 - z213))
              omega)) hZ (hw _ (List.mem_of_getElem? (i := 31) rfl)) (hw _ (List.mem_of_getElem? (i := 4) rfl)) (by decide) (by decide)) q261a q261c (g := (mkF m 106 #[.val (.int p0s), .val (.int p1s), .val (.int p2s), .val (.int p3s), .val (.int p4s), .val (.int z210), .val (.int z211), .val (.int z212), .val (.int z213), .val (.ref b215), .val (.ref b219), .val (.int z240)] [(.int (z212 - z213)), (.ref b219)])) rfl (by rw [hml]; rfl) (Steps.refl _) (argsL := [(.int (z212 - z213))]) (rest := []) (lenOf pd_5 rfl) rfl (by show 2 * 0 + _ ≤ _; exact Nat.le_of_eq rfl) (hb hby at_106) (fun _ _ => ⟨rfl, e235, (by decide : 2 + 0 ≤ _), (by decide : 19 + 0 ≤ _)⟩)
        dsimp only [Pt.U, Pt.locs, Pt.cells, Pt.slots] at X261 l261 y261 z261 st261 hQ261
        subst l261 y261 z261
        obtain ⟨rfl, N261q, I261_0, I261_1, I261_2, I261_3, I261_4, I261_5⟩ := hQ261
        have N261 := Fr.app N235 N261q
        obtain ⟨h261, e261⟩ : ∃ z, T261.heap = z := ⟨_, rfl⟩
        rw [e261] at I261_0 I261_1 I261_2 I261_3 I261_4 I261_5
        have F262 : Exa Z h261 b215 "[B" := F236.keep I261_0
        have F263 : own_Arf Z h261 b215 .byte nn (fun i => (.int ((fun _ => (0 : Int32)) i))) := F237.keep I261_0 (ninS ne220 nin0)
        have K264 : Keep h0 h261 [] := K238.trans I261_0 (allS (Or.inr old219) all0)
        have Zs265 : n0 ≤ h261.size := Nat.le_trans Zs239 I261_0.1
        have r261 : own_R p.tables e below F0 (T261.setTop (mkF m 109 #[.val (.int p0s), .val (.int p1s), .val (.int p2s), .val (.int p3s), .val (.int p4s), .val (.int z210), .val (.int z211), .val (.int z212), .val (.int z213), .val (.ref b215), .val (.ref b219), .val (.int z240)] [])) := fun tg_ kg_ => r260 tg_ (st261.trans kg_)
        have r266 : own_R p.tables e below F0 (T261.setTop (mkF m 125 #[.val (.int p0s), .val (.int p1s), .val (.int p2s), .val (.int p3s), .val (.int p4s), .val (.int z210), .val (.int z211), .val (.int z212), .val (.int z213), .val (.ref b215), .val (.ref b219), .val (.int z240)] [(.ref b219)])) := fun tg_ kg_ => by
          refine r261 tg_ ?_
          show Steps p.tables e below (T261.setTop (mkF m 109 #[.val (.int p0s), .val (.int p1s), .val (.int p2s), .val (.int p3s), .val (.int p4s), .val (.int z210), .val (.int z211), .val (.int z212), .val (.int z213), .val (.ref b215), .val (.ref b219), .val (.int z240)] [])) _
          refine XS.goto X261.here hx rfl (pc0 := 109) (pc' := 123) rfl (hb hby at_109) (by decide) (by decide) ?_
          show Steps p.tables e below (T261.setTop (mkF m 123 #[.val (.int p0s), .val (.int p1s), .val (.int p2s), .val (.int p3s), .val (.int p4s), .val (.int z210), .val (.int z211), .val (.int z212), .val (.int z213), .val (.ref b215), .val (.ref b219), .val (.int z240)] [])) _
          refine XS.aload X261.here hx rfl (hb hby at_123) rfl rfl ?_
          exact kg_
        obtain ⟨cq267, kq267, q267a, q267b, q267c⟩ := isOf hZ e261 I261_1
        obtain ⟨_, _, ⟨T267, L267, k267, n267⟩, -, X267, ⟨Lc267, hQ267, l267, y267, z267⟩, st267⟩ := X261.virtualBack hx (y := (⟨"com/example/garlicwire/garlicwire/data/DataReader", "end", "()V"⟩ : MethodName)) (z := (⟨"com/example/garlicwire/garlicwire/data/DataReader", "end", "()V"⟩ : MethodName)) hown (mvT hZ (hw _ (List.mem_of_getElem? (i := 54) rfl))) (mvT hZ (hw _ (List.mem_of_getElem? (i := 55) rfl))) (notFace_of_selects (args := #[]) (mvT hZ (hw _ (List.mem_of_getElem? (i := 57) rfl)))) (mvT hZ (hw _ (List.mem_of_getElem? (i := 57) rfl))) (mvT hZ (hw _ (List.mem_of_getElem? (i := 56) rfl))) (by decide) (backOf (W := 0) (rm9 l Z a0 hw [] b219 ((z211 + z212)) (((z211 + z213) + (z212 - z213))) h261 n0 Zs265 I261_2 I261_3 (Int32.toInt_inj.mp (by
              have q1 := c_iadd z211 z212
              have q2 := rng32 (z211 + z212)
              have q3 := c_iadd z211 z213
              have q4 := rng32 (z211 + z213)
              have q5 := c_isub z212 z213
              have q6 := rng32 (z212 - z213)
              have q7 := c_iadd (z211 + z213) (z212 - z213)
              have q8 := rng32 ((z211 + z213) + (z212 - z213))
              omega))) hZ (hw _ (List.mem_of_getElem? (i := 58) rfl)) (hw _ (List.mem_of_getElem? (i := 4) rfl)) (by decide) (by decide)) q267a q267c (g := (mkF m 125 #[.val (.int p0s), .val (.int p1s), .val (.int p2s), .val (.int p3s), .val (.int p4s), .val (.int z210), .val (.int z211), .val (.int z212), .val (.int z213), .val (.ref b215), .val (.ref b219), .val (.int z240)] [(.ref b219)])) rfl (by rw [hml]; rfl) (Steps.refl _) (argsL := []) (rest := []) (lenOf pd_8 rfl) rfl (by show 2 * 0 + _ ≤ _; exact Nat.le_of_eq rfl) (hb hby at_125) (fun _ _ => ⟨rfl, e261, (by decide : 2 + 0 ≤ _), (by decide : 19 + 0 ≤ _)⟩)
        dsimp only [Pt.U, Pt.locs, Pt.cells, Pt.slots] at X267 l267 y267 z267 st267 hQ267
        subst l267 y267 z267
        obtain ⟨rfl, N267q, I267_0⟩ := hQ267
        have N267 := Fr.app N261 N267q
        have r267 : own_R p.tables e below F0 (T267.setTop (mkF m 128 #[.val (.int p0s), .val (.int p1s), .val (.int p2s), .val (.int p3s), .val (.int p4s), .val (.int z210), .val (.int z211), .val (.int z212), .val (.int z213), .val (.ref b215), .val (.ref b219), .val (.int z240)] [])) := fun tg_ kg_ => r266 tg_ (st267.trans kg_)
        have r268 : own_R p.tables e below F0 (T267.setTop (mkF m 130 #[.val (.int p0s), .val (.int p1s), .val (.int p2s), .val (.int p3s), .val (.int p4s), .val (.int z210), .val (.int z211), .val (.int z212), .val (.int z213), .val (.ref b215), .val (.ref b219), .val (.int z240)] [(.ref b219)])) := fun tg_ kg_ => by
          refine r267 tg_ ?_
          show Steps p.tables e below (T267.setTop (mkF m 128 #[.val (.int p0s), .val (.int p1s), .val (.int p2s), .val (.int p3s), .val (.int p4s), .val (.int z210), .val (.int z211), .val (.int z212), .val (.int z213), .val (.ref b215), .val (.ref b219), .val (.int z240)] [])) _
          refine XS.aload X267.here hx rfl (hb hby at_128) rfl rfl ?_
          exact kg_
        obtain ⟨cq269, kq269, q269a, q269b, q269c⟩ := isOf hZ I267_0 I261_1
        obtain ⟨_, _, ⟨T269, L269, k269, n269⟩, -, X269, ⟨Lc269, hQ269, l269, y269, z269⟩, st269⟩ := X267.virtualBack hx (y := (⟨"com/example/garlicwire/garlicwire/data/DataReader", "end", "()V"⟩ : MethodName)) (z := (⟨"com/example/garlicwire/garlicwire/data/DataReader", "end", "()V"⟩ : MethodName)) hown (mvT hZ (hw _ (List.mem_of_getElem? (i := 54) rfl))) (mvT hZ (hw _ (List.mem_of_getElem? (i := 55) rfl))) (notFace_of_selects (args := #[]) (mvT hZ (hw _ (List.mem_of_getElem? (i := 57) rfl)))) (mvT hZ (hw _ (List.mem_of_getElem? (i := 57) rfl))) (mvT hZ (hw _ (List.mem_of_getElem? (i := 56) rfl))) (by decide) (backOf (W := 0) (rm9 l Z a0 hw [] b219 ((z211 + z212)) (((z211 + z213) + (z212 - z213))) h261 n0 Zs265 I261_2 I261_3 (Int32.toInt_inj.mp (by
              have q1 := c_iadd z211 z212
              have q2 := rng32 (z211 + z212)
              have q3 := c_iadd z211 z213
              have q4 := rng32 (z211 + z213)
              have q5 := c_isub z212 z213
              have q6 := rng32 (z212 - z213)
              have q7 := c_iadd (z211 + z213) (z212 - z213)
              have q8 := rng32 ((z211 + z213) + (z212 - z213))
              omega))) hZ (hw _ (List.mem_of_getElem? (i := 58) rfl)) (hw _ (List.mem_of_getElem? (i := 4) rfl)) (by decide) (by decide)) q269a q269c (g := (mkF m 130 #[.val (.int p0s), .val (.int p1s), .val (.int p2s), .val (.int p3s), .val (.int p4s), .val (.int z210), .val (.int z211), .val (.int z212), .val (.int z213), .val (.ref b215), .val (.ref b219), .val (.int z240)] [(.ref b219)])) rfl (by rw [hml]; rfl) (Steps.refl _) (argsL := []) (rest := []) (lenOf pd_8 rfl) rfl (by show 2 * 0 + _ ≤ _; exact Nat.le_of_eq rfl) (hb hby at_130) (fun _ _ => ⟨rfl, I267_0, (by decide : 2 + 0 ≤ _), (by decide : 19 + 0 ≤ _)⟩)
        dsimp only [Pt.U, Pt.locs, Pt.cells, Pt.slots] at X269 l269 y269 z269 st269 hQ269
        subst l269 y269 z269
        obtain ⟨rfl, N269q, I269_0⟩ := hQ269
        have N269 := Fr.app N267 N269q
        have r269 : own_R p.tables e below F0 (T269.setTop (mkF m 133 #[.val (.int p0s), .val (.int p1s), .val (.int p2s), .val (.int p3s), .val (.int p4s), .val (.int z210), .val (.int z211), .val (.int z212), .val (.int z213), .val (.ref b215), .val (.ref b219), .val (.int z240)] [])) := fun tg_ kg_ => r268 tg_ (st269.trans kg_)
        have r270 : own_R p.tables e below F0 (T269.setTop (mkF m 135 #[.val (.int p0s), .val (.int p1s), .val (.int p2s), .val (.int p3s), .val (.int p4s), .val (.int z210), .val (.int z211), .val (.int z212), .val (.int z213), .val (.ref b215), .val (.ref b219), .val (.int z240)] [(.ref b219)])) := fun tg_ kg_ => by
          refine r269 tg_ ?_
          show Steps p.tables e below (T269.setTop (mkF m 133 #[.val (.int p0s), .val (.int p1s), .val (.int p2s), .val (.int p3s), .val (.int p4s), .val (.int z210), .val (.int z211), .val (.int z212), .val (.int z213), .val (.ref b215), .val (.ref b219), .val (.int z240)] [])) _
          refine XS.aload X269.here hx rfl (hb hby at_133) rfl rfl ?_
          exact kg_
        obtain ⟨cq271, kq271, q271a, q271b, q271c⟩ := isOf hZ I269_0 I261_1
        obtain ⟨_, _, ⟨T271, L271, k271, n271⟩, -, X271, ⟨Lc271, hQ271, l271, y271, z271⟩, st271⟩ := X269.virtualBack hx (y := (⟨"com/example/garlicwire/garlicwire/data/DataReader", "position", "()I"⟩ : MethodName)) (z := (⟨"com/example/garlicwire/garlicwire/data/DataReader", "position", "()I"⟩ : MethodName)) hown (mvT hZ (hw _ (List.mem_of_getElem? (i := 59) rfl))) (mvT hZ (hw _ (List.mem_of_getElem? (i := 60) rfl))) (notFace_of_selects (args := #[]) (mvT hZ (hw _ (List.mem_of_getElem? (i := 62) rfl)))) (mvT hZ (hw _ (List.mem_of_getElem? (i := 62) rfl))) (mvT hZ (hw _ (List.mem_of_getElem? (i := 61) rfl))) (by decide) (backOf (W := 0) (rm10 l Z a0 hw [] b219 (((z211 + z213) + (z212 - z213))) (z211) h261 n0 Zs265 I261_3 I261_5) hZ (hw _ (List.mem_of_getElem? (i := 63) rfl)) (hw _ (List.mem_of_getElem? (i := 4) rfl)) (by decide) (by decide)) q271a q271c (g := (mkF m 135 #[.val (.int p0s), .val (.int p1s), .val (.int p2s), .val (.int p3s), .val (.int p4s), .val (.int z210), .val (.int z211), .val (.int z212), .val (.int z213), .val (.ref b215), .val (.ref b219), .val (.int z240)] [(.ref b219)])) rfl (by rw [hml]; rfl) (Steps.refl _) (argsL := []) (rest := []) (lenOf pd_9 rfl) rfl (by show 2 * 0 + _ ≤ _; exact Nat.le_of_eq rfl) (hb hby at_135) (fun _ _ => ⟨rfl, I269_0, (by decide : 2 + 0 ≤ _), (by decide : 19 + 0 ≤ _)⟩)
        dsimp only [Pt.U, Pt.locs, Pt.cells, Pt.slots] at X271 l271 y271 z271 st271 hQ271
        subst l271 y271 z271
        obtain ⟨rfl, N271q, I271_0⟩ := hQ271
        have N271 := Fr.app N269 N271q
        have r271 : own_R p.tables e below F0 (T271.setTop (mkF m 138 #[.val (.int p0s), .val (.int p1s), .val (.int p2s), .val (.int p3s), .val (.int p4s), .val (.int z210), .val (.int z211), .val (.int z212), .val (.int z213), .val (.ref b215), .val (.ref b219), .val (.int z240)] [(.int (((z211 + z213) + (z212 - z213)) - z211))])) := fun tg_ kg_ => r270 tg_ (st271.trans kg_)
        have r273 : own_R p.tables e below F0 (T271.setTop (mkF m 140 #[.val (.int p0s), .val (.int p1s), .val (.int p2s), .val (.int p3s), .val (.int p4s), .val (.int z210), .val (.int z211), .val (.int z212), .val (.int z213), .val (.ref b215), .val (.ref b219), .val (.int z240)] [(.int z212), (.int (((z211 + z213) + (z212 - z213)) - z211))])) := fun tg_ kg_ => by
          refine r271 tg_ ?_
          show Steps p.tables e below (T271.setTop (mkF m 138 #[.val (.int p0s), .val (.int p1s), .val (.int p2s), .val (.int p3s), .val (.int p4s), .val (.int z210), .val (.int z211), .val (.int z212), .val (.int z213), .val (.ref b215), .val (.ref b219), .val (.int z240)] [(.int (((z211 + z213) + (z212 - z213)) - z211))])) _
          refine XS.iload X271.here hx rfl (hb hby at_138) rfl ?_
          exact kg_
        have hc272 : (((z211 + z213) + (z212 - z213)) - z211) = z212 := (Int32.toInt_inj.mp (by
              have q1 := c_iadd z211 z212
              have q2 := rng32 (z211 + z212)
              have q3 := c_iadd z211 z213
              have q4 := rng32 (z211 + z213)
              have q5 := c_isub z212 z213
              have q6 := rng32 (z212 - z213)
              have q7 := c_iadd (z211 + z213) (z212 - z213)
              have q8 := rng32 ((z211 + z213) + (z212 - z213))
              have q9 := c_isub (((z211 + z213) + (z212 - z213))) z211
              have q10 := rng32 (((z211 + z213) + (z212 - z213)) - z211)
              omega))
        have r274 : own_R p.tables e below F0 (T271.setTop (mkF m 148 #[.val (.int p0s), .val (.int p1s), .val (.int p2s), .val (.int p3s), .val (.int p4s), .val (.int z210), .val (.int z211), .val (.int z212), .val (.int z213), .val (.ref b215), .val (.ref b219), .val (.int z240)] [(.int (1 : Int32))])) := fun tg_ kg_ => by
          refine r273 tg_ ?_
          show Steps p.tables e below (T271.setTop (mkF m 140 #[.val (.int p0s), .val (.int p1s), .val (.int p2s), .val (.int p3s), .val (.int p4s), .val (.int z210), .val (.int z211), .val (.int z212), .val (.int z213), .val (.ref b215), .val (.ref b219), .val (.int z240)] [(.int z212), (.int (((z211 + z213) + (z212 - z213)) - z211))])) _
          refine XS.icmpNo X271.here hx rfl (hb hby at_140) rfl (teq hc272).2 ?_
          show Steps p.tables e below (T271.setTop (mkF m 143 #[.val (.int p0s), .val (.int p1s), .val (.int p2s), .val (.int p3s), .val (.int p4s), .val (.int z210), .val (.int z211), .val (.int z212), .val (.int z213), .val (.ref b215), .val (.ref b219), .val (.int z240)] [])) _
          refine XS.iconst X271.here hx rfl (hb hby at_143) ?_
          show Steps p.tables e below (T271.setTop (mkF m 144 #[.val (.int p0s), .val (.int p1s), .val (.int p2s), .val (.int p3s), .val (.int p4s), .val (.int z210), .val (.int z211), .val (.int z212), .val (.int z213), .val (.ref b215), .val (.ref b219), .val (.int z240)] [(.int (1 : Int32))])) _
          refine XS.goto X271.here hx rfl (pc0 := 144) (pc' := 148) rfl (hb hby at_144) (by decide) (by decide) ?_
          exact kg_
        refine hG (own_fin X271 hlk (some (.int (nar .boolean (1 : Int32)))) (own_hv Bd.returns) ?_ (by decide) (by decide) (fun fs hr => r274 _ (retN X271 hx (t := .boolean) Bd.returns (by simp) (hb hby at_148) hr)))
        rw [I271_0]
        exact ⟨rfl, N271⟩
      · have r275 : own_R p.tables e below F0 (T235.setTop (mkF m 119 #[.val (.int p0s), .val (.int p1s), .val (.int p2s), .val (.int p3s), .val (.int p4s), .val (.int z210), .val (.int z211), .val (.int z212), .val (.int z213), .val (.ref b215), .val (.ref b219), .val (.int z240)] [(.int (z212 - z213)), (.ref b219)])) := fun tg_ kg_ => by
          refine r258 tg_ ?_
          show Steps p.tables e below (T235.setTop (mkF m 96 #[.val (.int p0s), .val (.int p1s), .val (.int p2s), .val (.int p3s), .val (.int p4s), .val (.int z210), .val (.int z211), .val (.int z212), .val (.int z213), .val (.ref b215), .val (.ref b219), .val (.int z240)] [(.int (1 : Int32)), (.int z240)])) _
          refine XS.icmpYes X235.here hx rfl (pc0 := 96) (pc' := 112) rfl (hb hby at_96) rfl (feq hc259).2 (by decide) (by decide) ?_
          show Steps p.tables e below (T235.setTop (mkF m 112 #[.val (.int p0s), .val (.int p1s), .val (.int p2s), .val (.int p3s), .val (.int p4s), .val (.int z210), .val (.int z211), .val (.int z212), .val (.int z213), .val (.ref b215), .val (.ref b219), .val (.int z240)] [])) _
          refine XS.aload X235.here hx rfl (hb hby at_112) rfl rfl ?_
          show Steps p.tables e below (T235.setTop (mkF m 114 #[.val (.int p0s), .val (.int p1s), .val (.int p2s), .val (.int p3s), .val (.int p4s), .val (.int z210), .val (.int z211), .val (.int z212), .val (.int z213), .val (.ref b215), .val (.ref b219), .val (.int z240)] [(.ref b219)])) _
          refine XS.iload X235.here hx rfl (hb hby at_114) rfl ?_
          show Steps p.tables e below (T235.setTop (mkF m 116 #[.val (.int p0s), .val (.int p1s), .val (.int p2s), .val (.int p3s), .val (.int p4s), .val (.int z210), .val (.int z211), .val (.int z212), .val (.int z213), .val (.ref b215), .val (.ref b219), .val (.int z240)] [(.int z212), (.ref b219)])) _
          refine XS.iload X235.here hx rfl (hb hby at_116) rfl ?_
          show Steps p.tables e below (T235.setTop (mkF m 118 #[.val (.int p0s), .val (.int p1s), .val (.int p2s), .val (.int p3s), .val (.int p4s), .val (.int z210), .val (.int z211), .val (.int z212), .val (.int z213), .val (.ref b215), .val (.ref b219), .val (.int z240)] [(.int z213), (.int z212), (.ref b219)])) _
          refine XS.isub X235.here hx rfl (hb hby at_118) rfl ?_
          exact kg_
        obtain ⟨cq276, kq276, q276a, q276b, q276c⟩ := isOf hZ e235 I235_1
        obtain ⟨_, _, ⟨T276, L276, k276, n276⟩, -, X276, ⟨Lc276, hQ276, l276, y276, z276⟩, st276⟩ := X235.virtualBack hx (y := (⟨"com/example/garlicwire/garlicwire/data/DataReader", "bytes", "(I)[B"⟩ : MethodName)) (z := (⟨"com/example/garlicwire/garlicwire/data/DataReader", "bytes", "(I)[B"⟩ : MethodName)) hown (mvT hZ (hw _ (List.mem_of_getElem? (i := 64) rfl))) (mvT hZ (hw _ (List.mem_of_getElem? (i := 65) rfl))) (notFace_of_selects (args := #[]) (mvT hZ (hw _ (List.mem_of_getElem? (i := 67) rfl)))) (mvT hZ (hw _ (List.mem_of_getElem? (i := 67) rfl))) (mvT hZ (hw _ (List.mem_of_getElem? (i := 66) rfl))) (by decide) (backOf (W := 0) (rm11 l Z a0 hw [] b219 (z212 - z213) ((z211 + z212)) ((z211 + z213)) (nn) (b215) (z211) h235 n0 Zs239 I235_1 ge219 I235_4 I235_5 I235_2 I235_3 F237 F236 ne220 (by
              have q1 := c_iadd z211 z212
              have q2 := rng32 (z211 + z212)
              have q3 := c_iadd z211 z213
              have q4 := rng32 (z211 + z213)
              have q5 := c_isub z212 z213
              have q6 := rng32 (z212 - z213)
              have q7 := c_iadd (z211 + z213) (z212 - z213)
              have q8 := rng32 ((z211 + z213) + (z212 - z213))
              omega)) hZ (hw _ (List.mem_of_getElem? (i := 68) rfl)) (hw _ (List.mem_of_getElem? (i := 4) rfl)) (by decide) (by decide)) q276a q276c (g := (mkF m 119 #[.val (.int p0s), .val (.int p1s), .val (.int p2s), .val (.int p3s), .val (.int p4s), .val (.int z210), .val (.int z211), .val (.int z212), .val (.int z213), .val (.ref b215), .val (.ref b219), .val (.int z240)] [(.int (z212 - z213)), (.ref b219)])) rfl (by rw [hml]; rfl) (Steps.refl _) (argsL := [(.int (z212 - z213))]) (rest := []) (lenOf pd_10 rfl) rfl (by show 2 * 0 + _ ≤ _; exact Nat.le_of_eq rfl) (hb hby at_119) (fun _ _ => ⟨rfl, e235, (by decide : 2 + 1 ≤ _), (by decide : 19 + 15 ≤ _)⟩)
        dsimp only [Pt.U, Pt.locs, Pt.cells, Pt.slots] at X276 l276 y276 z276 st276 hQ276
        subst l276 y276 z276
        obtain ⟨b_276, rfl, N276q, I276_0, I276_1, I276_2, I276_3, I276_4, I276_5⟩ := hQ276
        have N276 := Fr.app N235 N276q
        obtain ⟨h276, e276⟩ : ∃ z, T276.heap = z := ⟨_, rfl⟩
        rw [e276] at I276_0 I276_1 I276_2 I276_3 I276_4 I276_5
        have F277 : Exa Z h276 b215 "[B" := F236.keep I276_0
        have F278 : own_Arf Z h276 b215 .byte nn (fun i => (.int ((fun _ => (0 : Int32)) i))) := F237.keep I276_0 (ninS ne220 nin0)
        have K279 : Keep h0 h276 [] := K238.trans I276_0 (allS (Or.inr old219) all0)
        have Zs280 : n0 ≤ h276.size := Nat.le_trans Zs239 I276_0.1
        have r276 : own_R p.tables e below F0 (T276.setTop (mkF m 122 #[.val (.int p0s), .val (.int p1s), .val (.int p2s), .val (.int p3s), .val (.int p4s), .val (.int z210), .val (.int z211), .val (.int z212), .val (.int z213), .val (.ref b215), .val (.ref b219), .val (.int z240)] [(.ref b_276)])) := fun tg_ kg_ => r275 tg_ (st276.trans kg_)
        have r281 : own_R p.tables e below F0 (T276.setTop (mkF m 125 #[.val (.int p0s), .val (.int p1s), .val (.int p2s), .val (.int p3s), .val (.int p4s), .val (.int z210), .val (.int z211), .val (.int z212), .val (.int z213), .val (.ref b215), .val (.ref b219), .val (.int z240)] [(.ref b219)])) := fun tg_ kg_ => by
          refine r276 tg_ ?_
          show Steps p.tables e below (T276.setTop (mkF m 122 #[.val (.int p0s), .val (.int p1s), .val (.int p2s), .val (.int p3s), .val (.int p4s), .val (.int z210), .val (.int z211), .val (.int z212), .val (.int z213), .val (.ref b215), .val (.ref b219), .val (.int z240)] [(.ref b_276)])) _
          refine XS.pop X276.here hx rfl (hb hby at_122) rfl rfl ?_
          show Steps p.tables e below (T276.setTop (mkF m 123 #[.val (.int p0s), .val (.int p1s), .val (.int p2s), .val (.int p3s), .val (.int p4s), .val (.int z210), .val (.int z211), .val (.int z212), .val (.int z213), .val (.ref b215), .val (.ref b219), .val (.int z240)] [])) _
          refine XS.aload X276.here hx rfl (hb hby at_123) rfl rfl ?_
          exact kg_
        obtain ⟨cq282, kq282, q282a, q282b, q282c⟩ := isOf hZ e276 I276_1
        obtain ⟨_, _, ⟨T282, L282, k282, n282⟩, -, X282, ⟨Lc282, hQ282, l282, y282, z282⟩, st282⟩ := X276.virtualBack hx (y := (⟨"com/example/garlicwire/garlicwire/data/DataReader", "end", "()V"⟩ : MethodName)) (z := (⟨"com/example/garlicwire/garlicwire/data/DataReader", "end", "()V"⟩ : MethodName)) hown (mvT hZ (hw _ (List.mem_of_getElem? (i := 54) rfl))) (mvT hZ (hw _ (List.mem_of_getElem? (i := 55) rfl))) (notFace_of_selects (args := #[]) (mvT hZ (hw _ (List.mem_of_getElem? (i := 57) rfl)))) (mvT hZ (hw _ (List.mem_of_getElem? (i := 57) rfl))) (mvT hZ (hw _ (List.mem_of_getElem? (i := 56) rfl))) (by decide) (backOf (W := 0) (rm9 l Z a0 hw [] b219 ((z211 + z212)) (((z211 + z213) + (z212 - z213))) h276 n0 Zs280 I276_2 I276_3 (Int32.toInt_inj.mp (by
              have q1 := c_iadd z211 z212
              have q2 := rng32 (z211 + z212)
              have q3 := c_iadd z211 z213
              have q4 := rng32 (z211 + z213)
              have q5 := c_isub z212 z213
              have q6 := rng32 (z212 - z213)
              have q7 := c_iadd (z211 + z213) (z212 - z213)
              have q8 := rng32 ((z211 + z213) + (z212 - z213))
              omega))) hZ (hw _ (List.mem_of_getElem? (i := 58) rfl)) (hw _ (List.mem_of_getElem? (i := 4) rfl)) (by decide) (by decide)) q282a q282c (g := (mkF m 125 #[.val (.int p0s), .val (.int p1s), .val (.int p2s), .val (.int p3s), .val (.int p4s), .val (.int z210), .val (.int z211), .val (.int z212), .val (.int z213), .val (.ref b215), .val (.ref b219), .val (.int z240)] [(.ref b219)])) rfl (by rw [hml]; rfl) (Steps.refl _) (argsL := []) (rest := []) (lenOf pd_8 rfl) rfl (by show 2 * 0 + _ ≤ _; exact Nat.le_of_eq rfl) (hb hby at_125) (fun _ _ => ⟨rfl, e276, (by decide : 3 + 0 ≤ _), (by decide : 34 + 0 ≤ _)⟩)
        dsimp only [Pt.U, Pt.locs, Pt.cells, Pt.slots] at X282 l282 y282 z282 st282 hQ282
        subst l282 y282 z282
        obtain ⟨rfl, N282q, I282_0⟩ := hQ282
        have N282 := Fr.app N276 N282q
        have r282 : own_R p.tables e below F0 (T282.setTop (mkF m 128 #[.val (.int p0s), .val (.int p1s), .val (.int p2s), .val (.int p3s), .val (.int p4s), .val (.int z210), .val (.int z211), .val (.int z212), .val (.int z213), .val (.ref b215), .val (.ref b219), .val (.int z240)] [])) := fun tg_ kg_ => r281 tg_ (st282.trans kg_)
        have r283 : own_R p.tables e below F0 (T282.setTop (mkF m 130 #[.val (.int p0s), .val (.int p1s), .val (.int p2s), .val (.int p3s), .val (.int p4s), .val (.int z210), .val (.int z211), .val (.int z212), .val (.int z213), .val (.ref b215), .val (.ref b219), .val (.int z240)] [(.ref b219)])) := fun tg_ kg_ => by
          refine r282 tg_ ?_
          show Steps p.tables e below (T282.setTop (mkF m 128 #[.val (.int p0s), .val (.int p1s), .val (.int p2s), .val (.int p3s), .val (.int p4s), .val (.int z210), .val (.int z211), .val (.int z212), .val (.int z213), .val (.ref b215), .val (.ref b219), .val (.int z240)] [])) _
          refine XS.aload X282.here hx rfl (hb hby at_128) rfl rfl ?_
          exact kg_
        obtain ⟨cq284, kq284, q284a, q284b, q284c⟩ := isOf hZ I282_0 I276_1
        obtain ⟨_, _, ⟨T284, L284, k284, n284⟩, -, X284, ⟨Lc284, hQ284, l284, y284, z284⟩, st284⟩ := X282.virtualBack hx (y := (⟨"com/example/garlicwire/garlicwire/data/DataReader", "end", "()V"⟩ : MethodName)) (z := (⟨"com/example/garlicwire/garlicwire/data/DataReader", "end", "()V"⟩ : MethodName)) hown (mvT hZ (hw _ (List.mem_of_getElem? (i := 54) rfl))) (mvT hZ (hw _ (List.mem_of_getElem? (i := 55) rfl))) (notFace_of_selects (args := #[]) (mvT hZ (hw _ (List.mem_of_getElem? (i := 57) rfl)))) (mvT hZ (hw _ (List.mem_of_getElem? (i := 57) rfl))) (mvT hZ (hw _ (List.mem_of_getElem? (i := 56) rfl))) (by decide) (backOf (W := 0) (rm9 l Z a0 hw [] b219 ((z211 + z212)) (((z211 + z213) + (z212 - z213))) h276 n0 Zs280 I276_2 I276_3 (Int32.toInt_inj.mp (by
              have q1 := c_iadd z211 z212
              have q2 := rng32 (z211 + z212)
              have q3 := c_iadd z211 z213
              have q4 := rng32 (z211 + z213)
              have q5 := c_isub z212 z213
              have q6 := rng32 (z212 - z213)
              have q7 := c_iadd (z211 + z213) (z212 - z213)
              have q8 := rng32 ((z211 + z213) + (z212 - z213))
              omega))) hZ (hw _ (List.mem_of_getElem? (i := 58) rfl)) (hw _ (List.mem_of_getElem? (i := 4) rfl)) (by decide) (by decide)) q284a q284c (g := (mkF m 130 #[.val (.int p0s), .val (.int p1s), .val (.int p2s), .val (.int p3s), .val (.int p4s), .val (.int z210), .val (.int z211), .val (.int z212), .val (.int z213), .val (.ref b215), .val (.ref b219), .val (.int z240)] [(.ref b219)])) rfl (by rw [hml]; rfl) (Steps.refl _) (argsL := []) (rest := []) (lenOf pd_8 rfl) rfl (by show 2 * 0 + _ ≤ _; exact Nat.le_of_eq rfl) (hb hby at_130) (fun _ _ => ⟨rfl, I282_0, (by decide : 3 + 0 ≤ _), (by decide : 34 + 0 ≤ _)⟩)
        dsimp only [Pt.U, Pt.locs, Pt.cells, Pt.slots] at X284 l284 y284 z284 st284 hQ284
        subst l284 y284 z284
        obtain ⟨rfl, N284q, I284_0⟩ := hQ284
        have N284 := Fr.app N282 N284q
        have r284 : own_R p.tables e below F0 (T284.setTop (mkF m 133 #[.val (.int p0s), .val (.int p1s), .val (.int p2s), .val (.int p3s), .val (.int p4s), .val (.int z210), .val (.int z211), .val (.int z212), .val (.int z213), .val (.ref b215), .val (.ref b219), .val (.int z240)] [])) := fun tg_ kg_ => r283 tg_ (st284.trans kg_)
        have r285 : own_R p.tables e below F0 (T284.setTop (mkF m 135 #[.val (.int p0s), .val (.int p1s), .val (.int p2s), .val (.int p3s), .val (.int p4s), .val (.int z210), .val (.int z211), .val (.int z212), .val (.int z213), .val (.ref b215), .val (.ref b219), .val (.int z240)] [(.ref b219)])) := fun tg_ kg_ => by
          refine r284 tg_ ?_
          show Steps p.tables e below (T284.setTop (mkF m 133 #[.val (.int p0s), .val (.int p1s), .val (.int p2s), .val (.int p3s), .val (.int p4s), .val (.int z210), .val (.int z211), .val (.int z212), .val (.int z213), .val (.ref b215), .val (.ref b219), .val (.int z240)] [])) _
          refine XS.aload X284.here hx rfl (hb hby at_133) rfl rfl ?_
          exact kg_
        obtain ⟨cq286, kq286, q286a, q286b, q286c⟩ := isOf hZ I284_0 I276_1
        obtain ⟨_, _, ⟨T286, L286, k286, n286⟩, -, X286, ⟨Lc286, hQ286, l286, y286, z286⟩, st286⟩ := X284.virtualBack hx (y := (⟨"com/example/garlicwire/garlicwire/data/DataReader", "position", "()I"⟩ : MethodName)) (z := (⟨"com/example/garlicwire/garlicwire/data/DataReader", "position", "()I"⟩ : MethodName)) hown (mvT hZ (hw _ (List.mem_of_getElem? (i := 59) rfl))) (mvT hZ (hw _ (List.mem_of_getElem? (i := 60) rfl))) (notFace_of_selects (args := #[]) (mvT hZ (hw _ (List.mem_of_getElem? (i := 62) rfl)))) (mvT hZ (hw _ (List.mem_of_getElem? (i := 62) rfl))) (mvT hZ (hw _ (List.mem_of_getElem? (i := 61) rfl))) (by decide) (backOf (W := 0) (rm10 l Z a0 hw [] b219 (((z211 + z213) + (z212 - z213))) (z211) h276 n0 Zs280 I276_3 I276_5) hZ (hw _ (List.mem_of_getElem? (i := 63) rfl)) (hw _ (List.mem_of_getElem? (i := 4) rfl)) (by decide) (by decide)) q286a q286c (g := (mkF m 135 #[.val (.int p0s), .val (.int p1s), .val (.int p2s), .val (.int p3s), .val (.int p4s), .val (.int z210), .val (.int z211), .val (.int z212), .val (.int z213), .val (.ref b215), .val (.ref b219), .val (.int z240)] [(.ref b219)])) rfl (by rw [hml]; rfl) (Steps.refl _) (argsL := []) (rest := []) (lenOf pd_9 rfl) rfl (by show 2 * 0 + _ ≤ _; exact Nat.le_of_eq rfl) (hb hby at_135) (fun _ _ => ⟨rfl, I284_0, (by decide : 3 + 0 ≤ _), (by decide : 34 + 0 ≤ _)⟩)
        dsimp only [Pt.U, Pt.locs, Pt.cells, Pt.slots] at X286 l286 y286 z286 st286 hQ286
        subst l286 y286 z286
        obtain ⟨rfl, N286q, I286_0⟩ := hQ286
        have N286 := Fr.app N284 N286q
        have r286 : own_R p.tables e below F0 (T286.setTop (mkF m 138 #[.val (.int p0s), .val (.int p1s), .val (.int p2s), .val (.int p3s), .val (.int p4s), .val (.int z210), .val (.int z211), .val (.int z212), .val (.int z213), .val (.ref b215), .val (.ref b219), .val (.int z240)] [(.int (((z211 + z213) + (z212 - z213)) - z211))])) := fun tg_ kg_ => r285 tg_ (st286.trans kg_)
        have r288 : own_R p.tables e below F0 (T286.setTop (mkF m 140 #[.val (.int p0s), .val (.int p1s), .val (.int p2s), .val (.int p3s), .val (.int p4s), .val (.int z210), .val (.int z211), .val (.int z212), .val (.int z213), .val (.ref b215), .val (.ref b219), .val (.int z240)] [(.int z212), (.int (((z211 + z213) + (z212 - z213)) - z211))])) := fun tg_ kg_ => by
          refine r286 tg_ ?_
          show Steps p.tables e below (T286.setTop (mkF m 138 #[.val (.int p0s), .val (.int p1s), .val (.int p2s), .val (.int p3s), .val (.int p4s), .val (.int z210), .val (.int z211), .val (.int z212), .val (.int z213), .val (.ref b215), .val (.ref b219), .val (.int z240)] [(.int (((z211 + z213) + (z212 - z213)) - z211))])) _
          refine XS.iload X286.here hx rfl (hb hby at_138) rfl ?_
          exact kg_
        have hc287 : (((z211 + z213) + (z212 - z213)) - z211) = z212 := (Int32.toInt_inj.mp (by
              have q1 := c_iadd z211 z212
              have q2 := rng32 (z211 + z212)
              have q3 := c_iadd z211 z213
              have q4 := rng32 (z211 + z213)
              have q5 := c_isub z212 z213
              have q6 := rng32 (z212 - z213)
              have q7 := c_iadd (z211 + z213) (z212 - z213)
              have q8 := rng32 ((z211 + z213) + (z212 - z213))
              have q9 := c_isub (((z211 + z213) + (z212 - z213))) z211
              have q10 := rng32 (((z211 + z213) + (z212 - z213)) - z211)
              omega))
        have r289 : own_R p.tables e below F0 (T286.setTop (mkF m 148 #[.val (.int p0s), .val (.int p1s), .val (.int p2s), .val (.int p3s), .val (.int p4s), .val (.int z210), .val (.int z211), .val (.int z212), .val (.int z213), .val (.ref b215), .val (.ref b219), .val (.int z240)] [(.int (1 : Int32))])) := fun tg_ kg_ => by
          refine r288 tg_ ?_
          show Steps p.tables e below (T286.setTop (mkF m 140 #[.val (.int p0s), .val (.int p1s), .val (.int p2s), .val (.int p3s), .val (.int p4s), .val (.int z210), .val (.int z211), .val (.int z212), .val (.int z213), .val (.ref b215), .val (.ref b219), .val (.int z240)] [(.int z212), (.int (((z211 + z213) + (z212 - z213)) - z211))])) _
          refine XS.icmpNo X286.here hx rfl (hb hby at_140) rfl (teq hc287).2 ?_
          show Steps p.tables e below (T286.setTop (mkF m 143 #[.val (.int p0s), .val (.int p1s), .val (.int p2s), .val (.int p3s), .val (.int p4s), .val (.int z210), .val (.int z211), .val (.int z212), .val (.int z213), .val (.ref b215), .val (.ref b219), .val (.int z240)] [])) _
          refine XS.iconst X286.here hx rfl (hb hby at_143) ?_
          show Steps p.tables e below (T286.setTop (mkF m 144 #[.val (.int p0s), .val (.int p1s), .val (.int p2s), .val (.int p3s), .val (.int p4s), .val (.int z210), .val (.int z211), .val (.int z212), .val (.int z213), .val (.ref b215), .val (.ref b219), .val (.int z240)] [(.int (1 : Int32))])) _
          refine XS.goto X286.here hx rfl (pc0 := 144) (pc' := 148) rfl (hb hby at_144) (by decide) (by decide) ?_
          exact kg_
        refine hG (own_fin X286 hlk (some (.int (nar .boolean (1 : Int32)))) (own_hv Bd.returns) ?_ (by decide) (by decide) (fun fs hr => r289 _ (retN X286 hx (t := .boolean) Bd.returns (by simp) (hb hby at_148) hr)))
        rw [I286_0]
        exact ⟨rfl, N286⟩
  exact key _ _ id (fun t k => castTop (ef_0 m p0s p1s p2s p3s p4s) k)
set_option maxRecDepth 65536 in
set_option maxHeartbeats 40000000 in
theorem comes_1 {Post : Tables → Env → Array Value → State → Outcome → State → Prop} (hpost : ∀ tb e args s v u, (limb_1_1.after args s (.returned v) u = true ∧ limb_1_2.after args s (.returned v) u = true ∧ True) → FrameEnd s (.returned v) u (Jvm.fieldLocs frame_1_writes args s ++ Jvm.arrayLocs frame_1_arrays args s ++ Jvm.staticLocs frame_1_statics s) 16 128 → Post tb e args s (.returned v) u) :
    ArmFor flags0 classFile x code maxLocals ret World_1 tables_1 room_1 Calls_1 rest_1 Pre_1 Post := by
  intro l hfl _ _ p e ha hc hk s m args below hf hA hF happ hP
  obtain ⟨hcalls, hrest, hpre⟩ := hP
  obtain ⟨-, -, -, hnamed, -, -, -, hat⟩ := (Spec.applies_iff hf).mp happ
  obtain ⟨hg, hn⟩ := and_e (Cond.before_iff.mp (show (Jvm.Cond.and given_1 narrow_1).before args s = true from hpre))
  obtain ⟨gw1, gw2⟩ := and_e hg
  obtain ⟨gw3, gw4⟩ := and_e gw2
  obtain ⟨gw5, gw6⟩ := and_e gw4
  obtain ⟨gw7, gw8⟩ := and_e gw6
  obtain ⟨gw9, gw10⟩ := and_e gw8
  obtain ⟨w0, w1, w2, w3, w4, rfl⟩ : ∃ w0 w1 w2 w3 w4 : Value, args = #[w0, w1, w2, w3, w4] := by
    have hs : args.size = 5 := by simpa [Cond.value, given_1] using gw1
    obtain ⟨L⟩ := args
    match L, hs with
    | [w0, w1, w2, w3, w4], _ => exact ⟨w0, w1, w2, w3, w4, rfl⟩
  have hw := fun d (hd : d ∈ tables_1) => atoms_spec (ws := Jvm.Cond.code x code maxLocals ret :: tables_1) hat d (List.mem_cons_of_mem _ hd)
  have hfit : Fit s := fun {y c} hc i hi => by
    obtain ⟨ha, rfl⟩ := Array.getElem?_eq_some_iff.mp hc
    have q := List.all_eq_true.mp ((Array.all_eq_true_iff_forall_mem.mp hF) _ (Array.getElem_mem ha)) i (List.mem_range.mpr hi)
    simpa [Array.getElem?_eq_getElem hi] using q
  obtain ⟨i0, ei0⟩ := is_v gw3
  obtain rfl : w0 = (.int i0) := Option.some.inj ei0
  obtain ⟨i1, ei1⟩ := is_v gw5
  obtain rfl : w1 = (.int i1) := Option.some.inj ei1
  obtain ⟨i2, ei2⟩ := is_v gw7
  obtain rfl : w2 = (.int i2) := Option.some.inj ei2
  obtain ⟨i3, ei3⟩ := is_v gw9
  obtain rfl : w3 = (.int i3) := Option.some.inj ei3
  obtain ⟨i4, ei4⟩ := is_v gw10
  obtain rfl : w4 = (.int i4) := Option.some.inj ei4
  obtain ⟨n, o, h1, h2, h3, _, L, rfl, ⟨rfl, N⟩, hq⟩ := rm0 l s _ hw tables_1 i0 i1 i2 i3 i4  s.heap s.heap.size (Nat.le_refl _)  p e ha hc hk s m _ below hf ((Spec.applies_iff_loose hf).mp happ).1 ⟨rfl, State.Warmed39.refl s, rfl⟩ trivial
  refine ⟨n, _, h1, h2, h3, hpost _ _ _ _ _ _ ⟨Cond.after_iff.mpr rfl, Cond.after_iff.mpr (eq_i res_at (Term.int_eval (1)) rfl), trivial⟩ ⟨hq.1, hq.2.1, (hq.2.2.sift fun y hy => Or.inr (N y hy)).mono (by decide) (by decide)⟩⟩
theorem main_1_1 : Claimed_1_1 := comes_1 fun _ _ _ _ _ _ h hF => ⟨h.1, hF⟩
theorem main_1_2 : Claimed_1_2 := comes_1 fun _ _ _ _ _ _ h hF => ⟨h.2.1, hF⟩
end Jvm.Pilot.@@N@@
namespace Jvm.Pilot.@@N@@
open Jvm Jvm.ClassFile Sem Op Lib Jvm.Free Jvm.Stand Jvm.Pilot.@@N@@.Jvm.D
/-! MADE BY PROGRAM (witnessworld.py) out of the Statement's table words and the real class files: 14 classes; the members and pool entries that the words name. The judged class is class 1, her method 1. -/
namespace start1
open Jvm.ClassFile
def u (s : String) : CpInfo := .utf8 (stringToUtf16 s)
/-- a pool by its gaps: so many unusable entries, then the entry; so many at the end -/
def gap : Nat → List CpInfo → List CpInfo
  | 0, r => r
  | n + 1, r => .unusable :: gap n r
def poolList (es : List (Nat × CpInfo)) (last : Nat) : List CpInfo := es.foldr (fun e r => gap e.1 (e.2 :: r)) (gap last [])
def pool (es : List (Nat × CpInfo)) (last : Nat) : Array CpInfo := ⟨poolList es last⟩
def fileOf (pool : Array CpInfo) (this : Nat) (attrs : Array Attribute := #[]) (ms : Array MethodInfo := #[]) (fl : Nat := 33) (sup : Nat := 0) (ifs : Array Nat := #[]) (fds : Array FieldInfo := #[]) : ClassFile where
  minorVersion := 0
  majorVersion := 65
  constantPool := pool
  accessFlags := fl
  thisClass := this
  superClass := sup
  interfaces := ifs
  fields := fds
  methods := ms
  attributes := attrs
def plain (name : String) (sup : Option ClassId) : Class where
  name := name
  kind := .ordinary
  loader := none
  accessFlags := 33
  super := sup
  interfaces := #[]
  cf := none
  fields := #[]
  methods := #[]
  instanceTypes := #[]
  staticTypes := #[]
  resolved := #[]
  callSites := []
  init := .initialized
  statics := none
  mirror := none

def pool0 : Array CpInfo := pool [(5, u "<init>"), (0, u "()V"), (1, .class_ 10), (1, u "java/lang/Object"), (85, u "clone"), (0, u "()Ljava/lang/Object;")] 26

def k0c0 : Code := { maxStack := 0, maxLocals := 1, code := object_method_1_code, exceptionTable := #[], attributes := #[] }
def k0m0 : Method := { name := "<init>", desc := "()V", sig := { parameters := [], returnType := none }, accessFlags := 1, code := some k0c0 }
def k0m1 : Method := { name := "clone", desc := "()Ljava/lang/Object;", sig := { parameters := [], returnType := some (.object "java/lang/Object") }, accessFlags := 260, code := none }
/-- java/lang/Object -/
def k0 : Class := { plain "java/lang/Object" none with
  accessFlags := 33
  interfaces := #[]
  cf := some (fileOf pool0 8 #[] #[{ accessFlags := 1, nameIndex := 5, descriptorIndex := 6, attributes := #[] }, { accessFlags := 260, nameIndex := 96, descriptorIndex := 97, attributes := #[] }] 33 0 #[] #[])
  fields := #[]
  methods := #[k0m0, k0m1]
  instanceTypes := #[]
  staticTypes := #[]
  resolved := Array.replicate 124 none
  statics := none }

def pool1 : Array CpInfo := pool [(2, .class_ 4), (1, u "java/lang/Object"), (0, u "<init>"), (0, u "()V"), (0, .integer 2147483647), (0, .class_ 9), (0, u "com/example/garlicwire/garlicwire/data/DataReader"), (0, .methodref 8 11), (0, .nameAndType 5 12), (0, u "([BII)V"), (0, .methodref 8 14), (0, .nameAndType 15 16), (0, u "skip"), (0, u "(I)V"), (0, .methodref 8 18), (0, .nameAndType 19 20), (0, u "rest"), (0, u "()[B"), (0, .methodref 8 22), (0, .nameAndType 23 24), (0, u "bytes"), (0, u "(I)[B"), (0, .methodref 8 26), (0, .nameAndType 27 6), (0, u "end"), (0, .methodref 8 29), (0, .nameAndType 30 31), (0, u "position"), (0, u "()I"), (0, .class_ 33), (0, u "com/example/garlicwire/garlicwire/data/DataReaderEndPinLaw"), (2, u "law"), (0, u "(IIIII)Z")] 8

def k1m0 : Method := { name := "<init>", desc := "()V", sig := { parameters := [], returnType := none }, accessFlags := 1, code := none }
def k1c1 : Code := { maxStack := 5, maxLocals := 12, code := code, exceptionTable := #[], attributes := #[] }
def k1m1 : Method := { name := "law", desc := "(IIIII)Z", sig := { parameters := [.int, .int, .int, .int, .int], returnType := some .boolean }, accessFlags := 9, code := some k1c1 }
/-- com/example/garlicwire/garlicwire/data/DataReaderEndPinLaw -/
def k1 : Class := { plain "com/example/garlicwire/garlicwire/data/DataReaderEndPinLaw" (some 0) with
  accessFlags := 49
  interfaces := #[]
  cf := some (fileOf pool1 32 #[] #[{ accessFlags := 1, nameIndex := 5, descriptorIndex := 6, attributes := #[] }, { accessFlags := 9, nameIndex := 36, descriptorIndex := 37, attributes := #[] }] 49 2 #[] #[])
  fields := #[]
  methods := #[k1m0, k1m1]
  instanceTypes := #[]
  staticTypes := #[]
  resolved := Array.replicate 46 none
  statics := none }

def pool2 : Array CpInfo := pool [(2, .class_ 4), (1, u "com/example/garlicwire/garlicwire/data/DataReader"), (0, u "<init>"), (0, u "([BII)V"), (0, .methodref 8 9), (0, .class_ 10), (0, .nameAndType 5 11), (0, u "java/lang/Object"), (0, u "()V"), (0, .methodref 13 14), (0, .class_ 15), (0, .nameAndType 16 17), (0, u "java/util/Objects"), (0, u "checkFromIndexSize"), (0, u "(III)I"), (0, .fieldref 2 19), (0, .nameAndType 20 21), (0, u "data"), (0, u "[B"), (0, .fieldref 2 23), (0, .nameAndType 24 25), (0, u "start"), (0, u "I"), (0, .fieldref 2 27), (0, .nameAndType 28 25), (0, u "limit"), (0, .fieldref 2 30), (0, .nameAndType 31 25), (0, u "position"), (25, .class_ 59), (1, u "com/example/garlicwire/garlicwire/data/DataReader$Structure"), (4, u "end"), (0, .methodref 2 66), (0, .nameAndType 67 68), (0, u "take"), (0, u "(I)V"), (4, .methodref 74 75), (0, .class_ 76), (0, .nameAndType 77 78), (0, u "java/util/Arrays"), (0, u "copyOfRange"), (0, u "([BII)[B"), (17, u "bytes"), (0, u "(I)[B"), (34, u "()I"), (17, u "skip"), (0, u "rest"), (0, u "()[B")] 33

def k2c0 : Code := { maxStack := 3, maxLocals := 4, code := prog_17_method_2_code, exceptionTable := #[], attributes := #[] }
def k2m0 : Method := { name := "<init>", desc := "([BII)V", sig := { parameters := [(.array .byte), .int, .int], returnType := none }, accessFlags := 1, code := some k2c0 }
def k2c1 : Code := { maxStack := 3, maxLocals := 2, code := prog_17_method_6_code, exceptionTable := #[], attributes := #[] }
def k2m1 : Method := { name := "bytes", desc := "(I)[B", sig := { parameters := [.int], returnType := some (.array .byte) }, accessFlags := 1, code := some k2c1 }
def k2c2 : Code := { maxStack := 2, maxLocals := 2, code := prog_17_method_9_code, exceptionTable := #[], attributes := #[] }
def k2m2 : Method := { name := "skip", desc := "(I)V", sig := { parameters := [.int], returnType := none }, accessFlags := 1, code := some k2c2 }
def k2c3 : Code := { maxStack := 3, maxLocals := 2, code := prog_17_method_10_code, exceptionTable := #[], attributes := #[] }
def k2m3 : Method := { name := "rest", desc := "()[B", sig := { parameters := [], returnType := some (.array .byte) }, accessFlags := 1, code := some k2c3 }
def k2c4 : Code := { maxStack := 2, maxLocals := 1, code := prog_17_method_14_code, exceptionTable := #[], attributes := #[] }
def k2m4 : Method := { name := "position", desc := "()I", sig := { parameters := [], returnType := some .int }, accessFlags := 1, code := some k2c4 }
def k2c5 : Code := { maxStack := 4, maxLocals := 1, code := prog_17_method_16_code, exceptionTable := #[], attributes := #[] }
def k2m5 : Method := { name := "end", desc := "()V", sig := { parameters := [], returnType := none }, accessFlags := 1, code := some k2c5 }
def k2c6 : Code := { maxStack := 3, maxLocals := 2, code := prog_17_method_18_code, exceptionTable := #[], attributes := #[] }
def k2m6 : Method := { name := "take", desc := "(I)V", sig := { parameters := [.int], returnType := none }, accessFlags := 2, code := some k2c6 }
/-- com/example/garlicwire/garlicwire/data/DataReader -/
def k2 : Class := { plain "com/example/garlicwire/garlicwire/data/DataReader" (some 0) with
  accessFlags := 49
  interfaces := #[]
  cf := some (fileOf pool2 2 #[.nestMembers #[57]] #[{ accessFlags := 1, nameIndex := 5, descriptorIndex := 6, attributes := #[] }, { accessFlags := 1, nameIndex := 96, descriptorIndex := 97, attributes := #[] }, { accessFlags := 1, nameIndex := 150, descriptorIndex := 68, attributes := #[] }, { accessFlags := 1, nameIndex := 151, descriptorIndex := 152, attributes := #[] }, { accessFlags := 1, nameIndex := 31, descriptorIndex := 132, attributes := #[] }, { accessFlags := 1, nameIndex := 64, descriptorIndex := 11, attributes := #[] }, { accessFlags := 2, nameIndex := 67, descriptorIndex := 68, attributes := #[] }] 49 8 #[] #[{ accessFlags := 18, nameIndex := 20, descriptorIndex := 21, attributes := #[] }, { accessFlags := 18, nameIndex := 24, descriptorIndex := 25, attributes := #[] }, { accessFlags := 18, nameIndex := 28, descriptorIndex := 25, attributes := #[] }, { accessFlags := 2, nameIndex := 31, descriptorIndex := 25, attributes := #[] }])
  fields := #[{ name := "data", type := (.array .byte), accessFlags := 18, slot := 0, constantValue := 0 }, { name := "start", type := .int, accessFlags := 18, slot := 1, constantValue := 0 }, { name := "limit", type := .int, accessFlags := 18, slot := 2, constantValue := 0 }, { name := "position", type := .int, accessFlags := 2, slot := 3, constantValue := 0 }]
  methods := #[k2m0, k2m1, k2m2, k2m3, k2m4, k2m5, k2m6]
  instanceTypes := #[(.array .byte), .int, .int, .int]
  staticTypes := #[]
  resolved := Array.replicate 186 none
  statics := none }

def pool3 : Array CpInfo := pool [(2, .class_ 4), (1, u "java/lang/Object"), (0, u "<init>"), (0, u "()V"), (35, .class_ 44), (1, u "java/util/Objects"), (61, .class_ 108), (1, u "jdk/internal/util/Preconditions"), (5, u "(IIILjava/util/function/BiFunction;)I"), (0, .methodref 106 116), (0, .nameAndType 117 114), (0, u "checkFromIndexSize"), (57, u "(III)I")] 8

def k3m0 : Method := { name := "<init>", desc := "()V", sig := { parameters := [], returnType := none }, accessFlags := 2, code := none }
def k3c1 : Code := { maxStack := 4, maxLocals := 3, code := jdk_31_method_19_code, exceptionTable := #[], attributes := #[] }
def k3m1 : Method := { name := "checkFromIndexSize", desc := "(III)I", sig := { parameters := [.int, .int, .int], returnType := some .int }, accessFlags := 9, code := some k3c1 }
/-- java/util/Objects -/
def k3 : Class := { plain "java/util/Objects" (some 0) with
  accessFlags := 49
  interfaces := #[]
  cf := some (fileOf pool3 42 #[] #[{ accessFlags := 2, nameIndex := 5, descriptorIndex := 6, attributes := #[] }, { accessFlags := 9, nameIndex := 117, descriptorIndex := 175, attributes := #[] }] 49 2 #[] #[])
  fields := #[]
  methods := #[k3m0, k3m1]
  instanceTypes := #[]
  staticTypes := #[]
  resolved := Array.replicate 184 none
  statics := none }

def pool4 : Array CpInfo := pool [(2, .class_ 4), (1, u "java/lang/Object"), (0, u "<init>"), (0, u "()V"), (17, .class_ 26), (1, u "jdk/internal/util/Preconditions"), (22, u "checkFromIndexSize"), (5, .class_ 56), (0, u "jdk/internal/util/Preconditions$4"), (57, .class_ 115), (0, u "jdk/internal/util/Preconditions$1"), (7, u "SIOOBE_FORMATTER"), (0, u "Ljava/util/function/BiFunction;"), (0, .class_ 126), (0, u "jdk/internal/util/Preconditions$2"), (3, u "AIOOBE_FORMATTER"), (0, .class_ 132), (0, u "jdk/internal/util/Preconditions$3"), (3, u "IOOBE_FORMATTER"), (46, u "(IIILjava/util/function/BiFunction;)I")] 10

def k4m0 : Method := { name := "<init>", desc := "()V", sig := { parameters := [], returnType := none }, accessFlags := 1, code := none }
def k4c1 : Code := { maxStack := 4, maxLocals := 4, code := jdk_41_method_13_code, exceptionTable := #[], attributes := #[] }
def k4m1 : Method := { name := "checkFromIndexSize", desc := "(IIILjava/util/function/BiFunction;)I", sig := { parameters := [.int, .int, .int, (.object "java/util/function/BiFunction")], returnType := some .int }, accessFlags := 9, code := some k4c1 }
/-- jdk/internal/util/Preconditions -/
def k4 : Class := { plain "jdk/internal/util/Preconditions" (some 0) with
  accessFlags := 33
  interfaces := #[]
  cf := some (fileOf pool4 24 #[.nestMembers #[55, 131, 125, 114]] #[{ accessFlags := 1, nameIndex := 5, descriptorIndex := 6, attributes := #[] }, { accessFlags := 9, nameIndex := 49, descriptorIndex := 183, attributes := #[] }] 33 2 #[] #[{ accessFlags := 25, nameIndex := 123, descriptorIndex := 124, attributes := #[] }, { accessFlags := 25, nameIndex := 130, descriptorIndex := 124, attributes := #[] }, { accessFlags := 25, nameIndex := 136, descriptorIndex := 124, attributes := #[] }])
  fields := #[{ name := "SIOOBE_FORMATTER", type := (.object "java/util/function/BiFunction"), accessFlags := 25, slot := 0, constantValue := 0 }, { name := "AIOOBE_FORMATTER", type := (.object "java/util/function/BiFunction"), accessFlags := 25, slot := 1, constantValue := 0 }, { name := "IOOBE_FORMATTER", type := (.object "java/util/function/BiFunction"), accessFlags := 25, slot := 2, constantValue := 0 }]
  methods := #[k4m0, k4m1]
  instanceTypes := #[]
  staticTypes := #[(.object "java/util/function/BiFunction"), (.object "java/util/function/BiFunction"), (.object "java/util/function/BiFunction")]
  resolved := Array.replicate 194 none
  statics := none }

def pool5 : Array CpInfo := pool [(2, .class_ 4), (1, u "java/lang/Object"), (0, u "<init>"), (0, u "()V"), (7, .class_ 16), (1, u "java/util/Arrays"), (57, .class_ 76), (1, u "java/util/Arrays$NaturalOrder"), (32, u "()Ljava/lang/Object;"), (3, .class_ 115), (1, u "java/util/Arrays$LegacyMergeSort"), (1, u "Z"), (10, .nameAndType 129 109), (0, u "clone"), (9, u "copyOfRange"), (10, .methodref 151 152), (0, .class_ 153), (0, .nameAndType 154 155), (0, u "java/lang/System"), (0, u "arraycopy"), (0, u "(Ljava/lang/Object;ILjava/lang/Object;II)V"), (148, .methodref 305 306), (0, .class_ 307), (0, .nameAndType 308 309), (0, u "java/lang/Math"), (0, u "min"), (0, u "(II)I"), (0, .methodref 311 128), (0, .class_ 312), (0, u "[B"), (26, .methodref 14 340), (0, .nameAndType 341 342), (0, u "copyOfRangeByte"), (0, u "([BII)[B"), (0, .methodref 14 344), (0, .nameAndType 345 346), (0, u "checkLength"), (0, u "(II)V"), (28, .class_ 376), (0, u "java/util/Arrays$ArrayList"), (68, u "$assertionsDisabled"), (269, u "MIN_ARRAY_SORT_GRAN"), (0, u "I"), (2, u "INSERTIONSORT_THRESHOLD"), (255, .class_ 976), (0, u "java/util/Arrays$ArrayItr")] 52

def k5m0 : Method := { name := "<init>", desc := "()V", sig := { parameters := [], returnType := none }, accessFlags := 2, code := none }
def k5c1 : Code := { maxStack := 4, maxLocals := 2, code := jdk_65_method_131_code, exceptionTable := #[], attributes := #[] }
def k5m1 : Method := { name := "checkLength", desc := "(II)V", sig := { parameters := [.int, .int], returnType := none }, accessFlags := 10, code := some k5c1 }
def k5c2 : Code := { maxStack := 3, maxLocals := 3, code := jdk_65_method_132_code, exceptionTable := #[], attributes := #[] }
def k5m2 : Method := { name := "copyOfRange", desc := "([BII)[B", sig := { parameters := [(.array .byte), .int, .int], returnType := some (.array .byte) }, accessFlags := 9, code := some k5c2 }
def k5c3 : Code := { maxStack := 6, maxLocals := 5, code := jdk_65_method_133_code, exceptionTable := #[], attributes := #[] }
def k5m3 : Method := { name := "copyOfRangeByte", desc := "([BII)[B", sig := { parameters := [(.array .byte), .int, .int], returnType := some (.array .byte) }, accessFlags := 10, code := some k5c3 }
/-- java/util/Arrays -/
def k5 : Class := { plain "java/util/Arrays" (some 0) with
  accessFlags := 49
  interfaces := #[]
  cf := some (fileOf pool5 14 #[.nestMembers #[975, 375, 113, 74]] #[{ accessFlags := 2, nameIndex := 5, descriptorIndex := 6, attributes := #[] }, { accessFlags := 10, nameIndex := 345, descriptorIndex := 346, attributes := #[] }, { accessFlags := 9, nameIndex := 139, descriptorIndex := 342, attributes := #[] }, { accessFlags := 10, nameIndex := 341, descriptorIndex := 342, attributes := #[] }] 49 2 #[] #[{ accessFlags := 26, nameIndex := 715, descriptorIndex := 716, attributes := #[] }, { accessFlags := 26, nameIndex := 719, descriptorIndex := 716, attributes := #[] }, { accessFlags := 4120, nameIndex := 445, descriptorIndex := 117, attributes := #[] }])
  fields := #[{ name := "MIN_ARRAY_SORT_GRAN", type := .int, accessFlags := 26, slot := 0, constantValue := 0 }, { name := "INSERTIONSORT_THRESHOLD", type := .int, accessFlags := 26, slot := 1, constantValue := 0 }, { name := "$assertionsDisabled", type := .boolean, accessFlags := 4120, slot := 2, constantValue := 0 }]
  methods := #[k5m0, k5m1, k5m2, k5m3]
  instanceTypes := #[]
  staticTypes := #[.int, .int, .boolean]
  resolved := Array.replicate 1029 none
  statics := none }

def pool6 : Array CpInfo := pool [(1, .class_ 2), (0, u "java/lang/Cloneable"), (0, .class_ 4), (0, u "java/lang/Object")] 2

/-- java/lang/Cloneable -/
def k6 : Class := { plain "java/lang/Cloneable" (some 0) with
  accessFlags := 1537
  interfaces := #[]
  cf := some (fileOf pool6 1 #[] #[] 1537 3 #[] #[])
  fields := #[]
  methods := #[]
  instanceTypes := #[]
  staticTypes := #[]
  resolved := Array.replicate 7 none
  statics := none }

def pool7 : Array CpInfo := pool [(1, .class_ 2), (0, u "java/lang/Math"), (1, .class_ 6), (1, u "java/lang/Object"), (0, u "<init>"), (0, u "()V"), (89, .class_ 100), (1, u "java/lang/Math$RandomNumberGeneratorHolder"), (71, u "negativeZeroFloatBits"), (0, u "J"), (2, u "negativeZeroDoubleBits"), (24, u "min"), (43, u "$assertionsDisabled"), (0, u "Z"), (88, u "(II)I"), (2, u "twoToTheDoubleScaleDown"), (0, u "D"), (4, u "twoToTheDoubleScaleUp"), (9, u "E"), (3, u "PI"), (2, u "TAU"), (2, u "DEGREES_TO_RADIANS"), (0, u "RADIANS_TO_DEGREES")] 94

def k7m0 : Method := { name := "<init>", desc := "()V", sig := { parameters := [], returnType := none }, accessFlags := 2, code := none }
def k7c1 : Code := { maxStack := 2, maxLocals := 2, code := jdk_29_method_69_code, exceptionTable := #[], attributes := #[] }
def k7m1 : Method := { name := "min", desc := "(II)I", sig := { parameters := [.int, .int], returnType := some .int }, accessFlags := 9, code := some k7c1 }
/-- java/lang/Math -/
def k7 : Class := { plain "java/lang/Math" (some 0) with
  accessFlags := 49
  interfaces := #[]
  cf := some (fileOf pool7 1 #[.nestMembers #[98]] #[{ accessFlags := 2, nameIndex := 7, descriptorIndex := 8, attributes := #[] }, { accessFlags := 9, nameIndex := 201, descriptorIndex := 335, attributes := #[] }] 49 4 #[] #[{ accessFlags := 25, nameIndex := 354, descriptorIndex := 339, attributes := #[] }, { accessFlags := 25, nameIndex := 358, descriptorIndex := 339, attributes := #[] }, { accessFlags := 25, nameIndex := 361, descriptorIndex := 339, attributes := #[] }, { accessFlags := 26, nameIndex := 364, descriptorIndex := 339, attributes := #[] }, { accessFlags := 26, nameIndex := 365, descriptorIndex := 339, attributes := #[] }, { accessFlags := 26, nameIndex := 172, descriptorIndex := 173, attributes := #[] }, { accessFlags := 26, nameIndex := 176, descriptorIndex := 173, attributes := #[] }, { accessFlags := 8, nameIndex := 344, descriptorIndex := 339, attributes := #[] }, { accessFlags := 8, nameIndex := 338, descriptorIndex := 339, attributes := #[] }, { accessFlags := 4120, nameIndex := 245, descriptorIndex := 246, attributes := #[] }])
  fields := #[{ name := "E", type := .double, accessFlags := 25, slot := 0, constantValue := 0 }, { name := "PI", type := .double, accessFlags := 25, slot := 1, constantValue := 0 }, { name := "TAU", type := .double, accessFlags := 25, slot := 2, constantValue := 0 }, { name := "DEGREES_TO_RADIANS", type := .double, accessFlags := 26, slot := 3, constantValue := 0 }, { name := "RADIANS_TO_DEGREES", type := .double, accessFlags := 26, slot := 4, constantValue := 0 }, { name := "negativeZeroFloatBits", type := .long, accessFlags := 26, slot := 5, constantValue := 0 }, { name := "negativeZeroDoubleBits", type := .long, accessFlags := 26, slot := 6, constantValue := 0 }, { name := "twoToTheDoubleScaleUp", type := .double, accessFlags := 8, slot := 7, constantValue := 0 }, { name := "twoToTheDoubleScaleDown", type := .double, accessFlags := 8, slot := 8, constantValue := 0 }, { name := "$assertionsDisabled", type := .boolean, accessFlags := 4120, slot := 9, constantValue := 0 }]
  methods := #[k7m0, k7m1]
  instanceTypes := #[]
  staticTypes := #[.double, .double, .double, .double, .double, .long, .long, .double, .double, .boolean]
  resolved := Array.replicate 460 none
  statics := none }

def pool8 : Array CpInfo := pool [(2, .class_ 4), (1, u "java/lang/Object"), (0, u "<init>"), (0, u "()V"), (1, .class_ 10), (1, u "java/lang/System"), (0, u "allowSecurityManager"), (0, u "I"), (16, u "cons"), (0, u "Ljava/io/Console;"), (77, .class_ 110), (1, u "java/lang/System$CallersHolder"), (43, u "initialErrStream"), (0, u "Ljava/io/PrintStream;"), (19, u "security"), (0, u "Ljava/lang/SecurityManager;"), (31, .class_ 209), (0, u "java/lang/System$1"), (7, u "props"), (0, u "Ljava/util/Properties;"), (2, u "lineSeparator"), (0, u "Ljava/lang/String;"), (96, .class_ 321), (1, u "java/lang/System$LoggerFinder"), (5, .class_ 328), (0, u "java/lang/System$Logger"), (67, u "err"), (2, u "out"), (91, u "notSupportedJnuEncoding"), (15, u "in"), (17, u "initialIn"), (0, u "Ljava/io/InputStream;"), (35, u "bootLayer"), (0, u "Ljava/lang/ModuleLayer;"), (99, .class_ 664), (0, u "java/lang/System$2"), (9, u "NEVER"), (2, u "MAYBE"), (49, u "arraycopy"), (0, u "(Ljava/lang/Object;ILjava/lang/Object;II)V"), (72, .class_ 802), (0, u "java/lang/System$Logger$Level")] 31

def k8m0 : Method := { name := "<init>", desc := "()V", sig := { parameters := [], returnType := none }, accessFlags := 2, code := none }
def k8m1 : Method := { name := "arraycopy", desc := "(Ljava/lang/Object;ILjava/lang/Object;II)V", sig := { parameters := [(.object "java/lang/Object"), .int, (.object "java/lang/Object"), .int, .int], returnType := none }, accessFlags := 265, code := none }
/-- java/lang/System -/
def k8 : Class := { plain "java/lang/System" (some 0) with
  accessFlags := 49
  interfaces := #[]
  cf := some (fileOf pool8 8 #[.nestMembers #[319, 327, 801, 108, 663, 208]] #[{ accessFlags := 2, nameIndex := 5, descriptorIndex := 6, attributes := #[] }, { accessFlags := 265, nameIndex := 727, descriptorIndex := 728, attributes := #[] }] 49 2 #[] #[{ accessFlags := 25, nameIndex := 507, descriptorIndex := 526, attributes := #[] }, { accessFlags := 25, nameIndex := 399, descriptorIndex := 155, attributes := #[] }, { accessFlags := 25, nameIndex := 396, descriptorIndex := 155, attributes := #[] }, { accessFlags := 10, nameIndex := 525, descriptorIndex := 526, attributes := #[] }, { accessFlags := 26, nameIndex := 674, descriptorIndex := 12, attributes := #[] }, { accessFlags := 26, nameIndex := 677, descriptorIndex := 12, attributes := #[] }, { accessFlags := 10, nameIndex := 11, descriptorIndex := 12, attributes := #[] }, { accessFlags := 74, nameIndex := 175, descriptorIndex := 176, attributes := #[] }, { accessFlags := 10, nameIndex := 491, descriptorIndex := 222, attributes := #[] }, { accessFlags := 74, nameIndex := 29, descriptorIndex := 30, attributes := #[] }, { accessFlags := 74, nameIndex := 154, descriptorIndex := 155, attributes := #[] }, { accessFlags := 10, nameIndex := 217, descriptorIndex := 218, attributes := #[] }, { accessFlags := 10, nameIndex := 221, descriptorIndex := 222, attributes := #[] }, { accessFlags := 8, nameIndex := 562, descriptorIndex := 563, attributes := #[] }])
  fields := #[{ name := "in", type := (.object "java/io/InputStream"), accessFlags := 25, slot := 0, constantValue := 0 }, { name := "out", type := (.object "java/io/PrintStream"), accessFlags := 25, slot := 1, constantValue := 0 }, { name := "err", type := (.object "java/io/PrintStream"), accessFlags := 25, slot := 2, constantValue := 0 }, { name := "initialIn", type := (.object "java/io/InputStream"), accessFlags := 10, slot := 3, constantValue := 0 }, { name := "NEVER", type := .int, accessFlags := 26, slot := 4, constantValue := 0 }, { name := "MAYBE", type := .int, accessFlags := 26, slot := 5, constantValue := 0 }, { name := "allowSecurityManager", type := .int, accessFlags := 10, slot := 6, constantValue := 0 }, { name := "security", type := (.object "java/lang/SecurityManager"), accessFlags := 74, slot := 7, constantValue := 0 }, { name := "notSupportedJnuEncoding", type := (.object "java/lang/String"), accessFlags := 10, slot := 8, constantValue := 0 }, { name := "cons", type := (.object "java/io/Console"), accessFlags := 74, slot := 9, constantValue := 0 }, { name := "initialErrStream", type := (.object "java/io/PrintStream"), accessFlags := 74, slot := 10, constantValue := 0 }, { name := "props", type := (.object "java/util/Properties"), accessFlags := 10, slot := 11, constantValue := 0 }, { name := "lineSeparator", type := (.object "java/lang/String"), accessFlags := 10, slot := 12, constantValue := 0 }, { name := "bootLayer", type := (.object "java/lang/ModuleLayer"), accessFlags := 8, slot := 13, constantValue := 0 }]
  methods := #[k8m0, k8m1]
  instanceTypes := #[]
  staticTypes := #[(.object "java/io/InputStream"), (.object "java/io/PrintStream"), (.object "java/io/PrintStream"), (.object "java/io/InputStream"), .int, .int, .int, (.object "java/lang/SecurityManager"), (.object "java/lang/String"), (.object "java/io/Console"), (.object "java/io/PrintStream"), (.object "java/util/Properties"), (.object "java/lang/String"), (.object "java/lang/ModuleLayer")]
  resolved := Array.replicate 834 none
  statics := none }

def pool9 : Array CpInfo := pool [(1, u "java/io/Serializable"), (0, .class_ 1), (0, u "java/lang/Object"), (0, .class_ 3)] 3

/-- java/io/Serializable -/
def k9 : Class := { plain "java/io/Serializable" (some 0) with
  accessFlags := 1537
  interfaces := #[]
  cf := some (fileOf pool9 2 #[] #[] 1537 4 #[] #[])
  fields := #[]
  methods := #[]
  instanceTypes := #[]
  staticTypes := #[]
  resolved := Array.replicate 8 none
  statics := none }

/-- the primitive byte -/
def k10 : Class := { plain "byte" none with kind := .primitive 'B', accessFlags := 0x411 }
/-- [B -/
def k11 : Class := { plain "[B" (some 0) with kind := .array 10 .byte, interfaces := #[6, 9], accessFlags := 1041 }

/-- the primitive int -/
def k12 : Class := { plain "int" none with kind := .primitive 'I', accessFlags := 0x411 }
/-- [I -/
def k13 : Class := { plain "[I" (some 0) with kind := .array 12 .int, interfaces := #[6, 9], accessFlags := 1041 }

def heap : Heap := #[]
def classes : Array Class := #[k0, k1, k2, k3, k4, k5, k6, k7, k8, k9, k10, k11, k12, k13]
def interned : List (Array UInt16 × Addr) := []
def slotsUsed : Nat := 0
def theMethod : MethodId := ⟨1, 1⟩
def args0 : Array Value := #[.int 5, .int 3, .int 2, .int 1, .int 2]
def aboutOver (below : List Frame) : State where
  vm := { classes := classes, interned := interned.toArray }
  heap := heap
  slotsUsed := slotsUsed
  threads := #[{ frames := .invoking theMethod args0 :: below }]
def below0 : List Frame := [.native { method := ⟨0, 0⟩, args := #[] }]
def about1 : State := aboutOver below0
def p0 : Program := .bare "" "" ""
def e0 : Env := launch0.env 0 0 0
theorem w_frames : about1.frames = Frame.invoking theMethod args0 :: below0 := rfl
set_option maxRecDepth 65536 in
theorem w_args : argsFit about1.vm theMethod args0 = true := by decide +kernel
set_option maxRecDepth 65536 in
theorem w_heap : heapFits about1 = true := by decide +kernel
set_option maxRecDepth 65536 in
theorem w_runnable : about1.curStatus? = some .runnable := by decide +kernel
set_option maxRecDepth 65536 in
theorem w_alone : about1.alone = true := by decide +kernel
set_option maxRecDepth 65536 in
theorem w_named : about1.methodNamed? x = some theMethod := by decide +kernel
set_option maxRecDepth 65536 in
theorem w_hears : about1.hears theMethod below0 = true := by decide +kernel
set_option maxRecDepth 65536 in
theorem w_ripe : about1.ripe theMethod args0 below0 = true := by decide +kernel
theorem w_running : about1.status = .running := rfl
set_option maxRecDepth 65536 in
theorem w_room : about1.hasRoom e0.platform room_1 = true :=
  launch0.hasRoom_least _ room_1 (by decide +kernel) (by decide +kernel) (by decide +kernel) (by decide +kernel) (by decide +kernel) (by decide +kernel)
theorem allAtoms_all (ts : List Jvm.Cond) (a : Array Jvm.Value) (st : Jvm.State) : (allAtoms ts).before a st = ts.all (fun c => c.before a st) := by
  induction ts with
  | nil => rfl
  | cons c t ih =>
    show (Jvm.Cond.and c (allAtoms t)).before a st = _
    rw [Jvm.Cond.before_and, ih, List.all_cons]
def words1 : List Jvm.Cond := Jvm.Cond.code x code maxLocals ret :: tables_1
/-- a 'code' word, met by the world's own term for the bytes: nothing is compared byte by byte -/
theorem code_word {y : MethodName} {bytes : ByteArray} {mx : Nat} {rt : Option FieldType} {a : Array Value} {s : State} {m : MethodId} {meth : Method} {c : Code} (h1 : s.methodNamed? y = some m) (h2 : s.vm.method? m = some meth) (h3 : meth.code = some c) (h4 : c.code = bytes)
    (h5 : (c.maxLocals == mx && c.exceptionTable.isEmpty && decide (c.maxStack ≤ mostOperands) && decide (meth.sig.returnType = rt) && !meth.locks && decide (parseMethodDescriptor y.desc = some meth.sig)) = true) : (Jvm.Cond.code y bytes mx rt).before a s = true := by
  simp only [Bool.and_eq_true, beq_iff_eq, Bool.not_eq_true', decide_eq_true_eq] at h5
  obtain ⟨⟨⟨⟨⟨g1, g2⟩, g3⟩, g4⟩, g5⟩, g6⟩ := h5
  simp [Cond.before, Cond.holds, Cond.value, h1, h2, h3, h4, g1, g2, g3, g4, g5, g6]
def isCode : Jvm.Cond → Bool
  | .code _ _ _ _ => true
  | _ => false
theorem all_split {L : List Jvm.Cond} {P : Jvm.Cond → Bool} (h1 : L.all (fun c => isCode c || P c) = true) (h2 : ∀ c ∈ L.filter isCode, P c = true) : L.all P = true := by
  refine List.all_eq_true.mpr fun c hc => ?_
  have h := List.all_eq_true.mp h1 c hc
  rcases Bool.eq_false_or_eq_true (isCode c) with hi | hi
  · exact h2 c (List.mem_filter.mpr ⟨hc, hi⟩)
  · simpa [hi] using h
set_option maxRecDepth 65536 in
theorem w_c0 : (Jvm.Cond.code x code maxLocals ret).before args0 about1 = true := code_word (m := ⟨1, 1⟩) (meth := k1m1) (c := k1c1) (by decide +kernel) rfl rfl rfl (by decide +kernel)
set_option maxRecDepth 65536 in
theorem w_c1 : (Jvm.Cond.code ({ cls := "com/example/garlicwire/garlicwire/data/DataReader", name := "<init>", desc := "([BII)V" } : Jvm.MethodName) prog_17_method_2_code (4 : Nat) (Option.none : Option Jvm.ClassFile.FieldType)).before args0 about1 = true := code_word (m := ⟨2, 0⟩) (meth := k2m0) (c := k2c0) (by decide +kernel) rfl rfl rfl (by decide +kernel)
set_option maxRecDepth 65536 in
theorem w_c2 : (Jvm.Cond.code ({ cls := "java/lang/Object", name := "<init>", desc := "()V" } : Jvm.MethodName) object_method_1_code (1 : Nat) (Option.none : Option Jvm.ClassFile.FieldType)).before args0 about1 = true := code_word (m := ⟨0, 0⟩) (meth := k0m0) (c := k0c0) (by decide +kernel) rfl rfl rfl (by decide +kernel)
set_option maxRecDepth 65536 in
theorem w_c3 : (Jvm.Cond.code ({ cls := "java/util/Objects", name := "checkFromIndexSize", desc := "(III)I" } : Jvm.MethodName) jdk_31_method_19_code (3 : Nat) (Option.some Jvm.ClassFile.FieldType.int)).before args0 about1 = true := code_word (m := ⟨3, 1⟩) (meth := k3m1) (c := k3c1) (by decide +kernel) rfl rfl rfl (by decide +kernel)
set_option maxRecDepth 65536 in
theorem w_c4 : (Jvm.Cond.code ({ cls := "jdk/internal/util/Preconditions", name := "checkFromIndexSize", desc := "(IIILjava/util/function/BiFunction;)I" } : Jvm.MethodName) jdk_41_method_13_code (4 : Nat) (Option.some Jvm.ClassFile.FieldType.int)).before args0 about1 = true := code_word (m := ⟨4, 1⟩) (meth := k4m1) (c := k4c1) (by decide +kernel) rfl rfl rfl (by decide +kernel)
set_option maxRecDepth 65536 in
theorem w_c5 : (Jvm.Cond.code ({ cls := "com/example/garlicwire/garlicwire/data/DataReader", name := "skip", desc := "(I)V" } : Jvm.MethodName) prog_17_method_9_code (2 : Nat) (Option.none : Option Jvm.ClassFile.FieldType)).before args0 about1 = true := code_word (m := ⟨2, 2⟩) (meth := k2m2) (c := k2c2) (by decide +kernel) rfl rfl rfl (by decide +kernel)
set_option maxRecDepth 65536 in
theorem w_c6 : (Jvm.Cond.code ({ cls := "com/example/garlicwire/garlicwire/data/DataReader", name := "take", desc := "(I)V" } : Jvm.MethodName) prog_17_method_18_code (2 : Nat) (Option.none : Option Jvm.ClassFile.FieldType)).before args0 about1 = true := code_word (m := ⟨2, 6⟩) (meth := k2m6) (c := k2c6) (by decide +kernel) rfl rfl rfl (by decide +kernel)
set_option maxRecDepth 65536 in
theorem w_c7 : (Jvm.Cond.code ({ cls := "com/example/garlicwire/garlicwire/data/DataReader", name := "rest", desc := "()[B" } : Jvm.MethodName) prog_17_method_10_code (2 : Nat) (Option.some (Jvm.ClassFile.FieldType.array Jvm.ClassFile.FieldType.byte))).before args0 about1 = true := code_word (m := ⟨2, 3⟩) (meth := k2m3) (c := k2c3) (by decide +kernel) rfl rfl rfl (by decide +kernel)
set_option maxRecDepth 65536 in
theorem w_c8 : (Jvm.Cond.code ({ cls := "java/util/Arrays", name := "copyOfRange", desc := "([BII)[B" } : Jvm.MethodName) jdk_65_method_132_code (3 : Nat) (Option.some (Jvm.ClassFile.FieldType.array Jvm.ClassFile.FieldType.byte))).before args0 about1 = true := code_word (m := ⟨5, 2⟩) (meth := k5m2) (c := k5c2) (by decide +kernel) rfl rfl rfl (by decide +kernel)
set_option maxRecDepth 65536 in
theorem w_c9 : (Jvm.Cond.code ({ cls := "com/example/garlicwire/garlicwire/data/DataReader", name := "end", desc := "()V" } : Jvm.MethodName) prog_17_method_16_code (1 : Nat) (Option.none : Option Jvm.ClassFile.FieldType)).before args0 about1 = true := code_word (m := ⟨2, 5⟩) (meth := k2m5) (c := k2c5) (by decide +kernel) rfl rfl rfl (by decide +kernel)
set_option maxRecDepth 65536 in
theorem w_c10 : (Jvm.Cond.code ({ cls := "com/example/garlicwire/garlicwire/data/DataReader", name := "position", desc := "()I" } : Jvm.MethodName) prog_17_method_14_code (1 : Nat) (Option.some Jvm.ClassFile.FieldType.int)).before args0 about1 = true := code_word (m := ⟨2, 4⟩) (meth := k2m4) (c := k2c4) (by decide +kernel) rfl rfl rfl (by decide +kernel)
set_option maxRecDepth 65536 in
theorem w_c11 : (Jvm.Cond.code ({ cls := "com/example/garlicwire/garlicwire/data/DataReader", name := "bytes", desc := "(I)[B" } : Jvm.MethodName) prog_17_method_6_code (2 : Nat) (Option.some (Jvm.ClassFile.FieldType.array Jvm.ClassFile.FieldType.byte))).before args0 about1 = true := code_word (m := ⟨2, 1⟩) (meth := k2m1) (c := k2c1) (by decide +kernel) rfl rfl rfl (by decide +kernel)
set_option maxRecDepth 65536 in
theorem w_c12 : (Jvm.Cond.code ({ cls := "java/util/Arrays", name := "copyOfRangeByte", desc := "([BII)[B" } : Jvm.MethodName) jdk_65_method_133_code (5 : Nat) (Option.some (Jvm.ClassFile.FieldType.array Jvm.ClassFile.FieldType.byte))).before args0 about1 = true := code_word (m := ⟨5, 3⟩) (meth := k5m3) (c := k5c3) (by decide +kernel) rfl rfl rfl (by decide +kernel)
set_option maxRecDepth 65536 in
theorem w_c13 : (Jvm.Cond.code ({ cls := "java/util/Arrays", name := "checkLength", desc := "(II)V" } : Jvm.MethodName) jdk_65_method_131_code (2 : Nat) (Option.none : Option Jvm.ClassFile.FieldType)).before args0 about1 = true := code_word (m := ⟨5, 1⟩) (meth := k5m1) (c := k5c1) (by decide +kernel) rfl rfl rfl (by decide +kernel)
set_option maxRecDepth 65536 in
theorem w_c14 : (Jvm.Cond.code ({ cls := "java/lang/Math", name := "min", desc := "(II)I" } : Jvm.MethodName) jdk_29_method_69_code (2 : Nat) (Option.some Jvm.ClassFile.FieldType.int)).before args0 about1 = true := code_word (m := ⟨7, 1⟩) (meth := k7m1) (c := k7c1) (by decide +kernel) rfl rfl rfl (by decide +kernel)
def codes1 : List Jvm.Cond := [Jvm.Cond.code x code maxLocals ret, Jvm.Cond.code ({ cls := "com/example/garlicwire/garlicwire/data/DataReader", name := "<init>", desc := "([BII)V" } : Jvm.MethodName) prog_17_method_2_code (4 : Nat) (Option.none : Option Jvm.ClassFile.FieldType), Jvm.Cond.code ({ cls := "java/lang/Object", name := "<init>", desc := "()V" } : Jvm.MethodName) object_method_1_code (1 : Nat) (Option.none : Option Jvm.ClassFile.FieldType), Jvm.Cond.code ({ cls := "java/util/Objects", name := "checkFromIndexSize", desc := "(III)I" } : Jvm.MethodName) jdk_31_method_19_code (3 : Nat) (Option.some Jvm.ClassFile.FieldType.int), Jvm.Cond.code ({ cls := "jdk/internal/util/Preconditions", name := "checkFromIndexSize", desc := "(IIILjava/util/function/BiFunction;)I" } : Jvm.MethodName) jdk_41_method_13_code (4 : Nat) (Option.some Jvm.ClassFile.FieldType.int), Jvm.Cond.code ({ cls := "com/example/garlicwire/garlicwire/data/DataReader", name := "skip", desc := "(I)V" } : Jvm.MethodName) prog_17_method_9_code (2 : Nat) (Option.none : Option Jvm.ClassFile.FieldType), Jvm.Cond.code ({ cls := "com/example/garlicwire/garlicwire/data/DataReader", name := "take", desc := "(I)V" } : Jvm.MethodName) prog_17_method_18_code (2 : Nat) (Option.none : Option Jvm.ClassFile.FieldType), Jvm.Cond.code ({ cls := "com/example/garlicwire/garlicwire/data/DataReader", name := "rest", desc := "()[B" } : Jvm.MethodName) prog_17_method_10_code (2 : Nat) (Option.some (Jvm.ClassFile.FieldType.array Jvm.ClassFile.FieldType.byte)), Jvm.Cond.code ({ cls := "java/util/Arrays", name := "copyOfRange", desc := "([BII)[B" } : Jvm.MethodName) jdk_65_method_132_code (3 : Nat) (Option.some (Jvm.ClassFile.FieldType.array Jvm.ClassFile.FieldType.byte)), Jvm.Cond.code ({ cls := "com/example/garlicwire/garlicwire/data/DataReader", name := "end", desc := "()V" } : Jvm.MethodName) prog_17_method_16_code (1 : Nat) (Option.none : Option Jvm.ClassFile.FieldType), Jvm.Cond.code ({ cls := "com/example/garlicwire/garlicwire/data/DataReader", name := "position", desc := "()I" } : Jvm.MethodName) prog_17_method_14_code (1 : Nat) (Option.some Jvm.ClassFile.FieldType.int), Jvm.Cond.code ({ cls := "com/example/garlicwire/garlicwire/data/DataReader", name := "bytes", desc := "(I)[B" } : Jvm.MethodName) prog_17_method_6_code (2 : Nat) (Option.some (Jvm.ClassFile.FieldType.array Jvm.ClassFile.FieldType.byte)), Jvm.Cond.code ({ cls := "java/util/Arrays", name := "copyOfRangeByte", desc := "([BII)[B" } : Jvm.MethodName) jdk_65_method_133_code (5 : Nat) (Option.some (Jvm.ClassFile.FieldType.array Jvm.ClassFile.FieldType.byte)), Jvm.Cond.code ({ cls := "java/util/Arrays", name := "checkLength", desc := "(II)V" } : Jvm.MethodName) jdk_65_method_131_code (2 : Nat) (Option.none : Option Jvm.ClassFile.FieldType), Jvm.Cond.code ({ cls := "java/lang/Math", name := "min", desc := "(II)I" } : Jvm.MethodName) jdk_29_method_69_code (2 : Nat) (Option.some Jvm.ClassFile.FieldType.int)]
set_option maxRecDepth 65536 in
theorem codes_eq : words1.filter isCode = codes1 := rfl
theorem w_codes : ∀ c ∈ words1.filter isCode, c.before args0 about1 = true := by
  rw [codes_eq]
  intro c hc
  simp only [codes1, List.mem_cons, List.not_mem_nil, or_false] at hc
  rcases hc with rfl | rfl | rfl | rfl | rfl | rfl | rfl | rfl | rfl | rfl | rfl | rfl | rfl | rfl | rfl
  · exact w_c0
  · exact w_c1
  · exact w_c2
  · exact w_c3
  · exact w_c4
  · exact w_c5
  · exact w_c6
  · exact w_c7
  · exact w_c8
  · exact w_c9
  · exact w_c10
  · exact w_c11
  · exact w_c12
  · exact w_c13
  · exact w_c14
set_option maxRecDepth 65536 in
theorem w_t1 : (words1.take 24).all (fun c => isCode c || c.before args0 about1) = true := by decide +kernel
set_option maxRecDepth 65536 in
theorem w_t2 : ((words1.drop 24).take 24).all (fun c => isCode c || c.before args0 about1) = true := by decide +kernel
set_option maxRecDepth 65536 in
theorem w_t3 : (((words1.drop 24).drop 24).take 24).all (fun c => isCode c || c.before args0 about1) = true := by decide +kernel
set_option maxRecDepth 65536 in
theorem w_t4 : (((words1.drop 24).drop 24).drop 24).all (fun c => isCode c || c.before args0 about1) = true := by decide +kernel
theorem w_tables : (allAtoms (Jvm.Cond.code x code maxLocals ret :: tables_1)).before args0 about1 = true := by
  rw [allAtoms_all]
  show words1.all (fun c => c.before args0 about1) = true
  refine all_split ?_ w_codes
  rw [← List.take_append_drop 24 words1, List.all_append, w_t1, ← List.take_append_drop 24 (words1.drop 24), List.all_append, w_t2, ← List.take_append_drop 24 ((words1.drop 24).drop 24), List.all_append, w_t3, w_t4]
  rfl
set_option maxRecDepth 65536 in
theorem w_case : (Jvm.Cond.and given_1 narrow_1).before args0 about1 = true := by decide +kernel
theorem w_applies : (headSpec (Jvm.Cond.code x code maxLocals ret :: tables_1) room_1).applies x e0.platform about1 = true :=
  (Spec.applies_iff w_frames).mpr ⟨w_running, w_runnable, w_alone, w_named, w_hears, w_ripe, w_room, w_tables⟩
theorem atStart : AtStart classFile x code maxLocals ret World_1 tables_1 room_1 Calls_1 rest_1 Pre_1 launch0 p0 e0 about1 theMethod args0 below0 :=
  ⟨lists_1, trivial, launch0.admits_env _ _ _, launch0.least_env, fairChoices_fair.cas, fairChoices_fair.clock, w_frames, w_args, w_heap, w_applies, trivial, trivial, w_case⟩
end start1
theorem witness_1 : WitnessClaimed_1 := ⟨start1.p0, start1.e0, start1.about1, start1.theMethod, start1.args0, start1.below0, start1.atStart⟩
end Jvm.Pilot.@@N@@
