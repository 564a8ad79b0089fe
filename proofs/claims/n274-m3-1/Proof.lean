import JvmDerived
import JvmDerived.Pilot.@@N@@Statement
import JvmDerived.Pilot.@@N@@Code
set_option linter.unusedVariables false
set_option linter.unusedSimpArgs false
namespace Jvm.Pilot.@@N@@
open Jvm Jvm.ClassFile Sem Op Lib Jvm.Free Jvm.Stand Jvm.LawKit Jvm.RoadKit Bundle Jvm.Pilot.@@N@@.Jvm.D
-- OWN KIT (mine): reach, finish, weakening of the counters, arrays by a function, arithmetic in omega's form
abbrev own_R (tb : Tables) (e : Env) (below : List Frame) (F0 F : State) : Prop := ∀ t, Steps tb e below F t → Steps tb e below F0 t
abbrev own_G (p : Program) (e : Env) (below : List Frame) (s F0 : State) (Q : Option Value → Heap → List Loc → Prop) (kc ks : Nat) : Prop :=
  ∃ s₂ o, Steps p.tables e below F0 s₂ ∧ s₂.status = .running ∧ Ended s₂ below o ∧ ∃ v L, o = .returned v ∧ Q v s₂.heap L ∧ FrameEnd s o s₂ L kc ks
section OwnKit
variable {p : Program} {l : Launch} {e : Env} {R : Room} {s : State} {m : MethodId} {args : Array Value} {below : List Frame} {meth : Method} {c : Code} {T : State} {locs : List Loc} {cells slots : Nat}
theorem own_fin (X : Stand p l e R s m args below meth c T locs cells slots) (hl : meth.locks = false) {F0 : State} {Q : Option Value → Heap → List Loc → Prop} {kc ks : Nat} (v : Option Value) (hv : meth.sig.returnType = none → v = none) (hq : Q v T.heap locs) (hc : cells ≤ kc) (hs : slots ≤ ks)
    (st : ∀ fs, (∀ (f : JFrame) (acts : List Action), f.method = m → f.locked = none → f.entered = [] → (doReturn e (T.setTop f) acts v).1 = T.setFrames fs) → Steps p.tables e below F0 (T.setFrames fs)) : own_G p e below s F0 Q kc ks := by
  obtain ⟨fs, hr, hrun, hended, hW, hsame⟩ := X.leave hv hl
  exact ⟨_, _, st fs hr, hrun, hended, _, _, rfl, hq, ⟨_, rfl⟩, hW, hsame.mono hc hs⟩
theorem own_mono (X : Stand p l e R s m args below meth c T locs cells slots) {c' s' : Nat} (hc : cells ≤ c') (hs : slots ≤ s') : Stand p l e R s m args below meth c T locs c' s' := { X with same := X.same.mono hc hs }
end OwnKit
theorem own_hv {meth : Method} {t : FieldType} {v : Option Value} (h : meth.sig.returnType = some t) : meth.sig.returnType = none → v = none := fun q => by rw [h] at q; cases q
theorem own_lt32 {a b : Int32} (h : a < b) : a.toInt < b.toInt := Int32.lt_iff_toInt_lt.mp h
theorem own_nlt32 {a b : Int32} (h : ¬ a < b) : b.toInt ≤ a.toInt := Int.not_lt.mp fun q => h (Int32.lt_iff_toInt_lt.mpr q)
theorem own_eq32 {a b : Int32} (h : a = b) : a.toInt = b.toInt := congrArg Int32.toInt h
theorem own_ne32 {a b : Int32} (h : ¬ a = b) : a.toInt ≠ b.toInt := fun q => h (Int32.toInt_inj.mp q)
theorem own_lt64 {a b : Int64} (h : a < b) : a.toInt < b.toInt := Int64.lt_iff_toInt_lt.mp h
theorem own_nlt64 {a b : Int64} (h : ¬ a < b) : b.toInt ≤ a.toInt := Int.not_lt.mp fun q => h (Int64.lt_iff_toInt_lt.mpr q)
theorem own_eq64 {a b : Int64} (h : a = b) : a.toInt = b.toInt := congrArg Int64.toInt h
theorem own_ne64 {a b : Int64} (h : ¬ a = b) : a.toInt ≠ b.toInt := fun q => h (Int64.toInt_inj.mp q)
theorem own_imulc (x y : Int32) (d : Int) (h : y.toInt = d) : ((x * y).toInt - x.toInt * d) % 4294967296 = 0 := by rw [← h]; exact c_imul x y
theorem own_imulc' (x y : Int32) (d : Int) (h : x.toInt = d) : ((x * y).toInt - d * y.toInt) % 4294967296 = 0 := by rw [← h]; exact c_imul x y
theorem own_lmulc (x y : Int64) (d : Int) (h : y.toInt = d) : ((x * y).toInt - x.toInt * d) % 18446744073709551616 = 0 := by rw [← h]; exact c_lmul x y
theorem own_lmulc' (x y : Int64) (d : Int) (h : x.toInt = d) : ((x * y).toInt - d * y.toInt) % 18446744073709551616 = 0 := by rw [← h]; exact c_lmul x y
theorem own_mask (x m : Int32) (k : Nat) (P : Int) (hk : k ≤ 31) (hm : m.toBitVec.toNat = 2 ^ k - 1) (hP : P = ((2 ^ k : Nat) : Int)) : (x &&& m).toInt = x.toInt % P := by rw [hP]; exact c_mask x m k hk hm
theorem own_maskL (x m : Int64) (k : Nat) (P : Int) (hk : k ≤ 63) (hm : m.toBitVec.toNat = 2 ^ k - 1) (hP : P = ((2 ^ k : Nat) : Int)) : (x &&& m).toInt = x.toInt % P := by rw [hP]; exact c_maskL x m k hk hm
theorem own_ishr (x q : Int32) (k : Nat) (P : Int) (hk : q.toBitVec.toNat % 32 = k) (hP : P = ((2 ^ k : Nat) : Int)) : (x >>> (q &&& 31)).toInt = x.toInt / P := by rw [hP]; exact c_ishr x q k hk
theorem own_ishl (x q : Int32) (k : Nat) (P : Int) (hk : q.toBitVec.toNat % 32 = k) (hP : P = ((2 ^ k : Nat) : Int)) : ((x <<< (q &&& 31)).toInt - x.toInt * P) % 4294967296 = 0 := by rw [hP]; exact c_ishl x q k hk
theorem own_iushr (x q : Int32) (k : Nat) (P : Int) (hk : q.toBitVec.toNat % 32 = k) (h0 : 0 < k) (hP : P = ((2 ^ k : Nat) : Int)) : ((x.toUInt32 >>> (q &&& 31).toUInt32).toInt32).toInt = (x.toInt % 4294967296) / P := by rw [hP]; exact c_iushr x q k hk h0
theorem own_lshr (x : Int64) (q : Int32) (k : Nat) (P : Int) (hk : q.toBitVec.toNat % 64 = k) (hP : P = ((2 ^ k : Nat) : Int)) : (x >>> (q &&& 0x3f).toInt64).toInt = x.toInt / P := by rw [hP]; exact c_lshr x q k hk
theorem own_lshl (x : Int64) (q : Int32) (k : Nat) (P : Int) (hk : q.toBitVec.toNat % 64 = k) (hP : P = ((2 ^ k : Nat) : Int)) : ((x <<< (q &&& 0x3f).toInt64).toInt - x.toInt * P) % 18446744073709551616 = 0 := by rw [hP]; exact c_lshl x q k hk
theorem own_lushr (x : Int64) (q : Int32) (k : Nat) (P : Int) (hk : q.toBitVec.toNat % 64 = k) (h0 : 0 < k) (hP : P = ((2 ^ k : Nat) : Int)) : ((x.toUInt64 >>> (q &&& 0x3f).toInt64.toUInt64).toInt64).toInt = (x.toInt % 18446744073709551616) / P := by rw [hP]; exact c_lushr x q k hk h0
theorem own_lc_lt {x y : Int64} {cd : ClassFile.Cond} {b : Bool} (h : if_icmp.holds cd (lcmpW x y) 0 = b) : ifCond.holds cd (lcmpW x y) = b := (if0 _ _).trans h
theorem own_l_lt {x y : Int64} (h : x < y) : ifCond.holds .lt (lcmpW x y) = true ∧ ifCond.holds .ge (lcmpW x y) = false := ⟨(if0 _ _).trans (tlt ((lw_lt x y).mpr h)).1, (if0 _ _).trans (tlt ((lw_lt x y).mpr h)).2.1⟩
theorem own_l_nlt {x y : Int64} (h : ¬ x < y) : ifCond.holds .lt (lcmpW x y) = false ∧ ifCond.holds .ge (lcmpW x y) = true := ⟨(if0 _ _).trans (flt (fun q => h ((lw_lt x y).mp q))).1, (if0 _ _).trans (flt (fun q => h ((lw_lt x y).mp q))).2.1⟩
theorem own_l_gt {x y : Int64} (h : y < x) : ifCond.holds .gt (lcmpW x y) = true ∧ ifCond.holds .le (lcmpW x y) = false := ⟨(if0 _ _).trans (tlt ((lw_gt x y).mpr h)).2.2.1, (if0 _ _).trans (tlt ((lw_gt x y).mpr h)).2.2.2⟩
theorem own_l_ngt {x y : Int64} (h : ¬ y < x) : ifCond.holds .gt (lcmpW x y) = false ∧ ifCond.holds .le (lcmpW x y) = true := ⟨(if0 _ _).trans (flt (fun q => h ((lw_gt x y).mp q))).2.2.1, (if0 _ _).trans (flt (fun q => h ((lw_gt x y).mp q))).2.2.2⟩
theorem own_l_eq {x y : Int64} (h : x = y) : ifCond.holds .eq (lcmpW x y) = true ∧ ifCond.holds .ne (lcmpW x y) = false := ⟨(if0 _ _).trans (teq ((lw_eq x y).mpr h)).1, (if0 _ _).trans (teq ((lw_eq x y).mpr h)).2⟩
theorem own_l_neq {x y : Int64} (h : ¬ x = y) : ifCond.holds .eq (lcmpW x y) = false ∧ ifCond.holds .ne (lcmpW x y) = true := ⟨(if0 _ _).trans (feq (fun q => h ((lw_eq x y).mp q))).1, (if0 _ _).trans (feq (fun q => h ((lw_eq x y).mp q))).2⟩
theorem own_lrem {x y : Int64} {d : Int} (hy : y.toInt = d) : (0 ≤ x.toInt → (x - (x / y) * y).toInt = x.toInt % d) ∧ (x.toInt < 0 → (x - (x / y) * y).toInt = -((-x.toInt) % d)) := c_lrem x y d hy
theorem own_lremf (x y : Int64) (d : Int) (hy : y.toInt = d) : (0 ≤ x.toInt → (x % y).toInt = x.toInt % d) ∧ (x.toInt < 0 → (x % y).toInt = -((-x.toInt) % d)) := by rw [Int64.toInt_mod, hy]; exact tr _ _
theorem own_lremM {p : Program} {l : Launch} {e : Env} {R : Room} {s : State} {m : MethodId} {args : Array Value} {below : List Frame} {meth : Method} {c : Code} {T : State} {locs : List Loc} {cells slots : Nat} {g : JFrame} {target : State} (X : Stand p l e R s m args below meth c T locs cells slots) (hx : p.tables.exec = Jvm.exec) (hg : g.method = m) {x y : Int64} {rest : List Value} (hd : decode c.code g.pc = .ok (.lrem, 1)) (hs : g.stack = .long y :: .long x :: rest) (hy : y ≠ 0)
    (hr : Steps p.tables e below (T.setTop { g with pc := g.pc + 1, stack := .long (x % y) :: rest }) target) : Steps p.tables e below (T.setTop g) target :=
  XS.lrem X.here hx hg hd hs hy (by rw [lrem_mod]; exact hr)
theorem own_R32 (x : Int32) : -2147483648 ≤ x.toInt ∧ x.toInt ≤ 2147483647 := by have := rng32 x; omega
theorem own_R64 (x : Int64) : -9223372036854775808 ≤ x.toInt ∧ x.toInt ≤ 9223372036854775807 := by have := rng64 x; omega
theorem own_iaddR {x y : Int32} {a b c d : Int} (lo hi : Int) (hx : a ≤ x.toInt ∧ x.toInt ≤ b) (hy : c ≤ y.toInt ∧ y.toInt ≤ d) (h1 : -2147483648 ≤ a + c ∧ b + d ≤ 2147483647) (h2 : lo ≤ a + c ∧ b + d ≤ hi) : (x + y).toInt = x.toInt + y.toInt ∧ lo ≤ (x + y).toInt ∧ (x + y).toInt ≤ hi := by have := c_iadd x y; have := rng32 (x + y); omega
theorem own_isubR {x y : Int32} {a b c d : Int} (lo hi : Int) (hx : a ≤ x.toInt ∧ x.toInt ≤ b) (hy : c ≤ y.toInt ∧ y.toInt ≤ d) (h1 : -2147483648 ≤ a - d ∧ b - c ≤ 2147483647) (h2 : lo ≤ a - d ∧ b - c ≤ hi) : (x - y).toInt = x.toInt - y.toInt ∧ lo ≤ (x - y).toInt ∧ (x - y).toInt ≤ hi := by have := c_isub x y; have := rng32 (x - y); omega
theorem own_laddR {x y : Int64} {a b c d : Int} (lo hi : Int) (hx : a ≤ x.toInt ∧ x.toInt ≤ b) (hy : c ≤ y.toInt ∧ y.toInt ≤ d) (h1 : -9223372036854775808 ≤ a + c ∧ b + d ≤ 9223372036854775807) (h2 : lo ≤ a + c ∧ b + d ≤ hi) : (x + y).toInt = x.toInt + y.toInt ∧ lo ≤ (x + y).toInt ∧ (x + y).toInt ≤ hi := by have := c_ladd x y; have := rng64 (x + y); omega
theorem own_lsubR {x y : Int64} {a b c d : Int} (lo hi : Int) (hx : a ≤ x.toInt ∧ x.toInt ≤ b) (hy : c ≤ y.toInt ∧ y.toInt ≤ d) (h1 : -9223372036854775808 ≤ a - d ∧ b - c ≤ 9223372036854775807) (h2 : lo ≤ a - d ∧ b - c ≤ hi) : (x - y).toInt = x.toInt - y.toInt ∧ lo ≤ (x - y).toInt ∧ (x - y).toInt ≤ hi := by have := c_lsub x y; have := rng64 (x - y); omega
theorem own_imulR {x y : Int32} {a b k : Int} (lo hi : Int) (hx : a ≤ x.toInt ∧ x.toInt ≤ b) (hy : y.toInt = k) (hk : 0 ≤ k) (h1 : -2147483648 ≤ a * k ∧ b * k ≤ 2147483647) (h2 : lo ≤ a * k ∧ b * k ≤ hi) : (x * y).toInt = x.toInt * k ∧ lo ≤ (x * y).toInt ∧ (x * y).toInt ≤ hi := by
  have h := c_imul x y; have := rng32 (x * y); rw [hy] at h
  have p1 := Int.mul_le_mul_of_nonneg_right hx.1 hk; have p2 := Int.mul_le_mul_of_nonneg_right hx.2 hk
  generalize x.toInt * k = z at *; generalize a * k = z1 at *; generalize b * k = z2 at *; omega
theorem own_lmulR {x y : Int64} {a b k : Int} (lo hi : Int) (hx : a ≤ x.toInt ∧ x.toInt ≤ b) (hy : y.toInt = k) (hk : 0 ≤ k) (h1 : -9223372036854775808 ≤ a * k ∧ b * k ≤ 9223372036854775807) (h2 : lo ≤ a * k ∧ b * k ≤ hi) : (x * y).toInt = x.toInt * k ∧ lo ≤ (x * y).toInt ∧ (x * y).toInt ≤ hi := by
  have h := c_lmul x y; have := rng64 (x * y); rw [hy] at h
  have p1 := Int.mul_le_mul_of_nonneg_right hx.1 hk; have p2 := Int.mul_le_mul_of_nonneg_right hx.2 hk
  generalize x.toInt * k = z at *; generalize a * k = z1 at *; generalize b * k = z2 at *; omega
theorem own_imulR' {x y : Int32} {a b k : Int} (lo hi : Int) (hx : a ≤ y.toInt ∧ y.toInt ≤ b) (hy : x.toInt = k) (hk : 0 ≤ k) (h1 : -2147483648 ≤ a * k ∧ b * k ≤ 2147483647) (h2 : lo ≤ a * k ∧ b * k ≤ hi) : (x * y).toInt = y.toInt * k ∧ lo ≤ (x * y).toInt ∧ (x * y).toInt ≤ hi := by rw [Int32.mul_comm]; exact own_imulR lo hi hx hy hk h1 h2
theorem own_lmulR' {x y : Int64} {a b k : Int} (lo hi : Int) (hx : a ≤ y.toInt ∧ y.toInt ≤ b) (hy : x.toInt = k) (hk : 0 ≤ k) (h1 : -9223372036854775808 ≤ a * k ∧ b * k ≤ 9223372036854775807) (h2 : lo ≤ a * k ∧ b * k ≤ hi) : (x * y).toInt = y.toInt * k ∧ lo ≤ (x * y).toInt ∧ (x * y).toInt ≤ hi := by rw [Int64.mul_comm]; exact own_lmulR lo hi hx hy hk h1 h2
theorem own_maskR (x m : Int32) (k : Nat) (P : Int) (hk : k ≤ 31) (hm : m.toBitVec.toNat = 2 ^ k - 1) (hP : P = ((2 ^ k : Nat) : Int)) (hi : Int) (h0 : 0 < P) (h : P ≤ hi + 1) : (x &&& m).toInt = x.toInt % P ∧ 0 ≤ (x &&& m).toInt ∧ (x &&& m).toInt ≤ hi := by
  have e := own_mask x m k P hk hm hP; have h1 := Int.emod_nonneg x.toInt (show P ≠ 0 by omega); have h2 := Int.emod_lt_of_pos x.toInt h0; omega
theorem own_maskLR (x m : Int64) (k : Nat) (P : Int) (hk : k ≤ 63) (hm : m.toBitVec.toNat = 2 ^ k - 1) (hP : P = ((2 ^ k : Nat) : Int)) (hi : Int) (h0 : 0 < P) (h : P ≤ hi + 1) : (x &&& m).toInt = x.toInt % P ∧ 0 ≤ (x &&& m).toInt ∧ (x &&& m).toInt ≤ hi := by
  have e := own_maskL x m k P hk hm hP; have h1 := Int.emod_nonneg x.toInt (show P ≠ 0 by omega); have h2 := Int.emod_lt_of_pos x.toInt h0; omega
theorem own_iremR {x y : Int32} {a b d : Int} (hi : Int) (hx : a ≤ x.toInt ∧ x.toInt ≤ b) (hy : y.toInt = d) (ha : 0 ≤ a) (hd : 0 < d) (h : d ≤ hi + 1) : (x % y).toInt = x.toInt % d ∧ 0 ≤ (x % y).toInt ∧ (x % y).toInt ≤ hi := by
  have e := (c_irem x y d hy).1 (by omega); have h1 := Int.emod_nonneg x.toInt (show d ≠ 0 by omega); have h2 := Int.emod_lt_of_pos x.toInt hd; omega
theorem own_lremR {x y : Int64} {a b d : Int} (hi : Int) (hx : a ≤ x.toInt ∧ x.toInt ≤ b) (hy : y.toInt = d) (ha : 0 ≤ a) (hd : 0 < d) (h : d ≤ hi + 1) : (x % y).toInt = x.toInt % d ∧ 0 ≤ (x % y).toInt ∧ (x % y).toInt ≤ hi := by
  have e := (own_lremf x y d hy).1 (by omega); have h1 := Int.emod_nonneg x.toInt (show d ≠ 0 by omega); have h2 := Int.emod_lt_of_pos x.toInt hd; omega
theorem own_idivR {x y : Int32} {a b d : Int} (lo hi : Int) (hx : a ≤ x.toInt ∧ x.toInt ≤ b) (hy : y.toInt = d) (hy1 : y ≠ -1) (ha : 0 ≤ a) (hd : 0 < d) (h : lo ≤ a / d ∧ b / d ≤ hi) : (x / y).toInt = x.toInt / d ∧ lo ≤ (x / y).toInt ∧ (x / y).toInt ≤ hi := by
  have e := (c_idiv x y d hy hy1).1 (by omega); have h1 := Int.ediv_le_ediv hd hx.1; have h2 := Int.ediv_le_ediv hd hx.2; omega
theorem own_ldivR {x y : Int64} {a b d : Int} (lo hi : Int) (hx : a ≤ x.toInt ∧ x.toInt ≤ b) (hy : y.toInt = d) (hy1 : y ≠ -1) (ha : 0 ≤ a) (hd : 0 < d) (h : lo ≤ a / d ∧ b / d ≤ hi) : (x / y).toInt = x.toInt / d ∧ lo ≤ (x / y).toInt ∧ (x / y).toInt ≤ hi := by
  have e := (c_ldiv x y d hy hy1).1 (by omega); have h1 := Int.ediv_le_ediv hd hx.1; have h2 := Int.ediv_le_ediv hd hx.2; omega
theorem own_l2iR {x : Int64} {a b : Int} (hx : a ≤ x.toInt ∧ x.toInt ≤ b) (h1 : -2147483648 ≤ a ∧ b ≤ 2147483647) : x.toInt32.toInt = x.toInt ∧ a ≤ x.toInt32.toInt ∧ x.toInt32.toInt ≤ b := by have := c_l2i x; have := rng32 x.toInt32; omega
theorem own_i2lR {x : Int32} {a b : Int} (hx : a ≤ x.toInt ∧ x.toInt ≤ b) : x.toInt64.toInt = x.toInt ∧ a ≤ x.toInt64.toInt ∧ x.toInt64.toInt ≤ b := by have := c_i2l x; omega
theorem own_eqR32 {x y : Int32} {a b : Int} (h : x = y) (hy : a ≤ y.toInt ∧ y.toInt ≤ b) : x.toInt = y.toInt ∧ a ≤ x.toInt ∧ x.toInt ≤ b := by subst h; exact ⟨rfl, hy⟩
theorem own_eqR64 {x y : Int64} {a b : Int} (h : x = y) (hy : a ≤ y.toInt ∧ y.toInt ≤ b) : x.toInt = y.toInt ∧ a ≤ x.toInt ∧ x.toInt ≤ b := by subst h; exact ⟨rfl, hy⟩
theorem own_lushrR {x : Int64} {a b : Int} (q : Int32) (k : Nat) (P lo hi : Int) (hx : a ≤ x.toInt ∧ x.toInt ≤ b) (ha : 0 ≤ a) (hk : q.toBitVec.toNat % 64 = k) (h0 : 0 < k) (hP : P = ((2 ^ k : Nat) : Int)) (hPp : 0 < P) (h : lo ≤ a / P ∧ b / P ≤ hi) : ((x.toUInt64 >>> (q &&& 0x3f).toInt64.toUInt64).toInt64).toInt = x.toInt / P ∧ lo ≤ ((x.toUInt64 >>> (q &&& 0x3f).toInt64.toUInt64).toInt64).toInt ∧ ((x.toUInt64 >>> (q &&& 0x3f).toInt64.toUInt64).toInt64).toInt ≤ hi := by
  have e := own_lushr x q k P hk h0 hP; have := rng64 x; rw [Int.emod_eq_of_lt (by omega) (by omega)] at e; have h1 := Int.ediv_le_ediv hPp hx.1; have h2 := Int.ediv_le_ediv hPp hx.2; omega
theorem own_iushrR {x : Int32} {a b : Int} (q : Int32) (k : Nat) (P lo hi : Int) (hx : a ≤ x.toInt ∧ x.toInt ≤ b) (ha : 0 ≤ a) (hk : q.toBitVec.toNat % 32 = k) (h0 : 0 < k) (hP : P = ((2 ^ k : Nat) : Int)) (hPp : 0 < P) (h : lo ≤ a / P ∧ b / P ≤ hi) : ((x.toUInt32 >>> (q &&& 31).toUInt32).toInt32).toInt = x.toInt / P ∧ lo ≤ ((x.toUInt32 >>> (q &&& 31).toUInt32).toInt32).toInt ∧ ((x.toUInt32 >>> (q &&& 31).toUInt32).toInt32).toInt ≤ hi := by
  have e := own_iushr x q k P hk h0 hP; have := rng32 x; rw [Int.emod_eq_of_lt (by omega) (by omega)] at e; have h1 := Int.ediv_le_ediv hPp hx.1; have h2 := Int.ediv_le_ediv hPp hx.2; omega
-- OWN KIT 1 (mine): an array by a function of its places
def own_Arf (Z : State) (h : Heap) (a : Addr) (ty : FieldType) (n : Nat) (f : Nat → Value) : Prop := ∃ c : Cell, Arr Z h a c ty ∧ c.slots.size = n ∧ n < 2 ^ 31 ∧ ∀ j, j < n → c.slots[j]? = some (f j)
section OwnArf
variable {Z : State} {h h' : Heap} {a b : Addr} {ty : FieldType} {n : Nat} {f f' : Nat → Value} {sl : Nat} {v : Value} {ws : List Addr}
theorem own_Arf.lt (F : own_Arf Z h a ty n f) : a < h.size := by obtain ⟨c, A, -⟩ := F; exact A.lt
theorem own_Arf.ext (F : own_Arf Z h a ty n f) (E : Ext h h') : own_Arf Z h' a ty n f := by obtain ⟨c, A, r⟩ := F; exact ⟨c, A.ext E, r⟩
theorem own_Arf.other (F : own_Arf Z h b ty n f) (W : Wr h h' a sl v) (q : b ≠ a) : own_Arf Z h' b ty n f := by obtain ⟨c, A, r⟩ := F; exact ⟨c, A.other W q, r⟩
theorem own_Arf.keep (F : own_Arf Z h a ty n f) (K : Keep h h' ws) (q : a ∉ ws) : own_Arf Z h' a ty n f := by obtain ⟨c, A, r⟩ := F; exact ⟨c, ⟨K.2.1 a c A.1 q, A.2⟩, r⟩
theorem own_Arf.cong (F : own_Arf Z h a ty n f) (q : ∀ j, j < n → f j = f' j) : own_Arf Z h a ty n f' := by obtain ⟨c, A, r1, r2, r3⟩ := F; exact ⟨c, A, r1, r2, fun j hj => (q j hj) ▸ r3 j hj⟩
theorem own_Arf.new {k : ClassId} {z : Int32} (A : Arr Z h a (newA k ty z) ty) (q : ¬ z < 0) : own_Arf Z h a ty z.toNatClampNeg (fun _ => defaultValue ty) :=
  ⟨_, A, sz_new _ _ _, (back32 q).2, fun j hj => by simp [newA, hj]⟩
theorem own_inb {j : Int32} {n : Nat} (h1 : 0 ≤ j.toInt) (h2 : j.toInt < n) : ¬ (j < 0 ∨ n ≤ j.toNatClampNeg) := by
  have q : j.toNatClampNeg = j.toInt.toNat := rfl
  rintro (p | p)
  · have := Int32.lt_iff_toInt_lt.mp p; rw [show (0 : Int32).toInt = 0 from rfl] at this; omega
  · rw [q] at p; omega
theorem own_set {c : Cell} {k : Nat} (A : Arr Z h a c ty) (S : c.slots.size = n) (hn : n < 2 ^ 31) (H : ∀ j, j < n → c.slots[j]? = some (f j)) (W : Wr h h' a k v) (hk : k < n) : own_Arf Z h' a ty n (fun i => if i = k then v else f i) := by
  refine ⟨_, A.same W, by rw [sz_set]; exact S, hn, fun j hj => ?_⟩
  by_cases q : j = k
  · subst q; simp [Cell.setSlot, S, hj]
  · show _ = some (if j = k then v else f j)
    rw [if_neg q, ← H j hj]; exact Array.getElem?_setIfInBounds_ne (Ne.symm q)
variable {p : Program} {l : Launch} {e : Env} {R : Room} {s : State} {m : MethodId} {args : Array Value} {below : List Frame} {meth : Method} {c : Code} {T : State} {locs : List Loc} {cells slots : Nat}
theorem own_ld {A : Prop} {j : Int32} (F : own_Arf Z h a ty n f) (h1 : 0 ≤ j.toInt) (h2 : j.toInt < n) (k : ∀ c : Cell, Arr Z h a c ty → ¬ (j < 0 ∨ c.slots.size ≤ j.toNatClampNeg) → c.slots[j.toNatClampNeg]? = some (f j.toNatClampNeg) → A) : A := by
  obtain ⟨c, Ar, S, hn, H⟩ := F
  exact k c Ar (by rw [S]; exact own_inb h1 h2) (H _ (by have q : j.toNatClampNeg = j.toInt.toNat := rfl; omega))
theorem own_iaload (X : Stand p l e R s m args below meth c T locs cells slots) (hx : p.tables.exec = Jvm.exec) (hZ : Z.Warmed39 s.vm) (eT : T.heap = h) {j : Int32} (F : own_Arf Z h a .int n f) (h1 : 0 ≤ j.toInt) (h2 : j.toInt < n) {w : Value} (hv : f j.toNatClampNeg = w) {g : JFrame} (hg : g.method = m) {rest : List Value} (hs : g.stack = .int j :: .ref a :: rest) (hd : decode c.code g.pc = .ok (.iaload, 1)) :
    ∀ target, Steps p.tables e below (T.setTop { g with pc := g.pc + 1, stack := w :: rest }) target → Steps p.tables e below (T.setTop g) target := by
  subst hv
  exact own_ld F h1 h2 fun cl Ar hin hat => X.iaload hx (j := j) (by rw [eT]; exact Ar.1) (State.isArrayOf_alike hZ.alike Ar.2.1) Ar.2.2 hin hat hg hs hd
theorem own_baloadB (X : Stand p l e R s m args below meth c T locs cells slots) (hx : p.tables.exec = Jvm.exec) (hZ : Z.Warmed39 s.vm) (eT : T.heap = h) {j : Int32} (F : own_Arf Z h a .byte n f) (h1 : 0 ≤ j.toInt) (h2 : j.toInt < n) {w : Value} (hv : f j.toNatClampNeg = w) {g : JFrame} (hg : g.method = m) {rest : List Value} (hs : g.stack = .int j :: .ref a :: rest) (hd : decode c.code g.pc = .ok (.baload, 1)) :
    ∀ target, Steps p.tables e below (T.setTop { g with pc := g.pc + 1, stack := w :: rest }) target → Steps p.tables e below (T.setTop g) target := by
  subst hv
  exact own_ld F h1 h2 fun cl Ar hin hat => X.baloadBytes hx (j := j) (by rw [eT]; exact Ar.1) (State.isArrayOf_alike hZ.alike Ar.2.1) Ar.2.2 hin hat hg hs hd
theorem own_baloadZ (X : Stand p l e R s m args below meth c T locs cells slots) (hx : p.tables.exec = Jvm.exec) (hZ : Z.Warmed39 s.vm) (eT : T.heap = h) {j : Int32} (F : own_Arf Z h a .boolean n f) (h1 : 0 ≤ j.toInt) (h2 : j.toInt < n) {w : Value} (hv : f j.toNatClampNeg = w) {g : JFrame} (hg : g.method = m) {rest : List Value} (hs : g.stack = .int j :: .ref a :: rest) (hd : decode c.code g.pc = .ok (.baload, 1)) :
    ∀ target, Steps p.tables e below (T.setTop { g with pc := g.pc + 1, stack := w :: rest }) target → Steps p.tables e below (T.setTop g) target := by
  subst hv
  exact own_ld F h1 h2 fun cl Ar hin hat => X.baloadBooleans hx (j := j) (by rw [eT]; exact Ar.1) (State.isArrayOf_alike hZ.alike Ar.2.1) Ar.2.2 hin hat hg hs hd
theorem own_len32 {c : Cell} {n : Nat} (S : c.slots.size = n) {z : Int32} (hz : z = Int32.ofNat n) : c.slots.size.toInt32 = z := by rw [S, hz]
theorem own_alen (X : Stand p l e R s m args below meth c T locs cells slots) (hx : p.tables.exec = Jvm.exec) (hZ : Z.Warmed39 s.vm) (eT : T.heap = h) (F : own_Arf Z h a ty n f) (z : Int32) (hz : z = Int32.ofNat n) {g : JFrame} (hg : g.method = m) {rest : List Value} (hs : g.stack = .ref a :: rest) (hd : decode c.code g.pc = .ok (.arraylength, 1)) :
    ∀ target, Steps p.tables e below (T.setTop { g with pc := g.pc + 1, stack := .int z :: rest }) target → Steps p.tables e below (T.setTop g) target := by
  obtain ⟨cl, Ar, S, hn, H⟩ := F
  intro t k
  refine X.arraylength hx (cell := cl) (by rw [eT]; exact Ar.1) (State.isArrayOf_alike hZ.alike Ar.2.1) hg hs hd t ?_
  rw [own_len32 S hz]; exact k
theorem own_stI (X : Stand p l e R s m args below meth c T locs cells slots) (hx : p.tables.exec = Jvm.exec) (hZ : Z.Warmed39 s.vm) (eT : T.heap = h) {j x : Int32} (F : own_Arf Z h a .int n f) (h1 : 0 ≤ j.toInt) (h2 : j.toInt < n) {g : JFrame} (hg : g.method = m) {rest : List Value} (hs : g.stack = .int x :: .int j :: .ref a :: rest) (hd : decode c.code g.pc = .ok (.iastore, 1)) :
    ∃ T' h', Stand p l e R s m args below meth c T' (locs ++ [⟨a, j.toNatClampNeg⟩]) cells slots ∧ T'.heap = h' ∧ Wr h h' a j.toNatClampNeg (.int x) ∧ own_Arf Z h' a .int n (fun i => if i = j.toNatClampNeg then .int x else f i) ∧ ∀ target, Steps p.tables e below (T'.setTop { g with pc := g.pc + 1, stack := rest }) target → Steps p.tables e below (T.setTop g) target := by
  obtain ⟨cl, Ar, S, hn, H⟩ := F
  have hin : ¬ (j < 0 ∨ cl.slots.size ≤ j.toNatClampNeg) := by rw [S]; exact own_inb h1 h2
  obtain ⟨T', h', X', e', W, st⟩ := stI X hx hZ eT Ar (j := j) hin hg hs hd
  exact ⟨T', h', X', e', W, own_set Ar S hn H W (by have q : j.toNatClampNeg = j.toInt.toNat := rfl; omega), st⟩
theorem own_stB (X : Stand p l e R s m args below meth c T locs cells slots) (hx : p.tables.exec = Jvm.exec) (hZ : Z.Warmed39 s.vm) (eT : T.heap = h) {j x : Int32} (F : own_Arf Z h a .byte n f) (h1 : 0 ≤ j.toInt) (h2 : j.toInt < n) {g : JFrame} (hg : g.method = m) {rest : List Value} (hs : g.stack = .int x :: .int j :: .ref a :: rest) (hd : decode c.code g.pc = .ok (.bastore, 1)) :
    ∃ T' h', Stand p l e R s m args below meth c T' (locs ++ [⟨a, j.toNatClampNeg⟩]) cells slots ∧ T'.heap = h' ∧ Wr h h' a j.toNatClampNeg (.int (nar .byte x)) ∧ own_Arf Z h' a .byte n (fun i => if i = j.toNatClampNeg then .int (nar .byte x) else f i) ∧ ∀ target, Steps p.tables e below (T'.setTop { g with pc := g.pc + 1, stack := rest }) target → Steps p.tables e below (T.setTop g) target := by
  obtain ⟨cl, Ar, S, hn, H⟩ := F
  have hin : ¬ (j < 0 ∨ cl.slots.size ≤ j.toNatClampNeg) := by rw [S]; exact own_inb h1 h2
  obtain ⟨T', h', X', e', W, st⟩ := stB X hx hZ eT Ar (j := j) hin hg hs hd
  exact ⟨T', h', X', e', W, own_set Ar S hn H W (by have q : j.toNatClampNeg = j.toInt.toNat := rfl; omega), st⟩
theorem own_stZ (X : Stand p l e R s m args below meth c T locs cells slots) (hx : p.tables.exec = Jvm.exec) (hZ : Z.Warmed39 s.vm) (eT : T.heap = h) {j x : Int32} (F : own_Arf Z h a .boolean n f) (h1 : 0 ≤ j.toInt) (h2 : j.toInt < n) {g : JFrame} (hg : g.method = m) {rest : List Value} (hs : g.stack = .int x :: .int j :: .ref a :: rest) (hd : decode c.code g.pc = .ok (.bastore, 1)) :
    ∃ T' h', Stand p l e R s m args below meth c T' (locs ++ [⟨a, j.toNatClampNeg⟩]) cells slots ∧ T'.heap = h' ∧ Wr h h' a j.toNatClampNeg (.int (nar .boolean x)) ∧ own_Arf Z h' a .boolean n (fun i => if i = j.toNatClampNeg then .int (nar .boolean x) else f i) ∧ ∀ target, Steps p.tables e below (T'.setTop { g with pc := g.pc + 1, stack := rest }) target → Steps p.tables e below (T.setTop g) target := by
  obtain ⟨cl, Ar, S, hn, H⟩ := F
  have hin : ¬ (j < 0 ∨ cl.slots.size ≤ j.toNatClampNeg) := by rw [S]; exact own_inb h1 h2
  obtain ⟨T', h', X', e', W, st⟩ := stZ X hx hZ eT Ar (j := j) hin hg hs hd
  exact ⟨T', h', X', e', W, own_set Ar S hn H W (by have q : j.toNatClampNeg = j.toInt.toNat := rfl; omega), st⟩
end OwnArf
theorem own_clamp {i : Int32} {k : Nat} (h : i.toInt = k) : i.toNatClampNeg = k := by show i.toInt.toNat = k; omega
theorem own_tabArf {s : State} {a : Addr} {cl : Cell} {ty : FieldType} {n : Nat} (hf : Fit s) (A : Arr s s.heap a cl ty) (ht : ty = .int ∨ ty = .boolean ∨ ty = .byte ∨ ty = .char ∨ ty = .short) (S : cl.slots.size = n) (hn : n < 2 ^ 31) : ∃ g : Nat → Int32, own_Arf s s.heap a ty n (fun i => .int (g i)) := by
  refine ⟨fun i => atv cl (Int32.ofNat i), cl, A, S, hn, fun j hj => ?_⟩
  have e1 : (Int32.ofNat j).toInt = j := Int32.toInt_ofNat_of_lt (by omega)
  have e2 : (Int32.ofNat j).toNatClampNeg = j := by show (Int32.ofNat j).toInt.toNat = j; omega
  have hin : ¬ (Int32.ofNat j < 0 ∨ cl.slots.size ≤ (Int32.ofNat j).toNatClampNeg) := by rw [S]; exact own_inb (by omega) (by omega)
  obtain ⟨v, h1, h2⟩ := elem_fit hf A hin
  obtain ⟨x, rfl⟩ := fit_I h2 ht
  show cl.slots[j]? = some (.int (atv cl (Int32.ofNat j)))
  rw [atv_of h1, ← e2]; exact h1
theorem own_lenOf {args : Array Value} {s : State} {t : Term} {a : Addr} {cl : Cell} {ty : FieldType} {k : Int32} (ev : t.eval args s none [] s = some (.ref a)) (A : Arr s s.heap a cl ty) (h : (Cond.eq (.length t) (.int k)).value args s none s [] = some true) (hk : 0 ≤ k.toInt) : cl.slots.size = k.toInt.toNat ∧ cl.slots.size < 2 ^ 31 := by
  have ha := A.fin (Vm.Alike.refl _)
  by_cases q : cl.slots.size < 2 ^ 31
  · have e1 : (Term.length t).eval args s none [] s = some (.int cl.slots.size.toInt32) := len_f ev ha q
    have e2 : cl.slots.size.toInt32 = k := by
      have hh := h
      simp only [Cond.value] at hh
      rw [e1] at hh
      simpa [Term.eval] using hh
    have e3 := len_toInt q
    rw [e2] at e3
    exact ⟨by omega, q⟩
  · exfalso
    have e1 : (Term.length t).eval args s none [] s = none := by simp [Term.eval, ev, ha, q]
    simp [Cond.value, e1] at h
theorem own_nameI {Z : State} {h : Heap} {a : Addr} {ty : FieldType} {n k : Nat} {g : Nat → Int32} {x : Int32} (V : own_Arf Z h a ty n (fun i => if i = k then .int x else .int (g i))) : ∃ g' : Nat → Int32, (∀ i, g' i = if i = k then x else g i) ∧ own_Arf Z h a ty n (fun i => .int (g' i)) :=
  ⟨fun i => if i = k then x else g i, fun _ => rfl, V.cong (fun i _ => by by_cases q : i = k <;> simp [q])⟩
theorem own_nameD {Z : State} {h : Heap} {a : Addr} {ty : FieldType} {n k : Nat} {g : Nat → UInt64} {x : UInt64} (V : own_Arf Z h a ty n (fun i => if i = k then .double x else .double (g i))) : ∃ g' : Nat → UInt64, (∀ i, g' i = if i = k then x else g i) ∧ own_Arf Z h a ty n (fun i => .double (g' i)) :=
  ⟨fun i => if i = k then x else g i, fun _ => rfl, V.cong (fun i _ => by by_cases q : i = k <;> simp [q])⟩
theorem own_natOf {i : Int32} {lo hi : Int} (h1 : 0 ≤ i.toInt) : ∃ k : Nat, i.toInt = k := ⟨i.toInt.toNat, by omega⟩
theorem own_tn {i : Int32} {k : Nat} (h : i.toInt = k) : i.toBitVec.toNat = k := by
  have h1 : i.toBitVec.toInt = k := h
  have h2 := BitVec.toInt_eq_toNat_cond i.toBitVec
  have h3 := i.toBitVec.isLt
  rw [h1] at h2
  split at h2 <;> omega
-- OWN KIT 3 (mine): extension, clones, arrays of references
theorem own_extR (h : Heap) : Ext h h := ⟨Nat.le_refl _, fun _ _ q => q⟩
theorem own_extT {h h' h'' : Heap} (E : Ext h h') (E' : Ext h' h'') : Ext h h'' := ⟨Nat.le_trans E.1 E'.1, fun a c q => E'.2 a c (E.2 a c q)⟩
theorem own_extK {h h' : Heap} (K : Keep h h' []) : Ext h h' := ⟨K.1, fun a c q => K.2.1 a c q nin0⟩
section OwnRef
variable {Z : State} {h h' : Heap} {a b : Addr} {ty : FieldType} {n : Nat} {f f' : Nat → Value} {p : Program} {l : Launch} {e : Env} {R : Room} {s : State} {m : MethodId} {args : Array Value} {below : List Frame} {meth : Method} {c : Code} {T : State} {locs : List Loc} {cells slots : Nat} {a0 : Array Value}
theorem own_aaload (X : Stand p l e R s m args below meth c T locs cells slots) (hx : p.tables.exec = Jvm.exec) (hZ : Z.Warmed39 s.vm) (eT : T.heap = h) {j : Int32} (F : own_Arf Z h a ty n f) (h1 : 0 ≤ j.toInt) (h2 : j.toInt < n) {w : Value} (hv : f j.toNatClampNeg = w) (hty : ty.isReference = true) {g : JFrame} (hg : g.method = m) {rest : List Value} (hs : g.stack = .int j :: .ref a :: rest) (hd : decode c.code g.pc = .ok (.aaload, 1)) :
    ∀ target, Steps p.tables e below (T.setTop { g with pc := g.pc + 1, stack := w :: rest }) target → Steps p.tables e below (T.setTop g) target := by
  subst hv
  exact own_ld F h1 h2 fun cl Ar hin hat => X.aaload hx (j := j) (by rw [eT]; exact Ar.1) (State.isArrayOf_alike hZ.alike Ar.2.1) hty Ar.2.2 hin hat hg hs hd
theorem own_clone (X : Stand p l e R s m args below meth c T locs cells slots) (hx : p.tables.exec = Jvm.exec) (hZ : Z.Warmed39 s.vm) {own ad : String} {index : Nat} (hown : s.vm.findClass own = some m.cls)
    (w1 : (Cond.methodLink own index ⟨ad, "clone", "()Ljava/lang/Object;"⟩).before a0 Z = true) (w2 : (Cond.sameMethod ad "java/lang/Object" "clone" "()Ljava/lang/Object;").before a0 Z = true) (w3 : (Cond.native ⟨"java/lang/Object", "clone", "()Ljava/lang/Object;"⟩).before a0 Z = true)
    (w4 : (Cond.instanceMethod ⟨"java/lang/Object", "clone", "()Ljava/lang/Object;"⟩).before a0 Z = true) (w5 : (Cond.selects ad ⟨ad, "clone", "()Ljava/lang/Object;"⟩ ⟨"java/lang/Object", "clone", "()Ljava/lang/Object;"⟩).before a0 Z = true) (w6 : (Cond.castable ad "java/lang/Cloneable").before a0 Z = true)
    (eT : T.heap = h) (F : own_Arf Z h a ty n f) (hfit : ∀ j, j < n → fits ty (f j) = true) (E : Exa Z h a ad) {g : JFrame} (hg : g.method = m) (hsize : g.locals.size = c.maxLocals) {rest : List Value} (hs : g.stack = .ref a :: rest) (hd : decode c.code g.pc = .ok (.invokevirtual index, 3))
    (hf : 1 ≤ R.frames) {W cap : Nat} (hW : 2 * g.monitorRoom + (rest.map fun v => v.category).sum ≤ W) (hl : W + 14 ≤ R.locals) (hcap : n ≤ cap) (hc : cells + 1 ≤ R.cells) (hsl : slots + cap ≤ R.slots) :
    ∃ T' h', Stand p l e R s m args below meth c T' locs (cells + 1) (slots + cap) ∧ T'.heap = h' ∧ Ext h h' ∧ own_Arf Z h' h.size ty n f ∧ Exa Z h' h.size ad ∧
      ∀ target, Steps p.tables e below (T'.setTop { g with pc := g.pc + 3, stack := .ref h.size :: rest }) target → Steps p.tables e below (T.setTop g) target := by
  obtain ⟨cl, A, S, hn, H⟩ := F
  have FC : FitC Z cl := fitC_of A fun i hi v hv => by rw [H i (by omega)] at hv; cases hv; exact hfit i (by omega)
  obtain ⟨T', h', X', e', ex, A', E', st⟩ := cloneA X hx hZ hown w1 w2 w3 w4 w5 w6 eT A E FC hg hsize hs hd hf hW hl (by omega) hc hsl
  exact ⟨T', h', X', e', ex, ⟨cloneOf cl, A', S, hn, H⟩, E', st⟩
end OwnRef
theorem own_elemAt {args : Array Value} {s : State} {t u : Term} {a b : Addr} {cl : Cell} {ty : FieldType} {k : Int32} (ev : t.eval args s none [] s = some (.ref a)) (eu : u.eval args s none [] s = some (.ref b)) (A : Arr s s.heap a cl ty) (h : (Cond.eq (.elem t (.int k)) u).value args s none s [] = some true) (hk : ¬ k < 0) : cl.slots[k.toNatClampNeg]? = some (.ref b) := by
  have ha := A.fin (Vm.Alike.refl _)
  have e1 : (Term.elem t (.int k)).eval args s none [] s = cl.slots[k.toNatClampNeg]? := elem_f ev rfl ha hk
  have hh := h
  simp only [Cond.value] at hh
  rw [e1, eu] at hh
  cases hc : cl.slots[k.toNatClampNeg]? with
  | none => rw [hc] at hh; simp at hh
  | some v => rw [hc] at hh; cases v <;> simp at hh; rw [hh]
theorem pn_0 : plainName "com/example/garlicwire/garlicwire/i2cp/SessionStatus" = true := by first | (simp [plainName, overriddenIn]; done) | decide +kernel
theorem d2_0 : decode prog_48_method_1_code 0 = .ok (.getstatic 19, 3) := by decide +kernel
theorem d2_3 : decode prog_48_method_1_code 3 = .ok (.invokevirtual 23, 3) := by decide +kernel
theorem d2_6 : decode prog_48_method_1_code 6 = .ok (.checkcast 24, 3) := by decide +kernel
theorem d2_9 : decode prog_48_method_1_code 9 = .ok (.areturn, 1) := by decide +kernel
theorem ef_2 (m : MethodId)  : entryFrame m #[] 0 = mkF m 0 #[] [] := by first | (simp [entryFrame, mkF, argsToLocals, Value.category]; done) | rfl
def Q2 (Z : State) (va : Addr) (ga : Nat → Addr) (h0 : Heap) (n0 : Nat) (v : Option Value) (h : Heap) (L : List Loc) : Prop := ∃ (b : Addr), v = some (.ref b) ∧ Fr n0 L ∧ Ext h0 h ∧ h0.size ≤ b ∧ own_Arf Z h b (.object "com/example/garlicwire/garlicwire/i2cp/SessionStatus") 5 (fun i => (.ref (ga i)))
set_option maxRecDepth 65536 in
set_option maxHeartbeats 40000000 in
theorem rm2 (l : Launch) (Z : State) (a0 : Array Value) (hw : ∀ d ∈ tables_1, d.before a0 Z = true) (ws : List Jvm.Cond) (va : Addr) (ga : Nat → Addr) (h0 : Heap) (n0 : Nat) (Z0 : n0 ≤ h0.size) (S_V : Sta Z h0 "com/example/garlicwire/garlicwire/i2cp/SessionStatus" "$VALUES" "[Lcom/example/garlicwire/garlicwire/i2cp/SessionStatus;" (.ref va)) (A_V : own_Arf Z h0 va (.object "com/example/garlicwire/garlicwire/i2cp/SessionStatus") 5 (fun i => (.ref (ga i)))) (E_V : Exa Z h0 va "[Lcom/example/garlicwire/garlicwire/i2cp/SessionStatus;") :
    MetFree l (⟨"com/example/garlicwire/garlicwire/i2cp/SessionStatus", "values", "()[Lcom/example/garlicwire/garlicwire/i2cp/SessionStatus;"⟩ : MethodName) (head1 (Jvm.Cond.code (⟨"com/example/garlicwire/garlicwire/i2cp/SessionStatus", "values", "()[Lcom/example/garlicwire/garlicwire/i2cp/SessionStatus;"⟩ : MethodName) prog_48_method_1_code 0 (some (.array (.object "com/example/garlicwire/garlicwire/i2cp/SessionStatus"))) :: ws) ({ frames := 1, cells := 1, slots := 5, locals := 14 } : Room)) (fun a U => a = #[] ∧ Z.Warmed39 U.vm ∧ U.heap = h0) (fun _ _ _ _ _ => True) (fun _ U o U' => ∃ v L, o = .returned v ∧ Q2 Z va ga h0 n0 v U'.heap L ∧ FrameEnd U o U' L ({ frames := 1, cells := 1, slots := 5, locals := 14 } : Room).cells ({ frames := 1, cells := 1, slots := 5, locals := 14 } : Room).slots) := by
  refine MetFree.of_bodySF (plainFor_of_name pn_0) hisR ?_
  intro p e s m args below meth c s₁ Bd hml0 hP hK
  obtain ⟨rfl, hZ, hh⟩ := hP
  have hx := Bd.exec
  have hby := Bd.bytes
  have hml : c.maxLocals = 0 := hml0
  have hown : s.vm.findClass "com/example/garlicwire/garlicwire/i2cp/SessionStatus" = some m.cls := findClass_of_methodNamed Bd.named
  have hnm := (name_of_methodNamed Bd.named Bd.method).1
  have hlk : meth.locks = false := BodyLoose.notSynchronized Bd
  have X0 : Stand p l e ({ frames := 1, cells := 1, slots := 5, locals := 14 } : Room) s m #[] below meth c s₁ [] 0 0 := Stand.of_body Bd
  have e0 : s₁.heap = h0 := by rw [← hh, Bd.state]; rfl
  have N0 := Fr.nil n0
  have K0 : Keep h0 h0 [] := Keep.refl h0 _
  have Ex0 : Ext h0 h0 := own_extR h0
  have key : ∀ (F0 : State) (G : Prop), (own_G p e below s F0 (Q2 Z va ga h0 n0) ({ frames := 1, cells := 1, slots := 5, locals := 14 } : Room).cells ({ frames := 1, cells := 1, slots := 5, locals := 14 } : Room).slots → G) → own_R p.tables e below F0 (s₁.setTop (mkF m 0 #[] [])) → G := by
    intro F0 G hG r0
    obtain ⟨T1, X1, e1, st1⟩ := getS2 X0 hx hZ hown (host := "") (Or.inl (hw _ (List.mem_of_getElem? (i := 9) rfl))) Via.refl e0 S_V (g := (mkF m 0 #[] [])) rfl (hb hby d2_0)
    have r1 : own_R p.tables e below F0 (T1.setTop (mkF m 3 #[] [(.ref va)])) := fun tg_ kg_ => r0 tg_ (st1 tg_ kg_)
    obtain ⟨T2, h2, X2, e2, E2, A2, C2, st2⟩ := own_clone X1 hx hZ hown (hw _ (List.mem_of_getElem? (i := 11) rfl)) (hw _ (List.mem_of_getElem? (i := 12) rfl)) (hw _ (List.mem_of_getElem? (i := 16) rfl)) (hw _ (List.mem_of_getElem? (i := 14) rfl)) (hw _ (List.mem_of_getElem? (i := 15) rfl)) (hw _ (List.mem_of_getElem? (i := 17) rfl)) e1 A_V (fun j hj => rfl) E_V (g := (mkF m 3 #[] [(.ref va)])) rfl (by rw [hml]; rfl) rfl (hb hby d2_3) (by decide) (W := 0) (cap := 5) (by show 2 * 0 + _ ≤ _; exact Nat.le_of_eq rfl) (by decide) (by decide) (by decide) (by decide)
    obtain ⟨b2, g2⟩ : ∃ z, z = h0.size := ⟨_, rfl⟩
    rw [← g2] at A2 C2 st2
    have ne3 : va ≠ b2 := Nat.ne_of_lt (Nat.lt_of_lt_of_le A_V.lt (Nat.le_of_eq g2.symm))
    have ge2 : n0 ≤ b2 := Nat.le_trans Z0 (Nat.le_of_eq g2.symm)
    have old2 : h0.size ≤ b2 := Nat.le_trans K0.1 (Nat.le_of_eq g2.symm)
    have K2 : Keep h0 h2 [] := K0.ext E2
    have F4 : Sta Z h2 "com/example/garlicwire/garlicwire/i2cp/SessionStatus" "$VALUES" "[Lcom/example/garlicwire/garlicwire/i2cp/SessionStatus;" (.ref va) := S_V.ext E2
    have F5 : own_Arf Z h2 va (.object "com/example/garlicwire/garlicwire/i2cp/SessionStatus") 5 (fun i => (.ref (ga i))) := A_V.ext E2
    have F6 : Exa Z h2 va "[Lcom/example/garlicwire/garlicwire/i2cp/SessionStatus;" := E_V.ext E2
    have Zs7 : n0 ≤ h2.size := Nat.le_trans Z0 E2.1
    have Ex8 : Ext h0 h2 := own_extT Ex0 E2
    have r2 : own_R p.tables e below F0 (T2.setTop (mkF m 6 #[] [(.ref b2)])) := fun tg_ kg_ => r1 tg_ (st2 tg_ kg_)
    obtain ⟨T9, X9, e9, st9⟩ := castY X2 hx hZ hown (hw _ (List.mem_of_getElem? (i := 24) rfl)) e2 (Ins.self C2) (g := (mkF m 6 #[] [(.ref b2)])) rfl rfl (hb hby d2_6)
    have r9 : own_R p.tables e below F0 (T9.setTop (mkF m 9 #[] [(.ref b2)])) := fun tg_ kg_ => r2 tg_ (st9 tg_ kg_)
    refine hG (own_fin X9 hlk (some (.ref b2)) (own_hv Bd.returns) ?_ (by decide) (by decide) (fun fs hr => r9 _ (retOut X9 hx Bd.returns rfl (Or.inr (Or.inr (Or.inr (Or.inr ⟨rfl, rfl, rfl⟩)))) (hb hby d2_9) hr)))
    rw [e9]
    refine ⟨b2, ?_, N0, Ex8, old2, A2⟩
    rfl
  exact key _ _ id (fun t k => castTop (ef_2 m ) k)
def own_expd (p0 : Int64) (aD : Addr) (aC : Addr) (aU : Addr) (aI : Addr) (aR : Addr) : Addr := (if p0 = (0 : Int64) then aD else (if p0 = (1 : Int64) then aC else (if p0 = (2 : Int64) then aU else (if p0 = (3 : Int64) then aI else (if p0 = (4 : Int64) then aR else aI)))))
theorem pn_1 : plainName "com/example/garlicwire/garlicwire/i2cp/SessionStatusOfCodePinLaw" = true := by first | (simp [plainName, overriddenIn]; done) | decide +kernel
theorem d3_0 : decode method_2_code 0 = .ok (.lload_n 0, 1) := by decide +kernel
theorem d3_1 : decode method_2_code 1 = .ok (.lconst 0, 1) := by decide +kernel
theorem d3_2 : decode method_2_code 2 = .ok (.lcmp, 1) := by decide +kernel
theorem d3_3 : decode method_2_code 3 = .ok (.ifCond .ne 7, 3) := by decide +kernel
theorem d3_6 : decode method_2_code 6 = .ok (.getstatic 7, 3) := by decide +kernel
theorem d3_9 : decode method_2_code 9 = .ok (.areturn, 1) := by decide +kernel
theorem d3_10 : decode method_2_code 10 = .ok (.lload_n 0, 1) := by decide +kernel
theorem d3_11 : decode method_2_code 11 = .ok (.lconst 1, 1) := by decide +kernel
theorem d3_12 : decode method_2_code 12 = .ok (.lcmp, 1) := by decide +kernel
theorem d3_13 : decode method_2_code 13 = .ok (.ifCond .ne 7, 3) := by decide +kernel
theorem d3_16 : decode method_2_code 16 = .ok (.getstatic 13, 3) := by decide +kernel
theorem d3_19 : decode method_2_code 19 = .ok (.areturn, 1) := by decide +kernel
theorem d3_20 : decode method_2_code 20 = .ok (.lload_n 0, 1) := by decide +kernel
theorem d3_21 : decode method_2_code 21 = .ok (.ldc2_w 16, 3) := by decide +kernel
theorem d3_24 : decode method_2_code 24 = .ok (.lcmp, 1) := by decide +kernel
theorem d3_25 : decode method_2_code 25 = .ok (.ifCond .ne 7, 3) := by decide +kernel
theorem d3_28 : decode method_2_code 28 = .ok (.getstatic 18, 3) := by decide +kernel
theorem d3_31 : decode method_2_code 31 = .ok (.areturn, 1) := by decide +kernel
theorem d3_32 : decode method_2_code 32 = .ok (.lload_n 0, 1) := by decide +kernel
theorem d3_33 : decode method_2_code 33 = .ok (.ldc2_w 21, 3) := by decide +kernel
theorem d3_36 : decode method_2_code 36 = .ok (.lcmp, 1) := by decide +kernel
theorem d3_37 : decode method_2_code 37 = .ok (.ifCond .ne 7, 3) := by decide +kernel
theorem d3_40 : decode method_2_code 40 = .ok (.getstatic 23, 3) := by decide +kernel
theorem d3_43 : decode method_2_code 43 = .ok (.areturn, 1) := by decide +kernel
theorem d3_44 : decode method_2_code 44 = .ok (.lload_n 0, 1) := by decide +kernel
theorem d3_45 : decode method_2_code 45 = .ok (.ldc2_w 26, 3) := by decide +kernel
theorem d3_48 : decode method_2_code 48 = .ok (.lcmp, 1) := by decide +kernel
theorem d3_49 : decode method_2_code 49 = .ok (.ifCond .ne 7, 3) := by decide +kernel
theorem d3_52 : decode method_2_code 52 = .ok (.getstatic 28, 3) := by decide +kernel
theorem d3_55 : decode method_2_code 55 = .ok (.areturn, 1) := by decide +kernel
theorem d3_56 : decode method_2_code 56 = .ok (.getstatic 23, 3) := by decide +kernel
theorem d3_59 : decode method_2_code 59 = .ok (.areturn, 1) := by decide +kernel
theorem ef_3 (m : MethodId) (x0 : Int64) : entryFrame m #[(.long x0)] 2 = mkF m 0 #[.val (.long x0), .second] [] := by first | (simp [entryFrame, mkF, argsToLocals, Value.category]; done) | rfl
def Q3 (Z : State) (p0 : Int64) (aD : Addr) (aC : Addr) (aU : Addr) (aI : Addr) (aR : Addr) (h0 : Heap) (n0 : Nat) (v : Option Value) (h : Heap) (L : List Loc) : Prop := v = some (.ref (own_expd p0 aD aC aU aI aR)) ∧ Fr n0 L ∧ h = h0
set_option maxRecDepth 65536 in
set_option maxHeartbeats 40000000 in
theorem rm3 (l : Launch) (Z : State) (a0 : Array Value) (hw : ∀ d ∈ tables_1, d.before a0 Z = true) (ws : List Jvm.Cond) (p0 : Int64) (aD : Addr) (aC : Addr) (aU : Addr) (aI : Addr) (aR : Addr) (h0 : Heap) (n0 : Nat) (Z0 : n0 ≤ h0.size) (S_aD : Sta Z h0 "com/example/garlicwire/garlicwire/i2cp/SessionStatus" "DESTROYED" "Lcom/example/garlicwire/garlicwire/i2cp/SessionStatus;" (.ref aD)) (S_aC : Sta Z h0 "com/example/garlicwire/garlicwire/i2cp/SessionStatus" "CREATED" "Lcom/example/garlicwire/garlicwire/i2cp/SessionStatus;" (.ref aC)) (S_aU : Sta Z h0 "com/example/garlicwire/garlicwire/i2cp/SessionStatus" "UPDATED" "Lcom/example/garlicwire/garlicwire/i2cp/SessionStatus;" (.ref aU)) (S_aI : Sta Z h0 "com/example/garlicwire/garlicwire/i2cp/SessionStatus" "INVALID" "Lcom/example/garlicwire/garlicwire/i2cp/SessionStatus;" (.ref aI)) (S_aR : Sta Z h0 "com/example/garlicwire/garlicwire/i2cp/SessionStatus" "REFUSED" "Lcom/example/garlicwire/garlicwire/i2cp/SessionStatus;" (.ref aR)) :
    MetFree l (⟨"com/example/garlicwire/garlicwire/i2cp/SessionStatusOfCodePinLaw", "expected", "(J)Lcom/example/garlicwire/garlicwire/i2cp/SessionStatus;"⟩ : MethodName) (head1 (Jvm.Cond.code (⟨"com/example/garlicwire/garlicwire/i2cp/SessionStatusOfCodePinLaw", "expected", "(J)Lcom/example/garlicwire/garlicwire/i2cp/SessionStatus;"⟩ : MethodName) method_2_code 2 (some (.object "com/example/garlicwire/garlicwire/i2cp/SessionStatus")) :: ws) ({ frames := 0, cells := 0, slots := 0, locals := 0 } : Room)) (fun a U => a = #[(.long p0)] ∧ Z.Warmed39 U.vm ∧ U.heap = h0) (fun _ _ _ _ _ => True) (fun _ U o U' => ∃ v L, o = .returned v ∧ Q3 Z p0 aD aC aU aI aR h0 n0 v U'.heap L ∧ FrameEnd U o U' L ({ frames := 0, cells := 0, slots := 0, locals := 0 } : Room).cells ({ frames := 0, cells := 0, slots := 0, locals := 0 } : Room).slots) := by
  refine MetFree.of_bodySF (plainFor_of_name pn_1) hisR ?_
  intro p e s m args below meth c s₁ Bd hml0 hP hK
  obtain ⟨rfl, hZ, hh⟩ := hP
  have hx := Bd.exec
  have hby := Bd.bytes
  have hml : c.maxLocals = 2 := hml0
  have hown : s.vm.findClass "com/example/garlicwire/garlicwire/i2cp/SessionStatusOfCodePinLaw" = some m.cls := findClass_of_methodNamed Bd.named
  have hnm := (name_of_methodNamed Bd.named Bd.method).1
  have hlk : meth.locks = false := BodyLoose.notSynchronized Bd
  have X0 : Stand p l e ({ frames := 0, cells := 0, slots := 0, locals := 0 } : Room) s m #[(.long p0)] below meth c s₁ [] 0 0 := Stand.of_body Bd
  have e0 : s₁.heap = h0 := by rw [← hh, Bd.state]; rfl
  have N0 := Fr.nil n0
  have K0 : Keep h0 h0 [] := Keep.refl h0 _
  have key : ∀ (F0 : State) (G : Prop), (own_G p e below s F0 (Q3 Z p0 aD aC aU aI aR h0 n0) ({ frames := 0, cells := 0, slots := 0, locals := 0 } : Room).cells ({ frames := 0, cells := 0, slots := 0, locals := 0 } : Room).slots → G) → own_R p.tables e below F0 (s₁.setTop (mkF m 0 #[.val (.long p0), .second] [])) → G := by
    intro F0 G hG r0
    have r10 : own_R p.tables e below F0 (s₁.setTop (mkF m 3 #[.val (.long p0), .second] [(.int (lcmpW p0 (0 : Int64)))])) := fun tg_ kg_ => by
      refine r0 tg_ ?_
      show Steps p.tables e below (s₁.setTop (mkF m 0 #[.val (.long p0), .second] [])) _
      refine XS.lloadN X0.here hx rfl (hb hby d3_0) rfl ?_
      show Steps p.tables e below (s₁.setTop (mkF m 1 #[.val (.long p0), .second] [(.long p0)])) _
      refine XS.lconst X0.here hx rfl (hb hby d3_1) ?_
      show Steps p.tables e below (s₁.setTop (mkF m 2 #[.val (.long p0), .second] [(.long (0 : Int64)), (.long p0)])) _
      refine XS.lcmp X0.here hx rfl (hb hby d3_2) rfl ?_
      exact kg_
    by_cases hc11 : p0 = (0 : Int64)
    · have r12 : own_R p.tables e below F0 (s₁.setTop (mkF m 6 #[.val (.long p0), .second] [])) := fun tg_ kg_ => by
        refine r10 tg_ ?_
        show Steps p.tables e below (s₁.setTop (mkF m 3 #[.val (.long p0), .second] [(.int (lcmpW p0 (0 : Int64)))])) _
        refine XS.ifNo X0.here hx rfl (hb hby d3_3) rfl (own_l_eq hc11).2 ?_
        exact kg_
      obtain ⟨T13, X13, e13, st13⟩ := getS2 X0 hx hZ hown (host := "") (Or.inl (hw _ (List.mem_of_getElem? (i := 40) rfl))) Via.refl e0 S_aD (g := (mkF m 6 #[.val (.long p0), .second] [])) rfl (hb hby d3_6)
      have r13 : own_R p.tables e below F0 (T13.setTop (mkF m 9 #[.val (.long p0), .second] [(.ref aD)])) := fun tg_ kg_ => r12 tg_ (st13 tg_ kg_)
      refine hG (own_fin X13 hlk (some (.ref aD)) (own_hv Bd.returns) ?_ (by decide) (by decide) (fun fs hr => r13 _ (retOut X13 hx Bd.returns rfl (Or.inr (Or.inr (Or.inr (Or.inr ⟨rfl, rfl, rfl⟩)))) (hb hby d3_9) hr)))
      rw [e13]
      refine ⟨?_, N0, rfl⟩
      have ev : (own_expd p0 aD aC aU aI aR) = aD := by unfold own_expd; rw [if_pos hc11]
      rw [ev]
    · have r14 : own_R p.tables e below F0 (s₁.setTop (mkF m 13 #[.val (.long p0), .second] [(.int (lcmpW p0 (1 : Int64)))])) := fun tg_ kg_ => by
        refine r10 tg_ ?_
        show Steps p.tables e below (s₁.setTop (mkF m 3 #[.val (.long p0), .second] [(.int (lcmpW p0 (0 : Int64)))])) _
        refine XS.ifYes X0.here hx rfl (pc0 := 3) (pc' := 10) rfl (hb hby d3_3) rfl (own_l_neq hc11).2 (by decide) (by decide) ?_
        show Steps p.tables e below (s₁.setTop (mkF m 10 #[.val (.long p0), .second] [])) _
        refine XS.lloadN X0.here hx rfl (hb hby d3_10) rfl ?_
        show Steps p.tables e below (s₁.setTop (mkF m 11 #[.val (.long p0), .second] [(.long p0)])) _
        refine XS.lconst X0.here hx rfl (hb hby d3_11) ?_
        show Steps p.tables e below (s₁.setTop (mkF m 12 #[.val (.long p0), .second] [(.long (1 : Int64)), (.long p0)])) _
        refine XS.lcmp X0.here hx rfl (hb hby d3_12) rfl ?_
        exact kg_
      by_cases hc15 : p0 = (1 : Int64)
      · have r16 : own_R p.tables e below F0 (s₁.setTop (mkF m 16 #[.val (.long p0), .second] [])) := fun tg_ kg_ => by
          refine r14 tg_ ?_
          show Steps p.tables e below (s₁.setTop (mkF m 13 #[.val (.long p0), .second] [(.int (lcmpW p0 (1 : Int64)))])) _
          refine XS.ifNo X0.here hx rfl (hb hby d3_13) rfl (own_l_eq hc15).2 ?_
          exact kg_
        obtain ⟨T17, X17, e17, st17⟩ := getS2 X0 hx hZ hown (host := "") (Or.inl (hw _ (List.mem_of_getElem? (i := 39) rfl))) Via.refl e0 S_aC (g := (mkF m 16 #[.val (.long p0), .second] [])) rfl (hb hby d3_16)
        have r17 : own_R p.tables e below F0 (T17.setTop (mkF m 19 #[.val (.long p0), .second] [(.ref aC)])) := fun tg_ kg_ => r16 tg_ (st17 tg_ kg_)
        refine hG (own_fin X17 hlk (some (.ref aC)) (own_hv Bd.returns) ?_ (by decide) (by decide) (fun fs hr => r17 _ (retOut X17 hx Bd.returns rfl (Or.inr (Or.inr (Or.inr (Or.inr ⟨rfl, rfl, rfl⟩)))) (hb hby d3_19) hr)))
        rw [e17]
        refine ⟨?_, N0, rfl⟩
        have ev : (own_expd p0 aD aC aU aI aR) = aC := by unfold own_expd; rw [if_neg hc11, if_pos hc15]
        rw [ev]
      · have r18 : own_R p.tables e below F0 (s₁.setTop (mkF m 25 #[.val (.long p0), .second] [(.int (lcmpW p0 (2 : Int64)))])) := fun tg_ kg_ => by
          refine r14 tg_ ?_
          show Steps p.tables e below (s₁.setTop (mkF m 13 #[.val (.long p0), .second] [(.int (lcmpW p0 (1 : Int64)))])) _
          refine XS.ifYes X0.here hx rfl (pc0 := 13) (pc' := 20) rfl (hb hby d3_13) rfl (own_l_neq hc15).2 (by decide) (by decide) ?_
          show Steps p.tables e below (s₁.setTop (mkF m 20 #[.val (.long p0), .second] [])) _
          refine XS.lloadN X0.here hx rfl (hb hby d3_20) rfl ?_
          show Steps p.tables e below (s₁.setTop (mkF m 21 #[.val (.long p0), .second] [(.long p0)])) _
          refine X0.ldc2J hx hown (mvT hZ (hw _ (List.mem_of_getElem? (i := 31) rfl))) rfl (hb hby d3_21) ?_
          show Steps p.tables e below (s₁.setTop (mkF m 24 #[.val (.long p0), .second] [(.long (2 : Int64)), (.long p0)])) _
          refine XS.lcmp X0.here hx rfl (hb hby d3_24) rfl ?_
          exact kg_
        by_cases hc19 : p0 = (2 : Int64)
        · have r20 : own_R p.tables e below F0 (s₁.setTop (mkF m 28 #[.val (.long p0), .second] [])) := fun tg_ kg_ => by
            refine r18 tg_ ?_
            show Steps p.tables e below (s₁.setTop (mkF m 25 #[.val (.long p0), .second] [(.int (lcmpW p0 (2 : Int64)))])) _
            refine XS.ifNo X0.here hx rfl (hb hby d3_25) rfl (own_l_eq hc19).2 ?_
            exact kg_
          obtain ⟨T21, X21, e21, st21⟩ := getS2 X0 hx hZ hown (host := "") (Or.inl (hw _ (List.mem_of_getElem? (i := 36) rfl))) Via.refl e0 S_aU (g := (mkF m 28 #[.val (.long p0), .second] [])) rfl (hb hby d3_28)
          have r21 : own_R p.tables e below F0 (T21.setTop (mkF m 31 #[.val (.long p0), .second] [(.ref aU)])) := fun tg_ kg_ => r20 tg_ (st21 tg_ kg_)
          refine hG (own_fin X21 hlk (some (.ref aU)) (own_hv Bd.returns) ?_ (by decide) (by decide) (fun fs hr => r21 _ (retOut X21 hx Bd.returns rfl (Or.inr (Or.inr (Or.inr (Or.inr ⟨rfl, rfl, rfl⟩)))) (hb hby d3_31) hr)))
          rw [e21]
          refine ⟨?_, N0, rfl⟩
          have ev : (own_expd p0 aD aC aU aI aR) = aU := by unfold own_expd; rw [if_neg hc11, if_neg hc15, if_pos hc19]
          rw [ev]
        · have r22 : own_R p.tables e below F0 (s₁.setTop (mkF m 37 #[.val (.long p0), .second] [(.int (lcmpW p0 (3 : Int64)))])) := fun tg_ kg_ => by
            refine r18 tg_ ?_
            show Steps p.tables e below (s₁.setTop (mkF m 25 #[.val (.long p0), .second] [(.int (lcmpW p0 (2 : Int64)))])) _
            refine XS.ifYes X0.here hx rfl (pc0 := 25) (pc' := 32) rfl (hb hby d3_25) rfl (own_l_neq hc19).2 (by decide) (by decide) ?_
            show Steps p.tables e below (s₁.setTop (mkF m 32 #[.val (.long p0), .second] [])) _
            refine XS.lloadN X0.here hx rfl (hb hby d3_32) rfl ?_
            show Steps p.tables e below (s₁.setTop (mkF m 33 #[.val (.long p0), .second] [(.long p0)])) _
            refine X0.ldc2J hx hown (mvT hZ (hw _ (List.mem_of_getElem? (i := 32) rfl))) rfl (hb hby d3_33) ?_
            show Steps p.tables e below (s₁.setTop (mkF m 36 #[.val (.long p0), .second] [(.long (3 : Int64)), (.long p0)])) _
            refine XS.lcmp X0.here hx rfl (hb hby d3_36) rfl ?_
            exact kg_
          by_cases hc23 : p0 = (3 : Int64)
          · have r24 : own_R p.tables e below F0 (s₁.setTop (mkF m 40 #[.val (.long p0), .second] [])) := fun tg_ kg_ => by
              refine r22 tg_ ?_
              show Steps p.tables e below (s₁.setTop (mkF m 37 #[.val (.long p0), .second] [(.int (lcmpW p0 (3 : Int64)))])) _
              refine XS.ifNo X0.here hx rfl (hb hby d3_37) rfl (own_l_eq hc23).2 ?_
              exact kg_
            obtain ⟨T25, X25, e25, st25⟩ := getS2 X0 hx hZ hown (host := "") (Or.inl (hw _ (List.mem_of_getElem? (i := 34) rfl))) Via.refl e0 S_aI (g := (mkF m 40 #[.val (.long p0), .second] [])) rfl (hb hby d3_40)
            have r25 : own_R p.tables e below F0 (T25.setTop (mkF m 43 #[.val (.long p0), .second] [(.ref aI)])) := fun tg_ kg_ => r24 tg_ (st25 tg_ kg_)
            refine hG (own_fin X25 hlk (some (.ref aI)) (own_hv Bd.returns) ?_ (by decide) (by decide) (fun fs hr => r25 _ (retOut X25 hx Bd.returns rfl (Or.inr (Or.inr (Or.inr (Or.inr ⟨rfl, rfl, rfl⟩)))) (hb hby d3_43) hr)))
            rw [e25]
            refine ⟨?_, N0, rfl⟩
            have ev : (own_expd p0 aD aC aU aI aR) = aI := by unfold own_expd; rw [if_neg hc11, if_neg hc15, if_neg hc19, if_pos hc23]
            rw [ev]
          · have r26 : own_R p.tables e below F0 (s₁.setTop (mkF m 49 #[.val (.long p0), .second] [(.int (lcmpW p0 (4 : Int64)))])) := fun tg_ kg_ => by
              refine r22 tg_ ?_
              show Steps p.tables e below (s₁.setTop (mkF m 37 #[.val (.long p0), .second] [(.int (lcmpW p0 (3 : Int64)))])) _
              refine XS.ifYes X0.here hx rfl (pc0 := 37) (pc' := 44) rfl (hb hby d3_37) rfl (own_l_neq hc23).2 (by decide) (by decide) ?_
              show Steps p.tables e below (s₁.setTop (mkF m 44 #[.val (.long p0), .second] [])) _
              refine XS.lloadN X0.here hx rfl (hb hby d3_44) rfl ?_
              show Steps p.tables e below (s₁.setTop (mkF m 45 #[.val (.long p0), .second] [(.long p0)])) _
              refine X0.ldc2J hx hown (mvT hZ (hw _ (List.mem_of_getElem? (i := 33) rfl))) rfl (hb hby d3_45) ?_
              show Steps p.tables e below (s₁.setTop (mkF m 48 #[.val (.long p0), .second] [(.long (4 : Int64)), (.long p0)])) _
              refine XS.lcmp X0.here hx rfl (hb hby d3_48) rfl ?_
              exact kg_
            by_cases hc27 : p0 = (4 : Int64)
            · have r28 : own_R p.tables e below F0 (s₁.setTop (mkF m 52 #[.val (.long p0), .second] [])) := fun tg_ kg_ => by
                refine r26 tg_ ?_
                show Steps p.tables e below (s₁.setTop (mkF m 49 #[.val (.long p0), .second] [(.int (lcmpW p0 (4 : Int64)))])) _
                refine XS.ifNo X0.here hx rfl (hb hby d3_49) rfl (own_l_eq hc27).2 ?_
                exact kg_
              obtain ⟨T29, X29, e29, st29⟩ := getS2 X0 hx hZ hown (host := "") (Or.inl (hw _ (List.mem_of_getElem? (i := 38) rfl))) Via.refl e0 S_aR (g := (mkF m 52 #[.val (.long p0), .second] [])) rfl (hb hby d3_52)
              have r29 : own_R p.tables e below F0 (T29.setTop (mkF m 55 #[.val (.long p0), .second] [(.ref aR)])) := fun tg_ kg_ => r28 tg_ (st29 tg_ kg_)
              refine hG (own_fin X29 hlk (some (.ref aR)) (own_hv Bd.returns) ?_ (by decide) (by decide) (fun fs hr => r29 _ (retOut X29 hx Bd.returns rfl (Or.inr (Or.inr (Or.inr (Or.inr ⟨rfl, rfl, rfl⟩)))) (hb hby d3_55) hr)))
              rw [e29]
              refine ⟨?_, N0, rfl⟩
              have ev : (own_expd p0 aD aC aU aI aR) = aR := by unfold own_expd; rw [if_neg hc11, if_neg hc15, if_neg hc19, if_neg hc23, if_pos hc27]
              rw [ev]
            · have r30 : own_R p.tables e below F0 (s₁.setTop (mkF m 56 #[.val (.long p0), .second] [])) := fun tg_ kg_ => by
                refine r26 tg_ ?_
                show Steps p.tables e below (s₁.setTop (mkF m 49 #[.val (.long p0), .second] [(.int (lcmpW p0 (4 : Int64)))])) _
                refine XS.ifYes X0.here hx rfl (pc0 := 49) (pc' := 56) rfl (hb hby d3_49) rfl (own_l_neq hc27).2 (by decide) (by decide) ?_
                exact kg_
              obtain ⟨T31, X31, e31, st31⟩ := getS2 X0 hx hZ hown (host := "") (Or.inl (hw _ (List.mem_of_getElem? (i := 34) rfl))) Via.refl e0 S_aI (g := (mkF m 56 #[.val (.long p0), .second] [])) rfl (hb hby d3_56)
              have r31 : own_R p.tables e below F0 (T31.setTop (mkF m 59 #[.val (.long p0), .second] [(.ref aI)])) := fun tg_ kg_ => r30 tg_ (st31 tg_ kg_)
              refine hG (own_fin X31 hlk (some (.ref aI)) (own_hv Bd.returns) ?_ (by decide) (by decide) (fun fs hr => r31 _ (retOut X31 hx Bd.returns rfl (Or.inr (Or.inr (Or.inr (Or.inr ⟨rfl, rfl, rfl⟩)))) (hb hby d3_59) hr)))
              rw [e31]
              refine ⟨?_, N0, rfl⟩
              have ev : (own_expd p0 aD aC aU aI aR) = aI := by unfold own_expd; rw [if_neg hc11, if_neg hc15, if_neg hc19, if_neg hc23, if_neg hc27]
              rw [ev]
  exact key _ _ id (fun t k => castTop (ef_3 m p0) k)
theorem own_ofI (p0 : Int64) (aD aC aU aI aR : Addr) (h : p0.toInt < 0 ∨ 5 ≤ p0.toInt) : own_expd p0 aD aC aU aI aR = aI := by
  have l0 : (0 : Int64).toInt = 0 := by decide
  have l1 : (1 : Int64).toInt = 1 := by decide
  have l2 : (2 : Int64).toInt = 2 := by decide
  have l3 : (3 : Int64).toInt = 3 := by decide
  have l4 : (4 : Int64).toInt = 4 := by decide
  unfold own_expd
  simp only [← Int64.toInt_inj, l0, l1, l2, l3, l4]
  rw [if_neg (by omega), if_neg (by omega), if_neg (by omega), if_neg (by omega), if_neg (by omega)]
theorem own_ofE (p0 : Int64) (aD aC aU aI aR : Addr) (ga : Nat → Addr) (h : 0 ≤ p0.toInt ∧ p0.toInt < 5) (hg : ga 0 = aD ∧ ga 1 = aC ∧ ga 2 = aU ∧ ga 3 = aI ∧ ga 4 = aR) (k : Nat) (hk : p0.toInt = k) : ga k = own_expd p0 aD aC aU aI aR := by
  have l0 : (0 : Int64).toInt = 0 := by decide
  have l1 : (1 : Int64).toInt = 1 := by decide
  have l2 : (2 : Int64).toInt = 2 := by decide
  have l3 : (3 : Int64).toInt = 3 := by decide
  have l4 : (4 : Int64).toInt = 4 := by decide
  unfold own_expd
  simp only [← Int64.toInt_inj, l0, l1, l2, l3, l4]
  have z : k = 0 ∨ k = 1 ∨ k = 2 ∨ k = 3 ∨ k = 4 := by omega
  rcases z with rfl | rfl | rfl | rfl | rfl <;> rw [hk] <;> simp [hg]
theorem pd_0 : parseMethodDescriptor "()[Lcom/example/garlicwire/garlicwire/i2cp/SessionStatus;" = some ⟨[], some (.array (.object "com/example/garlicwire/garlicwire/i2cp/SessionStatus"))⟩ := by decide +kernel
theorem d1_0 : decode prog_48_method_4_code 0 = .ok (.lload_n 0, 1) := by decide +kernel
theorem d1_1 : decode prog_48_method_4_code 1 = .ok (.lconst 0, 1) := by decide +kernel
theorem d1_2 : decode prog_48_method_4_code 2 = .ok (.lcmp, 1) := by decide +kernel
theorem d1_3 : decode prog_48_method_4_code 3 = .ok (.ifCond .lt 22, 3) := by decide +kernel
theorem d1_6 : decode prog_48_method_4_code 6 = .ok (.lload_n 0, 1) := by decide +kernel
theorem d1_7 : decode prog_48_method_4_code 7 = .ok (.invokestatic 38, 3) := by decide +kernel
theorem d1_10 : decode prog_48_method_4_code 10 = .ok (.arraylength, 1) := by decide +kernel
theorem d1_11 : decode prog_48_method_4_code 11 = .ok (.i2l, 1) := by decide +kernel
theorem d1_12 : decode prog_48_method_4_code 12 = .ok (.lcmp, 1) := by decide +kernel
theorem d1_13 : decode prog_48_method_4_code 13 = .ok (.ifCond .ge 12, 3) := by decide +kernel
theorem d1_16 : decode prog_48_method_4_code 16 = .ok (.invokestatic 38, 3) := by decide +kernel
theorem d1_19 : decode prog_48_method_4_code 19 = .ok (.lload_n 0, 1) := by decide +kernel
theorem d1_20 : decode prog_48_method_4_code 20 = .ok (.l2i, 1) := by decide +kernel
theorem d1_21 : decode prog_48_method_4_code 21 = .ok (.aaload, 1) := by decide +kernel
theorem d1_22 : decode prog_48_method_4_code 22 = .ok (.goto 6, 3) := by decide +kernel
theorem d1_25 : decode prog_48_method_4_code 25 = .ok (.getstatic 13, 3) := by decide +kernel
theorem d1_28 : decode prog_48_method_4_code 28 = .ok (.areturn, 1) := by decide +kernel
theorem ef_1 (m : MethodId) (x0 : Int64) : entryFrame m #[(.long x0)] 2 = mkF m 0 #[.val (.long x0), .second] [] := by first | (simp [entryFrame, mkF, argsToLocals, Value.category]; done) | rfl
def Q1 (Z : State) (p0 : Int64) (va : Addr) (ga : Nat → Addr) (aD : Addr) (aC : Addr) (aU : Addr) (aI : Addr) (aR : Addr) (h0 : Heap) (n0 : Nat) (v : Option Value) (h : Heap) (L : List Loc) : Prop := v = some (.ref (own_expd p0 aD aC aU aI aR)) ∧ Fr n0 L ∧ Ext h0 h
set_option maxRecDepth 65536 in
set_option maxHeartbeats 40000000 in
theorem rm1 (l : Launch) (Z : State) (a0 : Array Value) (hw : ∀ d ∈ tables_1, d.before a0 Z = true) (ws : List Jvm.Cond) (p0 : Int64) (va : Addr) (ga : Nat → Addr) (aD : Addr) (aC : Addr) (aU : Addr) (aI : Addr) (aR : Addr) (h0 : Heap) (n0 : Nat) (Z0 : n0 ≤ h0.size) (S_V : Sta Z h0 "com/example/garlicwire/garlicwire/i2cp/SessionStatus" "$VALUES" "[Lcom/example/garlicwire/garlicwire/i2cp/SessionStatus;" (.ref va)) (A_V : own_Arf Z h0 va (.object "com/example/garlicwire/garlicwire/i2cp/SessionStatus") 5 (fun i => (.ref (ga i)))) (E_V : Exa Z h0 va "[Lcom/example/garlicwire/garlicwire/i2cp/SessionStatus;") (S_aD : Sta Z h0 "com/example/garlicwire/garlicwire/i2cp/SessionStatus" "DESTROYED" "Lcom/example/garlicwire/garlicwire/i2cp/SessionStatus;" (.ref aD)) (S_aC : Sta Z h0 "com/example/garlicwire/garlicwire/i2cp/SessionStatus" "CREATED" "Lcom/example/garlicwire/garlicwire/i2cp/SessionStatus;" (.ref aC)) (S_aU : Sta Z h0 "com/example/garlicwire/garlicwire/i2cp/SessionStatus" "UPDATED" "Lcom/example/garlicwire/garlicwire/i2cp/SessionStatus;" (.ref aU)) (S_aI : Sta Z h0 "com/example/garlicwire/garlicwire/i2cp/SessionStatus" "INVALID" "Lcom/example/garlicwire/garlicwire/i2cp/SessionStatus;" (.ref aI)) (S_aR : Sta Z h0 "com/example/garlicwire/garlicwire/i2cp/SessionStatus" "REFUSED" "Lcom/example/garlicwire/garlicwire/i2cp/SessionStatus;" (.ref aR)) (hga : ga 0 = aD ∧ ga 1 = aC ∧ ga 2 = aU ∧ ga 3 = aI ∧ ga 4 = aR) :
    MetFree l (⟨"com/example/garlicwire/garlicwire/i2cp/SessionStatus", "ofCode", "(J)Lcom/example/garlicwire/garlicwire/i2cp/SessionStatus;"⟩ : MethodName) (head1 (Jvm.Cond.code (⟨"com/example/garlicwire/garlicwire/i2cp/SessionStatus", "ofCode", "(J)Lcom/example/garlicwire/garlicwire/i2cp/SessionStatus;"⟩ : MethodName) prog_48_method_4_code 2 (some (.object "com/example/garlicwire/garlicwire/i2cp/SessionStatus")) :: ws) ({ frames := 2, cells := 2, slots := 10, locals := 27 } : Room)) (fun a U => a = #[(.long p0)] ∧ Z.Warmed39 U.vm ∧ U.heap = h0) (fun _ _ _ _ _ => True) (fun _ U o U' => ∃ v L, o = .returned v ∧ Q1 Z p0 va ga aD aC aU aI aR h0 n0 v U'.heap L ∧ FrameEnd U o U' L ({ frames := 2, cells := 2, slots := 10, locals := 27 } : Room).cells ({ frames := 2, cells := 2, slots := 10, locals := 27 } : Room).slots) := by
  refine MetFree.of_bodySF (plainFor_of_name pn_0) hisR ?_
  intro p e s m args below meth c s₁ Bd hml0 hP hK
  obtain ⟨rfl, hZ, hh⟩ := hP
  have hx := Bd.exec
  have hby := Bd.bytes
  have hml : c.maxLocals = 2 := hml0
  have hown : s.vm.findClass "com/example/garlicwire/garlicwire/i2cp/SessionStatus" = some m.cls := findClass_of_methodNamed Bd.named
  have hnm := (name_of_methodNamed Bd.named Bd.method).1
  have hlk : meth.locks = false := BodyLoose.notSynchronized Bd
  have X0 : Stand p l e ({ frames := 2, cells := 2, slots := 10, locals := 27 } : Room) s m #[(.long p0)] below meth c s₁ [] 0 0 := Stand.of_body Bd
  have e0 : s₁.heap = h0 := by rw [← hh, Bd.state]; rfl
  have N0 := Fr.nil n0
  have K0 : Keep h0 h0 [] := Keep.refl h0 _
  have Ex0 : Ext h0 h0 := own_extR h0
  have key : ∀ (F0 : State) (G : Prop), (own_G p e below s F0 (Q1 Z p0 va ga aD aC aU aI aR h0 n0) ({ frames := 2, cells := 2, slots := 10, locals := 27 } : Room).cells ({ frames := 2, cells := 2, slots := 10, locals := 27 } : Room).slots → G) → own_R p.tables e below F0 (s₁.setTop (mkF m 0 #[.val (.long p0), .second] [])) → G := by
    intro F0 G hG r0
    have r32 : own_R p.tables e below F0 (s₁.setTop (mkF m 3 #[.val (.long p0), .second] [(.int (lcmpW p0 (0 : Int64)))])) := fun tg_ kg_ => by
      refine r0 tg_ ?_
      show Steps p.tables e below (s₁.setTop (mkF m 0 #[.val (.long p0), .second] [])) _
      refine XS.lloadN X0.here hx rfl (hb hby d1_0) rfl ?_
      show Steps p.tables e below (s₁.setTop (mkF m 1 #[.val (.long p0), .second] [(.long p0)])) _
      refine XS.lconst X0.here hx rfl (hb hby d1_1) ?_
      show Steps p.tables e below (s₁.setTop (mkF m 2 #[.val (.long p0), .second] [(.long (0 : Int64)), (.long p0)])) _
      refine XS.lcmp X0.here hx rfl (hb hby d1_2) rfl ?_
      exact kg_
    by_cases hc33 : p0 < (0 : Int64)
    · have r34 : own_R p.tables e below F0 (s₁.setTop (mkF m 25 #[.val (.long p0), .second] [])) := fun tg_ kg_ => by
        refine r32 tg_ ?_
        show Steps p.tables e below (s₁.setTop (mkF m 3 #[.val (.long p0), .second] [(.int (lcmpW p0 (0 : Int64)))])) _
        refine XS.ifYes X0.here hx rfl (pc0 := 3) (pc' := 25) rfl (hb hby d1_3) rfl (own_l_lt hc33).1 (by decide) (by decide) ?_
        exact kg_
      obtain ⟨T35, X35, e35, st35⟩ := getS2 X0 hx hZ hown (host := "") (Or.inl (hw _ (List.mem_of_getElem? (i := 26) rfl))) Via.refl e0 S_aI (g := (mkF m 25 #[.val (.long p0), .second] [])) rfl (hb hby d1_25)
      have r35 : own_R p.tables e below F0 (T35.setTop (mkF m 28 #[.val (.long p0), .second] [(.ref aI)])) := fun tg_ kg_ => r34 tg_ (st35 tg_ kg_)
      refine hG (own_fin X35 hlk (some (.ref aI)) (own_hv Bd.returns) ?_ (by decide) (by decide) (fun fs hr => r35 _ (retOut X35 hx Bd.returns rfl (Or.inr (Or.inr (Or.inr (Or.inr ⟨rfl, rfl, rfl⟩)))) (hb hby d1_28) hr)))
      rw [e35]
      refine ⟨?_, N0, Ex0⟩
      have hi : aI = own_expd p0 aD aC aU aI aR := (own_ofI p0 aD aC aU aI aR (by
          have q25_r := own_R64 p0
          have q26_e : (0 : Int64).toInt = 0 := (by decide)
          have q26_r : (0 : Int) ≤ (0 : Int64).toInt ∧ (0 : Int64).toInt ≤ 0 := ⟨Int.le_of_eq q26_e.symm, Int.le_of_eq q26_e⟩
          have q27_c := own_lt64 hc33
          omega)).symm
      rw [← hi]
    · have r36 : own_R p.tables e below F0 (s₁.setTop (mkF m 7 #[.val (.long p0), .second] [(.long p0)])) := fun tg_ kg_ => by
        refine r32 tg_ ?_
        show Steps p.tables e below (s₁.setTop (mkF m 3 #[.val (.long p0), .second] [(.int (lcmpW p0 (0 : Int64)))])) _
        refine XS.ifNo X0.here hx rfl (hb hby d1_3) rfl (own_l_nlt hc33).1 ?_
        show Steps p.tables e below (s₁.setTop (mkF m 6 #[.val (.long p0), .second] [])) _
        refine XS.lloadN X0.here hx rfl (hb hby d1_6) rfl ?_
        exact kg_
      obtain ⟨_, _, ⟨T37, L37, k37, n37⟩, -, X37, ⟨Lc37, hQ37, l37, y37, z37⟩, st37⟩ := Jvm.LawKit.callS X0 hx (y := (⟨"com/example/garlicwire/garlicwire/i2cp/SessionStatus", "values", "()[Lcom/example/garlicwire/garlicwire/i2cp/SessionStatus;"⟩ : MethodName)) hown (mvT hZ (hw _ (List.mem_of_getElem? (i := 6) rfl))) (mvT hZ (hw _ (List.mem_of_getElem? (i := 7) rfl))) (mvT hZ (hw _ (List.mem_of_getElem? (i := 4) rfl))) (mvT hZ (hw _ (List.mem_of_getElem? (i := 8) rfl))) (by decide) (backOf (W := 2) (rm2 l Z a0 hw [] (va) (ga) h0 n0 Z0 S_V A_V E_V) hZ (hw _ (List.mem_of_getElem? (i := 8) rfl)) (hw _ (List.mem_of_getElem? (i := 4) rfl)) (by decide) (by decide)) (g := (mkF m 7 #[.val (.long p0), .second] [(.long p0)])) rfl (by rw [hml]; rfl) (argsL := []) (rest := [(.long p0)]) (lenOf pd_0 rfl) rfl (by show 2 * 0 + _ ≤ _; exact Nat.le_of_eq rfl) (hb hby d1_7) (fun _ _ => ⟨rfl, e0, (by decide : 0 + 1 ≤ _), (by decide : 0 + 5 ≤ _)⟩)
      dsimp only [Pt.U, Pt.locs, Pt.cells, Pt.slots] at X37 l37 y37 z37 st37 hQ37
      subst l37 y37 z37
      obtain ⟨b_37, rfl, N37q, I37_0, I37_1, I37_2⟩ := hQ37
      have N37 := Fr.app N0 N37q
      obtain ⟨h37, e37⟩ : ∃ z, T37.heap = z := ⟨_, rfl⟩
      rw [e37] at I37_0 I37_2
      have Ex38 : Ext h0 h37 := own_extT Ex0 I37_0
      have ne39 : va ≠ b_37 := Nat.ne_of_lt (Nat.lt_of_lt_of_le A_V.lt I37_1)
      have ge40 : n0 ≤ b_37 := Nat.le_trans Z0 I37_1
      have old41 : h0.size ≤ b_37 := Nat.le_trans K0.1 I37_1
      have F42 : Sta Z h37 "com/example/garlicwire/garlicwire/i2cp/SessionStatus" "$VALUES" "[Lcom/example/garlicwire/garlicwire/i2cp/SessionStatus;" (.ref va) := S_V.ext I37_0
      have F43 : own_Arf Z h37 va (.object "com/example/garlicwire/garlicwire/i2cp/SessionStatus") 5 (fun i => (.ref (ga i))) := A_V.ext I37_0
      have F44 : Exa Z h37 va "[Lcom/example/garlicwire/garlicwire/i2cp/SessionStatus;" := E_V.ext I37_0
      have F45 : Sta Z h37 "com/example/garlicwire/garlicwire/i2cp/SessionStatus" "DESTROYED" "Lcom/example/garlicwire/garlicwire/i2cp/SessionStatus;" (.ref aD) := S_aD.ext I37_0
      have F46 : Sta Z h37 "com/example/garlicwire/garlicwire/i2cp/SessionStatus" "CREATED" "Lcom/example/garlicwire/garlicwire/i2cp/SessionStatus;" (.ref aC) := S_aC.ext I37_0
      have F47 : Sta Z h37 "com/example/garlicwire/garlicwire/i2cp/SessionStatus" "UPDATED" "Lcom/example/garlicwire/garlicwire/i2cp/SessionStatus;" (.ref aU) := S_aU.ext I37_0
      have F48 : Sta Z h37 "com/example/garlicwire/garlicwire/i2cp/SessionStatus" "INVALID" "Lcom/example/garlicwire/garlicwire/i2cp/SessionStatus;" (.ref aI) := S_aI.ext I37_0
      have F49 : Sta Z h37 "com/example/garlicwire/garlicwire/i2cp/SessionStatus" "REFUSED" "Lcom/example/garlicwire/garlicwire/i2cp/SessionStatus;" (.ref aR) := S_aR.ext I37_0
      have K50 : Keep h0 h37 [] := K0.ext I37_0
      have Zs51 : n0 ≤ h37.size := Nat.le_trans Z0 I37_0.1
      have r37 : own_R p.tables e below F0 (T37.setTop (mkF m 10 #[.val (.long p0), .second] [(.ref b_37), (.long p0)])) := fun tg_ kg_ => r36 tg_ (st37 tg_ kg_)
      have r52 : own_R p.tables e below F0 (T37.setTop (mkF m 13 #[.val (.long p0), .second] [(.int (lcmpW p0 ((5 : Int32).toInt64)))])) := fun tg_ kg_ => by
        refine r37 tg_ ?_
        show Steps p.tables e below (T37.setTop (mkF m 10 #[.val (.long p0), .second] [(.ref b_37), (.long p0)])) _
        refine own_alen X37 hx hZ e37 I37_2 (5 : Int32) rfl (g := (mkF m 10 #[.val (.long p0), .second] [(.ref b_37), (.long p0)])) rfl rfl (hb hby d1_10) _ ?_
        show Steps p.tables e below (T37.setTop (mkF m 11 #[.val (.long p0), .second] [(.int (5 : Int32)), (.long p0)])) _
        refine XS.i2l X37.here hx rfl (hb hby d1_11) rfl ?_
        show Steps p.tables e below (T37.setTop (mkF m 12 #[.val (.long p0), .second] [(.long ((5 : Int32).toInt64)), (.long p0)])) _
        refine XS.lcmp X37.here hx rfl (hb hby d1_12) rfl ?_
        exact kg_
      by_cases hc53 : p0 < ((5 : Int32).toInt64)
      · have r54 : own_R p.tables e below F0 (T37.setTop (mkF m 16 #[.val (.long p0), .second] [])) := fun tg_ kg_ => by
          refine r52 tg_ ?_
          show Steps p.tables e below (T37.setTop (mkF m 13 #[.val (.long p0), .second] [(.int (lcmpW p0 ((5 : Int32).toInt64)))])) _
          refine XS.ifNo X37.here hx rfl (hb hby d1_13) rfl (own_l_lt hc53).2 ?_
          exact kg_
        obtain ⟨_, _, ⟨T55, L55, k55, n55⟩, -, X55, ⟨Lc55, hQ55, l55, y55, z55⟩, st55⟩ := Jvm.LawKit.callS X37 hx (y := (⟨"com/example/garlicwire/garlicwire/i2cp/SessionStatus", "values", "()[Lcom/example/garlicwire/garlicwire/i2cp/SessionStatus;"⟩ : MethodName)) hown (mvT hZ (hw _ (List.mem_of_getElem? (i := 6) rfl))) (mvT hZ (hw _ (List.mem_of_getElem? (i := 7) rfl))) (mvT hZ (hw _ (List.mem_of_getElem? (i := 4) rfl))) (mvT hZ (hw _ (List.mem_of_getElem? (i := 8) rfl))) (by decide) (backOf (W := 0) (rm2 l Z a0 hw [] (va) (ga) h37 n0 Zs51 F42 F43 F44) hZ (hw _ (List.mem_of_getElem? (i := 8) rfl)) (hw _ (List.mem_of_getElem? (i := 4) rfl)) (by decide) (by decide)) (g := (mkF m 16 #[.val (.long p0), .second] [])) rfl (by rw [hml]; rfl) (argsL := []) (rest := []) (lenOf pd_0 rfl) rfl (by show 2 * 0 + _ ≤ _; exact Nat.le_of_eq rfl) (hb hby d1_16) (fun _ _ => ⟨rfl, e37, (by decide : 1 + 1 ≤ _), (by decide : 5 + 5 ≤ _)⟩)
        dsimp only [Pt.U, Pt.locs, Pt.cells, Pt.slots] at X55 l55 y55 z55 st55 hQ55
        subst l55 y55 z55
        obtain ⟨b_55, rfl, N55q, I55_0, I55_1, I55_2⟩ := hQ55
        have N55 := Fr.app N37 N55q
        obtain ⟨h55, e55⟩ : ∃ z, T55.heap = z := ⟨_, rfl⟩
        rw [e55] at I55_0 I55_2
        have Ex56 : Ext h0 h55 := own_extT Ex38 I55_0
        have ne57 : va ≠ b_55 := Nat.ne_of_lt (Nat.lt_of_lt_of_le F43.lt I55_1)
        have ne58 : b_37 ≠ b_55 := Nat.ne_of_lt (Nat.lt_of_lt_of_le I37_2.lt I55_1)
        have ge59 : n0 ≤ b_55 := Nat.le_trans Zs51 I55_1
        have old60 : h0.size ≤ b_55 := Nat.le_trans K50.1 I55_1
        have F61 : Sta Z h55 "com/example/garlicwire/garlicwire/i2cp/SessionStatus" "$VALUES" "[Lcom/example/garlicwire/garlicwire/i2cp/SessionStatus;" (.ref va) := F42.ext I55_0
        have F62 : own_Arf Z h55 va (.object "com/example/garlicwire/garlicwire/i2cp/SessionStatus") 5 (fun i => (.ref (ga i))) := F43.ext I55_0
        have F63 : Exa Z h55 va "[Lcom/example/garlicwire/garlicwire/i2cp/SessionStatus;" := F44.ext I55_0
        have F64 : Sta Z h55 "com/example/garlicwire/garlicwire/i2cp/SessionStatus" "DESTROYED" "Lcom/example/garlicwire/garlicwire/i2cp/SessionStatus;" (.ref aD) := F45.ext I55_0
        have F65 : Sta Z h55 "com/example/garlicwire/garlicwire/i2cp/SessionStatus" "CREATED" "Lcom/example/garlicwire/garlicwire/i2cp/SessionStatus;" (.ref aC) := F46.ext I55_0
        have F66 : Sta Z h55 "com/example/garlicwire/garlicwire/i2cp/SessionStatus" "UPDATED" "Lcom/example/garlicwire/garlicwire/i2cp/SessionStatus;" (.ref aU) := F47.ext I55_0
        have F67 : Sta Z h55 "com/example/garlicwire/garlicwire/i2cp/SessionStatus" "INVALID" "Lcom/example/garlicwire/garlicwire/i2cp/SessionStatus;" (.ref aI) := F48.ext I55_0
        have F68 : Sta Z h55 "com/example/garlicwire/garlicwire/i2cp/SessionStatus" "REFUSED" "Lcom/example/garlicwire/garlicwire/i2cp/SessionStatus;" (.ref aR) := F49.ext I55_0
        have F69 : own_Arf Z h55 b_37 (.object "com/example/garlicwire/garlicwire/i2cp/SessionStatus") 5 (fun i => (.ref (ga i))) := I37_2.ext I55_0
        have K70 : Keep h0 h55 [] := K50.ext I55_0
        have Zs71 : n0 ≤ h55.size := Nat.le_trans Zs51 I55_0.1
        have r55 : own_R p.tables e below F0 (T55.setTop (mkF m 19 #[.val (.long p0), .second] [(.ref b_55)])) := fun tg_ kg_ => r54 tg_ (st55 tg_ kg_)
        have r72 : own_R p.tables e below F0 (T55.setTop (mkF m 28 #[.val (.long p0), .second] [(.ref (ga (p0.toInt32).toNatClampNeg))])) := fun tg_ kg_ => by
          refine r55 tg_ ?_
          show Steps p.tables e below (T55.setTop (mkF m 19 #[.val (.long p0), .second] [(.ref b_55)])) _
          refine XS.lloadN X55.here hx rfl (hb hby d1_19) rfl ?_
          show Steps p.tables e below (T55.setTop (mkF m 20 #[.val (.long p0), .second] [(.long p0), (.ref b_55)])) _
          refine XS.l2i X55.here hx rfl (hb hby d1_20) rfl ?_
          show Steps p.tables e below (T55.setTop (mkF m 21 #[.val (.long p0), .second] [(.int (p0.toInt32)), (.ref b_55)])) _
          refine own_aaload (hty := rfl) X55 hx hZ e55 (j := (p0.toInt32)) I55_2 (by
              have q28_r := own_R64 p0
              have q29_e : (0 : Int64).toInt = 0 := (by decide)
              have q29_r : (0 : Int) ≤ (0 : Int64).toInt ∧ (0 : Int64).toInt ≤ 0 := ⟨Int.le_of_eq q29_e.symm, Int.le_of_eq q29_e⟩
              have q30_e : (5 : Int32).toInt = 5 := (by decide)
              have q30_r : (5 : Int) ≤ (5 : Int32).toInt ∧ (5 : Int32).toInt ≤ 5 := ⟨Int.le_of_eq q30_e.symm, Int.le_of_eq q30_e⟩
              have q31_ := own_i2lR q30_r
              have q31_e := q31_.1
              have q31_r := q31_.2
              have q32_c := own_nlt64 hc33
              have q33_c := own_lt64 hc53
              have q1 := c_l2i p0
              have q2 := rng32 p0.toInt32
              omega) (by
              have q28_r := own_R64 p0
              have q29_e : (0 : Int64).toInt = 0 := (by decide)
              have q29_r : (0 : Int) ≤ (0 : Int64).toInt ∧ (0 : Int64).toInt ≤ 0 := ⟨Int.le_of_eq q29_e.symm, Int.le_of_eq q29_e⟩
              have q30_e : (5 : Int32).toInt = 5 := (by decide)
              have q30_r : (5 : Int) ≤ (5 : Int32).toInt ∧ (5 : Int32).toInt ≤ 5 := ⟨Int.le_of_eq q30_e.symm, Int.le_of_eq q30_e⟩
              have q31_ := own_i2lR q30_r
              have q31_e := q31_.1
              have q31_r := q31_.2
              have q32_c := own_nlt64 hc33
              have q33_c := own_lt64 hc53
              have q1 := c_l2i p0
              have q2 := rng32 p0.toInt32
              omega) (w := (.ref (ga (p0.toInt32).toNatClampNeg))) rfl (g := (mkF m 21 #[.val (.long p0), .second] [(.int (p0.toInt32)), (.ref b_55)])) rfl rfl (hb hby d1_21) _ ?_
          show Steps p.tables e below (T55.setTop (mkF m 22 #[.val (.long p0), .second] [(.ref (ga (p0.toInt32).toNatClampNeg))])) _
          refine XS.goto X55.here hx rfl (pc0 := 22) (pc' := 28) rfl (hb hby d1_22) (by decide) (by decide) ?_
          exact kg_
        refine hG (own_fin X55 hlk (some (.ref (ga (p0.toInt32).toNatClampNeg))) (own_hv Bd.returns) ?_ (by decide) (by decide) (fun fs hr => r72 _ (retOut X55 hx Bd.returns rfl (Or.inr (Or.inr (Or.inr (Or.inr ⟨rfl, rfl, rfl⟩)))) (hb hby d1_28) hr)))
        rw [e55]
        refine ⟨?_, N55, Ex56⟩
        have hi : (ga (p0.toInt32).toNatClampNeg) = own_expd p0 aD aC aU aI aR := own_ofE p0 aD aC aU aI aR ga (by
            have q34_r := own_R64 p0
            have q35_e : (0 : Int64).toInt = 0 := (by decide)
            have q35_r : (0 : Int) ≤ (0 : Int64).toInt ∧ (0 : Int64).toInt ≤ 0 := ⟨Int.le_of_eq q35_e.symm, Int.le_of_eq q35_e⟩
            have q36_e : (5 : Int32).toInt = 5 := (by decide)
            have q36_r : (5 : Int) ≤ (5 : Int32).toInt ∧ (5 : Int32).toInt ≤ 5 := ⟨Int.le_of_eq q36_e.symm, Int.le_of_eq q36_e⟩
            have q37_ := own_i2lR q36_r
            have q37_e := q37_.1
            have q37_r := q37_.2
            have q38_c := own_nlt64 hc33
            have q39_c := own_lt64 hc53
            omega) hga _ (by
            have q34_r := own_R64 p0
            have q35_e : (0 : Int64).toInt = 0 := (by decide)
            have q35_r : (0 : Int) ≤ (0 : Int64).toInt ∧ (0 : Int64).toInt ≤ 0 := ⟨Int.le_of_eq q35_e.symm, Int.le_of_eq q35_e⟩
            have q36_e : (5 : Int32).toInt = 5 := (by decide)
            have q36_r : (5 : Int) ≤ (5 : Int32).toInt ∧ (5 : Int32).toInt ≤ 5 := ⟨Int.le_of_eq q36_e.symm, Int.le_of_eq q36_e⟩
            have q37_ := own_i2lR q36_r
            have q37_e := q37_.1
            have q37_r := q37_.2
            have q38_c := own_nlt64 hc33
            have q39_c := own_lt64 hc53
            have q40_r := own_R64 p0
            have q41_r := own_R32 (p0.toInt32)
            have q42_ := c_l2i p0
            have t : (p0.toInt32).toNatClampNeg = (p0.toInt32).toInt.toNat := rfl
            omega)
        rw [← hi]
      · have r73 : own_R p.tables e below F0 (T37.setTop (mkF m 25 #[.val (.long p0), .second] [])) := fun tg_ kg_ => by
          refine r52 tg_ ?_
          show Steps p.tables e below (T37.setTop (mkF m 13 #[.val (.long p0), .second] [(.int (lcmpW p0 ((5 : Int32).toInt64)))])) _
          refine XS.ifYes X37.here hx rfl (pc0 := 13) (pc' := 25) rfl (hb hby d1_13) rfl (own_l_nlt hc53).2 (by decide) (by decide) ?_
          exact kg_
        obtain ⟨T74, X74, e74, st74⟩ := getS2 X37 hx hZ hown (host := "") (Or.inl (hw _ (List.mem_of_getElem? (i := 26) rfl))) Via.refl e37 F48 (g := (mkF m 25 #[.val (.long p0), .second] [])) rfl (hb hby d1_25)
        have r74 : own_R p.tables e below F0 (T74.setTop (mkF m 28 #[.val (.long p0), .second] [(.ref aI)])) := fun tg_ kg_ => r73 tg_ (st74 tg_ kg_)
        refine hG (own_fin X74 hlk (some (.ref aI)) (own_hv Bd.returns) ?_ (by decide) (by decide) (fun fs hr => r74 _ (retOut X74 hx Bd.returns rfl (Or.inr (Or.inr (Or.inr (Or.inr ⟨rfl, rfl, rfl⟩)))) (hb hby d1_28) hr)))
        rw [e74]
        refine ⟨?_, N37, Ex38⟩
        have hi : aI = own_expd p0 aD aC aU aI aR := (own_ofI p0 aD aC aU aI aR (by
            have q43_r := own_R64 p0
            have q44_e : (0 : Int64).toInt = 0 := (by decide)
            have q44_r : (0 : Int) ≤ (0 : Int64).toInt ∧ (0 : Int64).toInt ≤ 0 := ⟨Int.le_of_eq q44_e.symm, Int.le_of_eq q44_e⟩
            have q45_e : (5 : Int32).toInt = 5 := (by decide)
            have q45_r : (5 : Int) ≤ (5 : Int32).toInt ∧ (5 : Int32).toInt ≤ 5 := ⟨Int.le_of_eq q45_e.symm, Int.le_of_eq q45_e⟩
            have q46_ := own_i2lR q45_r
            have q46_e := q46_.1
            have q46_r := q46_.2
            have q47_c := own_nlt64 hc33
            have q48_c := own_nlt64 hc53
            omega)).symm
        rw [← hi]
  exact key _ _ id (fun t k => castTop (ef_1 m p0) k)
theorem pd_1 : parseMethodDescriptor "(J)Lcom/example/garlicwire/garlicwire/i2cp/SessionStatus;" = some ⟨[.long], some (.object "com/example/garlicwire/garlicwire/i2cp/SessionStatus")⟩ := by decide +kernel
theorem ef_0 (m : MethodId) (x0 : Int64) (x1 : Int32) : entryFrame m #[(.long x0), (.int x1)] maxLocals = mkF m 0 #[.val (.long x0), .second, .val (.int x1), .unset, .unset, .unset, .unset, .unset, .unset] [] := by first | (simp [entryFrame, mkF, argsToLocals, Value.category, maxLocals]; done) | rfl
def Q0 (Z : State) (p0s : Int64) (p1s : Int32) (va : Addr) (ga : Nat → Addr) (aD : Addr) (aC : Addr) (aU : Addr) (aI : Addr) (aR : Addr) (h0 : Heap) (n0 : Nat) (v : Option Value) (h : Heap) (L : List Loc) : Prop := v = some (.int (1 : Int32)) ∧ Fr n0 L
set_option maxRecDepth 65536 in
set_option maxHeartbeats 40000000 in
theorem rm0 (l : Launch) (Z : State) (a0 : Array Value) (hw : ∀ d ∈ tables_1, d.before a0 Z = true) (ws : List Jvm.Cond) (p0s : Int64) (p1s : Int32) (va : Addr) (ga : Nat → Addr) (aD : Addr) (aC : Addr) (aU : Addr) (aI : Addr) (aR : Addr) (h0 : Heap) (n0 : Nat) (Z0 : n0 ≤ h0.size) (S_V : Sta Z h0 "com/example/garlicwire/garlicwire/i2cp/SessionStatus" "$VALUES" "[Lcom/example/garlicwire/garlicwire/i2cp/SessionStatus;" (.ref va)) (A_V : own_Arf Z h0 va (.object "com/example/garlicwire/garlicwire/i2cp/SessionStatus") 5 (fun i => (.ref (ga i)))) (E_V : Exa Z h0 va "[Lcom/example/garlicwire/garlicwire/i2cp/SessionStatus;") (S_aD : Sta Z h0 "com/example/garlicwire/garlicwire/i2cp/SessionStatus" "DESTROYED" "Lcom/example/garlicwire/garlicwire/i2cp/SessionStatus;" (.ref aD)) (S_aC : Sta Z h0 "com/example/garlicwire/garlicwire/i2cp/SessionStatus" "CREATED" "Lcom/example/garlicwire/garlicwire/i2cp/SessionStatus;" (.ref aC)) (S_aU : Sta Z h0 "com/example/garlicwire/garlicwire/i2cp/SessionStatus" "UPDATED" "Lcom/example/garlicwire/garlicwire/i2cp/SessionStatus;" (.ref aU)) (S_aI : Sta Z h0 "com/example/garlicwire/garlicwire/i2cp/SessionStatus" "INVALID" "Lcom/example/garlicwire/garlicwire/i2cp/SessionStatus;" (.ref aI)) (S_aR : Sta Z h0 "com/example/garlicwire/garlicwire/i2cp/SessionStatus" "REFUSED" "Lcom/example/garlicwire/garlicwire/i2cp/SessionStatus;" (.ref aR)) (hga : ga 0 = aD ∧ ga 1 = aC ∧ ga 2 = aU ∧ ga 3 = aI ∧ ga 4 = aR) :
    MetFree l x (head1 (Jvm.Cond.code x code maxLocals ret :: ws) room_1) (fun a U => a = #[(.long p0s), (.int p1s)] ∧ Z.Warmed39 U.vm ∧ U.heap = h0) (fun _ _ _ _ _ => True) (fun _ U o U' => ∃ v L, o = .returned v ∧ Q0 Z p0s p1s va ga aD aC aU aI aR h0 n0 v U'.heap L ∧ FrameEnd U o U' L 16 128) := by
  refine MetFree.of_bodySF (plainFor_of_name pn_1) hisR ?_
  intro p e s m args below meth c s₁ Bd hml0 hP hK
  obtain ⟨rfl, hZ, hh⟩ := hP
  have hx := Bd.exec
  have hby := Bd.bytes
  have hml : c.maxLocals = 9 := hml0
  have hown : s.vm.findClass "com/example/garlicwire/garlicwire/i2cp/SessionStatusOfCodePinLaw" = some m.cls := findClass_of_methodNamed Bd.named
  have hnm := (name_of_methodNamed Bd.named Bd.method).1
  have hlk : meth.locks = false := BodyLoose.notSynchronized Bd
  have X0 : Stand p l e room_1 s m #[(.long p0s), (.int p1s)] below meth c s₁ [] 0 0 := Stand.of_body Bd
  have e0 : s₁.heap = h0 := by rw [← hh, Bd.state]; rfl
  have N0 := Fr.nil n0
  have K0 : Keep h0 h0 [] := Keep.refl h0 _
  have key : ∀ (F0 : State) (G : Prop), (own_G p e below s F0 (Q0 Z p0s p1s va ga aD aC aU aI aR h0 n0) 16 128 → G) → own_R p.tables e below F0 (s₁.setTop (mkF m 0 #[.val (.long p0s), .second, .val (.int p1s), .unset, .unset, .unset, .unset, .unset, .unset] [])) → G := by
    intro F0 G hG r0
    have r75 : own_R p.tables e below F0 (s₁.setTop (mkF m 14 #[.val (.long p0s), .second, .val (.int p1s), .val (.int (p1s &&& (3 : Int32))), .val (.long ((p0s &&& (7 : Int64)) - (1 : Int64))), .second, .unset, .unset, .unset] [(.int (p1s &&& (3 : Int32)))])) := fun tg_ kg_ => by
      refine r0 tg_ ?_
      show Steps p.tables e below (s₁.setTop (mkF m 0 #[.val (.long p0s), .second, .val (.int p1s), .unset, .unset, .unset, .unset, .unset, .unset] [])) _
      refine XS.iloadN X0.here hx rfl (hb hby at_0) rfl ?_
      show Steps p.tables e below (s₁.setTop (mkF m 1 #[.val (.long p0s), .second, .val (.int p1s), .unset, .unset, .unset, .unset, .unset, .unset] [(.int p1s)])) _
      refine XS.iconst X0.here hx rfl (hb hby at_1) ?_
      show Steps p.tables e below (s₁.setTop (mkF m 2 #[.val (.long p0s), .second, .val (.int p1s), .unset, .unset, .unset, .unset, .unset, .unset] [(.int (3 : Int32)), (.int p1s)])) _
      refine XS.iand X0.here hx rfl (hb hby at_2) rfl ?_
      show Steps p.tables e below (s₁.setTop (mkF m 3 #[.val (.long p0s), .second, .val (.int p1s), .unset, .unset, .unset, .unset, .unset, .unset] [(.int (p1s &&& (3 : Int32)))])) _
      refine XS.istoreN X0.here hx rfl (hb hby at_3) rfl (l' := #[.val (.long p0s), .second, .val (.int p1s), .val (.int (p1s &&& (3 : Int32))), .unset, .unset, .unset, .unset, .unset]) rfl ?_
      show Steps p.tables e below (s₁.setTop (mkF m 4 #[.val (.long p0s), .second, .val (.int p1s), .val (.int (p1s &&& (3 : Int32))), .unset, .unset, .unset, .unset, .unset] [])) _
      refine XS.lloadN X0.here hx rfl (hb hby at_4) rfl ?_
      show Steps p.tables e below (s₁.setTop (mkF m 5 #[.val (.long p0s), .second, .val (.int p1s), .val (.int (p1s &&& (3 : Int32))), .unset, .unset, .unset, .unset, .unset] [(.long p0s)])) _
      refine X0.ldc2J hx hown (mvT hZ (hw _ (List.mem_of_getElem? (i := 0) rfl))) rfl (hb hby at_5) ?_
      show Steps p.tables e below (s₁.setTop (mkF m 8 #[.val (.long p0s), .second, .val (.int p1s), .val (.int (p1s &&& (3 : Int32))), .unset, .unset, .unset, .unset, .unset] [(.long (7 : Int64)), (.long p0s)])) _
      refine XS.land X0.here hx rfl (hb hby at_8) rfl ?_
      show Steps p.tables e below (s₁.setTop (mkF m 9 #[.val (.long p0s), .second, .val (.int p1s), .val (.int (p1s &&& (3 : Int32))), .unset, .unset, .unset, .unset, .unset] [(.long (p0s &&& (7 : Int64)))])) _
      refine XS.lconst X0.here hx rfl (hb hby at_9) ?_
      show Steps p.tables e below (s₁.setTop (mkF m 10 #[.val (.long p0s), .second, .val (.int p1s), .val (.int (p1s &&& (3 : Int32))), .unset, .unset, .unset, .unset, .unset] [(.long (1 : Int64)), (.long (p0s &&& (7 : Int64)))])) _
      refine XS.lsub X0.here hx rfl (hb hby at_10) rfl ?_
      show Steps p.tables e below (s₁.setTop (mkF m 11 #[.val (.long p0s), .second, .val (.int p1s), .val (.int (p1s &&& (3 : Int32))), .unset, .unset, .unset, .unset, .unset] [(.long ((p0s &&& (7 : Int64)) - (1 : Int64)))])) _
      refine XS.lstore X0.here hx rfl (hb hby at_11) rfl (l' := #[.val (.long p0s), .second, .val (.int p1s), .val (.int (p1s &&& (3 : Int32))), .val (.long ((p0s &&& (7 : Int64)) - (1 : Int64))), .second, .unset, .unset, .unset]) rfl ?_
      show Steps p.tables e below (s₁.setTop (mkF m 13 #[.val (.long p0s), .second, .val (.int p1s), .val (.int (p1s &&& (3 : Int32))), .val (.long ((p0s &&& (7 : Int64)) - (1 : Int64))), .second, .unset, .unset, .unset] [])) _
      refine XS.iloadN X0.here hx rfl (hb hby at_13) rfl ?_
      exact kg_
    have J76 : ∀ (cc : Int64)  (r77 : own_R p.tables e below F0 (s₁.setTop (mkF m 84 #[.val (.long p0s), .second, .val (.int p1s), .val (.int (p1s &&& (3 : Int32))), .val (.long ((p0s &&& (7 : Int64)) - (1 : Int64))), .second, .val (.long cc), .second, .unset] []))), G := by
      intro cc r77
      have r78 : own_R p.tables e below F0 (s₁.setTop (mkF m 86 #[.val (.long p0s), .second, .val (.int p1s), .val (.int (p1s &&& (3 : Int32))), .val (.long ((p0s &&& (7 : Int64)) - (1 : Int64))), .second, .val (.long cc), .second, .unset] [(.long cc)])) := fun tg_ kg_ => by
        refine r77 tg_ ?_
        show Steps p.tables e below (s₁.setTop (mkF m 84 #[.val (.long p0s), .second, .val (.int p1s), .val (.int (p1s &&& (3 : Int32))), .val (.long ((p0s &&& (7 : Int64)) - (1 : Int64))), .second, .val (.long cc), .second, .unset] [])) _
        refine XS.lload X0.here hx rfl (hb hby at_84) rfl ?_
        exact kg_
      obtain ⟨_, _, ⟨T79, L79, k79, n79⟩, -, X79, ⟨Lc79, hQ79, l79, y79, z79⟩, st79⟩ := Jvm.LawKit.callS X0 hx (y := (⟨"com/example/garlicwire/garlicwire/i2cp/SessionStatus", "ofCode", "(J)Lcom/example/garlicwire/garlicwire/i2cp/SessionStatus;"⟩ : MethodName)) hown (mvT hZ (hw _ (List.mem_of_getElem? (i := 2) rfl))) (mvT hZ (hw _ (List.mem_of_getElem? (i := 3) rfl))) (mvT hZ (hw _ (List.mem_of_getElem? (i := 4) rfl))) (mvT hZ (hw _ (List.mem_of_getElem? (i := 5) rfl))) (by decide) (backOf (W := 0) (rm1 l Z a0 hw [] cc (va) (ga) (aD) (aC) (aU) (aI) (aR) h0 n0 Z0 S_V A_V E_V S_aD S_aC S_aU S_aI S_aR hga) hZ (hw _ (List.mem_of_getElem? (i := 5) rfl)) (hw _ (List.mem_of_getElem? (i := 4) rfl)) (by decide) (by decide)) (g := (mkF m 86 #[.val (.long p0s), .second, .val (.int p1s), .val (.int (p1s &&& (3 : Int32))), .val (.long ((p0s &&& (7 : Int64)) - (1 : Int64))), .second, .val (.long cc), .second, .unset] [(.long cc)])) rfl (by rw [hml]; rfl) (argsL := [(.long cc)]) (rest := []) (lenOf pd_1 rfl) rfl (by show 2 * 0 + _ ≤ _; exact Nat.le_of_eq rfl) (hb hby at_86) (fun _ _ => ⟨rfl, e0, (by decide : 0 + 2 ≤ _), (by decide : 0 + 10 ≤ _)⟩)
      dsimp only [Pt.U, Pt.locs, Pt.cells, Pt.slots] at X79 l79 y79 z79 st79 hQ79
      subst l79 y79 z79
      obtain ⟨rfl, N79q, I79_0⟩ := hQ79
      have N79 := Fr.app N0 N79q
      obtain ⟨h79, e79⟩ : ∃ z, T79.heap = z := ⟨_, rfl⟩
      rw [e79] at I79_0
      have F80 : Sta Z h79 "com/example/garlicwire/garlicwire/i2cp/SessionStatus" "$VALUES" "[Lcom/example/garlicwire/garlicwire/i2cp/SessionStatus;" (.ref va) := S_V.ext I79_0
      have F81 : own_Arf Z h79 va (.object "com/example/garlicwire/garlicwire/i2cp/SessionStatus") 5 (fun i => (.ref (ga i))) := A_V.ext I79_0
      have F82 : Exa Z h79 va "[Lcom/example/garlicwire/garlicwire/i2cp/SessionStatus;" := E_V.ext I79_0
      have F83 : Sta Z h79 "com/example/garlicwire/garlicwire/i2cp/SessionStatus" "DESTROYED" "Lcom/example/garlicwire/garlicwire/i2cp/SessionStatus;" (.ref aD) := S_aD.ext I79_0
      have F84 : Sta Z h79 "com/example/garlicwire/garlicwire/i2cp/SessionStatus" "CREATED" "Lcom/example/garlicwire/garlicwire/i2cp/SessionStatus;" (.ref aC) := S_aC.ext I79_0
      have F85 : Sta Z h79 "com/example/garlicwire/garlicwire/i2cp/SessionStatus" "UPDATED" "Lcom/example/garlicwire/garlicwire/i2cp/SessionStatus;" (.ref aU) := S_aU.ext I79_0
      have F86 : Sta Z h79 "com/example/garlicwire/garlicwire/i2cp/SessionStatus" "INVALID" "Lcom/example/garlicwire/garlicwire/i2cp/SessionStatus;" (.ref aI) := S_aI.ext I79_0
      have F87 : Sta Z h79 "com/example/garlicwire/garlicwire/i2cp/SessionStatus" "REFUSED" "Lcom/example/garlicwire/garlicwire/i2cp/SessionStatus;" (.ref aR) := S_aR.ext I79_0
      have K88 : Keep h0 h79 [] := K0.ext I79_0
      have Zs89 : n0 ≤ h79.size := Nat.le_trans Z0 I79_0.1
      have r79 : own_R p.tables e below F0 (T79.setTop (mkF m 89 #[.val (.long p0s), .second, .val (.int p1s), .val (.int (p1s &&& (3 : Int32))), .val (.long ((p0s &&& (7 : Int64)) - (1 : Int64))), .second, .val (.long cc), .second, .unset] [(.ref (own_expd cc aD aC aU aI aR))])) := fun tg_ kg_ => r78 tg_ (st79 tg_ kg_)
      have r90 : own_R p.tables e below F0 (T79.setTop (mkF m 95 #[.val (.long p0s), .second, .val (.int p1s), .val (.int (p1s &&& (3 : Int32))), .val (.long ((p0s &&& (7 : Int64)) - (1 : Int64))), .second, .val (.long cc), .second, .val (.ref (own_expd cc aD aC aU aI aR))] [(.long cc), (.ref (own_expd cc aD aC aU aI aR))])) := fun tg_ kg_ => by
        refine r79 tg_ ?_
        show Steps p.tables e below (T79.setTop (mkF m 89 #[.val (.long p0s), .second, .val (.int p1s), .val (.int (p1s &&& (3 : Int32))), .val (.long ((p0s &&& (7 : Int64)) - (1 : Int64))), .second, .val (.long cc), .second, .unset] [(.ref (own_expd cc aD aC aU aI aR))])) _
        refine XS.astore X79.here hx rfl (hb hby at_89) rfl rfl (l' := #[.val (.long p0s), .second, .val (.int p1s), .val (.int (p1s &&& (3 : Int32))), .val (.long ((p0s &&& (7 : Int64)) - (1 : Int64))), .second, .val (.long cc), .second, .val (.ref (own_expd cc aD aC aU aI aR))]) rfl ?_
        show Steps p.tables e below (T79.setTop (mkF m 91 #[.val (.long p0s), .second, .val (.int p1s), .val (.int (p1s &&& (3 : Int32))), .val (.long ((p0s &&& (7 : Int64)) - (1 : Int64))), .second, .val (.long cc), .second, .val (.ref (own_expd cc aD aC aU aI aR))] [])) _
        refine XS.aload X79.here hx rfl (hb hby at_91) rfl rfl ?_
        show Steps p.tables e below (T79.setTop (mkF m 93 #[.val (.long p0s), .second, .val (.int p1s), .val (.int (p1s &&& (3 : Int32))), .val (.long ((p0s &&& (7 : Int64)) - (1 : Int64))), .second, .val (.long cc), .second, .val (.ref (own_expd cc aD aC aU aI aR))] [(.ref (own_expd cc aD aC aU aI aR))])) _
        refine XS.lload X79.here hx rfl (hb hby at_93) rfl ?_
        exact kg_
      obtain ⟨_, _, ⟨T91, L91, k91, n91⟩, -, X91, ⟨Lc91, hQ91, l91, y91, z91⟩, st91⟩ := Jvm.LawKit.callS X79 hx (y := (⟨"com/example/garlicwire/garlicwire/i2cp/SessionStatusOfCodePinLaw", "expected", "(J)Lcom/example/garlicwire/garlicwire/i2cp/SessionStatus;"⟩ : MethodName)) hown (mvT hZ (hw _ (List.mem_of_getElem? (i := 27) rfl))) (mvT hZ (hw _ (List.mem_of_getElem? (i := 28) rfl))) (mvT hZ (hw _ (List.mem_of_getElem? (i := 29) rfl))) (mvT hZ (hw _ (List.mem_of_getElem? (i := 30) rfl))) (by decide) (backOf (W := 1) (rm3 l Z a0 hw [] cc (aD) (aC) (aU) (aI) (aR) h79 n0 Zs89 F83 F84 F85 F86 F87) hZ (hw _ (List.mem_of_getElem? (i := 30) rfl)) (hw _ (List.mem_of_getElem? (i := 29) rfl)) (by decide) (by decide)) (g := (mkF m 95 #[.val (.long p0s), .second, .val (.int p1s), .val (.int (p1s &&& (3 : Int32))), .val (.long ((p0s &&& (7 : Int64)) - (1 : Int64))), .second, .val (.long cc), .second, .val (.ref (own_expd cc aD aC aU aI aR))] [(.long cc), (.ref (own_expd cc aD aC aU aI aR))])) rfl (by rw [hml]; rfl) (argsL := [(.long cc)]) (rest := [(.ref (own_expd cc aD aC aU aI aR))]) (lenOf pd_1 rfl) rfl (by show 2 * 0 + _ ≤ _; exact Nat.le_of_eq rfl) (hb hby at_95) (fun _ _ => ⟨rfl, e79, (by decide : 2 + 0 ≤ _), (by decide : 10 + 0 ≤ _)⟩)
      dsimp only [Pt.U, Pt.locs, Pt.cells, Pt.slots] at X91 l91 y91 z91 st91 hQ91
      subst l91 y91 z91
      obtain ⟨rfl, N91q, I91_0⟩ := hQ91
      have N91 := Fr.app N79 N91q
      have r91 : own_R p.tables e below F0 (T91.setTop (mkF m 98 #[.val (.long p0s), .second, .val (.int p1s), .val (.int (p1s &&& (3 : Int32))), .val (.long ((p0s &&& (7 : Int64)) - (1 : Int64))), .second, .val (.long cc), .second, .val (.ref (own_expd cc aD aC aU aI aR))] [(.ref (own_expd cc aD aC aU aI aR)), (.ref (own_expd cc aD aC aU aI aR))])) := fun tg_ kg_ => r90 tg_ (st91 tg_ kg_)
      have r92 : own_R p.tables e below F0 (T91.setTop (mkF m 106 #[.val (.long p0s), .second, .val (.int p1s), .val (.int (p1s &&& (3 : Int32))), .val (.long ((p0s &&& (7 : Int64)) - (1 : Int64))), .second, .val (.long cc), .second, .val (.ref (own_expd cc aD aC aU aI aR))] [(.int (1 : Int32))])) := fun tg_ kg_ => by
        refine r91 tg_ ?_
        show Steps p.tables e below (T91.setTop (mkF m 98 #[.val (.long p0s), .second, .val (.int p1s), .val (.int (p1s &&& (3 : Int32))), .val (.long ((p0s &&& (7 : Int64)) - (1 : Int64))), .second, .val (.long cc), .second, .val (.ref (own_expd cc aD aC aU aI aR))] [(.ref (own_expd cc aD aC aU aI aR)), (.ref (own_expd cc aD aC aU aI aR))])) _
        refine Jvm.RoadKit.acmp (g := (mkF m 98 #[.val (.long p0s), .second, .val (.int p1s), .val (.int (p1s &&& (3 : Int32))), .val (.long ((p0s &&& (7 : Int64)) - (1 : Int64))), .second, .val (.long cc), .second, .val (.ref (own_expd cc aD aC aU aI aR))] [(.ref (own_expd cc aD aC aU aI aR)), (.ref (own_expd cc aD aC aU aI aR))])) X91 hx rfl (x := (.ref (own_expd cc aD aC aU aI aR))) (y := (.ref (own_expd cc aD aC aU aI aR))) rfl rfl (pc0 := 98) (pc' := 101) (same := true) rfl (hb hby at_98) rfl (decide_eq_true rfl) (by decide) (by decide) ?_
        show Steps p.tables e below (T91.setTop (mkF m 101 #[.val (.long p0s), .second, .val (.int p1s), .val (.int (p1s &&& (3 : Int32))), .val (.long ((p0s &&& (7 : Int64)) - (1 : Int64))), .second, .val (.long cc), .second, .val (.ref (own_expd cc aD aC aU aI aR))] [])) _
        refine XS.iconst X91.here hx rfl (hb hby at_101) ?_
        show Steps p.tables e below (T91.setTop (mkF m 102 #[.val (.long p0s), .second, .val (.int p1s), .val (.int (p1s &&& (3 : Int32))), .val (.long ((p0s &&& (7 : Int64)) - (1 : Int64))), .second, .val (.long cc), .second, .val (.ref (own_expd cc aD aC aU aI aR))] [(.int (1 : Int32))])) _
        refine XS.goto X91.here hx rfl (pc0 := 102) (pc' := 106) rfl (hb hby at_102) (by decide) (by decide) ?_
        exact kg_
      refine hG (own_fin X91 hlk (some (.int (nar .boolean (1 : Int32)))) (own_hv Bd.returns) ?_ (by decide) (by decide) (fun fs hr => r92 _ (retN X91 hx (t := .boolean) Bd.returns (by simp) (hb hby at_106) hr)))
      rw [I91_0]
      exact ⟨rfl, N91⟩
    by_cases hc93 : (p1s &&& (3 : Int32)) = (0 : Int32)
    · have r94 : own_R p.tables e below F0 (s₁.setTop (mkF m 84 #[.val (.long p0s), .second, .val (.int p1s), .val (.int (p1s &&& (3 : Int32))), .val (.long ((p0s &&& (7 : Int64)) - (1 : Int64))), .second, .val (.long p0s), .second, .unset] [])) := fun tg_ kg_ => by
        refine r75 tg_ ?_
        show Steps p.tables e below (s₁.setTop (mkF m 14 #[.val (.long p0s), .second, .val (.int p1s), .val (.int (p1s &&& (3 : Int32))), .val (.long ((p0s &&& (7 : Int64)) - (1 : Int64))), .second, .unset, .unset, .unset] [(.int (p1s &&& (3 : Int32)))])) _
        refine XS.ifNo X0.here hx rfl (hb hby at_14) rfl ((if0 _ _).trans (teq hc93).2) ?_
        show Steps p.tables e below (s₁.setTop (mkF m 17 #[.val (.long p0s), .second, .val (.int p1s), .val (.int (p1s &&& (3 : Int32))), .val (.long ((p0s &&& (7 : Int64)) - (1 : Int64))), .second, .unset, .unset, .unset] [])) _
        refine XS.lloadN X0.here hx rfl (hb hby at_17) rfl ?_
        show Steps p.tables e below (s₁.setTop (mkF m 18 #[.val (.long p0s), .second, .val (.int p1s), .val (.int (p1s &&& (3 : Int32))), .val (.long ((p0s &&& (7 : Int64)) - (1 : Int64))), .second, .unset, .unset, .unset] [(.long p0s)])) _
        refine XS.lstore X0.here hx rfl (hb hby at_18) rfl (l' := #[.val (.long p0s), .second, .val (.int p1s), .val (.int (p1s &&& (3 : Int32))), .val (.long ((p0s &&& (7 : Int64)) - (1 : Int64))), .second, .val (.long p0s), .second, .unset]) rfl ?_
        show Steps p.tables e below (s₁.setTop (mkF m 20 #[.val (.long p0s), .second, .val (.int p1s), .val (.int (p1s &&& (3 : Int32))), .val (.long ((p0s &&& (7 : Int64)) - (1 : Int64))), .second, .val (.long p0s), .second, .unset] [])) _
        refine XS.goto X0.here hx rfl (pc0 := 20) (pc' := 84) rfl (hb hby at_20) (by decide) (by decide) ?_
        exact kg_
      exact J76 p0s r94
    · have r95 : own_R p.tables e below F0 (s₁.setTop (mkF m 25 #[.val (.long p0s), .second, .val (.int p1s), .val (.int (p1s &&& (3 : Int32))), .val (.long ((p0s &&& (7 : Int64)) - (1 : Int64))), .second, .unset, .unset, .unset] [(.int (1 : Int32)), (.int (p1s &&& (3 : Int32)))])) := fun tg_ kg_ => by
        refine r75 tg_ ?_
        show Steps p.tables e below (s₁.setTop (mkF m 14 #[.val (.long p0s), .second, .val (.int p1s), .val (.int (p1s &&& (3 : Int32))), .val (.long ((p0s &&& (7 : Int64)) - (1 : Int64))), .second, .unset, .unset, .unset] [(.int (p1s &&& (3 : Int32)))])) _
        refine XS.ifYes X0.here hx rfl (pc0 := 14) (pc' := 23) rfl (hb hby at_14) rfl ((if0 _ _).trans (feq hc93).2) (by decide) (by decide) ?_
        show Steps p.tables e below (s₁.setTop (mkF m 23 #[.val (.long p0s), .second, .val (.int p1s), .val (.int (p1s &&& (3 : Int32))), .val (.long ((p0s &&& (7 : Int64)) - (1 : Int64))), .second, .unset, .unset, .unset] [])) _
        refine XS.iloadN X0.here hx rfl (hb hby at_23) rfl ?_
        show Steps p.tables e below (s₁.setTop (mkF m 24 #[.val (.long p0s), .second, .val (.int p1s), .val (.int (p1s &&& (3 : Int32))), .val (.long ((p0s &&& (7 : Int64)) - (1 : Int64))), .second, .unset, .unset, .unset] [(.int (p1s &&& (3 : Int32)))])) _
        refine XS.iconst X0.here hx rfl (hb hby at_24) ?_
        exact kg_
      by_cases hc96 : (p1s &&& (3 : Int32)) = (1 : Int32)
      · have r97 : own_R p.tables e below F0 (s₁.setTop (mkF m 84 #[.val (.long p0s), .second, .val (.int p1s), .val (.int (p1s &&& (3 : Int32))), .val (.long ((p0s &&& (7 : Int64)) - (1 : Int64))), .second, .val (.long ((p0s &&& (7 : Int64)) - (1 : Int64))), .second, .unset] [])) := fun tg_ kg_ => by
          refine r95 tg_ ?_
          show Steps p.tables e below (s₁.setTop (mkF m 25 #[.val (.long p0s), .second, .val (.int p1s), .val (.int (p1s &&& (3 : Int32))), .val (.long ((p0s &&& (7 : Int64)) - (1 : Int64))), .second, .unset, .unset, .unset] [(.int (1 : Int32)), (.int (p1s &&& (3 : Int32)))])) _
          refine XS.icmpNo X0.here hx rfl (hb hby at_25) rfl (teq hc96).2 ?_
          show Steps p.tables e below (s₁.setTop (mkF m 28 #[.val (.long p0s), .second, .val (.int p1s), .val (.int (p1s &&& (3 : Int32))), .val (.long ((p0s &&& (7 : Int64)) - (1 : Int64))), .second, .unset, .unset, .unset] [])) _
          refine XS.lload X0.here hx rfl (hb hby at_28) rfl ?_
          show Steps p.tables e below (s₁.setTop (mkF m 30 #[.val (.long p0s), .second, .val (.int p1s), .val (.int (p1s &&& (3 : Int32))), .val (.long ((p0s &&& (7 : Int64)) - (1 : Int64))), .second, .unset, .unset, .unset] [(.long ((p0s &&& (7 : Int64)) - (1 : Int64)))])) _
          refine XS.lstore X0.here hx rfl (hb hby at_30) rfl (l' := #[.val (.long p0s), .second, .val (.int p1s), .val (.int (p1s &&& (3 : Int32))), .val (.long ((p0s &&& (7 : Int64)) - (1 : Int64))), .second, .val (.long ((p0s &&& (7 : Int64)) - (1 : Int64))), .second, .unset]) rfl ?_
          show Steps p.tables e below (s₁.setTop (mkF m 32 #[.val (.long p0s), .second, .val (.int p1s), .val (.int (p1s &&& (3 : Int32))), .val (.long ((p0s &&& (7 : Int64)) - (1 : Int64))), .second, .val (.long ((p0s &&& (7 : Int64)) - (1 : Int64))), .second, .unset] [])) _
          refine XS.goto X0.here hx rfl (pc0 := 32) (pc' := 84) rfl (hb hby at_32) (by decide) (by decide) ?_
          exact kg_
        exact J76 ((p0s &&& (7 : Int64)) - (1 : Int64)) r97
      · have r98 : own_R p.tables e below F0 (s₁.setTop (mkF m 37 #[.val (.long p0s), .second, .val (.int p1s), .val (.int (p1s &&& (3 : Int32))), .val (.long ((p0s &&& (7 : Int64)) - (1 : Int64))), .second, .unset, .unset, .unset] [(.int (2 : Int32)), (.int (p1s &&& (3 : Int32)))])) := fun tg_ kg_ => by
          refine r95 tg_ ?_
          show Steps p.tables e below (s₁.setTop (mkF m 25 #[.val (.long p0s), .second, .val (.int p1s), .val (.int (p1s &&& (3 : Int32))), .val (.long ((p0s &&& (7 : Int64)) - (1 : Int64))), .second, .unset, .unset, .unset] [(.int (1 : Int32)), (.int (p1s &&& (3 : Int32)))])) _
          refine XS.icmpYes X0.here hx rfl (pc0 := 25) (pc' := 35) rfl (hb hby at_25) rfl (feq hc96).2 (by decide) (by decide) ?_
          show Steps p.tables e below (s₁.setTop (mkF m 35 #[.val (.long p0s), .second, .val (.int p1s), .val (.int (p1s &&& (3 : Int32))), .val (.long ((p0s &&& (7 : Int64)) - (1 : Int64))), .second, .unset, .unset, .unset] [])) _
          refine XS.iloadN X0.here hx rfl (hb hby at_35) rfl ?_
          show Steps p.tables e below (s₁.setTop (mkF m 36 #[.val (.long p0s), .second, .val (.int p1s), .val (.int (p1s &&& (3 : Int32))), .val (.long ((p0s &&& (7 : Int64)) - (1 : Int64))), .second, .unset, .unset, .unset] [(.int (p1s &&& (3 : Int32)))])) _
          refine XS.iconst X0.here hx rfl (hb hby at_36) ?_
          exact kg_
        by_cases hc99 : (p1s &&& (3 : Int32)) = (2 : Int32)
        · have r100 : own_R p.tables e below F0 (s₁.setTop (mkF m 84 #[.val (.long p0s), .second, .val (.int p1s), .val (.int (p1s &&& (3 : Int32))), .val (.long ((p0s &&& (7 : Int64)) - (1 : Int64))), .second, .val (.long (((p0s &&& (7 : Int64)) - (1 : Int64)) + (4294967296 : Int64))), .second, .unset] [])) := fun tg_ kg_ => by
            refine r98 tg_ ?_
            show Steps p.tables e below (s₁.setTop (mkF m 37 #[.val (.long p0s), .second, .val (.int p1s), .val (.int (p1s &&& (3 : Int32))), .val (.long ((p0s &&& (7 : Int64)) - (1 : Int64))), .second, .unset, .unset, .unset] [(.int (2 : Int32)), (.int (p1s &&& (3 : Int32)))])) _
            refine XS.icmpNo X0.here hx rfl (hb hby at_37) rfl (teq hc99).2 ?_
            show Steps p.tables e below (s₁.setTop (mkF m 40 #[.val (.long p0s), .second, .val (.int p1s), .val (.int (p1s &&& (3 : Int32))), .val (.long ((p0s &&& (7 : Int64)) - (1 : Int64))), .second, .unset, .unset, .unset] [])) _
            refine XS.lload X0.here hx rfl (hb hby at_40) rfl ?_
            show Steps p.tables e below (s₁.setTop (mkF m 42 #[.val (.long p0s), .second, .val (.int p1s), .val (.int (p1s &&& (3 : Int32))), .val (.long ((p0s &&& (7 : Int64)) - (1 : Int64))), .second, .unset, .unset, .unset] [(.long ((p0s &&& (7 : Int64)) - (1 : Int64)))])) _
            refine X0.ldc2J hx hown (mvT hZ (hw _ (List.mem_of_getElem? (i := 1) rfl))) rfl (hb hby at_42) ?_
            show Steps p.tables e below (s₁.setTop (mkF m 45 #[.val (.long p0s), .second, .val (.int p1s), .val (.int (p1s &&& (3 : Int32))), .val (.long ((p0s &&& (7 : Int64)) - (1 : Int64))), .second, .unset, .unset, .unset] [(.long (4294967296 : Int64)), (.long ((p0s &&& (7 : Int64)) - (1 : Int64)))])) _
            refine XS.ladd X0.here hx rfl (hb hby at_45) rfl ?_
            show Steps p.tables e below (s₁.setTop (mkF m 46 #[.val (.long p0s), .second, .val (.int p1s), .val (.int (p1s &&& (3 : Int32))), .val (.long ((p0s &&& (7 : Int64)) - (1 : Int64))), .second, .unset, .unset, .unset] [(.long (((p0s &&& (7 : Int64)) - (1 : Int64)) + (4294967296 : Int64)))])) _
            refine XS.lstore X0.here hx rfl (hb hby at_46) rfl (l' := #[.val (.long p0s), .second, .val (.int p1s), .val (.int (p1s &&& (3 : Int32))), .val (.long ((p0s &&& (7 : Int64)) - (1 : Int64))), .second, .val (.long (((p0s &&& (7 : Int64)) - (1 : Int64)) + (4294967296 : Int64))), .second, .unset]) rfl ?_
            show Steps p.tables e below (s₁.setTop (mkF m 48 #[.val (.long p0s), .second, .val (.int p1s), .val (.int (p1s &&& (3 : Int32))), .val (.long ((p0s &&& (7 : Int64)) - (1 : Int64))), .second, .val (.long (((p0s &&& (7 : Int64)) - (1 : Int64)) + (4294967296 : Int64))), .second, .unset] [])) _
            refine XS.goto X0.here hx rfl (pc0 := 48) (pc' := 84) rfl (hb hby at_48) (by decide) (by decide) ?_
            exact kg_
          exact J76 (((p0s &&& (7 : Int64)) - (1 : Int64)) + (4294967296 : Int64)) r100
        · have r101 : own_R p.tables e below F0 (s₁.setTop (mkF m 56 #[.val (.long p0s), .second, .val (.int p1s), .val (.int (p1s &&& (3 : Int32))), .val (.long ((p0s &&& (7 : Int64)) - (1 : Int64))), .second, .unset, .unset, .unset] [(.int ((p1s >>> ((2 : Int32) &&& 31)) &&& (1 : Int32)))])) := fun tg_ kg_ => by
            refine r98 tg_ ?_
            show Steps p.tables e below (s₁.setTop (mkF m 37 #[.val (.long p0s), .second, .val (.int p1s), .val (.int (p1s &&& (3 : Int32))), .val (.long ((p0s &&& (7 : Int64)) - (1 : Int64))), .second, .unset, .unset, .unset] [(.int (2 : Int32)), (.int (p1s &&& (3 : Int32)))])) _
            refine XS.icmpYes X0.here hx rfl (pc0 := 37) (pc' := 51) rfl (hb hby at_37) rfl (feq hc99).2 (by decide) (by decide) ?_
            show Steps p.tables e below (s₁.setTop (mkF m 51 #[.val (.long p0s), .second, .val (.int p1s), .val (.int (p1s &&& (3 : Int32))), .val (.long ((p0s &&& (7 : Int64)) - (1 : Int64))), .second, .unset, .unset, .unset] [])) _
            refine XS.iloadN X0.here hx rfl (hb hby at_51) rfl ?_
            show Steps p.tables e below (s₁.setTop (mkF m 52 #[.val (.long p0s), .second, .val (.int p1s), .val (.int (p1s &&& (3 : Int32))), .val (.long ((p0s &&& (7 : Int64)) - (1 : Int64))), .second, .unset, .unset, .unset] [(.int p1s)])) _
            refine XS.iconst X0.here hx rfl (hb hby at_52) ?_
            show Steps p.tables e below (s₁.setTop (mkF m 53 #[.val (.long p0s), .second, .val (.int p1s), .val (.int (p1s &&& (3 : Int32))), .val (.long ((p0s &&& (7 : Int64)) - (1 : Int64))), .second, .unset, .unset, .unset] [(.int (2 : Int32)), (.int p1s)])) _
            refine XS.ishr X0.here hx rfl (hb hby at_53) rfl ?_
            show Steps p.tables e below (s₁.setTop (mkF m 54 #[.val (.long p0s), .second, .val (.int p1s), .val (.int (p1s &&& (3 : Int32))), .val (.long ((p0s &&& (7 : Int64)) - (1 : Int64))), .second, .unset, .unset, .unset] [(.int (p1s >>> ((2 : Int32) &&& 31)))])) _
            refine XS.iconst X0.here hx rfl (hb hby at_54) ?_
            show Steps p.tables e below (s₁.setTop (mkF m 55 #[.val (.long p0s), .second, .val (.int p1s), .val (.int (p1s &&& (3 : Int32))), .val (.long ((p0s &&& (7 : Int64)) - (1 : Int64))), .second, .unset, .unset, .unset] [(.int (1 : Int32)), (.int (p1s >>> ((2 : Int32) &&& 31)))])) _
            refine XS.iand X0.here hx rfl (hb hby at_55) rfl ?_
            exact kg_
          by_cases hc102 : ((p1s >>> ((2 : Int32) &&& 31)) &&& (1 : Int32)) = (0 : Int32)
          · have r103 : own_R p.tables e below F0 (s₁.setTop (mkF m 84 #[.val (.long p0s), .second, .val (.int p1s), .val (.int (p1s &&& (3 : Int32))), .val (.long ((p0s &&& (7 : Int64)) - (1 : Int64))), .second, .val (.long ((9223372036854775807 : Int64) - (p0s &&& (7 : Int64)))), .second, .unset] [])) := fun tg_ kg_ => by
              refine r101 tg_ ?_
              show Steps p.tables e below (s₁.setTop (mkF m 56 #[.val (.long p0s), .second, .val (.int p1s), .val (.int (p1s &&& (3 : Int32))), .val (.long ((p0s &&& (7 : Int64)) - (1 : Int64))), .second, .unset, .unset, .unset] [(.int ((p1s >>> ((2 : Int32) &&& 31)) &&& (1 : Int32)))])) _
              refine XS.ifYes X0.here hx rfl (pc0 := 56) (pc' := 73) rfl (hb hby at_56) rfl ((if0 _ _).trans (teq hc102).1) (by decide) (by decide) ?_
              show Steps p.tables e below (s₁.setTop (mkF m 73 #[.val (.long p0s), .second, .val (.int p1s), .val (.int (p1s &&& (3 : Int32))), .val (.long ((p0s &&& (7 : Int64)) - (1 : Int64))), .second, .unset, .unset, .unset] [])) _
              refine X0.ldc2J hx hown (mvT hZ (hw _ (List.mem_of_getElem? (i := 37) rfl))) rfl (hb hby at_73) ?_
              show Steps p.tables e below (s₁.setTop (mkF m 76 #[.val (.long p0s), .second, .val (.int p1s), .val (.int (p1s &&& (3 : Int32))), .val (.long ((p0s &&& (7 : Int64)) - (1 : Int64))), .second, .unset, .unset, .unset] [(.long (9223372036854775807 : Int64))])) _
              refine XS.lloadN X0.here hx rfl (hb hby at_76) rfl ?_
              show Steps p.tables e below (s₁.setTop (mkF m 77 #[.val (.long p0s), .second, .val (.int p1s), .val (.int (p1s &&& (3 : Int32))), .val (.long ((p0s &&& (7 : Int64)) - (1 : Int64))), .second, .unset, .unset, .unset] [(.long p0s), (.long (9223372036854775807 : Int64))])) _
              refine X0.ldc2J hx hown (mvT hZ (hw _ (List.mem_of_getElem? (i := 0) rfl))) rfl (hb hby at_77) ?_
              show Steps p.tables e below (s₁.setTop (mkF m 80 #[.val (.long p0s), .second, .val (.int p1s), .val (.int (p1s &&& (3 : Int32))), .val (.long ((p0s &&& (7 : Int64)) - (1 : Int64))), .second, .unset, .unset, .unset] [(.long (7 : Int64)), (.long p0s), (.long (9223372036854775807 : Int64))])) _
              refine XS.land X0.here hx rfl (hb hby at_80) rfl ?_
              show Steps p.tables e below (s₁.setTop (mkF m 81 #[.val (.long p0s), .second, .val (.int p1s), .val (.int (p1s &&& (3 : Int32))), .val (.long ((p0s &&& (7 : Int64)) - (1 : Int64))), .second, .unset, .unset, .unset] [(.long (p0s &&& (7 : Int64))), (.long (9223372036854775807 : Int64))])) _
              refine XS.lsub X0.here hx rfl (hb hby at_81) rfl ?_
              show Steps p.tables e below (s₁.setTop (mkF m 82 #[.val (.long p0s), .second, .val (.int p1s), .val (.int (p1s &&& (3 : Int32))), .val (.long ((p0s &&& (7 : Int64)) - (1 : Int64))), .second, .unset, .unset, .unset] [(.long ((9223372036854775807 : Int64) - (p0s &&& (7 : Int64))))])) _
              refine XS.lstore X0.here hx rfl (hb hby at_82) rfl (l' := #[.val (.long p0s), .second, .val (.int p1s), .val (.int (p1s &&& (3 : Int32))), .val (.long ((p0s &&& (7 : Int64)) - (1 : Int64))), .second, .val (.long ((9223372036854775807 : Int64) - (p0s &&& (7 : Int64)))), .second, .unset]) rfl ?_
              exact kg_
            exact J76 ((9223372036854775807 : Int64) - (p0s &&& (7 : Int64))) r103
          · have r104 : own_R p.tables e below F0 (s₁.setTop (mkF m 84 #[.val (.long p0s), .second, .val (.int p1s), .val (.int (p1s &&& (3 : Int32))), .val (.long ((p0s &&& (7 : Int64)) - (1 : Int64))), .second, .val (.long ((-9223372036854775808 : Int64) + (p0s &&& (7 : Int64)))), .second, .unset] [])) := fun tg_ kg_ => by
              refine r101 tg_ ?_
              show Steps p.tables e below (s₁.setTop (mkF m 56 #[.val (.long p0s), .second, .val (.int p1s), .val (.int (p1s &&& (3 : Int32))), .val (.long ((p0s &&& (7 : Int64)) - (1 : Int64))), .second, .unset, .unset, .unset] [(.int ((p1s >>> ((2 : Int32) &&& 31)) &&& (1 : Int32)))])) _
              refine XS.ifNo X0.here hx rfl (hb hby at_56) rfl ((if0 _ _).trans (feq hc102).1) ?_
              show Steps p.tables e below (s₁.setTop (mkF m 59 #[.val (.long p0s), .second, .val (.int p1s), .val (.int (p1s &&& (3 : Int32))), .val (.long ((p0s &&& (7 : Int64)) - (1 : Int64))), .second, .unset, .unset, .unset] [])) _
              refine X0.ldc2J hx hown (mvT hZ (hw _ (List.mem_of_getElem? (i := 35) rfl))) rfl (hb hby at_59) ?_
              show Steps p.tables e below (s₁.setTop (mkF m 62 #[.val (.long p0s), .second, .val (.int p1s), .val (.int (p1s &&& (3 : Int32))), .val (.long ((p0s &&& (7 : Int64)) - (1 : Int64))), .second, .unset, .unset, .unset] [(.long (-9223372036854775808 : Int64))])) _
              refine XS.lloadN X0.here hx rfl (hb hby at_62) rfl ?_
              show Steps p.tables e below (s₁.setTop (mkF m 63 #[.val (.long p0s), .second, .val (.int p1s), .val (.int (p1s &&& (3 : Int32))), .val (.long ((p0s &&& (7 : Int64)) - (1 : Int64))), .second, .unset, .unset, .unset] [(.long p0s), (.long (-9223372036854775808 : Int64))])) _
              refine X0.ldc2J hx hown (mvT hZ (hw _ (List.mem_of_getElem? (i := 0) rfl))) rfl (hb hby at_63) ?_
              show Steps p.tables e below (s₁.setTop (mkF m 66 #[.val (.long p0s), .second, .val (.int p1s), .val (.int (p1s &&& (3 : Int32))), .val (.long ((p0s &&& (7 : Int64)) - (1 : Int64))), .second, .unset, .unset, .unset] [(.long (7 : Int64)), (.long p0s), (.long (-9223372036854775808 : Int64))])) _
              refine XS.land X0.here hx rfl (hb hby at_66) rfl ?_
              show Steps p.tables e below (s₁.setTop (mkF m 67 #[.val (.long p0s), .second, .val (.int p1s), .val (.int (p1s &&& (3 : Int32))), .val (.long ((p0s &&& (7 : Int64)) - (1 : Int64))), .second, .unset, .unset, .unset] [(.long (p0s &&& (7 : Int64))), (.long (-9223372036854775808 : Int64))])) _
              refine XS.ladd X0.here hx rfl (hb hby at_67) rfl ?_
              show Steps p.tables e below (s₁.setTop (mkF m 68 #[.val (.long p0s), .second, .val (.int p1s), .val (.int (p1s &&& (3 : Int32))), .val (.long ((p0s &&& (7 : Int64)) - (1 : Int64))), .second, .unset, .unset, .unset] [(.long ((-9223372036854775808 : Int64) + (p0s &&& (7 : Int64))))])) _
              refine XS.lstore X0.here hx rfl (hb hby at_68) rfl (l' := #[.val (.long p0s), .second, .val (.int p1s), .val (.int (p1s &&& (3 : Int32))), .val (.long ((p0s &&& (7 : Int64)) - (1 : Int64))), .second, .val (.long ((-9223372036854775808 : Int64) + (p0s &&& (7 : Int64)))), .second, .unset]) rfl ?_
              show Steps p.tables e below (s₁.setTop (mkF m 70 #[.val (.long p0s), .second, .val (.int p1s), .val (.int (p1s &&& (3 : Int32))), .val (.long ((p0s &&& (7 : Int64)) - (1 : Int64))), .second, .val (.long ((-9223372036854775808 : Int64) + (p0s &&& (7 : Int64)))), .second, .unset] [])) _
              refine XS.goto X0.here hx rfl (pc0 := 70) (pc' := 84) rfl (hb hby at_70) (by decide) (by decide) ?_
              exact kg_
            exact J76 ((-9223372036854775808 : Int64) + (p0s &&& (7 : Int64))) r104
  exact key _ _ id (fun t k => castTop (ef_0 m p0s p1s) k)
set_option maxRecDepth 65536 in
set_option maxHeartbeats 40000000 in
theorem comes_1 {Post : Tables → Env → Array Value → State → Outcome → State → Prop} (hpost : ∀ tb e args s v u, (limb_1_1.after args s (.returned v) u = true ∧ limb_1_2.after args s (.returned v) u = true ∧ True) → FrameEnd s (.returned v) u (Jvm.fieldLocs frame_1_writes args s ++ Jvm.arrayLocs frame_1_arrays args s ++ Jvm.staticLocs frame_1_statics s) 16 128 → Post tb e args s (.returned v) u) :
    ArmFor flags0 classFile x code maxLocals ret World_1 tables_1 room_1 Calls_1 rest_1 Pre_1 Post := by
  intro l hfl _ _ p e ha hc hk s m args below hf hA hF happ hP
  obtain ⟨hcalls, hrest, hpre⟩ := hP
  obtain ⟨-, -, -, hnamed, -, -, -, hat⟩ := (Spec.applies_iff hf).mp happ
  obtain ⟨hg, hn⟩ := and_e (Cond.before_iff.mp (show (Jvm.Cond.and given_1 narrow_1).before args s = true from hpre))
  obtain ⟨gw1, gw2⟩ := and_e hg
  obtain ⟨gw3, gw4⟩ := and_e gw2
  obtain ⟨w0, w1, rfl⟩ : ∃ w0 w1 : Value, args = #[w0, w1] := by
    have hs : args.size = 2 := by simpa [Cond.value, given_1] using gw1
    obtain ⟨L⟩ := args
    match L, hs with
    | [w0, w1], _ => exact ⟨w0, w1, rfl⟩
  have hw := fun d (hd : d ∈ tables_1) => atoms_spec (ws := Jvm.Cond.code x code maxLocals ret :: tables_1) hat d (List.mem_cons_of_mem _ hd)
  have hfit : Fit s := fun {y c} hc i hi => by
    obtain ⟨ha, rfl⟩ := Array.getElem?_eq_some_iff.mp hc
    have q := List.all_eq_true.mp ((Array.all_eq_true_iff_forall_mem.mp hF) _ (Array.getElem_mem ha)) i (List.mem_range.mpr hi)
    simpa [Array.getElem?_eq_getElem hi] using q
  obtain ⟨i0, ei0⟩ := isL_v gw3
  obtain rfl : w0 = (.long i0) := Option.some.inj ei0
  obtain ⟨i1, ei1⟩ := is_v gw4
  obtain rfl : w1 = (.int i1) := Option.some.inj ei1
  obtain ⟨n0, k0⟩ := and_e hn
  obtain ⟨n1, k1⟩ := and_e k0
  obtain ⟨n2, k2⟩ := and_e k1
  obtain ⟨n3, k3⟩ := and_e k2
  obtain ⟨n4, k4⟩ := and_e k3
  obtain ⟨n5, k5⟩ := and_e k4
  obtain ⟨n6, k6⟩ := and_e k5
  obtain ⟨n7, k7⟩ := and_e k6
  obtain ⟨n8, k8⟩ := and_e k7
  obtain ⟨n9, k9⟩ := and_e k8
  obtain ⟨n10, k10⟩ := and_e k9
  obtain ⟨n11, k11⟩ := and_e k10
  obtain ⟨va, eva⟩ := arr_v n0
  obtain ⟨cl, Acl⟩ := Arr.start eva n0
  have E_V := Exa.start eva n1
  obtain ⟨z0, z9⟩ := own_lenOf eva Acl n2 (by decide)
  have z5 : cl.slots.size = 5 := z0
  have S_V := Sta.start eva (Or.inr ⟨(hw _ (List.mem_of_getElem? (i := 4) rfl)), (hw _ (List.mem_of_getElem? (i := 10) rfl))⟩)
  obtain ⟨aD, eaD⟩ := exa_v n3
  have S_aD := Sta.start eaD (Or.inr ⟨(hw _ (List.mem_of_getElem? (i := 4) rfl)), (hw _ (List.mem_of_getElem? (i := 18) rfl))⟩)
  have haD := own_elemAt eva eaD Acl n4 (by decide)
  obtain ⟨aC, eaC⟩ := exa_v n5
  have S_aC := Sta.start eaC (Or.inr ⟨(hw _ (List.mem_of_getElem? (i := 4) rfl)), (hw _ (List.mem_of_getElem? (i := 19) rfl))⟩)
  have haC := own_elemAt eva eaC Acl n6 (by decide)
  obtain ⟨aU, eaU⟩ := exa_v n7
  have S_aU := Sta.start eaU (Or.inr ⟨(hw _ (List.mem_of_getElem? (i := 4) rfl)), (hw _ (List.mem_of_getElem? (i := 20) rfl))⟩)
  have haU := own_elemAt eva eaU Acl n8 (by decide)
  obtain ⟨aI, eaI⟩ := exa_v n9
  have S_aI := Sta.start eaI (Or.inr ⟨(hw _ (List.mem_of_getElem? (i := 4) rfl)), (hw _ (List.mem_of_getElem? (i := 21) rfl))⟩)
  have haI := own_elemAt eva eaI Acl n10 (by decide)
  obtain ⟨aR, eaR⟩ := exa_v n11
  have S_aR := Sta.start eaR (Or.inr ⟨(hw _ (List.mem_of_getElem? (i := 4) rfl)), (hw _ (List.mem_of_getElem? (i := 22) rfl))⟩)
  have haR := own_elemAt eva eaR Acl k11 (by decide)
  have A_V : own_Arf s s.heap va (.object "com/example/garlicwire/garlicwire/i2cp/SessionStatus") 5 (fun i => (.ref ((fun j => if j = 0 then aD else if j = 1 then aC else if j = 2 then aU else if j = 3 then aI else aR) i))) := by
    refine ⟨cl, Acl, z5, by decide, fun j hj => ?_⟩
    have z : j = 0 ∨ j = 1 ∨ j = 2 ∨ j = 3 ∨ j = 4 := by omega
    rcases z with rfl | rfl | rfl | rfl | rfl
    · exact haD
    · exact haC
    · exact haU
    · exact haI
    · exact haR
  obtain ⟨n, o, h1, h2, h3, _, L, rfl, ⟨rfl, N⟩, hq⟩ := rm0 l s _ hw tables_1 i0 i1 va (fun j => if j = 0 then aD else if j = 1 then aC else if j = 2 then aU else if j = 3 then aI else aR) aD aC aU aI aR s.heap s.heap.size (Nat.le_refl _) S_V A_V E_V S_aD S_aC S_aU S_aI S_aR ⟨rfl, rfl, rfl, rfl, rfl⟩ p e ha hc hk s m _ below hf ((Spec.applies_iff_loose hf).mp happ).1 ⟨rfl, State.Warmed39.refl s, rfl⟩ trivial
  refine ⟨n, _, h1, h2, h3, hpost _ _ _ _ _ _ ⟨Cond.after_iff.mpr rfl, Cond.after_iff.mpr (eq_i res_at (Term.int_eval (1)) rfl), trivial⟩ ⟨hq.1, hq.2.1, (hq.2.2.sift fun y hy => Or.inr (N y hy)).mono (by decide) (by decide)⟩⟩
theorem main_1_1 : Claimed_1_1 := comes_1 fun _ _ _ _ _ _ h hF => ⟨h.1, hF⟩
theorem main_1_2 : Claimed_1_2 := comes_1 fun _ _ _ _ _ _ h hF => ⟨h.2.1, hF⟩
end Jvm.Pilot.@@N@@
namespace Jvm.Pilot.@@N@@
open Jvm Jvm.ClassFile Sem Op Lib Jvm.Free Jvm.Stand Jvm.Pilot.@@N@@.Jvm.D
/-! MADE BY PROGRAM (witnessworld.py) out of the Statement's table words and the real class files: 13 classes; the members and pool entries that the words name. The judged class is class 1, her method 2. -/
namespace start1
open Jvm.ClassFile
def u (s : String) : CpInfo := .utf8 (stringToUtf16 s)
/-- a pool by its gaps: so many unusable entries, then the entry; so many at the end -/
def gap : Nat → List CpInfo → List CpInfo
  | 0, r => r
  | n + 1, r => .unusable :: gap n r
def poolList (es : List (Nat × CpInfo)) (last : Nat) : List CpInfo := es.foldr (fun e r => gap e.1 (e.2 :: r)) (gap last [])
def pool (es : List (Nat × CpInfo)) (last : Nat) : Array CpInfo := ⟨poolList es last⟩
def fileOf (pool : Array CpInfo) (this : Nat) (attrs : Array Attribute := #[]) (ms : Array MethodInfo := #[]) (fl : Nat := 33) (sup : Nat := 0) (ifs : Array Nat := #[]) (fds : Array FieldInfo := #[]) : ClassFile where
  minorVersion := 0
  majorVersion := 65
  constantPool := pool
  accessFlags := fl
  thisClass := this
  superClass := sup
  interfaces := ifs
  fields := fds
  methods := ms
  attributes := attrs
def plain (name : String) (sup : Option ClassId) : Class where
  name := name
  kind := .ordinary
  loader := none
  accessFlags := 33
  super := sup
  interfaces := #[]
  cf := none
  fields := #[]
  methods := #[]
  instanceTypes := #[]
  staticTypes := #[]
  resolved := #[]
  callSites := []
  init := .initialized
  statics := none
  mirror := none

def pool0 : Array CpInfo := pool [(5, u "<init>"), (0, u "()V"), (1, .class_ 10), (1, u "java/lang/Object"), (85, u "clone"), (0, u "()Ljava/lang/Object;")] 26

def k0m0 : Method := { name := "<init>", desc := "()V", sig := { parameters := [], returnType := none }, accessFlags := 1, code := none }
def k0m1 : Method := { name := "clone", desc := "()Ljava/lang/Object;", sig := { parameters := [], returnType := some (.object "java/lang/Object") }, accessFlags := 260, code := none }
/-- java/lang/Object -/
def k0 : Class := { plain "java/lang/Object" none with
  accessFlags := 33
  interfaces := #[]
  cf := some (fileOf pool0 8 #[] #[{ accessFlags := 1, nameIndex := 5, descriptorIndex := 6, attributes := #[] }, { accessFlags := 260, nameIndex := 96, descriptorIndex := 97, attributes := #[] }] 33 0 #[] #[])
  fields := #[]
  methods := #[k0m0, k0m1]
  instanceTypes := #[]
  staticTypes := #[]
  resolved := Array.replicate 124 none
  statics := none }

def pool1 : Array CpInfo := pool [(2, .class_ 4), (1, u "java/lang/Object"), (0, u "<init>"), (0, u "()V"), (0, .fieldref 8 9), (0, .class_ 10), (0, .nameAndType 11 12), (0, u "com/example/garlicwire/garlicwire/i2cp/SessionStatus"), (0, u "DESTROYED"), (0, u "Lcom/example/garlicwire/garlicwire/i2cp/SessionStatus;"), (0, .fieldref 8 14), (0, .nameAndType 15 12), (0, u "CREATED"), (0, .long 2), (1, .fieldref 8 19), (0, .nameAndType 20 12), (0, u "UPDATED"), (0, .long 3), (1, .fieldref 8 24), (0, .nameAndType 25 12), (0, u "INVALID"), (0, .long 4), (1, .fieldref 8 29), (0, .nameAndType 30 12), (0, u "REFUSED"), (0, .long 7), (1, .long 4294967296), (3, .long 9223372036854775808), (1, .long 9223372036854775807), (1, .methodref 8 42), (0, .nameAndType 43 44), (0, u "ofCode"), (0, u "(J)Lcom/example/garlicwire/garlicwire/i2cp/SessionStatus;"), (0, .methodref 46 47), (0, .class_ 48), (0, .nameAndType 49 44), (0, u "com/example/garlicwire/garlicwire/i2cp/SessionStatusOfCodePinLaw"), (0, u "expected"), (3, u "law"), (0, u "(JI)Z")] 2

def k1m0 : Method := { name := "<init>", desc := "()V", sig := { parameters := [], returnType := none }, accessFlags := 2, code := none }
def k1c1 : Code := { maxStack := 4, maxLocals := 2, code := method_2_code, exceptionTable := #[], attributes := #[] }
def k1m1 : Method := { name := "expected", desc := "(J)Lcom/example/garlicwire/garlicwire/i2cp/SessionStatus;", sig := { parameters := [.long], returnType := some (.object "com/example/garlicwire/garlicwire/i2cp/SessionStatus") }, accessFlags := 10, code := some k1c1 }
def k1c2 : Code := { maxStack := 6, maxLocals := 9, code := code, exceptionTable := #[], attributes := #[] }
def k1m2 : Method := { name := "law", desc := "(JI)Z", sig := { parameters := [.long, .int], returnType := some .boolean }, accessFlags := 9, code := some k1c2 }
/-- com/example/garlicwire/garlicwire/i2cp/SessionStatusOfCodePinLaw -/
def k1 : Class := { plain "com/example/garlicwire/garlicwire/i2cp/SessionStatusOfCodePinLaw" (some 0) with
  accessFlags := 49
  interfaces := #[]
  cf := some (fileOf pool1 46 #[] #[{ accessFlags := 2, nameIndex := 5, descriptorIndex := 6, attributes := #[] }, { accessFlags := 10, nameIndex := 49, descriptorIndex := 44, attributes := #[] }, { accessFlags := 9, nameIndex := 53, descriptorIndex := 54, attributes := #[] }] 49 2 #[] #[])
  fields := #[]
  methods := #[k1m0, k1m1, k1m2]
  instanceTypes := #[]
  staticTypes := #[]
  resolved := Array.replicate 57 none
  statics := none }

def pool2 : Array CpInfo := pool [(1, .class_ 2), (0, u "java/lang/constant/Constable"), (0, .class_ 4), (0, u "java/lang/Object")] 6

/-- java/lang/constant/Constable -/
def k2 : Class := { plain "java/lang/constant/Constable" (some 0) with
  accessFlags := 1537
  interfaces := #[]
  cf := some (fileOf pool2 1 #[] #[] 1537 3 #[] #[])
  fields := #[]
  methods := #[]
  instanceTypes := #[]
  staticTypes := #[]
  resolved := Array.replicate 11 none
  statics := none }

def pool3 : Array CpInfo := pool [(1, .class_ 2), (0, u "java/lang/Comparable"), (0, .class_ 4), (0, u "java/lang/Object")] 7

/-- java/lang/Comparable -/
def k3 : Class := { plain "java/lang/Comparable" (some 0) with
  accessFlags := 1537
  interfaces := #[]
  cf := some (fileOf pool3 1 #[] #[] 1537 3 #[] #[])
  fields := #[]
  methods := #[]
  instanceTypes := #[]
  staticTypes := #[]
  resolved := Array.replicate 12 none
  statics := none }

def pool4 : Array CpInfo := pool [(1, .class_ 2), (0, u "java/io/Serializable"), (0, .class_ 4), (0, u "java/lang/Object")] 2

/-- java/io/Serializable -/
def k4 : Class := { plain "java/io/Serializable" (some 0) with
  accessFlags := 1537
  interfaces := #[]
  cf := some (fileOf pool4 1 #[] #[] 1537 3 #[] #[])
  fields := #[]
  methods := #[]
  instanceTypes := #[]
  staticTypes := #[]
  resolved := Array.replicate 7 none
  statics := none }

def pool5 : Array CpInfo := pool [(2, .class_ 4), (1, u "java/lang/Enum"), (0, u "name"), (0, u "Ljava/lang/String;"), (2, u "ordinal"), (0, u "I"), (1, .class_ 14), (1, u "java/lang/Object"), (4, u "hash"), (86, .class_ 108), (1, u "java/lang/Enum$EnumDesc"), (2, .class_ 112), (0, u "java/lang/constant/Constable"), (0, .class_ 114), (0, u "java/lang/Comparable"), (0, .class_ 116), (0, u "java/io/Serializable")] 87

/-- java/lang/Enum -/
def k5 : Class := { plain "java/lang/Enum" (some 0) with
  accessFlags := 1057
  interfaces := #[2, 3, 4]
  cf := some (fileOf pool5 2 #[.nestMembers #[106]] #[] 1057 12 #[111, 113, 115] #[{ accessFlags := 18, nameIndex := 5, descriptorIndex := 6, attributes := #[] }, { accessFlags := 18, nameIndex := 9, descriptorIndex := 10, attributes := #[] }, { accessFlags := 2, nameIndex := 19, descriptorIndex := 10, attributes := #[] }])
  fields := #[{ name := "name", type := (.object "java/lang/String"), accessFlags := 18, slot := 0, constantValue := 0 }, { name := "ordinal", type := .int, accessFlags := 18, slot := 1, constantValue := 0 }, { name := "hash", type := .int, accessFlags := 2, slot := 2, constantValue := 0 }]
  methods := #[]
  instanceTypes := #[(.object "java/lang/String"), .int, .int]
  staticTypes := #[]
  resolved := Array.replicate 204 none
  statics := none }

def pool6 : Array CpInfo := pool [(1, .class_ 2), (0, u "com/example/garlicwire/garlicwire/i2cp/SessionStatus"), (2, u "DESTROYED"), (0, u "Lcom/example/garlicwire/garlicwire/i2cp/SessionStatus;"), (2, u "CREATED"), (2, u "UPDATED"), (0, .fieldref 1 14), (0, .nameAndType 15 6), (0, u "INVALID"), (2, u "REFUSED"), (0, .fieldref 1 20), (0, .nameAndType 21 22), (0, u "$VALUES"), (0, u "[Lcom/example/garlicwire/garlicwire/i2cp/SessionStatus;"), (0, .methodref 24 25), (0, .class_ 22), (0, .nameAndType 26 27), (0, u "clone"), (0, u "()Ljava/lang/Object;"), (1, .class_ 31), (1, u "java/lang/Enum"), (6, .methodref 1 39), (0, .nameAndType 40 41), (0, u "values"), (0, u "()[Lcom/example/garlicwire/garlicwire/i2cp/SessionStatus;"), (15, u "ofCode"), (0, u "(J)Lcom/example/garlicwire/garlicwire/i2cp/SessionStatus;")] 5

def k6c0 : Code := { maxStack := 1, maxLocals := 0, code := prog_48_method_1_code, exceptionTable := #[], attributes := #[] }
def k6m0 : Method := { name := "values", desc := "()[Lcom/example/garlicwire/garlicwire/i2cp/SessionStatus;", sig := { parameters := [], returnType := some (.array (.object "com/example/garlicwire/garlicwire/i2cp/SessionStatus")) }, accessFlags := 9, code := some k6c0 }
def k6c1 : Code := { maxStack := 4, maxLocals := 2, code := prog_48_method_4_code, exceptionTable := #[], attributes := #[] }
def k6m1 : Method := { name := "ofCode", desc := "(J)Lcom/example/garlicwire/garlicwire/i2cp/SessionStatus;", sig := { parameters := [.long], returnType := some (.object "com/example/garlicwire/garlicwire/i2cp/SessionStatus") }, accessFlags := 9, code := some k6c1 }
/-- com/example/garlicwire/garlicwire/i2cp/SessionStatus -/
def k6 : Class := { plain "com/example/garlicwire/garlicwire/i2cp/SessionStatus" (some 5) with
  accessFlags := 16433
  interfaces := #[]
  cf := some (fileOf pool6 1 #[] #[{ accessFlags := 9, nameIndex := 40, descriptorIndex := 41, attributes := #[] }, { accessFlags := 9, nameIndex := 57, descriptorIndex := 58, attributes := #[] }] 16433 29 #[] #[{ accessFlags := 16409, nameIndex := 5, descriptorIndex := 6, attributes := #[] }, { accessFlags := 16409, nameIndex := 9, descriptorIndex := 6, attributes := #[] }, { accessFlags := 16409, nameIndex := 12, descriptorIndex := 6, attributes := #[] }, { accessFlags := 16409, nameIndex := 15, descriptorIndex := 6, attributes := #[] }, { accessFlags := 16409, nameIndex := 18, descriptorIndex := 6, attributes := #[] }, { accessFlags := 4122, nameIndex := 21, descriptorIndex := 22, attributes := #[] }])
  fields := #[{ name := "DESTROYED", type := (.object "com/example/garlicwire/garlicwire/i2cp/SessionStatus"), accessFlags := 16409, slot := 0, constantValue := 0 }, { name := "CREATED", type := (.object "com/example/garlicwire/garlicwire/i2cp/SessionStatus"), accessFlags := 16409, slot := 1, constantValue := 0 }, { name := "UPDATED", type := (.object "com/example/garlicwire/garlicwire/i2cp/SessionStatus"), accessFlags := 16409, slot := 2, constantValue := 0 }, { name := "INVALID", type := (.object "com/example/garlicwire/garlicwire/i2cp/SessionStatus"), accessFlags := 16409, slot := 3, constantValue := 0 }, { name := "REFUSED", type := (.object "com/example/garlicwire/garlicwire/i2cp/SessionStatus"), accessFlags := 16409, slot := 4, constantValue := 0 }, { name := "$VALUES", type := (.array (.object "com/example/garlicwire/garlicwire/i2cp/SessionStatus")), accessFlags := 4122, slot := 5, constantValue := 0 }]
  methods := #[k6m0, k6m1]
  instanceTypes := #[(.object "java/lang/String"), .int, .int]
  staticTypes := #[(.object "com/example/garlicwire/garlicwire/i2cp/SessionStatus"), (.object "com/example/garlicwire/garlicwire/i2cp/SessionStatus"), (.object "com/example/garlicwire/garlicwire/i2cp/SessionStatus"), (.object "com/example/garlicwire/garlicwire/i2cp/SessionStatus"), (.object "com/example/garlicwire/garlicwire/i2cp/SessionStatus"), (.array (.object "com/example/garlicwire/garlicwire/i2cp/SessionStatus"))]
  resolved := Array.replicate 64 none
  statics := some 0 }

def pool7 : Array CpInfo := pool [(1, .class_ 2), (0, u "java/lang/Cloneable"), (0, .class_ 4), (0, u "java/lang/Object")] 2

/-- java/lang/Cloneable -/
def k7 : Class := { plain "java/lang/Cloneable" (some 0) with
  accessFlags := 1537
  interfaces := #[]
  cf := some (fileOf pool7 1 #[] #[] 1537 3 #[] #[])
  fields := #[]
  methods := #[]
  instanceTypes := #[]
  staticTypes := #[]
  resolved := Array.replicate 7 none
  statics := none }

/-- the primitive byte -/
def k8 : Class := { plain "byte" none with kind := .primitive 'B', accessFlags := 0x411 }
/-- [B -/
def k9 : Class := { plain "[B" (some 0) with kind := .array 8 .byte, interfaces := #[7, 4], accessFlags := 1041 }

/-- the primitive int -/
def k10 : Class := { plain "int" none with kind := .primitive 'I', accessFlags := 0x411 }
/-- [I -/
def k11 : Class := { plain "[I" (some 0) with kind := .array 10 .int, interfaces := #[7, 4], accessFlags := 1041 }

/-- [Lcom/example/garlicwire/garlicwire/i2cp/SessionStatus; -/
def k12 : Class := { plain "[Lcom/example/garlicwire/garlicwire/i2cp/SessionStatus;" (some 0) with kind := .array 6 (.object "com/example/garlicwire/garlicwire/i2cp/SessionStatus"), interfaces := #[7, 4], accessFlags := 1041 }

def heap : Heap := #[{ cls := 6, slots := #[.ref 2, .ref 3, .ref 4, .ref 5, .ref 6, .ref 1], vm := .statics 6 },
  { cls := 12, slots := #[.ref 2, .ref 3, .ref 4, .ref 5, .ref 6], vm := .none },
  { cls := 6, slots := #[.null, .int 0, .int 0], vm := .none },
  { cls := 6, slots := #[.null, .int 1, .int 0], vm := .none },
  { cls := 6, slots := #[.null, .int 2, .int 0], vm := .none },
  { cls := 6, slots := #[.null, .int 3, .int 0], vm := .none },
  { cls := 6, slots := #[.null, .int 4, .int 0], vm := .none }]
def classes : Array Class := #[k0, k1, k2, k3, k4, k5, k6, k7, k8, k9, k10, k11, k12]
def interned : List (Array UInt16 × Addr) := []
def slotsUsed : Nat := 26
def theMethod : MethodId := ⟨1, 2⟩
def args0 : Array Value := #[.long 5, .int 3]
def aboutOver (below : List Frame) : State where
  vm := { classes := classes, interned := interned.toArray }
  heap := heap
  slotsUsed := slotsUsed
  threads := #[{ frames := .invoking theMethod args0 :: below }]
def below0 : List Frame := [.native { method := ⟨0, 0⟩, args := #[] }]
def about1 : State := aboutOver below0
def p0 : Program := .bare "" "" ""
def e0 : Env := launch0.env 0 0 0
theorem w_frames : about1.frames = Frame.invoking theMethod args0 :: below0 := rfl
set_option maxRecDepth 65536 in
theorem w_args : argsFit about1.vm theMethod args0 = true := by decide +kernel
set_option maxRecDepth 65536 in
theorem w_heap : heapFits about1 = true := by decide +kernel
set_option maxRecDepth 65536 in
theorem w_runnable : about1.curStatus? = some .runnable := by decide +kernel
set_option maxRecDepth 65536 in
theorem w_alone : about1.alone = true := by decide +kernel
set_option maxRecDepth 65536 in
theorem w_named : about1.methodNamed? x = some theMethod := by decide +kernel
set_option maxRecDepth 65536 in
theorem w_hears : about1.hears theMethod below0 = true := by decide +kernel
set_option maxRecDepth 65536 in
theorem w_ripe : about1.ripe theMethod args0 below0 = true := by decide +kernel
theorem w_running : about1.status = .running := rfl
set_option maxRecDepth 65536 in
theorem w_room : about1.hasRoom e0.platform room_1 = true :=
  launch0.hasRoom_least _ room_1 (by decide +kernel) (by decide +kernel) (by decide +kernel) (by decide +kernel) (by decide +kernel) (by decide +kernel)
theorem allAtoms_all (ts : List Jvm.Cond) (a : Array Jvm.Value) (st : Jvm.State) : (allAtoms ts).before a st = ts.all (fun c => c.before a st) := by
  induction ts with
  | nil => rfl
  | cons c t ih =>
    show (Jvm.Cond.and c (allAtoms t)).before a st = _
    rw [Jvm.Cond.before_and, ih, List.all_cons]
def words1 : List Jvm.Cond := Jvm.Cond.code x code maxLocals ret :: tables_1
/-- a 'code' word, met by the world's own term for the bytes: nothing is compared byte by byte -/
theorem code_word {y : MethodName} {bytes : ByteArray} {mx : Nat} {rt : Option FieldType} {a : Array Value} {s : State} {m : MethodId} {meth : Method} {c : Code} (h1 : s.methodNamed? y = some m) (h2 : s.vm.method? m = some meth) (h3 : meth.code = some c) (h4 : c.code = bytes)
    (h5 : (c.maxLocals == mx && c.exceptionTable.isEmpty && decide (c.maxStack ≤ mostOperands) && decide (meth.sig.returnType = rt) && !meth.locks && decide (parseMethodDescriptor y.desc = some meth.sig)) = true) : (Jvm.Cond.code y bytes mx rt).before a s = true := by
  simp only [Bool.and_eq_true, beq_iff_eq, Bool.not_eq_true', decide_eq_true_eq] at h5
  obtain ⟨⟨⟨⟨⟨g1, g2⟩, g3⟩, g4⟩, g5⟩, g6⟩ := h5
  simp [Cond.before, Cond.holds, Cond.value, h1, h2, h3, h4, g1, g2, g3, g4, g5, g6]
def isCode : Jvm.Cond → Bool
  | .code _ _ _ _ => true
  | _ => false
theorem all_split {L : List Jvm.Cond} {P : Jvm.Cond → Bool} (h1 : L.all (fun c => isCode c || P c) = true) (h2 : ∀ c ∈ L.filter isCode, P c = true) : L.all P = true := by
  refine List.all_eq_true.mpr fun c hc => ?_
  have h := List.all_eq_true.mp h1 c hc
  rcases Bool.eq_false_or_eq_true (isCode c) with hi | hi
  · exact h2 c (List.mem_filter.mpr ⟨hc, hi⟩)
  · simpa [hi] using h
set_option maxRecDepth 65536 in
theorem w_c0 : (Jvm.Cond.code x code maxLocals ret).before args0 about1 = true := code_word (m := ⟨1, 2⟩) (meth := k1m2) (c := k1c2) (by decide +kernel) rfl rfl rfl (by decide +kernel)
set_option maxRecDepth 65536 in
theorem w_c1 : (Jvm.Cond.code ({ cls := "com/example/garlicwire/garlicwire/i2cp/SessionStatus", name := "ofCode", desc := "(J)Lcom/example/garlicwire/garlicwire/i2cp/SessionStatus;" } : Jvm.MethodName) prog_48_method_4_code (2 : Nat) (Option.some (Jvm.ClassFile.FieldType.object "com/example/garlicwire/garlicwire/i2cp/SessionStatus"))).before args0 about1 = true := code_word (m := ⟨6, 1⟩) (meth := k6m1) (c := k6c1) (by decide +kernel) rfl rfl rfl (by decide +kernel)
set_option maxRecDepth 65536 in
theorem w_c2 : (Jvm.Cond.code ({ cls := "com/example/garlicwire/garlicwire/i2cp/SessionStatus", name := "values", desc := "()[Lcom/example/garlicwire/garlicwire/i2cp/SessionStatus;" } : Jvm.MethodName) prog_48_method_1_code (0 : Nat) (Option.some (Jvm.ClassFile.FieldType.array (Jvm.ClassFile.FieldType.object "com/example/garlicwire/garlicwire/i2cp/SessionStatus")))).before args0 about1 = true := code_word (m := ⟨6, 0⟩) (meth := k6m0) (c := k6c0) (by decide +kernel) rfl rfl rfl (by decide +kernel)
set_option maxRecDepth 65536 in
theorem w_c3 : (Jvm.Cond.code ({ cls := "com/example/garlicwire/garlicwire/i2cp/SessionStatusOfCodePinLaw", name := "expected", desc := "(J)Lcom/example/garlicwire/garlicwire/i2cp/SessionStatus;" } : Jvm.MethodName) method_2_code (2 : Nat) (Option.some (Jvm.ClassFile.FieldType.object "com/example/garlicwire/garlicwire/i2cp/SessionStatus"))).before args0 about1 = true := code_word (m := ⟨1, 1⟩) (meth := k1m1) (c := k1c1) (by decide +kernel) rfl rfl rfl (by decide +kernel)
def codes1 : List Jvm.Cond := [Jvm.Cond.code x code maxLocals ret, Jvm.Cond.code ({ cls := "com/example/garlicwire/garlicwire/i2cp/SessionStatus", name := "ofCode", desc := "(J)Lcom/example/garlicwire/garlicwire/i2cp/SessionStatus;" } : Jvm.MethodName) prog_48_method_4_code (2 : Nat) (Option.some (Jvm.ClassFile.FieldType.object "com/example/garlicwire/garlicwire/i2cp/SessionStatus")), Jvm.Cond.code ({ cls := "com/example/garlicwire/garlicwire/i2cp/SessionStatus", name := "values", desc := "()[Lcom/example/garlicwire/garlicwire/i2cp/SessionStatus;" } : Jvm.MethodName) prog_48_method_1_code (0 : Nat) (Option.some (Jvm.ClassFile.FieldType.array (Jvm.ClassFile.FieldType.object "com/example/garlicwire/garlicwire/i2cp/SessionStatus"))), Jvm.Cond.code ({ cls := "com/example/garlicwire/garlicwire/i2cp/SessionStatusOfCodePinLaw", name := "expected", desc := "(J)Lcom/example/garlicwire/garlicwire/i2cp/SessionStatus;" } : Jvm.MethodName) method_2_code (2 : Nat) (Option.some (Jvm.ClassFile.FieldType.object "com/example/garlicwire/garlicwire/i2cp/SessionStatus"))]
set_option maxRecDepth 65536 in
theorem codes_eq : words1.filter isCode = codes1 := rfl
theorem w_codes : ∀ c ∈ words1.filter isCode, c.before args0 about1 = true := by
  rw [codes_eq]
  intro c hc
  simp only [codes1, List.mem_cons, List.not_mem_nil, or_false] at hc
  rcases hc with rfl | rfl | rfl | rfl
  · exact w_c0
  · exact w_c1
  · exact w_c2
  · exact w_c3
set_option maxRecDepth 65536 in
theorem w_t1 : (words1.take 24).all (fun c => isCode c || c.before args0 about1) = true := by decide +kernel
set_option maxRecDepth 65536 in
theorem w_t2 : (words1.drop 24).all (fun c => isCode c || c.before args0 about1) = true := by decide +kernel
theorem w_tables : (allAtoms (Jvm.Cond.code x code maxLocals ret :: tables_1)).before args0 about1 = true := by
  rw [allAtoms_all]
  show words1.all (fun c => c.before args0 about1) = true
  refine all_split ?_ w_codes
  rw [← List.take_append_drop 24 words1, List.all_append, w_t1, w_t2]
  rfl
set_option maxRecDepth 65536 in
theorem w_case : (Jvm.Cond.and given_1 narrow_1).before args0 about1 = true := by decide +kernel
theorem w_applies : (headSpec (Jvm.Cond.code x code maxLocals ret :: tables_1) room_1).applies x e0.platform about1 = true :=
  (Spec.applies_iff w_frames).mpr ⟨w_running, w_runnable, w_alone, w_named, w_hears, w_ripe, w_room, w_tables⟩
theorem atStart : AtStart classFile x code maxLocals ret World_1 tables_1 room_1 Calls_1 rest_1 Pre_1 launch0 p0 e0 about1 theMethod args0 below0 :=
  ⟨lists_1, trivial, launch0.admits_env _ _ _, launch0.least_env, fairChoices_fair.cas, fairChoices_fair.clock, w_frames, w_args, w_heap, w_applies, trivial, trivial, w_case⟩
end start1
theorem witness_1 : WitnessClaimed_1 := ⟨start1.p0, start1.e0, start1.about1, start1.theMethod, start1.args0, start1.below0, start1.atStart⟩
end Jvm.Pilot.@@N@@
