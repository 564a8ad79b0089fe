import JvmDerived
import JvmDerived.Pilot.@@N@@Statement
import JvmDerived.Pilot.@@N@@Code
set_option linter.unusedVariables false
set_option linter.unusedSimpArgs false
namespace Jvm.Pilot.@@N@@
open Jvm Jvm.ClassFile Sem Op Lib Jvm.Free Jvm.Stand Jvm.LawKit Jvm.RoadKit Bundle Jvm.Pilot.@@N@@.Jvm.D
-- OWN KIT (mine): reach, finish, weakening of the counters, arrays by a function, arithmetic in omega's form
abbrev own_R (tb : Tables) (e : Env) (below : List Frame) (F0 F : State) : Prop := ∀ t, Steps tb e below F t → Steps tb e below F0 t
abbrev own_G (p : Program) (e : Env) (below : List Frame) (s F0 : State) (Q : Option Value → Heap → List Loc → Prop) (kc ks : Nat) : Prop :=
  ∃ s₂ o, Steps p.tables e below F0 s₂ ∧ s₂.status = .running ∧ Ended s₂ below o ∧ ∃ v L, o = .returned v ∧ Q v s₂.heap L ∧ FrameEnd s o s₂ L kc ks
section OwnKit
variable {p : Program} {l : Launch} {e : Env} {R : Room} {s : State} {m : MethodId} {args : Array Value} {below : List Frame} {meth : Method} {c : Code} {T : State} {locs : List Loc} {cells slots : Nat}
theorem own_fin (X : Stand p l e R s m args below meth c T locs cells slots) (hl : meth.locks = false) {F0 : State} {Q : Option Value → Heap → List Loc → Prop} {kc ks : Nat} (v : Option Value) (hv : meth.sig.returnType = none → v = none) (hq : Q v T.heap locs) (hc : cells ≤ kc) (hs : slots ≤ ks)
    (st : ∀ fs, (∀ (f : JFrame) (acts : List Action), f.method = m → f.locked = none → f.entered = [] → (doReturn e (T.setTop f) acts v).1 = T.setFrames fs) → Steps p.tables e below F0 (T.setFrames fs)) : own_G p e below s F0 Q kc ks := by
  obtain ⟨fs, hr, hrun, hended, hW, hsame⟩ := X.leave hv hl
  exact ⟨_, _, st fs hr, hrun, hended, _, _, rfl, hq, ⟨_, rfl⟩, hW, hsame.mono hc hs⟩
theorem own_mono (X : Stand p l e R s m args below meth c T locs cells slots) {c' s' : Nat} (hc : cells ≤ c') (hs : slots ≤ s') : Stand p l e R s m args below meth c T locs c' s' := { X with same := X.same.mono hc hs }
end OwnKit
theorem own_hv {meth : Method} {t : FieldType} {v : Option Value} (h : meth.sig.returnType = some t) : meth.sig.returnType = none → v = none := fun q => by rw [h] at q; cases q
theorem own_lt32 {a b : Int32} (h : a < b) : a.toInt < b.toInt := Int32.lt_iff_toInt_lt.mp h
theorem own_nlt32 {a b : Int32} (h : ¬ a < b) : b.toInt ≤ a.toInt := Int.not_lt.mp fun q => h (Int32.lt_iff_toInt_lt.mpr q)
theorem own_eq32 {a b : Int32} (h : a = b) : a.toInt = b.toInt := congrArg Int32.toInt h
theorem own_ne32 {a b : Int32} (h : ¬ a = b) : a.toInt ≠ b.toInt := fun q => h (Int32.toInt_inj.mp q)
theorem own_lt64 {a b : Int64} (h : a < b) : a.toInt < b.toInt := Int64.lt_iff_toInt_lt.mp h
theorem own_nlt64 {a b : Int64} (h : ¬ a < b) : b.toInt ≤ a.toInt := Int.not_lt.mp fun q => h (Int64.lt_iff_toInt_lt.mpr q)
theorem own_eq64 {a b : Int64} (h : a = b) : a.toInt = b.toInt := congrArg Int64.toInt h
theorem own_ne64 {a b : Int64} (h : ¬ a = b) : a.toInt ≠ b.toInt := fun q => h (Int64.toInt_inj.mp q)
theorem own_imulc (x y : Int32) (d : Int) (h : y.toInt = d) : ((x * y).toInt - x.toInt * d) % 4294967296 = 0 := by rw [← h]; exact c_imul x y
theorem own_imulc' (x y : Int32) (d : Int) (h : x.toInt = d) : ((x * y).toInt - d * y.toInt) % 4294967296 = 0 := by rw [← h]; exact c_imul x y
theorem own_lmulc (x y : Int64) (d : Int) (h : y.toInt = d) : ((x * y).toInt - x.toInt * d) % 18446744073709551616 = 0 := by rw [← h]; exact c_lmul x y
theorem own_lmulc' (x y : Int64) (d : Int) (h : x.toInt = d) : ((x * y).toInt - d * y.toInt) % 18446744073709551616 = 0 := by rw [← h]; exact c_lmul x y
theorem own_mask (x m : Int32) (k : Nat) (P : Int) (hk : k ≤ 31) (hm : m.toBitVec.toNat = 2 ^ k - 1) (hP : P = ((2 ^ k : Nat) : Int)) : (x &&& m).toInt = x.toInt % P := by rw [hP]; exact c_mask x m k hk hm
theorem own_maskL (x m : Int64) (k : Nat) (P : Int) (hk : k ≤ 63) (hm : m.toBitVec.toNat = 2 ^ k - 1) (hP : P = ((2 ^ k : Nat) : Int)) : (x &&& m).toInt = x.toInt % P := by rw [hP]; exact c_maskL x m k hk hm
theorem own_ishr (x q : Int32) (k : Nat) (P : Int) (hk : q.toBitVec.toNat % 32 = k) (hP : P = ((2 ^ k : Nat) : Int)) : (x >>> (q &&& 31)).toInt = x.toInt / P := by rw [hP]; exact c_ishr x q k hk
theorem own_ishl (x q : Int32) (k : Nat) (P : Int) (hk : q.toBitVec.toNat % 32 = k) (hP : P = ((2 ^ k : Nat) : Int)) : ((x <<< (q &&& 31)).toInt - x.toInt * P) % 4294967296 = 0 := by rw [hP]; exact c_ishl x q k hk
theorem own_iushr (x q : Int32) (k : Nat) (P : Int) (hk : q.toBitVec.toNat % 32 = k) (h0 : 0 < k) (hP : P = ((2 ^ k : Nat) : Int)) : ((x.toUInt32 >>> (q &&& 31).toUInt32).toInt32).toInt = (x.toInt % 4294967296) / P := by rw [hP]; exact c_iushr x q k hk h0
theorem own_lshr (x : Int64) (q : Int32) (k : Nat) (P : Int) (hk : q.toBitVec.toNat % 64 = k) (hP : P = ((2 ^ k : Nat) : Int)) : (x >>> (q &&& 0x3f).toInt64).toInt = x.toInt / P := by rw [hP]; exact c_lshr x q k hk
theorem own_lshl (x : Int64) (q : Int32) (k : Nat) (P : Int) (hk : q.toBitVec.toNat % 64 = k) (hP : P = ((2 ^ k : Nat) : Int)) : ((x <<< (q &&& 0x3f).toInt64).toInt - x.toInt * P) % 18446744073709551616 = 0 := by rw [hP]; exact c_lshl x q k hk
theorem own_lushr (x : Int64) (q : Int32) (k : Nat) (P : Int) (hk : q.toBitVec.toNat % 64 = k) (h0 : 0 < k) (hP : P = ((2 ^ k : Nat) : Int)) : ((x.toUInt64 >>> (q &&& 0x3f).toInt64.toUInt64).toInt64).toInt = (x.toInt % 18446744073709551616) / P := by rw [hP]; exact c_lushr x q k hk h0
theorem own_lc_lt {x y : Int64} {cd : ClassFile.Cond} {b : Bool} (h : if_icmp.holds cd (lcmpW x y) 0 = b) : ifCond.holds cd (lcmpW x y) = b := (if0 _ _).trans h
theorem own_l_lt {x y : Int64} (h : x < y) : ifCond.holds .lt (lcmpW x y) = true ∧ ifCond.holds .ge (lcmpW x y) = false := ⟨(if0 _ _).trans (tlt ((lw_lt x y).mpr h)).1, (if0 _ _).trans (tlt ((lw_lt x y).mpr h)).2.1⟩
theorem own_l_nlt {x y : Int64} (h : ¬ x < y) : ifCond.holds .lt (lcmpW x y) = false ∧ ifCond.holds .ge (lcmpW x y) = true := ⟨(if0 _ _).trans (flt (fun q => h ((lw_lt x y).mp q))).1, (if0 _ _).trans (flt (fun q => h ((lw_lt x y).mp q))).2.1⟩
theorem own_l_gt {x y : Int64} (h : y < x) : ifCond.holds .gt (lcmpW x y) = true ∧ ifCond.holds .le (lcmpW x y) = false := ⟨(if0 _ _).trans (tlt ((lw_gt x y).mpr h)).2.2.1, (if0 _ _).trans (tlt ((lw_gt x y).mpr h)).2.2.2⟩
theorem own_l_ngt {x y : Int64} (h : ¬ y < x) : ifCond.holds .gt (lcmpW x y) = false ∧ ifCond.holds .le (lcmpW x y) = true := ⟨(if0 _ _).trans (flt (fun q => h ((lw_gt x y).mp q))).2.2.1, (if0 _ _).trans (flt (fun q => h ((lw_gt x y).mp q))).2.2.2⟩
theorem own_l_eq {x y : Int64} (h : x = y) : ifCond.holds .eq (lcmpW x y) = true ∧ ifCond.holds .ne (lcmpW x y) = false := ⟨(if0 _ _).trans (teq ((lw_eq x y).mpr h)).1, (if0 _ _).trans (teq ((lw_eq x y).mpr h)).2⟩
theorem own_l_neq {x y : Int64} (h : ¬ x = y) : ifCond.holds .eq (lcmpW x y) = false ∧ ifCond.holds .ne (lcmpW x y) = true := ⟨(if0 _ _).trans (feq (fun q => h ((lw_eq x y).mp q))).1, (if0 _ _).trans (feq (fun q => h ((lw_eq x y).mp q))).2⟩
theorem own_lrem {x y : Int64} {d : Int} (hy : y.toInt = d) : (0 ≤ x.toInt → (x - (x / y) * y).toInt = x.toInt % d) ∧ (x.toInt < 0 → (x - (x / y) * y).toInt = -((-x.toInt) % d)) := c_lrem x y d hy
theorem own_lremf (x y : Int64) (d : Int) (hy : y.toInt = d) : (0 ≤ x.toInt → (x % y).toInt = x.toInt % d) ∧ (x.toInt < 0 → (x % y).toInt = -((-x.toInt) % d)) := by rw [Int64.toInt_mod, hy]; exact tr _ _
theorem own_lremM {p : Program} {l : Launch} {e : Env} {R : Room} {s : State} {m : MethodId} {args : Array Value} {below : List Frame} {meth : Method} {c : Code} {T : State} {locs : List Loc} {cells slots : Nat} {g : JFrame} {target : State} (X : Stand p l e R s m args below meth c T locs cells slots) (hx : p.tables.exec = Jvm.exec) (hg : g.method = m) {x y : Int64} {rest : List Value} (hd : decode c.code g.pc = .ok (.lrem, 1)) (hs : g.stack = .long y :: .long x :: rest) (hy : y ≠ 0)
    (hr : Steps p.tables e below (T.setTop { g with pc := g.pc + 1, stack := .long (x % y) :: rest }) target) : Steps p.tables e below (T.setTop g) target :=
  XS.lrem X.here hx hg hd hs hy (by rw [lrem_mod]; exact hr)
theorem own_R32 (x : Int32) : -2147483648 ≤ x.toInt ∧ x.toInt ≤ 2147483647 := by have := rng32 x; omega
theorem own_R64 (x : Int64) : -9223372036854775808 ≤ x.toInt ∧ x.toInt ≤ 9223372036854775807 := by have := rng64 x; omega
theorem own_iaddR {x y : Int32} {a b c d : Int} (lo hi : Int) (hx : a ≤ x.toInt ∧ x.toInt ≤ b) (hy : c ≤ y.toInt ∧ y.toInt ≤ d) (h1 : -2147483648 ≤ a + c ∧ b + d ≤ 2147483647) (h2 : lo ≤ a + c ∧ b + d ≤ hi) : (x + y).toInt = x.toInt + y.toInt ∧ lo ≤ (x + y).toInt ∧ (x + y).toInt ≤ hi := by have := c_iadd x y; have := rng32 (x + y); omega
theorem own_isubR {x y : Int32} {a b c d : Int} (lo hi : Int) (hx : a ≤ x.toInt ∧ x.toInt ≤ b) (hy : c ≤ y.toInt ∧ y.toInt ≤ d) (h1 : -2147483648 ≤ a - d ∧ b - c ≤ 2147483647) (h2 : lo ≤ a - d ∧ b - c ≤ hi) : (x - y).toInt = x.toInt - y.toInt ∧ lo ≤ (x - y).toInt ∧ (x - y).toInt ≤ hi := by have := c_isub x y; have := rng32 (x - y); omega
theorem own_laddR {x y : Int64} {a b c d : Int} (lo hi : Int) (hx : a ≤ x.toInt ∧ x.toInt ≤ b) (hy : c ≤ y.toInt ∧ y.toInt ≤ d) (h1 : -9223372036854775808 ≤ a + c ∧ b + d ≤ 9223372036854775807) (h2 : lo ≤ a + c ∧ b + d ≤ hi) : (x + y).toInt = x.toInt + y.toInt ∧ lo ≤ (x + y).toInt ∧ (x + y).toInt ≤ hi := by have := c_ladd x y; have := rng64 (x + y); omega
theorem own_lsubR {x y : Int64} {a b c d : Int} (lo hi : Int) (hx : a ≤ x.toInt ∧ x.toInt ≤ b) (hy : c ≤ y.toInt ∧ y.toInt ≤ d) (h1 : -9223372036854775808 ≤ a - d ∧ b - c ≤ 9223372036854775807) (h2 : lo ≤ a - d ∧ b - c ≤ hi) : (x - y).toInt = x.toInt - y.toInt ∧ lo ≤ (x - y).toInt ∧ (x - y).toInt ≤ hi := by have := c_lsub x y; have := rng64 (x - y); omega
theorem own_imulR {x y : Int32} {a b k : Int} (lo hi : Int) (hx : a ≤ x.toInt ∧ x.toInt ≤ b) (hy : y.toInt = k) (hk : 0 ≤ k) (h1 : -2147483648 ≤ a * k ∧ b * k ≤ 2147483647) (h2 : lo ≤ a * k ∧ b * k ≤ hi) : (x * y).toInt = x.toInt * k ∧ lo ≤ (x * y).toInt ∧ (x * y).toInt ≤ hi := by
  have h := c_imul x y; have := rng32 (x * y); rw [hy] at h
  have p1 := Int.mul_le_mul_of_nonneg_right hx.1 hk; have p2 := Int.mul_le_mul_of_nonneg_right hx.2 hk
  generalize x.toInt * k = z at *; generalize a * k = z1 at *; generalize b * k = z2 at *; omega
theorem own_lmulR {x y : Int64} {a b k : Int} (lo hi : Int) (hx : a ≤ x.toInt ∧ x.toInt ≤ b) (hy : y.toInt = k) (hk : 0 ≤ k) (h1 : -9223372036854775808 ≤ a * k ∧ b * k ≤ 9223372036854775807) (h2 : lo ≤ a * k ∧ b * k ≤ hi) : (x * y).toInt = x.toInt * k ∧ lo ≤ (x * y).toInt ∧ (x * y).toInt ≤ hi := by
  have h := c_lmul x y; have := rng64 (x * y); rw [hy] at h
  have p1 := Int.mul_le_mul_of_nonneg_right hx.1 hk; have p2 := Int.mul_le_mul_of_nonneg_right hx.2 hk
  generalize x.toInt * k = z at *; generalize a * k = z1 at *; generalize b * k = z2 at *; omega
theorem own_imulR' {x y : Int32} {a b k : Int} (lo hi : Int) (hx : a ≤ y.toInt ∧ y.toInt ≤ b) (hy : x.toInt = k) (hk : 0 ≤ k) (h1 : -2147483648 ≤ a * k ∧ b * k ≤ 2147483647) (h2 : lo ≤ a * k ∧ b * k ≤ hi) : (x * y).toInt = y.toInt * k ∧ lo ≤ (x * y).toInt ∧ (x * y).toInt ≤ hi := by rw [Int32.mul_comm]; exact own_imulR lo hi hx hy hk h1 h2
theorem own_lmulR' {x y : Int64} {a b k : Int} (lo hi : Int) (hx : a ≤ y.toInt ∧ y.toInt ≤ b) (hy : x.toInt = k) (hk : 0 ≤ k) (h1 : -9223372036854775808 ≤ a * k ∧ b * k ≤ 9223372036854775807) (h2 : lo ≤ a * k ∧ b * k ≤ hi) : (x * y).toInt = y.toInt * k ∧ lo ≤ (x * y).toInt ∧ (x * y).toInt ≤ hi := by rw [Int64.mul_comm]; exact own_lmulR lo hi hx hy hk h1 h2
theorem own_maskR (x m : Int32) (k : Nat) (P : Int) (hk : k ≤ 31) (hm : m.toBitVec.toNat = 2 ^ k - 1) (hP : P = ((2 ^ k : Nat) : Int)) (hi : Int) (h0 : 0 < P) (h : P ≤ hi + 1) : (x &&& m).toInt = x.toInt % P ∧ 0 ≤ (x &&& m).toInt ∧ (x &&& m).toInt ≤ hi := by
  have e := own_mask x m k P hk hm hP; have h1 := Int.emod_nonneg x.toInt (show P ≠ 0 by omega); have h2 := Int.emod_lt_of_pos x.toInt h0; omega
theorem own_maskLR (x m : Int64) (k : Nat) (P : Int) (hk : k ≤ 63) (hm : m.toBitVec.toNat = 2 ^ k - 1) (hP : P = ((2 ^ k : Nat) : Int)) (hi : Int) (h0 : 0 < P) (h : P ≤ hi + 1) : (x &&& m).toInt = x.toInt % P ∧ 0 ≤ (x &&& m).toInt ∧ (x &&& m).toInt ≤ hi := by
  have e := own_maskL x m k P hk hm hP; have h1 := Int.emod_nonneg x.toInt (show P ≠ 0 by omega); have h2 := Int.emod_lt_of_pos x.toInt h0; omega
theorem own_iremR {x y : Int32} {a b d : Int} (hi : Int) (hx : a ≤ x.toInt ∧ x.toInt ≤ b) (hy : y.toInt = d) (ha : 0 ≤ a) (hd : 0 < d) (h : d ≤ hi + 1) : (x % y).toInt = x.toInt % d ∧ 0 ≤ (x % y).toInt ∧ (x % y).toInt ≤ hi := by
  have e := (c_irem x y d hy).1 (by omega); have h1 := Int.emod_nonneg x.toInt (show d ≠ 0 by omega); have h2 := Int.emod_lt_of_pos x.toInt hd; omega
theorem own_lremR {x y : Int64} {a b d : Int} (hi : Int) (hx : a ≤ x.toInt ∧ x.toInt ≤ b) (hy : y.toInt = d) (ha : 0 ≤ a) (hd : 0 < d) (h : d ≤ hi + 1) : (x % y).toInt = x.toInt % d ∧ 0 ≤ (x % y).toInt ∧ (x % y).toInt ≤ hi := by
  have e := (own_lremf x y d hy).1 (by omega); have h1 := Int.emod_nonneg x.toInt (show d ≠ 0 by omega); have h2 := Int.emod_lt_of_pos x.toInt hd; omega
theorem own_idivR {x y : Int32} {a b d : Int} (lo hi : Int) (hx : a ≤ x.toInt ∧ x.toInt ≤ b) (hy : y.toInt = d) (hy1 : y ≠ -1) (ha : 0 ≤ a) (hd : 0 < d) (h : lo ≤ a / d ∧ b / d ≤ hi) : (x / y).toInt = x.toInt / d ∧ lo ≤ (x / y).toInt ∧ (x / y).toInt ≤ hi := by
  have e := (c_idiv x y d hy hy1).1 (by omega); have h1 := Int.ediv_le_ediv hd hx.1; have h2 := Int.ediv_le_ediv hd hx.2; omega
theorem own_ldivR {x y : Int64} {a b d : Int} (lo hi : Int) (hx : a ≤ x.toInt ∧ x.toInt ≤ b) (hy : y.toInt = d) (hy1 : y ≠ -1) (ha : 0 ≤ a) (hd : 0 < d) (h : lo ≤ a / d ∧ b / d ≤ hi) : (x / y).toInt = x.toInt / d ∧ lo ≤ (x / y).toInt ∧ (x / y).toInt ≤ hi := by
  have e := (c_ldiv x y d hy hy1).1 (by omega); have h1 := Int.ediv_le_ediv hd hx.1; have h2 := Int.ediv_le_ediv hd hx.2; omega
theorem own_l2iR {x : Int64} {a b : Int} (hx : a ≤ x.toInt ∧ x.toInt ≤ b) (h1 : -2147483648 ≤ a ∧ b ≤ 2147483647) : x.toInt32.toInt = x.toInt ∧ a ≤ x.toInt32.toInt ∧ x.toInt32.toInt ≤ b := by have := c_l2i x; have := rng32 x.toInt32; omega
theorem own_i2lR {x : Int32} {a b : Int} (hx : a ≤ x.toInt ∧ x.toInt ≤ b) : x.toInt64.toInt = x.toInt ∧ a ≤ x.toInt64.toInt ∧ x.toInt64.toInt ≤ b := by have := c_i2l x; omega
theorem own_eqR32 {x y : Int32} {a b : Int} (h : x = y) (hy : a ≤ y.toInt ∧ y.toInt ≤ b) : x.toInt = y.toInt ∧ a ≤ x.toInt ∧ x.toInt ≤ b := by subst h; exact ⟨rfl, hy⟩
theorem own_eqR64 {x y : Int64} {a b : Int} (h : x = y) (hy : a ≤ y.toInt ∧ y.toInt ≤ b) : x.toInt = y.toInt ∧ a ≤ x.toInt ∧ x.toInt ≤ b := by subst h; exact ⟨rfl, hy⟩
theorem own_lushrR {x : Int64} {a b : Int} (q : Int32) (k : Nat) (P lo hi : Int) (hx : a ≤ x.toInt ∧ x.toInt ≤ b) (ha : 0 ≤ a) (hk : q.toBitVec.toNat % 64 = k) (h0 : 0 < k) (hP : P = ((2 ^ k : Nat) : Int)) (hPp : 0 < P) (h : lo ≤ a / P ∧ b / P ≤ hi) : ((x.toUInt64 >>> (q &&& 0x3f).toInt64.toUInt64).toInt64).toInt = x.toInt / P ∧ lo ≤ ((x.toUInt64 >>> (q &&& 0x3f).toInt64.toUInt64).toInt64).toInt ∧ ((x.toUInt64 >>> (q &&& 0x3f).toInt64.toUInt64).toInt64).toInt ≤ hi := by
  have e := own_lushr x q k P hk h0 hP; have := rng64 x; rw [Int.emod_eq_of_lt (by omega) (by omega)] at e; have h1 := Int.ediv_le_ediv hPp hx.1; have h2 := Int.ediv_le_ediv hPp hx.2; omega
theorem own_iushrR {x : Int32} {a b : Int} (q : Int32) (k : Nat) (P lo hi : Int) (hx : a ≤ x.toInt ∧ x.toInt ≤ b) (ha : 0 ≤ a) (hk : q.toBitVec.toNat % 32 = k) (h0 : 0 < k) (hP : P = ((2 ^ k : Nat) : Int)) (hPp : 0 < P) (h : lo ≤ a / P ∧ b / P ≤ hi) : ((x.toUInt32 >>> (q &&& 31).toUInt32).toInt32).toInt = x.toInt / P ∧ lo ≤ ((x.toUInt32 >>> (q &&& 31).toUInt32).toInt32).toInt ∧ ((x.toUInt32 >>> (q &&& 31).toUInt32).toInt32).toInt ≤ hi := by
  have e := own_iushr x q k P hk h0 hP; have := rng32 x; rw [Int.emod_eq_of_lt (by omega) (by omega)] at e; have h1 := Int.ediv_le_ediv hPp hx.1; have h2 := Int.ediv_le_ediv hPp hx.2; omega
theorem own_iremVR {x y : Int32} {a b c d : Int} (hi : Int) (hx : a ≤ x.toInt ∧ x.toInt ≤ b) (hy : c ≤ y.toInt ∧ y.toInt ≤ d) (ha : 0 ≤ a) (hc : 0 < c) (h : d ≤ hi + 1) : ((x % y).toInt < y.toInt ∧ (x % y).toInt ≤ x.toInt) ∧ 0 ≤ (x % y).toInt ∧ (x % y).toInt ≤ hi := by
  have q := (c_iremV x y).1 (by omega) (by omega); omega
-- OWN KIT 1 (mine): an array by a function of its places
def own_Arf (Z : State) (h : Heap) (a : Addr) (ty : FieldType) (n : Nat) (f : Nat → Value) : Prop := ∃ c : Cell, Arr Z h a c ty ∧ c.slots.size = n ∧ n < 2 ^ 31 ∧ ∀ j, j < n → c.slots[j]? = some (f j)
section OwnArf
variable {Z : State} {h h' : Heap} {a b : Addr} {ty : FieldType} {n : Nat} {f f' : Nat → Value} {sl : Nat} {v : Value} {ws : List Addr}
theorem own_Arf.lt (F : own_Arf Z h a ty n f) : a < h.size := by obtain ⟨c, A, -⟩ := F; exact A.lt
theorem own_Arf.ext (F : own_Arf Z h a ty n f) (E : Ext h h') : own_Arf Z h' a ty n f := by obtain ⟨c, A, r⟩ := F; exact ⟨c, A.ext E, r⟩
theorem own_Arf.other (F : own_Arf Z h b ty n f) (W : Wr h h' a sl v) (q : b ≠ a) : own_Arf Z h' b ty n f := by obtain ⟨c, A, r⟩ := F; exact ⟨c, A.other W q, r⟩
theorem own_Arf.keep (F : own_Arf Z h a ty n f) (K : Keep h h' ws) (q : a ∉ ws) : own_Arf Z h' a ty n f := by obtain ⟨c, A, r⟩ := F; exact ⟨c, ⟨K.2.1 a c A.1 q, A.2⟩, r⟩
theorem own_Arf.cong (F : own_Arf Z h a ty n f) (q : ∀ j, j < n → f j = f' j) : own_Arf Z h a ty n f' := by obtain ⟨c, A, r1, r2, r3⟩ := F; exact ⟨c, A, r1, r2, fun j hj => (q j hj) ▸ r3 j hj⟩
theorem own_Arf.new {k : ClassId} {z : Int32} (A : Arr Z h a (newA k ty z) ty) (q : ¬ z < 0) : own_Arf Z h a ty z.toNatClampNeg (fun _ => defaultValue ty) :=
  ⟨_, A, sz_new _ _ _, (back32 q).2, fun j hj => by simp [newA, hj]⟩
theorem own_inb {j : Int32} {n : Nat} (h1 : 0 ≤ j.toInt) (h2 : j.toInt < n) : ¬ (j < 0 ∨ n ≤ j.toNatClampNeg) := by
  have q : j.toNatClampNeg = j.toInt.toNat := rfl
  rintro (p | p)
  · have := Int32.lt_iff_toInt_lt.mp p; rw [show (0 : Int32).toInt = 0 from rfl] at this; omega
  · rw [q] at p; omega
theorem own_set {c : Cell} {k : Nat} (A : Arr Z h a c ty) (S : c.slots.size = n) (hn : n < 2 ^ 31) (H : ∀ j, j < n → c.slots[j]? = some (f j)) (W : Wr h h' a k v) (hk : k < n) : own_Arf Z h' a ty n (fun i => if i = k then v else f i) := by
  refine ⟨_, A.same W, by rw [sz_set]; exact S, hn, fun j hj => ?_⟩
  by_cases q : j = k
  · subst q; simp [Cell.setSlot, S, hj]
  · show _ = some (if j = k then v else f j)
    rw [if_neg q, ← H j hj]; exact Array.getElem?_setIfInBounds_ne (Ne.symm q)
variable {p : Program} {l : Launch} {e : Env} {R : Room} {s : State} {m : MethodId} {args : Array Value} {below : List Frame} {meth : Method} {c : Code} {T : State} {locs : List Loc} {cells slots : Nat}
theorem own_ld {A : Prop} {j : Int32} (F : own_Arf Z h a ty n f) (h1 : 0 ≤ j.toInt) (h2 : j.toInt < n) (k : ∀ c : Cell, Arr Z h a c ty → ¬ (j < 0 ∨ c.slots.size ≤ j.toNatClampNeg) → c.slots[j.toNatClampNeg]? = some (f j.toNatClampNeg) → A) : A := by
  obtain ⟨c, Ar, S, hn, H⟩ := F
  exact k c Ar (by rw [S]; exact own_inb h1 h2) (H _ (by have q : j.toNatClampNeg = j.toInt.toNat := rfl; omega))
theorem own_iaload (X : Stand p l e R s m args below meth c T locs cells slots) (hx : p.tables.exec = Jvm.exec) (hZ : Z.Warmed39 s.vm) (eT : T.heap = h) {j : Int32} (F : own_Arf Z h a .int n f) (h1 : 0 ≤ j.toInt) (h2 : j.toInt < n) {w : Value} (hv : f j.toNatClampNeg = w) {g : JFrame} (hg : g.method = m) {rest : List Value} (hs : g.stack = .int j :: .ref a :: rest) (hd : decode c.code g.pc = .ok (.iaload, 1)) :
    ∀ target, Steps p.tables e below (T.setTop { g with pc := g.pc + 1, stack := w :: rest }) target → Steps p.tables e below (T.setTop g) target := by
  subst hv
  exact own_ld F h1 h2 fun cl Ar hin hat => X.iaload hx (j := j) (by rw [eT]; exact Ar.1) (State.isArrayOf_alike hZ.alike Ar.2.1) Ar.2.2 hin hat hg hs hd
theorem own_baloadB (X : Stand p l e R s m args below meth c T locs cells slots) (hx : p.tables.exec = Jvm.exec) (hZ : Z.Warmed39 s.vm) (eT : T.heap = h) {j : Int32} (F : own_Arf Z h a .byte n f) (h1 : 0 ≤ j.toInt) (h2 : j.toInt < n) {w : Value} (hv : f j.toNatClampNeg = w) {g : JFrame} (hg : g.method = m) {rest : List Value} (hs : g.stack = .int j :: .ref a :: rest) (hd : decode c.code g.pc = .ok (.baload, 1)) :
    ∀ target, Steps p.tables e below (T.setTop { g with pc := g.pc + 1, stack := w :: rest }) target → Steps p.tables e below (T.setTop g) target := by
  subst hv
  exact own_ld F h1 h2 fun cl Ar hin hat => X.baloadBytes hx (j := j) (by rw [eT]; exact Ar.1) (State.isArrayOf_alike hZ.alike Ar.2.1) Ar.2.2 hin hat hg hs hd
theorem own_baloadZ (X : Stand p l e R s m args below meth c T locs cells slots) (hx : p.tables.exec = Jvm.exec) (hZ : Z.Warmed39 s.vm) (eT : T.heap = h) {j : Int32} (F : own_Arf Z h a .boolean n f) (h1 : 0 ≤ j.toInt) (h2 : j.toInt < n) {w : Value} (hv : f j.toNatClampNeg = w) {g : JFrame} (hg : g.method = m) {rest : List Value} (hs : g.stack = .int j :: .ref a :: rest) (hd : decode c.code g.pc = .ok (.baload, 1)) :
    ∀ target, Steps p.tables e below (T.setTop { g with pc := g.pc + 1, stack := w :: rest }) target → Steps p.tables e below (T.setTop g) target := by
  subst hv
  exact own_ld F h1 h2 fun cl Ar hin hat => X.baloadBooleans hx (j := j) (by rw [eT]; exact Ar.1) (State.isArrayOf_alike hZ.alike Ar.2.1) Ar.2.2 hin hat hg hs hd
theorem own_len32 {c : Cell} {n : Nat} (S : c.slots.size = n) {z : Int32} (hz : z = Int32.ofNat n) : c.slots.size.toInt32 = z := by rw [S, hz]
theorem own_alen (X : Stand p l e R s m args below meth c T locs cells slots) (hx : p.tables.exec = Jvm.exec) (hZ : Z.Warmed39 s.vm) (eT : T.heap = h) (F : own_Arf Z h a ty n f) (z : Int32) (hz : z = Int32.ofNat n) {g : JFrame} (hg : g.method = m) {rest : List Value} (hs : g.stack = .ref a :: rest) (hd : decode c.code g.pc = .ok (.arraylength, 1)) :
    ∀ target, Steps p.tables e below (T.setTop { g with pc := g.pc + 1, stack := .int z :: rest }) target → Steps p.tables e below (T.setTop g) target := by
  obtain ⟨cl, Ar, S, hn, H⟩ := F
  intro t k
  refine X.arraylength hx (cell := cl) (by rw [eT]; exact Ar.1) (State.isArrayOf_alike hZ.alike Ar.2.1) hg hs hd t ?_
  rw [own_len32 S hz]; exact k
theorem own_stI (X : Stand p l e R s m args below meth c T locs cells slots) (hx : p.tables.exec = Jvm.exec) (hZ : Z.Warmed39 s.vm) (eT : T.heap = h) {j x : Int32} (F : own_Arf Z h a .int n f) (h1 : 0 ≤ j.toInt) (h2 : j.toInt < n) {g : JFrame} (hg : g.method = m) {rest : List Value} (hs : g.stack = .int x :: .int j :: .ref a :: rest) (hd : decode c.code g.pc = .ok (.iastore, 1)) :
    ∃ T' h', Stand p l e R s m args below meth c T' (locs ++ [⟨a, j.toNatClampNeg⟩]) cells slots ∧ T'.heap = h' ∧ Wr h h' a j.toNatClampNeg (.int x) ∧ own_Arf Z h' a .int n (fun i => if i = j.toNatClampNeg then .int x else f i) ∧ ∀ target, Steps p.tables e below (T'.setTop { g with pc := g.pc + 1, stack := rest }) target → Steps p.tables e below (T.setTop g) target := by
  obtain ⟨cl, Ar, S, hn, H⟩ := F
  have hin : ¬ (j < 0 ∨ cl.slots.size ≤ j.toNatClampNeg) := by rw [S]; exact own_inb h1 h2
  obtain ⟨T', h', X', e', W, st⟩ := stI X hx hZ eT Ar (j := j) hin hg hs hd
  exact ⟨T', h', X', e', W, own_set Ar S hn H W (by have q : j.toNatClampNeg = j.toInt.toNat := rfl; omega), st⟩
theorem own_stB (X : Stand p l e R s m args below meth c T locs cells slots) (hx : p.tables.exec = Jvm.exec) (hZ : Z.Warmed39 s.vm) (eT : T.heap = h) {j x : Int32} (F : own_Arf Z h a .byte n f) (h1 : 0 ≤ j.toInt) (h2 : j.toInt < n) {g : JFrame} (hg : g.method = m) {rest : List Value} (hs : g.stack = .int x :: .int j :: .ref a :: rest) (hd : decode c.code g.pc = .ok (.bastore, 1)) :
    ∃ T' h', Stand p l e R s m args below meth c T' (locs ++ [⟨a, j.toNatClampNeg⟩]) cells slots ∧ T'.heap = h' ∧ Wr h h' a j.toNatClampNeg (.int (nar .byte x)) ∧ own_Arf Z h' a .byte n (fun i => if i = j.toNatClampNeg then .int (nar .byte x) else f i) ∧ ∀ target, Steps p.tables e below (T'.setTop { g with pc := g.pc + 1, stack := rest }) target → Steps p.tables e below (T.setTop g) target := by
  obtain ⟨cl, Ar, S, hn, H⟩ := F
  have hin : ¬ (j < 0 ∨ cl.slots.size ≤ j.toNatClampNeg) := by rw [S]; exact own_inb h1 h2
  obtain ⟨T', h', X', e', W, st⟩ := stB X hx hZ eT Ar (j := j) hin hg hs hd
  exact ⟨T', h', X', e', W, own_set Ar S hn H W (by have q : j.toNatClampNeg = j.toInt.toNat := rfl; omega), st⟩
theorem own_stZ (X : Stand p l e R s m args below meth c T locs cells slots) (hx : p.tables.exec = Jvm.exec) (hZ : Z.Warmed39 s.vm) (eT : T.heap = h) {j x : Int32} (F : own_Arf Z h a .boolean n f) (h1 : 0 ≤ j.toInt) (h2 : j.toInt < n) {g : JFrame} (hg : g.method = m) {rest : List Value} (hs : g.stack = .int x :: .int j :: .ref a :: rest) (hd : decode c.code g.pc = .ok (.bastore, 1)) :
    ∃ T' h', Stand p l e R s m args below meth c T' (locs ++ [⟨a, j.toNatClampNeg⟩]) cells slots ∧ T'.heap = h' ∧ Wr h h' a j.toNatClampNeg (.int (nar .boolean x)) ∧ own_Arf Z h' a .boolean n (fun i => if i = j.toNatClampNeg then .int (nar .boolean x) else f i) ∧ ∀ target, Steps p.tables e below (T'.setTop { g with pc := g.pc + 1, stack := rest }) target → Steps p.tables e below (T.setTop g) target := by
  obtain ⟨cl, Ar, S, hn, H⟩ := F
  have hin : ¬ (j < 0 ∨ cl.slots.size ≤ j.toNatClampNeg) := by rw [S]; exact own_inb h1 h2
  obtain ⟨T', h', X', e', W, st⟩ := stZ X hx hZ eT Ar (j := j) hin hg hs hd
  exact ⟨T', h', X', e', W, own_set Ar S hn H W (by have q : j.toNatClampNeg = j.toInt.toNat := rfl; omega), st⟩
end OwnArf
theorem own_clamp {i : Int32} {k : Nat} (h : i.toInt = k) : i.toNatClampNeg = k := by show i.toInt.toNat = k; omega
theorem own_tabArf {s : State} {a : Addr} {cl : Cell} {ty : FieldType} {n : Nat} (hf : Fit s) (A : Arr s s.heap a cl ty) (ht : ty = .int ∨ ty = .boolean ∨ ty = .byte ∨ ty = .char ∨ ty = .short) (S : cl.slots.size = n) (hn : n < 2 ^ 31) : ∃ g : Nat → Int32, own_Arf s s.heap a ty n (fun i => .int (g i)) := by
  refine ⟨fun i => atv cl (Int32.ofNat i), cl, A, S, hn, fun j hj => ?_⟩
  have e1 : (Int32.ofNat j).toInt = j := Int32.toInt_ofNat_of_lt (by omega)
  have e2 : (Int32.ofNat j).toNatClampNeg = j := by show (Int32.ofNat j).toInt.toNat = j; omega
  have hin : ¬ (Int32.ofNat j < 0 ∨ cl.slots.size ≤ (Int32.ofNat j).toNatClampNeg) := by rw [S]; exact own_inb (by omega) (by omega)
  obtain ⟨v, h1, h2⟩ := elem_fit hf A hin
  obtain ⟨x, rfl⟩ := fit_I h2 ht
  show cl.slots[j]? = some (.int (atv cl (Int32.ofNat j)))
  rw [atv_of h1, ← e2]; exact h1
theorem own_lenOf {args : Array Value} {s : State} {t : Term} {a : Addr} {cl : Cell} {ty : FieldType} {k : Int32} (ev : t.eval args s none [] s = some (.ref a)) (A : Arr s s.heap a cl ty) (h : (Cond.eq (.length t) (.int k)).value args s none s [] = some true) (hk : 0 ≤ k.toInt) : cl.slots.size = k.toInt.toNat ∧ cl.slots.size < 2 ^ 31 := by
  have ha := A.fin (Vm.Alike.refl _)
  by_cases q : cl.slots.size < 2 ^ 31
  · have e1 : (Term.length t).eval args s none [] s = some (.int cl.slots.size.toInt32) := len_f ev ha q
    have e2 : cl.slots.size.toInt32 = k := by
      have hh := h
      simp only [Cond.value] at hh
      rw [e1] at hh
      simpa [Term.eval] using hh
    have e3 := len_toInt q
    rw [e2] at e3
    exact ⟨by omega, q⟩
  · exfalso
    have e1 : (Term.length t).eval args s none [] s = none := by simp [Term.eval, ev, ha, q]
    simp [Cond.value, e1] at h
theorem own_nameI {Z : State} {h : Heap} {a : Addr} {ty : FieldType} {n k : Nat} {g : Nat → Int32} {x : Int32} (V : own_Arf Z h a ty n (fun i => if i = k then .int x else .int (g i))) : ∃ g' : Nat → Int32, (∀ i, g' i = if i = k then x else g i) ∧ own_Arf Z h a ty n (fun i => .int (g' i)) :=
  ⟨fun i => if i = k then x else g i, fun _ => rfl, V.cong (fun i _ => by by_cases q : i = k <;> simp [q])⟩
theorem own_nameD {Z : State} {h : Heap} {a : Addr} {ty : FieldType} {n k : Nat} {g : Nat → UInt64} {x : UInt64} (V : own_Arf Z h a ty n (fun i => if i = k then .double x else .double (g i))) : ∃ g' : Nat → UInt64, (∀ i, g' i = if i = k then x else g i) ∧ own_Arf Z h a ty n (fun i => .double (g' i)) :=
  ⟨fun i => if i = k then x else g i, fun _ => rfl, V.cong (fun i _ => by by_cases q : i = k <;> simp [q])⟩
theorem own_natOf {i : Int32} {lo hi : Int} (h1 : 0 ≤ i.toInt) : ∃ k : Nat, i.toInt = k := ⟨i.toInt.toNat, by omega⟩
theorem own_tn {i : Int32} {k : Nat} (h : i.toInt = k) : i.toBitVec.toNat = k := by
  have h1 : i.toBitVec.toInt = k := h
  have h2 := BitVec.toInt_eq_toNat_cond i.toBitVec
  have h3 := i.toBitVec.isLt
  rw [h1] at h2
  split at h2 <;> omega
-- OWN KIT 4 (mine): arrays of doubles
section OwnDbl
variable {Z : State} {h h' : Heap} {a b : Addr} {ty : FieldType} {n : Nat} {f f' : Nat → Value} {p : Program} {l : Launch} {e : Env} {R : Room} {s : State} {m : MethodId} {args : Array Value} {below : List Frame} {meth : Method} {c : Code} {T : State} {locs : List Loc} {cells slots : Nat}
theorem own_daload (X : Stand p l e R s m args below meth c T locs cells slots) (hx : p.tables.exec = Jvm.exec) (hZ : Z.Warmed39 s.vm) (eT : T.heap = h) {j : Int32} (F : own_Arf Z h a .double n f) (h1 : 0 ≤ j.toInt) (h2 : j.toInt < n) {w : Value} (hv : f j.toNatClampNeg = w) {g : JFrame} (hg : g.method = m) {rest : List Value} (hs : g.stack = .int j :: .ref a :: rest) (hd : decode c.code g.pc = .ok (.daload, 1)) :
    ∀ target, Steps p.tables e below (T.setTop { g with pc := g.pc + 1, stack := w :: rest }) target → Steps p.tables e below (T.setTop g) target := by
  subst hv
  exact own_ld F h1 h2 fun cl Ar hin hat => X.daload hx (j := j) (by rw [eT]; exact Ar.1) (State.isArrayOf_alike hZ.alike Ar.2.1) Ar.2.2 hin hat hg hs hd
theorem own_stD (X : Stand p l e R s m args below meth c T locs cells slots) (hx : p.tables.exec = Jvm.exec) (hZ : Z.Warmed39 s.vm) (eT : T.heap = h) {j : Int32} {x : UInt64} (F : own_Arf Z h a .double n f) (h1 : 0 ≤ j.toInt) (h2 : j.toInt < n) {g : JFrame} (hg : g.method = m) {rest : List Value} (hs : g.stack = .double x :: .int j :: .ref a :: rest) (hd : decode c.code g.pc = .ok (.dastore, 1)) :
    ∃ T' h', Stand p l e R s m args below meth c T' (locs ++ [⟨a, j.toNatClampNeg⟩]) cells slots ∧ T'.heap = h' ∧ Wr h h' a j.toNatClampNeg (.double x) ∧ own_Arf Z h' a .double n (fun i => if i = j.toNatClampNeg then .double x else f i) ∧ ∀ target, Steps p.tables e below (T'.setTop { g with pc := g.pc + 1, stack := rest }) target → Steps p.tables e below (T.setTop g) target := by
  obtain ⟨cl, Ar, S, hn, H⟩ := F
  have hin : ¬ (j < 0 ∨ cl.slots.size ≤ j.toNatClampNeg) := by rw [S]; exact own_inb h1 h2
  obtain ⟨T', h', X', e', W, st⟩ := stD X hx hZ eT Ar (j := j) hin hg hs hd
  exact ⟨T', h', X', e', W, own_set Ar S hn H W (by have q : j.toNatClampNeg = j.toInt.toNat := rfl; omega), st⟩
end OwnDbl
def own_nf (x : UInt64) : Prop := ¬ (cmpValue (FP.dcmp x (9218868437227405312 : UInt64)) .l) = (0 : Int32)
theorem own_nf0 : own_nf FP.dconst0 := by unfold own_nf; decide +kernel
theorem own_nf1 : own_nf FP.dconst1 := by unfold own_nf; decide +kernel
theorem own_nf2 : own_nf (4611686018427387904 : UInt64) := by unfold own_nf; decide +kernel
theorem own_nf3 : own_nf (4613937818241073152 : UInt64) := by unfold own_nf; decide +kernel
theorem own_inf : (cmpValue (FP.dcmp (9218868437227405312 : UInt64) (9218868437227405312 : UInt64)) .l) = (0 : Int32) := by decide +kernel
def own_chain (gp : Nat → Int32) (P : Nat) (sr : Int32) (Ln : Nat) (ch : Nat → Nat) : Prop := 1 ≤ Ln ∧ Ln ≤ 4 ∧ ch 0 = P ∧ (∀ j, j < Ln → ch j < 4) ∧ sr.toInt = ch (Ln - 1) ∧ ∀ j, j + 1 < Ln → (ch j : Int) ≠ sr.toInt ∧ (gp (ch j)).toInt = ch (j + 1)
theorem own_i32 {x : Int32} {k : Int} (h : x.toInt = k) (y : Int32) (hy : y.toInt = k) : x = y := Int32.toInt_inj.mp (h.trans hy.symm)
theorem own_dec1 {i5 : Int32} {Ln k : Nat} (h : i5.toInt = (Ln : Int) - 1 - k) (hk : k < Ln) : (i5 + (-1 : Int32)).toInt = (Ln : Int) - 1 - ((k + 1 : Nat) : Int) := by
  have q1 := own_R32 i5
  have q := own_iaddR (x := i5) (y := (-1 : Int32)) (-1) 2147483646 (a := 0) (b := 2147483647) (c := -1) (d := -1) ⟨by omega, by omega⟩ (by decide) (by decide) (by decide)
  have q4 : (-1 : Int32).toInt = -1 := by decide
  omega
theorem own_dec2 {cn : Int32} {Ln : Nat} (h : cn.toInt = Ln) (hk : 1 ≤ Ln) : (cn - (1 : Int32)).toInt = (Ln : Int) - 1 - ((0 : Nat) : Int) := by
  have q1 := own_R32 cn
  have q := own_isubR (x := cn) (y := (1 : Int32)) 0 2147483646 (a := 1) (b := 2147483647) (c := 1) (d := 1) ⟨by omega, by omega⟩ (by decide) (by decide) (by decide)
  have q4 : (1 : Int32).toInt = 1 := by decide
  omega
theorem own_gr4 {gf gr : Nat → Int32} {ch : Nat → Nat} {Ln k : Nat} {a4 : Int32} (hgf : ∀ i, gf i = if i = Ln - 1 - k then a4 else gr i) (hk : k < Ln) (ha : a4.toInt = ch k) (hgr : ∀ q, q < k → (gr (Ln - 1 - q)).toInt = ch q) : ∀ q, q < k + 1 → (gf (Ln - 1 - q)).toInt = ch q := by
  intro q hq
  rw [hgf]
  by_cases z : q = k
  · subst z; rw [if_pos rfl]; exact ha
  · rw [if_neg (by omega)]; exact hgr q (by omega)
theorem own_mless {Ln k m : Nat} (hm : Ln - k = m) (h : k < Ln) : Ln - (k + 1) < m := by omega
theorem pn_0 : plainName "org/fractile/graph/PathTreePathPinLaw" = true := by first | (simp [plainName, overriddenIn]; done) | decide +kernel
theorem d1_0 : decode method_2_code 0 = .ok (.iload_n 0, 1) := by decide +kernel
theorem d1_1 : decode method_2_code 1 = .ok (.iload_n 2, 1) := by decide +kernel
theorem d1_2 : decode method_2_code 2 = .ok (.iload_n 1, 1) := by decide +kernel
theorem d1_3 : decode method_2_code 3 = .ok (.imul, 1) := by decide +kernel
theorem d1_4 : decode method_2_code 4 = .ok (.iadd, 1) := by decide +kernel
theorem d1_5 : decode method_2_code 5 = .ok (.iconst 3, 1) := by decide +kernel
theorem d1_6 : decode method_2_code 6 = .ok (.iand, 1) := by decide +kernel
theorem d1_7 : decode method_2_code 7 = .ok (.ireturn, 1) := by decide +kernel
theorem ef_1 (m : MethodId) (x0 : Int32) (x1 : Int32) (x2 : Int32) : entryFrame m #[(.int x0), (.int x1), (.int x2)] 3 = mkF m 0 #[.val (.int x0), .val (.int x1), .val (.int x2)] [] := by first | (simp [entryFrame, mkF, argsToLocals, Value.category]; done) | rfl
def Q1 (Z : State) (p0 : Int32) (p1 : Int32) (p2 : Int32) (h0 : Heap) (n0 : Nat) (v : Option Value) (h : Heap) (L : List Loc) : Prop := v = some (.int ((p0 + (p2 * p1)) &&& (3 : Int32))) ∧ Fr n0 L ∧ h = h0
set_option maxRecDepth 65536 in
set_option maxHeartbeats 40000000 in
theorem rm1 (l : Launch) (Z : State) (a0 : Array Value) (hw : ∀ d ∈ tables_1, d.before a0 Z = true) (ws : List Jvm.Cond) (p0 : Int32) (p1 : Int32) (p2 : Int32) (h0 : Heap) (n0 : Nat) (Z0 : n0 ≤ h0.size) :
    MetFree l (⟨"org/fractile/graph/PathTreePathPinLaw", "vert", "(III)I"⟩ : MethodName) (head1 (Jvm.Cond.code (⟨"org/fractile/graph/PathTreePathPinLaw", "vert", "(III)I"⟩ : MethodName) method_2_code 3 (some .int) :: ws) ({ frames := 0, cells := 0, slots := 0, locals := 0 } : Room)) (fun a U => a = #[(.int p0), (.int p1), (.int p2)] ∧ Z.Warmed39 U.vm ∧ U.heap = h0) (fun _ _ _ _ _ => True) (fun _ U o U' => ∃ v L, o = .returned v ∧ Q1 Z p0 p1 p2 h0 n0 v U'.heap L ∧ FrameEnd U o U' L ({ frames := 0, cells := 0, slots := 0, locals := 0 } : Room).cells ({ frames := 0, cells := 0, slots := 0, locals := 0 } : Room).slots) := by
  refine MetFree.of_bodySF (plainFor_of_name pn_0) hisR ?_
  intro p e s m args below meth c s₁ Bd hml0 hP hK
  obtain ⟨rfl, hZ, hh⟩ := hP
  have hx := Bd.exec
  have hby := Bd.bytes
  have hml : c.maxLocals = 3 := hml0
  have hown : s.vm.findClass "org/fractile/graph/PathTreePathPinLaw" = some m.cls := findClass_of_methodNamed Bd.named
  have hnm := (name_of_methodNamed Bd.named Bd.method).1
  have hlk : meth.locks = false := BodyLoose.notSynchronized Bd
  have X0 : Stand p l e ({ frames := 0, cells := 0, slots := 0, locals := 0 } : Room) s m #[(.int p0), (.int p1), (.int p2)] below meth c s₁ [] 0 0 := Stand.of_body Bd
  have e0 : s₁.heap = h0 := by rw [← hh, Bd.state]; rfl
  have N0 := Fr.nil n0
  have K0 : Keep h0 h0 [] := Keep.refl h0 _
  have key : ∀ (F0 : State) (G : Prop), (own_G p e below s F0 (Q1 Z p0 p1 p2 h0 n0) ({ frames := 0, cells := 0, slots := 0, locals := 0 } : Room).cells ({ frames := 0, cells := 0, slots := 0, locals := 0 } : Room).slots → G) → own_R p.tables e below F0 (s₁.setTop (mkF m 0 #[.val (.int p0), .val (.int p1), .val (.int p2)] [])) → G := by
    intro F0 G hG r0
    have r1 : own_R p.tables e below F0 (s₁.setTop (mkF m 7 #[.val (.int p0), .val (.int p1), .val (.int p2)] [(.int ((p0 + (p2 * p1)) &&& (3 : Int32)))])) := fun tg_ kg_ => by
      refine r0 tg_ ?_
      show Steps p.tables e below (s₁.setTop (mkF m 0 #[.val (.int p0), .val (.int p1), .val (.int p2)] [])) _
      refine XS.iloadN X0.here hx rfl (hb hby d1_0) rfl ?_
      show Steps p.tables e below (s₁.setTop (mkF m 1 #[.val (.int p0), .val (.int p1), .val (.int p2)] [(.int p0)])) _
      refine XS.iloadN X0.here hx rfl (hb hby d1_1) rfl ?_
      show Steps p.tables e below (s₁.setTop (mkF m 2 #[.val (.int p0), .val (.int p1), .val (.int p2)] [(.int p2), (.int p0)])) _
      refine XS.iloadN X0.here hx rfl (hb hby d1_2) rfl ?_
      show Steps p.tables e below (s₁.setTop (mkF m 3 #[.val (.int p0), .val (.int p1), .val (.int p2)] [(.int p1), (.int p2), (.int p0)])) _
      refine XS.imul X0.here hx rfl (hb hby d1_3) rfl ?_
      show Steps p.tables e below (s₁.setTop (mkF m 4 #[.val (.int p0), .val (.int p1), .val (.int p2)] [(.int (p2 * p1)), (.int p0)])) _
      refine XS.iadd X0.here hx rfl (hb hby d1_4) rfl ?_
      show Steps p.tables e below (s₁.setTop (mkF m 5 #[.val (.int p0), .val (.int p1), .val (.int p2)] [(.int (p0 + (p2 * p1)))])) _
      refine XS.iconst X0.here hx rfl (hb hby d1_5) ?_
      show Steps p.tables e below (s₁.setTop (mkF m 6 #[.val (.int p0), .val (.int p1), .val (.int p2)] [(.int (3 : Int32)), (.int (p0 + (p2 * p1)))])) _
      refine XS.iand X0.here hx rfl (hb hby d1_6) rfl ?_
      exact kg_
    refine hG (own_fin X0 hlk (some (.int ((p0 + (p2 * p1)) &&& (3 : Int32)))) (own_hv Bd.returns) ?_ (by decide) (by decide) (fun fs hr => r1 _ (retOut X0 hx Bd.returns rfl (Or.inl ⟨rfl, Or.inl rfl, _, rfl⟩) (hb hby d1_7) hr)))
    rw [e0]
    refine ⟨?_, N0, rfl⟩
    rfl
  exact key _ _ id (fun t k => castTop (ef_1 m p0 p1 p2) k)
theorem pn_1 : plainName "org/fractile/graph/PathTree" = true := by first | (simp [plainName, overriddenIn]; done) | decide +kernel
theorem d2_0 : decode prog_56_method_1_code 0 = .ok (.aload_n 0, 1) := by decide +kernel
theorem d2_1 : decode prog_56_method_1_code 1 = .ok (.invokespecial 1, 3) := by decide +kernel
theorem d2_4 : decode prog_56_method_1_code 4 = .ok (.aload_n 0, 1) := by decide +kernel
theorem d2_5 : decode prog_56_method_1_code 5 = .ok (.iload_n 1, 1) := by decide +kernel
theorem d2_6 : decode prog_56_method_1_code 6 = .ok (.putfield 7, 3) := by decide +kernel
theorem d2_9 : decode prog_56_method_1_code 9 = .ok (.aload_n 0, 1) := by decide +kernel
theorem d2_10 : decode prog_56_method_1_code 10 = .ok (.aload_n 2, 1) := by decide +kernel
theorem d2_11 : decode prog_56_method_1_code 11 = .ok (.putfield 13, 3) := by decide +kernel
theorem d2_14 : decode prog_56_method_1_code 14 = .ok (.aload_n 0, 1) := by decide +kernel
theorem d2_15 : decode prog_56_method_1_code 15 = .ok (.aload_n 3, 1) := by decide +kernel
theorem d2_16 : decode prog_56_method_1_code 16 = .ok (.putfield 17, 3) := by decide +kernel
theorem d2_19 : decode prog_56_method_1_code 19 = .ok (.return_, 1) := by decide +kernel
theorem ef_2 (m : MethodId) (x0 : Addr) (x1 : Int32) (x2 : Addr) (x3 : Addr) : entryFrame m #[(.ref x0), (.int x1), (.ref x2), (.ref x3)] 4 = mkF m 0 #[.val (.ref x0), .val (.int x1), .val (.ref x2), .val (.ref x3)] [] := by first | (simp [entryFrame, mkF, argsToLocals, Value.category]; done) | rfl
def Q2 (Z : State) (a1 : Addr) (p2 : Int32) (p3 : Addr) (p4 : Addr) (h0 : Heap) (n0 : Nat) (v : Option Value) (h : Heap) (L : List Loc) : Prop := v = none ∧ Fr n0 L ∧ Keep h0 h [a1] ∧ Exa Z h a1 "org/fractile/graph/PathTree" ∧ Fld Z h a1 "org/fractile/graph/PathTree" "source" "I" (.int p2) ∧ Fld Z h a1 "org/fractile/graph/PathTree" "cost" "[D" (.ref p3) ∧ Fld Z h a1 "org/fractile/graph/PathTree" "predecessor" "[I" (.ref p4)
set_option maxRecDepth 65536 in
set_option maxHeartbeats 40000000 in
theorem rm2 (l : Launch) (Z : State) (a0 : Array Value) (hw : ∀ d ∈ tables_1, d.before a0 Z = true) (ws : List Jvm.Cond) (a1 : Addr) (p2 : Int32) (p3 : Addr) (p4 : Addr) (h0 : Heap) (n0 : Nat) (Z0 : n0 ≤ h0.size) (E1 : Exa Z h0 a1 "org/fractile/graph/PathTree") (Fp0 : Fld Z h0 a1 "org/fractile/graph/PathTree" "source" "I" (.int (0 : Int32))) (Fp1 : Fld Z h0 a1 "org/fractile/graph/PathTree" "cost" "[D" .null) (Fp2 : Fld Z h0 a1 "org/fractile/graph/PathTree" "predecessor" "[I" .null) (ga1 : n0 ≤ a1) :
    MetFree l (⟨"org/fractile/graph/PathTree", "<init>", "(I[D[I)V"⟩ : MethodName) (head1 (Jvm.Cond.code (⟨"org/fractile/graph/PathTree", "<init>", "(I[D[I)V"⟩ : MethodName) prog_56_method_1_code 4 none :: ws) ({ frames := 1, cells := 0, slots := 0, locals := 12 } : Room)) (fun a U => a = #[(.ref a1), (.int p2), (.ref p3), (.ref p4)] ∧ Z.Warmed39 U.vm ∧ U.heap = h0) (fun _ _ _ _ _ => True) (fun _ U o U' => ∃ v L, o = .returned v ∧ Q2 Z a1 p2 p3 p4 h0 n0 v U'.heap L ∧ FrameEnd U o U' L ({ frames := 1, cells := 0, slots := 0, locals := 12 } : Room).cells ({ frames := 1, cells := 0, slots := 0, locals := 12 } : Room).slots) := by
  refine MetFree.of_bodySF (plainFor_of_name pn_1) hisR ?_
  intro p e s m args below meth c s₁ Bd hml0 hP hK
  obtain ⟨rfl, hZ, hh⟩ := hP
  have hx := Bd.exec
  have hby := Bd.bytes
  have hml : c.maxLocals = 4 := hml0
  have hown : s.vm.findClass "org/fractile/graph/PathTree" = some m.cls := findClass_of_methodNamed Bd.named
  have hnm := (name_of_methodNamed Bd.named Bd.method).1
  have hlk : meth.locks = false := BodyLoose.notSynchronized Bd
  have X0 : Stand p l e ({ frames := 1, cells := 0, slots := 0, locals := 12 } : Room) s m #[(.ref a1), (.int p2), (.ref p3), (.ref p4)] below meth c s₁ [] 0 0 := Stand.of_body Bd
  have e0 : s₁.heap = h0 := by rw [← hh, Bd.state]; rfl
  have N0 := Fr.nil n0
  have K0 : Keep h0 h0 [a1] := Keep.refl h0 _
  have key : ∀ (F0 : State) (G : Prop), (own_G p e below s F0 (Q2 Z a1 p2 p3 p4 h0 n0) ({ frames := 1, cells := 0, slots := 0, locals := 12 } : Room).cells ({ frames := 1, cells := 0, slots := 0, locals := 12 } : Room).slots → G) → own_R p.tables e below F0 (s₁.setTop (mkF m 0 #[.val (.ref a1), .val (.int p2), .val (.ref p3), .val (.ref p4)] [])) → G := by
    intro F0 G hG r0
    have r2 : own_R p.tables e below F0 (s₁.setTop (mkF m 1 #[.val (.ref a1), .val (.int p2), .val (.ref p3), .val (.ref p4)] [(.ref a1)])) := fun tg_ kg_ => by
      refine r0 tg_ ?_
      show Steps p.tables e below (s₁.setTop (mkF m 0 #[.val (.ref a1), .val (.int p2), .val (.ref p3), .val (.ref p4)] [])) _
      refine XS.aloadN X0.here hx rfl (hb hby d2_0) rfl rfl ?_
      exact kg_
    obtain ⟨T3, X3, e3, st3⟩ := initO X0 hx hZ hown (hw _ (List.mem_of_getElem? (i := 14) rfl)) (hw _ (List.mem_of_getElem? (i := 15) rfl)) (hw _ (List.mem_of_getElem? (i := 16) rfl)) e0 (g := (mkF m 1 #[.val (.ref a1), .val (.int p2), .val (.ref p3), .val (.ref p4)] [(.ref a1)])) rfl (by rw [hml]; rfl) rfl (hb hby d2_1) (by decide) (W := 0) (by show 2 * 0 + _ ≤ _; exact Nat.le_of_eq rfl) (by decide)
    have r3 : own_R p.tables e below F0 (T3.setTop (mkF m 4 #[.val (.ref a1), .val (.int p2), .val (.ref p3), .val (.ref p4)] [])) := fun tg_ kg_ => r2 tg_ (st3 tg_ kg_)
    have r4 : own_R p.tables e below F0 (T3.setTop (mkF m 6 #[.val (.ref a1), .val (.int p2), .val (.ref p3), .val (.ref p4)] [(.int p2), (.ref a1)])) := fun tg_ kg_ => by
      refine r3 tg_ ?_
      show Steps p.tables e below (T3.setTop (mkF m 4 #[.val (.ref a1), .val (.int p2), .val (.ref p3), .val (.ref p4)] [])) _
      refine XS.aloadN X3.here hx rfl (hb hby d2_4) rfl rfl ?_
      show Steps p.tables e below (T3.setTop (mkF m 5 #[.val (.ref a1), .val (.int p2), .val (.ref p3), .val (.ref p4)] [(.ref a1)])) _
      refine XS.iloadN X3.here hx rfl (hb hby d2_5) rfl ?_
      exact kg_
    obtain ⟨T5, h5, X5, e5, W5, st5⟩ := putF X3 hx hZ hown (host := "") (Or.inl (hw _ (List.mem_of_getElem? (i := 17) rfl))) Via.refl e3 Fp0 E1 (Or.inr ⟨(hw _ (List.mem_of_getElem? (i := 18) rfl)), rfl, hnm⟩) (hw _ (List.mem_of_getElem? (i := 9) rfl)) (ty := .int) (by decide) rfl rfl (g := (mkF m 6 #[.val (.ref a1), .val (.int p2), .val (.ref p3), .val (.ref p4)] [(.int p2), (.ref a1)])) rfl rfl (hb hby d2_6)
    have F6 : Exa Z h5 a1 "org/fractile/graph/PathTree" := E1.wr W5
    have F7 : Fld Z h5 a1 "org/fractile/graph/PathTree" "source" "I" (.int p2) := Fp0.same W5
    have F8 : Fld Z h5 a1 "org/fractile/graph/PathTree" "cost" "[D" .null := Fp1.other W5 (Or.inr (slot_ne (Or.inr (hw _ (List.mem_of_getElem? (i := 20) rfl))) (Or.inr (hw _ (List.mem_of_getElem? (i := 18) rfl))) (by decide) (t := (.array .double)) (t' := .int) (by decide) (by decide)))
    have F9 : Fld Z h5 a1 "org/fractile/graph/PathTree" "predecessor" "[I" .null := Fp2.other W5 (Or.inr (slot_ne (Or.inr (hw _ (List.mem_of_getElem? (i := 22) rfl))) (Or.inr (hw _ (List.mem_of_getElem? (i := 18) rfl))) (by decide) (t := (.array .int)) (t' := .int) (by decide) (by decide)))
    have Zs10 : n0 ≤ h5.size := by rw [W5.size]; exact Z0
    have N11 := Fr.snoc X5 N0 ga1
    have K12 : Keep h0 h5 [a1] := K0.wr W5 (Or.inl (List.mem_of_getElem? (i := 0) rfl))
    have r5 : own_R p.tables e below F0 (T5.setTop (mkF m 9 #[.val (.ref a1), .val (.int p2), .val (.ref p3), .val (.ref p4)] [])) := fun tg_ kg_ => r4 tg_ (st5 tg_ kg_)
    have r13 : own_R p.tables e below F0 (T5.setTop (mkF m 11 #[.val (.ref a1), .val (.int p2), .val (.ref p3), .val (.ref p4)] [(.ref p3), (.ref a1)])) := fun tg_ kg_ => by
      refine r5 tg_ ?_
      show Steps p.tables e below (T5.setTop (mkF m 9 #[.val (.ref a1), .val (.int p2), .val (.ref p3), .val (.ref p4)] [])) _
      refine XS.aloadN X5.here hx rfl (hb hby d2_9) rfl rfl ?_
      show Steps p.tables e below (T5.setTop (mkF m 10 #[.val (.ref a1), .val (.int p2), .val (.ref p3), .val (.ref p4)] [(.ref a1)])) _
      refine XS.aloadN X5.here hx rfl (hb hby d2_10) rfl rfl ?_
      exact kg_
    obtain ⟨T14, h14, X14, e14, W14, st14⟩ := putF X5 hx hZ hown (host := "") (Or.inl (hw _ (List.mem_of_getElem? (i := 19) rfl))) Via.refl e5 F8 F6 (Or.inr ⟨(hw _ (List.mem_of_getElem? (i := 20) rfl)), rfl, hnm⟩) (hw _ (List.mem_of_getElem? (i := 9) rfl)) (ty := (.array .double)) (by decide) rfl rfl (g := (mkF m 11 #[.val (.ref a1), .val (.int p2), .val (.ref p3), .val (.ref p4)] [(.ref p3), (.ref a1)])) rfl rfl (hb hby d2_11)
    have F15 : Exa Z h14 a1 "org/fractile/graph/PathTree" := F6.wr W14
    have F16 : Fld Z h14 a1 "org/fractile/graph/PathTree" "source" "I" (.int p2) := F7.other W14 (Or.inr (slot_ne (Or.inr (hw _ (List.mem_of_getElem? (i := 18) rfl))) (Or.inr (hw _ (List.mem_of_getElem? (i := 20) rfl))) (by decide) (t := .int) (t' := (.array .double)) (by decide) (by decide)))
    have F17 : Fld Z h14 a1 "org/fractile/graph/PathTree" "cost" "[D" (.ref p3) := F8.same W14
    have F18 : Fld Z h14 a1 "org/fractile/graph/PathTree" "predecessor" "[I" .null := F9.other W14 (Or.inr (slot_ne (Or.inr (hw _ (List.mem_of_getElem? (i := 22) rfl))) (Or.inr (hw _ (List.mem_of_getElem? (i := 20) rfl))) (by decide) (t := (.array .int)) (t' := (.array .double)) (by decide) (by decide)))
    have Zs19 : n0 ≤ h14.size := by rw [W14.size]; exact Zs10
    have N20 := Fr.snoc X14 N11 ga1
    have K21 : Keep h0 h14 [a1] := K12.wr W14 (Or.inl (List.mem_of_getElem? (i := 0) rfl))
    have r14 : own_R p.tables e below F0 (T14.setTop (mkF m 14 #[.val (.ref a1), .val (.int p2), .val (.ref p3), .val (.ref p4)] [])) := fun tg_ kg_ => r13 tg_ (st14 tg_ kg_)
    have r22 : own_R p.tables e below F0 (T14.setTop (mkF m 16 #[.val (.ref a1), .val (.int p2), .val (.ref p3), .val (.ref p4)] [(.ref p4), (.ref a1)])) := fun tg_ kg_ => by
      refine r14 tg_ ?_
      show Steps p.tables e below (T14.setTop (mkF m 14 #[.val (.ref a1), .val (.int p2), .val (.ref p3), .val (.ref p4)] [])) _
      refine XS.aloadN X14.here hx rfl (hb hby d2_14) rfl rfl ?_
      show Steps p.tables e below (T14.setTop (mkF m 15 #[.val (.ref a1), .val (.int p2), .val (.ref p3), .val (.ref p4)] [(.ref a1)])) _
      refine XS.aloadN X14.here hx rfl (hb hby d2_15) rfl rfl ?_
      exact kg_
    obtain ⟨T23, h23, X23, e23, W23, st23⟩ := putF X14 hx hZ hown (host := "") (Or.inl (hw _ (List.mem_of_getElem? (i := 21) rfl))) Via.refl e14 F18 F15 (Or.inr ⟨(hw _ (List.mem_of_getElem? (i := 22) rfl)), rfl, hnm⟩) (hw _ (List.mem_of_getElem? (i := 9) rfl)) (ty := (.array .int)) (by decide) rfl rfl (g := (mkF m 16 #[.val (.ref a1), .val (.int p2), .val (.ref p3), .val (.ref p4)] [(.ref p4), (.ref a1)])) rfl rfl (hb hby d2_16)
    have F24 : Exa Z h23 a1 "org/fractile/graph/PathTree" := F15.wr W23
    have F25 : Fld Z h23 a1 "org/fractile/graph/PathTree" "source" "I" (.int p2) := F16.other W23 (Or.inr (slot_ne (Or.inr (hw _ (List.mem_of_getElem? (i := 18) rfl))) (Or.inr (hw _ (List.mem_of_getElem? (i := 22) rfl))) (by decide) (t := .int) (t' := (.array .int)) (by decide) (by decide)))
    have F26 : Fld Z h23 a1 "org/fractile/graph/PathTree" "cost" "[D" (.ref p3) := F17.other W23 (Or.inr (slot_ne (Or.inr (hw _ (List.mem_of_getElem? (i := 20) rfl))) (Or.inr (hw _ (List.mem_of_getElem? (i := 22) rfl))) (by decide) (t := (.array .double)) (t' := (.array .int)) (by decide) (by decide)))
    have F27 : Fld Z h23 a1 "org/fractile/graph/PathTree" "predecessor" "[I" (.ref p4) := F18.same W23
    have Zs28 : n0 ≤ h23.size := by rw [W23.size]; exact Zs19
    have N29 := Fr.snoc X23 N20 ga1
    have K30 : Keep h0 h23 [a1] := K21.wr W23 (Or.inl (List.mem_of_getElem? (i := 0) rfl))
    have r23 : own_R p.tables e below F0 (T23.setTop (mkF m 19 #[.val (.ref a1), .val (.int p2), .val (.ref p3), .val (.ref p4)] [])) := fun tg_ kg_ => r22 tg_ (st23 tg_ kg_)
    refine hG (own_fin X23 hlk (none) (fun _ => rfl) ?_ (by decide) (by decide) (fun fs hr => r23 _ (X23.returnOut hx Bd.returns (hb hby d2_19) hr)))
    rw [e23]
    refine ⟨?_, N29, K30, F24, F25, F26, F27⟩
    rfl
  exact key _ _ id (fun t k => castTop (ef_2 m a1 p2 p3 p4) k)
theorem d4_0 : decode prog_56_method_5_code 0 = .ok (.aload_n 0, 1) := by decide +kernel
theorem d4_1 : decode prog_56_method_5_code 1 = .ok (.getfield 13, 3) := by decide +kernel
theorem d4_4 : decode prog_56_method_5_code 4 = .ok (.iload_n 1, 1) := by decide +kernel
theorem d4_5 : decode prog_56_method_5_code 5 = .ok (.daload, 1) := by decide +kernel
theorem d4_6 : decode prog_56_method_5_code 6 = .ok (.ldc2_w 23, 3) := by decide +kernel
theorem d4_9 : decode prog_56_method_5_code 9 = .ok (.dcmp .l, 1) := by decide +kernel
theorem d4_10 : decode prog_56_method_5_code 10 = .ok (.ifCond .ne 7, 3) := by decide +kernel
theorem d4_13 : decode prog_56_method_5_code 13 = .ok (.iconst 0, 1) := by decide +kernel
theorem d4_14 : decode prog_56_method_5_code 14 = .ok (.newarray .int, 2) := by decide +kernel
theorem d4_16 : decode prog_56_method_5_code 16 = .ok (.areturn, 1) := by decide +kernel
theorem d4_17 : decode prog_56_method_5_code 17 = .ok (.iconst 1, 1) := by decide +kernel
theorem d4_18 : decode prog_56_method_5_code 18 = .ok (.istore_n 2, 1) := by decide +kernel
theorem d4_19 : decode prog_56_method_5_code 19 = .ok (.iload_n 1, 1) := by decide +kernel
theorem d4_20 : decode prog_56_method_5_code 20 = .ok (.istore_n 3, 1) := by decide +kernel
theorem d4_21 : decode prog_56_method_5_code 21 = .ok (.iload_n 3, 1) := by decide +kernel
theorem d4_22 : decode prog_56_method_5_code 22 = .ok (.aload_n 0, 1) := by decide +kernel
theorem d4_23 : decode prog_56_method_5_code 23 = .ok (.getfield 7, 3) := by decide +kernel
theorem d4_26 : decode prog_56_method_5_code 26 = .ok (.if_icmp .eq 16, 3) := by decide +kernel
theorem d4_29 : decode prog_56_method_5_code 29 = .ok (.iinc 2 1, 3) := by decide +kernel
theorem d4_32 : decode prog_56_method_5_code 32 = .ok (.aload_n 0, 1) := by decide +kernel
theorem d4_33 : decode prog_56_method_5_code 33 = .ok (.getfield 17, 3) := by decide +kernel
theorem d4_36 : decode prog_56_method_5_code 36 = .ok (.iload_n 3, 1) := by decide +kernel
theorem d4_37 : decode prog_56_method_5_code 37 = .ok (.iaload, 1) := by decide +kernel
theorem d4_38 : decode prog_56_method_5_code 38 = .ok (.istore_n 3, 1) := by decide +kernel
theorem d4_39 : decode prog_56_method_5_code 39 = .ok (.goto (-18), 3) := by decide +kernel
theorem d4_42 : decode prog_56_method_5_code 42 = .ok (.iload_n 2, 1) := by decide +kernel
theorem d4_43 : decode prog_56_method_5_code 43 = .ok (.newarray .int, 2) := by decide +kernel
theorem d4_45 : decode prog_56_method_5_code 45 = .ok (.astore_n 3, 1) := by decide +kernel
theorem d4_46 : decode prog_56_method_5_code 46 = .ok (.iload_n 1, 1) := by decide +kernel
theorem d4_47 : decode prog_56_method_5_code 47 = .ok (.istore 4, 2) := by decide +kernel
theorem d4_49 : decode prog_56_method_5_code 49 = .ok (.iload_n 2, 1) := by decide +kernel
theorem d4_50 : decode prog_56_method_5_code 50 = .ok (.iconst 1, 1) := by decide +kernel
theorem d4_51 : decode prog_56_method_5_code 51 = .ok (.isub, 1) := by decide +kernel
theorem d4_52 : decode prog_56_method_5_code 52 = .ok (.istore 5, 2) := by decide +kernel
theorem d4_54 : decode prog_56_method_5_code 54 = .ok (.iload 5, 2) := by decide +kernel
theorem d4_56 : decode prog_56_method_5_code 56 = .ok (.ifCond .lt 24, 3) := by decide +kernel
theorem d4_59 : decode prog_56_method_5_code 59 = .ok (.aload_n 3, 1) := by decide +kernel
theorem d4_60 : decode prog_56_method_5_code 60 = .ok (.iload 5, 2) := by decide +kernel
theorem d4_62 : decode prog_56_method_5_code 62 = .ok (.iload 4, 2) := by decide +kernel
theorem d4_64 : decode prog_56_method_5_code 64 = .ok (.iastore, 1) := by decide +kernel
theorem d4_65 : decode prog_56_method_5_code 65 = .ok (.aload_n 0, 1) := by decide +kernel
theorem d4_66 : decode prog_56_method_5_code 66 = .ok (.getfield 17, 3) := by decide +kernel
theorem d4_69 : decode prog_56_method_5_code 69 = .ok (.iload 4, 2) := by decide +kernel
theorem d4_71 : decode prog_56_method_5_code 71 = .ok (.iaload, 1) := by decide +kernel
theorem d4_72 : decode prog_56_method_5_code 72 = .ok (.istore 4, 2) := by decide +kernel
theorem d4_74 : decode prog_56_method_5_code 74 = .ok (.iinc 5 (-1), 3) := by decide +kernel
theorem d4_77 : decode prog_56_method_5_code 77 = .ok (.goto (-23), 3) := by decide +kernel
theorem d4_80 : decode prog_56_method_5_code 80 = .ok (.aload_n 3, 1) := by decide +kernel
theorem d4_81 : decode prog_56_method_5_code 81 = .ok (.areturn, 1) := by decide +kernel
theorem ef_4 (m : MethodId) (x0 : Addr) (x1 : Int32) : entryFrame m #[(.ref x0), (.int x1)] 6 = mkF m 0 #[.val (.ref x0), .val (.int x1), .unset, .unset, .unset, .unset] [] := by first | (simp [entryFrame, mkF, argsToLocals, Value.category]; done) | rfl
def Q4 (Z : State) (a1 : Addr) (p1 : Int32) (sr : Int32) (ac : Addr) (ap : Addr) (gd : Nat → UInt64) (gp : Nat → Int32) (P : Nat) (Ln : Nat) (ch : Nat → Nat) (h0 : Heap) (n0 : Nat) (v : Option Value) (h : Heap) (L : List Loc) : Prop := ∃ (b : Addr), ∃ (Nl : Nat), ∃ (gr : Nat → Int32), v = some (.ref b) ∧ Fr n0 L ∧ Keep h0 h [] ∧ h0.size ≤ b ∧ own_Arf Z h b .int Nl (fun i => (.int (gr i))) ∧ ((gd P = (9218868437227405312 : UInt64) ∧ Nl = 0) ∨ (own_nf (gd P) ∧ Nl = Ln ∧ ∀ q, q < Ln → (gr (Ln - 1 - q)).toInt = ch q))
set_option maxRecDepth 65536 in
set_option maxHeartbeats 40000000 in
theorem rm4 (l : Launch) (Z : State) (a0 : Array Value) (hw : ∀ d ∈ tables_1, d.before a0 Z = true) (ws : List Jvm.Cond) (a1 : Addr) (p1 : Int32) (sr : Int32) (ac : Addr) (ap : Addr) (gd : Nat → UInt64) (gp : Nat → Int32) (P : Nat) (Ln : Nat) (ch : Nat → Nat) (h0 : Heap) (n0 : Nat) (Z0 : n0 ≤ h0.size) (E1 : Exa Z h0 a1 "org/fractile/graph/PathTree") (F1 : Fld Z h0 a1 "org/fractile/graph/PathTree" "source" "I" (.int sr)) (F2 : Fld Z h0 a1 "org/fractile/graph/PathTree" "cost" "[D" (.ref ac)) (F3 : Fld Z h0 a1 "org/fractile/graph/PathTree" "predecessor" "[I" (.ref ap)) (A1 : own_Arf Z h0 ac .double 4 (fun i => (.double (gd i)))) (A2 : own_Arf Z h0 ap .int 4 (fun i => (.int (gp i)))) (hP : p1.toInt = P ∧ P < 4) (hcase : gd P = (9218868437227405312 : UInt64) ∨ (own_nf (gd P) ∧ own_chain gp P sr Ln ch)) :
    MetFree l (⟨"org/fractile/graph/PathTree", "path", "(I)[I"⟩ : MethodName) (head1 (Jvm.Cond.code (⟨"org/fractile/graph/PathTree", "path", "(I)[I"⟩ : MethodName) prog_56_method_5_code 6 (some (.array .int)) :: ws) ({ frames := 0, cells := 1, slots := 4, locals := 0 } : Room)) (fun a U => a = #[(.ref a1), (.int p1)] ∧ Z.Warmed39 U.vm ∧ U.heap = h0) (fun _ _ _ _ _ => True) (fun _ U o U' => ∃ v L, o = .returned v ∧ Q4 Z a1 p1 sr ac ap gd gp P Ln ch h0 n0 v U'.heap L ∧ FrameEnd U o U' L ({ frames := 0, cells := 1, slots := 4, locals := 0 } : Room).cells ({ frames := 0, cells := 1, slots := 4, locals := 0 } : Room).slots) := by
  refine MetFree.of_bodySF (plainFor_of_name pn_1) hisR ?_
  intro p e s m args below meth c s₁ Bd hml0 hP hK
  obtain ⟨rfl, hZ, hh⟩ := hP
  have hx := Bd.exec
  have hby := Bd.bytes
  have hml : c.maxLocals = 6 := hml0
  have hown : s.vm.findClass "org/fractile/graph/PathTree" = some m.cls := findClass_of_methodNamed Bd.named
  have hnm := (name_of_methodNamed Bd.named Bd.method).1
  have hlk : meth.locks = false := BodyLoose.notSynchronized Bd
  have X0 : Stand p l e ({ frames := 0, cells := 1, slots := 4, locals := 0 } : Room) s m #[(.ref a1), (.int p1)] below meth c s₁ [] 0 0 := Stand.of_body Bd
  have e0 : s₁.heap = h0 := by rw [← hh, Bd.state]; rfl
  have N0 := Fr.nil n0
  have K0 : Keep h0 h0 [] := Keep.refl h0 _
  have key : ∀ (F0 : State) (G : Prop), (own_G p e below s F0 (Q4 Z a1 p1 sr ac ap gd gp P Ln ch h0 n0) ({ frames := 0, cells := 1, slots := 4, locals := 0 } : Room).cells ({ frames := 0, cells := 1, slots := 4, locals := 0 } : Room).slots → G) → own_R p.tables e below F0 (s₁.setTop (mkF m 0 #[.val (.ref a1), .val (.int p1), .unset, .unset, .unset, .unset] [])) → G := by
    intro F0 G hG r0
    have r31 : own_R p.tables e below F0 (s₁.setTop (mkF m 1 #[.val (.ref a1), .val (.int p1), .unset, .unset, .unset, .unset] [(.ref a1)])) := fun tg_ kg_ => by
      refine r0 tg_ ?_
      show Steps p.tables e below (s₁.setTop (mkF m 0 #[.val (.ref a1), .val (.int p1), .unset, .unset, .unset, .unset] [])) _
      refine XS.aloadN X0.here hx rfl (hb hby d4_0) rfl rfl ?_
      exact kg_
    obtain ⟨T32, X32, e32, st32⟩ := getF X0 hx hZ hown (host := "") (Or.inl (hw _ (List.mem_of_getElem? (i := 19) rfl))) Via.refl e0 F2 (g := (mkF m 1 #[.val (.ref a1), .val (.int p1), .unset, .unset, .unset, .unset] [(.ref a1)])) rfl rfl (hb hby d4_1)
    have r32 : own_R p.tables e below F0 (T32.setTop (mkF m 4 #[.val (.ref a1), .val (.int p1), .unset, .unset, .unset, .unset] [(.ref ac)])) := fun tg_ kg_ => r31 tg_ (st32 tg_ kg_)
    have r33 : own_R p.tables e below F0 (T32.setTop (mkF m 10 #[.val (.ref a1), .val (.int p1), .unset, .unset, .unset, .unset] [(.int (cmpValue (FP.dcmp (gd P) (9218868437227405312 : UInt64)) .l))])) := fun tg_ kg_ => by
      refine r32 tg_ ?_
      show Steps p.tables e below (T32.setTop (mkF m 4 #[.val (.ref a1), .val (.int p1), .unset, .unset, .unset, .unset] [(.ref ac)])) _
      refine XS.iloadN X32.here hx rfl (hb hby d4_4) rfl ?_
      show Steps p.tables e below (T32.setTop (mkF m 5 #[.val (.ref a1), .val (.int p1), .unset, .unset, .unset, .unset] [(.int p1), (.ref ac)])) _
      refine own_daload X32 hx hZ e32 (j := p1) A1 (by omega) (by omega) (w := (.double (gd P))) (congrArg (fun j => Value.double (gd j)) (own_clamp hP.1)) (g := (mkF m 5 #[.val (.ref a1), .val (.int p1), .unset, .unset, .unset, .unset] [(.int p1), (.ref ac)])) rfl rfl (hb hby d4_5) _ ?_
      show Steps p.tables e below (T32.setTop (mkF m 6 #[.val (.ref a1), .val (.int p1), .unset, .unset, .unset, .unset] [(.double (gd P))])) _
      refine X32.ldc2DoubleC hx hown (mvT hZ (hw _ (List.mem_of_getElem? (i := 28) rfl))) (g := (mkF m 6 #[.val (.ref a1), .val (.int p1), .unset, .unset, .unset, .unset] [(.double (gd P))])) rfl (hb hby d4_6) _ ?_
      show Steps p.tables e below (T32.setTop (mkF m 9 #[.val (.ref a1), .val (.int p1), .unset, .unset, .unset, .unset] [(.double (9218868437227405312 : UInt64)), (.double (gd P))])) _
      refine XS.dcmpS X32.here hx rfl (hb hby d4_9) rfl rfl ?_
      exact kg_
    by_cases hc34 : (cmpValue (FP.dcmp (gd P) (9218868437227405312 : UInt64)) .l) = (0 : Int32)
    · have r35 : own_R p.tables e below F0 (T32.setTop (mkF m 14 #[.val (.ref a1), .val (.int p1), .unset, .unset, .unset, .unset] [(.int (0 : Int32))])) := fun tg_ kg_ => by
        refine r33 tg_ ?_
        show Steps p.tables e below (T32.setTop (mkF m 10 #[.val (.ref a1), .val (.int p1), .unset, .unset, .unset, .unset] [(.int (cmpValue (FP.dcmp (gd P) (9218868437227405312 : UInt64)) .l))])) _
        refine XS.ifNo X32.here hx rfl (hb hby d4_10) rfl ((if0 _ _).trans (teq hc34).2) ?_
        show Steps p.tables e below (T32.setTop (mkF m 13 #[.val (.ref a1), .val (.int p1), .unset, .unset, .unset, .unset] [])) _
        refine XS.iconst X32.here hx rfl (hb hby d4_13) ?_
        exact kg_
      obtain ⟨T36, h36, k36, X36, e36, E36, A36, st36⟩ := newP X32 hx hZ (hw _ (List.mem_of_getElem? (i := 6) rfl)) e32 (g := (mkF m 14 #[.val (.ref a1), .val (.int p1), .unset, .unset, .unset, .unset] [(.int (0 : Int32))])) rfl (hb hby d4_14) rfl (by decide) (cap := 0) (by decide) (by decide) (by decide) (by decide)
      obtain ⟨b36, g36⟩ : ∃ z, z = h0.size := ⟨_, rfl⟩
      rw [← g36] at A36 st36
      have ne37 : a1 ≠ b36 := Nat.ne_of_lt (Nat.lt_of_lt_of_le E1.lt (Nat.le_of_eq g36.symm))
      have ne38 : ac ≠ b36 := Nat.ne_of_lt (Nat.lt_of_lt_of_le A1.lt (Nat.le_of_eq g36.symm))
      have ne39 : ap ≠ b36 := Nat.ne_of_lt (Nat.lt_of_lt_of_le A2.lt (Nat.le_of_eq g36.symm))
      have ge36 : n0 ≤ b36 := Nat.le_trans Z0 (Nat.le_of_eq g36.symm)
      have old36 : h0.size ≤ b36 := Nat.le_trans K0.1 (Nat.le_of_eq g36.symm)
      have K36 : Keep h0 h36 [] := K0.ext E36
      have F40 : Exa Z h36 a1 "org/fractile/graph/PathTree" := E1.ext E36
      have F41 : Fld Z h36 a1 "org/fractile/graph/PathTree" "source" "I" (.int sr) := F1.ext E36
      have F42 : Fld Z h36 a1 "org/fractile/graph/PathTree" "cost" "[D" (.ref ac) := F2.ext E36
      have F43 : Fld Z h36 a1 "org/fractile/graph/PathTree" "predecessor" "[I" (.ref ap) := F3.ext E36
      have F44 : own_Arf Z h36 ac .double 4 (fun i => (.double (gd i))) := A1.ext E36
      have F45 : own_Arf Z h36 ap .int 4 (fun i => (.int (gp i))) := A2.ext E36
      have Zs46 : n0 ≤ h36.size := Nat.le_trans Z0 E36.1
      have F47 : own_Arf Z h36 b36 .int 0 (fun i => (.int ((fun _ => (0 : Int32)) i))) := by
        have q := own_Arf.new A36 (by decide)
        rw [show ((0 : Int32)).toNatClampNeg = 0 from rfl] at q
        exact q
      have r36 : own_R p.tables e below F0 (T36.setTop (mkF m 16 #[.val (.ref a1), .val (.int p1), .unset, .unset, .unset, .unset] [(.ref b36)])) := fun tg_ kg_ => r35 tg_ (st36 tg_ kg_)
      refine hG (own_fin X36 hlk (some (.ref b36)) (own_hv Bd.returns) ?_ (by decide) (by decide) (fun fs hr => r36 _ (retOut X36 hx Bd.returns rfl (Or.inr (Or.inr (Or.inr (Or.inr ⟨rfl, rfl, rfl⟩)))) (hb hby d4_16) hr)))
      rw [e36]
      refine ⟨b36, 0, (fun _ => (0 : Int32)), ?_, N0, K36, old36, F47, (Or.inl ⟨hcase.elim id (fun q => absurd hc34 q.1), rfl⟩)⟩
      rfl
    · have r48 : own_R p.tables e below F0 (T32.setTop (mkF m 17 #[.val (.ref a1), .val (.int p1), .unset, .unset, .unset, .unset] [])) := fun tg_ kg_ => by
        refine r33 tg_ ?_
        show Steps p.tables e below (T32.setTop (mkF m 10 #[.val (.ref a1), .val (.int p1), .unset, .unset, .unset, .unset] [(.int (cmpValue (FP.dcmp (gd P) (9218868437227405312 : UInt64)) .l))])) _
        refine XS.ifYes X32.here hx rfl (pc0 := 10) (pc' := 17) rfl (hb hby d4_10) rfl ((if0 _ _).trans (feq hc34).2) (by decide) (by decide) ?_
        exact kg_
      obtain ⟨hnf, hc1, hc2, hc3, hc4, hc5, hc6⟩ := hcase.resolve_left (fun q => hc34 (by rw [q]; exact own_inf))
      have r49 : own_R p.tables e below F0 (T32.setTop (mkF m 21 #[.val (.ref a1), .val (.int p1), .val (.int (1 : Int32)), .val (.int p1), .unset, .unset] [])) := fun tg_ kg_ => by
        refine r48 tg_ ?_
        show Steps p.tables e below (T32.setTop (mkF m 17 #[.val (.ref a1), .val (.int p1), .unset, .unset, .unset, .unset] [])) _
        refine XS.iconst X32.here hx rfl (hb hby d4_17) ?_
        show Steps p.tables e below (T32.setTop (mkF m 18 #[.val (.ref a1), .val (.int p1), .unset, .unset, .unset, .unset] [(.int (1 : Int32))])) _
        refine XS.istoreN X32.here hx rfl (hb hby d4_18) rfl (l' := #[.val (.ref a1), .val (.int p1), .val (.int (1 : Int32)), .unset, .unset, .unset]) rfl ?_
        show Steps p.tables e below (T32.setTop (mkF m 19 #[.val (.ref a1), .val (.int p1), .val (.int (1 : Int32)), .unset, .unset, .unset] [])) _
        refine XS.iloadN X32.here hx rfl (hb hby d4_19) rfl ?_
        show Steps p.tables e below (T32.setTop (mkF m 20 #[.val (.ref a1), .val (.int p1), .val (.int (1 : Int32)), .unset, .unset, .unset] [(.int p1)])) _
        refine XS.istoreN X32.here hx rfl (hb hby d4_20) rfl (l' := #[.val (.ref a1), .val (.int p1), .val (.int (1 : Int32)), .val (.int p1), .unset, .unset]) rfl ?_
        exact kg_
      have J50 : ∀ (k65 : Nat) (cn : Int32) (av : Int32) (j : Nat) (T51 : State) (lo58 : List Loc) (h53 : Heap) (X52 : Stand p l e ({ frames := 0, cells := 1, slots := 4, locals := 0 } : Room) s m #[(.ref a1), (.int p1)] below meth c T51 lo58 0 0) (e54 : T51.heap = h53) (N55 : Fr n0 lo58) (Zs56 : n0 ≤ h53.size) (K57 : Keep h0 h53 []) (F59 : Exa Z h53 a1 "org/fractile/graph/PathTree") (F60 : Fld Z h53 a1 "org/fractile/graph/PathTree" "source" "I" (.int sr)) (F61 : Fld Z h53 a1 "org/fractile/graph/PathTree" "predecessor" "[I" (.ref ap)) (F62 : own_Arf Z h53 ap .int 4 (fun i => (.int (gp i)))) (hcn : cn.toInt = ((j + 1 : Nat) : Int)) (hav : av.toInt = ch j) (hj : j < Ln) (_ : Ln - j = k65) (r63 : own_R p.tables e below F0 (T51.setTop (mkF m 21 #[.val (.ref a1), .val (.int p1), .val (.int cn), .val (.int av), .unset, .unset] []))), G := by
        intro k65
        induction k65 using Nat.strongRecOn with
        | ind k65 ih64 =>
          intro cn av j T51 lo58 h53 X52 e54 N55 Zs56 K57 F59 F60 F61 F62 hcn hav hj hm66 r63
          have r67 : own_R p.tables e below F0 (T51.setTop (mkF m 23 #[.val (.ref a1), .val (.int p1), .val (.int cn), .val (.int av), .unset, .unset] [(.ref a1), (.int av)])) := fun tg_ kg_ => by
            refine r63 tg_ ?_
            show Steps p.tables e below (T51.setTop (mkF m 21 #[.val (.ref a1), .val (.int p1), .val (.int cn), .val (.int av), .unset, .unset] [])) _
            refine XS.iloadN X52.here hx rfl (hb hby d4_21) rfl ?_
            show Steps p.tables e below (T51.setTop (mkF m 22 #[.val (.ref a1), .val (.int p1), .val (.int cn), .val (.int av), .unset, .unset] [(.int av)])) _
            refine XS.aloadN X52.here hx rfl (hb hby d4_22) rfl rfl ?_
            exact kg_
          obtain ⟨T68, X68, e68, st68⟩ := getF X52 hx hZ hown (host := "") (Or.inl (hw _ (List.mem_of_getElem? (i := 17) rfl))) Via.refl e54 F60 (g := (mkF m 23 #[.val (.ref a1), .val (.int p1), .val (.int cn), .val (.int av), .unset, .unset] [(.ref a1), (.int av)])) rfl rfl (hb hby d4_23)
          have r68 : own_R p.tables e below F0 (T68.setTop (mkF m 26 #[.val (.ref a1), .val (.int p1), .val (.int cn), .val (.int av), .unset, .unset] [(.int sr), (.int av)])) := fun tg_ kg_ => r67 tg_ (st68 tg_ kg_)
          by_cases hc69 : av = sr
          · have r70 : own_R p.tables e below F0 (T68.setTop (mkF m 42 #[.val (.ref a1), .val (.int p1), .val (.int cn), .val (.int av), .unset, .unset] [])) := fun tg_ kg_ => by
              refine r68 tg_ ?_
              show Steps p.tables e below (T68.setTop (mkF m 26 #[.val (.ref a1), .val (.int p1), .val (.int cn), .val (.int av), .unset, .unset] [(.int sr), (.int av)])) _
              refine XS.icmpYes X68.here hx rfl (pc0 := 26) (pc' := 42) rfl (hb hby d4_26) rfl (teq hc69).1 (by decide) (by decide) ?_
              exact kg_
            have hjL : j + 1 = Ln := by
              rcases Nat.lt_or_eq_of_le (show j + 1 ≤ Ln from hj) with q | q
              · exact absurd (by rw [← hav]; exact own_eq32 hc69) (hc6 j q).1
              · exact q
            have hcL : cn.toInt = Ln := by omega
            have r71 : own_R p.tables e below F0 (T68.setTop (mkF m 43 #[.val (.ref a1), .val (.int p1), .val (.int cn), .val (.int av), .unset, .unset] [(.int cn)])) := fun tg_ kg_ => by
              refine r70 tg_ ?_
              show Steps p.tables e below (T68.setTop (mkF m 42 #[.val (.ref a1), .val (.int p1), .val (.int cn), .val (.int av), .unset, .unset] [])) _
              refine XS.iloadN X68.here hx rfl (hb hby d4_42) rfl ?_
              exact kg_
            obtain ⟨T72, h72, k72, X72, e72, E72, A72, st72⟩ := newP X68 hx hZ (hw _ (List.mem_of_getElem? (i := 6) rfl)) e68 (g := (mkF m 43 #[.val (.ref a1), .val (.int p1), .val (.int cn), .val (.int av), .unset, .unset] [(.int cn)])) rfl (hb hby d4_43) rfl (fun q => by have := own_lt32 q; have : (0 : Int32).toInt = 0 := rfl; omega) (cap := 4) (by rw [own_clamp hcL]; exact hc2) (by decide) (by decide) (by decide)
            obtain ⟨b72, g72⟩ : ∃ z, z = h53.size := ⟨_, rfl⟩
            rw [← g72] at A72 st72
            have ne73 : a1 ≠ b72 := Nat.ne_of_lt (Nat.lt_of_lt_of_le F59.lt (Nat.le_of_eq g72.symm))
            have ne74 : ap ≠ b72 := Nat.ne_of_lt (Nat.lt_of_lt_of_le F62.lt (Nat.le_of_eq g72.symm))
            have ge72 : n0 ≤ b72 := Nat.le_trans Zs56 (Nat.le_of_eq g72.symm)
            have old72 : h0.size ≤ b72 := Nat.le_trans K57.1 (Nat.le_of_eq g72.symm)
            have K72 : Keep h0 h72 [] := K57.ext E72
            have F75 : Exa Z h72 a1 "org/fractile/graph/PathTree" := F59.ext E72
            have F76 : Fld Z h72 a1 "org/fractile/graph/PathTree" "source" "I" (.int sr) := F60.ext E72
            have F77 : Fld Z h72 a1 "org/fractile/graph/PathTree" "predecessor" "[I" (.ref ap) := F61.ext E72
            have F78 : own_Arf Z h72 ap .int 4 (fun i => (.int (gp i))) := F62.ext E72
            have Zs79 : n0 ≤ h72.size := Nat.le_trans Zs56 E72.1
            have F80 : own_Arf Z h72 b72 .int Ln (fun i => (.int ((fun _ => (0 : Int32)) i))) := by
              have q := own_Arf.new A72 (fun q => by have := own_lt32 q; have : (0 : Int32).toInt = 0 := rfl; omega)
              rw [show (cn).toNatClampNeg = Ln from own_clamp hcL] at q
              exact q
            have r72 : own_R p.tables e below F0 (T72.setTop (mkF m 45 #[.val (.ref a1), .val (.int p1), .val (.int cn), .val (.int av), .unset, .unset] [(.ref b72)])) := fun tg_ kg_ => r71 tg_ (st72 tg_ kg_)
            have r81 : own_R p.tables e below F0 (T72.setTop (mkF m 54 #[.val (.ref a1), .val (.int p1), .val (.int cn), .val (.ref b72), .val (.int p1), .val (.int (cn - (1 : Int32)))] [])) := fun tg_ kg_ => by
              refine r72 tg_ ?_
              show Steps p.tables e below (T72.setTop (mkF m 45 #[.val (.ref a1), .val (.int p1), .val (.int cn), .val (.int av), .unset, .unset] [(.ref b72)])) _
              refine XS.astoreN X72.here hx rfl (hb hby d4_45) rfl rfl (l' := #[.val (.ref a1), .val (.int p1), .val (.int cn), .val (.ref b72), .unset, .unset]) rfl ?_
              show Steps p.tables e below (T72.setTop (mkF m 46 #[.val (.ref a1), .val (.int p1), .val (.int cn), .val (.ref b72), .unset, .unset] [])) _
              refine XS.iloadN X72.here hx rfl (hb hby d4_46) rfl ?_
              show Steps p.tables e below (T72.setTop (mkF m 47 #[.val (.ref a1), .val (.int p1), .val (.int cn), .val (.ref b72), .unset, .unset] [(.int p1)])) _
              refine XS.istore X72.here hx rfl (hb hby d4_47) rfl (l' := #[.val (.ref a1), .val (.int p1), .val (.int cn), .val (.ref b72), .val (.int p1), .unset]) rfl ?_
              show Steps p.tables e below (T72.setTop (mkF m 49 #[.val (.ref a1), .val (.int p1), .val (.int cn), .val (.ref b72), .val (.int p1), .unset] [])) _
              refine XS.iloadN X72.here hx rfl (hb hby d4_49) rfl ?_
              show Steps p.tables e below (T72.setTop (mkF m 50 #[.val (.ref a1), .val (.int p1), .val (.int cn), .val (.ref b72), .val (.int p1), .unset] [(.int cn)])) _
              refine XS.iconst X72.here hx rfl (hb hby d4_50) ?_
              show Steps p.tables e below (T72.setTop (mkF m 51 #[.val (.ref a1), .val (.int p1), .val (.int cn), .val (.ref b72), .val (.int p1), .unset] [(.int (1 : Int32)), (.int cn)])) _
              refine XS.isub X72.here hx rfl (hb hby d4_51) rfl ?_
              show Steps p.tables e below (T72.setTop (mkF m 52 #[.val (.ref a1), .val (.int p1), .val (.int cn), .val (.ref b72), .val (.int p1), .unset] [(.int (cn - (1 : Int32)))])) _
              refine XS.istore X72.here hx rfl (hb hby d4_52) rfl (l' := #[.val (.ref a1), .val (.int p1), .val (.int cn), .val (.ref b72), .val (.int p1), .val (.int (cn - (1 : Int32)))]) rfl ?_
              exact kg_
            have J82 : ∀ (k97 : Nat) (a4 : Int32) (i5 : Int32) (k : Nat) (gr : Nat → Int32) (T83 : State) (lo90 : List Loc) (h85 : Heap) (X84 : Stand p l e ({ frames := 0, cells := 1, slots := 4, locals := 0 } : Room) s m #[(.ref a1), (.int p1)] below meth c T83 lo90 1 4) (e86 : T83.heap = h85) (N87 : Fr n0 lo90) (Zs88 : n0 ≤ h85.size) (K89 : Keep h0 h85 []) (F91 : Exa Z h85 a1 "org/fractile/graph/PathTree") (F92 : Fld Z h85 a1 "org/fractile/graph/PathTree" "predecessor" "[I" (.ref ap)) (F93 : own_Arf Z h85 ap .int 4 (fun i => (.int (gp i)))) (F94 : own_Arf Z h85 b72 .int Ln (fun i => (.int (gr i)))) (hi5 : i5.toInt = (Ln : Int) - 1 - k) (hk : k ≤ Ln) (ha4 : k < Ln → a4.toInt = ch k) (hgr : ∀ q, q < k → (gr (Ln - 1 - q)).toInt = ch q) (_ : Ln - k = k97) (r95 : own_R p.tables e below F0 (T83.setTop (mkF m 54 #[.val (.ref a1), .val (.int p1), .val (.int cn), .val (.ref b72), .val (.int a4), .val (.int i5)] []))), G := by
              intro k97
              induction k97 using Nat.strongRecOn with
              | ind k97 ih96 =>
                intro a4 i5 k gr T83 lo90 h85 X84 e86 N87 Zs88 K89 F91 F92 F93 F94 hi5 hk ha4 hgr hm98 r95
                have r99 : own_R p.tables e below F0 (T83.setTop (mkF m 56 #[.val (.ref a1), .val (.int p1), .val (.int cn), .val (.ref b72), .val (.int a4), .val (.int i5)] [(.int i5)])) := fun tg_ kg_ => by
                  refine r95 tg_ ?_
                  show Steps p.tables e below (T83.setTop (mkF m 54 #[.val (.ref a1), .val (.int p1), .val (.int cn), .val (.ref b72), .val (.int a4), .val (.int i5)] [])) _
                  refine XS.iload X84.here hx rfl (hb hby d4_54) rfl ?_
                  exact kg_
                by_cases hc100 : i5 < (0 : Int32)
                · have r101 : own_R p.tables e below F0 (T83.setTop (mkF m 81 #[.val (.ref a1), .val (.int p1), .val (.int cn), .val (.ref b72), .val (.int a4), .val (.int i5)] [(.ref b72)])) := fun tg_ kg_ => by
                    refine r99 tg_ ?_
                    show Steps p.tables e below (T83.setTop (mkF m 56 #[.val (.ref a1), .val (.int p1), .val (.int cn), .val (.ref b72), .val (.int a4), .val (.int i5)] [(.int i5)])) _
                    refine XS.ifYes X84.here hx rfl (pc0 := 56) (pc' := 80) rfl (hb hby d4_56) rfl ((if0 _ _).trans (tlt hc100).1) (by decide) (by decide) ?_
                    show Steps p.tables e below (T83.setTop (mkF m 80 #[.val (.ref a1), .val (.int p1), .val (.int cn), .val (.ref b72), .val (.int a4), .val (.int i5)] [])) _
                    refine XS.aloadN X84.here hx rfl (hb hby d4_80) rfl rfl ?_
                    exact kg_
                  refine hG (own_fin X84 hlk (some (.ref b72)) (own_hv Bd.returns) ?_ (by decide) (by decide) (fun fs hr => r101 _ (retOut X84 hx Bd.returns rfl (Or.inr (Or.inr (Or.inr (Or.inr ⟨rfl, rfl, rfl⟩)))) (hb hby d4_81) hr)))
                  rw [e86]
                  refine ⟨b72, Ln, gr, ?_, N87, K89, old72, F94, (by
                        have q14_r := own_R32 i5
                        have q15_e : (0 : Int32).toInt = 0 := (by decide)
                        have q15_r : (0 : Int) ≤ (0 : Int32).toInt ∧ (0 : Int32).toInt ≤ 0 := ⟨Int.le_of_eq q15_e.symm, Int.le_of_eq q15_e⟩
                        have q16_c := own_lt32 hc100
                        have hkl : k = Ln := by omega
                        subst hkl
                        exact Or.inr ⟨hnf, rfl, hgr⟩)⟩
                  rfl
                · have r102 : own_R p.tables e below F0 (T83.setTop (mkF m 59 #[.val (.ref a1), .val (.int p1), .val (.int cn), .val (.ref b72), .val (.int a4), .val (.int i5)] [])) := fun tg_ kg_ => by
                    refine r99 tg_ ?_
                    show Steps p.tables e below (T83.setTop (mkF m 56 #[.val (.ref a1), .val (.int p1), .val (.int cn), .val (.ref b72), .val (.int a4), .val (.int i5)] [(.int i5)])) _
                    refine XS.ifNo X84.here hx rfl (hb hby d4_56) rfl ((if0 _ _).trans (flt hc100).1) ?_
                    exact kg_
                  have q17_r := own_R32 i5
                  have q18_e : (0 : Int32).toInt = 0 := (by decide)
                  have q18_r : (0 : Int) ≤ (0 : Int32).toInt ∧ (0 : Int32).toInt ≤ 0 := ⟨Int.le_of_eq q18_e.symm, Int.le_of_eq q18_e⟩
                  have q19_c := own_nlt32 hc100
                  have hkL : k < Ln := by omega
                  have hk4 := hc4 k hkL
                  have ha := ha4 hkL
                  have r103 : own_R p.tables e below F0 (T83.setTop (mkF m 64 #[.val (.ref a1), .val (.int p1), .val (.int cn), .val (.ref b72), .val (.int a4), .val (.int i5)] [(.int a4), (.int i5), (.ref b72)])) := fun tg_ kg_ => by
                    refine r102 tg_ ?_
                    show Steps p.tables e below (T83.setTop (mkF m 59 #[.val (.ref a1), .val (.int p1), .val (.int cn), .val (.ref b72), .val (.int a4), .val (.int i5)] [])) _
                    refine XS.aloadN X84.here hx rfl (hb hby d4_59) rfl rfl ?_
                    show Steps p.tables e below (T83.setTop (mkF m 60 #[.val (.ref a1), .val (.int p1), .val (.int cn), .val (.ref b72), .val (.int a4), .val (.int i5)] [(.ref b72)])) _
                    refine XS.iload X84.here hx rfl (hb hby d4_60) rfl ?_
                    show Steps p.tables e below (T83.setTop (mkF m 62 #[.val (.ref a1), .val (.int p1), .val (.int cn), .val (.ref b72), .val (.int a4), .val (.int i5)] [(.int i5), (.ref b72)])) _
                    refine XS.iload X84.here hx rfl (hb hby d4_62) rfl ?_
                    exact kg_
                  obtain ⟨T104, h104, X104, e104, W104, V104, st104⟩ := own_stI X84 hx hZ e86 (j := i5) F94 (by omega) (by omega) (g := (mkF m 64 #[.val (.ref a1), .val (.int p1), .val (.int cn), .val (.ref b72), .val (.int a4), .val (.int i5)] [(.int a4), (.int i5), (.ref b72)])) rfl rfl (hb hby d4_64)
                  rw [show (i5).toNatClampNeg = (Ln - 1 - k) from own_clamp (by omega)] at V104
                  obtain ⟨gf104, hgf104, V104'⟩ := own_nameI (g := gr) V104
                  have F105 : Exa Z h104 a1 "org/fractile/graph/PathTree" := F91.wr W104
                  have F106 : Fld Z h104 a1 "org/fractile/graph/PathTree" "predecessor" "[I" (.ref ap) := F92.other W104 (Or.inl ne73)
                  have F107 : own_Arf Z h104 ap .int 4 (fun i => (.int (gp i))) := F93.other W104 ne74
                  have F108 : own_Arf Z h104 b72 .int Ln (fun i => (.int (gf104 i))) := V104'
                  have Zs109 : n0 ≤ h104.size := by rw [W104.size]; exact Zs88
                  have N110 := Fr.snoc X104 N87 ge72
                  have K111 : Keep h0 h104 [] := K89.wr W104 (Or.inr old72)
                  have r104 : own_R p.tables e below F0 (T104.setTop (mkF m 65 #[.val (.ref a1), .val (.int p1), .val (.int cn), .val (.ref b72), .val (.int a4), .val (.int i5)] [])) := fun tg_ kg_ => r103 tg_ (st104 tg_ kg_)
                  have r112 : own_R p.tables e below F0 (T104.setTop (mkF m 66 #[.val (.ref a1), .val (.int p1), .val (.int cn), .val (.ref b72), .val (.int a4), .val (.int i5)] [(.ref a1)])) := fun tg_ kg_ => by
                    refine r104 tg_ ?_
                    show Steps p.tables e below (T104.setTop (mkF m 65 #[.val (.ref a1), .val (.int p1), .val (.int cn), .val (.ref b72), .val (.int a4), .val (.int i5)] [])) _
                    refine XS.aloadN X104.here hx rfl (hb hby d4_65) rfl rfl ?_
                    exact kg_
                  obtain ⟨T113, X113, e113, st113⟩ := getF X104 hx hZ hown (host := "") (Or.inl (hw _ (List.mem_of_getElem? (i := 21) rfl))) Via.refl e104 F106 (g := (mkF m 66 #[.val (.ref a1), .val (.int p1), .val (.int cn), .val (.ref b72), .val (.int a4), .val (.int i5)] [(.ref a1)])) rfl rfl (hb hby d4_66)
                  have r113 : own_R p.tables e below F0 (T113.setTop (mkF m 69 #[.val (.ref a1), .val (.int p1), .val (.int cn), .val (.ref b72), .val (.int a4), .val (.int i5)] [(.ref ap)])) := fun tg_ kg_ => r112 tg_ (st113 tg_ kg_)
                  have r114 : own_R p.tables e below F0 (T113.setTop (mkF m 54 #[.val (.ref a1), .val (.int p1), .val (.int cn), .val (.ref b72), .val (.int (gp (ch k))), .val (.int (i5 + (-1 : Int32)))] [])) := fun tg_ kg_ => by
                    refine r113 tg_ ?_
                    show Steps p.tables e below (T113.setTop (mkF m 69 #[.val (.ref a1), .val (.int p1), .val (.int cn), .val (.ref b72), .val (.int a4), .val (.int i5)] [(.ref ap)])) _
                    refine XS.iload X113.here hx rfl (hb hby d4_69) rfl ?_
                    show Steps p.tables e below (T113.setTop (mkF m 71 #[.val (.ref a1), .val (.int p1), .val (.int cn), .val (.ref b72), .val (.int a4), .val (.int i5)] [(.int a4), (.ref ap)])) _
                    refine own_iaload X113 hx hZ e113 (j := a4) F107 (by omega) (by omega) (w := (.int (gp (ch k)))) (congrArg (fun j => Value.int (gp j)) (own_clamp ha)) (g := (mkF m 71 #[.val (.ref a1), .val (.int p1), .val (.int cn), .val (.ref b72), .val (.int a4), .val (.int i5)] [(.int a4), (.ref ap)])) rfl rfl (hb hby d4_71) _ ?_
                    show Steps p.tables e below (T113.setTop (mkF m 72 #[.val (.ref a1), .val (.int p1), .val (.int cn), .val (.ref b72), .val (.int a4), .val (.int i5)] [(.int (gp (ch k)))])) _
                    refine XS.istore X113.here hx rfl (hb hby d4_72) rfl (l' := #[.val (.ref a1), .val (.int p1), .val (.int cn), .val (.ref b72), .val (.int (gp (ch k))), .val (.int i5)]) rfl ?_
                    show Steps p.tables e below (T113.setTop (mkF m 74 #[.val (.ref a1), .val (.int p1), .val (.int cn), .val (.ref b72), .val (.int (gp (ch k))), .val (.int i5)] [])) _
                    refine XS.iinc X113.here hx rfl (hb hby d4_74) rfl (l' := #[.val (.ref a1), .val (.int p1), .val (.int cn), .val (.ref b72), .val (.int (gp (ch k))), .val (.int (i5 + (-1 : Int32)))]) rfl ?_
                    show Steps p.tables e below (T113.setTop (mkF m 77 #[.val (.ref a1), .val (.int p1), .val (.int cn), .val (.ref b72), .val (.int (gp (ch k))), .val (.int (i5 + (-1 : Int32)))] [])) _
                    refine XS.goto X113.here hx rfl (pc0 := 77) (pc' := 54) rfl (hb hby d4_77) (by decide) (by decide) ?_
                    exact kg_
                  exact ih96 _ (by exact own_mless (by assumption) hkL) (gp (ch k)) (i5 + (-1 : Int32)) (k + 1) gf104 T113 _ _ X113 e113 N110 Zs109 K111 F105 F106 F107 F108 (own_dec1 hi5 hkL) hkL (fun q => (hc6 k q).2) (own_gr4 hgf104 hkL (ha4 hkL) hgr) rfl r114
            exact J82 _ p1 (cn - (1 : Int32)) 0 (fun _ => (0 : Int32)) T72 _ _ X72 e72 N55 Zs79 K72 F75 F77 F78 F80 (own_dec2 hcL hc1) (Nat.zero_le _) (fun _ => by rw [hc3]; exact hP.1) (fun q hq => absurd hq (Nat.not_lt_zero _)) rfl r81
          · have r115 : own_R p.tables e below F0 (T68.setTop (mkF m 29 #[.val (.ref a1), .val (.int p1), .val (.int cn), .val (.int av), .unset, .unset] [])) := fun tg_ kg_ => by
              refine r68 tg_ ?_
              show Steps p.tables e below (T68.setTop (mkF m 26 #[.val (.ref a1), .val (.int p1), .val (.int cn), .val (.int av), .unset, .unset] [(.int sr), (.int av)])) _
              refine XS.icmpNo X68.here hx rfl (hb hby d4_26) rfl (feq hc69).1 ?_
              exact kg_
            have hjl : j + 1 < Ln := by
              rcases Nat.lt_or_eq_of_le (show j + 1 ≤ Ln from hj) with q | q
              · exact q
              · exact absurd (own_i32 (by rw [hav, hc5, show Ln - 1 = j by omega]) sr rfl) hc69
            have hj4 := hc4 j hj
            have r116 : own_R p.tables e below F0 (T68.setTop (mkF m 33 #[.val (.ref a1), .val (.int p1), .val (.int (cn + (1 : Int32))), .val (.int av), .unset, .unset] [(.ref a1)])) := fun tg_ kg_ => by
              refine r115 tg_ ?_
              show Steps p.tables e below (T68.setTop (mkF m 29 #[.val (.ref a1), .val (.int p1), .val (.int cn), .val (.int av), .unset, .unset] [])) _
              refine XS.iinc X68.here hx rfl (hb hby d4_29) rfl (l' := #[.val (.ref a1), .val (.int p1), .val (.int (cn + (1 : Int32))), .val (.int av), .unset, .unset]) rfl ?_
              show Steps p.tables e below (T68.setTop (mkF m 32 #[.val (.ref a1), .val (.int p1), .val (.int (cn + (1 : Int32))), .val (.int av), .unset, .unset] [])) _
              refine XS.aloadN X68.here hx rfl (hb hby d4_32) rfl rfl ?_
              exact kg_
            obtain ⟨T117, X117, e117, st117⟩ := getF X68 hx hZ hown (host := "") (Or.inl (hw _ (List.mem_of_getElem? (i := 21) rfl))) Via.refl e68 F61 (g := (mkF m 33 #[.val (.ref a1), .val (.int p1), .val (.int (cn + (1 : Int32))), .val (.int av), .unset, .unset] [(.ref a1)])) rfl rfl (hb hby d4_33)
            have r117 : own_R p.tables e below F0 (T117.setTop (mkF m 36 #[.val (.ref a1), .val (.int p1), .val (.int (cn + (1 : Int32))), .val (.int av), .unset, .unset] [(.ref ap)])) := fun tg_ kg_ => r116 tg_ (st117 tg_ kg_)
            have r118 : own_R p.tables e below F0 (T117.setTop (mkF m 21 #[.val (.ref a1), .val (.int p1), .val (.int (cn + (1 : Int32))), .val (.int (gp (ch j))), .unset, .unset] [])) := fun tg_ kg_ => by
              refine r117 tg_ ?_
              show Steps p.tables e below (T117.setTop (mkF m 36 #[.val (.ref a1), .val (.int p1), .val (.int (cn + (1 : Int32))), .val (.int av), .unset, .unset] [(.ref ap)])) _
              refine XS.iloadN X117.here hx rfl (hb hby d4_36) rfl ?_
              show Steps p.tables e below (T117.setTop (mkF m 37 #[.val (.ref a1), .val (.int p1), .val (.int (cn + (1 : Int32))), .val (.int av), .unset, .unset] [(.int av), (.ref ap)])) _
              refine own_iaload X117 hx hZ e117 (j := av) F62 (by omega) (by omega) (w := (.int (gp (ch j)))) (congrArg (fun j => Value.int (gp j)) (own_clamp hav)) (g := (mkF m 37 #[.val (.ref a1), .val (.int p1), .val (.int (cn + (1 : Int32))), .val (.int av), .unset, .unset] [(.int av), (.ref ap)])) rfl rfl (hb hby d4_37) _ ?_
              show Steps p.tables e below (T117.setTop (mkF m 38 #[.val (.ref a1), .val (.int p1), .val (.int (cn + (1 : Int32))), .val (.int av), .unset, .unset] [(.int (gp (ch j)))])) _
              refine XS.istoreN X117.here hx rfl (hb hby d4_38) rfl (l' := #[.val (.ref a1), .val (.int p1), .val (.int (cn + (1 : Int32))), .val (.int (gp (ch j))), .unset, .unset]) rfl ?_
              show Steps p.tables e below (T117.setTop (mkF m 39 #[.val (.ref a1), .val (.int p1), .val (.int (cn + (1 : Int32))), .val (.int (gp (ch j))), .unset, .unset] [])) _
              refine XS.goto X117.here hx rfl (pc0 := 39) (pc' := 21) rfl (hb hby d4_39) (by decide) (by decide) ?_
              exact kg_
            have q20_r := own_R32 av
            have q21_r := own_R32 sr
            have q22_r := own_R32 cn
            have q23_e : (1 : Int32).toInt = 1 := (by decide)
            have q23_r : (1 : Int) ≤ (1 : Int32).toInt ∧ (1 : Int32).toInt ≤ 1 := ⟨Int.le_of_eq q23_e.symm, Int.le_of_eq q23_e⟩
            have q24_r := own_R32 (cn + (1 : Int32))
            have q25_ := c_iadd cn (1 : Int32)
            have q26_c := own_ne32 hc69
            exact ih64 _ (by exact own_mless (by assumption) hj) (cn + (1 : Int32)) (gp (ch j)) (j + 1) T117 _ _ X117 e117 N55 Zs56 K57 F59 F60 F61 F62 (by omega) (hc6 j hjl).2 hjl rfl r118
      exact J50 _ (1 : Int32) p1 0 T32 _ _ X32 e32 N0 Z0 K0 E1 F1 F3 A2 (by decide) (by rw [hc3]; exact hP.1) (by omega) rfl r49
  exact key _ _ id (fun t k => castTop (ef_4 m a1 p1) k)
def own_dd (d : Int) : Prop := d = 1 ∨ d = 3
def own_01 (a : Int) : Prop := a = 0 ∨ a = 1
def own_012 (a : Int) : Prop := a = 0 ∨ a = 1 ∨ a = 2
def own_i2 (p2 i1 i2 : Int) : Prop := (i2 = 0 ∨ i2 = 1) ∧ (p2 = 1 → i1 = 1 → i2 = 1)
def own_i3 (p3 i1 i2 i3 : Int) : Prop := (i3 = 0 ∨ i3 = 1) ∧ (p3 = 1 → i1 = 1 → i3 = 1) ∧ (p3 = 2 → i2 = 1 → i3 = 1)
def own_Vf (d S V0 V1 V2 V3 : Int) : Prop := (d = 1 ∧ V0 = S ∧ V1 = (S + 1) % 4 ∧ V2 = (S + 2) % 4 ∧ V3 = (S + 3) % 4) ∨ (d = 3 ∧ V0 = S ∧ V1 = (S + 3) % 4 ∧ V2 = (S + 6) % 4 ∧ V3 = (S + 9) % 4)
def own_Vs (V0 V1 V2 V3 : Nat) : Prop := V0 < 4 ∧ V1 < 4 ∧ V2 < 4 ∧ V3 < 4 ∧ V0 ≠ V1 ∧ V0 ≠ V2 ∧ V0 ≠ V3 ∧ V1 ≠ V2 ∧ V1 ≠ V3 ∧ V2 ≠ V3
def own_iR (r iR i1 i2 i3 : Int) : Prop := (r = 0 → iR = 0) ∧ (r = 1 → iR = i1) ∧ (r = 2 → iR = i2) ∧ (r = 3 → iR = i3)
def own_O (r p2 p3 i1 i2 i3 Ln g0 g1 g2 g3 V0 V1 V2 V3 : Int) : Prop := (r = 0 ∧ Ln = 1 ∧ g0 = V0) ∨ (r = 1 ∧ i1 = 1 ∧ Ln = 0) ∨ (r = 1 ∧ i1 = 0 ∧ Ln = 2 ∧ g1 = V1 ∧ g0 = V0) ∨ (r = 2 ∧ i2 = 1 ∧ Ln = 0) ∨ (r = 2 ∧ i2 = 0 ∧ p2 = 0 ∧ Ln = 2 ∧ g1 = V2 ∧ g0 = V0) ∨ (r = 2 ∧ i2 = 0 ∧ p2 = 1 ∧ Ln = 3 ∧ g2 = V2 ∧ g1 = V1 ∧ g0 = V0) ∨ (r = 3 ∧ i3 = 1 ∧ Ln = 0) ∨ (r = 3 ∧ i3 = 0 ∧ p3 = 0 ∧ Ln = 2 ∧ g1 = V3 ∧ g0 = V0) ∨ (r = 3 ∧ i3 = 0 ∧ p3 = 1 ∧ Ln = 3 ∧ g2 = V3 ∧ g1 = V1 ∧ g0 = V0) ∨ (r = 3 ∧ i3 = 0 ∧ p3 = 2 ∧ p2 = 0 ∧ Ln = 3 ∧ g2 = V3 ∧ g1 = V2 ∧ g0 = V0) ∨ (r = 3 ∧ i3 = 0 ∧ p3 = 2 ∧ p2 = 1 ∧ Ln = 4 ∧ g3 = V3 ∧ g2 = V2 ∧ g1 = V1 ∧ g0 = V0)
def own_L (r p2 p3 ln e1 e2 e3 : Int) : Prop := (r = 0 ∧ ln = 1) ∨ (r = 1 ∧ ln = 2 ∧ e1 = 1) ∨ (r = 2 ∧ p2 = 0 ∧ ln = 2 ∧ e1 = 2) ∨ (r = 2 ∧ p2 = 1 ∧ ln = 3 ∧ e1 = 1 ∧ e2 = 2) ∨ (r = 3 ∧ p3 = 0 ∧ ln = 2 ∧ e1 = 3) ∨ (r = 3 ∧ p3 = 1 ∧ ln = 3 ∧ e1 = 1 ∧ e2 = 3) ∨ (r = 3 ∧ p3 = 2 ∧ p2 = 0 ∧ ln = 3 ∧ e1 = 2 ∧ e2 = 3) ∨ (r = 3 ∧ p3 = 2 ∧ p2 = 1 ∧ ln = 4 ∧ e1 = 1 ∧ e2 = 2 ∧ e3 = 3)
def own_T (d S Ln ln e1 e2 e3 g0 g1 g2 g3 : Int) : Prop := Ln = ln ∧ g0 = S ∧ (2 ≤ ln → (0 ≤ e1 ∧ e1 ≤ 3) ∧ (d = 1 → g1 = (S + e1) % 4) ∧ (d = 3 → g1 = (S + 3 * e1) % 4)) ∧ (3 ≤ ln → (0 ≤ e2 ∧ e2 ≤ 3) ∧ (d = 1 → g2 = (S + e2) % 4) ∧ (d = 3 → g2 = (S + 3 * e2) % 4)) ∧ (4 ≤ ln → (0 ≤ e3 ∧ e3 ≤ 3) ∧ (d = 1 → g3 = (S + e3) % 4) ∧ (d = 3 → g3 = (S + 3 * e3) % 4))
def own_Dd (gd : Nat → UInt64) (i1 i2 i3 : Int) (V0 V1 V2 V3 : Nat) : Prop := own_nf (gd V0) ∧ ((i1 = 0 → own_nf (gd V1)) ∧ (i1 = 1 → gd V1 = (9218868437227405312 : UInt64))) ∧ ((i2 = 0 → own_nf (gd V2)) ∧ (i2 = 1 → gd V2 = (9218868437227405312 : UInt64))) ∧ ((i3 = 0 → own_nf (gd V3)) ∧ (i3 = 1 → gd V3 = (9218868437227405312 : UInt64)))
def own_Pd (gp : Nat → Int32) (p2 p3 i1 i2 i3 : Int) (V1 V2 V3 : Nat) (v0 v1 v2 : Int32) : Prop := (i1 = 0 → gp V1 = v0) ∧ (i2 = 0 → (p2 = 0 → gp V2 = v0) ∧ (p2 = 1 → gp V2 = v1)) ∧ (i3 = 0 → (p3 = 0 → gp V3 = v0) ∧ (p3 = 1 → gp V3 = v1) ∧ (p3 = 2 → gp V3 = v2))
def own_rr (r : Int) (P V0 V1 V2 V3 : Nat) : Prop := (r = 0 ∧ P = V0) ∨ (r = 1 ∧ P = V1) ∨ (r = 2 ∧ P = V2) ∨ (r = 3 ∧ P = V3)
theorem own_ddb {d : Int} (h : own_dd d) : 1 ≤ d ∧ d ≤ 3 := by unfold own_dd at h; omega
theorem own_01b {d : Int} (h : own_01 d) : 0 ≤ d ∧ d ≤ 1 := by unfold own_01 at h; omega
theorem own_012b {d : Int} (h : own_012 d) : 0 ≤ d ∧ d ≤ 2 := by unfold own_012 at h; omega
theorem own_Nl {r p2 p3 i1 i2 i3 Ln g0 g1 g2 g3 V0 V1 V2 V3 : Int} (h : own_O r p2 p3 i1 i2 i3 Ln g0 g1 g2 g3 V0 V1 V2 V3) : Ln ≤ 4 := by
  rcases h with q | q | q | q | q | q | q | q | q | q | q <;> omega
theorem own_l1 {r p2 p3 ln e1 e2 e3 : Int} (h : own_L r p2 p3 ln e1 e2 e3) : 1 ≤ ln := by
  rcases h with q | q | q | q | q | q | q | q <;> omega
theorem own_len0 {r p2 p3 iR i1 i2 i3 Ln g0 g1 g2 g3 V0 V1 V2 V3 : Int} (hi : own_iR r iR i1 i2 i3) (h : own_O r p2 p3 i1 i2 i3 Ln g0 g1 g2 g3 V0 V1 V2 V3) (hn : ¬ iR = 0) : Ln = 0 := by
  obtain ⟨k0, k1, k2, k3⟩ := hi
  rcases h with q | q | q | q | q | q | q | q | q | q | q <;> omega
theorem own_tailI {r p2 p3 i1 i2 i3 iR Ln ln e1 e2 e3 g0 g1 g2 g3 V0 V1 V2 V3 S d : Int}
    (hV : own_Vf d S V0 V1 V2 V3) (hi : own_iR r iR i1 i2 i3) (h0 : iR = 0) (ho : own_O r p2 p3 i1 i2 i3 Ln g0 g1 g2 g3 V0 V1 V2 V3) (hl : own_L r p2 p3 ln e1 e2 e3) : own_T d S Ln ln e1 e2 e3 g0 g1 g2 g3 := by
  show Ln = ln ∧ g0 = S ∧ (2 ≤ ln → (0 ≤ e1 ∧ e1 ≤ 3) ∧ (d = 1 → g1 = (S + e1) % 4) ∧ (d = 3 → g1 = (S + 3 * e1) % 4)) ∧ (3 ≤ ln → (0 ≤ e2 ∧ e2 ≤ 3) ∧ (d = 1 → g2 = (S + e2) % 4) ∧ (d = 3 → g2 = (S + 3 * e2) % 4)) ∧ (4 ≤ ln → (0 ≤ e3 ∧ e3 ≤ 3) ∧ (d = 1 → g3 = (S + e3) % 4) ∧ (d = 3 → g3 = (S + 3 * e3) % 4))
  obtain ⟨k0, k1, k2, k3⟩ := hi
  rcases hl with h | h | h | h | h | h | h | h <;> rcases ho with q | q | q | q | q | q | q | q | q | q | q <;> first | (exfalso; clear hV; omega) | (rcases hV with z | z <;> refine ⟨by omega, by omega, fun _ => ?_, fun _ => ?_, fun _ => ?_⟩ <;> first | (exfalso; omega) | (refine ⟨by omega, fun _ => ?_, fun _ => ?_⟩ <;> first | (exfalso; omega) | omega))
theorem own_vertI (S e d : Int32) (hS : 0 ≤ S.toInt ∧ S.toInt ≤ 3) (he : 0 ≤ e.toInt ∧ e.toInt ≤ 3) : (d.toInt = 1 → ((S + (e * d)) &&& (3 : Int32)).toInt = (S.toInt + e.toInt) % 4) ∧ (d.toInt = 3 → ((S + (e * d)) &&& (3 : Int32)).toInt = (S.toInt + 3 * e.toInt) % 4) := by
  have m := own_mask (S + (e * d)) 3 2 4 (by decide) (by decide) (by decide)
  constructor
  · intro hd
    have a := own_imulc e d 1 hd
    have b := rng32 (e * d)
    have c := c_iadd S (e * d)
    have f := rng32 (S + (e * d))
    omega
  · intro hd
    have a := own_imulc e d 3 hd
    have b := rng32 (e * d)
    have c := c_iadd S (e * d)
    have f := rng32 (S + (e * d))
    omega
theorem own_vs {S d v0 v1 v2 v3 : Int32} (hS : 0 ≤ S.toInt ∧ S.toInt ≤ 3) (hdd : own_dd d.toInt) (e0 : v0 = ((S + ((0 : Int32) * d)) &&& (3 : Int32))) (e1 : v1 = ((S + ((1 : Int32) * d)) &&& (3 : Int32))) (e2 : v2 = ((S + ((2 : Int32) * d)) &&& (3 : Int32))) (e3 : v3 = ((S + ((3 : Int32) * d)) &&& (3 : Int32))) :
    ∃ V0 V1 V2 V3 : Nat, v0.toInt = V0 ∧ v1.toInt = V1 ∧ v2.toInt = V2 ∧ v3.toInt = V3 ∧ V0 < 4 ∧ V1 < 4 ∧ V2 < 4 ∧ V3 < 4 ∧ own_Vf d.toInt S.toInt V0 V1 V2 V3 ∧ own_Vs V0 V1 V2 V3 := by
  have a0 := own_vertI S 0 d hS (by decide)
  have a1 := own_vertI S 1 d hS (by decide)
  have a2 := own_vertI S 2 d hS (by decide)
  have a3 := own_vertI S 3 d hS (by decide)
  rw [← e0] at a0; rw [← e1] at a1; rw [← e2] at a2; rw [← e3] at a3
  have l0 : (0 : Int32).toInt = 0 := rfl
  have l1 : (1 : Int32).toInt = 1 := rfl
  have l2 : (2 : Int32).toInt = 2 := rfl
  have l3 : (3 : Int32).toInt = 3 := rfl
  rw [l0] at a0; rw [l1] at a1; rw [l2] at a2; rw [l3] at a3
  rcases hdd with q | q
  · have b0 := a0.1 q
    have b1 := a1.1 q
    have b2 := a2.1 q
    have b3 := a3.1 q
    clear a0 a1 a2 a3 e0 e1 e2 e3
    refine ⟨v0.toInt.toNat, v1.toInt.toNat, v2.toInt.toNat, v3.toInt.toNat, by omega, by omega, by omega, by omega, by omega, by omega, by omega, by omega, Or.inl ⟨q, by omega, by omega, by omega, by omega⟩, ?_⟩
    refine ⟨?_, ?_, ?_, ?_, ?_, ?_, ?_, ?_, ?_, ?_⟩ <;> omega
  · have b0 := a0.2 q
    have b1 := a1.2 q
    have b2 := a2.2 q
    have b3 := a3.2 q
    clear a0 a1 a2 a3 e0 e1 e2 e3
    refine ⟨v0.toInt.toNat, v1.toInt.toNat, v2.toInt.toNat, v3.toInt.toNat, by omega, by omega, by omega, by omega, by omega, by omega, by omega, by omega, Or.inr ⟨q, by omega, by omega, by omega, by omega⟩, ?_⟩
    refine ⟨?_, ?_, ?_, ?_, ?_, ?_, ?_, ?_, ?_, ?_⟩ <;> omega
theorem own_rI {S v r d V0 V1 V2 V3 : Int} (hS : 0 ≤ S ∧ S ≤ 3) (hv : 0 ≤ v ∧ v ≤ 3) (hr : r = ((v - S) * d) % 4) (hVf : own_Vf d S V0 V1 V2 V3) : (r = 0 ∧ v = V0) ∨ (r = 1 ∧ v = V1) ∨ (r = 2 ∧ v = V2) ∨ (r = 3 ∧ v = V3) := by
  have h1 : S = 0 ∨ S = 1 ∨ S = 2 ∨ S = 3 := by omega
  have h2 : v = 0 ∨ v = 1 ∨ v = 2 ∨ v = 3 := by omega
  rcases hVf with ⟨q, q0, q1, q2, q3⟩ | ⟨q, q0, q1, q2, q3⟩ <;> subst q <;> rcases h1 with rfl | rfl | rfl | rfl <;> rcases h2 with rfl | rfl | rfl | rfl <;> subst q0 q1 q2 q3 hr <;> decide
theorem own_rrP {S d v r p : Int32} {V0 V1 V2 V3 : Nat} (hS : 0 ≤ S.toInt ∧ S.toInt ≤ 3) (hdd : own_dd d.toInt) (hVf : own_Vf d.toInt S.toInt V0 V1 V2 V3) (hv : v = (p &&& (3 : Int32))) (hr : r = (((v - S) * d) &&& (3 : Int32))) :
    ∃ P : Nat, v.toInt = P ∧ P < 4 ∧ own_rr r.toInt P V0 V1 V2 V3 ∧ S.toInt = V0 ∧ 0 ≤ r.toInt ∧ r.toInt ≤ 3 := by
  have t := own_maskR p (3 : Int32) 2 4 (by decide) (by decide) (by decide) 3 (by decide) (by decide)
  rw [← hv] at t
  have t1 := own_maskR ((v - S) * d) (3 : Int32) 2 4 (by decide) (by decide) (by decide) 3 (by decide) (by decide)
  rw [← hr] at t1
  have t2 := own_isubR (x := v) (y := S) (-3) 3 t.2 hS (by decide) (by decide)
  have t3 : ((v - S) * d).toInt = (v.toInt - S.toInt) * d.toInt := by
    rcases hdd with q | q
    · rw [q, ← t2.1]; exact (own_imulR (-9) 9 t2.2 q (by decide) (by decide) (by decide)).1
    · rw [q, ← t2.1]; exact (own_imulR (-9) 9 t2.2 q (by decide) (by decide) (by decide)).1
  have t4 := own_rI (r := r.toInt) hS t.2 (by rw [t1.1, t3]) hVf
  have hSV : S.toInt = V0 := by rcases hVf with q | q <;> exact q.2.1.symm
  have hP : v.toInt = (v.toInt.toNat : Int) := (Int.toNat_of_nonneg t.2.1).symm
  refine ⟨v.toInt.toNat, hP, ?_, ?_, hSV, t1.2.1, t1.2.2⟩
  · have := t.2.2
    clear t1 t2 t3 t4 hVf hdd hr hv hSV
    omega
  · show (r.toInt = 0 ∧ v.toInt.toNat = V0) ∨ (r.toInt = 1 ∧ v.toInt.toNat = V1) ∨ (r.toInt = 2 ∧ v.toInt.toNat = V2) ∨ (r.toInt = 3 ∧ v.toInt.toNat = V3)
    rw [hP] at t4
    exact t4.imp (fun q => ⟨q.1, Int.ofNat.inj q.2⟩) (fun q => q.imp (fun q => ⟨q.1, Int.ofNat.inj q.2⟩) (fun q => q.imp (fun q => ⟨q.1, Int.ofNat.inj q.2⟩) (fun q => ⟨q.1, Int.ofNat.inj q.2⟩)))
def own_ch4 (a b c d : Nat) : Nat → Nat := fun j => if j = 0 then a else if j = 1 then b else if j = 2 then c else d
theorem own_one {gp : Nat → Int32} {S : Int32} (A : Nat) (hS : S.toInt = A) (hA : A < 4) : own_chain gp A S 1 (own_ch4 A 0 0 0) := ⟨by decide, by decide, rfl, fun j hj => by
      have : j = 0 := by omega
      subst this
      exact hA, hS, fun j hj => absurd hj (by omega)⟩
theorem own_two {gp : Nat → Int32} {S : Int32} (A B : Nat) (hS : S.toInt = B) (hA : A < 4) (hB : B < 4) (hne : A ≠ B) (hg : (gp A).toInt = B) : own_chain gp A S 2 (own_ch4 A B 0 0) := ⟨by decide, by decide, rfl, fun j hj => by
      have : j = 0 ∨ j = 1 := by omega
      rcases this with rfl | rfl
      · exact hA
      · exact hB, hS, fun j hj => by
      have : j = 0 := by omega
      subst this
      exact ⟨by show (A : Int) ≠ _; omega, hg⟩⟩
theorem own_three {gp : Nat → Int32} {S : Int32} (A B D : Nat) (hS : S.toInt = D) (hA : A < 4) (hB : B < 4) (hD : D < 4) (hne : A ≠ D) (hnB : B ≠ D) (hg : (gp A).toInt = B) (hg' : (gp B).toInt = D) : own_chain gp A S 3 (own_ch4 A B D 0) := ⟨by decide, by decide, rfl, fun j hj => by
      have : j = 0 ∨ j = 1 ∨ j = 2 := by omega
      rcases this with rfl | rfl | rfl
      · exact hA
      · exact hB
      · exact hD, hS, fun j hj => by
      have : j = 0 ∨ j = 1 := by omega
      rcases this with rfl | rfl
      · exact ⟨by show (A : Int) ≠ _; omega, hg⟩
      · exact ⟨by show (B : Int) ≠ _; omega, hg'⟩⟩
theorem own_four {gp : Nat → Int32} {S : Int32} (A B D E : Nat) (hS : S.toInt = E) (hA : A < 4) (hB : B < 4) (hD : D < 4) (hE : E < 4) (hne : A ≠ E) (hnB : B ≠ E) (hnD : D ≠ E) (hg : (gp A).toInt = B) (hg' : (gp B).toInt = D) (hg'' : (gp D).toInt = E) : own_chain gp A S 4 (own_ch4 A B D E) := ⟨by decide, by decide, rfl, fun j hj => by
      have : j = 0 ∨ j = 1 ∨ j = 2 ∨ j = 3 := by omega
      rcases this with rfl | rfl | rfl | rfl
      · exact hA
      · exact hB
      · exact hD
      · exact hE, hS, fun j hj => by
      have : j = 0 ∨ j = 1 ∨ j = 2 := by omega
      rcases this with rfl | rfl | rfl
      · exact ⟨by show (A : Int) ≠ _; omega, hg⟩
      · exact ⟨by show (B : Int) ≠ _; omega, hg'⟩
      · exact ⟨by show (D : Int) ≠ _; omega, hg''⟩⟩
theorem own_z {a : Int} (h : a = 0 ∨ a = 1) {b : Int} (hb : b = 0) (f : a = 1 → b = 1) : a = 0 := h.resolve_right (fun q => by have := f q; rw [hb] at this; exact absurd this (by decide))
theorem own_ex {r p2 p3 i1 i2 i3 : Int} {V0 V1 V2 V3 P : Nat} {S v0 v1 v2 : Int32} {gd : Nat → UInt64} {gp : Nat → Int32} (hS : S.toInt = V0) (h0 : v0.toInt = V0) (h1 : v1.toInt = V1) (h2 : v2.toInt = V2)
    (hVs : own_Vs V0 V1 V2 V3) (hp2 : own_01 p2) (hp3 : own_012 p3) (hi1 : own_01 i1) (hi2 : own_i2 p2 i1 i2) (hi3 : own_i3 p3 i1 i2 i3) (hD : own_Dd gd i1 i2 i3 V0 V1 V2 V3) (hPp : own_Pd gp p2 p3 i1 i2 i3 V1 V2 V3 v0 v1 v2) (hr : own_rr r P V0 V1 V2 V3) :
    ∃ (Ln : Nat) (ch : Nat → Nat), (gd P = (9218868437227405312 : UInt64) ∨ (own_nf (gd P) ∧ own_chain gp P S Ln ch)) ∧
      ∀ (Nl : Nat) (gr : Nat → Int32), ((gd P = (9218868437227405312 : UInt64) ∧ Nl = 0) ∨ (own_nf (gd P) ∧ Nl = Ln ∧ ∀ q, q < Ln → (gr (Ln - 1 - q)).toInt = ch q)) →
      own_O r p2 p3 i1 i2 i3 (Nl : Int) (gr 0).toInt (gr 1).toInt (gr 2).toInt (gr 3).toInt V0 V1 V2 V3 := by
  have inf : ∀ {x : UInt64}, x = (9218868437227405312 : UInt64) → ¬ own_nf x := fun q n => n (by rw [q]; exact own_inf)
  obtain ⟨b0, b1, b2, b3, n01, n02, n03, n12, n13, n23⟩ := hVs
  rcases hr with ⟨hr, rfl⟩ | ⟨hr, rfl⟩ | ⟨hr, rfl⟩ | ⟨hr, rfl⟩
  · refine ⟨1, own_ch4 P 0 0 0, Or.inr ⟨hD.1, own_one P hS b0⟩, fun Nl gr hh => ?_⟩
    rcases hh with ⟨x, -⟩ | ⟨-, x, y⟩
    · exact absurd (hD.1) (inf x)
    · exact Or.inl ⟨hr, congrArg Int.ofNat x, y 0 (by decide)⟩
  · rcases hi1 with z | z
    · refine ⟨2, own_ch4 P V0 0 0, Or.inr ⟨hD.2.1.1 z, own_two P V0 hS b1 b0 (Ne.symm n01) (by rw [hPp.1 z]; exact h0)⟩, fun Nl gr hh => ?_⟩
      rcases hh with ⟨x, -⟩ | ⟨-, x, y⟩
      · exact absurd (hD.2.1.1 z) (inf x)
      · exact Or.inr (Or.inr (Or.inl ⟨hr, z, congrArg Int.ofNat x, y 0 (by decide), y 1 (by decide)⟩))
    · refine ⟨0, fun _ => 0, Or.inl (hD.2.1.2 z), fun Nl gr hh => ?_⟩
      rcases hh with ⟨-, x⟩ | ⟨x, -⟩
      · exact Or.inr (Or.inl ⟨hr, z, congrArg Int.ofNat x⟩)
      · exact absurd x (inf (hD.2.1.2 z))
  · rcases hi2.1 with z | z
    · rcases hp2 with y2 | y2
      · refine ⟨2, own_ch4 P V0 0 0, Or.inr ⟨hD.2.2.1.1 z, own_two P V0 hS b2 b0 (Ne.symm n02) (by rw [(hPp.2.1 z).1 y2]; exact h0)⟩, fun Nl gr hh => ?_⟩
        rcases hh with ⟨x, -⟩ | ⟨-, x, y⟩
        · exact absurd (hD.2.2.1.1 z) (inf x)
        · exact Or.inr (Or.inr (Or.inr (Or.inr (Or.inl ⟨hr, z, y2, congrArg Int.ofNat x, y 0 (by decide), y 1 (by decide)⟩))))
      · have z1 : i1 = 0 := own_z hi1 z (hi2.2 y2)
        refine ⟨3, own_ch4 P V1 V0 0, Or.inr ⟨hD.2.2.1.1 z, own_three P V1 V0 hS b2 b1 b0 (Ne.symm n02) (Ne.symm n01) (by rw [(hPp.2.1 z).2 y2]; exact h1) (by rw [hPp.1 z1]; exact h0)⟩, fun Nl gr hh => ?_⟩
        rcases hh with ⟨x, -⟩ | ⟨-, x, y⟩
        · exact absurd (hD.2.2.1.1 z) (inf x)
        · exact Or.inr (Or.inr (Or.inr (Or.inr (Or.inr (Or.inl ⟨hr, z, y2, congrArg Int.ofNat x, y 0 (by decide), y 1 (by decide), y 2 (by decide)⟩)))))
    · refine ⟨0, fun _ => 0, Or.inl (hD.2.2.1.2 z), fun Nl gr hh => ?_⟩
      rcases hh with ⟨-, x⟩ | ⟨x, -⟩
      · exact Or.inr (Or.inr (Or.inr (Or.inl ⟨hr, z, congrArg Int.ofNat x⟩)))
      · exact absurd x (inf (hD.2.2.1.2 z))
  · rcases hi3.1 with z | z
    · rcases hp3 with y3 | y3 | y3
      · refine ⟨2, own_ch4 P V0 0 0, Or.inr ⟨hD.2.2.2.1 z, own_two P V0 hS b3 b0 (Ne.symm n03) (by rw [(hPp.2.2 z).1 y3]; exact h0)⟩, fun Nl gr hh => ?_⟩
        rcases hh with ⟨x, -⟩ | ⟨-, x, y⟩
        · exact absurd (hD.2.2.2.1 z) (inf x)
        · exact Or.inr (Or.inr (Or.inr (Or.inr (Or.inr (Or.inr (Or.inr (Or.inl ⟨hr, z, y3, congrArg Int.ofNat x, y 0 (by decide), y 1 (by decide)⟩)))))))
      · have z1 : i1 = 0 := own_z hi1 z (hi3.2.1 y3)
        refine ⟨3, own_ch4 P V1 V0 0, Or.inr ⟨hD.2.2.2.1 z, own_three P V1 V0 hS b3 b1 b0 (Ne.symm n03) (Ne.symm n01) (by rw [(hPp.2.2 z).2.1 y3]; exact h1) (by rw [hPp.1 z1]; exact h0)⟩, fun Nl gr hh => ?_⟩
        rcases hh with ⟨x, -⟩ | ⟨-, x, y⟩
        · exact absurd (hD.2.2.2.1 z) (inf x)
        · exact Or.inr (Or.inr (Or.inr (Or.inr (Or.inr (Or.inr (Or.inr (Or.inr (Or.inl ⟨hr, z, y3, congrArg Int.ofNat x, y 0 (by decide), y 1 (by decide), y 2 (by decide)⟩))))))))
      · have z2 : i2 = 0 := own_z hi2.1 z (hi3.2.2 y3)
        rcases hp2 with y2 | y2
        · refine ⟨3, own_ch4 P V2 V0 0, Or.inr ⟨hD.2.2.2.1 z, own_three P V2 V0 hS b3 b2 b0 (Ne.symm n03) (Ne.symm n02) (by rw [(hPp.2.2 z).2.2 y3]; exact h2) (by rw [(hPp.2.1 z2).1 y2]; exact h0)⟩, fun Nl gr hh => ?_⟩
          rcases hh with ⟨x, -⟩ | ⟨-, x, y⟩
          · exact absurd (hD.2.2.2.1 z) (inf x)
          · exact Or.inr (Or.inr (Or.inr (Or.inr (Or.inr (Or.inr (Or.inr (Or.inr (Or.inr (Or.inl ⟨hr, z, y3, y2, congrArg Int.ofNat x, y 0 (by decide), y 1 (by decide), y 2 (by decide)⟩)))))))))
        · have z1 : i1 = 0 := own_z hi1 z2 (hi2.2 y2)
          refine ⟨4, own_ch4 P V2 V1 V0, Or.inr ⟨hD.2.2.2.1 z, own_four P V2 V1 V0 hS b3 b2 b1 b0 (Ne.symm n03) (Ne.symm n02) (Ne.symm n01) (by rw [(hPp.2.2 z).2.2 y3]; exact h2) (by rw [(hPp.2.1 z2).2 y2]; exact h1) (by rw [hPp.1 z1]; exact h0)⟩, fun Nl gr hh => ?_⟩
          rcases hh with ⟨x, -⟩ | ⟨-, x, y⟩
          · exact absurd (hD.2.2.2.1 z) (inf x)
          · exact Or.inr (Or.inr (Or.inr (Or.inr (Or.inr (Or.inr (Or.inr (Or.inr (Or.inr (Or.inr (⟨hr, z, y3, y2, congrArg Int.ofNat x, y 0 (by decide), y 1 (by decide), y 2 (by decide), y 3 (by decide)⟩))))))))))
    · refine ⟨0, fun _ => 0, Or.inl (hD.2.2.2.2 z), fun Nl gr hh => ?_⟩
      rcases hh with ⟨-, x⟩ | ⟨x, -⟩
      · exact Or.inr (Or.inr (Or.inr (Or.inr (Or.inr (Or.inr (Or.inl ⟨hr, z, congrArg Int.ofNat x⟩))))))
      · exact absurd x (inf (hD.2.2.2.2 z))
theorem pd_0 : parseMethodDescriptor "(III)I" = some ⟨[.int, .int, .int], some .int⟩ := by decide +kernel
theorem pd_1 : parseMethodDescriptor "(I[D[I)V" = some ⟨[.int, (.array .double), (.array .int)], none⟩ := by decide +kernel
theorem pd_2 : parseMethodDescriptor "(I)[I" = some ⟨[.int], some (.array .int)⟩ := by decide +kernel
theorem ef_0 (m : MethodId) (x0 : Int32) (x1 : Int32) (x2 : Int32) (x3 : Int32) (x4 : Int32) : entryFrame m #[(.int x0), (.int x1), (.int x2), (.int x3), (.int x4)] maxLocals = mkF m 0 #[.val (.int x0), .val (.int x1), .val (.int x2), .val (.int x3), .val (.int x4), .unset, .unset, .unset, .unset, .unset, .unset, .unset, .unset, .unset, .unset, .unset, .unset, .unset, .unset, .unset, .unset, .unset, .unset, .unset, .unset, .unset, .unset, .unset, .unset] [] := by first | (simp [entryFrame, mkF, argsToLocals, Value.category, maxLocals]; done) | rfl
def Q0 (Z : State) (p0s : Int32) (p1s : Int32) (p2s : Int32) (p3s : Int32) (p4s : Int32) (h0 : Heap) (n0 : Nat) (v : Option Value) (h : Heap) (L : List Loc) : Prop := v = some (.int (1 : Int32)) ∧ Fr n0 L
set_option maxRecDepth 65536 in
set_option maxHeartbeats 40000000 in
theorem rm0 (l : Launch) (Z : State) (a0 : Array Value) (hw : ∀ d ∈ tables_1, d.before a0 Z = true) (ws : List Jvm.Cond) (p0s : Int32) (p1s : Int32) (p2s : Int32) (p3s : Int32) (p4s : Int32) (h0 : Heap) (n0 : Nat) (Z0 : n0 ≤ h0.size) :
    MetFree l x (head1 (Jvm.Cond.code x code maxLocals ret :: ws) room_1) (fun a U => a = #[(.int p0s), (.int p1s), (.int p2s), (.int p3s), (.int p4s)] ∧ Z.Warmed39 U.vm ∧ U.heap = h0) (fun _ _ _ _ _ => True) (fun _ U o U' => ∃ v L, o = .returned v ∧ Q0 Z p0s p1s p2s p3s p4s h0 n0 v U'.heap L ∧ FrameEnd U o U' L 16 128) := by
  refine MetFree.of_bodySF (plainFor_of_name pn_0) hisR ?_
  intro p e s m args below meth c s₁ Bd hml0 hP hK
  obtain ⟨rfl, hZ, hh⟩ := hP
  have hx := Bd.exec
  have hby := Bd.bytes
  have hml : c.maxLocals = 29 := hml0
  have hown : s.vm.findClass "org/fractile/graph/PathTreePathPinLaw" = some m.cls := findClass_of_methodNamed Bd.named
  have hnm := (name_of_methodNamed Bd.named Bd.method).1
  have hlk : meth.locks = false := BodyLoose.notSynchronized Bd
  have X0 : Stand p l e room_1 s m #[(.int p0s), (.int p1s), (.int p2s), (.int p3s), (.int p4s)] below meth c s₁ [] 0 0 := Stand.of_body Bd
  have e0 : s₁.heap = h0 := by rw [← hh, Bd.state]; rfl
  have N0 := Fr.nil n0
  have K0 : Keep h0 h0 [] := Keep.refl h0 _
  have key : ∀ (F0 : State) (G : Prop), (own_G p e below s F0 (Q0 Z p0s p1s p2s p3s p4s h0 n0) 16 128 → G) → own_R p.tables e below F0 (s₁.setTop (mkF m 0 #[.val (.int p0s), .val (.int p1s), .val (.int p2s), .val (.int p3s), .val (.int p4s), .unset, .unset, .unset, .unset, .unset, .unset, .unset, .unset, .unset, .unset, .unset, .unset, .unset, .unset, .unset, .unset, .unset, .unset, .unset, .unset, .unset, .unset, .unset, .unset] [])) → G := by
    intro F0 G hG r0
    obtain ⟨z119, hz119⟩ : ∃ z : Int32, z = (p0s &&& (3 : Int32)) := ⟨_, rfl⟩
    have r120 : own_R p.tables e below F0 (s₁.setTop (mkF m 8 #[.val (.int p0s), .val (.int p1s), .val (.int p2s), .val (.int p3s), .val (.int p4s), .val (.int z119), .unset, .unset, .unset, .unset, .unset, .unset, .unset, .unset, .unset, .unset, .unset, .unset, .unset, .unset, .unset, .unset, .unset, .unset, .unset, .unset, .unset, .unset, .unset] [(.int (p1s &&& (1 : Int32)))])) := fun tg_ kg_ => by
      refine r0 tg_ ?_
      show Steps p.tables e below (s₁.setTop (mkF m 0 #[.val (.int p0s), .val (.int p1s), .val (.int p2s), .val (.int p3s), .val (.int p4s), .unset, .unset, .unset, .unset, .unset, .unset, .unset, .unset, .unset, .unset, .unset, .unset, .unset, .unset, .unset, .unset, .unset, .unset, .unset, .unset, .unset, .unset, .unset, .unset] [])) _
      refine XS.iloadN X0.here hx rfl (hb hby at_0) rfl ?_
      show Steps p.tables e below (s₁.setTop (mkF m 1 #[.val (.int p0s), .val (.int p1s), .val (.int p2s), .val (.int p3s), .val (.int p4s), .unset, .unset, .unset, .unset, .unset, .unset, .unset, .unset, .unset, .unset, .unset, .unset, .unset, .unset, .unset, .unset, .unset, .unset, .unset, .unset, .unset, .unset, .unset, .unset] [(.int p0s)])) _
      refine XS.iconst X0.here hx rfl (hb hby at_1) ?_
      show Steps p.tables e below (s₁.setTop (mkF m 2 #[.val (.int p0s), .val (.int p1s), .val (.int p2s), .val (.int p3s), .val (.int p4s), .unset, .unset, .unset, .unset, .unset, .unset, .unset, .unset, .unset, .unset, .unset, .unset, .unset, .unset, .unset, .unset, .unset, .unset, .unset, .unset, .unset, .unset, .unset, .unset] [(.int (3 : Int32)), (.int p0s)])) _
      refine XS.iand X0.here hx rfl (hb hby at_2) rfl ?_
      show Steps p.tables e below (s₁.setTop (mkF m 3 #[.val (.int p0s), .val (.int p1s), .val (.int p2s), .val (.int p3s), .val (.int p4s), .unset, .unset, .unset, .unset, .unset, .unset, .unset, .unset, .unset, .unset, .unset, .unset, .unset, .unset, .unset, .unset, .unset, .unset, .unset, .unset, .unset, .unset, .unset, .unset] [(.int (p0s &&& (3 : Int32)))])) _
      refine XS.istore X0.here hx rfl (hb hby at_3) (x := z119) (rest := []) (by subst hz119; rfl) (l' := #[.val (.int p0s), .val (.int p1s), .val (.int p2s), .val (.int p3s), .val (.int p4s), .val (.int z119), .unset, .unset, .unset, .unset, .unset, .unset, .unset, .unset, .unset, .unset, .unset, .unset, .unset, .unset, .unset, .unset, .unset, .unset, .unset, .unset, .unset, .unset, .unset]) rfl ?_
      show Steps p.tables e below (s₁.setTop (mkF m 5 #[.val (.int p0s), .val (.int p1s), .val (.int p2s), .val (.int p3s), .val (.int p4s), .val (.int z119), .unset, .unset, .unset, .unset, .unset, .unset, .unset, .unset, .unset, .unset, .unset, .unset, .unset, .unset, .unset, .unset, .unset, .unset, .unset, .unset, .unset, .unset, .unset] [])) _
      refine XS.iloadN X0.here hx rfl (hb hby at_5) rfl ?_
      show Steps p.tables e below (s₁.setTop (mkF m 6 #[.val (.int p0s), .val (.int p1s), .val (.int p2s), .val (.int p3s), .val (.int p4s), .val (.int z119), .unset, .unset, .unset, .unset, .unset, .unset, .unset, .unset, .unset, .unset, .unset, .unset, .unset, .unset, .unset, .unset, .unset, .unset, .unset, .unset, .unset, .unset, .unset] [(.int p1s)])) _
      refine XS.iconst X0.here hx rfl (hb hby at_6) ?_
      show Steps p.tables e below (s₁.setTop (mkF m 7 #[.val (.int p0s), .val (.int p1s), .val (.int p2s), .val (.int p3s), .val (.int p4s), .val (.int z119), .unset, .unset, .unset, .unset, .unset, .unset, .unset, .unset, .unset, .unset, .unset, .unset, .unset, .unset, .unset, .unset, .unset, .unset, .unset, .unset, .unset, .unset, .unset] [(.int (1 : Int32)), (.int p1s)])) _
      refine XS.iand X0.here hx rfl (hb hby at_7) rfl ?_
      exact kg_
    have J121 : ∀ (dd : Int32) (hdd : own_dd dd.toInt) (r122 : own_R p.tables e below F0 (s₁.setTop (mkF m 16 #[.val (.int p0s), .val (.int p1s), .val (.int p2s), .val (.int p3s), .val (.int p4s), .val (.int z119), .unset, .unset, .unset, .unset, .unset, .unset, .unset, .unset, .unset, .unset, .unset, .unset, .unset, .unset, .unset, .unset, .unset, .unset, .unset, .unset, .unset, .unset, .unset] [(.int dd)]))), G := by
      intro dd hdd r122
      obtain ⟨z123, hz123⟩ : ∃ z : Int32, z = (((p1s.toUInt32 >>> ((1 : Int32) &&& 31).toUInt32).toInt32) &&& (1 : Int32)) := ⟨_, rfl⟩
      obtain ⟨z124, hz124⟩ : ∃ z : Int32, z = ((((p1s.toUInt32 >>> ((2 : Int32) &&& 31).toUInt32).toInt32) &&& (255 : Int32)) % (3 : Int32)) := ⟨_, rfl⟩
      have r125 : own_R p.tables e below F0 (s₁.setTop (mkF m 36 #[.val (.int p0s), .val (.int p1s), .val (.int p2s), .val (.int p3s), .val (.int p4s), .val (.int z119), .val (.int dd), .val (.int z123), .val (.int z124), .unset, .unset, .unset, .unset, .unset, .unset, .unset, .unset, .unset, .unset, .unset, .unset, .unset, .unset, .unset, .unset, .unset, .unset, .unset, .unset] [])) := fun tg_ kg_ => by
        refine r122 tg_ ?_
        show Steps p.tables e below (s₁.setTop (mkF m 16 #[.val (.int p0s), .val (.int p1s), .val (.int p2s), .val (.int p3s), .val (.int p4s), .val (.int z119), .unset, .unset, .unset, .unset, .unset, .unset, .unset, .unset, .unset, .unset, .unset, .unset, .unset, .unset, .unset, .unset, .unset, .unset, .unset, .unset, .unset, .unset, .unset] [(.int dd)])) _
        refine XS.istore X0.here hx rfl (hb hby at_16) rfl (l' := #[.val (.int p0s), .val (.int p1s), .val (.int p2s), .val (.int p3s), .val (.int p4s), .val (.int z119), .val (.int dd), .unset, .unset, .unset, .unset, .unset, .unset, .unset, .unset, .unset, .unset, .unset, .unset, .unset, .unset, .unset, .unset, .unset, .unset, .unset, .unset, .unset, .unset]) rfl ?_
        show Steps p.tables e below (s₁.setTop (mkF m 18 #[.val (.int p0s), .val (.int p1s), .val (.int p2s), .val (.int p3s), .val (.int p4s), .val (.int z119), .val (.int dd), .unset, .unset, .unset, .unset, .unset, .unset, .unset, .unset, .unset, .unset, .unset, .unset, .unset, .unset, .unset, .unset, .unset, .unset, .unset, .unset, .unset, .unset] [])) _
        refine XS.iloadN X0.here hx rfl (hb hby at_18) rfl ?_
        show Steps p.tables e below (s₁.setTop (mkF m 19 #[.val (.int p0s), .val (.int p1s), .val (.int p2s), .val (.int p3s), .val (.int p4s), .val (.int z119), .val (.int dd), .unset, .unset, .unset, .unset, .unset, .unset, .unset, .unset, .unset, .unset, .unset, .unset, .unset, .unset, .unset, .unset, .unset, .unset, .unset, .unset, .unset, .unset] [(.int p1s)])) _
        refine XS.iconst X0.here hx rfl (hb hby at_19) ?_
        show Steps p.tables e below (s₁.setTop (mkF m 20 #[.val (.int p0s), .val (.int p1s), .val (.int p2s), .val (.int p3s), .val (.int p4s), .val (.int z119), .val (.int dd), .unset, .unset, .unset, .unset, .unset, .unset, .unset, .unset, .unset, .unset, .unset, .unset, .unset, .unset, .unset, .unset, .unset, .unset, .unset, .unset, .unset, .unset] [(.int (1 : Int32)), (.int p1s)])) _
        refine XS.iushr X0.here hx rfl (hb hby at_20) rfl ?_
        show Steps p.tables e below (s₁.setTop (mkF m 21 #[.val (.int p0s), .val (.int p1s), .val (.int p2s), .val (.int p3s), .val (.int p4s), .val (.int z119), .val (.int dd), .unset, .unset, .unset, .unset, .unset, .unset, .unset, .unset, .unset, .unset, .unset, .unset, .unset, .unset, .unset, .unset, .unset, .unset, .unset, .unset, .unset, .unset] [(.int ((p1s.toUInt32 >>> ((1 : Int32) &&& 31).toUInt32).toInt32))])) _
        refine XS.iconst X0.here hx rfl (hb hby at_21) ?_
        show Steps p.tables e below (s₁.setTop (mkF m 22 #[.val (.int p0s), .val (.int p1s), .val (.int p2s), .val (.int p3s), .val (.int p4s), .val (.int z119), .val (.int dd), .unset, .unset, .unset, .unset, .unset, .unset, .unset, .unset, .unset, .unset, .unset, .unset, .unset, .unset, .unset, .unset, .unset, .unset, .unset, .unset, .unset, .unset] [(.int (1 : Int32)), (.int ((p1s.toUInt32 >>> ((1 : Int32) &&& 31).toUInt32).toInt32))])) _
        refine XS.iand X0.here hx rfl (hb hby at_22) rfl ?_
        show Steps p.tables e below (s₁.setTop (mkF m 23 #[.val (.int p0s), .val (.int p1s), .val (.int p2s), .val (.int p3s), .val (.int p4s), .val (.int z119), .val (.int dd), .unset, .unset, .unset, .unset, .unset, .unset, .unset, .unset, .unset, .unset, .unset, .unset, .unset, .unset, .unset, .unset, .unset, .unset, .unset, .unset, .unset, .unset] [(.int (((p1s.toUInt32 >>> ((1 : Int32) &&& 31).toUInt32).toInt32) &&& (1 : Int32)))])) _
        refine XS.istore X0.here hx rfl (hb hby at_23) (x := z123) (rest := []) (by subst hz123; rfl) (l' := #[.val (.int p0s), .val (.int p1s), .val (.int p2s), .val (.int p3s), .val (.int p4s), .val (.int z119), .val (.int dd), .val (.int z123), .unset, .unset, .unset, .unset, .unset, .unset, .unset, .unset, .unset, .unset, .unset, .unset, .unset, .unset, .unset, .unset, .unset, .unset, .unset, .unset, .unset]) rfl ?_
        show Steps p.tables e below (s₁.setTop (mkF m 25 #[.val (.int p0s), .val (.int p1s), .val (.int p2s), .val (.int p3s), .val (.int p4s), .val (.int z119), .val (.int dd), .val (.int z123), .unset, .unset, .unset, .unset, .unset, .unset, .unset, .unset, .unset, .unset, .unset, .unset, .unset, .unset, .unset, .unset, .unset, .unset, .unset, .unset, .unset] [])) _
        refine XS.iloadN X0.here hx rfl (hb hby at_25) rfl ?_
        show Steps p.tables e below (s₁.setTop (mkF m 26 #[.val (.int p0s), .val (.int p1s), .val (.int p2s), .val (.int p3s), .val (.int p4s), .val (.int z119), .val (.int dd), .val (.int z123), .unset, .unset, .unset, .unset, .unset, .unset, .unset, .unset, .unset, .unset, .unset, .unset, .unset, .unset, .unset, .unset, .unset, .unset, .unset, .unset, .unset] [(.int p1s)])) _
        refine XS.iconst X0.here hx rfl (hb hby at_26) ?_
        show Steps p.tables e below (s₁.setTop (mkF m 27 #[.val (.int p0s), .val (.int p1s), .val (.int p2s), .val (.int p3s), .val (.int p4s), .val (.int z119), .val (.int dd), .val (.int z123), .unset, .unset, .unset, .unset, .unset, .unset, .unset, .unset, .unset, .unset, .unset, .unset, .unset, .unset, .unset, .unset, .unset, .unset, .unset, .unset, .unset] [(.int (2 : Int32)), (.int p1s)])) _
        refine XS.iushr X0.here hx rfl (hb hby at_27) rfl ?_
        show Steps p.tables e below (s₁.setTop (mkF m 28 #[.val (.int p0s), .val (.int p1s), .val (.int p2s), .val (.int p3s), .val (.int p4s), .val (.int z119), .val (.int dd), .val (.int z123), .unset, .unset, .unset, .unset, .unset, .unset, .unset, .unset, .unset, .unset, .unset, .unset, .unset, .unset, .unset, .unset, .unset, .unset, .unset, .unset, .unset] [(.int ((p1s.toUInt32 >>> ((2 : Int32) &&& 31).toUInt32).toInt32))])) _
        refine XS.sipush X0.here hx rfl (hb hby at_28) ?_
        show Steps p.tables e below (s₁.setTop (mkF m 31 #[.val (.int p0s), .val (.int p1s), .val (.int p2s), .val (.int p3s), .val (.int p4s), .val (.int z119), .val (.int dd), .val (.int z123), .unset, .unset, .unset, .unset, .unset, .unset, .unset, .unset, .unset, .unset, .unset, .unset, .unset, .unset, .unset, .unset, .unset, .unset, .unset, .unset, .unset] [(.int (255 : Int32)), (.int ((p1s.toUInt32 >>> ((2 : Int32) &&& 31).toUInt32).toInt32))])) _
        refine XS.iand X0.here hx rfl (hb hby at_31) rfl ?_
        show Steps p.tables e below (s₁.setTop (mkF m 32 #[.val (.int p0s), .val (.int p1s), .val (.int p2s), .val (.int p3s), .val (.int p4s), .val (.int z119), .val (.int dd), .val (.int z123), .unset, .unset, .unset, .unset, .unset, .unset, .unset, .unset, .unset, .unset, .unset, .unset, .unset, .unset, .unset, .unset, .unset, .unset, .unset, .unset, .unset] [(.int (((p1s.toUInt32 >>> ((2 : Int32) &&& 31).toUInt32).toInt32) &&& (255 : Int32)))])) _
        refine XS.iconst X0.here hx rfl (hb hby at_32) ?_
        show Steps p.tables e below (s₁.setTop (mkF m 33 #[.val (.int p0s), .val (.int p1s), .val (.int p2s), .val (.int p3s), .val (.int p4s), .val (.int z119), .val (.int dd), .val (.int z123), .unset, .unset, .unset, .unset, .unset, .unset, .unset, .unset, .unset, .unset, .unset, .unset, .unset, .unset, .unset, .unset, .unset, .unset, .unset, .unset, .unset] [(.int (3 : Int32)), (.int (((p1s.toUInt32 >>> ((2 : Int32) &&& 31).toUInt32).toInt32) &&& (255 : Int32)))])) _
        refine iremM X0 hx rfl (hb hby at_33) rfl (by decide) ?_
        show Steps p.tables e below (s₁.setTop (mkF m 34 #[.val (.int p0s), .val (.int p1s), .val (.int p2s), .val (.int p3s), .val (.int p4s), .val (.int z119), .val (.int dd), .val (.int z123), .unset, .unset, .unset, .unset, .unset, .unset, .unset, .unset, .unset, .unset, .unset, .unset, .unset, .unset, .unset, .unset, .unset, .unset, .unset, .unset, .unset] [(.int ((((p1s.toUInt32 >>> ((2 : Int32) &&& 31).toUInt32).toInt32) &&& (255 : Int32)) % (3 : Int32)))])) _
        refine XS.istore X0.here hx rfl (hb hby at_34) (x := z124) (rest := []) (by subst hz124; rfl) (l' := #[.val (.int p0s), .val (.int p1s), .val (.int p2s), .val (.int p3s), .val (.int p4s), .val (.int z119), .val (.int dd), .val (.int z123), .val (.int z124), .unset, .unset, .unset, .unset, .unset, .unset, .unset, .unset, .unset, .unset, .unset, .unset, .unset, .unset, .unset, .unset, .unset, .unset, .unset, .unset]) rfl ?_
        exact kg_
      have hS : 0 ≤ z119.toInt ∧ z119.toInt ≤ 3 := (by
                have q182_r := own_R32 p0s
                have q183_e : (3 : Int32).toInt = 3 := (by decide)
                have q183_r : (3 : Int) ≤ (3 : Int32).toInt ∧ (3 : Int32).toInt ≤ 3 := ⟨Int.le_of_eq q183_e.symm, Int.le_of_eq q183_e⟩
                have q184_ := own_maskR p0s (3 : Int32) 2 4 (by decide) (by decide) (by decide) 3 (by decide) (by decide)
                have q184_e := q184_.1
                have q184_r := q184_.2
                have q185_ := own_eqR32 hz119 q184_r
                have q185_e := q185_.1
                have q185_r := q185_.2
                omega)
      have hp2 : own_01 z123.toInt := show z123.toInt = 0 ∨ z123.toInt = 1 from (by
                have q186_r := own_R32 p1s
                have q187_e : (1 : Int32).toInt = 1 := (by decide)
                have q187_r : (1 : Int) ≤ (1 : Int32).toInt ∧ (1 : Int32).toInt ≤ 1 := ⟨Int.le_of_eq q187_e.symm, Int.le_of_eq q187_e⟩
                have q188_r := own_R32 ((p1s.toUInt32 >>> ((1 : Int32) &&& 31).toUInt32).toInt32)
                have q189_ := own_iushr p1s (1 : Int32) 1 2 (by decide) (by decide) (by decide)
                have q190_ := own_maskR ((p1s.toUInt32 >>> ((1 : Int32) &&& 31).toUInt32).toInt32) (1 : Int32) 1 2 (by decide) (by decide) (by decide) 1 (by decide) (by decide)
                have q190_e := q190_.1
                have q190_r := q190_.2
                have q191_ := own_eqR32 hz123 q190_r
                have q191_e := q191_.1
                have q191_r := q191_.2
                omega)
      have hp3 : own_012 z124.toInt := show z124.toInt = 0 ∨ z124.toInt = 1 ∨ z124.toInt = 2 from (by
                have q192_r := own_R32 p1s
                have q193_e : (2 : Int32).toInt = 2 := (by decide)
                have q193_r : (2 : Int) ≤ (2 : Int32).toInt ∧ (2 : Int32).toInt ≤ 2 := ⟨Int.le_of_eq q193_e.symm, Int.le_of_eq q193_e⟩
                have q194_r := own_R32 ((p1s.toUInt32 >>> ((2 : Int32) &&& 31).toUInt32).toInt32)
                have q195_ := own_iushr p1s (2 : Int32) 2 4 (by decide) (by decide) (by decide)
                have q196_e : (255 : Int32).toInt = 255 := (by decide)
                have q196_r : (255 : Int) ≤ (255 : Int32).toInt ∧ (255 : Int32).toInt ≤ 255 := ⟨Int.le_of_eq q196_e.symm, Int.le_of_eq q196_e⟩
                have q197_ := own_maskR ((p1s.toUInt32 >>> ((2 : Int32) &&& 31).toUInt32).toInt32) (255 : Int32) 8 256 (by decide) (by decide) (by decide) 255 (by decide) (by decide)
                have q197_e := q197_.1
                have q197_r := q197_.2
                have q198_e : (3 : Int32).toInt = 3 := (by decide)
                have q198_r : (3 : Int) ≤ (3 : Int32).toInt ∧ (3 : Int32).toInt ≤ 3 := ⟨Int.le_of_eq q198_e.symm, Int.le_of_eq q198_e⟩
                have q199_ := own_iremR 2 q197_r (show (3 : Int32).toInt = 3 from by decide) (by decide) (by decide) (by decide)
                have q199_e := q199_.1
                have q199_r := q199_.2
                have q200_ := own_eqR32 hz124 q199_r
                have q200_e := q200_.1
                have q200_r := q200_.2
                omega)
      have r126 : own_R p.tables e below F0 (s₁.setTop (mkF m 39 #[.val (.int p0s), .val (.int p1s), .val (.int p2s), .val (.int p3s), .val (.int p4s), .val (.int z119), .val (.int dd), .val (.int z123), .val (.int z124), .unset, .unset, .unset, .unset, .unset, .unset, .unset, .unset, .unset, .unset, .unset, .unset, .unset, .unset, .unset, .unset, .unset, .unset, .unset, .unset] [(.int (p2s &&& (1 : Int32)))])) := fun tg_ kg_ => by
        refine r125 tg_ ?_
        show Steps p.tables e below (s₁.setTop (mkF m 36 #[.val (.int p0s), .val (.int p1s), .val (.int p2s), .val (.int p3s), .val (.int p4s), .val (.int z119), .val (.int dd), .val (.int z123), .val (.int z124), .unset, .unset, .unset, .unset, .unset, .unset, .unset, .unset, .unset, .unset, .unset, .unset, .unset, .unset, .unset, .unset, .unset, .unset, .unset, .unset] [])) _
        refine XS.iloadN X0.here hx rfl (hb hby at_36) rfl ?_
        show Steps p.tables e below (s₁.setTop (mkF m 37 #[.val (.int p0s), .val (.int p1s), .val (.int p2s), .val (.int p3s), .val (.int p4s), .val (.int z119), .val (.int dd), .val (.int z123), .val (.int z124), .unset, .unset, .unset, .unset, .unset, .unset, .unset, .unset, .unset, .unset, .unset, .unset, .unset, .unset, .unset, .unset, .unset, .unset, .unset, .unset] [(.int p2s)])) _
        refine XS.iconst X0.here hx rfl (hb hby at_37) ?_
        show Steps p.tables e below (s₁.setTop (mkF m 38 #[.val (.int p0s), .val (.int p1s), .val (.int p2s), .val (.int p3s), .val (.int p4s), .val (.int z119), .val (.int dd), .val (.int z123), .val (.int z124), .unset, .unset, .unset, .unset, .unset, .unset, .unset, .unset, .unset, .unset, .unset, .unset, .unset, .unset, .unset, .unset, .unset, .unset, .unset, .unset] [(.int (1 : Int32)), (.int p2s)])) _
        refine XS.iand X0.here hx rfl (hb hby at_38) rfl ?_
        exact kg_
      have J127 : ∀ (i1 : Int32) (hi1 : own_01 i1.toInt) (r128 : own_R p.tables e below F0 (s₁.setTop (mkF m 47 #[.val (.int p0s), .val (.int p1s), .val (.int p2s), .val (.int p3s), .val (.int p4s), .val (.int z119), .val (.int dd), .val (.int z123), .val (.int z124), .unset, .unset, .unset, .unset, .unset, .unset, .unset, .unset, .unset, .unset, .unset, .unset, .unset, .unset, .unset, .unset, .unset, .unset, .unset, .unset] [(.int i1)]))), G := by
        intro i1 hi1 r128
        have r129 : own_R p.tables e below F0 (s₁.setTop (mkF m 52 #[.val (.int p0s), .val (.int p1s), .val (.int p2s), .val (.int p3s), .val (.int p4s), .val (.int z119), .val (.int dd), .val (.int z123), .val (.int z124), .val (.int i1), .unset, .unset, .unset, .unset, .unset, .unset, .unset, .unset, .unset, .unset, .unset, .unset, .unset, .unset, .unset, .unset, .unset, .unset, .unset] [(.int (p2s &&& (2 : Int32)))])) := fun tg_ kg_ => by
          refine r128 tg_ ?_
          show Steps p.tables e below (s₁.setTop (mkF m 47 #[.val (.int p0s), .val (.int p1s), .val (.int p2s), .val (.int p3s), .val (.int p4s), .val (.int z119), .val (.int dd), .val (.int z123), .val (.int z124), .unset, .unset, .unset, .unset, .unset, .unset, .unset, .unset, .unset, .unset, .unset, .unset, .unset, .unset, .unset, .unset, .unset, .unset, .unset, .unset] [(.int i1)])) _
          refine XS.istore X0.here hx rfl (hb hby at_47) rfl (l' := #[.val (.int p0s), .val (.int p1s), .val (.int p2s), .val (.int p3s), .val (.int p4s), .val (.int z119), .val (.int dd), .val (.int z123), .val (.int z124), .val (.int i1), .unset, .unset, .unset, .unset, .unset, .unset, .unset, .unset, .unset, .unset, .unset, .unset, .unset, .unset, .unset, .unset, .unset, .unset, .unset]) rfl ?_
          show Steps p.tables e below (s₁.setTop (mkF m 49 #[.val (.int p0s), .val (.int p1s), .val (.int p2s), .val (.int p3s), .val (.int p4s), .val (.int z119), .val (.int dd), .val (.int z123), .val (.int z124), .val (.int i1), .unset, .unset, .unset, .unset, .unset, .unset, .unset, .unset, .unset, .unset, .unset, .unset, .unset, .unset, .unset, .unset, .unset, .unset, .unset] [])) _
          refine XS.iloadN X0.here hx rfl (hb hby at_49) rfl ?_
          show Steps p.tables e below (s₁.setTop (mkF m 50 #[.val (.int p0s), .val (.int p1s), .val (.int p2s), .val (.int p3s), .val (.int p4s), .val (.int z119), .val (.int dd), .val (.int z123), .val (.int z124), .val (.int i1), .unset, .unset, .unset, .unset, .unset, .unset, .unset, .unset, .unset, .unset, .unset, .unset, .unset, .unset, .unset, .unset, .unset, .unset, .unset] [(.int p2s)])) _
          refine XS.iconst X0.here hx rfl (hb hby at_50) ?_
          show Steps p.tables e below (s₁.setTop (mkF m 51 #[.val (.int p0s), .val (.int p1s), .val (.int p2s), .val (.int p3s), .val (.int p4s), .val (.int z119), .val (.int dd), .val (.int z123), .val (.int z124), .val (.int i1), .unset, .unset, .unset, .unset, .unset, .unset, .unset, .unset, .unset, .unset, .unset, .unset, .unset, .unset, .unset, .unset, .unset, .unset, .unset] [(.int (2 : Int32)), (.int p2s)])) _
          refine XS.iand X0.here hx rfl (hb hby at_51) rfl ?_
          exact kg_
        have J130 : ∀ (i2 : Int32) (hi2 : own_i2 z123.toInt i1.toInt i2.toInt) (r131 : own_R p.tables e below F0 (s₁.setTop (mkF m 71 #[.val (.int p0s), .val (.int p1s), .val (.int p2s), .val (.int p3s), .val (.int p4s), .val (.int z119), .val (.int dd), .val (.int z123), .val (.int z124), .val (.int i1), .unset, .unset, .unset, .unset, .unset, .unset, .unset, .unset, .unset, .unset, .unset, .unset, .unset, .unset, .unset, .unset, .unset, .unset, .unset] [(.int i2)]))), G := by
          intro i2 hi2 r131
          have r132 : own_R p.tables e below F0 (s₁.setTop (mkF m 76 #[.val (.int p0s), .val (.int p1s), .val (.int p2s), .val (.int p3s), .val (.int p4s), .val (.int z119), .val (.int dd), .val (.int z123), .val (.int z124), .val (.int i1), .val (.int i2), .unset, .unset, .unset, .unset, .unset, .unset, .unset, .unset, .unset, .unset, .unset, .unset, .unset, .unset, .unset, .unset, .unset, .unset] [(.int (p2s &&& (4 : Int32)))])) := fun tg_ kg_ => by
            refine r131 tg_ ?_
            show Steps p.tables e below (s₁.setTop (mkF m 71 #[.val (.int p0s), .val (.int p1s), .val (.int p2s), .val (.int p3s), .val (.int p4s), .val (.int z119), .val (.int dd), .val (.int z123), .val (.int z124), .val (.int i1), .unset, .unset, .unset, .unset, .unset, .unset, .unset, .unset, .unset, .unset, .unset, .unset, .unset, .unset, .unset, .unset, .unset, .unset, .unset] [(.int i2)])) _
            refine XS.istore X0.here hx rfl (hb hby at_71) rfl (l' := #[.val (.int p0s), .val (.int p1s), .val (.int p2s), .val (.int p3s), .val (.int p4s), .val (.int z119), .val (.int dd), .val (.int z123), .val (.int z124), .val (.int i1), .val (.int i2), .unset, .unset, .unset, .unset, .unset, .unset, .unset, .unset, .unset, .unset, .unset, .unset, .unset, .unset, .unset, .unset, .unset, .unset]) rfl ?_
            show Steps p.tables e below (s₁.setTop (mkF m 73 #[.val (.int p0s), .val (.int p1s), .val (.int p2s), .val (.int p3s), .val (.int p4s), .val (.int z119), .val (.int dd), .val (.int z123), .val (.int z124), .val (.int i1), .val (.int i2), .unset, .unset, .unset, .unset, .unset, .unset, .unset, .unset, .unset, .unset, .unset, .unset, .unset, .unset, .unset, .unset, .unset, .unset] [])) _
            refine XS.iloadN X0.here hx rfl (hb hby at_73) rfl ?_
            show Steps p.tables e below (s₁.setTop (mkF m 74 #[.val (.int p0s), .val (.int p1s), .val (.int p2s), .val (.int p3s), .val (.int p4s), .val (.int z119), .val (.int dd), .val (.int z123), .val (.int z124), .val (.int i1), .val (.int i2), .unset, .unset, .unset, .unset, .unset, .unset, .unset, .unset, .unset, .unset, .unset, .unset, .unset, .unset, .unset, .unset, .unset, .unset] [(.int p2s)])) _
            refine XS.iconst X0.here hx rfl (hb hby at_74) ?_
            show Steps p.tables e below (s₁.setTop (mkF m 75 #[.val (.int p0s), .val (.int p1s), .val (.int p2s), .val (.int p3s), .val (.int p4s), .val (.int z119), .val (.int dd), .val (.int z123), .val (.int z124), .val (.int i1), .val (.int i2), .unset, .unset, .unset, .unset, .unset, .unset, .unset, .unset, .unset, .unset, .unset, .unset, .unset, .unset, .unset, .unset, .unset, .unset] [(.int (4 : Int32)), (.int p2s)])) _
            refine XS.iand X0.here hx rfl (hb hby at_75) rfl ?_
            exact kg_
          have J133 : ∀ (i3 : Int32) (hi3 : own_i3 z124.toInt i1.toInt i2.toInt i3.toInt) (r134 : own_R p.tables e below F0 (s₁.setTop (mkF m 106 #[.val (.int p0s), .val (.int p1s), .val (.int p2s), .val (.int p3s), .val (.int p4s), .val (.int z119), .val (.int dd), .val (.int z123), .val (.int z124), .val (.int i1), .val (.int i2), .unset, .unset, .unset, .unset, .unset, .unset, .unset, .unset, .unset, .unset, .unset, .unset, .unset, .unset, .unset, .unset, .unset, .unset] [(.int i3)]))), G := by
            intro i3 hi3 r134
            have r135 : own_R p.tables e below F0 (s₁.setTop (mkF m 118 #[.val (.int p0s), .val (.int p1s), .val (.int p2s), .val (.int p3s), .val (.int p4s), .val (.int z119), .val (.int dd), .val (.int z123), .val (.int z124), .val (.int i1), .val (.int i2), .val (.int i3), .val (.double (9218868437227405312 : UInt64)), .second, .unset, .unset, .unset, .unset, .unset, .unset, .unset, .unset, .unset, .unset, .unset, .unset, .unset, .unset, .unset] [(.int (0 : Int32)), (.int dd), (.int z119)])) := fun tg_ kg_ => by
              refine r134 tg_ ?_
              show Steps p.tables e below (s₁.setTop (mkF m 106 #[.val (.int p0s), .val (.int p1s), .val (.int p2s), .val (.int p3s), .val (.int p4s), .val (.int z119), .val (.int dd), .val (.int z123), .val (.int z124), .val (.int i1), .val (.int i2), .unset, .unset, .unset, .unset, .unset, .unset, .unset, .unset, .unset, .unset, .unset, .unset, .unset, .unset, .unset, .unset, .unset, .unset] [(.int i3)])) _
              refine XS.istore X0.here hx rfl (hb hby at_106) rfl (l' := #[.val (.int p0s), .val (.int p1s), .val (.int p2s), .val (.int p3s), .val (.int p4s), .val (.int z119), .val (.int dd), .val (.int z123), .val (.int z124), .val (.int i1), .val (.int i2), .val (.int i3), .unset, .unset, .unset, .unset, .unset, .unset, .unset, .unset, .unset, .unset, .unset, .unset, .unset, .unset, .unset, .unset, .unset]) rfl ?_
              show Steps p.tables e below (s₁.setTop (mkF m 108 #[.val (.int p0s), .val (.int p1s), .val (.int p2s), .val (.int p3s), .val (.int p4s), .val (.int z119), .val (.int dd), .val (.int z123), .val (.int z124), .val (.int i1), .val (.int i2), .val (.int i3), .unset, .unset, .unset, .unset, .unset, .unset, .unset, .unset, .unset, .unset, .unset, .unset, .unset, .unset, .unset, .unset, .unset] [])) _
              refine X0.ldc2DoubleC hx hown (mvT hZ (hw _ (List.mem_of_getElem? (i := 0) rfl))) (g := (mkF m 108 #[.val (.int p0s), .val (.int p1s), .val (.int p2s), .val (.int p3s), .val (.int p4s), .val (.int z119), .val (.int dd), .val (.int z123), .val (.int z124), .val (.int i1), .val (.int i2), .val (.int i3), .unset, .unset, .unset, .unset, .unset, .unset, .unset, .unset, .unset, .unset, .unset, .unset, .unset, .unset, .unset, .unset, .unset] [])) rfl (hb hby at_108) _ ?_
              show Steps p.tables e below (s₁.setTop (mkF m 111 #[.val (.int p0s), .val (.int p1s), .val (.int p2s), .val (.int p3s), .val (.int p4s), .val (.int z119), .val (.int dd), .val (.int z123), .val (.int z124), .val (.int i1), .val (.int i2), .val (.int i3), .unset, .unset, .unset, .unset, .unset, .unset, .unset, .unset, .unset, .unset, .unset, .unset, .unset, .unset, .unset, .unset, .unset] [(.double (9218868437227405312 : UInt64))])) _
              refine XS.dstore X0.here hx rfl (hb hby at_111) rfl (l' := #[.val (.int p0s), .val (.int p1s), .val (.int p2s), .val (.int p3s), .val (.int p4s), .val (.int z119), .val (.int dd), .val (.int z123), .val (.int z124), .val (.int i1), .val (.int i2), .val (.int i3), .val (.double (9218868437227405312 : UInt64)), .second, .unset, .unset, .unset, .unset, .unset, .unset, .unset, .unset, .unset, .unset, .unset, .unset, .unset, .unset, .unset]) rfl ?_
              show Steps p.tables e below (s₁.setTop (mkF m 113 #[.val (.int p0s), .val (.int p1s), .val (.int p2s), .val (.int p3s), .val (.int p4s), .val (.int z119), .val (.int dd), .val (.int z123), .val (.int z124), .val (.int i1), .val (.int i2), .val (.int i3), .val (.double (9218868437227405312 : UInt64)), .second, .unset, .unset, .unset, .unset, .unset, .unset, .unset, .unset, .unset, .unset, .unset, .unset, .unset, .unset, .unset] [])) _
              refine XS.iload X0.here hx rfl (hb hby at_113) rfl ?_
              show Steps p.tables e below (s₁.setTop (mkF m 115 #[.val (.int p0s), .val (.int p1s), .val (.int p2s), .val (.int p3s), .val (.int p4s), .val (.int z119), .val (.int dd), .val (.int z123), .val (.int z124), .val (.int i1), .val (.int i2), .val (.int i3), .val (.double (9218868437227405312 : UInt64)), .second, .unset, .unset, .unset, .unset, .unset, .unset, .unset, .unset, .unset, .unset, .unset, .unset, .unset, .unset, .unset] [(.int z119)])) _
              refine XS.iload X0.here hx rfl (hb hby at_115) rfl ?_
              show Steps p.tables e below (s₁.setTop (mkF m 117 #[.val (.int p0s), .val (.int p1s), .val (.int p2s), .val (.int p3s), .val (.int p4s), .val (.int z119), .val (.int dd), .val (.int z123), .val (.int z124), .val (.int i1), .val (.int i2), .val (.int i3), .val (.double (9218868437227405312 : UInt64)), .second, .unset, .unset, .unset, .unset, .unset, .unset, .unset, .unset, .unset, .unset, .unset, .unset, .unset, .unset, .unset] [(.int dd), (.int z119)])) _
              refine XS.iconst X0.here hx rfl (hb hby at_117) ?_
              exact kg_
            obtain ⟨_, _, ⟨T136, L136, k136, n136⟩, -, X136, ⟨Lc136, hQ136, l136, y136, z136⟩, st136⟩ := Jvm.LawKit.callS X0 hx (y := (⟨"org/fractile/graph/PathTreePathPinLaw", "vert", "(III)I"⟩ : MethodName)) hown (mvT hZ (hw _ (List.mem_of_getElem? (i := 1) rfl))) (mvT hZ (hw _ (List.mem_of_getElem? (i := 2) rfl))) (mvT hZ (hw _ (List.mem_of_getElem? (i := 3) rfl))) (mvT hZ (hw _ (List.mem_of_getElem? (i := 4) rfl))) (by decide) (backOf (W := 0) (rm1 l Z a0 hw [] z119 dd (0 : Int32) h0 n0 Z0 ) hZ (hw _ (List.mem_of_getElem? (i := 4) rfl)) (hw _ (List.mem_of_getElem? (i := 3) rfl)) (by decide) (by decide)) (g := (mkF m 118 #[.val (.int p0s), .val (.int p1s), .val (.int p2s), .val (.int p3s), .val (.int p4s), .val (.int z119), .val (.int dd), .val (.int z123), .val (.int z124), .val (.int i1), .val (.int i2), .val (.int i3), .val (.double (9218868437227405312 : UInt64)), .second, .unset, .unset, .unset, .unset, .unset, .unset, .unset, .unset, .unset, .unset, .unset, .unset, .unset, .unset, .unset] [(.int (0 : Int32)), (.int dd), (.int z119)])) rfl (by rw [hml]; rfl) (argsL := [(.int z119), (.int dd), (.int (0 : Int32))]) (rest := []) (lenOf pd_0 rfl) rfl (by show 2 * 0 + _ ≤ _; exact Nat.le_of_eq rfl) (hb hby at_118) (fun _ _ => ⟨rfl, e0, (by decide : 0 + 0 ≤ _), (by decide : 0 + 0 ≤ _)⟩)
            dsimp only [Pt.U, Pt.locs, Pt.cells, Pt.slots] at X136 l136 y136 z136 st136 hQ136
            subst l136 y136 z136
            obtain ⟨rfl, N136q, I136_0⟩ := hQ136
            have N136 := Fr.app N0 N136q
            have r136 : own_R p.tables e below F0 (T136.setTop (mkF m 121 #[.val (.int p0s), .val (.int p1s), .val (.int p2s), .val (.int p3s), .val (.int p4s), .val (.int z119), .val (.int dd), .val (.int z123), .val (.int z124), .val (.int i1), .val (.int i2), .val (.int i3), .val (.double (9218868437227405312 : UInt64)), .second, .unset, .unset, .unset, .unset, .unset, .unset, .unset, .unset, .unset, .unset, .unset, .unset, .unset, .unset, .unset] [(.int ((z119 + ((0 : Int32) * dd)) &&& (3 : Int32)))])) := fun tg_ kg_ => r135 tg_ (st136 tg_ kg_)
            obtain ⟨z137, hz137⟩ : ∃ z : Int32, z = ((z119 + ((0 : Int32) * dd)) &&& (3 : Int32)) := ⟨_, rfl⟩
            have r138 : own_R p.tables e below F0 (T136.setTop (mkF m 128 #[.val (.int p0s), .val (.int p1s), .val (.int p2s), .val (.int p3s), .val (.int p4s), .val (.int z119), .val (.int dd), .val (.int z123), .val (.int z124), .val (.int i1), .val (.int i2), .val (.int i3), .val (.double (9218868437227405312 : UInt64)), .second, .val (.int z137), .unset, .unset, .unset, .unset, .unset, .unset, .unset, .unset, .unset, .unset, .unset, .unset, .unset, .unset] [(.int (1 : Int32)), (.int dd), (.int z119)])) := fun tg_ kg_ => by
              refine r136 tg_ ?_
              show Steps p.tables e below (T136.setTop (mkF m 121 #[.val (.int p0s), .val (.int p1s), .val (.int p2s), .val (.int p3s), .val (.int p4s), .val (.int z119), .val (.int dd), .val (.int z123), .val (.int z124), .val (.int i1), .val (.int i2), .val (.int i3), .val (.double (9218868437227405312 : UInt64)), .second, .unset, .unset, .unset, .unset, .unset, .unset, .unset, .unset, .unset, .unset, .unset, .unset, .unset, .unset, .unset] [(.int ((z119 + ((0 : Int32) * dd)) &&& (3 : Int32)))])) _
              refine XS.istore X136.here hx rfl (hb hby at_121) (x := z137) (rest := []) (by subst hz137; rfl) (l' := #[.val (.int p0s), .val (.int p1s), .val (.int p2s), .val (.int p3s), .val (.int p4s), .val (.int z119), .val (.int dd), .val (.int z123), .val (.int z124), .val (.int i1), .val (.int i2), .val (.int i3), .val (.double (9218868437227405312 : UInt64)), .second, .val (.int z137), .unset, .unset, .unset, .unset, .unset, .unset, .unset, .unset, .unset, .unset, .unset, .unset, .unset, .unset]) rfl ?_
              show Steps p.tables e below (T136.setTop (mkF m 123 #[.val (.int p0s), .val (.int p1s), .val (.int p2s), .val (.int p3s), .val (.int p4s), .val (.int z119), .val (.int dd), .val (.int z123), .val (.int z124), .val (.int i1), .val (.int i2), .val (.int i3), .val (.double (9218868437227405312 : UInt64)), .second, .val (.int z137), .unset, .unset, .unset, .unset, .unset, .unset, .unset, .unset, .unset, .unset, .unset, .unset, .unset, .unset] [])) _
              refine XS.iload X136.here hx rfl (hb hby at_123) rfl ?_
              show Steps p.tables e below (T136.setTop (mkF m 125 #[.val (.int p0s), .val (.int p1s), .val (.int p2s), .val (.int p3s), .val (.int p4s), .val (.int z119), .val (.int dd), .val (.int z123), .val (.int z124), .val (.int i1), .val (.int i2), .val (.int i3), .val (.double (9218868437227405312 : UInt64)), .second, .val (.int z137), .unset, .unset, .unset, .unset, .unset, .unset, .unset, .unset, .unset, .unset, .unset, .unset, .unset, .unset] [(.int z119)])) _
              refine XS.iload X136.here hx rfl (hb hby at_125) rfl ?_
              show Steps p.tables e below (T136.setTop (mkF m 127 #[.val (.int p0s), .val (.int p1s), .val (.int p2s), .val (.int p3s), .val (.int p4s), .val (.int z119), .val (.int dd), .val (.int z123), .val (.int z124), .val (.int i1), .val (.int i2), .val (.int i3), .val (.double (9218868437227405312 : UInt64)), .second, .val (.int z137), .unset, .unset, .unset, .unset, .unset, .unset, .unset, .unset, .unset, .unset, .unset, .unset, .unset, .unset] [(.int dd), (.int z119)])) _
              refine XS.iconst X136.here hx rfl (hb hby at_127) ?_
              exact kg_
            obtain ⟨_, _, ⟨T139, L139, k139, n139⟩, -, X139, ⟨Lc139, hQ139, l139, y139, z139⟩, st139⟩ := Jvm.LawKit.callS X136 hx (y := (⟨"org/fractile/graph/PathTreePathPinLaw", "vert", "(III)I"⟩ : MethodName)) hown (mvT hZ (hw _ (List.mem_of_getElem? (i := 1) rfl))) (mvT hZ (hw _ (List.mem_of_getElem? (i := 2) rfl))) (mvT hZ (hw _ (List.mem_of_getElem? (i := 3) rfl))) (mvT hZ (hw _ (List.mem_of_getElem? (i := 4) rfl))) (by decide) (backOf (W := 0) (rm1 l Z a0 hw [] z119 dd (1 : Int32) h0 n0 Z0 ) hZ (hw _ (List.mem_of_getElem? (i := 4) rfl)) (hw _ (List.mem_of_getElem? (i := 3) rfl)) (by decide) (by decide)) (g := (mkF m 128 #[.val (.int p0s), .val (.int p1s), .val (.int p2s), .val (.int p3s), .val (.int p4s), .val (.int z119), .val (.int dd), .val (.int z123), .val (.int z124), .val (.int i1), .val (.int i2), .val (.int i3), .val (.double (9218868437227405312 : UInt64)), .second, .val (.int z137), .unset, .unset, .unset, .unset, .unset, .unset, .unset, .unset, .unset, .unset, .unset, .unset, .unset, .unset] [(.int (1 : Int32)), (.int dd), (.int z119)])) rfl (by rw [hml]; rfl) (argsL := [(.int z119), (.int dd), (.int (1 : Int32))]) (rest := []) (lenOf pd_0 rfl) rfl (by show 2 * 0 + _ ≤ _; exact Nat.le_of_eq rfl) (hb hby at_128) (fun _ _ => ⟨rfl, I136_0, (by decide : 0 + 0 ≤ _), (by decide : 0 + 0 ≤ _)⟩)
            dsimp only [Pt.U, Pt.locs, Pt.cells, Pt.slots] at X139 l139 y139 z139 st139 hQ139
            subst l139 y139 z139
            obtain ⟨rfl, N139q, I139_0⟩ := hQ139
            have N139 := Fr.app N136 N139q
            have r139 : own_R p.tables e below F0 (T139.setTop (mkF m 131 #[.val (.int p0s), .val (.int p1s), .val (.int p2s), .val (.int p3s), .val (.int p4s), .val (.int z119), .val (.int dd), .val (.int z123), .val (.int z124), .val (.int i1), .val (.int i2), .val (.int i3), .val (.double (9218868437227405312 : UInt64)), .second, .val (.int z137), .unset, .unset, .unset, .unset, .unset, .unset, .unset, .unset, .unset, .unset, .unset, .unset, .unset, .unset] [(.int ((z119 + ((1 : Int32) * dd)) &&& (3 : Int32)))])) := fun tg_ kg_ => r138 tg_ (st139 tg_ kg_)
            obtain ⟨z140, hz140⟩ : ∃ z : Int32, z = ((z119 + ((1 : Int32) * dd)) &&& (3 : Int32)) := ⟨_, rfl⟩
            have r141 : own_R p.tables e below F0 (T139.setTop (mkF m 138 #[.val (.int p0s), .val (.int p1s), .val (.int p2s), .val (.int p3s), .val (.int p4s), .val (.int z119), .val (.int dd), .val (.int z123), .val (.int z124), .val (.int i1), .val (.int i2), .val (.int i3), .val (.double (9218868437227405312 : UInt64)), .second, .val (.int z137), .val (.int z140), .unset, .unset, .unset, .unset, .unset, .unset, .unset, .unset, .unset, .unset, .unset, .unset, .unset] [(.int (2 : Int32)), (.int dd), (.int z119)])) := fun tg_ kg_ => by
              refine r139 tg_ ?_
              show Steps p.tables e below (T139.setTop (mkF m 131 #[.val (.int p0s), .val (.int p1s), .val (.int p2s), .val (.int p3s), .val (.int p4s), .val (.int z119), .val (.int dd), .val (.int z123), .val (.int z124), .val (.int i1), .val (.int i2), .val (.int i3), .val (.double (9218868437227405312 : UInt64)), .second, .val (.int z137), .unset, .unset, .unset, .unset, .unset, .unset, .unset, .unset, .unset, .unset, .unset, .unset, .unset, .unset] [(.int ((z119 + ((1 : Int32) * dd)) &&& (3 : Int32)))])) _
              refine XS.istore X139.here hx rfl (hb hby at_131) (x := z140) (rest := []) (by subst hz140; rfl) (l' := #[.val (.int p0s), .val (.int p1s), .val (.int p2s), .val (.int p3s), .val (.int p4s), .val (.int z119), .val (.int dd), .val (.int z123), .val (.int z124), .val (.int i1), .val (.int i2), .val (.int i3), .val (.double (9218868437227405312 : UInt64)), .second, .val (.int z137), .val (.int z140), .unset, .unset, .unset, .unset, .unset, .unset, .unset, .unset, .unset, .unset, .unset, .unset, .unset]) rfl ?_
              show Steps p.tables e below (T139.setTop (mkF m 133 #[.val (.int p0s), .val (.int p1s), .val (.int p2s), .val (.int p3s), .val (.int p4s), .val (.int z119), .val (.int dd), .val (.int z123), .val (.int z124), .val (.int i1), .val (.int i2), .val (.int i3), .val (.double (9218868437227405312 : UInt64)), .second, .val (.int z137), .val (.int z140), .unset, .unset, .unset, .unset, .unset, .unset, .unset, .unset, .unset, .unset, .unset, .unset, .unset] [])) _
              refine XS.iload X139.here hx rfl (hb hby at_133) rfl ?_
              show Steps p.tables e below (T139.setTop (mkF m 135 #[.val (.int p0s), .val (.int p1s), .val (.int p2s), .val (.int p3s), .val (.int p4s), .val (.int z119), .val (.int dd), .val (.int z123), .val (.int z124), .val (.int i1), .val (.int i2), .val (.int i3), .val (.double (9218868437227405312 : UInt64)), .second, .val (.int z137), .val (.int z140), .unset, .unset, .unset, .unset, .unset, .unset, .unset, .unset, .unset, .unset, .unset, .unset, .unset] [(.int z119)])) _
              refine XS.iload X139.here hx rfl (hb hby at_135) rfl ?_
              show Steps p.tables e below (T139.setTop (mkF m 137 #[.val (.int p0s), .val (.int p1s), .val (.int p2s), .val (.int p3s), .val (.int p4s), .val (.int z119), .val (.int dd), .val (.int z123), .val (.int z124), .val (.int i1), .val (.int i2), .val (.int i3), .val (.double (9218868437227405312 : UInt64)), .second, .val (.int z137), .val (.int z140), .unset, .unset, .unset, .unset, .unset, .unset, .unset, .unset, .unset, .unset, .unset, .unset, .unset] [(.int dd), (.int z119)])) _
              refine XS.iconst X139.here hx rfl (hb hby at_137) ?_
              exact kg_
            obtain ⟨_, _, ⟨T142, L142, k142, n142⟩, -, X142, ⟨Lc142, hQ142, l142, y142, z142⟩, st142⟩ := Jvm.LawKit.callS X139 hx (y := (⟨"org/fractile/graph/PathTreePathPinLaw", "vert", "(III)I"⟩ : MethodName)) hown (mvT hZ (hw _ (List.mem_of_getElem? (i := 1) rfl))) (mvT hZ (hw _ (List.mem_of_getElem? (i := 2) rfl))) (mvT hZ (hw _ (List.mem_of_getElem? (i := 3) rfl))) (mvT hZ (hw _ (List.mem_of_getElem? (i := 4) rfl))) (by decide) (backOf (W := 0) (rm1 l Z a0 hw [] z119 dd (2 : Int32) h0 n0 Z0 ) hZ (hw _ (List.mem_of_getElem? (i := 4) rfl)) (hw _ (List.mem_of_getElem? (i := 3) rfl)) (by decide) (by decide)) (g := (mkF m 138 #[.val (.int p0s), .val (.int p1s), .val (.int p2s), .val (.int p3s), .val (.int p4s), .val (.int z119), .val (.int dd), .val (.int z123), .val (.int z124), .val (.int i1), .val (.int i2), .val (.int i3), .val (.double (9218868437227405312 : UInt64)), .second, .val (.int z137), .val (.int z140), .unset, .unset, .unset, .unset, .unset, .unset, .unset, .unset, .unset, .unset, .unset, .unset, .unset] [(.int (2 : Int32)), (.int dd), (.int z119)])) rfl (by rw [hml]; rfl) (argsL := [(.int z119), (.int dd), (.int (2 : Int32))]) (rest := []) (lenOf pd_0 rfl) rfl (by show 2 * 0 + _ ≤ _; exact Nat.le_of_eq rfl) (hb hby at_138) (fun _ _ => ⟨rfl, I139_0, (by decide : 0 + 0 ≤ _), (by decide : 0 + 0 ≤ _)⟩)
            dsimp only [Pt.U, Pt.locs, Pt.cells, Pt.slots] at X142 l142 y142 z142 st142 hQ142
            subst l142 y142 z142
            obtain ⟨rfl, N142q, I142_0⟩ := hQ142
            have N142 := Fr.app N139 N142q
            have r142 : own_R p.tables e below F0 (T142.setTop (mkF m 141 #[.val (.int p0s), .val (.int p1s), .val (.int p2s), .val (.int p3s), .val (.int p4s), .val (.int z119), .val (.int dd), .val (.int z123), .val (.int z124), .val (.int i1), .val (.int i2), .val (.int i3), .val (.double (9218868437227405312 : UInt64)), .second, .val (.int z137), .val (.int z140), .unset, .unset, .unset, .unset, .unset, .unset, .unset, .unset, .unset, .unset, .unset, .unset, .unset] [(.int ((z119 + ((2 : Int32) * dd)) &&& (3 : Int32)))])) := fun tg_ kg_ => r141 tg_ (st142 tg_ kg_)
            obtain ⟨z143, hz143⟩ : ∃ z : Int32, z = ((z119 + ((2 : Int32) * dd)) &&& (3 : Int32)) := ⟨_, rfl⟩
            have r144 : own_R p.tables e below F0 (T142.setTop (mkF m 148 #[.val (.int p0s), .val (.int p1s), .val (.int p2s), .val (.int p3s), .val (.int p4s), .val (.int z119), .val (.int dd), .val (.int z123), .val (.int z124), .val (.int i1), .val (.int i2), .val (.int i3), .val (.double (9218868437227405312 : UInt64)), .second, .val (.int z137), .val (.int z140), .val (.int z143), .unset, .unset, .unset, .unset, .unset, .unset, .unset, .unset, .unset, .unset, .unset, .unset] [(.int (3 : Int32)), (.int dd), (.int z119)])) := fun tg_ kg_ => by
              refine r142 tg_ ?_
              show Steps p.tables e below (T142.setTop (mkF m 141 #[.val (.int p0s), .val (.int p1s), .val (.int p2s), .val (.int p3s), .val (.int p4s), .val (.int z119), .val (.int dd), .val (.int z123), .val (.int z124), .val (.int i1), .val (.int i2), .val (.int i3), .val (.double (9218868437227405312 : UInt64)), .second, .val (.int z137), .val (.int z140), .unset, .unset, .unset, .unset, .unset, .unset, .unset, .unset, .unset, .unset, .unset, .unset, .unset] [(.int ((z119 + ((2 : Int32) * dd)) &&& (3 : Int32)))])) _
              refine XS.istore X142.here hx rfl (hb hby at_141) (x := z143) (rest := []) (by subst hz143; rfl) (l' := #[.val (.int p0s), .val (.int p1s), .val (.int p2s), .val (.int p3s), .val (.int p4s), .val (.int z119), .val (.int dd), .val (.int z123), .val (.int z124), .val (.int i1), .val (.int i2), .val (.int i3), .val (.double (9218868437227405312 : UInt64)), .second, .val (.int z137), .val (.int z140), .val (.int z143), .unset, .unset, .unset, .unset, .unset, .unset, .unset, .unset, .unset, .unset, .unset, .unset]) rfl ?_
              show Steps p.tables e below (T142.setTop (mkF m 143 #[.val (.int p0s), .val (.int p1s), .val (.int p2s), .val (.int p3s), .val (.int p4s), .val (.int z119), .val (.int dd), .val (.int z123), .val (.int z124), .val (.int i1), .val (.int i2), .val (.int i3), .val (.double (9218868437227405312 : UInt64)), .second, .val (.int z137), .val (.int z140), .val (.int z143), .unset, .unset, .unset, .unset, .unset, .unset, .unset, .unset, .unset, .unset, .unset, .unset] [])) _
              refine XS.iload X142.here hx rfl (hb hby at_143) rfl ?_
              show Steps p.tables e below (T142.setTop (mkF m 145 #[.val (.int p0s), .val (.int p1s), .val (.int p2s), .val (.int p3s), .val (.int p4s), .val (.int z119), .val (.int dd), .val (.int z123), .val (.int z124), .val (.int i1), .val (.int i2), .val (.int i3), .val (.double (9218868437227405312 : UInt64)), .second, .val (.int z137), .val (.int z140), .val (.int z143), .unset, .unset, .unset, .unset, .unset, .unset, .unset, .unset, .unset, .unset, .unset, .unset] [(.int z119)])) _
              refine XS.iload X142.here hx rfl (hb hby at_145) rfl ?_
              show Steps p.tables e below (T142.setTop (mkF m 147 #[.val (.int p0s), .val (.int p1s), .val (.int p2s), .val (.int p3s), .val (.int p4s), .val (.int z119), .val (.int dd), .val (.int z123), .val (.int z124), .val (.int i1), .val (.int i2), .val (.int i3), .val (.double (9218868437227405312 : UInt64)), .second, .val (.int z137), .val (.int z140), .val (.int z143), .unset, .unset, .unset, .unset, .unset, .unset, .unset, .unset, .unset, .unset, .unset, .unset] [(.int dd), (.int z119)])) _
              refine XS.iconst X142.here hx rfl (hb hby at_147) ?_
              exact kg_
            obtain ⟨_, _, ⟨T145, L145, k145, n145⟩, -, X145, ⟨Lc145, hQ145, l145, y145, z145⟩, st145⟩ := Jvm.LawKit.callS X142 hx (y := (⟨"org/fractile/graph/PathTreePathPinLaw", "vert", "(III)I"⟩ : MethodName)) hown (mvT hZ (hw _ (List.mem_of_getElem? (i := 1) rfl))) (mvT hZ (hw _ (List.mem_of_getElem? (i := 2) rfl))) (mvT hZ (hw _ (List.mem_of_getElem? (i := 3) rfl))) (mvT hZ (hw _ (List.mem_of_getElem? (i := 4) rfl))) (by decide) (backOf (W := 0) (rm1 l Z a0 hw [] z119 dd (3 : Int32) h0 n0 Z0 ) hZ (hw _ (List.mem_of_getElem? (i := 4) rfl)) (hw _ (List.mem_of_getElem? (i := 3) rfl)) (by decide) (by decide)) (g := (mkF m 148 #[.val (.int p0s), .val (.int p1s), .val (.int p2s), .val (.int p3s), .val (.int p4s), .val (.int z119), .val (.int dd), .val (.int z123), .val (.int z124), .val (.int i1), .val (.int i2), .val (.int i3), .val (.double (9218868437227405312 : UInt64)), .second, .val (.int z137), .val (.int z140), .val (.int z143), .unset, .unset, .unset, .unset, .unset, .unset, .unset, .unset, .unset, .unset, .unset, .unset] [(.int (3 : Int32)), (.int dd), (.int z119)])) rfl (by rw [hml]; rfl) (argsL := [(.int z119), (.int dd), (.int (3 : Int32))]) (rest := []) (lenOf pd_0 rfl) rfl (by show 2 * 0 + _ ≤ _; exact Nat.le_of_eq rfl) (hb hby at_148) (fun _ _ => ⟨rfl, I142_0, (by decide : 0 + 0 ≤ _), (by decide : 0 + 0 ≤ _)⟩)
            dsimp only [Pt.U, Pt.locs, Pt.cells, Pt.slots] at X145 l145 y145 z145 st145 hQ145
            subst l145 y145 z145
            obtain ⟨rfl, N145q, I145_0⟩ := hQ145
            have N145 := Fr.app N142 N145q
            have r145 : own_R p.tables e below F0 (T145.setTop (mkF m 151 #[.val (.int p0s), .val (.int p1s), .val (.int p2s), .val (.int p3s), .val (.int p4s), .val (.int z119), .val (.int dd), .val (.int z123), .val (.int z124), .val (.int i1), .val (.int i2), .val (.int i3), .val (.double (9218868437227405312 : UInt64)), .second, .val (.int z137), .val (.int z140), .val (.int z143), .unset, .unset, .unset, .unset, .unset, .unset, .unset, .unset, .unset, .unset, .unset, .unset] [(.int ((z119 + ((3 : Int32) * dd)) &&& (3 : Int32)))])) := fun tg_ kg_ => r144 tg_ (st145 tg_ kg_)
            obtain ⟨z146, hz146⟩ : ∃ z : Int32, z = ((z119 + ((3 : Int32) * dd)) &&& (3 : Int32)) := ⟨_, rfl⟩
            have r147 : own_R p.tables e below F0 (T145.setTop (mkF m 153 #[.val (.int p0s), .val (.int p1s), .val (.int p2s), .val (.int p3s), .val (.int p4s), .val (.int z119), .val (.int dd), .val (.int z123), .val (.int z124), .val (.int i1), .val (.int i2), .val (.int i3), .val (.double (9218868437227405312 : UInt64)), .second, .val (.int z137), .val (.int z140), .val (.int z143), .val (.int z146), .unset, .unset, .unset, .unset, .unset, .unset, .unset, .unset, .unset, .unset, .unset] [])) := fun tg_ kg_ => by
              refine r145 tg_ ?_
              show Steps p.tables e below (T145.setTop (mkF m 151 #[.val (.int p0s), .val (.int p1s), .val (.int p2s), .val (.int p3s), .val (.int p4s), .val (.int z119), .val (.int dd), .val (.int z123), .val (.int z124), .val (.int i1), .val (.int i2), .val (.int i3), .val (.double (9218868437227405312 : UInt64)), .second, .val (.int z137), .val (.int z140), .val (.int z143), .unset, .unset, .unset, .unset, .unset, .unset, .unset, .unset, .unset, .unset, .unset, .unset] [(.int ((z119 + ((3 : Int32) * dd)) &&& (3 : Int32)))])) _
              refine XS.istore X145.here hx rfl (hb hby at_151) (x := z146) (rest := []) (by subst hz146; rfl) (l' := #[.val (.int p0s), .val (.int p1s), .val (.int p2s), .val (.int p3s), .val (.int p4s), .val (.int z119), .val (.int dd), .val (.int z123), .val (.int z124), .val (.int i1), .val (.int i2), .val (.int i3), .val (.double (9218868437227405312 : UInt64)), .second, .val (.int z137), .val (.int z140), .val (.int z143), .val (.int z146), .unset, .unset, .unset, .unset, .unset, .unset, .unset, .unset, .unset, .unset, .unset]) rfl ?_
              exact kg_
            obtain ⟨V0, V1, V2, V3, hV0, hV1, hV2, hV3, hb0, hb1, hb2, hb3, hVf, hVs⟩ := own_vs hS hdd hz137 hz140 hz143 hz146
            have r148 : own_R p.tables e below F0 (T145.setTop (mkF m 154 #[.val (.int p0s), .val (.int p1s), .val (.int p2s), .val (.int p3s), .val (.int p4s), .val (.int z119), .val (.int dd), .val (.int z123), .val (.int z124), .val (.int i1), .val (.int i2), .val (.int i3), .val (.double (9218868437227405312 : UInt64)), .second, .val (.int z137), .val (.int z140), .val (.int z143), .val (.int z146), .unset, .unset, .unset, .unset, .unset, .unset, .unset, .unset, .unset, .unset, .unset] [(.int (4 : Int32))])) := fun tg_ kg_ => by
              refine r147 tg_ ?_
              show Steps p.tables e below (T145.setTop (mkF m 153 #[.val (.int p0s), .val (.int p1s), .val (.int p2s), .val (.int p3s), .val (.int p4s), .val (.int z119), .val (.int dd), .val (.int z123), .val (.int z124), .val (.int i1), .val (.int i2), .val (.int i3), .val (.double (9218868437227405312 : UInt64)), .second, .val (.int z137), .val (.int z140), .val (.int z143), .val (.int z146), .unset, .unset, .unset, .unset, .unset, .unset, .unset, .unset, .unset, .unset, .unset] [])) _
              refine XS.iconst X145.here hx rfl (hb hby at_153) ?_
              exact kg_
            obtain ⟨T149, h149, k149, X149, e149, E149, A149, st149⟩ := newP X145 hx hZ (hw _ (List.mem_of_getElem? (i := 5) rfl)) I145_0 (g := (mkF m 154 #[.val (.int p0s), .val (.int p1s), .val (.int p2s), .val (.int p3s), .val (.int p4s), .val (.int z119), .val (.int dd), .val (.int z123), .val (.int z124), .val (.int i1), .val (.int i2), .val (.int i3), .val (.double (9218868437227405312 : UInt64)), .second, .val (.int z137), .val (.int z140), .val (.int z143), .val (.int z146), .unset, .unset, .unset, .unset, .unset, .unset, .unset, .unset, .unset, .unset, .unset] [(.int (4 : Int32))])) rfl (hb hby at_154) rfl (by decide) (cap := 4) (by decide) (by decide) (by decide) (by decide)
            obtain ⟨b149, g149⟩ : ∃ z, z = h0.size := ⟨_, rfl⟩
            rw [← g149] at A149 st149
            have ge149 : n0 ≤ b149 := Nat.le_trans Z0 (Nat.le_of_eq g149.symm)
            have old149 : h0.size ≤ b149 := Nat.le_trans K0.1 (Nat.le_of_eq g149.symm)
            have K149 : Keep h0 h149 [] := K0.ext E149
            have Zs150 : n0 ≤ h149.size := Nat.le_trans Z0 E149.1
            have F151 : own_Arf Z h149 b149 .double 4 (fun i => (.double ((fun _ => (0 : UInt64)) i))) := by
              have q := own_Arf.new A149 (by decide)
              rw [show ((4 : Int32)).toNatClampNeg = 4 from rfl] at q
              exact q
            have r149 : own_R p.tables e below F0 (T149.setTop (mkF m 156 #[.val (.int p0s), .val (.int p1s), .val (.int p2s), .val (.int p3s), .val (.int p4s), .val (.int z119), .val (.int dd), .val (.int z123), .val (.int z124), .val (.int i1), .val (.int i2), .val (.int i3), .val (.double (9218868437227405312 : UInt64)), .second, .val (.int z137), .val (.int z140), .val (.int z143), .val (.int z146), .unset, .unset, .unset, .unset, .unset, .unset, .unset, .unset, .unset, .unset, .unset] [(.ref b149)])) := fun tg_ kg_ => r148 tg_ (st149 tg_ kg_)
            have r152 : own_R p.tables e below F0 (T149.setTop (mkF m 159 #[.val (.int p0s), .val (.int p1s), .val (.int p2s), .val (.int p3s), .val (.int p4s), .val (.int z119), .val (.int dd), .val (.int z123), .val (.int z124), .val (.int i1), .val (.int i2), .val (.int i3), .val (.double (9218868437227405312 : UInt64)), .second, .val (.int z137), .val (.int z140), .val (.int z143), .val (.int z146), .val (.ref b149), .unset, .unset, .unset, .unset, .unset, .unset, .unset, .unset, .unset, .unset] [(.int (4 : Int32))])) := fun tg_ kg_ => by
              refine r149 tg_ ?_
              show Steps p.tables e below (T149.setTop (mkF m 156 #[.val (.int p0s), .val (.int p1s), .val (.int p2s), .val (.int p3s), .val (.int p4s), .val (.int z119), .val (.int dd), .val (.int z123), .val (.int z124), .val (.int i1), .val (.int i2), .val (.int i3), .val (.double (9218868437227405312 : UInt64)), .second, .val (.int z137), .val (.int z140), .val (.int z143), .val (.int z146), .unset, .unset, .unset, .unset, .unset, .unset, .unset, .unset, .unset, .unset, .unset] [(.ref b149)])) _
              refine XS.astore X149.here hx rfl (hb hby at_156) rfl rfl (l' := #[.val (.int p0s), .val (.int p1s), .val (.int p2s), .val (.int p3s), .val (.int p4s), .val (.int z119), .val (.int dd), .val (.int z123), .val (.int z124), .val (.int i1), .val (.int i2), .val (.int i3), .val (.double (9218868437227405312 : UInt64)), .second, .val (.int z137), .val (.int z140), .val (.int z143), .val (.int z146), .val (.ref b149), .unset, .unset, .unset, .unset, .unset, .unset, .unset, .unset, .unset, .unset]) rfl ?_
              show Steps p.tables e below (T149.setTop (mkF m 158 #[.val (.int p0s), .val (.int p1s), .val (.int p2s), .val (.int p3s), .val (.int p4s), .val (.int z119), .val (.int dd), .val (.int z123), .val (.int z124), .val (.int i1), .val (.int i2), .val (.int i3), .val (.double (9218868437227405312 : UInt64)), .second, .val (.int z137), .val (.int z140), .val (.int z143), .val (.int z146), .val (.ref b149), .unset, .unset, .unset, .unset, .unset, .unset, .unset, .unset, .unset, .unset] [])) _
              refine XS.iconst X149.here hx rfl (hb hby at_158) ?_
              exact kg_
            obtain ⟨T153, h153, k153, X153, e153, E153, A153, st153⟩ := newP X149 hx hZ (hw _ (List.mem_of_getElem? (i := 6) rfl)) e149 (g := (mkF m 159 #[.val (.int p0s), .val (.int p1s), .val (.int p2s), .val (.int p3s), .val (.int p4s), .val (.int z119), .val (.int dd), .val (.int z123), .val (.int z124), .val (.int i1), .val (.int i2), .val (.int i3), .val (.double (9218868437227405312 : UInt64)), .second, .val (.int z137), .val (.int z140), .val (.int z143), .val (.int z146), .val (.ref b149), .unset, .unset, .unset, .unset, .unset, .unset, .unset, .unset, .unset, .unset] [(.int (4 : Int32))])) rfl (hb hby at_159) rfl (by decide) (cap := 4) (by decide) (by decide) (by decide) (by decide)
            obtain ⟨b153, g153⟩ : ∃ z, z = h149.size := ⟨_, rfl⟩
            rw [← g153] at A153 st153
            have ne154 : b149 ≠ b153 := Nat.ne_of_lt (Nat.lt_of_lt_of_le F151.lt (Nat.le_of_eq g153.symm))
            have ge153 : n0 ≤ b153 := Nat.le_trans Zs150 (Nat.le_of_eq g153.symm)
            have old153 : h0.size ≤ b153 := Nat.le_trans K149.1 (Nat.le_of_eq g153.symm)
            have K153 : Keep h0 h153 [] := K149.ext E153
            have F155 : own_Arf Z h153 b149 .double 4 (fun i => (.double ((fun _ => (0 : UInt64)) i))) := F151.ext E153
            have Zs156 : n0 ≤ h153.size := Nat.le_trans Zs150 E153.1
            have F157 : own_Arf Z h153 b153 .int 4 (fun i => (.int ((fun _ => (0 : Int32)) i))) := by
              have q := own_Arf.new A153 (by decide)
              rw [show ((4 : Int32)).toNatClampNeg = 4 from rfl] at q
              exact q
            have r153 : own_R p.tables e below F0 (T153.setTop (mkF m 161 #[.val (.int p0s), .val (.int p1s), .val (.int p2s), .val (.int p3s), .val (.int p4s), .val (.int z119), .val (.int dd), .val (.int z123), .val (.int z124), .val (.int i1), .val (.int i2), .val (.int i3), .val (.double (9218868437227405312 : UInt64)), .second, .val (.int z137), .val (.int z140), .val (.int z143), .val (.int z146), .val (.ref b149), .unset, .unset, .unset, .unset, .unset, .unset, .unset, .unset, .unset, .unset] [(.ref b153)])) := fun tg_ kg_ => r152 tg_ (st153 tg_ kg_)
            have r158 : own_R p.tables e below F0 (T153.setTop (mkF m 163 #[.val (.int p0s), .val (.int p1s), .val (.int p2s), .val (.int p3s), .val (.int p4s), .val (.int z119), .val (.int dd), .val (.int z123), .val (.int z124), .val (.int i1), .val (.int i2), .val (.int i3), .val (.double (9218868437227405312 : UInt64)), .second, .val (.int z137), .val (.int z140), .val (.int z143), .val (.int z146), .val (.ref b149), .val (.ref b153), .unset, .unset, .unset, .unset, .unset, .unset, .unset, .unset, .unset] [])) := fun tg_ kg_ => by
              refine r153 tg_ ?_
              show Steps p.tables e below (T153.setTop (mkF m 161 #[.val (.int p0s), .val (.int p1s), .val (.int p2s), .val (.int p3s), .val (.int p4s), .val (.int z119), .val (.int dd), .val (.int z123), .val (.int z124), .val (.int i1), .val (.int i2), .val (.int i3), .val (.double (9218868437227405312 : UInt64)), .second, .val (.int z137), .val (.int z140), .val (.int z143), .val (.int z146), .val (.ref b149), .unset, .unset, .unset, .unset, .unset, .unset, .unset, .unset, .unset, .unset] [(.ref b153)])) _
              refine XS.astore X153.here hx rfl (hb hby at_161) rfl rfl (l' := #[.val (.int p0s), .val (.int p1s), .val (.int p2s), .val (.int p3s), .val (.int p4s), .val (.int z119), .val (.int dd), .val (.int z123), .val (.int z124), .val (.int i1), .val (.int i2), .val (.int i3), .val (.double (9218868437227405312 : UInt64)), .second, .val (.int z137), .val (.int z140), .val (.int z143), .val (.int z146), .val (.ref b149), .val (.ref b153), .unset, .unset, .unset, .unset, .unset, .unset, .unset, .unset, .unset]) rfl ?_
              exact kg_
            have J159 : ∀ (gd : Nat → UInt64) (gp : Nat → Int32) (T160 : State) (lo167 : List Loc) (h162 : Heap) (X161 : Stand p l e room_1 s m #[(.int p0s), (.int p1s), (.int p2s), (.int p3s), (.int p4s)] below meth c T160 lo167 2 8) (e163 : T160.heap = h162) (N164 : Fr n0 lo167) (Zs165 : n0 ≤ h162.size) (K166 : Keep h0 h162 []) (F168 : own_Arf Z h162 b149 .double 4 (fun i => (.double (gd i)))) (F169 : own_Arf Z h162 b153 .int 4 (fun i => (.int (gp i)))) (hD : own_Dd gd i1.toInt i2.toInt i3.toInt V0 V1 V2 V3) (hPp : own_Pd gp z123.toInt z124.toInt i1.toInt i2.toInt i3.toInt V1 V2 V3 z137 z140 z143) (r170 : own_R p.tables e below F0 (T160.setTop (mkF m 310 #[.val (.int p0s), .val (.int p1s), .val (.int p2s), .val (.int p3s), .val (.int p4s), .val (.int z119), .val (.int dd), .val (.int z123), .val (.int z124), .val (.int i1), .val (.int i2), .val (.int i3), .val (.double (9218868437227405312 : UInt64)), .second, .val (.int z137), .val (.int z140), .val (.int z143), .val (.int z146), .val (.ref b149), .val (.ref b153), .unset, .unset, .unset, .unset, .unset, .unset, .unset, .unset, .unset] []))), G := by
              intro gd gp T160 lo167 h162 X161 e163 N164 Zs165 K166 F168 F169 hD hPp r170
              obtain ⟨T171, h171, X171, e171, E171, A171, D171, -, st171⟩ := newO X161 hx hZ hown (hw _ (List.mem_of_getElem? (i := 8) rfl)) (hw _ (List.mem_of_getElem? (i := 9) rfl)) (hw _ (List.mem_of_getElem? (i := 10) rfl)) e163 (g := (mkF m 310 #[.val (.int p0s), .val (.int p1s), .val (.int p2s), .val (.int p3s), .val (.int p4s), .val (.int z119), .val (.int dd), .val (.int z123), .val (.int z124), .val (.int i1), .val (.int i2), .val (.int i3), .val (.double (9218868437227405312 : UInt64)), .second, .val (.int z137), .val (.int z140), .val (.int z143), .val (.int z146), .val (.ref b149), .val (.ref b153), .unset, .unset, .unset, .unset, .unset, .unset, .unset, .unset, .unset] [])) rfl (hb hby at_310) (by decide) (by decide)
              obtain ⟨b171, g171⟩ : ∃ z, z = h162.size := ⟨_, rfl⟩
              rw [← g171] at A171 D171 st171
              have ne172 : b149 ≠ b171 := Nat.ne_of_lt (Nat.lt_of_lt_of_le F168.lt (Nat.le_of_eq g171.symm))
              have ne173 : b153 ≠ b171 := Nat.ne_of_lt (Nat.lt_of_lt_of_le F169.lt (Nat.le_of_eq g171.symm))
              have ge171 : n0 ≤ b171 := Nat.le_trans Zs165 (Nat.le_of_eq g171.symm)
              have old171 : h0.size ≤ b171 := Nat.le_trans K166.1 (Nat.le_of_eq g171.symm)
              have K171 : Keep h0 h171 [] := K166.ext E171
              have F174 : own_Arf Z h171 b149 .double 4 (fun i => (.double (gd i))) := F168.ext E171
              have F175 : own_Arf Z h171 b153 .int 4 (fun i => (.int (gp i))) := F169.ext E171
              have Zs176 : n0 ≤ h171.size := Nat.le_trans Zs165 E171.1
              have F177 : Fld Z h171 b171 "org/fractile/graph/PathTree" "source" "I" (.int (0 : Int32)) := D171 (Or.inr (hw _ (List.mem_of_getElem? (i := 18) rfl))) (ty := .int) (by decide)
              have F178 : Fld Z h171 b171 "org/fractile/graph/PathTree" "cost" "[D" .null := D171 (Or.inr (hw _ (List.mem_of_getElem? (i := 20) rfl))) (ty := (.array .double)) (by decide)
              have F179 : Fld Z h171 b171 "org/fractile/graph/PathTree" "predecessor" "[I" .null := D171 (Or.inr (hw _ (List.mem_of_getElem? (i := 22) rfl))) (ty := (.array .int)) (by decide)
              have r171 : own_R p.tables e below F0 (T171.setTop (mkF m 313 #[.val (.int p0s), .val (.int p1s), .val (.int p2s), .val (.int p3s), .val (.int p4s), .val (.int z119), .val (.int dd), .val (.int z123), .val (.int z124), .val (.int i1), .val (.int i2), .val (.int i3), .val (.double (9218868437227405312 : UInt64)), .second, .val (.int z137), .val (.int z140), .val (.int z143), .val (.int z146), .val (.ref b149), .val (.ref b153), .unset, .unset, .unset, .unset, .unset, .unset, .unset, .unset, .unset] [(.ref b171)])) := fun tg_ kg_ => r170 tg_ (st171 tg_ kg_)
              have r180 : own_R p.tables e below F0 (T171.setTop (mkF m 320 #[.val (.int p0s), .val (.int p1s), .val (.int p2s), .val (.int p3s), .val (.int p4s), .val (.int z119), .val (.int dd), .val (.int z123), .val (.int z124), .val (.int i1), .val (.int i2), .val (.int i3), .val (.double (9218868437227405312 : UInt64)), .second, .val (.int z137), .val (.int z140), .val (.int z143), .val (.int z146), .val (.ref b149), .val (.ref b153), .unset, .unset, .unset, .unset, .unset, .unset, .unset, .unset, .unset] [(.ref b153), (.ref b149), (.int z119), (.ref b171), (.ref b171)])) := fun tg_ kg_ => by
                refine r171 tg_ ?_
                show Steps p.tables e below (T171.setTop (mkF m 313 #[.val (.int p0s), .val (.int p1s), .val (.int p2s), .val (.int p3s), .val (.int p4s), .val (.int z119), .val (.int dd), .val (.int z123), .val (.int z124), .val (.int i1), .val (.int i2), .val (.int i3), .val (.double (9218868437227405312 : UInt64)), .second, .val (.int z137), .val (.int z140), .val (.int z143), .val (.int z146), .val (.ref b149), .val (.ref b153), .unset, .unset, .unset, .unset, .unset, .unset, .unset, .unset, .unset] [(.ref b171)])) _
                refine XS.dup X171.here hx rfl (hb hby at_313) rfl rfl ?_
                show Steps p.tables e below (T171.setTop (mkF m 314 #[.val (.int p0s), .val (.int p1s), .val (.int p2s), .val (.int p3s), .val (.int p4s), .val (.int z119), .val (.int dd), .val (.int z123), .val (.int z124), .val (.int i1), .val (.int i2), .val (.int i3), .val (.double (9218868437227405312 : UInt64)), .second, .val (.int z137), .val (.int z140), .val (.int z143), .val (.int z146), .val (.ref b149), .val (.ref b153), .unset, .unset, .unset, .unset, .unset, .unset, .unset, .unset, .unset] [(.ref b171), (.ref b171)])) _
                refine XS.iload X171.here hx rfl (hb hby at_314) rfl ?_
                show Steps p.tables e below (T171.setTop (mkF m 316 #[.val (.int p0s), .val (.int p1s), .val (.int p2s), .val (.int p3s), .val (.int p4s), .val (.int z119), .val (.int dd), .val (.int z123), .val (.int z124), .val (.int i1), .val (.int i2), .val (.int i3), .val (.double (9218868437227405312 : UInt64)), .second, .val (.int z137), .val (.int z140), .val (.int z143), .val (.int z146), .val (.ref b149), .val (.ref b153), .unset, .unset, .unset, .unset, .unset, .unset, .unset, .unset, .unset] [(.int z119), (.ref b171), (.ref b171)])) _
                refine XS.aload X171.here hx rfl (hb hby at_316) rfl rfl ?_
                show Steps p.tables e below (T171.setTop (mkF m 318 #[.val (.int p0s), .val (.int p1s), .val (.int p2s), .val (.int p3s), .val (.int p4s), .val (.int z119), .val (.int dd), .val (.int z123), .val (.int z124), .val (.int i1), .val (.int i2), .val (.int i3), .val (.double (9218868437227405312 : UInt64)), .second, .val (.int z137), .val (.int z140), .val (.int z143), .val (.int z146), .val (.ref b149), .val (.ref b153), .unset, .unset, .unset, .unset, .unset, .unset, .unset, .unset, .unset] [(.ref b149), (.int z119), (.ref b171), (.ref b171)])) _
                refine XS.aload X171.here hx rfl (hb hby at_318) rfl rfl ?_
                exact kg_
              obtain ⟨_, _, ⟨T181, L181, k181, n181⟩, -, X181, ⟨Lc181, hQ181, l181, y181, z181⟩, st181⟩ := X171.specialBack hx (y := (⟨"org/fractile/graph/PathTree", "<init>", "(I[D[I)V"⟩ : MethodName)) rfl hown (mvT hZ (hw _ (List.mem_of_getElem? (i := 11) rfl))) (mvT hZ (hw _ (List.mem_of_getElem? (i := 12) rfl))) (mvT hZ (hw _ (List.mem_of_getElem? (i := 13) rfl))) (by decide) (backOf (W := 1) (rm2 l Z a0 hw [] b171 z119 b149 b153 h171 n0 Zs176 A171 F177 F178 F179 ge171) hZ (hw _ (List.mem_of_getElem? (i := 13) rfl)) (hw _ (List.mem_of_getElem? (i := 10) rfl)) (by decide) (by decide)) (g := (mkF m 320 #[.val (.int p0s), .val (.int p1s), .val (.int p2s), .val (.int p3s), .val (.int p4s), .val (.int z119), .val (.int dd), .val (.int z123), .val (.int z124), .val (.int i1), .val (.int i2), .val (.int i3), .val (.double (9218868437227405312 : UInt64)), .second, .val (.int z137), .val (.int z140), .val (.int z143), .val (.int z146), .val (.ref b149), .val (.ref b153), .unset, .unset, .unset, .unset, .unset, .unset, .unset, .unset, .unset] [(.ref b153), (.ref b149), (.int z119), (.ref b171), (.ref b171)])) rfl (by rw [hml]; rfl) (Steps.refl _) (a := b171) (argsL := [(.int z119), (.ref b149), (.ref b153)]) (rest := [(.ref b171)]) (lenOf pd_1 rfl) rfl (by show 2 * 0 + _ ≤ _; exact Nat.le_of_eq rfl) (hb hby at_320) (fun _ _ => ⟨rfl, e171, (by decide : 3 + 0 ≤ _), (by decide : 11 + 0 ≤ _)⟩)
              dsimp only [Pt.U, Pt.locs, Pt.cells, Pt.slots] at X181 l181 y181 z181 st181 hQ181
              subst l181 y181 z181
              obtain ⟨rfl, N181q, I181_0, I181_1, I181_2, I181_3, I181_4⟩ := hQ181
              have N181 := Fr.app N164 N181q
              obtain ⟨h181, e181⟩ : ∃ z, T181.heap = z := ⟨_, rfl⟩
              rw [e181] at I181_0 I181_1 I181_2 I181_3 I181_4
              have F182 : own_Arf Z h181 b149 .double 4 (fun i => (.double (gd i))) := F174.keep I181_0 (ninS ne172 nin0)
              have F183 : own_Arf Z h181 b153 .int 4 (fun i => (.int (gp i))) := F175.keep I181_0 (ninS ne173 nin0)
              have K184 : Keep h0 h181 [] := K171.trans I181_0 (allS (Or.inr old171) all0)
              have Zs185 : n0 ≤ h181.size := Nat.le_trans Zs176 I181_0.1
              have r181 : own_R p.tables e below F0 (T181.setTop (mkF m 323 #[.val (.int p0s), .val (.int p1s), .val (.int p2s), .val (.int p3s), .val (.int p4s), .val (.int z119), .val (.int dd), .val (.int z123), .val (.int z124), .val (.int i1), .val (.int i2), .val (.int i3), .val (.double (9218868437227405312 : UInt64)), .second, .val (.int z137), .val (.int z140), .val (.int z143), .val (.int z146), .val (.ref b149), .val (.ref b153), .unset, .unset, .unset, .unset, .unset, .unset, .unset, .unset, .unset] [(.ref b171)])) := fun tg_ kg_ => r180 tg_ (st181.trans kg_)
              obtain ⟨z186, hz186⟩ : ∃ z : Int32, z = (p3s &&& (3 : Int32)) := ⟨_, rfl⟩
              obtain ⟨z187, hz187⟩ : ∃ z : Int32, z = (((z186 - z119) * dd) &&& (3 : Int32)) := ⟨_, rfl⟩
              have r188 : own_R p.tables e below F0 (T181.setTop (mkF m 342 #[.val (.int p0s), .val (.int p1s), .val (.int p2s), .val (.int p3s), .val (.int p4s), .val (.int z119), .val (.int dd), .val (.int z123), .val (.int z124), .val (.int i1), .val (.int i2), .val (.int i3), .val (.double (9218868437227405312 : UInt64)), .second, .val (.int z137), .val (.int z140), .val (.int z143), .val (.int z146), .val (.ref b149), .val (.ref b153), .val (.ref b171), .val (.int z186), .val (.int z187), .unset, .unset, .unset, .unset, .unset, .unset] [])) := fun tg_ kg_ => by
                refine r181 tg_ ?_
                show Steps p.tables e below (T181.setTop (mkF m 323 #[.val (.int p0s), .val (.int p1s), .val (.int p2s), .val (.int p3s), .val (.int p4s), .val (.int z119), .val (.int dd), .val (.int z123), .val (.int z124), .val (.int i1), .val (.int i2), .val (.int i3), .val (.double (9218868437227405312 : UInt64)), .second, .val (.int z137), .val (.int z140), .val (.int z143), .val (.int z146), .val (.ref b149), .val (.ref b153), .unset, .unset, .unset, .unset, .unset, .unset, .unset, .unset, .unset] [(.ref b171)])) _
                refine XS.astore X181.here hx rfl (hb hby at_323) rfl rfl (l' := #[.val (.int p0s), .val (.int p1s), .val (.int p2s), .val (.int p3s), .val (.int p4s), .val (.int z119), .val (.int dd), .val (.int z123), .val (.int z124), .val (.int i1), .val (.int i2), .val (.int i3), .val (.double (9218868437227405312 : UInt64)), .second, .val (.int z137), .val (.int z140), .val (.int z143), .val (.int z146), .val (.ref b149), .val (.ref b153), .val (.ref b171), .unset, .unset, .unset, .unset, .unset, .unset, .unset, .unset]) rfl ?_
                show Steps p.tables e below (T181.setTop (mkF m 325 #[.val (.int p0s), .val (.int p1s), .val (.int p2s), .val (.int p3s), .val (.int p4s), .val (.int z119), .val (.int dd), .val (.int z123), .val (.int z124), .val (.int i1), .val (.int i2), .val (.int i3), .val (.double (9218868437227405312 : UInt64)), .second, .val (.int z137), .val (.int z140), .val (.int z143), .val (.int z146), .val (.ref b149), .val (.ref b153), .val (.ref b171), .unset, .unset, .unset, .unset, .unset, .unset, .unset, .unset] [])) _
                refine XS.iloadN X181.here hx rfl (hb hby at_325) rfl ?_
                show Steps p.tables e below (T181.setTop (mkF m 326 #[.val (.int p0s), .val (.int p1s), .val (.int p2s), .val (.int p3s), .val (.int p4s), .val (.int z119), .val (.int dd), .val (.int z123), .val (.int z124), .val (.int i1), .val (.int i2), .val (.int i3), .val (.double (9218868437227405312 : UInt64)), .second, .val (.int z137), .val (.int z140), .val (.int z143), .val (.int z146), .val (.ref b149), .val (.ref b153), .val (.ref b171), .unset, .unset, .unset, .unset, .unset, .unset, .unset, .unset] [(.int p3s)])) _
                refine XS.iconst X181.here hx rfl (hb hby at_326) ?_
                show Steps p.tables e below (T181.setTop (mkF m 327 #[.val (.int p0s), .val (.int p1s), .val (.int p2s), .val (.int p3s), .val (.int p4s), .val (.int z119), .val (.int dd), .val (.int z123), .val (.int z124), .val (.int i1), .val (.int i2), .val (.int i3), .val (.double (9218868437227405312 : UInt64)), .second, .val (.int z137), .val (.int z140), .val (.int z143), .val (.int z146), .val (.ref b149), .val (.ref b153), .val (.ref b171), .unset, .unset, .unset, .unset, .unset, .unset, .unset, .unset] [(.int (3 : Int32)), (.int p3s)])) _
                refine XS.iand X181.here hx rfl (hb hby at_327) rfl ?_
                show Steps p.tables e below (T181.setTop (mkF m 328 #[.val (.int p0s), .val (.int p1s), .val (.int p2s), .val (.int p3s), .val (.int p4s), .val (.int z119), .val (.int dd), .val (.int z123), .val (.int z124), .val (.int i1), .val (.int i2), .val (.int i3), .val (.double (9218868437227405312 : UInt64)), .second, .val (.int z137), .val (.int z140), .val (.int z143), .val (.int z146), .val (.ref b149), .val (.ref b153), .val (.ref b171), .unset, .unset, .unset, .unset, .unset, .unset, .unset, .unset] [(.int (p3s &&& (3 : Int32)))])) _
                refine XS.istore X181.here hx rfl (hb hby at_328) (x := z186) (rest := []) (by subst hz186; rfl) (l' := #[.val (.int p0s), .val (.int p1s), .val (.int p2s), .val (.int p3s), .val (.int p4s), .val (.int z119), .val (.int dd), .val (.int z123), .val (.int z124), .val (.int i1), .val (.int i2), .val (.int i3), .val (.double (9218868437227405312 : UInt64)), .second, .val (.int z137), .val (.int z140), .val (.int z143), .val (.int z146), .val (.ref b149), .val (.ref b153), .val (.ref b171), .val (.int z186), .unset, .unset, .unset, .unset, .unset, .unset, .unset]) rfl ?_
                show Steps p.tables e below (T181.setTop (mkF m 330 #[.val (.int p0s), .val (.int p1s), .val (.int p2s), .val (.int p3s), .val (.int p4s), .val (.int z119), .val (.int dd), .val (.int z123), .val (.int z124), .val (.int i1), .val (.int i2), .val (.int i3), .val (.double (9218868437227405312 : UInt64)), .second, .val (.int z137), .val (.int z140), .val (.int z143), .val (.int z146), .val (.ref b149), .val (.ref b153), .val (.ref b171), .val (.int z186), .unset, .unset, .unset, .unset, .unset, .unset, .unset] [])) _
                refine XS.iload X181.here hx rfl (hb hby at_330) rfl ?_
                show Steps p.tables e below (T181.setTop (mkF m 332 #[.val (.int p0s), .val (.int p1s), .val (.int p2s), .val (.int p3s), .val (.int p4s), .val (.int z119), .val (.int dd), .val (.int z123), .val (.int z124), .val (.int i1), .val (.int i2), .val (.int i3), .val (.double (9218868437227405312 : UInt64)), .second, .val (.int z137), .val (.int z140), .val (.int z143), .val (.int z146), .val (.ref b149), .val (.ref b153), .val (.ref b171), .val (.int z186), .unset, .unset, .unset, .unset, .unset, .unset, .unset] [(.int z186)])) _
                refine XS.iload X181.here hx rfl (hb hby at_332) rfl ?_
                show Steps p.tables e below (T181.setTop (mkF m 334 #[.val (.int p0s), .val (.int p1s), .val (.int p2s), .val (.int p3s), .val (.int p4s), .val (.int z119), .val (.int dd), .val (.int z123), .val (.int z124), .val (.int i1), .val (.int i2), .val (.int i3), .val (.double (9218868437227405312 : UInt64)), .second, .val (.int z137), .val (.int z140), .val (.int z143), .val (.int z146), .val (.ref b149), .val (.ref b153), .val (.ref b171), .val (.int z186), .unset, .unset, .unset, .unset, .unset, .unset, .unset] [(.int z119), (.int z186)])) _
                refine XS.isub X181.here hx rfl (hb hby at_334) rfl ?_
                show Steps p.tables e below (T181.setTop (mkF m 335 #[.val (.int p0s), .val (.int p1s), .val (.int p2s), .val (.int p3s), .val (.int p4s), .val (.int z119), .val (.int dd), .val (.int z123), .val (.int z124), .val (.int i1), .val (.int i2), .val (.int i3), .val (.double (9218868437227405312 : UInt64)), .second, .val (.int z137), .val (.int z140), .val (.int z143), .val (.int z146), .val (.ref b149), .val (.ref b153), .val (.ref b171), .val (.int z186), .unset, .unset, .unset, .unset, .unset, .unset, .unset] [(.int (z186 - z119))])) _
                refine XS.iload X181.here hx rfl (hb hby at_335) rfl ?_
                show Steps p.tables e below (T181.setTop (mkF m 337 #[.val (.int p0s), .val (.int p1s), .val (.int p2s), .val (.int p3s), .val (.int p4s), .val (.int z119), .val (.int dd), .val (.int z123), .val (.int z124), .val (.int i1), .val (.int i2), .val (.int i3), .val (.double (9218868437227405312 : UInt64)), .second, .val (.int z137), .val (.int z140), .val (.int z143), .val (.int z146), .val (.ref b149), .val (.ref b153), .val (.ref b171), .val (.int z186), .unset, .unset, .unset, .unset, .unset, .unset, .unset] [(.int dd), (.int (z186 - z119))])) _
                refine XS.imul X181.here hx rfl (hb hby at_337) rfl ?_
                show Steps p.tables e below (T181.setTop (mkF m 338 #[.val (.int p0s), .val (.int p1s), .val (.int p2s), .val (.int p3s), .val (.int p4s), .val (.int z119), .val (.int dd), .val (.int z123), .val (.int z124), .val (.int i1), .val (.int i2), .val (.int i3), .val (.double (9218868437227405312 : UInt64)), .second, .val (.int z137), .val (.int z140), .val (.int z143), .val (.int z146), .val (.ref b149), .val (.ref b153), .val (.ref b171), .val (.int z186), .unset, .unset, .unset, .unset, .unset, .unset, .unset] [(.int ((z186 - z119) * dd))])) _
                refine XS.iconst X181.here hx rfl (hb hby at_338) ?_
                show Steps p.tables e below (T181.setTop (mkF m 339 #[.val (.int p0s), .val (.int p1s), .val (.int p2s), .val (.int p3s), .val (.int p4s), .val (.int z119), .val (.int dd), .val (.int z123), .val (.int z124), .val (.int i1), .val (.int i2), .val (.int i3), .val (.double (9218868437227405312 : UInt64)), .second, .val (.int z137), .val (.int z140), .val (.int z143), .val (.int z146), .val (.ref b149), .val (.ref b153), .val (.ref b171), .val (.int z186), .unset, .unset, .unset, .unset, .unset, .unset, .unset] [(.int (3 : Int32)), (.int ((z186 - z119) * dd))])) _
                refine XS.iand X181.here hx rfl (hb hby at_339) rfl ?_
                show Steps p.tables e below (T181.setTop (mkF m 340 #[.val (.int p0s), .val (.int p1s), .val (.int p2s), .val (.int p3s), .val (.int p4s), .val (.int z119), .val (.int dd), .val (.int z123), .val (.int z124), .val (.int i1), .val (.int i2), .val (.int i3), .val (.double (9218868437227405312 : UInt64)), .second, .val (.int z137), .val (.int z140), .val (.int z143), .val (.int z146), .val (.ref b149), .val (.ref b153), .val (.ref b171), .val (.int z186), .unset, .unset, .unset, .unset, .unset, .unset, .unset] [(.int (((z186 - z119) * dd) &&& (3 : Int32)))])) _
                refine XS.istore X181.here hx rfl (hb hby at_340) (x := z187) (rest := []) (by subst hz187; rfl) (l' := #[.val (.int p0s), .val (.int p1s), .val (.int p2s), .val (.int p3s), .val (.int p4s), .val (.int z119), .val (.int dd), .val (.int z123), .val (.int z124), .val (.int i1), .val (.int i2), .val (.int i3), .val (.double (9218868437227405312 : UInt64)), .second, .val (.int z137), .val (.int z140), .val (.int z143), .val (.int z146), .val (.ref b149), .val (.ref b153), .val (.ref b171), .val (.int z186), .val (.int z187), .unset, .unset, .unset, .unset, .unset, .unset]) rfl ?_
                exact kg_
              obtain ⟨PP, hPP, hPb, hrr, hS0, hr3⟩ := own_rrP hS hdd hVf hz186 hz187
              obtain ⟨LL, chh, hcs, hout⟩ := own_ex (p2 := z123.toInt) (p3 := z124.toInt) hS0 hV0 hV1 hV2 hVs hp2 hp3 hi1 hi2 hi3 hD hPp hrr
              have J189 : ∀ (gt : Addr) (Nl : Nat) (gr : Nat → Int32) (T190 : State) (lo197 : List Loc) (h192 : Heap) (X191 : Stand p l e room_1 s m #[(.int p0s), (.int p1s), (.int p2s), (.int p3s), (.int p4s)] below meth c T190 lo197 4 15) (e193 : T190.heap = h192) (N194 : Fr n0 lo197) (Zs195 : n0 ≤ h192.size) (K196 : Keep h0 h192 []) (F198 : own_Arf Z h192 gt .int Nl (fun i => (.int (gr i)))) (hO : own_O z187.toInt z123.toInt z124.toInt i1.toInt i2.toInt i3.toInt (Nl : Int) (gr 0).toInt (gr 1).toInt (gr 2).toInt (gr 3).toInt V0 V1 V2 V3) (r199 : own_R p.tables e below F0 (T190.setTop (mkF m 349 #[.val (.int p0s), .val (.int p1s), .val (.int p2s), .val (.int p3s), .val (.int p4s), .val (.int z119), .val (.int dd), .val (.int z123), .val (.int z124), .val (.int i1), .val (.int i2), .val (.int i3), .val (.double (9218868437227405312 : UInt64)), .second, .val (.int z137), .val (.int z140), .val (.int z143), .val (.int z146), .val (.ref b149), .val (.ref b153), .val (.ref b171), .val (.int z186), .val (.int z187), .unset, .unset, .unset, .unset, .unset, .unset] [(.ref gt)]))), G := by
                intro gt Nl gr T190 lo197 h192 X191 e193 N194 Zs195 K196 F198 hO r199
                have hNl := own_Nl hO
                have hNI : (Int32.ofNat Nl).toInt = Nl := Int32.toInt_ofNat_of_lt (by omega)
                have r200 : own_R p.tables e below F0 (T190.setTop (mkF m 351 #[.val (.int p0s), .val (.int p1s), .val (.int p2s), .val (.int p3s), .val (.int p4s), .val (.int z119), .val (.int dd), .val (.int z123), .val (.int z124), .val (.int i1), .val (.int i2), .val (.int i3), .val (.double (9218868437227405312 : UInt64)), .second, .val (.int z137), .val (.int z140), .val (.int z143), .val (.int z146), .val (.ref b149), .val (.ref b153), .val (.ref b171), .val (.int z186), .val (.int z187), .val (.ref gt), .unset, .unset, .unset, .unset, .unset] [])) := fun tg_ kg_ => by
                  refine r199 tg_ ?_
                  show Steps p.tables e below (T190.setTop (mkF m 349 #[.val (.int p0s), .val (.int p1s), .val (.int p2s), .val (.int p3s), .val (.int p4s), .val (.int z119), .val (.int dd), .val (.int z123), .val (.int z124), .val (.int i1), .val (.int i2), .val (.int i3), .val (.double (9218868437227405312 : UInt64)), .second, .val (.int z137), .val (.int z140), .val (.int z143), .val (.int z146), .val (.ref b149), .val (.ref b153), .val (.ref b171), .val (.int z186), .val (.int z187), .unset, .unset, .unset, .unset, .unset, .unset] [(.ref gt)])) _
                  refine XS.astore X191.here hx rfl (hb hby at_349) rfl rfl (l' := #[.val (.int p0s), .val (.int p1s), .val (.int p2s), .val (.int p3s), .val (.int p4s), .val (.int z119), .val (.int dd), .val (.int z123), .val (.int z124), .val (.int i1), .val (.int i2), .val (.int i3), .val (.double (9218868437227405312 : UInt64)), .second, .val (.int z137), .val (.int z140), .val (.int z143), .val (.int z146), .val (.ref b149), .val (.ref b153), .val (.ref b171), .val (.int z186), .val (.int z187), .val (.ref gt), .unset, .unset, .unset, .unset, .unset]) rfl ?_
                  exact kg_
                have J201 : ∀ (iR : Int32) (hiR : own_iR z187.toInt iR.toInt i1.toInt i2.toInt i3.toInt) (r202 : own_R p.tables e below F0 (T190.setTop (mkF m 385 #[.val (.int p0s), .val (.int p1s), .val (.int p2s), .val (.int p3s), .val (.int p4s), .val (.int z119), .val (.int dd), .val (.int z123), .val (.int z124), .val (.int i1), .val (.int i2), .val (.int i3), .val (.double (9218868437227405312 : UInt64)), .second, .val (.int z137), .val (.int z140), .val (.int z143), .val (.int z146), .val (.ref b149), .val (.ref b153), .val (.ref b171), .val (.int z186), .val (.int z187), .val (.ref gt), .unset, .unset, .unset, .unset, .unset] [(.int iR)]))), G := by
                  intro iR hiR r202
                  have r203 : own_R p.tables e below F0 (T190.setTop (mkF m 389 #[.val (.int p0s), .val (.int p1s), .val (.int p2s), .val (.int p3s), .val (.int p4s), .val (.int z119), .val (.int dd), .val (.int z123), .val (.int z124), .val (.int i1), .val (.int i2), .val (.int i3), .val (.double (9218868437227405312 : UInt64)), .second, .val (.int z137), .val (.int z140), .val (.int z143), .val (.int z146), .val (.ref b149), .val (.ref b153), .val (.ref b171), .val (.int z186), .val (.int z187), .val (.ref gt), .val (.int iR), .unset, .unset, .unset, .unset] [(.int iR)])) := fun tg_ kg_ => by
                    refine r202 tg_ ?_
                    show Steps p.tables e below (T190.setTop (mkF m 385 #[.val (.int p0s), .val (.int p1s), .val (.int p2s), .val (.int p3s), .val (.int p4s), .val (.int z119), .val (.int dd), .val (.int z123), .val (.int z124), .val (.int i1), .val (.int i2), .val (.int i3), .val (.double (9218868437227405312 : UInt64)), .second, .val (.int z137), .val (.int z140), .val (.int z143), .val (.int z146), .val (.ref b149), .val (.ref b153), .val (.ref b171), .val (.int z186), .val (.int z187), .val (.ref gt), .unset, .unset, .unset, .unset, .unset] [(.int iR)])) _
                    refine XS.istore X191.here hx rfl (hb hby at_385) rfl (l' := #[.val (.int p0s), .val (.int p1s), .val (.int p2s), .val (.int p3s), .val (.int p4s), .val (.int z119), .val (.int dd), .val (.int z123), .val (.int z124), .val (.int i1), .val (.int i2), .val (.int i3), .val (.double (9218868437227405312 : UInt64)), .second, .val (.int z137), .val (.int z140), .val (.int z143), .val (.int z146), .val (.ref b149), .val (.ref b153), .val (.ref b171), .val (.int z186), .val (.int z187), .val (.ref gt), .val (.int iR), .unset, .unset, .unset, .unset]) rfl ?_
                    show Steps p.tables e below (T190.setTop (mkF m 387 #[.val (.int p0s), .val (.int p1s), .val (.int p2s), .val (.int p3s), .val (.int p4s), .val (.int z119), .val (.int dd), .val (.int z123), .val (.int z124), .val (.int i1), .val (.int i2), .val (.int i3), .val (.double (9218868437227405312 : UInt64)), .second, .val (.int z137), .val (.int z140), .val (.int z143), .val (.int z146), .val (.ref b149), .val (.ref b153), .val (.ref b171), .val (.int z186), .val (.int z187), .val (.ref gt), .val (.int iR), .unset, .unset, .unset, .unset] [])) _
                    refine XS.iload X191.here hx rfl (hb hby at_387) rfl ?_
                    exact kg_
                  by_cases hc204 : iR = (0 : Int32)
                  · have r205 : own_R p.tables e below F0 (T190.setTop (mkF m 413 #[.val (.int p0s), .val (.int p1s), .val (.int p2s), .val (.int p3s), .val (.int p4s), .val (.int z119), .val (.int dd), .val (.int z123), .val (.int z124), .val (.int i1), .val (.int i2), .val (.int i3), .val (.double (9218868437227405312 : UInt64)), .second, .val (.int z137), .val (.int z140), .val (.int z143), .val (.int z146), .val (.ref b149), .val (.ref b153), .val (.ref b171), .val (.int z186), .val (.int z187), .val (.ref gt), .val (.int iR), .unset, .val (.int (0 : Int32)), .val (.int (0 : Int32)), .val (.int (0 : Int32))] [])) := fun tg_ kg_ => by
                      refine r203 tg_ ?_
                      show Steps p.tables e below (T190.setTop (mkF m 389 #[.val (.int p0s), .val (.int p1s), .val (.int p2s), .val (.int p3s), .val (.int p4s), .val (.int z119), .val (.int dd), .val (.int z123), .val (.int z124), .val (.int i1), .val (.int i2), .val (.int i3), .val (.double (9218868437227405312 : UInt64)), .second, .val (.int z137), .val (.int z140), .val (.int z143), .val (.int z146), .val (.ref b149), .val (.ref b153), .val (.ref b171), .val (.int z186), .val (.int z187), .val (.ref gt), .val (.int iR), .unset, .unset, .unset, .unset] [(.int iR)])) _
                      refine XS.ifYes X191.here hx rfl (pc0 := 389) (pc' := 404) rfl (hb hby at_389) rfl ((if0 _ _).trans (teq hc204).1) (by decide) (by decide) ?_
                      show Steps p.tables e below (T190.setTop (mkF m 404 #[.val (.int p0s), .val (.int p1s), .val (.int p2s), .val (.int p3s), .val (.int p4s), .val (.int z119), .val (.int dd), .val (.int z123), .val (.int z124), .val (.int i1), .val (.int i2), .val (.int i3), .val (.double (9218868437227405312 : UInt64)), .second, .val (.int z137), .val (.int z140), .val (.int z143), .val (.int z146), .val (.ref b149), .val (.ref b153), .val (.ref b171), .val (.int z186), .val (.int z187), .val (.ref gt), .val (.int iR), .unset, .unset, .unset, .unset] [])) _
                      refine XS.iconst X191.here hx rfl (hb hby at_404) ?_
                      show Steps p.tables e below (T190.setTop (mkF m 405 #[.val (.int p0s), .val (.int p1s), .val (.int p2s), .val (.int p3s), .val (.int p4s), .val (.int z119), .val (.int dd), .val (.int z123), .val (.int z124), .val (.int i1), .val (.int i2), .val (.int i3), .val (.double (9218868437227405312 : UInt64)), .second, .val (.int z137), .val (.int z140), .val (.int z143), .val (.int z146), .val (.ref b149), .val (.ref b153), .val (.ref b171), .val (.int z186), .val (.int z187), .val (.ref gt), .val (.int iR), .unset, .unset, .unset, .unset] [(.int (0 : Int32))])) _
                      refine XS.istore X191.here hx rfl (hb hby at_405) rfl (l' := #[.val (.int p0s), .val (.int p1s), .val (.int p2s), .val (.int p3s), .val (.int p4s), .val (.int z119), .val (.int dd), .val (.int z123), .val (.int z124), .val (.int i1), .val (.int i2), .val (.int i3), .val (.double (9218868437227405312 : UInt64)), .second, .val (.int z137), .val (.int z140), .val (.int z143), .val (.int z146), .val (.ref b149), .val (.ref b153), .val (.ref b171), .val (.int z186), .val (.int z187), .val (.ref gt), .val (.int iR), .unset, .val (.int (0 : Int32)), .unset, .unset]) rfl ?_
                      show Steps p.tables e below (T190.setTop (mkF m 407 #[.val (.int p0s), .val (.int p1s), .val (.int p2s), .val (.int p3s), .val (.int p4s), .val (.int z119), .val (.int dd), .val (.int z123), .val (.int z124), .val (.int i1), .val (.int i2), .val (.int i3), .val (.double (9218868437227405312 : UInt64)), .second, .val (.int z137), .val (.int z140), .val (.int z143), .val (.int z146), .val (.ref b149), .val (.ref b153), .val (.ref b171), .val (.int z186), .val (.int z187), .val (.ref gt), .val (.int iR), .unset, .val (.int (0 : Int32)), .unset, .unset] [])) _
                      refine XS.iconst X191.here hx rfl (hb hby at_407) ?_
                      show Steps p.tables e below (T190.setTop (mkF m 408 #[.val (.int p0s), .val (.int p1s), .val (.int p2s), .val (.int p3s), .val (.int p4s), .val (.int z119), .val (.int dd), .val (.int z123), .val (.int z124), .val (.int i1), .val (.int i2), .val (.int i3), .val (.double (9218868437227405312 : UInt64)), .second, .val (.int z137), .val (.int z140), .val (.int z143), .val (.int z146), .val (.ref b149), .val (.ref b153), .val (.ref b171), .val (.int z186), .val (.int z187), .val (.ref gt), .val (.int iR), .unset, .val (.int (0 : Int32)), .unset, .unset] [(.int (0 : Int32))])) _
                      refine XS.istore X191.here hx rfl (hb hby at_408) rfl (l' := #[.val (.int p0s), .val (.int p1s), .val (.int p2s), .val (.int p3s), .val (.int p4s), .val (.int z119), .val (.int dd), .val (.int z123), .val (.int z124), .val (.int i1), .val (.int i2), .val (.int i3), .val (.double (9218868437227405312 : UInt64)), .second, .val (.int z137), .val (.int z140), .val (.int z143), .val (.int z146), .val (.ref b149), .val (.ref b153), .val (.ref b171), .val (.int z186), .val (.int z187), .val (.ref gt), .val (.int iR), .unset, .val (.int (0 : Int32)), .val (.int (0 : Int32)), .unset]) rfl ?_
                      show Steps p.tables e below (T190.setTop (mkF m 410 #[.val (.int p0s), .val (.int p1s), .val (.int p2s), .val (.int p3s), .val (.int p4s), .val (.int z119), .val (.int dd), .val (.int z123), .val (.int z124), .val (.int i1), .val (.int i2), .val (.int i3), .val (.double (9218868437227405312 : UInt64)), .second, .val (.int z137), .val (.int z140), .val (.int z143), .val (.int z146), .val (.ref b149), .val (.ref b153), .val (.ref b171), .val (.int z186), .val (.int z187), .val (.ref gt), .val (.int iR), .unset, .val (.int (0 : Int32)), .val (.int (0 : Int32)), .unset] [])) _
                      refine XS.iconst X191.here hx rfl (hb hby at_410) ?_
                      show Steps p.tables e below (T190.setTop (mkF m 411 #[.val (.int p0s), .val (.int p1s), .val (.int p2s), .val (.int p3s), .val (.int p4s), .val (.int z119), .val (.int dd), .val (.int z123), .val (.int z124), .val (.int i1), .val (.int i2), .val (.int i3), .val (.double (9218868437227405312 : UInt64)), .second, .val (.int z137), .val (.int z140), .val (.int z143), .val (.int z146), .val (.ref b149), .val (.ref b153), .val (.ref b171), .val (.int z186), .val (.int z187), .val (.ref gt), .val (.int iR), .unset, .val (.int (0 : Int32)), .val (.int (0 : Int32)), .unset] [(.int (0 : Int32))])) _
                      refine XS.istore X191.here hx rfl (hb hby at_411) rfl (l' := #[.val (.int p0s), .val (.int p1s), .val (.int p2s), .val (.int p3s), .val (.int p4s), .val (.int z119), .val (.int dd), .val (.int z123), .val (.int z124), .val (.int i1), .val (.int i2), .val (.int i3), .val (.double (9218868437227405312 : UInt64)), .second, .val (.int z137), .val (.int z140), .val (.int z143), .val (.int z146), .val (.ref b149), .val (.ref b153), .val (.ref b171), .val (.int z186), .val (.int z187), .val (.ref gt), .val (.int iR), .unset, .val (.int (0 : Int32)), .val (.int (0 : Int32)), .val (.int (0 : Int32))]) rfl ?_
                      exact kg_
                    have J206 : ∀ (ln : Int32) (e1 : Int32) (e2 : Int32) (e3 : Int32) (hL : own_L z187.toInt z123.toInt z124.toInt ln.toInt e1.toInt e2.toInt e3.toInt) (r207 : own_R p.tables e below F0 (T190.setTop (mkF m 532 #[.val (.int p0s), .val (.int p1s), .val (.int p2s), .val (.int p3s), .val (.int p4s), .val (.int z119), .val (.int dd), .val (.int z123), .val (.int z124), .val (.int i1), .val (.int i2), .val (.int i3), .val (.double (9218868437227405312 : UInt64)), .second, .val (.int z137), .val (.int z140), .val (.int z143), .val (.int z146), .val (.ref b149), .val (.ref b153), .val (.ref b171), .val (.int z186), .val (.int z187), .val (.ref gt), .val (.int iR), .val (.int ln), .val (.int e1), .val (.int e2), .val (.int e3)] []))), G := by
                      intro ln e1 e2 e3 hL r207
                      have hl1 := own_l1 hL
                      have hT := own_tailI hVf hiR (show iR.toInt = 0 from own_eq32 hc204) hO hL
                      clear hO hL hiR
                      have r209 : own_R p.tables e below F0 (T190.setTop (mkF m 537 #[.val (.int p0s), .val (.int p1s), .val (.int p2s), .val (.int p3s), .val (.int p4s), .val (.int z119), .val (.int dd), .val (.int z123), .val (.int z124), .val (.int i1), .val (.int i2), .val (.int i3), .val (.double (9218868437227405312 : UInt64)), .second, .val (.int z137), .val (.int z140), .val (.int z143), .val (.int z146), .val (.ref b149), .val (.ref b153), .val (.ref b171), .val (.int z186), .val (.int z187), .val (.ref gt), .val (.int iR), .val (.int ln), .val (.int e1), .val (.int e2), .val (.int e3)] [(.int ln), (.int (Int32.ofNat Nl))])) := fun tg_ kg_ => by
                        refine r207 tg_ ?_
                        show Steps p.tables e below (T190.setTop (mkF m 532 #[.val (.int p0s), .val (.int p1s), .val (.int p2s), .val (.int p3s), .val (.int p4s), .val (.int z119), .val (.int dd), .val (.int z123), .val (.int z124), .val (.int i1), .val (.int i2), .val (.int i3), .val (.double (9218868437227405312 : UInt64)), .second, .val (.int z137), .val (.int z140), .val (.int z143), .val (.int z146), .val (.ref b149), .val (.ref b153), .val (.ref b171), .val (.int z186), .val (.int z187), .val (.ref gt), .val (.int iR), .val (.int ln), .val (.int e1), .val (.int e2), .val (.int e3)] [])) _
                        refine XS.aload X191.here hx rfl (hb hby at_532) rfl rfl ?_
                        show Steps p.tables e below (T190.setTop (mkF m 534 #[.val (.int p0s), .val (.int p1s), .val (.int p2s), .val (.int p3s), .val (.int p4s), .val (.int z119), .val (.int dd), .val (.int z123), .val (.int z124), .val (.int i1), .val (.int i2), .val (.int i3), .val (.double (9218868437227405312 : UInt64)), .second, .val (.int z137), .val (.int z140), .val (.int z143), .val (.int z146), .val (.ref b149), .val (.ref b153), .val (.ref b171), .val (.int z186), .val (.int z187), .val (.ref gt), .val (.int iR), .val (.int ln), .val (.int e1), .val (.int e2), .val (.int e3)] [(.ref gt)])) _
                        refine own_alen X191 hx hZ e193 F198 (Int32.ofNat Nl) rfl (g := (mkF m 534 #[.val (.int p0s), .val (.int p1s), .val (.int p2s), .val (.int p3s), .val (.int p4s), .val (.int z119), .val (.int dd), .val (.int z123), .val (.int z124), .val (.int i1), .val (.int i2), .val (.int i3), .val (.double (9218868437227405312 : UInt64)), .second, .val (.int z137), .val (.int z140), .val (.int z143), .val (.int z146), .val (.ref b149), .val (.ref b153), .val (.ref b171), .val (.int z186), .val (.int z187), .val (.ref gt), .val (.int iR), .val (.int ln), .val (.int e1), .val (.int e2), .val (.int e3)] [(.ref gt)])) rfl rfl (hb hby at_534) _ ?_
                        show Steps p.tables e below (T190.setTop (mkF m 535 #[.val (.int p0s), .val (.int p1s), .val (.int p2s), .val (.int p3s), .val (.int p4s), .val (.int z119), .val (.int dd), .val (.int z123), .val (.int z124), .val (.int i1), .val (.int i2), .val (.int i3), .val (.double (9218868437227405312 : UInt64)), .second, .val (.int z137), .val (.int z140), .val (.int z143), .val (.int z146), .val (.ref b149), .val (.ref b153), .val (.ref b171), .val (.int z186), .val (.int z187), .val (.ref gt), .val (.int iR), .val (.int ln), .val (.int e1), .val (.int e2), .val (.int e3)] [(.int (Int32.ofNat Nl))])) _
                        refine XS.iload X191.here hx rfl (hb hby at_535) rfl ?_
                        exact kg_
                      have hc208 : (Int32.ofNat Nl) = ln := (Int32.toInt_inj.mp (hNI.trans hT.1))
                      have r211 : own_R p.tables e below F0 (T190.setTop (mkF m 546 #[.val (.int p0s), .val (.int p1s), .val (.int p2s), .val (.int p3s), .val (.int p4s), .val (.int z119), .val (.int dd), .val (.int z123), .val (.int z124), .val (.int i1), .val (.int i2), .val (.int i3), .val (.double (9218868437227405312 : UInt64)), .second, .val (.int z137), .val (.int z140), .val (.int z143), .val (.int z146), .val (.ref b149), .val (.ref b153), .val (.ref b171), .val (.int z186), .val (.int z187), .val (.ref gt), .val (.int iR), .val (.int ln), .val (.int e1), .val (.int e2), .val (.int e3)] [(.int z119), (.int (gr 0))])) := fun tg_ kg_ => by
                        refine r209 tg_ ?_
                        show Steps p.tables e below (T190.setTop (mkF m 537 #[.val (.int p0s), .val (.int p1s), .val (.int p2s), .val (.int p3s), .val (.int p4s), .val (.int z119), .val (.int dd), .val (.int z123), .val (.int z124), .val (.int i1), .val (.int i2), .val (.int i3), .val (.double (9218868437227405312 : UInt64)), .second, .val (.int z137), .val (.int z140), .val (.int z143), .val (.int z146), .val (.ref b149), .val (.ref b153), .val (.ref b171), .val (.int z186), .val (.int z187), .val (.ref gt), .val (.int iR), .val (.int ln), .val (.int e1), .val (.int e2), .val (.int e3)] [(.int ln), (.int (Int32.ofNat Nl))])) _
                        refine XS.icmpNo X191.here hx rfl (hb hby at_537) rfl (teq hc208).2 ?_
                        show Steps p.tables e below (T190.setTop (mkF m 540 #[.val (.int p0s), .val (.int p1s), .val (.int p2s), .val (.int p3s), .val (.int p4s), .val (.int z119), .val (.int dd), .val (.int z123), .val (.int z124), .val (.int i1), .val (.int i2), .val (.int i3), .val (.double (9218868437227405312 : UInt64)), .second, .val (.int z137), .val (.int z140), .val (.int z143), .val (.int z146), .val (.ref b149), .val (.ref b153), .val (.ref b171), .val (.int z186), .val (.int z187), .val (.ref gt), .val (.int iR), .val (.int ln), .val (.int e1), .val (.int e2), .val (.int e3)] [])) _
                        refine XS.aload X191.here hx rfl (hb hby at_540) rfl rfl ?_
                        show Steps p.tables e below (T190.setTop (mkF m 542 #[.val (.int p0s), .val (.int p1s), .val (.int p2s), .val (.int p3s), .val (.int p4s), .val (.int z119), .val (.int dd), .val (.int z123), .val (.int z124), .val (.int i1), .val (.int i2), .val (.int i3), .val (.double (9218868437227405312 : UInt64)), .second, .val (.int z137), .val (.int z140), .val (.int z143), .val (.int z146), .val (.ref b149), .val (.ref b153), .val (.ref b171), .val (.int z186), .val (.int z187), .val (.ref gt), .val (.int iR), .val (.int ln), .val (.int e1), .val (.int e2), .val (.int e3)] [(.ref gt)])) _
                        refine XS.iconst X191.here hx rfl (hb hby at_542) ?_
                        show Steps p.tables e below (T190.setTop (mkF m 543 #[.val (.int p0s), .val (.int p1s), .val (.int p2s), .val (.int p3s), .val (.int p4s), .val (.int z119), .val (.int dd), .val (.int z123), .val (.int z124), .val (.int i1), .val (.int i2), .val (.int i3), .val (.double (9218868437227405312 : UInt64)), .second, .val (.int z137), .val (.int z140), .val (.int z143), .val (.int z146), .val (.ref b149), .val (.ref b153), .val (.ref b171), .val (.int z186), .val (.int z187), .val (.ref gt), .val (.int iR), .val (.int ln), .val (.int e1), .val (.int e2), .val (.int e3)] [(.int (0 : Int32)), (.ref gt)])) _
                        refine own_iaload X191 hx hZ e193 (j := (0 : Int32)) F198 (by decide) (by show (0 : Int) < _; have z := hT.1; omega) (w := (.int (gr 0))) rfl (g := (mkF m 543 #[.val (.int p0s), .val (.int p1s), .val (.int p2s), .val (.int p3s), .val (.int p4s), .val (.int z119), .val (.int dd), .val (.int z123), .val (.int z124), .val (.int i1), .val (.int i2), .val (.int i3), .val (.double (9218868437227405312 : UInt64)), .second, .val (.int z137), .val (.int z140), .val (.int z143), .val (.int z146), .val (.ref b149), .val (.ref b153), .val (.ref b171), .val (.int z186), .val (.int z187), .val (.ref gt), .val (.int iR), .val (.int ln), .val (.int e1), .val (.int e2), .val (.int e3)] [(.int (0 : Int32)), (.ref gt)])) rfl rfl (hb hby at_543) _ ?_
                        show Steps p.tables e below (T190.setTop (mkF m 544 #[.val (.int p0s), .val (.int p1s), .val (.int p2s), .val (.int p3s), .val (.int p4s), .val (.int z119), .val (.int dd), .val (.int z123), .val (.int z124), .val (.int i1), .val (.int i2), .val (.int i3), .val (.double (9218868437227405312 : UInt64)), .second, .val (.int z137), .val (.int z140), .val (.int z143), .val (.int z146), .val (.ref b149), .val (.ref b153), .val (.ref b171), .val (.int z186), .val (.int z187), .val (.ref gt), .val (.int iR), .val (.int ln), .val (.int e1), .val (.int e2), .val (.int e3)] [(.int (gr 0))])) _
                        refine XS.iload X191.here hx rfl (hb hby at_544) rfl ?_
                        exact kg_
                      have hc210 : (gr 0) = z119 := (Int32.toInt_inj.mp (hT.2.1))
                      have r212 : own_R p.tables e below F0 (T190.setTop (mkF m 552 #[.val (.int p0s), .val (.int p1s), .val (.int p2s), .val (.int p3s), .val (.int p4s), .val (.int z119), .val (.int dd), .val (.int z123), .val (.int z124), .val (.int i1), .val (.int i2), .val (.int i3), .val (.double (9218868437227405312 : UInt64)), .second, .val (.int z137), .val (.int z140), .val (.int z143), .val (.int z146), .val (.ref b149), .val (.ref b153), .val (.ref b171), .val (.int z186), .val (.int z187), .val (.ref gt), .val (.int iR), .val (.int ln), .val (.int e1), .val (.int e2), .val (.int e3)] [(.int (2 : Int32)), (.int ln)])) := fun tg_ kg_ => by
                        refine r211 tg_ ?_
                        show Steps p.tables e below (T190.setTop (mkF m 546 #[.val (.int p0s), .val (.int p1s), .val (.int p2s), .val (.int p3s), .val (.int p4s), .val (.int z119), .val (.int dd), .val (.int z123), .val (.int z124), .val (.int i1), .val (.int i2), .val (.int i3), .val (.double (9218868437227405312 : UInt64)), .second, .val (.int z137), .val (.int z140), .val (.int z143), .val (.int z146), .val (.ref b149), .val (.ref b153), .val (.ref b171), .val (.int z186), .val (.int z187), .val (.ref gt), .val (.int iR), .val (.int ln), .val (.int e1), .val (.int e2), .val (.int e3)] [(.int z119), (.int (gr 0))])) _
                        refine XS.icmpNo X191.here hx rfl (hb hby at_546) rfl (teq hc210).2 ?_
                        show Steps p.tables e below (T190.setTop (mkF m 549 #[.val (.int p0s), .val (.int p1s), .val (.int p2s), .val (.int p3s), .val (.int p4s), .val (.int z119), .val (.int dd), .val (.int z123), .val (.int z124), .val (.int i1), .val (.int i2), .val (.int i3), .val (.double (9218868437227405312 : UInt64)), .second, .val (.int z137), .val (.int z140), .val (.int z143), .val (.int z146), .val (.ref b149), .val (.ref b153), .val (.ref b171), .val (.int z186), .val (.int z187), .val (.ref gt), .val (.int iR), .val (.int ln), .val (.int e1), .val (.int e2), .val (.int e3)] [])) _
                        refine XS.iload X191.here hx rfl (hb hby at_549) rfl ?_
                        show Steps p.tables e below (T190.setTop (mkF m 551 #[.val (.int p0s), .val (.int p1s), .val (.int p2s), .val (.int p3s), .val (.int p4s), .val (.int z119), .val (.int dd), .val (.int z123), .val (.int z124), .val (.int i1), .val (.int i2), .val (.int i3), .val (.double (9218868437227405312 : UInt64)), .second, .val (.int z137), .val (.int z140), .val (.int z143), .val (.int z146), .val (.ref b149), .val (.ref b153), .val (.ref b171), .val (.int z186), .val (.int z187), .val (.ref gt), .val (.int iR), .val (.int ln), .val (.int e1), .val (.int e2), .val (.int e3)] [(.int ln)])) _
                        refine XS.iconst X191.here hx rfl (hb hby at_551) ?_
                        exact kg_
                      by_cases hc213 : ln < (2 : Int32)
                      · have r214 : own_R p.tables e below F0 (T190.setTop (mkF m 574 #[.val (.int p0s), .val (.int p1s), .val (.int p2s), .val (.int p3s), .val (.int p4s), .val (.int z119), .val (.int dd), .val (.int z123), .val (.int z124), .val (.int i1), .val (.int i2), .val (.int i3), .val (.double (9218868437227405312 : UInt64)), .second, .val (.int z137), .val (.int z140), .val (.int z143), .val (.int z146), .val (.ref b149), .val (.ref b153), .val (.ref b171), .val (.int z186), .val (.int z187), .val (.ref gt), .val (.int iR), .val (.int ln), .val (.int e1), .val (.int e2), .val (.int e3)] [(.int (3 : Int32)), (.int ln)])) := fun tg_ kg_ => by
                          refine r212 tg_ ?_
                          show Steps p.tables e below (T190.setTop (mkF m 552 #[.val (.int p0s), .val (.int p1s), .val (.int p2s), .val (.int p3s), .val (.int p4s), .val (.int z119), .val (.int dd), .val (.int z123), .val (.int z124), .val (.int i1), .val (.int i2), .val (.int i3), .val (.double (9218868437227405312 : UInt64)), .second, .val (.int z137), .val (.int z140), .val (.int z143), .val (.int z146), .val (.ref b149), .val (.ref b153), .val (.ref b171), .val (.int z186), .val (.int z187), .val (.ref gt), .val (.int iR), .val (.int ln), .val (.int e1), .val (.int e2), .val (.int e3)] [(.int (2 : Int32)), (.int ln)])) _
                          refine XS.icmpYes X191.here hx rfl (pc0 := 552) (pc' := 571) rfl (hb hby at_552) rfl (tlt hc213).1 (by decide) (by decide) ?_
                          show Steps p.tables e below (T190.setTop (mkF m 571 #[.val (.int p0s), .val (.int p1s), .val (.int p2s), .val (.int p3s), .val (.int p4s), .val (.int z119), .val (.int dd), .val (.int z123), .val (.int z124), .val (.int i1), .val (.int i2), .val (.int i3), .val (.double (9218868437227405312 : UInt64)), .second, .val (.int z137), .val (.int z140), .val (.int z143), .val (.int z146), .val (.ref b149), .val (.ref b153), .val (.ref b171), .val (.int z186), .val (.int z187), .val (.ref gt), .val (.int iR), .val (.int ln), .val (.int e1), .val (.int e2), .val (.int e3)] [])) _
                          refine XS.iload X191.here hx rfl (hb hby at_571) rfl ?_
                          show Steps p.tables e below (T190.setTop (mkF m 573 #[.val (.int p0s), .val (.int p1s), .val (.int p2s), .val (.int p3s), .val (.int p4s), .val (.int z119), .val (.int dd), .val (.int z123), .val (.int z124), .val (.int i1), .val (.int i2), .val (.int i3), .val (.double (9218868437227405312 : UInt64)), .second, .val (.int z137), .val (.int z140), .val (.int z143), .val (.int z146), .val (.ref b149), .val (.ref b153), .val (.ref b171), .val (.int z186), .val (.int z187), .val (.ref gt), .val (.int iR), .val (.int ln), .val (.int e1), .val (.int e2), .val (.int e3)] [(.int ln)])) _
                          refine XS.iconst X191.here hx rfl (hb hby at_573) ?_
                          exact kg_
                        by_cases hc215 : ln < (3 : Int32)
                        · have r216 : own_R p.tables e below F0 (T190.setTop (mkF m 596 #[.val (.int p0s), .val (.int p1s), .val (.int p2s), .val (.int p3s), .val (.int p4s), .val (.int z119), .val (.int dd), .val (.int z123), .val (.int z124), .val (.int i1), .val (.int i2), .val (.int i3), .val (.double (9218868437227405312 : UInt64)), .second, .val (.int z137), .val (.int z140), .val (.int z143), .val (.int z146), .val (.ref b149), .val (.ref b153), .val (.ref b171), .val (.int z186), .val (.int z187), .val (.ref gt), .val (.int iR), .val (.int ln), .val (.int e1), .val (.int e2), .val (.int e3)] [(.int (4 : Int32)), (.int ln)])) := fun tg_ kg_ => by
                            refine r214 tg_ ?_
                            show Steps p.tables e below (T190.setTop (mkF m 574 #[.val (.int p0s), .val (.int p1s), .val (.int p2s), .val (.int p3s), .val (.int p4s), .val (.int z119), .val (.int dd), .val (.int z123), .val (.int z124), .val (.int i1), .val (.int i2), .val (.int i3), .val (.double (9218868437227405312 : UInt64)), .second, .val (.int z137), .val (.int z140), .val (.int z143), .val (.int z146), .val (.ref b149), .val (.ref b153), .val (.ref b171), .val (.int z186), .val (.int z187), .val (.ref gt), .val (.int iR), .val (.int ln), .val (.int e1), .val (.int e2), .val (.int e3)] [(.int (3 : Int32)), (.int ln)])) _
                            refine XS.icmpYes X191.here hx rfl (pc0 := 574) (pc' := 593) rfl (hb hby at_574) rfl (tlt hc215).1 (by decide) (by decide) ?_
                            show Steps p.tables e below (T190.setTop (mkF m 593 #[.val (.int p0s), .val (.int p1s), .val (.int p2s), .val (.int p3s), .val (.int p4s), .val (.int z119), .val (.int dd), .val (.int z123), .val (.int z124), .val (.int i1), .val (.int i2), .val (.int i3), .val (.double (9218868437227405312 : UInt64)), .second, .val (.int z137), .val (.int z140), .val (.int z143), .val (.int z146), .val (.ref b149), .val (.ref b153), .val (.ref b171), .val (.int z186), .val (.int z187), .val (.ref gt), .val (.int iR), .val (.int ln), .val (.int e1), .val (.int e2), .val (.int e3)] [])) _
                            refine XS.iload X191.here hx rfl (hb hby at_593) rfl ?_
                            show Steps p.tables e below (T190.setTop (mkF m 595 #[.val (.int p0s), .val (.int p1s), .val (.int p2s), .val (.int p3s), .val (.int p4s), .val (.int z119), .val (.int dd), .val (.int z123), .val (.int z124), .val (.int i1), .val (.int i2), .val (.int i3), .val (.double (9218868437227405312 : UInt64)), .second, .val (.int z137), .val (.int z140), .val (.int z143), .val (.int z146), .val (.ref b149), .val (.ref b153), .val (.ref b171), .val (.int z186), .val (.int z187), .val (.ref gt), .val (.int iR), .val (.int ln), .val (.int e1), .val (.int e2), .val (.int e3)] [(.int ln)])) _
                            refine XS.iconst X191.here hx rfl (hb hby at_595) ?_
                            exact kg_
                          by_cases hc217 : ln < (4 : Int32)
                          · have r218 : own_R p.tables e below F0 (T190.setTop (mkF m 620 #[.val (.int p0s), .val (.int p1s), .val (.int p2s), .val (.int p3s), .val (.int p4s), .val (.int z119), .val (.int dd), .val (.int z123), .val (.int z124), .val (.int i1), .val (.int i2), .val (.int i3), .val (.double (9218868437227405312 : UInt64)), .second, .val (.int z137), .val (.int z140), .val (.int z143), .val (.int z146), .val (.ref b149), .val (.ref b153), .val (.ref b171), .val (.int z186), .val (.int z187), .val (.ref gt), .val (.int iR), .val (.int ln), .val (.int e1), .val (.int e2), .val (.int e3)] [(.int (1 : Int32))])) := fun tg_ kg_ => by
                              refine r216 tg_ ?_
                              show Steps p.tables e below (T190.setTop (mkF m 596 #[.val (.int p0s), .val (.int p1s), .val (.int p2s), .val (.int p3s), .val (.int p4s), .val (.int z119), .val (.int dd), .val (.int z123), .val (.int z124), .val (.int i1), .val (.int i2), .val (.int i3), .val (.double (9218868437227405312 : UInt64)), .second, .val (.int z137), .val (.int z140), .val (.int z143), .val (.int z146), .val (.ref b149), .val (.ref b153), .val (.ref b171), .val (.int z186), .val (.int z187), .val (.ref gt), .val (.int iR), .val (.int ln), .val (.int e1), .val (.int e2), .val (.int e3)] [(.int (4 : Int32)), (.int ln)])) _
                              refine XS.icmpYes X191.here hx rfl (pc0 := 596) (pc' := 615) rfl (hb hby at_596) rfl (tlt hc217).1 (by decide) (by decide) ?_
                              show Steps p.tables e below (T190.setTop (mkF m 615 #[.val (.int p0s), .val (.int p1s), .val (.int p2s), .val (.int p3s), .val (.int p4s), .val (.int z119), .val (.int dd), .val (.int z123), .val (.int z124), .val (.int i1), .val (.int i2), .val (.int i3), .val (.double (9218868437227405312 : UInt64)), .second, .val (.int z137), .val (.int z140), .val (.int z143), .val (.int z146), .val (.ref b149), .val (.ref b153), .val (.ref b171), .val (.int z186), .val (.int z187), .val (.ref gt), .val (.int iR), .val (.int ln), .val (.int e1), .val (.int e2), .val (.int e3)] [])) _
                              refine XS.iconst X191.here hx rfl (hb hby at_615) ?_
                              show Steps p.tables e below (T190.setTop (mkF m 616 #[.val (.int p0s), .val (.int p1s), .val (.int p2s), .val (.int p3s), .val (.int p4s), .val (.int z119), .val (.int dd), .val (.int z123), .val (.int z124), .val (.int i1), .val (.int i2), .val (.int i3), .val (.double (9218868437227405312 : UInt64)), .second, .val (.int z137), .val (.int z140), .val (.int z143), .val (.int z146), .val (.ref b149), .val (.ref b153), .val (.ref b171), .val (.int z186), .val (.int z187), .val (.ref gt), .val (.int iR), .val (.int ln), .val (.int e1), .val (.int e2), .val (.int e3)] [(.int (1 : Int32))])) _
                              refine XS.goto X191.here hx rfl (pc0 := 616) (pc' := 620) rfl (hb hby at_616) (by decide) (by decide) ?_
                              exact kg_
                            refine hG (own_fin X191 hlk (some (.int (nar .boolean (1 : Int32)))) (own_hv Bd.returns) ?_ (by decide) (by decide) (fun fs hr => r218 _ (retN X191 hx (t := .boolean) Bd.returns (by simp) (hb hby at_620) hr)))
                            rw [e193]
                            exact ⟨rfl, N194⟩
                          · have r219 : own_R p.tables e below F0 (T190.setTop (mkF m 609 #[.val (.int p0s), .val (.int p1s), .val (.int p2s), .val (.int p3s), .val (.int p4s), .val (.int z119), .val (.int dd), .val (.int z123), .val (.int z124), .val (.int i1), .val (.int i2), .val (.int i3), .val (.double (9218868437227405312 : UInt64)), .second, .val (.int z137), .val (.int z140), .val (.int z143), .val (.int z146), .val (.ref b149), .val (.ref b153), .val (.ref b171), .val (.int z186), .val (.int z187), .val (.ref gt), .val (.int iR), .val (.int ln), .val (.int e1), .val (.int e2), .val (.int e3)] [(.int e3), (.int dd), (.int z119), (.int (gr 3))])) := fun tg_ kg_ => by
                              refine r216 tg_ ?_
                              show Steps p.tables e below (T190.setTop (mkF m 596 #[.val (.int p0s), .val (.int p1s), .val (.int p2s), .val (.int p3s), .val (.int p4s), .val (.int z119), .val (.int dd), .val (.int z123), .val (.int z124), .val (.int i1), .val (.int i2), .val (.int i3), .val (.double (9218868437227405312 : UInt64)), .second, .val (.int z137), .val (.int z140), .val (.int z143), .val (.int z146), .val (.ref b149), .val (.ref b153), .val (.ref b171), .val (.int z186), .val (.int z187), .val (.ref gt), .val (.int iR), .val (.int ln), .val (.int e1), .val (.int e2), .val (.int e3)] [(.int (4 : Int32)), (.int ln)])) _
                              refine XS.icmpNo X191.here hx rfl (hb hby at_596) rfl (flt hc217).1 ?_
                              show Steps p.tables e below (T190.setTop (mkF m 599 #[.val (.int p0s), .val (.int p1s), .val (.int p2s), .val (.int p3s), .val (.int p4s), .val (.int z119), .val (.int dd), .val (.int z123), .val (.int z124), .val (.int i1), .val (.int i2), .val (.int i3), .val (.double (9218868437227405312 : UInt64)), .second, .val (.int z137), .val (.int z140), .val (.int z143), .val (.int z146), .val (.ref b149), .val (.ref b153), .val (.ref b171), .val (.int z186), .val (.int z187), .val (.ref gt), .val (.int iR), .val (.int ln), .val (.int e1), .val (.int e2), .val (.int e3)] [])) _
                              refine XS.aload X191.here hx rfl (hb hby at_599) rfl rfl ?_
                              show Steps p.tables e below (T190.setTop (mkF m 601 #[.val (.int p0s), .val (.int p1s), .val (.int p2s), .val (.int p3s), .val (.int p4s), .val (.int z119), .val (.int dd), .val (.int z123), .val (.int z124), .val (.int i1), .val (.int i2), .val (.int i3), .val (.double (9218868437227405312 : UInt64)), .second, .val (.int z137), .val (.int z140), .val (.int z143), .val (.int z146), .val (.ref b149), .val (.ref b153), .val (.ref b171), .val (.int z186), .val (.int z187), .val (.ref gt), .val (.int iR), .val (.int ln), .val (.int e1), .val (.int e2), .val (.int e3)] [(.ref gt)])) _
                              refine XS.iconst X191.here hx rfl (hb hby at_601) ?_
                              show Steps p.tables e below (T190.setTop (mkF m 602 #[.val (.int p0s), .val (.int p1s), .val (.int p2s), .val (.int p3s), .val (.int p4s), .val (.int z119), .val (.int dd), .val (.int z123), .val (.int z124), .val (.int i1), .val (.int i2), .val (.int i3), .val (.double (9218868437227405312 : UInt64)), .second, .val (.int z137), .val (.int z140), .val (.int z143), .val (.int z146), .val (.ref b149), .val (.ref b153), .val (.ref b171), .val (.int z186), .val (.int z187), .val (.ref gt), .val (.int iR), .val (.int ln), .val (.int e1), .val (.int e2), .val (.int e3)] [(.int (3 : Int32)), (.ref gt)])) _
                              refine own_iaload X191 hx hZ e193 (j := (3 : Int32)) F198 (by decide) (by have z0 := own_nlt32 hc217; have z1 : (4 : Int32).toInt = 4 := rfl; have z := hT.1; show (3 : Int) < _; omega) (w := (.int (gr 3))) rfl (g := (mkF m 602 #[.val (.int p0s), .val (.int p1s), .val (.int p2s), .val (.int p3s), .val (.int p4s), .val (.int z119), .val (.int dd), .val (.int z123), .val (.int z124), .val (.int i1), .val (.int i2), .val (.int i3), .val (.double (9218868437227405312 : UInt64)), .second, .val (.int z137), .val (.int z140), .val (.int z143), .val (.int z146), .val (.ref b149), .val (.ref b153), .val (.ref b171), .val (.int z186), .val (.int z187), .val (.ref gt), .val (.int iR), .val (.int ln), .val (.int e1), .val (.int e2), .val (.int e3)] [(.int (3 : Int32)), (.ref gt)])) rfl rfl (hb hby at_602) _ ?_
                              show Steps p.tables e below (T190.setTop (mkF m 603 #[.val (.int p0s), .val (.int p1s), .val (.int p2s), .val (.int p3s), .val (.int p4s), .val (.int z119), .val (.int dd), .val (.int z123), .val (.int z124), .val (.int i1), .val (.int i2), .val (.int i3), .val (.double (9218868437227405312 : UInt64)), .second, .val (.int z137), .val (.int z140), .val (.int z143), .val (.int z146), .val (.ref b149), .val (.ref b153), .val (.ref b171), .val (.int z186), .val (.int z187), .val (.ref gt), .val (.int iR), .val (.int ln), .val (.int e1), .val (.int e2), .val (.int e3)] [(.int (gr 3))])) _
                              refine XS.iload X191.here hx rfl (hb hby at_603) rfl ?_
                              show Steps p.tables e below (T190.setTop (mkF m 605 #[.val (.int p0s), .val (.int p1s), .val (.int p2s), .val (.int p3s), .val (.int p4s), .val (.int z119), .val (.int dd), .val (.int z123), .val (.int z124), .val (.int i1), .val (.int i2), .val (.int i3), .val (.double (9218868437227405312 : UInt64)), .second, .val (.int z137), .val (.int z140), .val (.int z143), .val (.int z146), .val (.ref b149), .val (.ref b153), .val (.ref b171), .val (.int z186), .val (.int z187), .val (.ref gt), .val (.int iR), .val (.int ln), .val (.int e1), .val (.int e2), .val (.int e3)] [(.int z119), (.int (gr 3))])) _
                              refine XS.iload X191.here hx rfl (hb hby at_605) rfl ?_
                              show Steps p.tables e below (T190.setTop (mkF m 607 #[.val (.int p0s), .val (.int p1s), .val (.int p2s), .val (.int p3s), .val (.int p4s), .val (.int z119), .val (.int dd), .val (.int z123), .val (.int z124), .val (.int i1), .val (.int i2), .val (.int i3), .val (.double (9218868437227405312 : UInt64)), .second, .val (.int z137), .val (.int z140), .val (.int z143), .val (.int z146), .val (.ref b149), .val (.ref b153), .val (.ref b171), .val (.int z186), .val (.int z187), .val (.ref gt), .val (.int iR), .val (.int ln), .val (.int e1), .val (.int e2), .val (.int e3)] [(.int dd), (.int z119), (.int (gr 3))])) _
                              refine XS.iload X191.here hx rfl (hb hby at_607) rfl ?_
                              exact kg_
                            obtain ⟨_, _, ⟨T220, L220, k220, n220⟩, -, X220, ⟨Lc220, hQ220, l220, y220, z220⟩, st220⟩ := Jvm.LawKit.callS X191 hx (y := (⟨"org/fractile/graph/PathTreePathPinLaw", "vert", "(III)I"⟩ : MethodName)) hown (mvT hZ (hw _ (List.mem_of_getElem? (i := 1) rfl))) (mvT hZ (hw _ (List.mem_of_getElem? (i := 2) rfl))) (mvT hZ (hw _ (List.mem_of_getElem? (i := 3) rfl))) (mvT hZ (hw _ (List.mem_of_getElem? (i := 4) rfl))) (by decide) (backOf (W := 1) (rm1 l Z a0 hw [] z119 dd e3 h192 n0 Zs195 ) hZ (hw _ (List.mem_of_getElem? (i := 4) rfl)) (hw _ (List.mem_of_getElem? (i := 3) rfl)) (by decide) (by decide)) (g := (mkF m 609 #[.val (.int p0s), .val (.int p1s), .val (.int p2s), .val (.int p3s), .val (.int p4s), .val (.int z119), .val (.int dd), .val (.int z123), .val (.int z124), .val (.int i1), .val (.int i2), .val (.int i3), .val (.double (9218868437227405312 : UInt64)), .second, .val (.int z137), .val (.int z140), .val (.int z143), .val (.int z146), .val (.ref b149), .val (.ref b153), .val (.ref b171), .val (.int z186), .val (.int z187), .val (.ref gt), .val (.int iR), .val (.int ln), .val (.int e1), .val (.int e2), .val (.int e3)] [(.int e3), (.int dd), (.int z119), (.int (gr 3))])) rfl (by rw [hml]; rfl) (argsL := [(.int z119), (.int dd), (.int e3)]) (rest := [(.int (gr 3))]) (lenOf pd_0 rfl) rfl (by show 2 * 0 + _ ≤ _; exact Nat.le_of_eq rfl) (hb hby at_609) (fun _ _ => ⟨rfl, e193, (by decide : 4 + 0 ≤ _), (by decide : 15 + 0 ≤ _)⟩)
                            dsimp only [Pt.U, Pt.locs, Pt.cells, Pt.slots] at X220 l220 y220 z220 st220 hQ220
                            subst l220 y220 z220
                            obtain ⟨rfl, N220q, I220_0⟩ := hQ220
                            have N220 := Fr.app N194 N220q
                            have r220 : own_R p.tables e below F0 (T220.setTop (mkF m 612 #[.val (.int p0s), .val (.int p1s), .val (.int p2s), .val (.int p3s), .val (.int p4s), .val (.int z119), .val (.int dd), .val (.int z123), .val (.int z124), .val (.int i1), .val (.int i2), .val (.int i3), .val (.double (9218868437227405312 : UInt64)), .second, .val (.int z137), .val (.int z140), .val (.int z143), .val (.int z146), .val (.ref b149), .val (.ref b153), .val (.ref b171), .val (.int z186), .val (.int z187), .val (.ref gt), .val (.int iR), .val (.int ln), .val (.int e1), .val (.int e2), .val (.int e3)] [(.int ((z119 + (e3 * dd)) &&& (3 : Int32))), (.int (gr 3))])) := fun tg_ kg_ => r219 tg_ (st220 tg_ kg_)
                            have hc221 : (gr 3) = ((z119 + (e3 * dd)) &&& (3 : Int32)) := (Int32.toInt_inj.mp (by
                                  have q1 := hT.2.2.2.2 (by have z := own_nlt32 hc217; have z1 : (4 : Int32).toInt = 4 := rfl; omega)
                                  have q2 := own_vertI z119 e3 dd hS q1.1
                                  rcases hdd with z | z
                                  · rw [q2.1 z]; exact q1.2.1 z
                                  · rw [q2.2 z]; exact q1.2.2 z))
                            have r222 : own_R p.tables e below F0 (T220.setTop (mkF m 620 #[.val (.int p0s), .val (.int p1s), .val (.int p2s), .val (.int p3s), .val (.int p4s), .val (.int z119), .val (.int dd), .val (.int z123), .val (.int z124), .val (.int i1), .val (.int i2), .val (.int i3), .val (.double (9218868437227405312 : UInt64)), .second, .val (.int z137), .val (.int z140), .val (.int z143), .val (.int z146), .val (.ref b149), .val (.ref b153), .val (.ref b171), .val (.int z186), .val (.int z187), .val (.ref gt), .val (.int iR), .val (.int ln), .val (.int e1), .val (.int e2), .val (.int e3)] [(.int (1 : Int32))])) := fun tg_ kg_ => by
                              refine r220 tg_ ?_
                              show Steps p.tables e below (T220.setTop (mkF m 612 #[.val (.int p0s), .val (.int p1s), .val (.int p2s), .val (.int p3s), .val (.int p4s), .val (.int z119), .val (.int dd), .val (.int z123), .val (.int z124), .val (.int i1), .val (.int i2), .val (.int i3), .val (.double (9218868437227405312 : UInt64)), .second, .val (.int z137), .val (.int z140), .val (.int z143), .val (.int z146), .val (.ref b149), .val (.ref b153), .val (.ref b171), .val (.int z186), .val (.int z187), .val (.ref gt), .val (.int iR), .val (.int ln), .val (.int e1), .val (.int e2), .val (.int e3)] [(.int ((z119 + (e3 * dd)) &&& (3 : Int32))), (.int (gr 3))])) _
                              refine XS.icmpNo X220.here hx rfl (hb hby at_612) rfl (teq hc221).2 ?_
                              show Steps p.tables e below (T220.setTop (mkF m 615 #[.val (.int p0s), .val (.int p1s), .val (.int p2s), .val (.int p3s), .val (.int p4s), .val (.int z119), .val (.int dd), .val (.int z123), .val (.int z124), .val (.int i1), .val (.int i2), .val (.int i3), .val (.double (9218868437227405312 : UInt64)), .second, .val (.int z137), .val (.int z140), .val (.int z143), .val (.int z146), .val (.ref b149), .val (.ref b153), .val (.ref b171), .val (.int z186), .val (.int z187), .val (.ref gt), .val (.int iR), .val (.int ln), .val (.int e1), .val (.int e2), .val (.int e3)] [])) _
                              refine XS.iconst X220.here hx rfl (hb hby at_615) ?_
                              show Steps p.tables e below (T220.setTop (mkF m 616 #[.val (.int p0s), .val (.int p1s), .val (.int p2s), .val (.int p3s), .val (.int p4s), .val (.int z119), .val (.int dd), .val (.int z123), .val (.int z124), .val (.int i1), .val (.int i2), .val (.int i3), .val (.double (9218868437227405312 : UInt64)), .second, .val (.int z137), .val (.int z140), .val (.int z143), .val (.int z146), .val (.ref b149), .val (.ref b153), .val (.ref b171), .val (.int z186), .val (.int z187), .val (.ref gt), .val (.int iR), .val (.int ln), .val (.int e1), .val (.int e2), .val (.int e3)] [(.int (1 : Int32))])) _
                              refine XS.goto X220.here hx rfl (pc0 := 616) (pc' := 620) rfl (hb hby at_616) (by decide) (by decide) ?_
                              exact kg_
                            refine hG (own_fin X220 hlk (some (.int (nar .boolean (1 : Int32)))) (own_hv Bd.returns) ?_ (by decide) (by decide) (fun fs hr => r222 _ (retN X220 hx (t := .boolean) Bd.returns (by simp) (hb hby at_620) hr)))
                            rw [I220_0]
                            exact ⟨rfl, N220⟩
                        · have r223 : own_R p.tables e below F0 (T190.setTop (mkF m 587 #[.val (.int p0s), .val (.int p1s), .val (.int p2s), .val (.int p3s), .val (.int p4s), .val (.int z119), .val (.int dd), .val (.int z123), .val (.int z124), .val (.int i1), .val (.int i2), .val (.int i3), .val (.double (9218868437227405312 : UInt64)), .second, .val (.int z137), .val (.int z140), .val (.int z143), .val (.int z146), .val (.ref b149), .val (.ref b153), .val (.ref b171), .val (.int z186), .val (.int z187), .val (.ref gt), .val (.int iR), .val (.int ln), .val (.int e1), .val (.int e2), .val (.int e3)] [(.int e2), (.int dd), (.int z119), (.int (gr 2))])) := fun tg_ kg_ => by
                            refine r214 tg_ ?_
                            show Steps p.tables e below (T190.setTop (mkF m 574 #[.val (.int p0s), .val (.int p1s), .val (.int p2s), .val (.int p3s), .val (.int p4s), .val (.int z119), .val (.int dd), .val (.int z123), .val (.int z124), .val (.int i1), .val (.int i2), .val (.int i3), .val (.double (9218868437227405312 : UInt64)), .second, .val (.int z137), .val (.int z140), .val (.int z143), .val (.int z146), .val (.ref b149), .val (.ref b153), .val (.ref b171), .val (.int z186), .val (.int z187), .val (.ref gt), .val (.int iR), .val (.int ln), .val (.int e1), .val (.int e2), .val (.int e3)] [(.int (3 : Int32)), (.int ln)])) _
                            refine XS.icmpNo X191.here hx rfl (hb hby at_574) rfl (flt hc215).1 ?_
                            show Steps p.tables e below (T190.setTop (mkF m 577 #[.val (.int p0s), .val (.int p1s), .val (.int p2s), .val (.int p3s), .val (.int p4s), .val (.int z119), .val (.int dd), .val (.int z123), .val (.int z124), .val (.int i1), .val (.int i2), .val (.int i3), .val (.double (9218868437227405312 : UInt64)), .second, .val (.int z137), .val (.int z140), .val (.int z143), .val (.int z146), .val (.ref b149), .val (.ref b153), .val (.ref b171), .val (.int z186), .val (.int z187), .val (.ref gt), .val (.int iR), .val (.int ln), .val (.int e1), .val (.int e2), .val (.int e3)] [])) _
                            refine XS.aload X191.here hx rfl (hb hby at_577) rfl rfl ?_
                            show Steps p.tables e below (T190.setTop (mkF m 579 #[.val (.int p0s), .val (.int p1s), .val (.int p2s), .val (.int p3s), .val (.int p4s), .val (.int z119), .val (.int dd), .val (.int z123), .val (.int z124), .val (.int i1), .val (.int i2), .val (.int i3), .val (.double (9218868437227405312 : UInt64)), .second, .val (.int z137), .val (.int z140), .val (.int z143), .val (.int z146), .val (.ref b149), .val (.ref b153), .val (.ref b171), .val (.int z186), .val (.int z187), .val (.ref gt), .val (.int iR), .val (.int ln), .val (.int e1), .val (.int e2), .val (.int e3)] [(.ref gt)])) _
                            refine XS.iconst X191.here hx rfl (hb hby at_579) ?_
                            show Steps p.tables e below (T190.setTop (mkF m 580 #[.val (.int p0s), .val (.int p1s), .val (.int p2s), .val (.int p3s), .val (.int p4s), .val (.int z119), .val (.int dd), .val (.int z123), .val (.int z124), .val (.int i1), .val (.int i2), .val (.int i3), .val (.double (9218868437227405312 : UInt64)), .second, .val (.int z137), .val (.int z140), .val (.int z143), .val (.int z146), .val (.ref b149), .val (.ref b153), .val (.ref b171), .val (.int z186), .val (.int z187), .val (.ref gt), .val (.int iR), .val (.int ln), .val (.int e1), .val (.int e2), .val (.int e3)] [(.int (2 : Int32)), (.ref gt)])) _
                            refine own_iaload X191 hx hZ e193 (j := (2 : Int32)) F198 (by decide) (by have z0 := own_nlt32 hc215; have z1 : (3 : Int32).toInt = 3 := rfl; have z := hT.1; show (2 : Int) < _; omega) (w := (.int (gr 2))) rfl (g := (mkF m 580 #[.val (.int p0s), .val (.int p1s), .val (.int p2s), .val (.int p3s), .val (.int p4s), .val (.int z119), .val (.int dd), .val (.int z123), .val (.int z124), .val (.int i1), .val (.int i2), .val (.int i3), .val (.double (9218868437227405312 : UInt64)), .second, .val (.int z137), .val (.int z140), .val (.int z143), .val (.int z146), .val (.ref b149), .val (.ref b153), .val (.ref b171), .val (.int z186), .val (.int z187), .val (.ref gt), .val (.int iR), .val (.int ln), .val (.int e1), .val (.int e2), .val (.int e3)] [(.int (2 : Int32)), (.ref gt)])) rfl rfl (hb hby at_580) _ ?_
                            show Steps p.tables e below (T190.setTop (mkF m 581 #[.val (.int p0s), .val (.int p1s), .val (.int p2s), .val (.int p3s), .val (.int p4s), .val (.int z119), .val (.int dd), .val (.int z123), .val (.int z124), .val (.int i1), .val (.int i2), .val (.int i3), .val (.double (9218868437227405312 : UInt64)), .second, .val (.int z137), .val (.int z140), .val (.int z143), .val (.int z146), .val (.ref b149), .val (.ref b153), .val (.ref b171), .val (.int z186), .val (.int z187), .val (.ref gt), .val (.int iR), .val (.int ln), .val (.int e1), .val (.int e2), .val (.int e3)] [(.int (gr 2))])) _
                            refine XS.iload X191.here hx rfl (hb hby at_581) rfl ?_
                            show Steps p.tables e below (T190.setTop (mkF m 583 #[.val (.int p0s), .val (.int p1s), .val (.int p2s), .val (.int p3s), .val (.int p4s), .val (.int z119), .val (.int dd), .val (.int z123), .val (.int z124), .val (.int i1), .val (.int i2), .val (.int i3), .val (.double (9218868437227405312 : UInt64)), .second, .val (.int z137), .val (.int z140), .val (.int z143), .val (.int z146), .val (.ref b149), .val (.ref b153), .val (.ref b171), .val (.int z186), .val (.int z187), .val (.ref gt), .val (.int iR), .val (.int ln), .val (.int e1), .val (.int e2), .val (.int e3)] [(.int z119), (.int (gr 2))])) _
                            refine XS.iload X191.here hx rfl (hb hby at_583) rfl ?_
                            show Steps p.tables e below (T190.setTop (mkF m 585 #[.val (.int p0s), .val (.int p1s), .val (.int p2s), .val (.int p3s), .val (.int p4s), .val (.int z119), .val (.int dd), .val (.int z123), .val (.int z124), .val (.int i1), .val (.int i2), .val (.int i3), .val (.double (9218868437227405312 : UInt64)), .second, .val (.int z137), .val (.int z140), .val (.int z143), .val (.int z146), .val (.ref b149), .val (.ref b153), .val (.ref b171), .val (.int z186), .val (.int z187), .val (.ref gt), .val (.int iR), .val (.int ln), .val (.int e1), .val (.int e2), .val (.int e3)] [(.int dd), (.int z119), (.int (gr 2))])) _
                            refine XS.iload X191.here hx rfl (hb hby at_585) rfl ?_
                            exact kg_
                          obtain ⟨_, _, ⟨T224, L224, k224, n224⟩, -, X224, ⟨Lc224, hQ224, l224, y224, z224⟩, st224⟩ := Jvm.LawKit.callS X191 hx (y := (⟨"org/fractile/graph/PathTreePathPinLaw", "vert", "(III)I"⟩ : MethodName)) hown (mvT hZ (hw _ (List.mem_of_getElem? (i := 1) rfl))) (mvT hZ (hw _ (List.mem_of_getElem? (i := 2) rfl))) (mvT hZ (hw _ (List.mem_of_getElem? (i := 3) rfl))) (mvT hZ (hw _ (List.mem_of_getElem? (i := 4) rfl))) (by decide) (backOf (W := 1) (rm1 l Z a0 hw [] z119 dd e2 h192 n0 Zs195 ) hZ (hw _ (List.mem_of_getElem? (i := 4) rfl)) (hw _ (List.mem_of_getElem? (i := 3) rfl)) (by decide) (by decide)) (g := (mkF m 587 #[.val (.int p0s), .val (.int p1s), .val (.int p2s), .val (.int p3s), .val (.int p4s), .val (.int z119), .val (.int dd), .val (.int z123), .val (.int z124), .val (.int i1), .val (.int i2), .val (.int i3), .val (.double (9218868437227405312 : UInt64)), .second, .val (.int z137), .val (.int z140), .val (.int z143), .val (.int z146), .val (.ref b149), .val (.ref b153), .val (.ref b171), .val (.int z186), .val (.int z187), .val (.ref gt), .val (.int iR), .val (.int ln), .val (.int e1), .val (.int e2), .val (.int e3)] [(.int e2), (.int dd), (.int z119), (.int (gr 2))])) rfl (by rw [hml]; rfl) (argsL := [(.int z119), (.int dd), (.int e2)]) (rest := [(.int (gr 2))]) (lenOf pd_0 rfl) rfl (by show 2 * 0 + _ ≤ _; exact Nat.le_of_eq rfl) (hb hby at_587) (fun _ _ => ⟨rfl, e193, (by decide : 4 + 0 ≤ _), (by decide : 15 + 0 ≤ _)⟩)
                          dsimp only [Pt.U, Pt.locs, Pt.cells, Pt.slots] at X224 l224 y224 z224 st224 hQ224
                          subst l224 y224 z224
                          obtain ⟨rfl, N224q, I224_0⟩ := hQ224
                          have N224 := Fr.app N194 N224q
                          have r224 : own_R p.tables e below F0 (T224.setTop (mkF m 590 #[.val (.int p0s), .val (.int p1s), .val (.int p2s), .val (.int p3s), .val (.int p4s), .val (.int z119), .val (.int dd), .val (.int z123), .val (.int z124), .val (.int i1), .val (.int i2), .val (.int i3), .val (.double (9218868437227405312 : UInt64)), .second, .val (.int z137), .val (.int z140), .val (.int z143), .val (.int z146), .val (.ref b149), .val (.ref b153), .val (.ref b171), .val (.int z186), .val (.int z187), .val (.ref gt), .val (.int iR), .val (.int ln), .val (.int e1), .val (.int e2), .val (.int e3)] [(.int ((z119 + (e2 * dd)) &&& (3 : Int32))), (.int (gr 2))])) := fun tg_ kg_ => r223 tg_ (st224 tg_ kg_)
                          have hc225 : (gr 2) = ((z119 + (e2 * dd)) &&& (3 : Int32)) := (Int32.toInt_inj.mp (by
                                have q1 := hT.2.2.2.1 (by have z := own_nlt32 hc215; have z1 : (3 : Int32).toInt = 3 := rfl; omega)
                                have q2 := own_vertI z119 e2 dd hS q1.1
                                rcases hdd with z | z
                                · rw [q2.1 z]; exact q1.2.1 z
                                · rw [q2.2 z]; exact q1.2.2 z))
                          have r226 : own_R p.tables e below F0 (T224.setTop (mkF m 596 #[.val (.int p0s), .val (.int p1s), .val (.int p2s), .val (.int p3s), .val (.int p4s), .val (.int z119), .val (.int dd), .val (.int z123), .val (.int z124), .val (.int i1), .val (.int i2), .val (.int i3), .val (.double (9218868437227405312 : UInt64)), .second, .val (.int z137), .val (.int z140), .val (.int z143), .val (.int z146), .val (.ref b149), .val (.ref b153), .val (.ref b171), .val (.int z186), .val (.int z187), .val (.ref gt), .val (.int iR), .val (.int ln), .val (.int e1), .val (.int e2), .val (.int e3)] [(.int (4 : Int32)), (.int ln)])) := fun tg_ kg_ => by
                            refine r224 tg_ ?_
                            show Steps p.tables e below (T224.setTop (mkF m 590 #[.val (.int p0s), .val (.int p1s), .val (.int p2s), .val (.int p3s), .val (.int p4s), .val (.int z119), .val (.int dd), .val (.int z123), .val (.int z124), .val (.int i1), .val (.int i2), .val (.int i3), .val (.double (9218868437227405312 : UInt64)), .second, .val (.int z137), .val (.int z140), .val (.int z143), .val (.int z146), .val (.ref b149), .val (.ref b153), .val (.ref b171), .val (.int z186), .val (.int z187), .val (.ref gt), .val (.int iR), .val (.int ln), .val (.int e1), .val (.int e2), .val (.int e3)] [(.int ((z119 + (e2 * dd)) &&& (3 : Int32))), (.int (gr 2))])) _
                            refine XS.icmpNo X224.here hx rfl (hb hby at_590) rfl (teq hc225).2 ?_
                            show Steps p.tables e below (T224.setTop (mkF m 593 #[.val (.int p0s), .val (.int p1s), .val (.int p2s), .val (.int p3s), .val (.int p4s), .val (.int z119), .val (.int dd), .val (.int z123), .val (.int z124), .val (.int i1), .val (.int i2), .val (.int i3), .val (.double (9218868437227405312 : UInt64)), .second, .val (.int z137), .val (.int z140), .val (.int z143), .val (.int z146), .val (.ref b149), .val (.ref b153), .val (.ref b171), .val (.int z186), .val (.int z187), .val (.ref gt), .val (.int iR), .val (.int ln), .val (.int e1), .val (.int e2), .val (.int e3)] [])) _
                            refine XS.iload X224.here hx rfl (hb hby at_593) rfl ?_
                            show Steps p.tables e below (T224.setTop (mkF m 595 #[.val (.int p0s), .val (.int p1s), .val (.int p2s), .val (.int p3s), .val (.int p4s), .val (.int z119), .val (.int dd), .val (.int z123), .val (.int z124), .val (.int i1), .val (.int i2), .val (.int i3), .val (.double (9218868437227405312 : UInt64)), .second, .val (.int z137), .val (.int z140), .val (.int z143), .val (.int z146), .val (.ref b149), .val (.ref b153), .val (.ref b171), .val (.int z186), .val (.int z187), .val (.ref gt), .val (.int iR), .val (.int ln), .val (.int e1), .val (.int e2), .val (.int e3)] [(.int ln)])) _
                            refine XS.iconst X224.here hx rfl (hb hby at_595) ?_
                            exact kg_
                          by_cases hc227 : ln < (4 : Int32)
                          · have r228 : own_R p.tables e below F0 (T224.setTop (mkF m 620 #[.val (.int p0s), .val (.int p1s), .val (.int p2s), .val (.int p3s), .val (.int p4s), .val (.int z119), .val (.int dd), .val (.int z123), .val (.int z124), .val (.int i1), .val (.int i2), .val (.int i3), .val (.double (9218868437227405312 : UInt64)), .second, .val (.int z137), .val (.int z140), .val (.int z143), .val (.int z146), .val (.ref b149), .val (.ref b153), .val (.ref b171), .val (.int z186), .val (.int z187), .val (.ref gt), .val (.int iR), .val (.int ln), .val (.int e1), .val (.int e2), .val (.int e3)] [(.int (1 : Int32))])) := fun tg_ kg_ => by
                              refine r226 tg_ ?_
                              show Steps p.tables e below (T224.setTop (mkF m 596 #[.val (.int p0s), .val (.int p1s), .val (.int p2s), .val (.int p3s), .val (.int p4s), .val (.int z119), .val (.int dd), .val (.int z123), .val (.int z124), .val (.int i1), .val (.int i2), .val (.int i3), .val (.double (9218868437227405312 : UInt64)), .second, .val (.int z137), .val (.int z140), .val (.int z143), .val (.int z146), .val (.ref b149), .val (.ref b153), .val (.ref b171), .val (.int z186), .val (.int z187), .val (.ref gt), .val (.int iR), .val (.int ln), .val (.int e1), .val (.int e2), .val (.int e3)] [(.int (4 : Int32)), (.int ln)])) _
                              refine XS.icmpYes X224.here hx rfl (pc0 := 596) (pc' := 615) rfl (hb hby at_596) rfl (tlt hc227).1 (by decide) (by decide) ?_
                              show Steps p.tables e below (T224.setTop (mkF m 615 #[.val (.int p0s), .val (.int p1s), .val (.int p2s), .val (.int p3s), .val (.int p4s), .val (.int z119), .val (.int dd), .val (.int z123), .val (.int z124), .val (.int i1), .val (.int i2), .val (.int i3), .val (.double (9218868437227405312 : UInt64)), .second, .val (.int z137), .val (.int z140), .val (.int z143), .val (.int z146), .val (.ref b149), .val (.ref b153), .val (.ref b171), .val (.int z186), .val (.int z187), .val (.ref gt), .val (.int iR), .val (.int ln), .val (.int e1), .val (.int e2), .val (.int e3)] [])) _
                              refine XS.iconst X224.here hx rfl (hb hby at_615) ?_
                              show Steps p.tables e below (T224.setTop (mkF m 616 #[.val (.int p0s), .val (.int p1s), .val (.int p2s), .val (.int p3s), .val (.int p4s), .val (.int z119), .val (.int dd), .val (.int z123), .val (.int z124), .val (.int i1), .val (.int i2), .val (.int i3), .val (.double (9218868437227405312 : UInt64)), .second, .val (.int z137), .val (.int z140), .val (.int z143), .val (.int z146), .val (.ref b149), .val (.ref b153), .val (.ref b171), .val (.int z186), .val (.int z187), .val (.ref gt), .val (.int iR), .val (.int ln), .val (.int e1), .val (.int e2), .val (.int e3)] [(.int (1 : Int32))])) _
                              refine XS.goto X224.here hx rfl (pc0 := 616) (pc' := 620) rfl (hb hby at_616) (by decide) (by decide) ?_
                              exact kg_
                            refine hG (own_fin X224 hlk (some (.int (nar .boolean (1 : Int32)))) (own_hv Bd.returns) ?_ (by decide) (by decide) (fun fs hr => r228 _ (retN X224 hx (t := .boolean) Bd.returns (by simp) (hb hby at_620) hr)))
                            rw [I224_0]
                            exact ⟨rfl, N224⟩
                          · have r229 : own_R p.tables e below F0 (T224.setTop (mkF m 609 #[.val (.int p0s), .val (.int p1s), .val (.int p2s), .val (.int p3s), .val (.int p4s), .val (.int z119), .val (.int dd), .val (.int z123), .val (.int z124), .val (.int i1), .val (.int i2), .val (.int i3), .val (.double (9218868437227405312 : UInt64)), .second, .val (.int z137), .val (.int z140), .val (.int z143), .val (.int z146), .val (.ref b149), .val (.ref b153), .val (.ref b171), .val (.int z186), .val (.int z187), .val (.ref gt), .val (.int iR), .val (.int ln), .val (.int e1), .val (.int e2), .val (.int e3)] [(.int e3), (.int dd), (.int z119), (.int (gr 3))])) := fun tg_ kg_ => by
                              refine r226 tg_ ?_
                              show Steps p.tables e below (T224.setTop (mkF m 596 #[.val (.int p0s), .val (.int p1s), .val (.int p2s), .val (.int p3s), .val (.int p4s), .val (.int z119), .val (.int dd), .val (.int z123), .val (.int z124), .val (.int i1), .val (.int i2), .val (.int i3), .val (.double (9218868437227405312 : UInt64)), .second, .val (.int z137), .val (.int z140), .val (.int z143), .val (.int z146), .val (.ref b149), .val (.ref b153), .val (.ref b171), .val (.int z186), .val (.int z187), .val (.ref gt), .val (.int iR), .val (.int ln), .val (.int e1), .val (.int e2), .val (.int e3)] [(.int (4 : Int32)), (.int ln)])) _
                              refine XS.icmpNo X224.here hx rfl (hb hby at_596) rfl (flt hc227).1 ?_
                              show Steps p.tables e below (T224.setTop (mkF m 599 #[.val (.int p0s), .val (.int p1s), .val (.int p2s), .val (.int p3s), .val (.int p4s), .val (.int z119), .val (.int dd), .val (.int z123), .val (.int z124), .val (.int i1), .val (.int i2), .val (.int i3), .val (.double (9218868437227405312 : UInt64)), .second, .val (.int z137), .val (.int z140), .val (.int z143), .val (.int z146), .val (.ref b149), .val (.ref b153), .val (.ref b171), .val (.int z186), .val (.int z187), .val (.ref gt), .val (.int iR), .val (.int ln), .val (.int e1), .val (.int e2), .val (.int e3)] [])) _
                              refine XS.aload X224.here hx rfl (hb hby at_599) rfl rfl ?_
                              show Steps p.tables e below (T224.setTop (mkF m 601 #[.val (.int p0s), .val (.int p1s), .val (.int p2s), .val (.int p3s), .val (.int p4s), .val (.int z119), .val (.int dd), .val (.int z123), .val (.int z124), .val (.int i1), .val (.int i2), .val (.int i3), .val (.double (9218868437227405312 : UInt64)), .second, .val (.int z137), .val (.int z140), .val (.int z143), .val (.int z146), .val (.ref b149), .val (.ref b153), .val (.ref b171), .val (.int z186), .val (.int z187), .val (.ref gt), .val (.int iR), .val (.int ln), .val (.int e1), .val (.int e2), .val (.int e3)] [(.ref gt)])) _
                              refine XS.iconst X224.here hx rfl (hb hby at_601) ?_
                              show Steps p.tables e below (T224.setTop (mkF m 602 #[.val (.int p0s), .val (.int p1s), .val (.int p2s), .val (.int p3s), .val (.int p4s), .val (.int z119), .val (.int dd), .val (.int z123), .val (.int z124), .val (.int i1), .val (.int i2), .val (.int i3), .val (.double (9218868437227405312 : UInt64)), .second, .val (.int z137), .val (.int z140), .val (.int z143), .val (.int z146), .val (.ref b149), .val (.ref b153), .val (.ref b171), .val (.int z186), .val (.int z187), .val (.ref gt), .val (.int iR), .val (.int ln), .val (.int e1), .val (.int e2), .val (.int e3)] [(.int (3 : Int32)), (.ref gt)])) _
                              refine own_iaload X224 hx hZ I224_0 (j := (3 : Int32)) F198 (by decide) (by have z0 := own_nlt32 hc227; have z1 : (4 : Int32).toInt = 4 := rfl; have z := hT.1; show (3 : Int) < _; omega) (w := (.int (gr 3))) rfl (g := (mkF m 602 #[.val (.int p0s), .val (.int p1s), .val (.int p2s), .val (.int p3s), .val (.int p4s), .val (.int z119), .val (.int dd), .val (.int z123), .val (.int z124), .val (.int i1), .val (.int i2), .val (.int i3), .val (.double (9218868437227405312 : UInt64)), .second, .val (.int z137), .val (.int z140), .val (.int z143), .val (.int z146), .val (.ref b149), .val (.ref b153), .val (.ref b171), .val (.int z186), .val (.int z187), .val (.ref gt), .val (.int iR), .val (.int ln), .val (.int e1), .val (.int e2), .val (.int e3)] [(.int (3 : Int32)), (.ref gt)])) rfl rfl (hb hby at_602) _ ?_
                              show Steps p.tables e below (T224.setTop (mkF m 603 #[.val (.int p0s), .val (.int p1s), .val (.int p2s), .val (.int p3s), .val (.int p4s), .val (.int z119), .val (.int dd), .val (.int z123), .val (.int z124), .val (.int i1), .val (.int i2), .val (.int i3), .val (.double (9218868437227405312 : UInt64)), .second, .val (.int z137), .val (.int z140), .val (.int z143), .val (.int z146), .val (.ref b149), .val (.ref b153), .val (.ref b171), .val (.int z186), .val (.int z187), .val (.ref gt), .val (.int iR), .val (.int ln), .val (.int e1), .val (.int e2), .val (.int e3)] [(.int (gr 3))])) _
                              refine XS.iload X224.here hx rfl (hb hby at_603) rfl ?_
                              show Steps p.tables e below (T224.setTop (mkF m 605 #[.val (.int p0s), .val (.int p1s), .val (.int p2s), .val (.int p3s), .val (.int p4s), .val (.int z119), .val (.int dd), .val (.int z123), .val (.int z124), .val (.int i1), .val (.int i2), .val (.int i3), .val (.double (9218868437227405312 : UInt64)), .second, .val (.int z137), .val (.int z140), .val (.int z143), .val (.int z146), .val (.ref b149), .val (.ref b153), .val (.ref b171), .val (.int z186), .val (.int z187), .val (.ref gt), .val (.int iR), .val (.int ln), .val (.int e1), .val (.int e2), .val (.int e3)] [(.int z119), (.int (gr 3))])) _
                              refine XS.iload X224.here hx rfl (hb hby at_605) rfl ?_
                              show Steps p.tables e below (T224.setTop (mkF m 607 #[.val (.int p0s), .val (.int p1s), .val (.int p2s), .val (.int p3s), .val (.int p4s), .val (.int z119), .val (.int dd), .val (.int z123), .val (.int z124), .val (.int i1), .val (.int i2), .val (.int i3), .val (.double (9218868437227405312 : UInt64)), .second, .val (.int z137), .val (.int z140), .val (.int z143), .val (.int z146), .val (.ref b149), .val (.ref b153), .val (.ref b171), .val (.int z186), .val (.int z187), .val (.ref gt), .val (.int iR), .val (.int ln), .val (.int e1), .val (.int e2), .val (.int e3)] [(.int dd), (.int z119), (.int (gr 3))])) _
                              refine XS.iload X224.here hx rfl (hb hby at_607) rfl ?_
                              exact kg_
                            obtain ⟨_, _, ⟨T230, L230, k230, n230⟩, -, X230, ⟨Lc230, hQ230, l230, y230, z230⟩, st230⟩ := Jvm.LawKit.callS X224 hx (y := (⟨"org/fractile/graph/PathTreePathPinLaw", "vert", "(III)I"⟩ : MethodName)) hown (mvT hZ (hw _ (List.mem_of_getElem? (i := 1) rfl))) (mvT hZ (hw _ (List.mem_of_getElem? (i := 2) rfl))) (mvT hZ (hw _ (List.mem_of_getElem? (i := 3) rfl))) (mvT hZ (hw _ (List.mem_of_getElem? (i := 4) rfl))) (by decide) (backOf (W := 1) (rm1 l Z a0 hw [] z119 dd e3 h192 n0 Zs195 ) hZ (hw _ (List.mem_of_getElem? (i := 4) rfl)) (hw _ (List.mem_of_getElem? (i := 3) rfl)) (by decide) (by decide)) (g := (mkF m 609 #[.val (.int p0s), .val (.int p1s), .val (.int p2s), .val (.int p3s), .val (.int p4s), .val (.int z119), .val (.int dd), .val (.int z123), .val (.int z124), .val (.int i1), .val (.int i2), .val (.int i3), .val (.double (9218868437227405312 : UInt64)), .second, .val (.int z137), .val (.int z140), .val (.int z143), .val (.int z146), .val (.ref b149), .val (.ref b153), .val (.ref b171), .val (.int z186), .val (.int z187), .val (.ref gt), .val (.int iR), .val (.int ln), .val (.int e1), .val (.int e2), .val (.int e3)] [(.int e3), (.int dd), (.int z119), (.int (gr 3))])) rfl (by rw [hml]; rfl) (argsL := [(.int z119), (.int dd), (.int e3)]) (rest := [(.int (gr 3))]) (lenOf pd_0 rfl) rfl (by show 2 * 0 + _ ≤ _; exact Nat.le_of_eq rfl) (hb hby at_609) (fun _ _ => ⟨rfl, I224_0, (by decide : 4 + 0 ≤ _), (by decide : 15 + 0 ≤ _)⟩)
                            dsimp only [Pt.U, Pt.locs, Pt.cells, Pt.slots] at X230 l230 y230 z230 st230 hQ230
                            subst l230 y230 z230
                            obtain ⟨rfl, N230q, I230_0⟩ := hQ230
                            have N230 := Fr.app N224 N230q
                            have r230 : own_R p.tables e below F0 (T230.setTop (mkF m 612 #[.val (.int p0s), .val (.int p1s), .val (.int p2s), .val (.int p3s), .val (.int p4s), .val (.int z119), .val (.int dd), .val (.int z123), .val (.int z124), .val (.int i1), .val (.int i2), .val (.int i3), .val (.double (9218868437227405312 : UInt64)), .second, .val (.int z137), .val (.int z140), .val (.int z143), .val (.int z146), .val (.ref b149), .val (.ref b153), .val (.ref b171), .val (.int z186), .val (.int z187), .val (.ref gt), .val (.int iR), .val (.int ln), .val (.int e1), .val (.int e2), .val (.int e3)] [(.int ((z119 + (e3 * dd)) &&& (3 : Int32))), (.int (gr 3))])) := fun tg_ kg_ => r229 tg_ (st230 tg_ kg_)
                            have hc231 : (gr 3) = ((z119 + (e3 * dd)) &&& (3 : Int32)) := (Int32.toInt_inj.mp (by
                                  have q1 := hT.2.2.2.2 (by have z := own_nlt32 hc227; have z1 : (4 : Int32).toInt = 4 := rfl; omega)
                                  have q2 := own_vertI z119 e3 dd hS q1.1
                                  rcases hdd with z | z
                                  · rw [q2.1 z]; exact q1.2.1 z
                                  · rw [q2.2 z]; exact q1.2.2 z))
                            have r232 : own_R p.tables e below F0 (T230.setTop (mkF m 620 #[.val (.int p0s), .val (.int p1s), .val (.int p2s), .val (.int p3s), .val (.int p4s), .val (.int z119), .val (.int dd), .val (.int z123), .val (.int z124), .val (.int i1), .val (.int i2), .val (.int i3), .val (.double (9218868437227405312 : UInt64)), .second, .val (.int z137), .val (.int z140), .val (.int z143), .val (.int z146), .val (.ref b149), .val (.ref b153), .val (.ref b171), .val (.int z186), .val (.int z187), .val (.ref gt), .val (.int iR), .val (.int ln), .val (.int e1), .val (.int e2), .val (.int e3)] [(.int (1 : Int32))])) := fun tg_ kg_ => by
                              refine r230 tg_ ?_
                              show Steps p.tables e below (T230.setTop (mkF m 612 #[.val (.int p0s), .val (.int p1s), .val (.int p2s), .val (.int p3s), .val (.int p4s), .val (.int z119), .val (.int dd), .val (.int z123), .val (.int z124), .val (.int i1), .val (.int i2), .val (.int i3), .val (.double (9218868437227405312 : UInt64)), .second, .val (.int z137), .val (.int z140), .val (.int z143), .val (.int z146), .val (.ref b149), .val (.ref b153), .val (.ref b171), .val (.int z186), .val (.int z187), .val (.ref gt), .val (.int iR), .val (.int ln), .val (.int e1), .val (.int e2), .val (.int e3)] [(.int ((z119 + (e3 * dd)) &&& (3 : Int32))), (.int (gr 3))])) _
                              refine XS.icmpNo X230.here hx rfl (hb hby at_612) rfl (teq hc231).2 ?_
                              show Steps p.tables e below (T230.setTop (mkF m 615 #[.val (.int p0s), .val (.int p1s), .val (.int p2s), .val (.int p3s), .val (.int p4s), .val (.int z119), .val (.int dd), .val (.int z123), .val (.int z124), .val (.int i1), .val (.int i2), .val (.int i3), .val (.double (9218868437227405312 : UInt64)), .second, .val (.int z137), .val (.int z140), .val (.int z143), .val (.int z146), .val (.ref b149), .val (.ref b153), .val (.ref b171), .val (.int z186), .val (.int z187), .val (.ref gt), .val (.int iR), .val (.int ln), .val (.int e1), .val (.int e2), .val (.int e3)] [])) _
                              refine XS.iconst X230.here hx rfl (hb hby at_615) ?_
                              show Steps p.tables e below (T230.setTop (mkF m 616 #[.val (.int p0s), .val (.int p1s), .val (.int p2s), .val (.int p3s), .val (.int p4s), .val (.int z119), .val (.int dd), .val (.int z123), .val (.int z124), .val (.int i1), .val (.int i2), .val (.int i3), .val (.double (9218868437227405312 : UInt64)), .second, .val (.int z137), .val (.int z140), .val (.int z143), .val (.int z146), .val (.ref b149), .val (.ref b153), .val (.ref b171), .val (.int z186), .val (.int z187), .val (.ref gt), .val (.int iR), .val (.int ln), .val (.int e1), .val (.int e2), .val (.int e3)] [(.int (1 : Int32))])) _
                              refine XS.goto X230.here hx rfl (pc0 := 616) (pc' := 620) rfl (hb hby at_616) (by decide) (by decide) ?_
                              exact kg_
                            refine hG (own_fin X230 hlk (some (.int (nar .boolean (1 : Int32)))) (own_hv Bd.returns) ?_ (by decide) (by decide) (fun fs hr => r232 _ (retN X230 hx (t := .boolean) Bd.returns (by simp) (hb hby at_620) hr)))
                            rw [I230_0]
                            exact ⟨rfl, N230⟩
                      · have r233 : own_R p.tables e below F0 (T190.setTop (mkF m 565 #[.val (.int p0s), .val (.int p1s), .val (.int p2s), .val (.int p3s), .val (.int p4s), .val (.int z119), .val (.int dd), .val (.int z123), .val (.int z124), .val (.int i1), .val (.int i2), .val (.int i3), .val (.double (9218868437227405312 : UInt64)), .second, .val (.int z137), .val (.int z140), .val (.int z143), .val (.int z146), .val (.ref b149), .val (.ref b153), .val (.ref b171), .val (.int z186), .val (.int z187), .val (.ref gt), .val (.int iR), .val (.int ln), .val (.int e1), .val (.int e2), .val (.int e3)] [(.int e1), (.int dd), (.int z119), (.int (gr 1))])) := fun tg_ kg_ => by
                          refine r212 tg_ ?_
                          show Steps p.tables e below (T190.setTop (mkF m 552 #[.val (.int p0s), .val (.int p1s), .val (.int p2s), .val (.int p3s), .val (.int p4s), .val (.int z119), .val (.int dd), .val (.int z123), .val (.int z124), .val (.int i1), .val (.int i2), .val (.int i3), .val (.double (9218868437227405312 : UInt64)), .second, .val (.int z137), .val (.int z140), .val (.int z143), .val (.int z146), .val (.ref b149), .val (.ref b153), .val (.ref b171), .val (.int z186), .val (.int z187), .val (.ref gt), .val (.int iR), .val (.int ln), .val (.int e1), .val (.int e2), .val (.int e3)] [(.int (2 : Int32)), (.int ln)])) _
                          refine XS.icmpNo X191.here hx rfl (hb hby at_552) rfl (flt hc213).1 ?_
                          show Steps p.tables e below (T190.setTop (mkF m 555 #[.val (.int p0s), .val (.int p1s), .val (.int p2s), .val (.int p3s), .val (.int p4s), .val (.int z119), .val (.int dd), .val (.int z123), .val (.int z124), .val (.int i1), .val (.int i2), .val (.int i3), .val (.double (9218868437227405312 : UInt64)), .second, .val (.int z137), .val (.int z140), .val (.int z143), .val (.int z146), .val (.ref b149), .val (.ref b153), .val (.ref b171), .val (.int z186), .val (.int z187), .val (.ref gt), .val (.int iR), .val (.int ln), .val (.int e1), .val (.int e2), .val (.int e3)] [])) _
                          refine XS.aload X191.here hx rfl (hb hby at_555) rfl rfl ?_
                          show Steps p.tables e below (T190.setTop (mkF m 557 #[.val (.int p0s), .val (.int p1s), .val (.int p2s), .val (.int p3s), .val (.int p4s), .val (.int z119), .val (.int dd), .val (.int z123), .val (.int z124), .val (.int i1), .val (.int i2), .val (.int i3), .val (.double (9218868437227405312 : UInt64)), .second, .val (.int z137), .val (.int z140), .val (.int z143), .val (.int z146), .val (.ref b149), .val (.ref b153), .val (.ref b171), .val (.int z186), .val (.int z187), .val (.ref gt), .val (.int iR), .val (.int ln), .val (.int e1), .val (.int e2), .val (.int e3)] [(.ref gt)])) _
                          refine XS.iconst X191.here hx rfl (hb hby at_557) ?_
                          show Steps p.tables e below (T190.setTop (mkF m 558 #[.val (.int p0s), .val (.int p1s), .val (.int p2s), .val (.int p3s), .val (.int p4s), .val (.int z119), .val (.int dd), .val (.int z123), .val (.int z124), .val (.int i1), .val (.int i2), .val (.int i3), .val (.double (9218868437227405312 : UInt64)), .second, .val (.int z137), .val (.int z140), .val (.int z143), .val (.int z146), .val (.ref b149), .val (.ref b153), .val (.ref b171), .val (.int z186), .val (.int z187), .val (.ref gt), .val (.int iR), .val (.int ln), .val (.int e1), .val (.int e2), .val (.int e3)] [(.int (1 : Int32)), (.ref gt)])) _
                          refine own_iaload X191 hx hZ e193 (j := (1 : Int32)) F198 (by decide) (by have z0 := own_nlt32 hc213; have z1 : (2 : Int32).toInt = 2 := rfl; have z := hT.1; show (1 : Int) < _; omega) (w := (.int (gr 1))) rfl (g := (mkF m 558 #[.val (.int p0s), .val (.int p1s), .val (.int p2s), .val (.int p3s), .val (.int p4s), .val (.int z119), .val (.int dd), .val (.int z123), .val (.int z124), .val (.int i1), .val (.int i2), .val (.int i3), .val (.double (9218868437227405312 : UInt64)), .second, .val (.int z137), .val (.int z140), .val (.int z143), .val (.int z146), .val (.ref b149), .val (.ref b153), .val (.ref b171), .val (.int z186), .val (.int z187), .val (.ref gt), .val (.int iR), .val (.int ln), .val (.int e1), .val (.int e2), .val (.int e3)] [(.int (1 : Int32)), (.ref gt)])) rfl rfl (hb hby at_558) _ ?_
                          show Steps p.tables e below (T190.setTop (mkF m 559 #[.val (.int p0s), .val (.int p1s), .val (.int p2s), .val (.int p3s), .val (.int p4s), .val (.int z119), .val (.int dd), .val (.int z123), .val (.int z124), .val (.int i1), .val (.int i2), .val (.int i3), .val (.double (9218868437227405312 : UInt64)), .second, .val (.int z137), .val (.int z140), .val (.int z143), .val (.int z146), .val (.ref b149), .val (.ref b153), .val (.ref b171), .val (.int z186), .val (.int z187), .val (.ref gt), .val (.int iR), .val (.int ln), .val (.int e1), .val (.int e2), .val (.int e3)] [(.int (gr 1))])) _
                          refine XS.iload X191.here hx rfl (hb hby at_559) rfl ?_
                          show Steps p.tables e below (T190.setTop (mkF m 561 #[.val (.int p0s), .val (.int p1s), .val (.int p2s), .val (.int p3s), .val (.int p4s), .val (.int z119), .val (.int dd), .val (.int z123), .val (.int z124), .val (.int i1), .val (.int i2), .val (.int i3), .val (.double (9218868437227405312 : UInt64)), .second, .val (.int z137), .val (.int z140), .val (.int z143), .val (.int z146), .val (.ref b149), .val (.ref b153), .val (.ref b171), .val (.int z186), .val (.int z187), .val (.ref gt), .val (.int iR), .val (.int ln), .val (.int e1), .val (.int e2), .val (.int e3)] [(.int z119), (.int (gr 1))])) _
                          refine XS.iload X191.here hx rfl (hb hby at_561) rfl ?_
                          show Steps p.tables e below (T190.setTop (mkF m 563 #[.val (.int p0s), .val (.int p1s), .val (.int p2s), .val (.int p3s), .val (.int p4s), .val (.int z119), .val (.int dd), .val (.int z123), .val (.int z124), .val (.int i1), .val (.int i2), .val (.int i3), .val (.double (9218868437227405312 : UInt64)), .second, .val (.int z137), .val (.int z140), .val (.int z143), .val (.int z146), .val (.ref b149), .val (.ref b153), .val (.ref b171), .val (.int z186), .val (.int z187), .val (.ref gt), .val (.int iR), .val (.int ln), .val (.int e1), .val (.int e2), .val (.int e3)] [(.int dd), (.int z119), (.int (gr 1))])) _
                          refine XS.iload X191.here hx rfl (hb hby at_563) rfl ?_
                          exact kg_
                        obtain ⟨_, _, ⟨T234, L234, k234, n234⟩, -, X234, ⟨Lc234, hQ234, l234, y234, z234⟩, st234⟩ := Jvm.LawKit.callS X191 hx (y := (⟨"org/fractile/graph/PathTreePathPinLaw", "vert", "(III)I"⟩ : MethodName)) hown (mvT hZ (hw _ (List.mem_of_getElem? (i := 1) rfl))) (mvT hZ (hw _ (List.mem_of_getElem? (i := 2) rfl))) (mvT hZ (hw _ (List.mem_of_getElem? (i := 3) rfl))) (mvT hZ (hw _ (List.mem_of_getElem? (i := 4) rfl))) (by decide) (backOf (W := 1) (rm1 l Z a0 hw [] z119 dd e1 h192 n0 Zs195 ) hZ (hw _ (List.mem_of_getElem? (i := 4) rfl)) (hw _ (List.mem_of_getElem? (i := 3) rfl)) (by decide) (by decide)) (g := (mkF m 565 #[.val (.int p0s), .val (.int p1s), .val (.int p2s), .val (.int p3s), .val (.int p4s), .val (.int z119), .val (.int dd), .val (.int z123), .val (.int z124), .val (.int i1), .val (.int i2), .val (.int i3), .val (.double (9218868437227405312 : UInt64)), .second, .val (.int z137), .val (.int z140), .val (.int z143), .val (.int z146), .val (.ref b149), .val (.ref b153), .val (.ref b171), .val (.int z186), .val (.int z187), .val (.ref gt), .val (.int iR), .val (.int ln), .val (.int e1), .val (.int e2), .val (.int e3)] [(.int e1), (.int dd), (.int z119), (.int (gr 1))])) rfl (by rw [hml]; rfl) (argsL := [(.int z119), (.int dd), (.int e1)]) (rest := [(.int (gr 1))]) (lenOf pd_0 rfl) rfl (by show 2 * 0 + _ ≤ _; exact Nat.le_of_eq rfl) (hb hby at_565) (fun _ _ => ⟨rfl, e193, (by decide : 4 + 0 ≤ _), (by decide : 15 + 0 ≤ _)⟩)
                        dsimp only [Pt.U, Pt.locs, Pt.cells, Pt.slots] at X234 l234 y234 z234 st234 hQ234
                        subst l234 y234 z234
                        obtain ⟨rfl, N234q, I234_0⟩ := hQ234
                        have N234 := Fr.app N194 N234q
                        have r234 : own_R p.tables e below F0 (T234.setTop (mkF m 568 #[.val (.int p0s), .val (.int p1s), .val (.int p2s), .val (.int p3s), .val (.int p4s), .val (.int z119), .val (.int dd), .val (.int z123), .val (.int z124), .val (.int i1), .val (.int i2), .val (.int i3), .val (.double (9218868437227405312 : UInt64)), .second, .val (.int z137), .val (.int z140), .val (.int z143), .val (.int z146), .val (.ref b149), .val (.ref b153), .val (.ref b171), .val (.int z186), .val (.int z187), .val (.ref gt), .val (.int iR), .val (.int ln), .val (.int e1), .val (.int e2), .val (.int e3)] [(.int ((z119 + (e1 * dd)) &&& (3 : Int32))), (.int (gr 1))])) := fun tg_ kg_ => r233 tg_ (st234 tg_ kg_)
                        have hc235 : (gr 1) = ((z119 + (e1 * dd)) &&& (3 : Int32)) := (Int32.toInt_inj.mp (by
                              have q1 := hT.2.2.1 (by have z := own_nlt32 hc213; have z1 : (2 : Int32).toInt = 2 := rfl; omega)
                              have q2 := own_vertI z119 e1 dd hS q1.1
                              rcases hdd with z | z
                              · rw [q2.1 z]; exact q1.2.1 z
                              · rw [q2.2 z]; exact q1.2.2 z))
                        have r236 : own_R p.tables e below F0 (T234.setTop (mkF m 574 #[.val (.int p0s), .val (.int p1s), .val (.int p2s), .val (.int p3s), .val (.int p4s), .val (.int z119), .val (.int dd), .val (.int z123), .val (.int z124), .val (.int i1), .val (.int i2), .val (.int i3), .val (.double (9218868437227405312 : UInt64)), .second, .val (.int z137), .val (.int z140), .val (.int z143), .val (.int z146), .val (.ref b149), .val (.ref b153), .val (.ref b171), .val (.int z186), .val (.int z187), .val (.ref gt), .val (.int iR), .val (.int ln), .val (.int e1), .val (.int e2), .val (.int e3)] [(.int (3 : Int32)), (.int ln)])) := fun tg_ kg_ => by
                          refine r234 tg_ ?_
                          show Steps p.tables e below (T234.setTop (mkF m 568 #[.val (.int p0s), .val (.int p1s), .val (.int p2s), .val (.int p3s), .val (.int p4s), .val (.int z119), .val (.int dd), .val (.int z123), .val (.int z124), .val (.int i1), .val (.int i2), .val (.int i3), .val (.double (9218868437227405312 : UInt64)), .second, .val (.int z137), .val (.int z140), .val (.int z143), .val (.int z146), .val (.ref b149), .val (.ref b153), .val (.ref b171), .val (.int z186), .val (.int z187), .val (.ref gt), .val (.int iR), .val (.int ln), .val (.int e1), .val (.int e2), .val (.int e3)] [(.int ((z119 + (e1 * dd)) &&& (3 : Int32))), (.int (gr 1))])) _
                          refine XS.icmpNo X234.here hx rfl (hb hby at_568) rfl (teq hc235).2 ?_
                          show Steps p.tables e below (T234.setTop (mkF m 571 #[.val (.int p0s), .val (.int p1s), .val (.int p2s), .val (.int p3s), .val (.int p4s), .val (.int z119), .val (.int dd), .val (.int z123), .val (.int z124), .val (.int i1), .val (.int i2), .val (.int i3), .val (.double (9218868437227405312 : UInt64)), .second, .val (.int z137), .val (.int z140), .val (.int z143), .val (.int z146), .val (.ref b149), .val (.ref b153), .val (.ref b171), .val (.int z186), .val (.int z187), .val (.ref gt), .val (.int iR), .val (.int ln), .val (.int e1), .val (.int e2), .val (.int e3)] [])) _
                          refine XS.iload X234.here hx rfl (hb hby at_571) rfl ?_
                          show Steps p.tables e below (T234.setTop (mkF m 573 #[.val (.int p0s), .val (.int p1s), .val (.int p2s), .val (.int p3s), .val (.int p4s), .val (.int z119), .val (.int dd), .val (.int z123), .val (.int z124), .val (.int i1), .val (.int i2), .val (.int i3), .val (.double (9218868437227405312 : UInt64)), .second, .val (.int z137), .val (.int z140), .val (.int z143), .val (.int z146), .val (.ref b149), .val (.ref b153), .val (.ref b171), .val (.int z186), .val (.int z187), .val (.ref gt), .val (.int iR), .val (.int ln), .val (.int e1), .val (.int e2), .val (.int e3)] [(.int ln)])) _
                          refine XS.iconst X234.here hx rfl (hb hby at_573) ?_
                          exact kg_
                        by_cases hc237 : ln < (3 : Int32)
                        · have r238 : own_R p.tables e below F0 (T234.setTop (mkF m 596 #[.val (.int p0s), .val (.int p1s), .val (.int p2s), .val (.int p3s), .val (.int p4s), .val (.int z119), .val (.int dd), .val (.int z123), .val (.int z124), .val (.int i1), .val (.int i2), .val (.int i3), .val (.double (9218868437227405312 : UInt64)), .second, .val (.int z137), .val (.int z140), .val (.int z143), .val (.int z146), .val (.ref b149), .val (.ref b153), .val (.ref b171), .val (.int z186), .val (.int z187), .val (.ref gt), .val (.int iR), .val (.int ln), .val (.int e1), .val (.int e2), .val (.int e3)] [(.int (4 : Int32)), (.int ln)])) := fun tg_ kg_ => by
                            refine r236 tg_ ?_
                            show Steps p.tables e below (T234.setTop (mkF m 574 #[.val (.int p0s), .val (.int p1s), .val (.int p2s), .val (.int p3s), .val (.int p4s), .val (.int z119), .val (.int dd), .val (.int z123), .val (.int z124), .val (.int i1), .val (.int i2), .val (.int i3), .val (.double (9218868437227405312 : UInt64)), .second, .val (.int z137), .val (.int z140), .val (.int z143), .val (.int z146), .val (.ref b149), .val (.ref b153), .val (.ref b171), .val (.int z186), .val (.int z187), .val (.ref gt), .val (.int iR), .val (.int ln), .val (.int e1), .val (.int e2), .val (.int e3)] [(.int (3 : Int32)), (.int ln)])) _
                            refine XS.icmpYes X234.here hx rfl (pc0 := 574) (pc' := 593) rfl (hb hby at_574) rfl (tlt hc237).1 (by decide) (by decide) ?_
                            show Steps p.tables e below (T234.setTop (mkF m 593 #[.val (.int p0s), .val (.int p1s), .val (.int p2s), .val (.int p3s), .val (.int p4s), .val (.int z119), .val (.int dd), .val (.int z123), .val (.int z124), .val (.int i1), .val (.int i2), .val (.int i3), .val (.double (9218868437227405312 : UInt64)), .second, .val (.int z137), .val (.int z140), .val (.int z143), .val (.int z146), .val (.ref b149), .val (.ref b153), .val (.ref b171), .val (.int z186), .val (.int z187), .val (.ref gt), .val (.int iR), .val (.int ln), .val (.int e1), .val (.int e2), .val (.int e3)] [])) _
                            refine XS.iload X234.here hx rfl (hb hby at_593) rfl ?_
                            show Steps p.tables e below (T234.setTop (mkF m 595 #[.val (.int p0s), .val (.int p1s), .val (.int p2s), .val (.int p3s), .val (.int p4s), .val (.int z119), .val (.int dd), .val (.int z123), .val (.int z124), .val (.int i1), .val (.int i2), .val (.int i3), .val (.double (9218868437227405312 : UInt64)), .second, .val (.int z137), .val (.int z140), .val (.int z143), .val (.int z146), .val (.ref b149), .val (.ref b153), .val (.ref b171), .val (.int z186), .val (.int z187), .val (.ref gt), .val (.int iR), .val (.int ln), .val (.int e1), .val (.int e2), .val (.int e3)] [(.int ln)])) _
                            refine XS.iconst X234.here hx rfl (hb hby at_595) ?_
                            exact kg_
                          by_cases hc239 : ln < (4 : Int32)
                          · have r240 : own_R p.tables e below F0 (T234.setTop (mkF m 620 #[.val (.int p0s), .val (.int p1s), .val (.int p2s), .val (.int p3s), .val (.int p4s), .val (.int z119), .val (.int dd), .val (.int z123), .val (.int z124), .val (.int i1), .val (.int i2), .val (.int i3), .val (.double (9218868437227405312 : UInt64)), .second, .val (.int z137), .val (.int z140), .val (.int z143), .val (.int z146), .val (.ref b149), .val (.ref b153), .val (.ref b171), .val (.int z186), .val (.int z187), .val (.ref gt), .val (.int iR), .val (.int ln), .val (.int e1), .val (.int e2), .val (.int e3)] [(.int (1 : Int32))])) := fun tg_ kg_ => by
                              refine r238 tg_ ?_
                              show Steps p.tables e below (T234.setTop (mkF m 596 #[.val (.int p0s), .val (.int p1s), .val (.int p2s), .val (.int p3s), .val (.int p4s), .val (.int z119), .val (.int dd), .val (.int z123), .val (.int z124), .val (.int i1), .val (.int i2), .val (.int i3), .val (.double (9218868437227405312 : UInt64)), .second, .val (.int z137), .val (.int z140), .val (.int z143), .val (.int z146), .val (.ref b149), .val (.ref b153), .val (.ref b171), .val (.int z186), .val (.int z187), .val (.ref gt), .val (.int iR), .val (.int ln), .val (.int e1), .val (.int e2), .val (.int e3)] [(.int (4 : Int32)), (.int ln)])) _
                              refine XS.icmpYes X234.here hx rfl (pc0 := 596) (pc' := 615) rfl (hb hby at_596) rfl (tlt hc239).1 (by decide) (by decide) ?_
                              show Steps p.tables e below (T234.setTop (mkF m 615 #[.val (.int p0s), .val (.int p1s), .val (.int p2s), .val (.int p3s), .val (.int p4s), .val (.int z119), .val (.int dd), .val (.int z123), .val (.int z124), .val (.int i1), .val (.int i2), .val (.int i3), .val (.double (9218868437227405312 : UInt64)), .second, .val (.int z137), .val (.int z140), .val (.int z143), .val (.int z146), .val (.ref b149), .val (.ref b153), .val (.ref b171), .val (.int z186), .val (.int z187), .val (.ref gt), .val (.int iR), .val (.int ln), .val (.int e1), .val (.int e2), .val (.int e3)] [])) _
                              refine XS.iconst X234.here hx rfl (hb hby at_615) ?_
                              show Steps p.tables e below (T234.setTop (mkF m 616 #[.val (.int p0s), .val (.int p1s), .val (.int p2s), .val (.int p3s), .val (.int p4s), .val (.int z119), .val (.int dd), .val (.int z123), .val (.int z124), .val (.int i1), .val (.int i2), .val (.int i3), .val (.double (9218868437227405312 : UInt64)), .second, .val (.int z137), .val (.int z140), .val (.int z143), .val (.int z146), .val (.ref b149), .val (.ref b153), .val (.ref b171), .val (.int z186), .val (.int z187), .val (.ref gt), .val (.int iR), .val (.int ln), .val (.int e1), .val (.int e2), .val (.int e3)] [(.int (1 : Int32))])) _
                              refine XS.goto X234.here hx rfl (pc0 := 616) (pc' := 620) rfl (hb hby at_616) (by decide) (by decide) ?_
                              exact kg_
                            refine hG (own_fin X234 hlk (some (.int (nar .boolean (1 : Int32)))) (own_hv Bd.returns) ?_ (by decide) (by decide) (fun fs hr => r240 _ (retN X234 hx (t := .boolean) Bd.returns (by simp) (hb hby at_620) hr)))
                            rw [I234_0]
                            exact ⟨rfl, N234⟩
                          · have r241 : own_R p.tables e below F0 (T234.setTop (mkF m 609 #[.val (.int p0s), .val (.int p1s), .val (.int p2s), .val (.int p3s), .val (.int p4s), .val (.int z119), .val (.int dd), .val (.int z123), .val (.int z124), .val (.int i1), .val (.int i2), .val (.int i3), .val (.double (9218868437227405312 : UInt64)), .second, .val (.int z137), .val (.int z140), .val (.int z143), .val (.int z146), .val (.ref b149), .val (.ref b153), .val (.ref b171), .val (.int z186), .val (.int z187), .val (.ref gt), .val (.int iR), .val (.int ln), .val (.int e1), .val (.int e2), .val (.int e3)] [(.int e3), (.int dd), (.int z119), (.int (gr 3))])) := fun tg_ kg_ => by
                              refine r238 tg_ ?_
                              show Steps p.tables e below (T234.setTop (mkF m 596 #[.val (.int p0s), .val (.int p1s), .val (.int p2s), .val (.int p3s), .val (.int p4s), .val (.int z119), .val (.int dd), .val (.int z123), .val (.int z124), .val (.int i1), .val (.int i2), .val (.int i3), .val (.double (9218868437227405312 : UInt64)), .second, .val (.int z137), .val (.int z140), .val (.int z143), .val (.int z146), .val (.ref b149), .val (.ref b153), .val (.ref b171), .val (.int z186), .val (.int z187), .val (.ref gt), .val (.int iR), .val (.int ln), .val (.int e1), .val (.int e2), .val (.int e3)] [(.int (4 : Int32)), (.int ln)])) _
                              refine XS.icmpNo X234.here hx rfl (hb hby at_596) rfl (flt hc239).1 ?_
                              show Steps p.tables e below (T234.setTop (mkF m 599 #[.val (.int p0s), .val (.int p1s), .val (.int p2s), .val (.int p3s), .val (.int p4s), .val (.int z119), .val (.int dd), .val (.int z123), .val (.int z124), .val (.int i1), .val (.int i2), .val (.int i3), .val (.double (9218868437227405312 : UInt64)), .second, .val (.int z137), .val (.int z140), .val (.int z143), .val (.int z146), .val (.ref b149), .val (.ref b153), .val (.ref b171), .val (.int z186), .val (.int z187), .val (.ref gt), .val (.int iR), .val (.int ln), .val (.int e1), .val (.int e2), .val (.int e3)] [])) _
                              refine XS.aload X234.here hx rfl (hb hby at_599) rfl rfl ?_
                              show Steps p.tables e below (T234.setTop (mkF m 601 #[.val (.int p0s), .val (.int p1s), .val (.int p2s), .val (.int p3s), .val (.int p4s), .val (.int z119), .val (.int dd), .val (.int z123), .val (.int z124), .val (.int i1), .val (.int i2), .val (.int i3), .val (.double (9218868437227405312 : UInt64)), .second, .val (.int z137), .val (.int z140), .val (.int z143), .val (.int z146), .val (.ref b149), .val (.ref b153), .val (.ref b171), .val (.int z186), .val (.int z187), .val (.ref gt), .val (.int iR), .val (.int ln), .val (.int e1), .val (.int e2), .val (.int e3)] [(.ref gt)])) _
                              refine XS.iconst X234.here hx rfl (hb hby at_601) ?_
                              show Steps p.tables e below (T234.setTop (mkF m 602 #[.val (.int p0s), .val (.int p1s), .val (.int p2s), .val (.int p3s), .val (.int p4s), .val (.int z119), .val (.int dd), .val (.int z123), .val (.int z124), .val (.int i1), .val (.int i2), .val (.int i3), .val (.double (9218868437227405312 : UInt64)), .second, .val (.int z137), .val (.int z140), .val (.int z143), .val (.int z146), .val (.ref b149), .val (.ref b153), .val (.ref b171), .val (.int z186), .val (.int z187), .val (.ref gt), .val (.int iR), .val (.int ln), .val (.int e1), .val (.int e2), .val (.int e3)] [(.int (3 : Int32)), (.ref gt)])) _
                              refine own_iaload X234 hx hZ I234_0 (j := (3 : Int32)) F198 (by decide) (by have z0 := own_nlt32 hc239; have z1 : (4 : Int32).toInt = 4 := rfl; have z := hT.1; show (3 : Int) < _; omega) (w := (.int (gr 3))) rfl (g := (mkF m 602 #[.val (.int p0s), .val (.int p1s), .val (.int p2s), .val (.int p3s), .val (.int p4s), .val (.int z119), .val (.int dd), .val (.int z123), .val (.int z124), .val (.int i1), .val (.int i2), .val (.int i3), .val (.double (9218868437227405312 : UInt64)), .second, .val (.int z137), .val (.int z140), .val (.int z143), .val (.int z146), .val (.ref b149), .val (.ref b153), .val (.ref b171), .val (.int z186), .val (.int z187), .val (.ref gt), .val (.int iR), .val (.int ln), .val (.int e1), .val (.int e2), .val (.int e3)] [(.int (3 : Int32)), (.ref gt)])) rfl rfl (hb hby at_602) _ ?_
                              show Steps p.tables e below (T234.setTop (mkF m 603 #[.val (.int p0s), .val (.int p1s), .val (.int p2s), .val (.int p3s), .val (.int p4s), .val (.int z119), .val (.int dd), .val (.int z123), .val (.int z124), .val (.int i1), .val (.int i2), .val (.int i3), .val (.double (9218868437227405312 : UInt64)), .second, .val (.int z137), .val (.int z140), .val (.int z143), .val (.int z146), .val (.ref b149), .val (.ref b153), .val (.ref b171), .val (.int z186), .val (.int z187), .val (.ref gt), .val (.int iR), .val (.int ln), .val (.int e1), .val (.int e2), .val (.int e3)] [(.int (gr 3))])) _
                              refine XS.iload X234.here hx rfl (hb hby at_603) rfl ?_
                              show Steps p.tables e below (T234.setTop (mkF m 605 #[.val (.int p0s), .val (.int p1s), .val (.int p2s), .val (.int p3s), .val (.int p4s), .val (.int z119), .val (.int dd), .val (.int z123), .val (.int z124), .val (.int i1), .val (.int i2), .val (.int i3), .val (.double (9218868437227405312 : UInt64)), .second, .val (.int z137), .val (.int z140), .val (.int z143), .val (.int z146), .val (.ref b149), .val (.ref b153), .val (.ref b171), .val (.int z186), .val (.int z187), .val (.ref gt), .val (.int iR), .val (.int ln), .val (.int e1), .val (.int e2), .val (.int e3)] [(.int z119), (.int (gr 3))])) _
                              refine XS.iload X234.here hx rfl (hb hby at_605) rfl ?_
                              show Steps p.tables e below (T234.setTop (mkF m 607 #[.val (.int p0s), .val (.int p1s), .val (.int p2s), .val (.int p3s), .val (.int p4s), .val (.int z119), .val (.int dd), .val (.int z123), .val (.int z124), .val (.int i1), .val (.int i2), .val (.int i3), .val (.double (9218868437227405312 : UInt64)), .second, .val (.int z137), .val (.int z140), .val (.int z143), .val (.int z146), .val (.ref b149), .val (.ref b153), .val (.ref b171), .val (.int z186), .val (.int z187), .val (.ref gt), .val (.int iR), .val (.int ln), .val (.int e1), .val (.int e2), .val (.int e3)] [(.int dd), (.int z119), (.int (gr 3))])) _
                              refine XS.iload X234.here hx rfl (hb hby at_607) rfl ?_
                              exact kg_
                            obtain ⟨_, _, ⟨T242, L242, k242, n242⟩, -, X242, ⟨Lc242, hQ242, l242, y242, z242⟩, st242⟩ := Jvm.LawKit.callS X234 hx (y := (⟨"org/fractile/graph/PathTreePathPinLaw", "vert", "(III)I"⟩ : MethodName)) hown (mvT hZ (hw _ (List.mem_of_getElem? (i := 1) rfl))) (mvT hZ (hw _ (List.mem_of_getElem? (i := 2) rfl))) (mvT hZ (hw _ (List.mem_of_getElem? (i := 3) rfl))) (mvT hZ (hw _ (List.mem_of_getElem? (i := 4) rfl))) (by decide) (backOf (W := 1) (rm1 l Z a0 hw [] z119 dd e3 h192 n0 Zs195 ) hZ (hw _ (List.mem_of_getElem? (i := 4) rfl)) (hw _ (List.mem_of_getElem? (i := 3) rfl)) (by decide) (by decide)) (g := (mkF m 609 #[.val (.int p0s), .val (.int p1s), .val (.int p2s), .val (.int p3s), .val (.int p4s), .val (.int z119), .val (.int dd), .val (.int z123), .val (.int z124), .val (.int i1), .val (.int i2), .val (.int i3), .val (.double (9218868437227405312 : UInt64)), .second, .val (.int z137), .val (.int z140), .val (.int z143), .val (.int z146), .val (.ref b149), .val (.ref b153), .val (.ref b171), .val (.int z186), .val (.int z187), .val (.ref gt), .val (.int iR), .val (.int ln), .val (.int e1), .val (.int e2), .val (.int e3)] [(.int e3), (.int dd), (.int z119), (.int (gr 3))])) rfl (by rw [hml]; rfl) (argsL := [(.int z119), (.int dd), (.int e3)]) (rest := [(.int (gr 3))]) (lenOf pd_0 rfl) rfl (by show 2 * 0 + _ ≤ _; exact Nat.le_of_eq rfl) (hb hby at_609) (fun _ _ => ⟨rfl, I234_0, (by decide : 4 + 0 ≤ _), (by decide : 15 + 0 ≤ _)⟩)
                            dsimp only [Pt.U, Pt.locs, Pt.cells, Pt.slots] at X242 l242 y242 z242 st242 hQ242
                            subst l242 y242 z242
                            obtain ⟨rfl, N242q, I242_0⟩ := hQ242
                            have N242 := Fr.app N234 N242q
                            have r242 : own_R p.tables e below F0 (T242.setTop (mkF m 612 #[.val (.int p0s), .val (.int p1s), .val (.int p2s), .val (.int p3s), .val (.int p4s), .val (.int z119), .val (.int dd), .val (.int z123), .val (.int z124), .val (.int i1), .val (.int i2), .val (.int i3), .val (.double (9218868437227405312 : UInt64)), .second, .val (.int z137), .val (.int z140), .val (.int z143), .val (.int z146), .val (.ref b149), .val (.ref b153), .val (.ref b171), .val (.int z186), .val (.int z187), .val (.ref gt), .val (.int iR), .val (.int ln), .val (.int e1), .val (.int e2), .val (.int e3)] [(.int ((z119 + (e3 * dd)) &&& (3 : Int32))), (.int (gr 3))])) := fun tg_ kg_ => r241 tg_ (st242 tg_ kg_)
                            have hc243 : (gr 3) = ((z119 + (e3 * dd)) &&& (3 : Int32)) := (Int32.toInt_inj.mp (by
                                  have q1 := hT.2.2.2.2 (by have z := own_nlt32 hc239; have z1 : (4 : Int32).toInt = 4 := rfl; omega)
                                  have q2 := own_vertI z119 e3 dd hS q1.1
                                  rcases hdd with z | z
                                  · rw [q2.1 z]; exact q1.2.1 z
                                  · rw [q2.2 z]; exact q1.2.2 z))
                            have r244 : own_R p.tables e below F0 (T242.setTop (mkF m 620 #[.val (.int p0s), .val (.int p1s), .val (.int p2s), .val (.int p3s), .val (.int p4s), .val (.int z119), .val (.int dd), .val (.int z123), .val (.int z124), .val (.int i1), .val (.int i2), .val (.int i3), .val (.double (9218868437227405312 : UInt64)), .second, .val (.int z137), .val (.int z140), .val (.int z143), .val (.int z146), .val (.ref b149), .val (.ref b153), .val (.ref b171), .val (.int z186), .val (.int z187), .val (.ref gt), .val (.int iR), .val (.int ln), .val (.int e1), .val (.int e2), .val (.int e3)] [(.int (1 : Int32))])) := fun tg_ kg_ => by
                              refine r242 tg_ ?_
                              show Steps p.tables e below (T242.setTop (mkF m 612 #[.val (.int p0s), .val (.int p1s), .val (.int p2s), .val (.int p3s), .val (.int p4s), .val (.int z119), .val (.int dd), .val (.int z123), .val (.int z124), .val (.int i1), .val (.int i2), .val (.int i3), .val (.double (9218868437227405312 : UInt64)), .second, .val (.int z137), .val (.int z140), .val (.int z143), .val (.int z146), .val (.ref b149), .val (.ref b153), .val (.ref b171), .val (.int z186), .val (.int z187), .val (.ref gt), .val (.int iR), .val (.int ln), .val (.int e1), .val (.int e2), .val (.int e3)] [(.int ((z119 + (e3 * dd)) &&& (3 : Int32))), (.int (gr 3))])) _
                              refine XS.icmpNo X242.here hx rfl (hb hby at_612) rfl (teq hc243).2 ?_
                              show Steps p.tables e below (T242.setTop (mkF m 615 #[.val (.int p0s), .val (.int p1s), .val (.int p2s), .val (.int p3s), .val (.int p4s), .val (.int z119), .val (.int dd), .val (.int z123), .val (.int z124), .val (.int i1), .val (.int i2), .val (.int i3), .val (.double (9218868437227405312 : UInt64)), .second, .val (.int z137), .val (.int z140), .val (.int z143), .val (.int z146), .val (.ref b149), .val (.ref b153), .val (.ref b171), .val (.int z186), .val (.int z187), .val (.ref gt), .val (.int iR), .val (.int ln), .val (.int e1), .val (.int e2), .val (.int e3)] [])) _
                              refine XS.iconst X242.here hx rfl (hb hby at_615) ?_
                              show Steps p.tables e below (T242.setTop (mkF m 616 #[.val (.int p0s), .val (.int p1s), .val (.int p2s), .val (.int p3s), .val (.int p4s), .val (.int z119), .val (.int dd), .val (.int z123), .val (.int z124), .val (.int i1), .val (.int i2), .val (.int i3), .val (.double (9218868437227405312 : UInt64)), .second, .val (.int z137), .val (.int z140), .val (.int z143), .val (.int z146), .val (.ref b149), .val (.ref b153), .val (.ref b171), .val (.int z186), .val (.int z187), .val (.ref gt), .val (.int iR), .val (.int ln), .val (.int e1), .val (.int e2), .val (.int e3)] [(.int (1 : Int32))])) _
                              refine XS.goto X242.here hx rfl (pc0 := 616) (pc' := 620) rfl (hb hby at_616) (by decide) (by decide) ?_
                              exact kg_
                            refine hG (own_fin X242 hlk (some (.int (nar .boolean (1 : Int32)))) (own_hv Bd.returns) ?_ (by decide) (by decide) (fun fs hr => r244 _ (retN X242 hx (t := .boolean) Bd.returns (by simp) (hb hby at_620) hr)))
                            rw [I242_0]
                            exact ⟨rfl, N242⟩
                        · have r245 : own_R p.tables e below F0 (T234.setTop (mkF m 587 #[.val (.int p0s), .val (.int p1s), .val (.int p2s), .val (.int p3s), .val (.int p4s), .val (.int z119), .val (.int dd), .val (.int z123), .val (.int z124), .val (.int i1), .val (.int i2), .val (.int i3), .val (.double (9218868437227405312 : UInt64)), .second, .val (.int z137), .val (.int z140), .val (.int z143), .val (.int z146), .val (.ref b149), .val (.ref b153), .val (.ref b171), .val (.int z186), .val (.int z187), .val (.ref gt), .val (.int iR), .val (.int ln), .val (.int e1), .val (.int e2), .val (.int e3)] [(.int e2), (.int dd), (.int z119), (.int (gr 2))])) := fun tg_ kg_ => by
                            refine r236 tg_ ?_
                            show Steps p.tables e below (T234.setTop (mkF m 574 #[.val (.int p0s), .val (.int p1s), .val (.int p2s), .val (.int p3s), .val (.int p4s), .val (.int z119), .val (.int dd), .val (.int z123), .val (.int z124), .val (.int i1), .val (.int i2), .val (.int i3), .val (.double (9218868437227405312 : UInt64)), .second, .val (.int z137), .val (.int z140), .val (.int z143), .val (.int z146), .val (.ref b149), .val (.ref b153), .val (.ref b171), .val (.int z186), .val (.int z187), .val (.ref gt), .val (.int iR), .val (.int ln), .val (.int e1), .val (.int e2), .val (.int e3)] [(.int (3 : Int32)), (.int ln)])) _
                            refine XS.icmpNo X234.here hx rfl (hb hby at_574) rfl (flt hc237).1 ?_
                            show Steps p.tables e below (T234.setTop (mkF m 577 #[.val (.int p0s), .val (.int p1s), .val (.int p2s), .val (.int p3s), .val (.int p4s), .val (.int z119), .val (.int dd), .val (.int z123), .val (.int z124), .val (.int i1), .val (.int i2), .val (.int i3), .val (.double (9218868437227405312 : UInt64)), .second, .val (.int z137), .val (.int z140), .val (.int z143), .val (.int z146), .val (.ref b149), .val (.ref b153), .val (.ref b171), .val (.int z186), .val (.int z187), .val (.ref gt), .val (.int iR), .val (.int ln), .val (.int e1), .val (.int e2), .val (.int e3)] [])) _
                            refine XS.aload X234.here hx rfl (hb hby at_577) rfl rfl ?_
                            show Steps p.tables e below (T234.setTop (mkF m 579 #[.val (.int p0s), .val (.int p1s), .val (.int p2s), .val (.int p3s), .val (.int p4s), .val (.int z119), .val (.int dd), .val (.int z123), .val (.int z124), .val (.int i1), .val (.int i2), .val (.int i3), .val (.double (9218868437227405312 : UInt64)), .second, .val (.int z137), .val (.int z140), .val (.int z143), .val (.int z146), .val (.ref b149), .val (.ref b153), .val (.ref b171), .val (.int z186), .val (.int z187), .val (.ref gt), .val (.int iR), .val (.int ln), .val (.int e1), .val (.int e2), .val (.int e3)] [(.ref gt)])) _
                            refine XS.iconst X234.here hx rfl (hb hby at_579) ?_
                            show Steps p.tables e below (T234.setTop (mkF m 580 #[.val (.int p0s), .val (.int p1s), .val (.int p2s), .val (.int p3s), .val (.int p4s), .val (.int z119), .val (.int dd), .val (.int z123), .val (.int z124), .val (.int i1), .val (.int i2), .val (.int i3), .val (.double (9218868437227405312 : UInt64)), .second, .val (.int z137), .val (.int z140), .val (.int z143), .val (.int z146), .val (.ref b149), .val (.ref b153), .val (.ref b171), .val (.int z186), .val (.int z187), .val (.ref gt), .val (.int iR), .val (.int ln), .val (.int e1), .val (.int e2), .val (.int e3)] [(.int (2 : Int32)), (.ref gt)])) _
                            refine own_iaload X234 hx hZ I234_0 (j := (2 : Int32)) F198 (by decide) (by have z0 := own_nlt32 hc237; have z1 : (3 : Int32).toInt = 3 := rfl; have z := hT.1; show (2 : Int) < _; omega) (w := (.int (gr 2))) rfl (g := (mkF m 580 #[.val (.int p0s), .val (.int p1s), .val (.int p2s), .val (.int p3s), .val (.int p4s), .val (.int z119), .val (.int dd), .val (.int z123), .val (.int z124), .val (.int i1), .val (.int i2), .val (.int i3), .val (.double (9218868437227405312 : UInt64)), .second, .val (.int z137), .val (.int z140), .val (.int z143), .val (.int z146), .val (.ref b149), .val (.ref b153), .val (.ref b171), .val (.int z186), .val (.int z187), .val (.ref gt), .val (.int iR), .val (.int ln), .val (.int e1), .val (.int e2), .val (.int e3)] [(.int (2 : Int32)), (.ref gt)])) rfl rfl (hb hby at_580) _ ?_
                            show Steps p.tables e below (T234.setTop (mkF m 581 #[.val (.int p0s), .val (.int p1s), .val (.int p2s), .val (.int p3s), .val (.int p4s), .val (.int z119), .val (.int dd), .val (.int z123), .val (.int z124), .val (.int i1), .val (.int i2), .val (.int i3), .val (.double (9218868437227405312 : UInt64)), .second, .val (.int z137), .val (.int z140), .val (.int z143), .val (.int z146), .val (.ref b149), .val (.ref b153), .val (.ref b171), .val (.int z186), .val (.int z187), .val (.ref gt), .val (.int iR), .val (.int ln), .val (.int e1), .val (.int e2), .val (.int e3)] [(.int (gr 2))])) _
                            refine XS.iload X234.here hx rfl (hb hby at_581) rfl ?_
                            show Steps p.tables e below (T234.setTop (mkF m 583 #[.val (.int p0s), .val (.int p1s), .val (.int p2s), .val (.int p3s), .val (.int p4s), .val (.int z119), .val (.int dd), .val (.int z123), .val (.int z124), .val (.int i1), .val (.int i2), .val (.int i3), .val (.double (9218868437227405312 : UInt64)), .second, .val (.int z137), .val (.int z140), .val (.int z143), .val (.int z146), .val (.ref b149), .val (.ref b153), .val (.ref b171), .val (.int z186), .val (.int z187), .val (.ref gt), .val (.int iR), .val (.int ln), .val (.int e1), .val (.int e2), .val (.int e3)] [(.int z119), (.int (gr 2))])) _
                            refine XS.iload X234.here hx rfl (hb hby at_583) rfl ?_
                            show Steps p.tables e below (T234.setTop (mkF m 585 #[.val (.int p0s), .val (.int p1s), .val (.int p2s), .val (.int p3s), .val (.int p4s), .val (.int z119), .val (.int dd), .val (.int z123), .val (.int z124), .val (.int i1), .val (.int i2), .val (.int i3), .val (.double (9218868437227405312 : UInt64)), .second, .val (.int z137), .val (.int z140), .val (.int z143), .val (.int z146), .val (.ref b149), .val (.ref b153), .val (.ref b171), .val (.int z186), .val (.int z187), .val (.ref gt), .val (.int iR), .val (.int ln), .val (.int e1), .val (.int e2), .val (.int e3)] [(.int dd), (.int z119), (.int (gr 2))])) _
                            refine XS.iload X234.here hx rfl (hb hby at_585) rfl ?_
                            exact kg_
                          obtain ⟨_, _, ⟨T246, L246, k246, n246⟩, -, X246, ⟨Lc246, hQ246, l246, y246, z246⟩, st246⟩ := Jvm.LawKit.callS X234 hx (y := (⟨"org/fractile/graph/PathTreePathPinLaw", "vert", "(III)I"⟩ : MethodName)) hown (mvT hZ (hw _ (List.mem_of_getElem? (i := 1) rfl))) (mvT hZ (hw _ (List.mem_of_getElem? (i := 2) rfl))) (mvT hZ (hw _ (List.mem_of_getElem? (i := 3) rfl))) (mvT hZ (hw _ (List.mem_of_getElem? (i := 4) rfl))) (by decide) (backOf (W := 1) (rm1 l Z a0 hw [] z119 dd e2 h192 n0 Zs195 ) hZ (hw _ (List.mem_of_getElem? (i := 4) rfl)) (hw _ (List.mem_of_getElem? (i := 3) rfl)) (by decide) (by decide)) (g := (mkF m 587 #[.val (.int p0s), .val (.int p1s), .val (.int p2s), .val (.int p3s), .val (.int p4s), .val (.int z119), .val (.int dd), .val (.int z123), .val (.int z124), .val (.int i1), .val (.int i2), .val (.int i3), .val (.double (9218868437227405312 : UInt64)), .second, .val (.int z137), .val (.int z140), .val (.int z143), .val (.int z146), .val (.ref b149), .val (.ref b153), .val (.ref b171), .val (.int z186), .val (.int z187), .val (.ref gt), .val (.int iR), .val (.int ln), .val (.int e1), .val (.int e2), .val (.int e3)] [(.int e2), (.int dd), (.int z119), (.int (gr 2))])) rfl (by rw [hml]; rfl) (argsL := [(.int z119), (.int dd), (.int e2)]) (rest := [(.int (gr 2))]) (lenOf pd_0 rfl) rfl (by show 2 * 0 + _ ≤ _; exact Nat.le_of_eq rfl) (hb hby at_587) (fun _ _ => ⟨rfl, I234_0, (by decide : 4 + 0 ≤ _), (by decide : 15 + 0 ≤ _)⟩)
                          dsimp only [Pt.U, Pt.locs, Pt.cells, Pt.slots] at X246 l246 y246 z246 st246 hQ246
                          subst l246 y246 z246
                          obtain ⟨rfl, N246q, I246_0⟩ := hQ246
                          have N246 := Fr.app N234 N246q
                          have r246 : own_R p.tables e below F0 (T246.setTop (mkF m 590 #[.val (.int p0s), .val (.int p1s), .val (.int p2s), .val (.int p3s), .val (.int p4s), .val (.int z119), .val (.int dd), .val (.int z123), .val (.int z124), .val (.int i1), .val (.int i2), .val (.int i3), .val (.double (9218868437227405312 : UInt64)), .second, .val (.int z137), .val (.int z140), .val (.int z143), .val (.int z146), .val (.ref b149), .val (.ref b153), .val (.ref b171), .val (.int z186), .val (.int z187), .val (.ref gt), .val (.int iR), .val (.int ln), .val (.int e1), .val (.int e2), .val (.int e3)] [(.int ((z119 + (e2 * dd)) &&& (3 : Int32))), (.int (gr 2))])) := fun tg_ kg_ => r245 tg_ (st246 tg_ kg_)
                          have hc247 : (gr 2) = ((z119 + (e2 * dd)) &&& (3 : Int32)) := (Int32.toInt_inj.mp (by
                                have q1 := hT.2.2.2.1 (by have z := own_nlt32 hc237; have z1 : (3 : Int32).toInt = 3 := rfl; omega)
                                have q2 := own_vertI z119 e2 dd hS q1.1
                                rcases hdd with z | z
                                · rw [q2.1 z]; exact q1.2.1 z
                                · rw [q2.2 z]; exact q1.2.2 z))
                          have r248 : own_R p.tables e below F0 (T246.setTop (mkF m 596 #[.val (.int p0s), .val (.int p1s), .val (.int p2s), .val (.int p3s), .val (.int p4s), .val (.int z119), .val (.int dd), .val (.int z123), .val (.int z124), .val (.int i1), .val (.int i2), .val (.int i3), .val (.double (9218868437227405312 : UInt64)), .second, .val (.int z137), .val (.int z140), .val (.int z143), .val (.int z146), .val (.ref b149), .val (.ref b153), .val (.ref b171), .val (.int z186), .val (.int z187), .val (.ref gt), .val (.int iR), .val (.int ln), .val (.int e1), .val (.int e2), .val (.int e3)] [(.int (4 : Int32)), (.int ln)])) := fun tg_ kg_ => by
                            refine r246 tg_ ?_
                            show Steps p.tables e below (T246.setTop (mkF m 590 #[.val (.int p0s), .val (.int p1s), .val (.int p2s), .val (.int p3s), .val (.int p4s), .val (.int z119), .val (.int dd), .val (.int z123), .val (.int z124), .val (.int i1), .val (.int i2), .val (.int i3), .val (.double (9218868437227405312 : UInt64)), .second, .val (.int z137), .val (.int z140), .val (.int z143), .val (.int z146), .val (.ref b149), .val (.ref b153), .val (.ref b171), .val (.int z186), .val (.int z187), .val (.ref gt), .val (.int iR), .val (.int ln), .val (.int e1), .val (.int e2), .val (.int e3)] [(.int ((z119 + (e2 * dd)) &&& (3 : Int32))), (.int (gr 2))])) _
                            refine XS.icmpNo X246.here hx rfl (hb hby at_590) rfl (teq hc247).2 ?_
                            show Steps p.tables e below (T246.setTop (mkF m 593 #[.val (.int p0s), .val (.int p1s), .val (.int p2s), .val (.int p3s), .val (.int p4s), .val (.int z119), .val (.int dd), .val (.int z123), .val (.int z124), .val (.int i1), .val (.int i2), .val (.int i3), .val (.double (9218868437227405312 : UInt64)), .second, .val (.int z137), .val (.int z140), .val (.int z143), .val (.int z146), .val (.ref b149), .val (.ref b153), .val (.ref b171), .val (.int z186), .val (.int z187), .val (.ref gt), .val (.int iR), .val (.int ln), .val (.int e1), .val (.int e2), .val (.int e3)] [])) _
                            refine XS.iload X246.here hx rfl (hb hby at_593) rfl ?_
                            show Steps p.tables e below (T246.setTop (mkF m 595 #[.val (.int p0s), .val (.int p1s), .val (.int p2s), .val (.int p3s), .val (.int p4s), .val (.int z119), .val (.int dd), .val (.int z123), .val (.int z124), .val (.int i1), .val (.int i2), .val (.int i3), .val (.double (9218868437227405312 : UInt64)), .second, .val (.int z137), .val (.int z140), .val (.int z143), .val (.int z146), .val (.ref b149), .val (.ref b153), .val (.ref b171), .val (.int z186), .val (.int z187), .val (.ref gt), .val (.int iR), .val (.int ln), .val (.int e1), .val (.int e2), .val (.int e3)] [(.int ln)])) _
                            refine XS.iconst X246.here hx rfl (hb hby at_595) ?_
                            exact kg_
                          by_cases hc249 : ln < (4 : Int32)
                          · have r250 : own_R p.tables e below F0 (T246.setTop (mkF m 620 #[.val (.int p0s), .val (.int p1s), .val (.int p2s), .val (.int p3s), .val (.int p4s), .val (.int z119), .val (.int dd), .val (.int z123), .val (.int z124), .val (.int i1), .val (.int i2), .val (.int i3), .val (.double (9218868437227405312 : UInt64)), .second, .val (.int z137), .val (.int z140), .val (.int z143), .val (.int z146), .val (.ref b149), .val (.ref b153), .val (.ref b171), .val (.int z186), .val (.int z187), .val (.ref gt), .val (.int iR), .val (.int ln), .val (.int e1), .val (.int e2), .val (.int e3)] [(.int (1 : Int32))])) := fun tg_ kg_ => by
                              refine r248 tg_ ?_
                              show Steps p.tables e below (T246.setTop (mkF m 596 #[.val (.int p0s), .val (.int p1s), .val (.int p2s), .val (.int p3s), .val (.int p4s), .val (.int z119), .val (.int dd), .val (.int z123), .val (.int z124), .val (.int i1), .val (.int i2), .val (.int i3), .val (.double (9218868437227405312 : UInt64)), .second, .val (.int z137), .val (.int z140), .val (.int z143), .val (.int z146), .val (.ref b149), .val (.ref b153), .val (.ref b171), .val (.int z186), .val (.int z187), .val (.ref gt), .val (.int iR), .val (.int ln), .val (.int e1), .val (.int e2), .val (.int e3)] [(.int (4 : Int32)), (.int ln)])) _
                              refine XS.icmpYes X246.here hx rfl (pc0 := 596) (pc' := 615) rfl (hb hby at_596) rfl (tlt hc249).1 (by decide) (by decide) ?_
                              show Steps p.tables e below (T246.setTop (mkF m 615 #[.val (.int p0s), .val (.int p1s), .val (.int p2s), .val (.int p3s), .val (.int p4s), .val (.int z119), .val (.int dd), .val (.int z123), .val (.int z124), .val (.int i1), .val (.int i2), .val (.int i3), .val (.double (9218868437227405312 : UInt64)), .second, .val (.int z137), .val (.int z140), .val (.int z143), .val (.int z146), .val (.ref b149), .val (.ref b153), .val (.ref b171), .val (.int z186), .val (.int z187), .val (.ref gt), .val (.int iR), .val (.int ln), .val (.int e1), .val (.int e2), .val (.int e3)] [])) _
                              refine XS.iconst X246.here hx rfl (hb hby at_615) ?_
                              show Steps p.tables e below (T246.setTop (mkF m 616 #[.val (.int p0s), .val (.int p1s), .val (.int p2s), .val (.int p3s), .val (.int p4s), .val (.int z119), .val (.int dd), .val (.int z123), .val (.int z124), .val (.int i1), .val (.int i2), .val (.int i3), .val (.double (9218868437227405312 : UInt64)), .second, .val (.int z137), .val (.int z140), .val (.int z143), .val (.int z146), .val (.ref b149), .val (.ref b153), .val (.ref b171), .val (.int z186), .val (.int z187), .val (.ref gt), .val (.int iR), .val (.int ln), .val (.int e1), .val (.int e2), .val (.int e3)] [(.int (1 : Int32))])) _
                              refine XS.goto X246.here hx rfl (pc0 := 616) (pc' := 620) rfl (hb hby at_616) (by decide) (by decide) ?_
                              exact kg_
                            refine hG (own_fin X246 hlk (some (.int (nar .boolean (1 : Int32)))) (own_hv Bd.returns) ?_ (by decide) (by decide) (fun fs hr => r250 _ (retN X246 hx (t := .boolean) Bd.returns (by simp) (hb hby at_620) hr)))
                            rw [I246_0]
                            exact ⟨rfl, N246⟩
                          · have r251 : own_R p.tables e below F0 (T246.setTop (mkF m 609 #[.val (.int p0s), .val (.int p1s), .val (.int p2s), .val (.int p3s), .val (.int p4s), .val (.int z119), .val (.int dd), .val (.int z123), .val (.int z124), .val (.int i1), .val (.int i2), .val (.int i3), .val (.double (9218868437227405312 : UInt64)), .second, .val (.int z137), .val (.int z140), .val (.int z143), .val (.int z146), .val (.ref b149), .val (.ref b153), .val (.ref b171), .val (.int z186), .val (.int z187), .val (.ref gt), .val (.int iR), .val (.int ln), .val (.int e1), .val (.int e2), .val (.int e3)] [(.int e3), (.int dd), (.int z119), (.int (gr 3))])) := fun tg_ kg_ => by
                              refine r248 tg_ ?_
                              show Steps p.tables e below (T246.setTop (mkF m 596 #[.val (.int p0s), .val (.int p1s), .val (.int p2s), .val (.int p3s), .val (.int p4s), .val (.int z119), .val (.int dd), .val (.int z123), .val (.int z124), .val (.int i1), .val (.int i2), .val (.int i3), .val (.double (9218868437227405312 : UInt64)), .second, .val (.int z137), .val (.int z140), .val (.int z143), .val (.int z146), .val (.ref b149), .val (.ref b153), .val (.ref b171), .val (.int z186), .val (.int z187), .val (.ref gt), .val (.int iR), .val (.int ln), .val (.int e1), .val (.int e2), .val (.int e3)] [(.int (4 : Int32)), (.int ln)])) _
                              refine XS.icmpNo X246.here hx rfl (hb hby at_596) rfl (flt hc249).1 ?_
                              show Steps p.tables e below (T246.setTop (mkF m 599 #[.val (.int p0s), .val (.int p1s), .val (.int p2s), .val (.int p3s), .val (.int p4s), .val (.int z119), .val (.int dd), .val (.int z123), .val (.int z124), .val (.int i1), .val (.int i2), .val (.int i3), .val (.double (9218868437227405312 : UInt64)), .second, .val (.int z137), .val (.int z140), .val (.int z143), .val (.int z146), .val (.ref b149), .val (.ref b153), .val (.ref b171), .val (.int z186), .val (.int z187), .val (.ref gt), .val (.int iR), .val (.int ln), .val (.int e1), .val (.int e2), .val (.int e3)] [])) _
                              refine XS.aload X246.here hx rfl (hb hby at_599) rfl rfl ?_
                              show Steps p.tables e below (T246.setTop (mkF m 601 #[.val (.int p0s), .val (.int p1s), .val (.int p2s), .val (.int p3s), .val (.int p4s), .val (.int z119), .val (.int dd), .val (.int z123), .val (.int z124), .val (.int i1), .val (.int i2), .val (.int i3), .val (.double (9218868437227405312 : UInt64)), .second, .val (.int z137), .val (.int z140), .val (.int z143), .val (.int z146), .val (.ref b149), .val (.ref b153), .val (.ref b171), .val (.int z186), .val (.int z187), .val (.ref gt), .val (.int iR), .val (.int ln), .val (.int e1), .val (.int e2), .val (.int e3)] [(.ref gt)])) _
                              refine XS.iconst X246.here hx rfl (hb hby at_601) ?_
                              show Steps p.tables e below (T246.setTop (mkF m 602 #[.val (.int p0s), .val (.int p1s), .val (.int p2s), .val (.int p3s), .val (.int p4s), .val (.int z119), .val (.int dd), .val (.int z123), .val (.int z124), .val (.int i1), .val (.int i2), .val (.int i3), .val (.double (9218868437227405312 : UInt64)), .second, .val (.int z137), .val (.int z140), .val (.int z143), .val (.int z146), .val (.ref b149), .val (.ref b153), .val (.ref b171), .val (.int z186), .val (.int z187), .val (.ref gt), .val (.int iR), .val (.int ln), .val (.int e1), .val (.int e2), .val (.int e3)] [(.int (3 : Int32)), (.ref gt)])) _
                              refine own_iaload X246 hx hZ I246_0 (j := (3 : Int32)) F198 (by decide) (by have z0 := own_nlt32 hc249; have z1 : (4 : Int32).toInt = 4 := rfl; have z := hT.1; show (3 : Int) < _; omega) (w := (.int (gr 3))) rfl (g := (mkF m 602 #[.val (.int p0s), .val (.int p1s), .val (.int p2s), .val (.int p3s), .val (.int p4s), .val (.int z119), .val (.int dd), .val (.int z123), .val (.int z124), .val (.int i1), .val (.int i2), .val (.int i3), .val (.double (9218868437227405312 : UInt64)), .second, .val (.int z137), .val (.int z140), .val (.int z143), .val (.int z146), .val (.ref b149), .val (.ref b153), .val (.ref b171), .val (.int z186), .val (.int z187), .val (.ref gt), .val (.int iR), .val (.int ln), .val (.int e1), .val (.int e2), .val (.int e3)] [(.int (3 : Int32)), (.ref gt)])) rfl rfl (hb hby at_602) _ ?_
                              show Steps p.tables e below (T246.setTop (mkF m 603 #[.val (.int p0s), .val (.int p1s), .val (.int p2s), .val (.int p3s), .val (.int p4s), .val (.int z119), .val (.int dd), .val (.int z123), .val (.int z124), .val (.int i1), .val (.int i2), .val (.int i3), .val (.double (9218868437227405312 : UInt64)), .second, .val (.int z137), .val (.int z140), .val (.int z143), .val (.int z146), .val (.ref b149), .val (.ref b153), .val (.ref b171), .val (.int z186), .val (.int z187), .val (.ref gt), .val (.int iR), .val (.int ln), .val (.int e1), .val (.int e2), .val (.int e3)] [(.int (gr 3))])) _
                              refine XS.iload X246.here hx rfl (hb hby at_603) rfl ?_
                              show Steps p.tables e below (T246.setTop (mkF m 605 #[.val (.int p0s), .val (.int p1s), .val (.int p2s), .val (.int p3s), .val (.int p4s), .val (.int z119), .val (.int dd), .val (.int z123), .val (.int z124), .val (.int i1), .val (.int i2), .val (.int i3), .val (.double (9218868437227405312 : UInt64)), .second, .val (.int z137), .val (.int z140), .val (.int z143), .val (.int z146), .val (.ref b149), .val (.ref b153), .val (.ref b171), .val (.int z186), .val (.int z187), .val (.ref gt), .val (.int iR), .val (.int ln), .val (.int e1), .val (.int e2), .val (.int e3)] [(.int z119), (.int (gr 3))])) _
                              refine XS.iload X246.here hx rfl (hb hby at_605) rfl ?_
                              show Steps p.tables e below (T246.setTop (mkF m 607 #[.val (.int p0s), .val (.int p1s), .val (.int p2s), .val (.int p3s), .val (.int p4s), .val (.int z119), .val (.int dd), .val (.int z123), .val (.int z124), .val (.int i1), .val (.int i2), .val (.int i3), .val (.double (9218868437227405312 : UInt64)), .second, .val (.int z137), .val (.int z140), .val (.int z143), .val (.int z146), .val (.ref b149), .val (.ref b153), .val (.ref b171), .val (.int z186), .val (.int z187), .val (.ref gt), .val (.int iR), .val (.int ln), .val (.int e1), .val (.int e2), .val (.int e3)] [(.int dd), (.int z119), (.int (gr 3))])) _
                              refine XS.iload X246.here hx rfl (hb hby at_607) rfl ?_
                              exact kg_
                            obtain ⟨_, _, ⟨T252, L252, k252, n252⟩, -, X252, ⟨Lc252, hQ252, l252, y252, z252⟩, st252⟩ := Jvm.LawKit.callS X246 hx (y := (⟨"org/fractile/graph/PathTreePathPinLaw", "vert", "(III)I"⟩ : MethodName)) hown (mvT hZ (hw _ (List.mem_of_getElem? (i := 1) rfl))) (mvT hZ (hw _ (List.mem_of_getElem? (i := 2) rfl))) (mvT hZ (hw _ (List.mem_of_getElem? (i := 3) rfl))) (mvT hZ (hw _ (List.mem_of_getElem? (i := 4) rfl))) (by decide) (backOf (W := 1) (rm1 l Z a0 hw [] z119 dd e3 h192 n0 Zs195 ) hZ (hw _ (List.mem_of_getElem? (i := 4) rfl)) (hw _ (List.mem_of_getElem? (i := 3) rfl)) (by decide) (by decide)) (g := (mkF m 609 #[.val (.int p0s), .val (.int p1s), .val (.int p2s), .val (.int p3s), .val (.int p4s), .val (.int z119), .val (.int dd), .val (.int z123), .val (.int z124), .val (.int i1), .val (.int i2), .val (.int i3), .val (.double (9218868437227405312 : UInt64)), .second, .val (.int z137), .val (.int z140), .val (.int z143), .val (.int z146), .val (.ref b149), .val (.ref b153), .val (.ref b171), .val (.int z186), .val (.int z187), .val (.ref gt), .val (.int iR), .val (.int ln), .val (.int e1), .val (.int e2), .val (.int e3)] [(.int e3), (.int dd), (.int z119), (.int (gr 3))])) rfl (by rw [hml]; rfl) (argsL := [(.int z119), (.int dd), (.int e3)]) (rest := [(.int (gr 3))]) (lenOf pd_0 rfl) rfl (by show 2 * 0 + _ ≤ _; exact Nat.le_of_eq rfl) (hb hby at_609) (fun _ _ => ⟨rfl, I246_0, (by decide : 4 + 0 ≤ _), (by decide : 15 + 0 ≤ _)⟩)
                            dsimp only [Pt.U, Pt.locs, Pt.cells, Pt.slots] at X252 l252 y252 z252 st252 hQ252
                            subst l252 y252 z252
                            obtain ⟨rfl, N252q, I252_0⟩ := hQ252
                            have N252 := Fr.app N246 N252q
                            have r252 : own_R p.tables e below F0 (T252.setTop (mkF m 612 #[.val (.int p0s), .val (.int p1s), .val (.int p2s), .val (.int p3s), .val (.int p4s), .val (.int z119), .val (.int dd), .val (.int z123), .val (.int z124), .val (.int i1), .val (.int i2), .val (.int i3), .val (.double (9218868437227405312 : UInt64)), .second, .val (.int z137), .val (.int z140), .val (.int z143), .val (.int z146), .val (.ref b149), .val (.ref b153), .val (.ref b171), .val (.int z186), .val (.int z187), .val (.ref gt), .val (.int iR), .val (.int ln), .val (.int e1), .val (.int e2), .val (.int e3)] [(.int ((z119 + (e3 * dd)) &&& (3 : Int32))), (.int (gr 3))])) := fun tg_ kg_ => r251 tg_ (st252 tg_ kg_)
                            have hc253 : (gr 3) = ((z119 + (e3 * dd)) &&& (3 : Int32)) := (Int32.toInt_inj.mp (by
                                  have q1 := hT.2.2.2.2 (by have z := own_nlt32 hc249; have z1 : (4 : Int32).toInt = 4 := rfl; omega)
                                  have q2 := own_vertI z119 e3 dd hS q1.1
                                  rcases hdd with z | z
                                  · rw [q2.1 z]; exact q1.2.1 z
                                  · rw [q2.2 z]; exact q1.2.2 z))
                            have r254 : own_R p.tables e below F0 (T252.setTop (mkF m 620 #[.val (.int p0s), .val (.int p1s), .val (.int p2s), .val (.int p3s), .val (.int p4s), .val (.int z119), .val (.int dd), .val (.int z123), .val (.int z124), .val (.int i1), .val (.int i2), .val (.int i3), .val (.double (9218868437227405312 : UInt64)), .second, .val (.int z137), .val (.int z140), .val (.int z143), .val (.int z146), .val (.ref b149), .val (.ref b153), .val (.ref b171), .val (.int z186), .val (.int z187), .val (.ref gt), .val (.int iR), .val (.int ln), .val (.int e1), .val (.int e2), .val (.int e3)] [(.int (1 : Int32))])) := fun tg_ kg_ => by
                              refine r252 tg_ ?_
                              show Steps p.tables e below (T252.setTop (mkF m 612 #[.val (.int p0s), .val (.int p1s), .val (.int p2s), .val (.int p3s), .val (.int p4s), .val (.int z119), .val (.int dd), .val (.int z123), .val (.int z124), .val (.int i1), .val (.int i2), .val (.int i3), .val (.double (9218868437227405312 : UInt64)), .second, .val (.int z137), .val (.int z140), .val (.int z143), .val (.int z146), .val (.ref b149), .val (.ref b153), .val (.ref b171), .val (.int z186), .val (.int z187), .val (.ref gt), .val (.int iR), .val (.int ln), .val (.int e1), .val (.int e2), .val (.int e3)] [(.int ((z119 + (e3 * dd)) &&& (3 : Int32))), (.int (gr 3))])) _
                              refine XS.icmpNo X252.here hx rfl (hb hby at_612) rfl (teq hc253).2 ?_
                              show Steps p.tables e below (T252.setTop (mkF m 615 #[.val (.int p0s), .val (.int p1s), .val (.int p2s), .val (.int p3s), .val (.int p4s), .val (.int z119), .val (.int dd), .val (.int z123), .val (.int z124), .val (.int i1), .val (.int i2), .val (.int i3), .val (.double (9218868437227405312 : UInt64)), .second, .val (.int z137), .val (.int z140), .val (.int z143), .val (.int z146), .val (.ref b149), .val (.ref b153), .val (.ref b171), .val (.int z186), .val (.int z187), .val (.ref gt), .val (.int iR), .val (.int ln), .val (.int e1), .val (.int e2), .val (.int e3)] [])) _
                              refine XS.iconst X252.here hx rfl (hb hby at_615) ?_
                              show Steps p.tables e below (T252.setTop (mkF m 616 #[.val (.int p0s), .val (.int p1s), .val (.int p2s), .val (.int p3s), .val (.int p4s), .val (.int z119), .val (.int dd), .val (.int z123), .val (.int z124), .val (.int i1), .val (.int i2), .val (.int i3), .val (.double (9218868437227405312 : UInt64)), .second, .val (.int z137), .val (.int z140), .val (.int z143), .val (.int z146), .val (.ref b149), .val (.ref b153), .val (.ref b171), .val (.int z186), .val (.int z187), .val (.ref gt), .val (.int iR), .val (.int ln), .val (.int e1), .val (.int e2), .val (.int e3)] [(.int (1 : Int32))])) _
                              refine XS.goto X252.here hx rfl (pc0 := 616) (pc' := 620) rfl (hb hby at_616) (by decide) (by decide) ?_
                              exact kg_
                            refine hG (own_fin X252 hlk (some (.int (nar .boolean (1 : Int32)))) (own_hv Bd.returns) ?_ (by decide) (by decide) (fun fs hr => r254 _ (retN X252 hx (t := .boolean) Bd.returns (by simp) (hb hby at_620) hr)))
                            rw [I252_0]
                            exact ⟨rfl, N252⟩
                    have r255 : own_R p.tables e below F0 (T190.setTop (mkF m 415 #[.val (.int p0s), .val (.int p1s), .val (.int p2s), .val (.int p3s), .val (.int p4s), .val (.int z119), .val (.int dd), .val (.int z123), .val (.int z124), .val (.int i1), .val (.int i2), .val (.int i3), .val (.double (9218868437227405312 : UInt64)), .second, .val (.int z137), .val (.int z140), .val (.int z143), .val (.int z146), .val (.ref b149), .val (.ref b153), .val (.ref b171), .val (.int z186), .val (.int z187), .val (.ref gt), .val (.int iR), .unset, .val (.int (0 : Int32)), .val (.int (0 : Int32)), .val (.int (0 : Int32))] [(.int z187)])) := fun tg_ kg_ => by
                      refine r205 tg_ ?_
                      show Steps p.tables e below (T190.setTop (mkF m 413 #[.val (.int p0s), .val (.int p1s), .val (.int p2s), .val (.int p3s), .val (.int p4s), .val (.int z119), .val (.int dd), .val (.int z123), .val (.int z124), .val (.int i1), .val (.int i2), .val (.int i3), .val (.double (9218868437227405312 : UInt64)), .second, .val (.int z137), .val (.int z140), .val (.int z143), .val (.int z146), .val (.ref b149), .val (.ref b153), .val (.ref b171), .val (.int z186), .val (.int z187), .val (.ref gt), .val (.int iR), .unset, .val (.int (0 : Int32)), .val (.int (0 : Int32)), .val (.int (0 : Int32))] [])) _
                      refine XS.iload X191.here hx rfl (hb hby at_413) rfl ?_
                      exact kg_
                    by_cases hc256 : z187 = (0 : Int32)
                    · have r257 : own_R p.tables e below F0 (T190.setTop (mkF m 532 #[.val (.int p0s), .val (.int p1s), .val (.int p2s), .val (.int p3s), .val (.int p4s), .val (.int z119), .val (.int dd), .val (.int z123), .val (.int z124), .val (.int i1), .val (.int i2), .val (.int i3), .val (.double (9218868437227405312 : UInt64)), .second, .val (.int z137), .val (.int z140), .val (.int z143), .val (.int z146), .val (.ref b149), .val (.ref b153), .val (.ref b171), .val (.int z186), .val (.int z187), .val (.ref gt), .val (.int iR), .val (.int (1 : Int32)), .val (.int (0 : Int32)), .val (.int (0 : Int32)), .val (.int (0 : Int32))] [])) := fun tg_ kg_ => by
                        refine r255 tg_ ?_
                        show Steps p.tables e below (T190.setTop (mkF m 415 #[.val (.int p0s), .val (.int p1s), .val (.int p2s), .val (.int p3s), .val (.int p4s), .val (.int z119), .val (.int dd), .val (.int z123), .val (.int z124), .val (.int i1), .val (.int i2), .val (.int i3), .val (.double (9218868437227405312 : UInt64)), .second, .val (.int z137), .val (.int z140), .val (.int z143), .val (.int z146), .val (.ref b149), .val (.ref b153), .val (.ref b171), .val (.int z186), .val (.int z187), .val (.ref gt), .val (.int iR), .unset, .val (.int (0 : Int32)), .val (.int (0 : Int32)), .val (.int (0 : Int32))] [(.int z187)])) _
                        refine XS.ifNo X191.here hx rfl (hb hby at_415) rfl ((if0 _ _).trans (teq hc256).2) ?_
                        show Steps p.tables e below (T190.setTop (mkF m 418 #[.val (.int p0s), .val (.int p1s), .val (.int p2s), .val (.int p3s), .val (.int p4s), .val (.int z119), .val (.int dd), .val (.int z123), .val (.int z124), .val (.int i1), .val (.int i2), .val (.int i3), .val (.double (9218868437227405312 : UInt64)), .second, .val (.int z137), .val (.int z140), .val (.int z143), .val (.int z146), .val (.ref b149), .val (.ref b153), .val (.ref b171), .val (.int z186), .val (.int z187), .val (.ref gt), .val (.int iR), .unset, .val (.int (0 : Int32)), .val (.int (0 : Int32)), .val (.int (0 : Int32))] [])) _
                        refine XS.iconst X191.here hx rfl (hb hby at_418) ?_
                        show Steps p.tables e below (T190.setTop (mkF m 419 #[.val (.int p0s), .val (.int p1s), .val (.int p2s), .val (.int p3s), .val (.int p4s), .val (.int z119), .val (.int dd), .val (.int z123), .val (.int z124), .val (.int i1), .val (.int i2), .val (.int i3), .val (.double (9218868437227405312 : UInt64)), .second, .val (.int z137), .val (.int z140), .val (.int z143), .val (.int z146), .val (.ref b149), .val (.ref b153), .val (.ref b171), .val (.int z186), .val (.int z187), .val (.ref gt), .val (.int iR), .unset, .val (.int (0 : Int32)), .val (.int (0 : Int32)), .val (.int (0 : Int32))] [(.int (1 : Int32))])) _
                        refine XS.istore X191.here hx rfl (hb hby at_419) rfl (l' := #[.val (.int p0s), .val (.int p1s), .val (.int p2s), .val (.int p3s), .val (.int p4s), .val (.int z119), .val (.int dd), .val (.int z123), .val (.int z124), .val (.int i1), .val (.int i2), .val (.int i3), .val (.double (9218868437227405312 : UInt64)), .second, .val (.int z137), .val (.int z140), .val (.int z143), .val (.int z146), .val (.ref b149), .val (.ref b153), .val (.ref b171), .val (.int z186), .val (.int z187), .val (.ref gt), .val (.int iR), .val (.int (1 : Int32)), .val (.int (0 : Int32)), .val (.int (0 : Int32)), .val (.int (0 : Int32))]) rfl ?_
                        show Steps p.tables e below (T190.setTop (mkF m 421 #[.val (.int p0s), .val (.int p1s), .val (.int p2s), .val (.int p3s), .val (.int p4s), .val (.int z119), .val (.int dd), .val (.int z123), .val (.int z124), .val (.int i1), .val (.int i2), .val (.int i3), .val (.double (9218868437227405312 : UInt64)), .second, .val (.int z137), .val (.int z140), .val (.int z143), .val (.int z146), .val (.ref b149), .val (.ref b153), .val (.ref b171), .val (.int z186), .val (.int z187), .val (.ref gt), .val (.int iR), .val (.int (1 : Int32)), .val (.int (0 : Int32)), .val (.int (0 : Int32)), .val (.int (0 : Int32))] [])) _
                        refine XS.goto X191.here hx rfl (pc0 := 421) (pc' := 532) rfl (hb hby at_421) (by decide) (by decide) ?_
                        exact kg_
                      exact J206 (1 : Int32) (0 : Int32) (0 : Int32) (0 : Int32) (by
                            have z0 := own_eq32 hc204
                            have z1 := own_eq32 hc256
                            have l0 : (0 : Int32).toInt = 0 := rfl
                            have l1 : (1 : Int32).toInt = 1 := rfl
                            have l2 : (2 : Int32).toInt = 2 := rfl
                            have l3 : (3 : Int32).toInt = 3 := rfl
                            have l4 : (4 : Int32).toInt = 4 := rfl
                            have u1 : z123.toInt = 0 ∨ z123.toInt = 1 := hp2
                            have u2 : z124.toInt = 0 ∨ z124.toInt = 1 ∨ z124.toInt = 2 := hp3
                            exact Or.inl ⟨by omega, by omega⟩) r257
                    · have r258 : own_R p.tables e below F0 (T190.setTop (mkF m 427 #[.val (.int p0s), .val (.int p1s), .val (.int p2s), .val (.int p3s), .val (.int p4s), .val (.int z119), .val (.int dd), .val (.int z123), .val (.int z124), .val (.int i1), .val (.int i2), .val (.int i3), .val (.double (9218868437227405312 : UInt64)), .second, .val (.int z137), .val (.int z140), .val (.int z143), .val (.int z146), .val (.ref b149), .val (.ref b153), .val (.ref b171), .val (.int z186), .val (.int z187), .val (.ref gt), .val (.int iR), .unset, .val (.int (0 : Int32)), .val (.int (0 : Int32)), .val (.int (0 : Int32))] [(.int (1 : Int32)), (.int z187)])) := fun tg_ kg_ => by
                        refine r255 tg_ ?_
                        show Steps p.tables e below (T190.setTop (mkF m 415 #[.val (.int p0s), .val (.int p1s), .val (.int p2s), .val (.int p3s), .val (.int p4s), .val (.int z119), .val (.int dd), .val (.int z123), .val (.int z124), .val (.int i1), .val (.int i2), .val (.int i3), .val (.double (9218868437227405312 : UInt64)), .second, .val (.int z137), .val (.int z140), .val (.int z143), .val (.int z146), .val (.ref b149), .val (.ref b153), .val (.ref b171), .val (.int z186), .val (.int z187), .val (.ref gt), .val (.int iR), .unset, .val (.int (0 : Int32)), .val (.int (0 : Int32)), .val (.int (0 : Int32))] [(.int z187)])) _
                        refine XS.ifYes X191.here hx rfl (pc0 := 415) (pc' := 424) rfl (hb hby at_415) rfl ((if0 _ _).trans (feq hc256).2) (by decide) (by decide) ?_
                        show Steps p.tables e below (T190.setTop (mkF m 424 #[.val (.int p0s), .val (.int p1s), .val (.int p2s), .val (.int p3s), .val (.int p4s), .val (.int z119), .val (.int dd), .val (.int z123), .val (.int z124), .val (.int i1), .val (.int i2), .val (.int i3), .val (.double (9218868437227405312 : UInt64)), .second, .val (.int z137), .val (.int z140), .val (.int z143), .val (.int z146), .val (.ref b149), .val (.ref b153), .val (.ref b171), .val (.int z186), .val (.int z187), .val (.ref gt), .val (.int iR), .unset, .val (.int (0 : Int32)), .val (.int (0 : Int32)), .val (.int (0 : Int32))] [])) _
                        refine XS.iload X191.here hx rfl (hb hby at_424) rfl ?_
                        show Steps p.tables e below (T190.setTop (mkF m 426 #[.val (.int p0s), .val (.int p1s), .val (.int p2s), .val (.int p3s), .val (.int p4s), .val (.int z119), .val (.int dd), .val (.int z123), .val (.int z124), .val (.int i1), .val (.int i2), .val (.int i3), .val (.double (9218868437227405312 : UInt64)), .second, .val (.int z137), .val (.int z140), .val (.int z143), .val (.int z146), .val (.ref b149), .val (.ref b153), .val (.ref b171), .val (.int z186), .val (.int z187), .val (.ref gt), .val (.int iR), .unset, .val (.int (0 : Int32)), .val (.int (0 : Int32)), .val (.int (0 : Int32))] [(.int z187)])) _
                        refine XS.iconst X191.here hx rfl (hb hby at_426) ?_
                        exact kg_
                      by_cases hc259 : z187 = (1 : Int32)
                      · have r260 : own_R p.tables e below F0 (T190.setTop (mkF m 532 #[.val (.int p0s), .val (.int p1s), .val (.int p2s), .val (.int p3s), .val (.int p4s), .val (.int z119), .val (.int dd), .val (.int z123), .val (.int z124), .val (.int i1), .val (.int i2), .val (.int i3), .val (.double (9218868437227405312 : UInt64)), .second, .val (.int z137), .val (.int z140), .val (.int z143), .val (.int z146), .val (.ref b149), .val (.ref b153), .val (.ref b171), .val (.int z186), .val (.int z187), .val (.ref gt), .val (.int iR), .val (.int (2 : Int32)), .val (.int (1 : Int32)), .val (.int (0 : Int32)), .val (.int (0 : Int32))] [])) := fun tg_ kg_ => by
                          refine r258 tg_ ?_
                          show Steps p.tables e below (T190.setTop (mkF m 427 #[.val (.int p0s), .val (.int p1s), .val (.int p2s), .val (.int p3s), .val (.int p4s), .val (.int z119), .val (.int dd), .val (.int z123), .val (.int z124), .val (.int i1), .val (.int i2), .val (.int i3), .val (.double (9218868437227405312 : UInt64)), .second, .val (.int z137), .val (.int z140), .val (.int z143), .val (.int z146), .val (.ref b149), .val (.ref b153), .val (.ref b171), .val (.int z186), .val (.int z187), .val (.ref gt), .val (.int iR), .unset, .val (.int (0 : Int32)), .val (.int (0 : Int32)), .val (.int (0 : Int32))] [(.int (1 : Int32)), (.int z187)])) _
                          refine XS.icmpNo X191.here hx rfl (hb hby at_427) rfl (teq hc259).2 ?_
                          show Steps p.tables e below (T190.setTop (mkF m 430 #[.val (.int p0s), .val (.int p1s), .val (.int p2s), .val (.int p3s), .val (.int p4s), .val (.int z119), .val (.int dd), .val (.int z123), .val (.int z124), .val (.int i1), .val (.int i2), .val (.int i3), .val (.double (9218868437227405312 : UInt64)), .second, .val (.int z137), .val (.int z140), .val (.int z143), .val (.int z146), .val (.ref b149), .val (.ref b153), .val (.ref b171), .val (.int z186), .val (.int z187), .val (.ref gt), .val (.int iR), .unset, .val (.int (0 : Int32)), .val (.int (0 : Int32)), .val (.int (0 : Int32))] [])) _
                          refine XS.iconst X191.here hx rfl (hb hby at_430) ?_
                          show Steps p.tables e below (T190.setTop (mkF m 431 #[.val (.int p0s), .val (.int p1s), .val (.int p2s), .val (.int p3s), .val (.int p4s), .val (.int z119), .val (.int dd), .val (.int z123), .val (.int z124), .val (.int i1), .val (.int i2), .val (.int i3), .val (.double (9218868437227405312 : UInt64)), .second, .val (.int z137), .val (.int z140), .val (.int z143), .val (.int z146), .val (.ref b149), .val (.ref b153), .val (.ref b171), .val (.int z186), .val (.int z187), .val (.ref gt), .val (.int iR), .unset, .val (.int (0 : Int32)), .val (.int (0 : Int32)), .val (.int (0 : Int32))] [(.int (2 : Int32))])) _
                          refine XS.istore X191.here hx rfl (hb hby at_431) rfl (l' := #[.val (.int p0s), .val (.int p1s), .val (.int p2s), .val (.int p3s), .val (.int p4s), .val (.int z119), .val (.int dd), .val (.int z123), .val (.int z124), .val (.int i1), .val (.int i2), .val (.int i3), .val (.double (9218868437227405312 : UInt64)), .second, .val (.int z137), .val (.int z140), .val (.int z143), .val (.int z146), .val (.ref b149), .val (.ref b153), .val (.ref b171), .val (.int z186), .val (.int z187), .val (.ref gt), .val (.int iR), .val (.int (2 : Int32)), .val (.int (0 : Int32)), .val (.int (0 : Int32)), .val (.int (0 : Int32))]) rfl ?_
                          show Steps p.tables e below (T190.setTop (mkF m 433 #[.val (.int p0s), .val (.int p1s), .val (.int p2s), .val (.int p3s), .val (.int p4s), .val (.int z119), .val (.int dd), .val (.int z123), .val (.int z124), .val (.int i1), .val (.int i2), .val (.int i3), .val (.double (9218868437227405312 : UInt64)), .second, .val (.int z137), .val (.int z140), .val (.int z143), .val (.int z146), .val (.ref b149), .val (.ref b153), .val (.ref b171), .val (.int z186), .val (.int z187), .val (.ref gt), .val (.int iR), .val (.int (2 : Int32)), .val (.int (0 : Int32)), .val (.int (0 : Int32)), .val (.int (0 : Int32))] [])) _
                          refine XS.iconst X191.here hx rfl (hb hby at_433) ?_
                          show Steps p.tables e below (T190.setTop (mkF m 434 #[.val (.int p0s), .val (.int p1s), .val (.int p2s), .val (.int p3s), .val (.int p4s), .val (.int z119), .val (.int dd), .val (.int z123), .val (.int z124), .val (.int i1), .val (.int i2), .val (.int i3), .val (.double (9218868437227405312 : UInt64)), .second, .val (.int z137), .val (.int z140), .val (.int z143), .val (.int z146), .val (.ref b149), .val (.ref b153), .val (.ref b171), .val (.int z186), .val (.int z187), .val (.ref gt), .val (.int iR), .val (.int (2 : Int32)), .val (.int (0 : Int32)), .val (.int (0 : Int32)), .val (.int (0 : Int32))] [(.int (1 : Int32))])) _
                          refine XS.istore X191.here hx rfl (hb hby at_434) rfl (l' := #[.val (.int p0s), .val (.int p1s), .val (.int p2s), .val (.int p3s), .val (.int p4s), .val (.int z119), .val (.int dd), .val (.int z123), .val (.int z124), .val (.int i1), .val (.int i2), .val (.int i3), .val (.double (9218868437227405312 : UInt64)), .second, .val (.int z137), .val (.int z140), .val (.int z143), .val (.int z146), .val (.ref b149), .val (.ref b153), .val (.ref b171), .val (.int z186), .val (.int z187), .val (.ref gt), .val (.int iR), .val (.int (2 : Int32)), .val (.int (1 : Int32)), .val (.int (0 : Int32)), .val (.int (0 : Int32))]) rfl ?_
                          show Steps p.tables e below (T190.setTop (mkF m 436 #[.val (.int p0s), .val (.int p1s), .val (.int p2s), .val (.int p3s), .val (.int p4s), .val (.int z119), .val (.int dd), .val (.int z123), .val (.int z124), .val (.int i1), .val (.int i2), .val (.int i3), .val (.double (9218868437227405312 : UInt64)), .second, .val (.int z137), .val (.int z140), .val (.int z143), .val (.int z146), .val (.ref b149), .val (.ref b153), .val (.ref b171), .val (.int z186), .val (.int z187), .val (.ref gt), .val (.int iR), .val (.int (2 : Int32)), .val (.int (1 : Int32)), .val (.int (0 : Int32)), .val (.int (0 : Int32))] [])) _
                          refine XS.goto X191.here hx rfl (pc0 := 436) (pc' := 532) rfl (hb hby at_436) (by decide) (by decide) ?_
                          exact kg_
                        exact J206 (2 : Int32) (1 : Int32) (0 : Int32) (0 : Int32) (by
                              have z0 := own_eq32 hc204
                              have z1 := own_ne32 hc256
                              have z2 := own_eq32 hc259
                              have l0 : (0 : Int32).toInt = 0 := rfl
                              have l1 : (1 : Int32).toInt = 1 := rfl
                              have l2 : (2 : Int32).toInt = 2 := rfl
                              have l3 : (3 : Int32).toInt = 3 := rfl
                              have l4 : (4 : Int32).toInt = 4 := rfl
                              have u1 : z123.toInt = 0 ∨ z123.toInt = 1 := hp2
                              have u2 : z124.toInt = 0 ∨ z124.toInt = 1 ∨ z124.toInt = 2 := hp3
                              exact Or.inr (Or.inl ⟨by omega, by omega, by omega⟩)) r260
                      · have r261 : own_R p.tables e below F0 (T190.setTop (mkF m 442 #[.val (.int p0s), .val (.int p1s), .val (.int p2s), .val (.int p3s), .val (.int p4s), .val (.int z119), .val (.int dd), .val (.int z123), .val (.int z124), .val (.int i1), .val (.int i2), .val (.int i3), .val (.double (9218868437227405312 : UInt64)), .second, .val (.int z137), .val (.int z140), .val (.int z143), .val (.int z146), .val (.ref b149), .val (.ref b153), .val (.ref b171), .val (.int z186), .val (.int z187), .val (.ref gt), .val (.int iR), .unset, .val (.int (0 : Int32)), .val (.int (0 : Int32)), .val (.int (0 : Int32))] [(.int (2 : Int32)), (.int z187)])) := fun tg_ kg_ => by
                          refine r258 tg_ ?_
                          show Steps p.tables e below (T190.setTop (mkF m 427 #[.val (.int p0s), .val (.int p1s), .val (.int p2s), .val (.int p3s), .val (.int p4s), .val (.int z119), .val (.int dd), .val (.int z123), .val (.int z124), .val (.int i1), .val (.int i2), .val (.int i3), .val (.double (9218868437227405312 : UInt64)), .second, .val (.int z137), .val (.int z140), .val (.int z143), .val (.int z146), .val (.ref b149), .val (.ref b153), .val (.ref b171), .val (.int z186), .val (.int z187), .val (.ref gt), .val (.int iR), .unset, .val (.int (0 : Int32)), .val (.int (0 : Int32)), .val (.int (0 : Int32))] [(.int (1 : Int32)), (.int z187)])) _
                          refine XS.icmpYes X191.here hx rfl (pc0 := 427) (pc' := 439) rfl (hb hby at_427) rfl (feq hc259).2 (by decide) (by decide) ?_
                          show Steps p.tables e below (T190.setTop (mkF m 439 #[.val (.int p0s), .val (.int p1s), .val (.int p2s), .val (.int p3s), .val (.int p4s), .val (.int z119), .val (.int dd), .val (.int z123), .val (.int z124), .val (.int i1), .val (.int i2), .val (.int i3), .val (.double (9218868437227405312 : UInt64)), .second, .val (.int z137), .val (.int z140), .val (.int z143), .val (.int z146), .val (.ref b149), .val (.ref b153), .val (.ref b171), .val (.int z186), .val (.int z187), .val (.ref gt), .val (.int iR), .unset, .val (.int (0 : Int32)), .val (.int (0 : Int32)), .val (.int (0 : Int32))] [])) _
                          refine XS.iload X191.here hx rfl (hb hby at_439) rfl ?_
                          show Steps p.tables e below (T190.setTop (mkF m 441 #[.val (.int p0s), .val (.int p1s), .val (.int p2s), .val (.int p3s), .val (.int p4s), .val (.int z119), .val (.int dd), .val (.int z123), .val (.int z124), .val (.int i1), .val (.int i2), .val (.int i3), .val (.double (9218868437227405312 : UInt64)), .second, .val (.int z137), .val (.int z140), .val (.int z143), .val (.int z146), .val (.ref b149), .val (.ref b153), .val (.ref b171), .val (.int z186), .val (.int z187), .val (.ref gt), .val (.int iR), .unset, .val (.int (0 : Int32)), .val (.int (0 : Int32)), .val (.int (0 : Int32))] [(.int z187)])) _
                          refine XS.iconst X191.here hx rfl (hb hby at_441) ?_
                          exact kg_
                        by_cases hc262 : z187 = (2 : Int32)
                        · have r263 : own_R p.tables e below F0 (T190.setTop (mkF m 447 #[.val (.int p0s), .val (.int p1s), .val (.int p2s), .val (.int p3s), .val (.int p4s), .val (.int z119), .val (.int dd), .val (.int z123), .val (.int z124), .val (.int i1), .val (.int i2), .val (.int i3), .val (.double (9218868437227405312 : UInt64)), .second, .val (.int z137), .val (.int z140), .val (.int z143), .val (.int z146), .val (.ref b149), .val (.ref b153), .val (.ref b171), .val (.int z186), .val (.int z187), .val (.ref gt), .val (.int iR), .unset, .val (.int (0 : Int32)), .val (.int (0 : Int32)), .val (.int (0 : Int32))] [(.int z123)])) := fun tg_ kg_ => by
                            refine r261 tg_ ?_
                            show Steps p.tables e below (T190.setTop (mkF m 442 #[.val (.int p0s), .val (.int p1s), .val (.int p2s), .val (.int p3s), .val (.int p4s), .val (.int z119), .val (.int dd), .val (.int z123), .val (.int z124), .val (.int i1), .val (.int i2), .val (.int i3), .val (.double (9218868437227405312 : UInt64)), .second, .val (.int z137), .val (.int z140), .val (.int z143), .val (.int z146), .val (.ref b149), .val (.ref b153), .val (.ref b171), .val (.int z186), .val (.int z187), .val (.ref gt), .val (.int iR), .unset, .val (.int (0 : Int32)), .val (.int (0 : Int32)), .val (.int (0 : Int32))] [(.int (2 : Int32)), (.int z187)])) _
                            refine XS.icmpNo X191.here hx rfl (hb hby at_442) rfl (teq hc262).2 ?_
                            show Steps p.tables e below (T190.setTop (mkF m 445 #[.val (.int p0s), .val (.int p1s), .val (.int p2s), .val (.int p3s), .val (.int p4s), .val (.int z119), .val (.int dd), .val (.int z123), .val (.int z124), .val (.int i1), .val (.int i2), .val (.int i3), .val (.double (9218868437227405312 : UInt64)), .second, .val (.int z137), .val (.int z140), .val (.int z143), .val (.int z146), .val (.ref b149), .val (.ref b153), .val (.ref b171), .val (.int z186), .val (.int z187), .val (.ref gt), .val (.int iR), .unset, .val (.int (0 : Int32)), .val (.int (0 : Int32)), .val (.int (0 : Int32))] [])) _
                            refine XS.iload X191.here hx rfl (hb hby at_445) rfl ?_
                            exact kg_
                          by_cases hc264 : z123 = (0 : Int32)
                          · have r265 : own_R p.tables e below F0 (T190.setTop (mkF m 532 #[.val (.int p0s), .val (.int p1s), .val (.int p2s), .val (.int p3s), .val (.int p4s), .val (.int z119), .val (.int dd), .val (.int z123), .val (.int z124), .val (.int i1), .val (.int i2), .val (.int i3), .val (.double (9218868437227405312 : UInt64)), .second, .val (.int z137), .val (.int z140), .val (.int z143), .val (.int z146), .val (.ref b149), .val (.ref b153), .val (.ref b171), .val (.int z186), .val (.int z187), .val (.ref gt), .val (.int iR), .val (.int (2 : Int32)), .val (.int (2 : Int32)), .val (.int (0 : Int32)), .val (.int (0 : Int32))] [])) := fun tg_ kg_ => by
                              refine r263 tg_ ?_
                              show Steps p.tables e below (T190.setTop (mkF m 447 #[.val (.int p0s), .val (.int p1s), .val (.int p2s), .val (.int p3s), .val (.int p4s), .val (.int z119), .val (.int dd), .val (.int z123), .val (.int z124), .val (.int i1), .val (.int i2), .val (.int i3), .val (.double (9218868437227405312 : UInt64)), .second, .val (.int z137), .val (.int z140), .val (.int z143), .val (.int z146), .val (.ref b149), .val (.ref b153), .val (.ref b171), .val (.int z186), .val (.int z187), .val (.ref gt), .val (.int iR), .unset, .val (.int (0 : Int32)), .val (.int (0 : Int32)), .val (.int (0 : Int32))] [(.int z123)])) _
                              refine XS.ifNo X191.here hx rfl (hb hby at_447) rfl ((if0 _ _).trans (teq hc264).2) ?_
                              show Steps p.tables e below (T190.setTop (mkF m 450 #[.val (.int p0s), .val (.int p1s), .val (.int p2s), .val (.int p3s), .val (.int p4s), .val (.int z119), .val (.int dd), .val (.int z123), .val (.int z124), .val (.int i1), .val (.int i2), .val (.int i3), .val (.double (9218868437227405312 : UInt64)), .second, .val (.int z137), .val (.int z140), .val (.int z143), .val (.int z146), .val (.ref b149), .val (.ref b153), .val (.ref b171), .val (.int z186), .val (.int z187), .val (.ref gt), .val (.int iR), .unset, .val (.int (0 : Int32)), .val (.int (0 : Int32)), .val (.int (0 : Int32))] [])) _
                              refine XS.iconst X191.here hx rfl (hb hby at_450) ?_
                              show Steps p.tables e below (T190.setTop (mkF m 451 #[.val (.int p0s), .val (.int p1s), .val (.int p2s), .val (.int p3s), .val (.int p4s), .val (.int z119), .val (.int dd), .val (.int z123), .val (.int z124), .val (.int i1), .val (.int i2), .val (.int i3), .val (.double (9218868437227405312 : UInt64)), .second, .val (.int z137), .val (.int z140), .val (.int z143), .val (.int z146), .val (.ref b149), .val (.ref b153), .val (.ref b171), .val (.int z186), .val (.int z187), .val (.ref gt), .val (.int iR), .unset, .val (.int (0 : Int32)), .val (.int (0 : Int32)), .val (.int (0 : Int32))] [(.int (2 : Int32))])) _
                              refine XS.istore X191.here hx rfl (hb hby at_451) rfl (l' := #[.val (.int p0s), .val (.int p1s), .val (.int p2s), .val (.int p3s), .val (.int p4s), .val (.int z119), .val (.int dd), .val (.int z123), .val (.int z124), .val (.int i1), .val (.int i2), .val (.int i3), .val (.double (9218868437227405312 : UInt64)), .second, .val (.int z137), .val (.int z140), .val (.int z143), .val (.int z146), .val (.ref b149), .val (.ref b153), .val (.ref b171), .val (.int z186), .val (.int z187), .val (.ref gt), .val (.int iR), .val (.int (2 : Int32)), .val (.int (0 : Int32)), .val (.int (0 : Int32)), .val (.int (0 : Int32))]) rfl ?_
                              show Steps p.tables e below (T190.setTop (mkF m 453 #[.val (.int p0s), .val (.int p1s), .val (.int p2s), .val (.int p3s), .val (.int p4s), .val (.int z119), .val (.int dd), .val (.int z123), .val (.int z124), .val (.int i1), .val (.int i2), .val (.int i3), .val (.double (9218868437227405312 : UInt64)), .second, .val (.int z137), .val (.int z140), .val (.int z143), .val (.int z146), .val (.ref b149), .val (.ref b153), .val (.ref b171), .val (.int z186), .val (.int z187), .val (.ref gt), .val (.int iR), .val (.int (2 : Int32)), .val (.int (0 : Int32)), .val (.int (0 : Int32)), .val (.int (0 : Int32))] [])) _
                              refine XS.iconst X191.here hx rfl (hb hby at_453) ?_
                              show Steps p.tables e below (T190.setTop (mkF m 454 #[.val (.int p0s), .val (.int p1s), .val (.int p2s), .val (.int p3s), .val (.int p4s), .val (.int z119), .val (.int dd), .val (.int z123), .val (.int z124), .val (.int i1), .val (.int i2), .val (.int i3), .val (.double (9218868437227405312 : UInt64)), .second, .val (.int z137), .val (.int z140), .val (.int z143), .val (.int z146), .val (.ref b149), .val (.ref b153), .val (.ref b171), .val (.int z186), .val (.int z187), .val (.ref gt), .val (.int iR), .val (.int (2 : Int32)), .val (.int (0 : Int32)), .val (.int (0 : Int32)), .val (.int (0 : Int32))] [(.int (2 : Int32))])) _
                              refine XS.istore X191.here hx rfl (hb hby at_454) rfl (l' := #[.val (.int p0s), .val (.int p1s), .val (.int p2s), .val (.int p3s), .val (.int p4s), .val (.int z119), .val (.int dd), .val (.int z123), .val (.int z124), .val (.int i1), .val (.int i2), .val (.int i3), .val (.double (9218868437227405312 : UInt64)), .second, .val (.int z137), .val (.int z140), .val (.int z143), .val (.int z146), .val (.ref b149), .val (.ref b153), .val (.ref b171), .val (.int z186), .val (.int z187), .val (.ref gt), .val (.int iR), .val (.int (2 : Int32)), .val (.int (2 : Int32)), .val (.int (0 : Int32)), .val (.int (0 : Int32))]) rfl ?_
                              show Steps p.tables e below (T190.setTop (mkF m 456 #[.val (.int p0s), .val (.int p1s), .val (.int p2s), .val (.int p3s), .val (.int p4s), .val (.int z119), .val (.int dd), .val (.int z123), .val (.int z124), .val (.int i1), .val (.int i2), .val (.int i3), .val (.double (9218868437227405312 : UInt64)), .second, .val (.int z137), .val (.int z140), .val (.int z143), .val (.int z146), .val (.ref b149), .val (.ref b153), .val (.ref b171), .val (.int z186), .val (.int z187), .val (.ref gt), .val (.int iR), .val (.int (2 : Int32)), .val (.int (2 : Int32)), .val (.int (0 : Int32)), .val (.int (0 : Int32))] [])) _
                              refine XS.goto X191.here hx rfl (pc0 := 456) (pc' := 532) rfl (hb hby at_456) (by decide) (by decide) ?_
                              exact kg_
                            exact J206 (2 : Int32) (2 : Int32) (0 : Int32) (0 : Int32) (by
                                  have z0 := own_eq32 hc204
                                  have z1 := own_ne32 hc256
                                  have z2 := own_ne32 hc259
                                  have z3 := own_eq32 hc262
                                  have z4 := own_eq32 hc264
                                  have l0 : (0 : Int32).toInt = 0 := rfl
                                  have l1 : (1 : Int32).toInt = 1 := rfl
                                  have l2 : (2 : Int32).toInt = 2 := rfl
                                  have l3 : (3 : Int32).toInt = 3 := rfl
                                  have l4 : (4 : Int32).toInt = 4 := rfl
                                  have u1 : z123.toInt = 0 ∨ z123.toInt = 1 := hp2
                                  have u2 : z124.toInt = 0 ∨ z124.toInt = 1 ∨ z124.toInt = 2 := hp3
                                  exact Or.inr (Or.inr (Or.inl ⟨by omega, by omega, by omega, by omega⟩))) r265
                          · have r266 : own_R p.tables e below F0 (T190.setTop (mkF m 532 #[.val (.int p0s), .val (.int p1s), .val (.int p2s), .val (.int p3s), .val (.int p4s), .val (.int z119), .val (.int dd), .val (.int z123), .val (.int z124), .val (.int i1), .val (.int i2), .val (.int i3), .val (.double (9218868437227405312 : UInt64)), .second, .val (.int z137), .val (.int z140), .val (.int z143), .val (.int z146), .val (.ref b149), .val (.ref b153), .val (.ref b171), .val (.int z186), .val (.int z187), .val (.ref gt), .val (.int iR), .val (.int (3 : Int32)), .val (.int (1 : Int32)), .val (.int (2 : Int32)), .val (.int (0 : Int32))] [])) := fun tg_ kg_ => by
                              refine r263 tg_ ?_
                              show Steps p.tables e below (T190.setTop (mkF m 447 #[.val (.int p0s), .val (.int p1s), .val (.int p2s), .val (.int p3s), .val (.int p4s), .val (.int z119), .val (.int dd), .val (.int z123), .val (.int z124), .val (.int i1), .val (.int i2), .val (.int i3), .val (.double (9218868437227405312 : UInt64)), .second, .val (.int z137), .val (.int z140), .val (.int z143), .val (.int z146), .val (.ref b149), .val (.ref b153), .val (.ref b171), .val (.int z186), .val (.int z187), .val (.ref gt), .val (.int iR), .unset, .val (.int (0 : Int32)), .val (.int (0 : Int32)), .val (.int (0 : Int32))] [(.int z123)])) _
                              refine XS.ifYes X191.here hx rfl (pc0 := 447) (pc' := 459) rfl (hb hby at_447) rfl ((if0 _ _).trans (feq hc264).2) (by decide) (by decide) ?_
                              show Steps p.tables e below (T190.setTop (mkF m 459 #[.val (.int p0s), .val (.int p1s), .val (.int p2s), .val (.int p3s), .val (.int p4s), .val (.int z119), .val (.int dd), .val (.int z123), .val (.int z124), .val (.int i1), .val (.int i2), .val (.int i3), .val (.double (9218868437227405312 : UInt64)), .second, .val (.int z137), .val (.int z140), .val (.int z143), .val (.int z146), .val (.ref b149), .val (.ref b153), .val (.ref b171), .val (.int z186), .val (.int z187), .val (.ref gt), .val (.int iR), .unset, .val (.int (0 : Int32)), .val (.int (0 : Int32)), .val (.int (0 : Int32))] [])) _
                              refine XS.iconst X191.here hx rfl (hb hby at_459) ?_
                              show Steps p.tables e below (T190.setTop (mkF m 460 #[.val (.int p0s), .val (.int p1s), .val (.int p2s), .val (.int p3s), .val (.int p4s), .val (.int z119), .val (.int dd), .val (.int z123), .val (.int z124), .val (.int i1), .val (.int i2), .val (.int i3), .val (.double (9218868437227405312 : UInt64)), .second, .val (.int z137), .val (.int z140), .val (.int z143), .val (.int z146), .val (.ref b149), .val (.ref b153), .val (.ref b171), .val (.int z186), .val (.int z187), .val (.ref gt), .val (.int iR), .unset, .val (.int (0 : Int32)), .val (.int (0 : Int32)), .val (.int (0 : Int32))] [(.int (3 : Int32))])) _
                              refine XS.istore X191.here hx rfl (hb hby at_460) rfl (l' := #[.val (.int p0s), .val (.int p1s), .val (.int p2s), .val (.int p3s), .val (.int p4s), .val (.int z119), .val (.int dd), .val (.int z123), .val (.int z124), .val (.int i1), .val (.int i2), .val (.int i3), .val (.double (9218868437227405312 : UInt64)), .second, .val (.int z137), .val (.int z140), .val (.int z143), .val (.int z146), .val (.ref b149), .val (.ref b153), .val (.ref b171), .val (.int z186), .val (.int z187), .val (.ref gt), .val (.int iR), .val (.int (3 : Int32)), .val (.int (0 : Int32)), .val (.int (0 : Int32)), .val (.int (0 : Int32))]) rfl ?_
                              show Steps p.tables e below (T190.setTop (mkF m 462 #[.val (.int p0s), .val (.int p1s), .val (.int p2s), .val (.int p3s), .val (.int p4s), .val (.int z119), .val (.int dd), .val (.int z123), .val (.int z124), .val (.int i1), .val (.int i2), .val (.int i3), .val (.double (9218868437227405312 : UInt64)), .second, .val (.int z137), .val (.int z140), .val (.int z143), .val (.int z146), .val (.ref b149), .val (.ref b153), .val (.ref b171), .val (.int z186), .val (.int z187), .val (.ref gt), .val (.int iR), .val (.int (3 : Int32)), .val (.int (0 : Int32)), .val (.int (0 : Int32)), .val (.int (0 : Int32))] [])) _
                              refine XS.iconst X191.here hx rfl (hb hby at_462) ?_
                              show Steps p.tables e below (T190.setTop (mkF m 463 #[.val (.int p0s), .val (.int p1s), .val (.int p2s), .val (.int p3s), .val (.int p4s), .val (.int z119), .val (.int dd), .val (.int z123), .val (.int z124), .val (.int i1), .val (.int i2), .val (.int i3), .val (.double (9218868437227405312 : UInt64)), .second, .val (.int z137), .val (.int z140), .val (.int z143), .val (.int z146), .val (.ref b149), .val (.ref b153), .val (.ref b171), .val (.int z186), .val (.int z187), .val (.ref gt), .val (.int iR), .val (.int (3 : Int32)), .val (.int (0 : Int32)), .val (.int (0 : Int32)), .val (.int (0 : Int32))] [(.int (1 : Int32))])) _
                              refine XS.istore X191.here hx rfl (hb hby at_463) rfl (l' := #[.val (.int p0s), .val (.int p1s), .val (.int p2s), .val (.int p3s), .val (.int p4s), .val (.int z119), .val (.int dd), .val (.int z123), .val (.int z124), .val (.int i1), .val (.int i2), .val (.int i3), .val (.double (9218868437227405312 : UInt64)), .second, .val (.int z137), .val (.int z140), .val (.int z143), .val (.int z146), .val (.ref b149), .val (.ref b153), .val (.ref b171), .val (.int z186), .val (.int z187), .val (.ref gt), .val (.int iR), .val (.int (3 : Int32)), .val (.int (1 : Int32)), .val (.int (0 : Int32)), .val (.int (0 : Int32))]) rfl ?_
                              show Steps p.tables e below (T190.setTop (mkF m 465 #[.val (.int p0s), .val (.int p1s), .val (.int p2s), .val (.int p3s), .val (.int p4s), .val (.int z119), .val (.int dd), .val (.int z123), .val (.int z124), .val (.int i1), .val (.int i2), .val (.int i3), .val (.double (9218868437227405312 : UInt64)), .second, .val (.int z137), .val (.int z140), .val (.int z143), .val (.int z146), .val (.ref b149), .val (.ref b153), .val (.ref b171), .val (.int z186), .val (.int z187), .val (.ref gt), .val (.int iR), .val (.int (3 : Int32)), .val (.int (1 : Int32)), .val (.int (0 : Int32)), .val (.int (0 : Int32))] [])) _
                              refine XS.iconst X191.here hx rfl (hb hby at_465) ?_
                              show Steps p.tables e below (T190.setTop (mkF m 466 #[.val (.int p0s), .val (.int p1s), .val (.int p2s), .val (.int p3s), .val (.int p4s), .val (.int z119), .val (.int dd), .val (.int z123), .val (.int z124), .val (.int i1), .val (.int i2), .val (.int i3), .val (.double (9218868437227405312 : UInt64)), .second, .val (.int z137), .val (.int z140), .val (.int z143), .val (.int z146), .val (.ref b149), .val (.ref b153), .val (.ref b171), .val (.int z186), .val (.int z187), .val (.ref gt), .val (.int iR), .val (.int (3 : Int32)), .val (.int (1 : Int32)), .val (.int (0 : Int32)), .val (.int (0 : Int32))] [(.int (2 : Int32))])) _
                              refine XS.istore X191.here hx rfl (hb hby at_466) rfl (l' := #[.val (.int p0s), .val (.int p1s), .val (.int p2s), .val (.int p3s), .val (.int p4s), .val (.int z119), .val (.int dd), .val (.int z123), .val (.int z124), .val (.int i1), .val (.int i2), .val (.int i3), .val (.double (9218868437227405312 : UInt64)), .second, .val (.int z137), .val (.int z140), .val (.int z143), .val (.int z146), .val (.ref b149), .val (.ref b153), .val (.ref b171), .val (.int z186), .val (.int z187), .val (.ref gt), .val (.int iR), .val (.int (3 : Int32)), .val (.int (1 : Int32)), .val (.int (2 : Int32)), .val (.int (0 : Int32))]) rfl ?_
                              show Steps p.tables e below (T190.setTop (mkF m 468 #[.val (.int p0s), .val (.int p1s), .val (.int p2s), .val (.int p3s), .val (.int p4s), .val (.int z119), .val (.int dd), .val (.int z123), .val (.int z124), .val (.int i1), .val (.int i2), .val (.int i3), .val (.double (9218868437227405312 : UInt64)), .second, .val (.int z137), .val (.int z140), .val (.int z143), .val (.int z146), .val (.ref b149), .val (.ref b153), .val (.ref b171), .val (.int z186), .val (.int z187), .val (.ref gt), .val (.int iR), .val (.int (3 : Int32)), .val (.int (1 : Int32)), .val (.int (2 : Int32)), .val (.int (0 : Int32))] [])) _
                              refine XS.goto X191.here hx rfl (pc0 := 468) (pc' := 532) rfl (hb hby at_468) (by decide) (by decide) ?_
                              exact kg_
                            exact J206 (3 : Int32) (1 : Int32) (2 : Int32) (0 : Int32) (by
                                  have z0 := own_eq32 hc204
                                  have z1 := own_ne32 hc256
                                  have z2 := own_ne32 hc259
                                  have z3 := own_eq32 hc262
                                  have z4 := own_ne32 hc264
                                  have l0 : (0 : Int32).toInt = 0 := rfl
                                  have l1 : (1 : Int32).toInt = 1 := rfl
                                  have l2 : (2 : Int32).toInt = 2 := rfl
                                  have l3 : (3 : Int32).toInt = 3 := rfl
                                  have l4 : (4 : Int32).toInt = 4 := rfl
                                  have u1 : z123.toInt = 0 ∨ z123.toInt = 1 := hp2
                                  have u2 : z124.toInt = 0 ∨ z124.toInt = 1 ∨ z124.toInt = 2 := hp3
                                  exact Or.inr (Or.inr (Or.inr (Or.inl ⟨by omega, by omega, by omega, by omega, by omega⟩)))) r266
                        · have r267 : own_R p.tables e below F0 (T190.setTop (mkF m 473 #[.val (.int p0s), .val (.int p1s), .val (.int p2s), .val (.int p3s), .val (.int p4s), .val (.int z119), .val (.int dd), .val (.int z123), .val (.int z124), .val (.int i1), .val (.int i2), .val (.int i3), .val (.double (9218868437227405312 : UInt64)), .second, .val (.int z137), .val (.int z140), .val (.int z143), .val (.int z146), .val (.ref b149), .val (.ref b153), .val (.ref b171), .val (.int z186), .val (.int z187), .val (.ref gt), .val (.int iR), .unset, .val (.int (0 : Int32)), .val (.int (0 : Int32)), .val (.int (0 : Int32))] [(.int z124)])) := fun tg_ kg_ => by
                            refine r261 tg_ ?_
                            show Steps p.tables e below (T190.setTop (mkF m 442 #[.val (.int p0s), .val (.int p1s), .val (.int p2s), .val (.int p3s), .val (.int p4s), .val (.int z119), .val (.int dd), .val (.int z123), .val (.int z124), .val (.int i1), .val (.int i2), .val (.int i3), .val (.double (9218868437227405312 : UInt64)), .second, .val (.int z137), .val (.int z140), .val (.int z143), .val (.int z146), .val (.ref b149), .val (.ref b153), .val (.ref b171), .val (.int z186), .val (.int z187), .val (.ref gt), .val (.int iR), .unset, .val (.int (0 : Int32)), .val (.int (0 : Int32)), .val (.int (0 : Int32))] [(.int (2 : Int32)), (.int z187)])) _
                            refine XS.icmpYes X191.here hx rfl (pc0 := 442) (pc' := 471) rfl (hb hby at_442) rfl (feq hc262).2 (by decide) (by decide) ?_
                            show Steps p.tables e below (T190.setTop (mkF m 471 #[.val (.int p0s), .val (.int p1s), .val (.int p2s), .val (.int p3s), .val (.int p4s), .val (.int z119), .val (.int dd), .val (.int z123), .val (.int z124), .val (.int i1), .val (.int i2), .val (.int i3), .val (.double (9218868437227405312 : UInt64)), .second, .val (.int z137), .val (.int z140), .val (.int z143), .val (.int z146), .val (.ref b149), .val (.ref b153), .val (.ref b171), .val (.int z186), .val (.int z187), .val (.ref gt), .val (.int iR), .unset, .val (.int (0 : Int32)), .val (.int (0 : Int32)), .val (.int (0 : Int32))] [])) _
                            refine XS.iload X191.here hx rfl (hb hby at_471) rfl ?_
                            exact kg_
                          by_cases hc268 : z124 = (0 : Int32)
                          · have r269 : own_R p.tables e below F0 (T190.setTop (mkF m 532 #[.val (.int p0s), .val (.int p1s), .val (.int p2s), .val (.int p3s), .val (.int p4s), .val (.int z119), .val (.int dd), .val (.int z123), .val (.int z124), .val (.int i1), .val (.int i2), .val (.int i3), .val (.double (9218868437227405312 : UInt64)), .second, .val (.int z137), .val (.int z140), .val (.int z143), .val (.int z146), .val (.ref b149), .val (.ref b153), .val (.ref b171), .val (.int z186), .val (.int z187), .val (.ref gt), .val (.int iR), .val (.int (2 : Int32)), .val (.int (3 : Int32)), .val (.int (0 : Int32)), .val (.int (0 : Int32))] [])) := fun tg_ kg_ => by
                              refine r267 tg_ ?_
                              show Steps p.tables e below (T190.setTop (mkF m 473 #[.val (.int p0s), .val (.int p1s), .val (.int p2s), .val (.int p3s), .val (.int p4s), .val (.int z119), .val (.int dd), .val (.int z123), .val (.int z124), .val (.int i1), .val (.int i2), .val (.int i3), .val (.double (9218868437227405312 : UInt64)), .second, .val (.int z137), .val (.int z140), .val (.int z143), .val (.int z146), .val (.ref b149), .val (.ref b153), .val (.ref b171), .val (.int z186), .val (.int z187), .val (.ref gt), .val (.int iR), .unset, .val (.int (0 : Int32)), .val (.int (0 : Int32)), .val (.int (0 : Int32))] [(.int z124)])) _
                              refine XS.ifNo X191.here hx rfl (hb hby at_473) rfl ((if0 _ _).trans (teq hc268).2) ?_
                              show Steps p.tables e below (T190.setTop (mkF m 476 #[.val (.int p0s), .val (.int p1s), .val (.int p2s), .val (.int p3s), .val (.int p4s), .val (.int z119), .val (.int dd), .val (.int z123), .val (.int z124), .val (.int i1), .val (.int i2), .val (.int i3), .val (.double (9218868437227405312 : UInt64)), .second, .val (.int z137), .val (.int z140), .val (.int z143), .val (.int z146), .val (.ref b149), .val (.ref b153), .val (.ref b171), .val (.int z186), .val (.int z187), .val (.ref gt), .val (.int iR), .unset, .val (.int (0 : Int32)), .val (.int (0 : Int32)), .val (.int (0 : Int32))] [])) _
                              refine XS.iconst X191.here hx rfl (hb hby at_476) ?_
                              show Steps p.tables e below (T190.setTop (mkF m 477 #[.val (.int p0s), .val (.int p1s), .val (.int p2s), .val (.int p3s), .val (.int p4s), .val (.int z119), .val (.int dd), .val (.int z123), .val (.int z124), .val (.int i1), .val (.int i2), .val (.int i3), .val (.double (9218868437227405312 : UInt64)), .second, .val (.int z137), .val (.int z140), .val (.int z143), .val (.int z146), .val (.ref b149), .val (.ref b153), .val (.ref b171), .val (.int z186), .val (.int z187), .val (.ref gt), .val (.int iR), .unset, .val (.int (0 : Int32)), .val (.int (0 : Int32)), .val (.int (0 : Int32))] [(.int (2 : Int32))])) _
                              refine XS.istore X191.here hx rfl (hb hby at_477) rfl (l' := #[.val (.int p0s), .val (.int p1s), .val (.int p2s), .val (.int p3s), .val (.int p4s), .val (.int z119), .val (.int dd), .val (.int z123), .val (.int z124), .val (.int i1), .val (.int i2), .val (.int i3), .val (.double (9218868437227405312 : UInt64)), .second, .val (.int z137), .val (.int z140), .val (.int z143), .val (.int z146), .val (.ref b149), .val (.ref b153), .val (.ref b171), .val (.int z186), .val (.int z187), .val (.ref gt), .val (.int iR), .val (.int (2 : Int32)), .val (.int (0 : Int32)), .val (.int (0 : Int32)), .val (.int (0 : Int32))]) rfl ?_
                              show Steps p.tables e below (T190.setTop (mkF m 479 #[.val (.int p0s), .val (.int p1s), .val (.int p2s), .val (.int p3s), .val (.int p4s), .val (.int z119), .val (.int dd), .val (.int z123), .val (.int z124), .val (.int i1), .val (.int i2), .val (.int i3), .val (.double (9218868437227405312 : UInt64)), .second, .val (.int z137), .val (.int z140), .val (.int z143), .val (.int z146), .val (.ref b149), .val (.ref b153), .val (.ref b171), .val (.int z186), .val (.int z187), .val (.ref gt), .val (.int iR), .val (.int (2 : Int32)), .val (.int (0 : Int32)), .val (.int (0 : Int32)), .val (.int (0 : Int32))] [])) _
                              refine XS.iconst X191.here hx rfl (hb hby at_479) ?_
                              show Steps p.tables e below (T190.setTop (mkF m 480 #[.val (.int p0s), .val (.int p1s), .val (.int p2s), .val (.int p3s), .val (.int p4s), .val (.int z119), .val (.int dd), .val (.int z123), .val (.int z124), .val (.int i1), .val (.int i2), .val (.int i3), .val (.double (9218868437227405312 : UInt64)), .second, .val (.int z137), .val (.int z140), .val (.int z143), .val (.int z146), .val (.ref b149), .val (.ref b153), .val (.ref b171), .val (.int z186), .val (.int z187), .val (.ref gt), .val (.int iR), .val (.int (2 : Int32)), .val (.int (0 : Int32)), .val (.int (0 : Int32)), .val (.int (0 : Int32))] [(.int (3 : Int32))])) _
                              refine XS.istore X191.here hx rfl (hb hby at_480) rfl (l' := #[.val (.int p0s), .val (.int p1s), .val (.int p2s), .val (.int p3s), .val (.int p4s), .val (.int z119), .val (.int dd), .val (.int z123), .val (.int z124), .val (.int i1), .val (.int i2), .val (.int i3), .val (.double (9218868437227405312 : UInt64)), .second, .val (.int z137), .val (.int z140), .val (.int z143), .val (.int z146), .val (.ref b149), .val (.ref b153), .val (.ref b171), .val (.int z186), .val (.int z187), .val (.ref gt), .val (.int iR), .val (.int (2 : Int32)), .val (.int (3 : Int32)), .val (.int (0 : Int32)), .val (.int (0 : Int32))]) rfl ?_
                              show Steps p.tables e below (T190.setTop (mkF m 482 #[.val (.int p0s), .val (.int p1s), .val (.int p2s), .val (.int p3s), .val (.int p4s), .val (.int z119), .val (.int dd), .val (.int z123), .val (.int z124), .val (.int i1), .val (.int i2), .val (.int i3), .val (.double (9218868437227405312 : UInt64)), .second, .val (.int z137), .val (.int z140), .val (.int z143), .val (.int z146), .val (.ref b149), .val (.ref b153), .val (.ref b171), .val (.int z186), .val (.int z187), .val (.ref gt), .val (.int iR), .val (.int (2 : Int32)), .val (.int (3 : Int32)), .val (.int (0 : Int32)), .val (.int (0 : Int32))] [])) _
                              refine XS.goto X191.here hx rfl (pc0 := 482) (pc' := 532) rfl (hb hby at_482) (by decide) (by decide) ?_
                              exact kg_
                            exact J206 (2 : Int32) (3 : Int32) (0 : Int32) (0 : Int32) (by
                                  have z0 := own_eq32 hc204
                                  have z1 := own_ne32 hc256
                                  have z2 := own_ne32 hc259
                                  have z3 := own_ne32 hc262
                                  have z4 := own_eq32 hc268
                                  have l0 : (0 : Int32).toInt = 0 := rfl
                                  have l1 : (1 : Int32).toInt = 1 := rfl
                                  have l2 : (2 : Int32).toInt = 2 := rfl
                                  have l3 : (3 : Int32).toInt = 3 := rfl
                                  have l4 : (4 : Int32).toInt = 4 := rfl
                                  have u1 : z123.toInt = 0 ∨ z123.toInt = 1 := hp2
                                  have u2 : z124.toInt = 0 ∨ z124.toInt = 1 ∨ z124.toInt = 2 := hp3
                                  exact Or.inr (Or.inr (Or.inr (Or.inr (Or.inl ⟨by omega, by omega, by omega, by omega⟩))))) r269
                          · have r270 : own_R p.tables e below F0 (T190.setTop (mkF m 488 #[.val (.int p0s), .val (.int p1s), .val (.int p2s), .val (.int p3s), .val (.int p4s), .val (.int z119), .val (.int dd), .val (.int z123), .val (.int z124), .val (.int i1), .val (.int i2), .val (.int i3), .val (.double (9218868437227405312 : UInt64)), .second, .val (.int z137), .val (.int z140), .val (.int z143), .val (.int z146), .val (.ref b149), .val (.ref b153), .val (.ref b171), .val (.int z186), .val (.int z187), .val (.ref gt), .val (.int iR), .unset, .val (.int (0 : Int32)), .val (.int (0 : Int32)), .val (.int (0 : Int32))] [(.int (1 : Int32)), (.int z124)])) := fun tg_ kg_ => by
                              refine r267 tg_ ?_
                              show Steps p.tables e below (T190.setTop (mkF m 473 #[.val (.int p0s), .val (.int p1s), .val (.int p2s), .val (.int p3s), .val (.int p4s), .val (.int z119), .val (.int dd), .val (.int z123), .val (.int z124), .val (.int i1), .val (.int i2), .val (.int i3), .val (.double (9218868437227405312 : UInt64)), .second, .val (.int z137), .val (.int z140), .val (.int z143), .val (.int z146), .val (.ref b149), .val (.ref b153), .val (.ref b171), .val (.int z186), .val (.int z187), .val (.ref gt), .val (.int iR), .unset, .val (.int (0 : Int32)), .val (.int (0 : Int32)), .val (.int (0 : Int32))] [(.int z124)])) _
                              refine XS.ifYes X191.here hx rfl (pc0 := 473) (pc' := 485) rfl (hb hby at_473) rfl ((if0 _ _).trans (feq hc268).2) (by decide) (by decide) ?_
                              show Steps p.tables e below (T190.setTop (mkF m 485 #[.val (.int p0s), .val (.int p1s), .val (.int p2s), .val (.int p3s), .val (.int p4s), .val (.int z119), .val (.int dd), .val (.int z123), .val (.int z124), .val (.int i1), .val (.int i2), .val (.int i3), .val (.double (9218868437227405312 : UInt64)), .second, .val (.int z137), .val (.int z140), .val (.int z143), .val (.int z146), .val (.ref b149), .val (.ref b153), .val (.ref b171), .val (.int z186), .val (.int z187), .val (.ref gt), .val (.int iR), .unset, .val (.int (0 : Int32)), .val (.int (0 : Int32)), .val (.int (0 : Int32))] [])) _
                              refine XS.iload X191.here hx rfl (hb hby at_485) rfl ?_
                              show Steps p.tables e below (T190.setTop (mkF m 487 #[.val (.int p0s), .val (.int p1s), .val (.int p2s), .val (.int p3s), .val (.int p4s), .val (.int z119), .val (.int dd), .val (.int z123), .val (.int z124), .val (.int i1), .val (.int i2), .val (.int i3), .val (.double (9218868437227405312 : UInt64)), .second, .val (.int z137), .val (.int z140), .val (.int z143), .val (.int z146), .val (.ref b149), .val (.ref b153), .val (.ref b171), .val (.int z186), .val (.int z187), .val (.ref gt), .val (.int iR), .unset, .val (.int (0 : Int32)), .val (.int (0 : Int32)), .val (.int (0 : Int32))] [(.int z124)])) _
                              refine XS.iconst X191.here hx rfl (hb hby at_487) ?_
                              exact kg_
                            by_cases hc271 : z124 = (1 : Int32)
                            · have r272 : own_R p.tables e below F0 (T190.setTop (mkF m 532 #[.val (.int p0s), .val (.int p1s), .val (.int p2s), .val (.int p3s), .val (.int p4s), .val (.int z119), .val (.int dd), .val (.int z123), .val (.int z124), .val (.int i1), .val (.int i2), .val (.int i3), .val (.double (9218868437227405312 : UInt64)), .second, .val (.int z137), .val (.int z140), .val (.int z143), .val (.int z146), .val (.ref b149), .val (.ref b153), .val (.ref b171), .val (.int z186), .val (.int z187), .val (.ref gt), .val (.int iR), .val (.int (3 : Int32)), .val (.int (1 : Int32)), .val (.int (3 : Int32)), .val (.int (0 : Int32))] [])) := fun tg_ kg_ => by
                                refine r270 tg_ ?_
                                show Steps p.tables e below (T190.setTop (mkF m 488 #[.val (.int p0s), .val (.int p1s), .val (.int p2s), .val (.int p3s), .val (.int p4s), .val (.int z119), .val (.int dd), .val (.int z123), .val (.int z124), .val (.int i1), .val (.int i2), .val (.int i3), .val (.double (9218868437227405312 : UInt64)), .second, .val (.int z137), .val (.int z140), .val (.int z143), .val (.int z146), .val (.ref b149), .val (.ref b153), .val (.ref b171), .val (.int z186), .val (.int z187), .val (.ref gt), .val (.int iR), .unset, .val (.int (0 : Int32)), .val (.int (0 : Int32)), .val (.int (0 : Int32))] [(.int (1 : Int32)), (.int z124)])) _
                                refine XS.icmpNo X191.here hx rfl (hb hby at_488) rfl (teq hc271).2 ?_
                                show Steps p.tables e below (T190.setTop (mkF m 491 #[.val (.int p0s), .val (.int p1s), .val (.int p2s), .val (.int p3s), .val (.int p4s), .val (.int z119), .val (.int dd), .val (.int z123), .val (.int z124), .val (.int i1), .val (.int i2), .val (.int i3), .val (.double (9218868437227405312 : UInt64)), .second, .val (.int z137), .val (.int z140), .val (.int z143), .val (.int z146), .val (.ref b149), .val (.ref b153), .val (.ref b171), .val (.int z186), .val (.int z187), .val (.ref gt), .val (.int iR), .unset, .val (.int (0 : Int32)), .val (.int (0 : Int32)), .val (.int (0 : Int32))] [])) _
                                refine XS.iconst X191.here hx rfl (hb hby at_491) ?_
                                show Steps p.tables e below (T190.setTop (mkF m 492 #[.val (.int p0s), .val (.int p1s), .val (.int p2s), .val (.int p3s), .val (.int p4s), .val (.int z119), .val (.int dd), .val (.int z123), .val (.int z124), .val (.int i1), .val (.int i2), .val (.int i3), .val (.double (9218868437227405312 : UInt64)), .second, .val (.int z137), .val (.int z140), .val (.int z143), .val (.int z146), .val (.ref b149), .val (.ref b153), .val (.ref b171), .val (.int z186), .val (.int z187), .val (.ref gt), .val (.int iR), .unset, .val (.int (0 : Int32)), .val (.int (0 : Int32)), .val (.int (0 : Int32))] [(.int (3 : Int32))])) _
                                refine XS.istore X191.here hx rfl (hb hby at_492) rfl (l' := #[.val (.int p0s), .val (.int p1s), .val (.int p2s), .val (.int p3s), .val (.int p4s), .val (.int z119), .val (.int dd), .val (.int z123), .val (.int z124), .val (.int i1), .val (.int i2), .val (.int i3), .val (.double (9218868437227405312 : UInt64)), .second, .val (.int z137), .val (.int z140), .val (.int z143), .val (.int z146), .val (.ref b149), .val (.ref b153), .val (.ref b171), .val (.int z186), .val (.int z187), .val (.ref gt), .val (.int iR), .val (.int (3 : Int32)), .val (.int (0 : Int32)), .val (.int (0 : Int32)), .val (.int (0 : Int32))]) rfl ?_
                                show Steps p.tables e below (T190.setTop (mkF m 494 #[.val (.int p0s), .val (.int p1s), .val (.int p2s), .val (.int p3s), .val (.int p4s), .val (.int z119), .val (.int dd), .val (.int z123), .val (.int z124), .val (.int i1), .val (.int i2), .val (.int i3), .val (.double (9218868437227405312 : UInt64)), .second, .val (.int z137), .val (.int z140), .val (.int z143), .val (.int z146), .val (.ref b149), .val (.ref b153), .val (.ref b171), .val (.int z186), .val (.int z187), .val (.ref gt), .val (.int iR), .val (.int (3 : Int32)), .val (.int (0 : Int32)), .val (.int (0 : Int32)), .val (.int (0 : Int32))] [])) _
                                refine XS.iconst X191.here hx rfl (hb hby at_494) ?_
                                show Steps p.tables e below (T190.setTop (mkF m 495 #[.val (.int p0s), .val (.int p1s), .val (.int p2s), .val (.int p3s), .val (.int p4s), .val (.int z119), .val (.int dd), .val (.int z123), .val (.int z124), .val (.int i1), .val (.int i2), .val (.int i3), .val (.double (9218868437227405312 : UInt64)), .second, .val (.int z137), .val (.int z140), .val (.int z143), .val (.int z146), .val (.ref b149), .val (.ref b153), .val (.ref b171), .val (.int z186), .val (.int z187), .val (.ref gt), .val (.int iR), .val (.int (3 : Int32)), .val (.int (0 : Int32)), .val (.int (0 : Int32)), .val (.int (0 : Int32))] [(.int (1 : Int32))])) _
                                refine XS.istore X191.here hx rfl (hb hby at_495) rfl (l' := #[.val (.int p0s), .val (.int p1s), .val (.int p2s), .val (.int p3s), .val (.int p4s), .val (.int z119), .val (.int dd), .val (.int z123), .val (.int z124), .val (.int i1), .val (.int i2), .val (.int i3), .val (.double (9218868437227405312 : UInt64)), .second, .val (.int z137), .val (.int z140), .val (.int z143), .val (.int z146), .val (.ref b149), .val (.ref b153), .val (.ref b171), .val (.int z186), .val (.int z187), .val (.ref gt), .val (.int iR), .val (.int (3 : Int32)), .val (.int (1 : Int32)), .val (.int (0 : Int32)), .val (.int (0 : Int32))]) rfl ?_
                                show Steps p.tables e below (T190.setTop (mkF m 497 #[.val (.int p0s), .val (.int p1s), .val (.int p2s), .val (.int p3s), .val (.int p4s), .val (.int z119), .val (.int dd), .val (.int z123), .val (.int z124), .val (.int i1), .val (.int i2), .val (.int i3), .val (.double (9218868437227405312 : UInt64)), .second, .val (.int z137), .val (.int z140), .val (.int z143), .val (.int z146), .val (.ref b149), .val (.ref b153), .val (.ref b171), .val (.int z186), .val (.int z187), .val (.ref gt), .val (.int iR), .val (.int (3 : Int32)), .val (.int (1 : Int32)), .val (.int (0 : Int32)), .val (.int (0 : Int32))] [])) _
                                refine XS.iconst X191.here hx rfl (hb hby at_497) ?_
                                show Steps p.tables e below (T190.setTop (mkF m 498 #[.val (.int p0s), .val (.int p1s), .val (.int p2s), .val (.int p3s), .val (.int p4s), .val (.int z119), .val (.int dd), .val (.int z123), .val (.int z124), .val (.int i1), .val (.int i2), .val (.int i3), .val (.double (9218868437227405312 : UInt64)), .second, .val (.int z137), .val (.int z140), .val (.int z143), .val (.int z146), .val (.ref b149), .val (.ref b153), .val (.ref b171), .val (.int z186), .val (.int z187), .val (.ref gt), .val (.int iR), .val (.int (3 : Int32)), .val (.int (1 : Int32)), .val (.int (0 : Int32)), .val (.int (0 : Int32))] [(.int (3 : Int32))])) _
                                refine XS.istore X191.here hx rfl (hb hby at_498) rfl (l' := #[.val (.int p0s), .val (.int p1s), .val (.int p2s), .val (.int p3s), .val (.int p4s), .val (.int z119), .val (.int dd), .val (.int z123), .val (.int z124), .val (.int i1), .val (.int i2), .val (.int i3), .val (.double (9218868437227405312 : UInt64)), .second, .val (.int z137), .val (.int z140), .val (.int z143), .val (.int z146), .val (.ref b149), .val (.ref b153), .val (.ref b171), .val (.int z186), .val (.int z187), .val (.ref gt), .val (.int iR), .val (.int (3 : Int32)), .val (.int (1 : Int32)), .val (.int (3 : Int32)), .val (.int (0 : Int32))]) rfl ?_
                                show Steps p.tables e below (T190.setTop (mkF m 500 #[.val (.int p0s), .val (.int p1s), .val (.int p2s), .val (.int p3s), .val (.int p4s), .val (.int z119), .val (.int dd), .val (.int z123), .val (.int z124), .val (.int i1), .val (.int i2), .val (.int i3), .val (.double (9218868437227405312 : UInt64)), .second, .val (.int z137), .val (.int z140), .val (.int z143), .val (.int z146), .val (.ref b149), .val (.ref b153), .val (.ref b171), .val (.int z186), .val (.int z187), .val (.ref gt), .val (.int iR), .val (.int (3 : Int32)), .val (.int (1 : Int32)), .val (.int (3 : Int32)), .val (.int (0 : Int32))] [])) _
                                refine XS.goto X191.here hx rfl (pc0 := 500) (pc' := 532) rfl (hb hby at_500) (by decide) (by decide) ?_
                                exact kg_
                              exact J206 (3 : Int32) (1 : Int32) (3 : Int32) (0 : Int32) (by
                                    have z0 := own_eq32 hc204
                                    have z1 := own_ne32 hc256
                                    have z2 := own_ne32 hc259
                                    have z3 := own_ne32 hc262
                                    have z4 := own_ne32 hc268
                                    have z5 := own_eq32 hc271
                                    have l0 : (0 : Int32).toInt = 0 := rfl
                                    have l1 : (1 : Int32).toInt = 1 := rfl
                                    have l2 : (2 : Int32).toInt = 2 := rfl
                                    have l3 : (3 : Int32).toInt = 3 := rfl
                                    have l4 : (4 : Int32).toInt = 4 := rfl
                                    have u1 : z123.toInt = 0 ∨ z123.toInt = 1 := hp2
                                    have u2 : z124.toInt = 0 ∨ z124.toInt = 1 ∨ z124.toInt = 2 := hp3
                                    exact Or.inr (Or.inr (Or.inr (Or.inr (Or.inr (Or.inl ⟨by omega, by omega, by omega, by omega, by omega⟩)))))) r272
                            · have r273 : own_R p.tables e below F0 (T190.setTop (mkF m 505 #[.val (.int p0s), .val (.int p1s), .val (.int p2s), .val (.int p3s), .val (.int p4s), .val (.int z119), .val (.int dd), .val (.int z123), .val (.int z124), .val (.int i1), .val (.int i2), .val (.int i3), .val (.double (9218868437227405312 : UInt64)), .second, .val (.int z137), .val (.int z140), .val (.int z143), .val (.int z146), .val (.ref b149), .val (.ref b153), .val (.ref b171), .val (.int z186), .val (.int z187), .val (.ref gt), .val (.int iR), .unset, .val (.int (0 : Int32)), .val (.int (0 : Int32)), .val (.int (0 : Int32))] [(.int z123)])) := fun tg_ kg_ => by
                                refine r270 tg_ ?_
                                show Steps p.tables e below (T190.setTop (mkF m 488 #[.val (.int p0s), .val (.int p1s), .val (.int p2s), .val (.int p3s), .val (.int p4s), .val (.int z119), .val (.int dd), .val (.int z123), .val (.int z124), .val (.int i1), .val (.int i2), .val (.int i3), .val (.double (9218868437227405312 : UInt64)), .second, .val (.int z137), .val (.int z140), .val (.int z143), .val (.int z146), .val (.ref b149), .val (.ref b153), .val (.ref b171), .val (.int z186), .val (.int z187), .val (.ref gt), .val (.int iR), .unset, .val (.int (0 : Int32)), .val (.int (0 : Int32)), .val (.int (0 : Int32))] [(.int (1 : Int32)), (.int z124)])) _
                                refine XS.icmpYes X191.here hx rfl (pc0 := 488) (pc' := 503) rfl (hb hby at_488) rfl (feq hc271).2 (by decide) (by decide) ?_
                                show Steps p.tables e below (T190.setTop (mkF m 503 #[.val (.int p0s), .val (.int p1s), .val (.int p2s), .val (.int p3s), .val (.int p4s), .val (.int z119), .val (.int dd), .val (.int z123), .val (.int z124), .val (.int i1), .val (.int i2), .val (.int i3), .val (.double (9218868437227405312 : UInt64)), .second, .val (.int z137), .val (.int z140), .val (.int z143), .val (.int z146), .val (.ref b149), .val (.ref b153), .val (.ref b171), .val (.int z186), .val (.int z187), .val (.ref gt), .val (.int iR), .unset, .val (.int (0 : Int32)), .val (.int (0 : Int32)), .val (.int (0 : Int32))] [])) _
                                refine XS.iload X191.here hx rfl (hb hby at_503) rfl ?_
                                exact kg_
                              by_cases hc274 : z123 = (0 : Int32)
                              · have r275 : own_R p.tables e below F0 (T190.setTop (mkF m 532 #[.val (.int p0s), .val (.int p1s), .val (.int p2s), .val (.int p3s), .val (.int p4s), .val (.int z119), .val (.int dd), .val (.int z123), .val (.int z124), .val (.int i1), .val (.int i2), .val (.int i3), .val (.double (9218868437227405312 : UInt64)), .second, .val (.int z137), .val (.int z140), .val (.int z143), .val (.int z146), .val (.ref b149), .val (.ref b153), .val (.ref b171), .val (.int z186), .val (.int z187), .val (.ref gt), .val (.int iR), .val (.int (3 : Int32)), .val (.int (2 : Int32)), .val (.int (3 : Int32)), .val (.int (0 : Int32))] [])) := fun tg_ kg_ => by
                                  refine r273 tg_ ?_
                                  show Steps p.tables e below (T190.setTop (mkF m 505 #[.val (.int p0s), .val (.int p1s), .val (.int p2s), .val (.int p3s), .val (.int p4s), .val (.int z119), .val (.int dd), .val (.int z123), .val (.int z124), .val (.int i1), .val (.int i2), .val (.int i3), .val (.double (9218868437227405312 : UInt64)), .second, .val (.int z137), .val (.int z140), .val (.int z143), .val (.int z146), .val (.ref b149), .val (.ref b153), .val (.ref b171), .val (.int z186), .val (.int z187), .val (.ref gt), .val (.int iR), .unset, .val (.int (0 : Int32)), .val (.int (0 : Int32)), .val (.int (0 : Int32))] [(.int z123)])) _
                                  refine XS.ifNo X191.here hx rfl (hb hby at_505) rfl ((if0 _ _).trans (teq hc274).2) ?_
                                  show Steps p.tables e below (T190.setTop (mkF m 508 #[.val (.int p0s), .val (.int p1s), .val (.int p2s), .val (.int p3s), .val (.int p4s), .val (.int z119), .val (.int dd), .val (.int z123), .val (.int z124), .val (.int i1), .val (.int i2), .val (.int i3), .val (.double (9218868437227405312 : UInt64)), .second, .val (.int z137), .val (.int z140), .val (.int z143), .val (.int z146), .val (.ref b149), .val (.ref b153), .val (.ref b171), .val (.int z186), .val (.int z187), .val (.ref gt), .val (.int iR), .unset, .val (.int (0 : Int32)), .val (.int (0 : Int32)), .val (.int (0 : Int32))] [])) _
                                  refine XS.iconst X191.here hx rfl (hb hby at_508) ?_
                                  show Steps p.tables e below (T190.setTop (mkF m 509 #[.val (.int p0s), .val (.int p1s), .val (.int p2s), .val (.int p3s), .val (.int p4s), .val (.int z119), .val (.int dd), .val (.int z123), .val (.int z124), .val (.int i1), .val (.int i2), .val (.int i3), .val (.double (9218868437227405312 : UInt64)), .second, .val (.int z137), .val (.int z140), .val (.int z143), .val (.int z146), .val (.ref b149), .val (.ref b153), .val (.ref b171), .val (.int z186), .val (.int z187), .val (.ref gt), .val (.int iR), .unset, .val (.int (0 : Int32)), .val (.int (0 : Int32)), .val (.int (0 : Int32))] [(.int (3 : Int32))])) _
                                  refine XS.istore X191.here hx rfl (hb hby at_509) rfl (l' := #[.val (.int p0s), .val (.int p1s), .val (.int p2s), .val (.int p3s), .val (.int p4s), .val (.int z119), .val (.int dd), .val (.int z123), .val (.int z124), .val (.int i1), .val (.int i2), .val (.int i3), .val (.double (9218868437227405312 : UInt64)), .second, .val (.int z137), .val (.int z140), .val (.int z143), .val (.int z146), .val (.ref b149), .val (.ref b153), .val (.ref b171), .val (.int z186), .val (.int z187), .val (.ref gt), .val (.int iR), .val (.int (3 : Int32)), .val (.int (0 : Int32)), .val (.int (0 : Int32)), .val (.int (0 : Int32))]) rfl ?_
                                  show Steps p.tables e below (T190.setTop (mkF m 511 #[.val (.int p0s), .val (.int p1s), .val (.int p2s), .val (.int p3s), .val (.int p4s), .val (.int z119), .val (.int dd), .val (.int z123), .val (.int z124), .val (.int i1), .val (.int i2), .val (.int i3), .val (.double (9218868437227405312 : UInt64)), .second, .val (.int z137), .val (.int z140), .val (.int z143), .val (.int z146), .val (.ref b149), .val (.ref b153), .val (.ref b171), .val (.int z186), .val (.int z187), .val (.ref gt), .val (.int iR), .val (.int (3 : Int32)), .val (.int (0 : Int32)), .val (.int (0 : Int32)), .val (.int (0 : Int32))] [])) _
                                  refine XS.iconst X191.here hx rfl (hb hby at_511) ?_
                                  show Steps p.tables e below (T190.setTop (mkF m 512 #[.val (.int p0s), .val (.int p1s), .val (.int p2s), .val (.int p3s), .val (.int p4s), .val (.int z119), .val (.int dd), .val (.int z123), .val (.int z124), .val (.int i1), .val (.int i2), .val (.int i3), .val (.double (9218868437227405312 : UInt64)), .second, .val (.int z137), .val (.int z140), .val (.int z143), .val (.int z146), .val (.ref b149), .val (.ref b153), .val (.ref b171), .val (.int z186), .val (.int z187), .val (.ref gt), .val (.int iR), .val (.int (3 : Int32)), .val (.int (0 : Int32)), .val (.int (0 : Int32)), .val (.int (0 : Int32))] [(.int (2 : Int32))])) _
                                  refine XS.istore X191.here hx rfl (hb hby at_512) rfl (l' := #[.val (.int p0s), .val (.int p1s), .val (.int p2s), .val (.int p3s), .val (.int p4s), .val (.int z119), .val (.int dd), .val (.int z123), .val (.int z124), .val (.int i1), .val (.int i2), .val (.int i3), .val (.double (9218868437227405312 : UInt64)), .second, .val (.int z137), .val (.int z140), .val (.int z143), .val (.int z146), .val (.ref b149), .val (.ref b153), .val (.ref b171), .val (.int z186), .val (.int z187), .val (.ref gt), .val (.int iR), .val (.int (3 : Int32)), .val (.int (2 : Int32)), .val (.int (0 : Int32)), .val (.int (0 : Int32))]) rfl ?_
                                  show Steps p.tables e below (T190.setTop (mkF m 514 #[.val (.int p0s), .val (.int p1s), .val (.int p2s), .val (.int p3s), .val (.int p4s), .val (.int z119), .val (.int dd), .val (.int z123), .val (.int z124), .val (.int i1), .val (.int i2), .val (.int i3), .val (.double (9218868437227405312 : UInt64)), .second, .val (.int z137), .val (.int z140), .val (.int z143), .val (.int z146), .val (.ref b149), .val (.ref b153), .val (.ref b171), .val (.int z186), .val (.int z187), .val (.ref gt), .val (.int iR), .val (.int (3 : Int32)), .val (.int (2 : Int32)), .val (.int (0 : Int32)), .val (.int (0 : Int32))] [])) _
                                  refine XS.iconst X191.here hx rfl (hb hby at_514) ?_
                                  show Steps p.tables e below (T190.setTop (mkF m 515 #[.val (.int p0s), .val (.int p1s), .val (.int p2s), .val (.int p3s), .val (.int p4s), .val (.int z119), .val (.int dd), .val (.int z123), .val (.int z124), .val (.int i1), .val (.int i2), .val (.int i3), .val (.double (9218868437227405312 : UInt64)), .second, .val (.int z137), .val (.int z140), .val (.int z143), .val (.int z146), .val (.ref b149), .val (.ref b153), .val (.ref b171), .val (.int z186), .val (.int z187), .val (.ref gt), .val (.int iR), .val (.int (3 : Int32)), .val (.int (2 : Int32)), .val (.int (0 : Int32)), .val (.int (0 : Int32))] [(.int (3 : Int32))])) _
                                  refine XS.istore X191.here hx rfl (hb hby at_515) rfl (l' := #[.val (.int p0s), .val (.int p1s), .val (.int p2s), .val (.int p3s), .val (.int p4s), .val (.int z119), .val (.int dd), .val (.int z123), .val (.int z124), .val (.int i1), .val (.int i2), .val (.int i3), .val (.double (9218868437227405312 : UInt64)), .second, .val (.int z137), .val (.int z140), .val (.int z143), .val (.int z146), .val (.ref b149), .val (.ref b153), .val (.ref b171), .val (.int z186), .val (.int z187), .val (.ref gt), .val (.int iR), .val (.int (3 : Int32)), .val (.int (2 : Int32)), .val (.int (3 : Int32)), .val (.int (0 : Int32))]) rfl ?_
                                  show Steps p.tables e below (T190.setTop (mkF m 517 #[.val (.int p0s), .val (.int p1s), .val (.int p2s), .val (.int p3s), .val (.int p4s), .val (.int z119), .val (.int dd), .val (.int z123), .val (.int z124), .val (.int i1), .val (.int i2), .val (.int i3), .val (.double (9218868437227405312 : UInt64)), .second, .val (.int z137), .val (.int z140), .val (.int z143), .val (.int z146), .val (.ref b149), .val (.ref b153), .val (.ref b171), .val (.int z186), .val (.int z187), .val (.ref gt), .val (.int iR), .val (.int (3 : Int32)), .val (.int (2 : Int32)), .val (.int (3 : Int32)), .val (.int (0 : Int32))] [])) _
                                  refine XS.goto X191.here hx rfl (pc0 := 517) (pc' := 532) rfl (hb hby at_517) (by decide) (by decide) ?_
                                  exact kg_
                                exact J206 (3 : Int32) (2 : Int32) (3 : Int32) (0 : Int32) (by
                                      have z0 := own_eq32 hc204
                                      have z1 := own_ne32 hc256
                                      have z2 := own_ne32 hc259
                                      have z3 := own_ne32 hc262
                                      have z4 := own_ne32 hc268
                                      have z5 := own_ne32 hc271
                                      have z6 := own_eq32 hc274
                                      have l0 : (0 : Int32).toInt = 0 := rfl
                                      have l1 : (1 : Int32).toInt = 1 := rfl
                                      have l2 : (2 : Int32).toInt = 2 := rfl
                                      have l3 : (3 : Int32).toInt = 3 := rfl
                                      have l4 : (4 : Int32).toInt = 4 := rfl
                                      have u1 : z123.toInt = 0 ∨ z123.toInt = 1 := hp2
                                      have u2 : z124.toInt = 0 ∨ z124.toInt = 1 ∨ z124.toInt = 2 := hp3
                                      exact Or.inr (Or.inr (Or.inr (Or.inr (Or.inr (Or.inr (Or.inl ⟨by omega, by omega, by omega, by omega, by omega, by omega⟩))))))) r275
                              · have r276 : own_R p.tables e below F0 (T190.setTop (mkF m 532 #[.val (.int p0s), .val (.int p1s), .val (.int p2s), .val (.int p3s), .val (.int p4s), .val (.int z119), .val (.int dd), .val (.int z123), .val (.int z124), .val (.int i1), .val (.int i2), .val (.int i3), .val (.double (9218868437227405312 : UInt64)), .second, .val (.int z137), .val (.int z140), .val (.int z143), .val (.int z146), .val (.ref b149), .val (.ref b153), .val (.ref b171), .val (.int z186), .val (.int z187), .val (.ref gt), .val (.int iR), .val (.int (4 : Int32)), .val (.int (1 : Int32)), .val (.int (2 : Int32)), .val (.int (3 : Int32))] [])) := fun tg_ kg_ => by
                                  refine r273 tg_ ?_
                                  show Steps p.tables e below (T190.setTop (mkF m 505 #[.val (.int p0s), .val (.int p1s), .val (.int p2s), .val (.int p3s), .val (.int p4s), .val (.int z119), .val (.int dd), .val (.int z123), .val (.int z124), .val (.int i1), .val (.int i2), .val (.int i3), .val (.double (9218868437227405312 : UInt64)), .second, .val (.int z137), .val (.int z140), .val (.int z143), .val (.int z146), .val (.ref b149), .val (.ref b153), .val (.ref b171), .val (.int z186), .val (.int z187), .val (.ref gt), .val (.int iR), .unset, .val (.int (0 : Int32)), .val (.int (0 : Int32)), .val (.int (0 : Int32))] [(.int z123)])) _
                                  refine XS.ifYes X191.here hx rfl (pc0 := 505) (pc' := 520) rfl (hb hby at_505) rfl ((if0 _ _).trans (feq hc274).2) (by decide) (by decide) ?_
                                  show Steps p.tables e below (T190.setTop (mkF m 520 #[.val (.int p0s), .val (.int p1s), .val (.int p2s), .val (.int p3s), .val (.int p4s), .val (.int z119), .val (.int dd), .val (.int z123), .val (.int z124), .val (.int i1), .val (.int i2), .val (.int i3), .val (.double (9218868437227405312 : UInt64)), .second, .val (.int z137), .val (.int z140), .val (.int z143), .val (.int z146), .val (.ref b149), .val (.ref b153), .val (.ref b171), .val (.int z186), .val (.int z187), .val (.ref gt), .val (.int iR), .unset, .val (.int (0 : Int32)), .val (.int (0 : Int32)), .val (.int (0 : Int32))] [])) _
                                  refine XS.iconst X191.here hx rfl (hb hby at_520) ?_
                                  show Steps p.tables e below (T190.setTop (mkF m 521 #[.val (.int p0s), .val (.int p1s), .val (.int p2s), .val (.int p3s), .val (.int p4s), .val (.int z119), .val (.int dd), .val (.int z123), .val (.int z124), .val (.int i1), .val (.int i2), .val (.int i3), .val (.double (9218868437227405312 : UInt64)), .second, .val (.int z137), .val (.int z140), .val (.int z143), .val (.int z146), .val (.ref b149), .val (.ref b153), .val (.ref b171), .val (.int z186), .val (.int z187), .val (.ref gt), .val (.int iR), .unset, .val (.int (0 : Int32)), .val (.int (0 : Int32)), .val (.int (0 : Int32))] [(.int (4 : Int32))])) _
                                  refine XS.istore X191.here hx rfl (hb hby at_521) rfl (l' := #[.val (.int p0s), .val (.int p1s), .val (.int p2s), .val (.int p3s), .val (.int p4s), .val (.int z119), .val (.int dd), .val (.int z123), .val (.int z124), .val (.int i1), .val (.int i2), .val (.int i3), .val (.double (9218868437227405312 : UInt64)), .second, .val (.int z137), .val (.int z140), .val (.int z143), .val (.int z146), .val (.ref b149), .val (.ref b153), .val (.ref b171), .val (.int z186), .val (.int z187), .val (.ref gt), .val (.int iR), .val (.int (4 : Int32)), .val (.int (0 : Int32)), .val (.int (0 : Int32)), .val (.int (0 : Int32))]) rfl ?_
                                  show Steps p.tables e below (T190.setTop (mkF m 523 #[.val (.int p0s), .val (.int p1s), .val (.int p2s), .val (.int p3s), .val (.int p4s), .val (.int z119), .val (.int dd), .val (.int z123), .val (.int z124), .val (.int i1), .val (.int i2), .val (.int i3), .val (.double (9218868437227405312 : UInt64)), .second, .val (.int z137), .val (.int z140), .val (.int z143), .val (.int z146), .val (.ref b149), .val (.ref b153), .val (.ref b171), .val (.int z186), .val (.int z187), .val (.ref gt), .val (.int iR), .val (.int (4 : Int32)), .val (.int (0 : Int32)), .val (.int (0 : Int32)), .val (.int (0 : Int32))] [])) _
                                  refine XS.iconst X191.here hx rfl (hb hby at_523) ?_
                                  show Steps p.tables e below (T190.setTop (mkF m 524 #[.val (.int p0s), .val (.int p1s), .val (.int p2s), .val (.int p3s), .val (.int p4s), .val (.int z119), .val (.int dd), .val (.int z123), .val (.int z124), .val (.int i1), .val (.int i2), .val (.int i3), .val (.double (9218868437227405312 : UInt64)), .second, .val (.int z137), .val (.int z140), .val (.int z143), .val (.int z146), .val (.ref b149), .val (.ref b153), .val (.ref b171), .val (.int z186), .val (.int z187), .val (.ref gt), .val (.int iR), .val (.int (4 : Int32)), .val (.int (0 : Int32)), .val (.int (0 : Int32)), .val (.int (0 : Int32))] [(.int (1 : Int32))])) _
                                  refine XS.istore X191.here hx rfl (hb hby at_524) rfl (l' := #[.val (.int p0s), .val (.int p1s), .val (.int p2s), .val (.int p3s), .val (.int p4s), .val (.int z119), .val (.int dd), .val (.int z123), .val (.int z124), .val (.int i1), .val (.int i2), .val (.int i3), .val (.double (9218868437227405312 : UInt64)), .second, .val (.int z137), .val (.int z140), .val (.int z143), .val (.int z146), .val (.ref b149), .val (.ref b153), .val (.ref b171), .val (.int z186), .val (.int z187), .val (.ref gt), .val (.int iR), .val (.int (4 : Int32)), .val (.int (1 : Int32)), .val (.int (0 : Int32)), .val (.int (0 : Int32))]) rfl ?_
                                  show Steps p.tables e below (T190.setTop (mkF m 526 #[.val (.int p0s), .val (.int p1s), .val (.int p2s), .val (.int p3s), .val (.int p4s), .val (.int z119), .val (.int dd), .val (.int z123), .val (.int z124), .val (.int i1), .val (.int i2), .val (.int i3), .val (.double (9218868437227405312 : UInt64)), .second, .val (.int z137), .val (.int z140), .val (.int z143), .val (.int z146), .val (.ref b149), .val (.ref b153), .val (.ref b171), .val (.int z186), .val (.int z187), .val (.ref gt), .val (.int iR), .val (.int (4 : Int32)), .val (.int (1 : Int32)), .val (.int (0 : Int32)), .val (.int (0 : Int32))] [])) _
                                  refine XS.iconst X191.here hx rfl (hb hby at_526) ?_
                                  show Steps p.tables e below (T190.setTop (mkF m 527 #[.val (.int p0s), .val (.int p1s), .val (.int p2s), .val (.int p3s), .val (.int p4s), .val (.int z119), .val (.int dd), .val (.int z123), .val (.int z124), .val (.int i1), .val (.int i2), .val (.int i3), .val (.double (9218868437227405312 : UInt64)), .second, .val (.int z137), .val (.int z140), .val (.int z143), .val (.int z146), .val (.ref b149), .val (.ref b153), .val (.ref b171), .val (.int z186), .val (.int z187), .val (.ref gt), .val (.int iR), .val (.int (4 : Int32)), .val (.int (1 : Int32)), .val (.int (0 : Int32)), .val (.int (0 : Int32))] [(.int (2 : Int32))])) _
                                  refine XS.istore X191.here hx rfl (hb hby at_527) rfl (l' := #[.val (.int p0s), .val (.int p1s), .val (.int p2s), .val (.int p3s), .val (.int p4s), .val (.int z119), .val (.int dd), .val (.int z123), .val (.int z124), .val (.int i1), .val (.int i2), .val (.int i3), .val (.double (9218868437227405312 : UInt64)), .second, .val (.int z137), .val (.int z140), .val (.int z143), .val (.int z146), .val (.ref b149), .val (.ref b153), .val (.ref b171), .val (.int z186), .val (.int z187), .val (.ref gt), .val (.int iR), .val (.int (4 : Int32)), .val (.int (1 : Int32)), .val (.int (2 : Int32)), .val (.int (0 : Int32))]) rfl ?_
                                  show Steps p.tables e below (T190.setTop (mkF m 529 #[.val (.int p0s), .val (.int p1s), .val (.int p2s), .val (.int p3s), .val (.int p4s), .val (.int z119), .val (.int dd), .val (.int z123), .val (.int z124), .val (.int i1), .val (.int i2), .val (.int i3), .val (.double (9218868437227405312 : UInt64)), .second, .val (.int z137), .val (.int z140), .val (.int z143), .val (.int z146), .val (.ref b149), .val (.ref b153), .val (.ref b171), .val (.int z186), .val (.int z187), .val (.ref gt), .val (.int iR), .val (.int (4 : Int32)), .val (.int (1 : Int32)), .val (.int (2 : Int32)), .val (.int (0 : Int32))] [])) _
                                  refine XS.iconst X191.here hx rfl (hb hby at_529) ?_
                                  show Steps p.tables e below (T190.setTop (mkF m 530 #[.val (.int p0s), .val (.int p1s), .val (.int p2s), .val (.int p3s), .val (.int p4s), .val (.int z119), .val (.int dd), .val (.int z123), .val (.int z124), .val (.int i1), .val (.int i2), .val (.int i3), .val (.double (9218868437227405312 : UInt64)), .second, .val (.int z137), .val (.int z140), .val (.int z143), .val (.int z146), .val (.ref b149), .val (.ref b153), .val (.ref b171), .val (.int z186), .val (.int z187), .val (.ref gt), .val (.int iR), .val (.int (4 : Int32)), .val (.int (1 : Int32)), .val (.int (2 : Int32)), .val (.int (0 : Int32))] [(.int (3 : Int32))])) _
                                  refine XS.istore X191.here hx rfl (hb hby at_530) rfl (l' := #[.val (.int p0s), .val (.int p1s), .val (.int p2s), .val (.int p3s), .val (.int p4s), .val (.int z119), .val (.int dd), .val (.int z123), .val (.int z124), .val (.int i1), .val (.int i2), .val (.int i3), .val (.double (9218868437227405312 : UInt64)), .second, .val (.int z137), .val (.int z140), .val (.int z143), .val (.int z146), .val (.ref b149), .val (.ref b153), .val (.ref b171), .val (.int z186), .val (.int z187), .val (.ref gt), .val (.int iR), .val (.int (4 : Int32)), .val (.int (1 : Int32)), .val (.int (2 : Int32)), .val (.int (3 : Int32))]) rfl ?_
                                  exact kg_
                                exact J206 (4 : Int32) (1 : Int32) (2 : Int32) (3 : Int32) (by
                                      have z0 := own_eq32 hc204
                                      have z1 := own_ne32 hc256
                                      have z2 := own_ne32 hc259
                                      have z3 := own_ne32 hc262
                                      have z4 := own_ne32 hc268
                                      have z5 := own_ne32 hc271
                                      have z6 := own_ne32 hc274
                                      have l0 : (0 : Int32).toInt = 0 := rfl
                                      have l1 : (1 : Int32).toInt = 1 := rfl
                                      have l2 : (2 : Int32).toInt = 2 := rfl
                                      have l3 : (3 : Int32).toInt = 3 := rfl
                                      have l4 : (4 : Int32).toInt = 4 := rfl
                                      have u1 : z123.toInt = 0 ∨ z123.toInt = 1 := hp2
                                      have u2 : z124.toInt = 0 ∨ z124.toInt = 1 ∨ z124.toInt = 2 := hp3
                                      exact Or.inr (Or.inr (Or.inr (Or.inr (Or.inr (Or.inr (Or.inr (⟨by omega, by omega, by omega, by omega, by omega, by omega, by omega⟩)))))))) r276
                  · have r278 : own_R p.tables e below F0 (T190.setTop (mkF m 395 #[.val (.int p0s), .val (.int p1s), .val (.int p2s), .val (.int p3s), .val (.int p4s), .val (.int z119), .val (.int dd), .val (.int z123), .val (.int z124), .val (.int i1), .val (.int i2), .val (.int i3), .val (.double (9218868437227405312 : UInt64)), .second, .val (.int z137), .val (.int z140), .val (.int z143), .val (.int z146), .val (.ref b149), .val (.ref b153), .val (.ref b171), .val (.int z186), .val (.int z187), .val (.ref gt), .val (.int iR), .unset, .unset, .unset, .unset] [(.int (Int32.ofNat Nl))])) := fun tg_ kg_ => by
                      refine r203 tg_ ?_
                      show Steps p.tables e below (T190.setTop (mkF m 389 #[.val (.int p0s), .val (.int p1s), .val (.int p2s), .val (.int p3s), .val (.int p4s), .val (.int z119), .val (.int dd), .val (.int z123), .val (.int z124), .val (.int i1), .val (.int i2), .val (.int i3), .val (.double (9218868437227405312 : UInt64)), .second, .val (.int z137), .val (.int z140), .val (.int z143), .val (.int z146), .val (.ref b149), .val (.ref b153), .val (.ref b171), .val (.int z186), .val (.int z187), .val (.ref gt), .val (.int iR), .unset, .unset, .unset, .unset] [(.int iR)])) _
                      refine XS.ifNo X191.here hx rfl (hb hby at_389) rfl ((if0 _ _).trans (feq hc204).1) ?_
                      show Steps p.tables e below (T190.setTop (mkF m 392 #[.val (.int p0s), .val (.int p1s), .val (.int p2s), .val (.int p3s), .val (.int p4s), .val (.int z119), .val (.int dd), .val (.int z123), .val (.int z124), .val (.int i1), .val (.int i2), .val (.int i3), .val (.double (9218868437227405312 : UInt64)), .second, .val (.int z137), .val (.int z140), .val (.int z143), .val (.int z146), .val (.ref b149), .val (.ref b153), .val (.ref b171), .val (.int z186), .val (.int z187), .val (.ref gt), .val (.int iR), .unset, .unset, .unset, .unset] [])) _
                      refine XS.aload X191.here hx rfl (hb hby at_392) rfl rfl ?_
                      show Steps p.tables e below (T190.setTop (mkF m 394 #[.val (.int p0s), .val (.int p1s), .val (.int p2s), .val (.int p3s), .val (.int p4s), .val (.int z119), .val (.int dd), .val (.int z123), .val (.int z124), .val (.int i1), .val (.int i2), .val (.int i3), .val (.double (9218868437227405312 : UInt64)), .second, .val (.int z137), .val (.int z140), .val (.int z143), .val (.int z146), .val (.ref b149), .val (.ref b153), .val (.ref b171), .val (.int z186), .val (.int z187), .val (.ref gt), .val (.int iR), .unset, .unset, .unset, .unset] [(.ref gt)])) _
                      refine own_alen X191 hx hZ e193 F198 (Int32.ofNat Nl) rfl (g := (mkF m 394 #[.val (.int p0s), .val (.int p1s), .val (.int p2s), .val (.int p3s), .val (.int p4s), .val (.int z119), .val (.int dd), .val (.int z123), .val (.int z124), .val (.int i1), .val (.int i2), .val (.int i3), .val (.double (9218868437227405312 : UInt64)), .second, .val (.int z137), .val (.int z140), .val (.int z143), .val (.int z146), .val (.ref b149), .val (.ref b153), .val (.ref b171), .val (.int z186), .val (.int z187), .val (.ref gt), .val (.int iR), .unset, .unset, .unset, .unset] [(.ref gt)])) rfl rfl (hb hby at_394) _ ?_
                      exact kg_
                    have hc277 : (Int32.ofNat Nl) = (0 : Int32) := (Int32.toInt_inj.mp (hNI.trans (own_len0 hiR hO (show ¬ iR.toInt = 0 from own_ne32 hc204))))
                    have r279 : own_R p.tables e below F0 (T190.setTop (mkF m 403 #[.val (.int p0s), .val (.int p1s), .val (.int p2s), .val (.int p3s), .val (.int p4s), .val (.int z119), .val (.int dd), .val (.int z123), .val (.int z124), .val (.int i1), .val (.int i2), .val (.int i3), .val (.double (9218868437227405312 : UInt64)), .second, .val (.int z137), .val (.int z140), .val (.int z143), .val (.int z146), .val (.ref b149), .val (.ref b153), .val (.ref b171), .val (.int z186), .val (.int z187), .val (.ref gt), .val (.int iR), .unset, .unset, .unset, .unset] [(.int (1 : Int32))])) := fun tg_ kg_ => by
                      refine r278 tg_ ?_
                      show Steps p.tables e below (T190.setTop (mkF m 395 #[.val (.int p0s), .val (.int p1s), .val (.int p2s), .val (.int p3s), .val (.int p4s), .val (.int z119), .val (.int dd), .val (.int z123), .val (.int z124), .val (.int i1), .val (.int i2), .val (.int i3), .val (.double (9218868437227405312 : UInt64)), .second, .val (.int z137), .val (.int z140), .val (.int z143), .val (.int z146), .val (.ref b149), .val (.ref b153), .val (.ref b171), .val (.int z186), .val (.int z187), .val (.ref gt), .val (.int iR), .unset, .unset, .unset, .unset] [(.int (Int32.ofNat Nl))])) _
                      refine XS.ifNo X191.here hx rfl (hb hby at_395) rfl ((if0 _ _).trans (teq hc277).2) ?_
                      show Steps p.tables e below (T190.setTop (mkF m 398 #[.val (.int p0s), .val (.int p1s), .val (.int p2s), .val (.int p3s), .val (.int p4s), .val (.int z119), .val (.int dd), .val (.int z123), .val (.int z124), .val (.int i1), .val (.int i2), .val (.int i3), .val (.double (9218868437227405312 : UInt64)), .second, .val (.int z137), .val (.int z140), .val (.int z143), .val (.int z146), .val (.ref b149), .val (.ref b153), .val (.ref b171), .val (.int z186), .val (.int z187), .val (.ref gt), .val (.int iR), .unset, .unset, .unset, .unset] [])) _
                      refine XS.iconst X191.here hx rfl (hb hby at_398) ?_
                      show Steps p.tables e below (T190.setTop (mkF m 399 #[.val (.int p0s), .val (.int p1s), .val (.int p2s), .val (.int p3s), .val (.int p4s), .val (.int z119), .val (.int dd), .val (.int z123), .val (.int z124), .val (.int i1), .val (.int i2), .val (.int i3), .val (.double (9218868437227405312 : UInt64)), .second, .val (.int z137), .val (.int z140), .val (.int z143), .val (.int z146), .val (.ref b149), .val (.ref b153), .val (.ref b171), .val (.int z186), .val (.int z187), .val (.ref gt), .val (.int iR), .unset, .unset, .unset, .unset] [(.int (1 : Int32))])) _
                      refine XS.goto X191.here hx rfl (pc0 := 399) (pc' := 403) rfl (hb hby at_399) (by decide) (by decide) ?_
                      exact kg_
                    refine hG (own_fin X191 hlk (some (.int (nar .boolean (1 : Int32)))) (own_hv Bd.returns) ?_ (by decide) (by decide) (fun fs hr => r279 _ (retN X191 hx (t := .boolean) Bd.returns (by simp) (hb hby at_403) hr)))
                    rw [e193]
                    exact ⟨rfl, N194⟩
                have r280 : own_R p.tables e below F0 (T190.setTop (mkF m 354 #[.val (.int p0s), .val (.int p1s), .val (.int p2s), .val (.int p3s), .val (.int p4s), .val (.int z119), .val (.int dd), .val (.int z123), .val (.int z124), .val (.int i1), .val (.int i2), .val (.int i3), .val (.double (9218868437227405312 : UInt64)), .second, .val (.int z137), .val (.int z140), .val (.int z143), .val (.int z146), .val (.ref b149), .val (.ref b153), .val (.ref b171), .val (.int z186), .val (.int z187), .val (.ref gt), .unset, .unset, .unset, .unset, .unset] [(.int (1 : Int32)), (.int z187)])) := fun tg_ kg_ => by
                  refine r200 tg_ ?_
                  show Steps p.tables e below (T190.setTop (mkF m 351 #[.val (.int p0s), .val (.int p1s), .val (.int p2s), .val (.int p3s), .val (.int p4s), .val (.int z119), .val (.int dd), .val (.int z123), .val (.int z124), .val (.int i1), .val (.int i2), .val (.int i3), .val (.double (9218868437227405312 : UInt64)), .second, .val (.int z137), .val (.int z140), .val (.int z143), .val (.int z146), .val (.ref b149), .val (.ref b153), .val (.ref b171), .val (.int z186), .val (.int z187), .val (.ref gt), .unset, .unset, .unset, .unset, .unset] [])) _
                  refine XS.iload X191.here hx rfl (hb hby at_351) rfl ?_
                  show Steps p.tables e below (T190.setTop (mkF m 353 #[.val (.int p0s), .val (.int p1s), .val (.int p2s), .val (.int p3s), .val (.int p4s), .val (.int z119), .val (.int dd), .val (.int z123), .val (.int z124), .val (.int i1), .val (.int i2), .val (.int i3), .val (.double (9218868437227405312 : UInt64)), .second, .val (.int z137), .val (.int z140), .val (.int z143), .val (.int z146), .val (.ref b149), .val (.ref b153), .val (.ref b171), .val (.int z186), .val (.int z187), .val (.ref gt), .unset, .unset, .unset, .unset, .unset] [(.int z187)])) _
                  refine XS.iconst X191.here hx rfl (hb hby at_353) ?_
                  exact kg_
                by_cases hc281 : z187 = (1 : Int32)
                · have r282 : own_R p.tables e below F0 (T190.setTop (mkF m 385 #[.val (.int p0s), .val (.int p1s), .val (.int p2s), .val (.int p3s), .val (.int p4s), .val (.int z119), .val (.int dd), .val (.int z123), .val (.int z124), .val (.int i1), .val (.int i2), .val (.int i3), .val (.double (9218868437227405312 : UInt64)), .second, .val (.int z137), .val (.int z140), .val (.int z143), .val (.int z146), .val (.ref b149), .val (.ref b153), .val (.ref b171), .val (.int z186), .val (.int z187), .val (.ref gt), .unset, .unset, .unset, .unset, .unset] [(.int i1)])) := fun tg_ kg_ => by
                    refine r280 tg_ ?_
                    show Steps p.tables e below (T190.setTop (mkF m 354 #[.val (.int p0s), .val (.int p1s), .val (.int p2s), .val (.int p3s), .val (.int p4s), .val (.int z119), .val (.int dd), .val (.int z123), .val (.int z124), .val (.int i1), .val (.int i2), .val (.int i3), .val (.double (9218868437227405312 : UInt64)), .second, .val (.int z137), .val (.int z140), .val (.int z143), .val (.int z146), .val (.ref b149), .val (.ref b153), .val (.ref b171), .val (.int z186), .val (.int z187), .val (.ref gt), .unset, .unset, .unset, .unset, .unset] [(.int (1 : Int32)), (.int z187)])) _
                    refine XS.icmpNo X191.here hx rfl (hb hby at_354) rfl (teq hc281).2 ?_
                    show Steps p.tables e below (T190.setTop (mkF m 357 #[.val (.int p0s), .val (.int p1s), .val (.int p2s), .val (.int p3s), .val (.int p4s), .val (.int z119), .val (.int dd), .val (.int z123), .val (.int z124), .val (.int i1), .val (.int i2), .val (.int i3), .val (.double (9218868437227405312 : UInt64)), .second, .val (.int z137), .val (.int z140), .val (.int z143), .val (.int z146), .val (.ref b149), .val (.ref b153), .val (.ref b171), .val (.int z186), .val (.int z187), .val (.ref gt), .unset, .unset, .unset, .unset, .unset] [])) _
                    refine XS.iload X191.here hx rfl (hb hby at_357) rfl ?_
                    show Steps p.tables e below (T190.setTop (mkF m 359 #[.val (.int p0s), .val (.int p1s), .val (.int p2s), .val (.int p3s), .val (.int p4s), .val (.int z119), .val (.int dd), .val (.int z123), .val (.int z124), .val (.int i1), .val (.int i2), .val (.int i3), .val (.double (9218868437227405312 : UInt64)), .second, .val (.int z137), .val (.int z140), .val (.int z143), .val (.int z146), .val (.ref b149), .val (.ref b153), .val (.ref b171), .val (.int z186), .val (.int z187), .val (.ref gt), .unset, .unset, .unset, .unset, .unset] [(.int i1)])) _
                    refine XS.goto X191.here hx rfl (pc0 := 359) (pc' := 385) rfl (hb hby at_359) (by decide) (by decide) ?_
                    exact kg_
                  exact J201 i1 (by
                        have z0 := own_eq32 hc281
                        have l0 : (0 : Int32).toInt = 0 := rfl
                        have l1 : (1 : Int32).toInt = 1 := rfl
                        have l2 : (2 : Int32).toInt = 2 := rfl
                        have l3 : (3 : Int32).toInt = 3 := rfl
                        show (z187.toInt = 0 → i1.toInt = 0) ∧ (z187.toInt = 1 → i1.toInt = i1.toInt) ∧ (z187.toInt = 2 → i1.toInt = i2.toInt) ∧ (z187.toInt = 3 → i1.toInt = i3.toInt)
                        refine ⟨fun q => ?_, fun q => ?_, fun q => ?_, fun q => ?_⟩ <;> first | rfl | (exfalso; omega) | omega) r282
                · have r283 : own_R p.tables e below F0 (T190.setTop (mkF m 365 #[.val (.int p0s), .val (.int p1s), .val (.int p2s), .val (.int p3s), .val (.int p4s), .val (.int z119), .val (.int dd), .val (.int z123), .val (.int z124), .val (.int i1), .val (.int i2), .val (.int i3), .val (.double (9218868437227405312 : UInt64)), .second, .val (.int z137), .val (.int z140), .val (.int z143), .val (.int z146), .val (.ref b149), .val (.ref b153), .val (.ref b171), .val (.int z186), .val (.int z187), .val (.ref gt), .unset, .unset, .unset, .unset, .unset] [(.int (2 : Int32)), (.int z187)])) := fun tg_ kg_ => by
                    refine r280 tg_ ?_
                    show Steps p.tables e below (T190.setTop (mkF m 354 #[.val (.int p0s), .val (.int p1s), .val (.int p2s), .val (.int p3s), .val (.int p4s), .val (.int z119), .val (.int dd), .val (.int z123), .val (.int z124), .val (.int i1), .val (.int i2), .val (.int i3), .val (.double (9218868437227405312 : UInt64)), .second, .val (.int z137), .val (.int z140), .val (.int z143), .val (.int z146), .val (.ref b149), .val (.ref b153), .val (.ref b171), .val (.int z186), .val (.int z187), .val (.ref gt), .unset, .unset, .unset, .unset, .unset] [(.int (1 : Int32)), (.int z187)])) _
                    refine XS.icmpYes X191.here hx rfl (pc0 := 354) (pc' := 362) rfl (hb hby at_354) rfl (feq hc281).2 (by decide) (by decide) ?_
                    show Steps p.tables e below (T190.setTop (mkF m 362 #[.val (.int p0s), .val (.int p1s), .val (.int p2s), .val (.int p3s), .val (.int p4s), .val (.int z119), .val (.int dd), .val (.int z123), .val (.int z124), .val (.int i1), .val (.int i2), .val (.int i3), .val (.double (9218868437227405312 : UInt64)), .second, .val (.int z137), .val (.int z140), .val (.int z143), .val (.int z146), .val (.ref b149), .val (.ref b153), .val (.ref b171), .val (.int z186), .val (.int z187), .val (.ref gt), .unset, .unset, .unset, .unset, .unset] [])) _
                    refine XS.iload X191.here hx rfl (hb hby at_362) rfl ?_
                    show Steps p.tables e below (T190.setTop (mkF m 364 #[.val (.int p0s), .val (.int p1s), .val (.int p2s), .val (.int p3s), .val (.int p4s), .val (.int z119), .val (.int dd), .val (.int z123), .val (.int z124), .val (.int i1), .val (.int i2), .val (.int i3), .val (.double (9218868437227405312 : UInt64)), .second, .val (.int z137), .val (.int z140), .val (.int z143), .val (.int z146), .val (.ref b149), .val (.ref b153), .val (.ref b171), .val (.int z186), .val (.int z187), .val (.ref gt), .unset, .unset, .unset, .unset, .unset] [(.int z187)])) _
                    refine XS.iconst X191.here hx rfl (hb hby at_364) ?_
                    exact kg_
                  by_cases hc284 : z187 = (2 : Int32)
                  · have r285 : own_R p.tables e below F0 (T190.setTop (mkF m 385 #[.val (.int p0s), .val (.int p1s), .val (.int p2s), .val (.int p3s), .val (.int p4s), .val (.int z119), .val (.int dd), .val (.int z123), .val (.int z124), .val (.int i1), .val (.int i2), .val (.int i3), .val (.double (9218868437227405312 : UInt64)), .second, .val (.int z137), .val (.int z140), .val (.int z143), .val (.int z146), .val (.ref b149), .val (.ref b153), .val (.ref b171), .val (.int z186), .val (.int z187), .val (.ref gt), .unset, .unset, .unset, .unset, .unset] [(.int i2)])) := fun tg_ kg_ => by
                      refine r283 tg_ ?_
                      show Steps p.tables e below (T190.setTop (mkF m 365 #[.val (.int p0s), .val (.int p1s), .val (.int p2s), .val (.int p3s), .val (.int p4s), .val (.int z119), .val (.int dd), .val (.int z123), .val (.int z124), .val (.int i1), .val (.int i2), .val (.int i3), .val (.double (9218868437227405312 : UInt64)), .second, .val (.int z137), .val (.int z140), .val (.int z143), .val (.int z146), .val (.ref b149), .val (.ref b153), .val (.ref b171), .val (.int z186), .val (.int z187), .val (.ref gt), .unset, .unset, .unset, .unset, .unset] [(.int (2 : Int32)), (.int z187)])) _
                      refine XS.icmpNo X191.here hx rfl (hb hby at_365) rfl (teq hc284).2 ?_
                      show Steps p.tables e below (T190.setTop (mkF m 368 #[.val (.int p0s), .val (.int p1s), .val (.int p2s), .val (.int p3s), .val (.int p4s), .val (.int z119), .val (.int dd), .val (.int z123), .val (.int z124), .val (.int i1), .val (.int i2), .val (.int i3), .val (.double (9218868437227405312 : UInt64)), .second, .val (.int z137), .val (.int z140), .val (.int z143), .val (.int z146), .val (.ref b149), .val (.ref b153), .val (.ref b171), .val (.int z186), .val (.int z187), .val (.ref gt), .unset, .unset, .unset, .unset, .unset] [])) _
                      refine XS.iload X191.here hx rfl (hb hby at_368) rfl ?_
                      show Steps p.tables e below (T190.setTop (mkF m 370 #[.val (.int p0s), .val (.int p1s), .val (.int p2s), .val (.int p3s), .val (.int p4s), .val (.int z119), .val (.int dd), .val (.int z123), .val (.int z124), .val (.int i1), .val (.int i2), .val (.int i3), .val (.double (9218868437227405312 : UInt64)), .second, .val (.int z137), .val (.int z140), .val (.int z143), .val (.int z146), .val (.ref b149), .val (.ref b153), .val (.ref b171), .val (.int z186), .val (.int z187), .val (.ref gt), .unset, .unset, .unset, .unset, .unset] [(.int i2)])) _
                      refine XS.goto X191.here hx rfl (pc0 := 370) (pc' := 385) rfl (hb hby at_370) (by decide) (by decide) ?_
                      exact kg_
                    exact J201 i2 (by
                          have z0 := own_ne32 hc281
                          have z1 := own_eq32 hc284
                          have l0 : (0 : Int32).toInt = 0 := rfl
                          have l1 : (1 : Int32).toInt = 1 := rfl
                          have l2 : (2 : Int32).toInt = 2 := rfl
                          have l3 : (3 : Int32).toInt = 3 := rfl
                          show (z187.toInt = 0 → i2.toInt = 0) ∧ (z187.toInt = 1 → i2.toInt = i1.toInt) ∧ (z187.toInt = 2 → i2.toInt = i2.toInt) ∧ (z187.toInt = 3 → i2.toInt = i3.toInt)
                          refine ⟨fun q => ?_, fun q => ?_, fun q => ?_, fun q => ?_⟩ <;> first | rfl | (exfalso; omega) | omega) r285
                  · have r286 : own_R p.tables e below F0 (T190.setTop (mkF m 376 #[.val (.int p0s), .val (.int p1s), .val (.int p2s), .val (.int p3s), .val (.int p4s), .val (.int z119), .val (.int dd), .val (.int z123), .val (.int z124), .val (.int i1), .val (.int i2), .val (.int i3), .val (.double (9218868437227405312 : UInt64)), .second, .val (.int z137), .val (.int z140), .val (.int z143), .val (.int z146), .val (.ref b149), .val (.ref b153), .val (.ref b171), .val (.int z186), .val (.int z187), .val (.ref gt), .unset, .unset, .unset, .unset, .unset] [(.int (3 : Int32)), (.int z187)])) := fun tg_ kg_ => by
                      refine r283 tg_ ?_
                      show Steps p.tables e below (T190.setTop (mkF m 365 #[.val (.int p0s), .val (.int p1s), .val (.int p2s), .val (.int p3s), .val (.int p4s), .val (.int z119), .val (.int dd), .val (.int z123), .val (.int z124), .val (.int i1), .val (.int i2), .val (.int i3), .val (.double (9218868437227405312 : UInt64)), .second, .val (.int z137), .val (.int z140), .val (.int z143), .val (.int z146), .val (.ref b149), .val (.ref b153), .val (.ref b171), .val (.int z186), .val (.int z187), .val (.ref gt), .unset, .unset, .unset, .unset, .unset] [(.int (2 : Int32)), (.int z187)])) _
                      refine XS.icmpYes X191.here hx rfl (pc0 := 365) (pc' := 373) rfl (hb hby at_365) rfl (feq hc284).2 (by decide) (by decide) ?_
                      show Steps p.tables e below (T190.setTop (mkF m 373 #[.val (.int p0s), .val (.int p1s), .val (.int p2s), .val (.int p3s), .val (.int p4s), .val (.int z119), .val (.int dd), .val (.int z123), .val (.int z124), .val (.int i1), .val (.int i2), .val (.int i3), .val (.double (9218868437227405312 : UInt64)), .second, .val (.int z137), .val (.int z140), .val (.int z143), .val (.int z146), .val (.ref b149), .val (.ref b153), .val (.ref b171), .val (.int z186), .val (.int z187), .val (.ref gt), .unset, .unset, .unset, .unset, .unset] [])) _
                      refine XS.iload X191.here hx rfl (hb hby at_373) rfl ?_
                      show Steps p.tables e below (T190.setTop (mkF m 375 #[.val (.int p0s), .val (.int p1s), .val (.int p2s), .val (.int p3s), .val (.int p4s), .val (.int z119), .val (.int dd), .val (.int z123), .val (.int z124), .val (.int i1), .val (.int i2), .val (.int i3), .val (.double (9218868437227405312 : UInt64)), .second, .val (.int z137), .val (.int z140), .val (.int z143), .val (.int z146), .val (.ref b149), .val (.ref b153), .val (.ref b171), .val (.int z186), .val (.int z187), .val (.ref gt), .unset, .unset, .unset, .unset, .unset] [(.int z187)])) _
                      refine XS.iconst X191.here hx rfl (hb hby at_375) ?_
                      exact kg_
                    by_cases hc287 : z187 = (3 : Int32)
                    · have r288 : own_R p.tables e below F0 (T190.setTop (mkF m 385 #[.val (.int p0s), .val (.int p1s), .val (.int p2s), .val (.int p3s), .val (.int p4s), .val (.int z119), .val (.int dd), .val (.int z123), .val (.int z124), .val (.int i1), .val (.int i2), .val (.int i3), .val (.double (9218868437227405312 : UInt64)), .second, .val (.int z137), .val (.int z140), .val (.int z143), .val (.int z146), .val (.ref b149), .val (.ref b153), .val (.ref b171), .val (.int z186), .val (.int z187), .val (.ref gt), .unset, .unset, .unset, .unset, .unset] [(.int i3)])) := fun tg_ kg_ => by
                        refine r286 tg_ ?_
                        show Steps p.tables e below (T190.setTop (mkF m 376 #[.val (.int p0s), .val (.int p1s), .val (.int p2s), .val (.int p3s), .val (.int p4s), .val (.int z119), .val (.int dd), .val (.int z123), .val (.int z124), .val (.int i1), .val (.int i2), .val (.int i3), .val (.double (9218868437227405312 : UInt64)), .second, .val (.int z137), .val (.int z140), .val (.int z143), .val (.int z146), .val (.ref b149), .val (.ref b153), .val (.ref b171), .val (.int z186), .val (.int z187), .val (.ref gt), .unset, .unset, .unset, .unset, .unset] [(.int (3 : Int32)), (.int z187)])) _
                        refine XS.icmpNo X191.here hx rfl (hb hby at_376) rfl (teq hc287).2 ?_
                        show Steps p.tables e below (T190.setTop (mkF m 379 #[.val (.int p0s), .val (.int p1s), .val (.int p2s), .val (.int p3s), .val (.int p4s), .val (.int z119), .val (.int dd), .val (.int z123), .val (.int z124), .val (.int i1), .val (.int i2), .val (.int i3), .val (.double (9218868437227405312 : UInt64)), .second, .val (.int z137), .val (.int z140), .val (.int z143), .val (.int z146), .val (.ref b149), .val (.ref b153), .val (.ref b171), .val (.int z186), .val (.int z187), .val (.ref gt), .unset, .unset, .unset, .unset, .unset] [])) _
                        refine XS.iload X191.here hx rfl (hb hby at_379) rfl ?_
                        show Steps p.tables e below (T190.setTop (mkF m 381 #[.val (.int p0s), .val (.int p1s), .val (.int p2s), .val (.int p3s), .val (.int p4s), .val (.int z119), .val (.int dd), .val (.int z123), .val (.int z124), .val (.int i1), .val (.int i2), .val (.int i3), .val (.double (9218868437227405312 : UInt64)), .second, .val (.int z137), .val (.int z140), .val (.int z143), .val (.int z146), .val (.ref b149), .val (.ref b153), .val (.ref b171), .val (.int z186), .val (.int z187), .val (.ref gt), .unset, .unset, .unset, .unset, .unset] [(.int i3)])) _
                        refine XS.goto X191.here hx rfl (pc0 := 381) (pc' := 385) rfl (hb hby at_381) (by decide) (by decide) ?_
                        exact kg_
                      exact J201 i3 (by
                            have z0 := own_ne32 hc281
                            have z1 := own_ne32 hc284
                            have z2 := own_eq32 hc287
                            have l0 : (0 : Int32).toInt = 0 := rfl
                            have l1 : (1 : Int32).toInt = 1 := rfl
                            have l2 : (2 : Int32).toInt = 2 := rfl
                            have l3 : (3 : Int32).toInt = 3 := rfl
                            show (z187.toInt = 0 → i3.toInt = 0) ∧ (z187.toInt = 1 → i3.toInt = i1.toInt) ∧ (z187.toInt = 2 → i3.toInt = i2.toInt) ∧ (z187.toInt = 3 → i3.toInt = i3.toInt)
                            refine ⟨fun q => ?_, fun q => ?_, fun q => ?_, fun q => ?_⟩ <;> first | rfl | (exfalso; omega) | omega) r288
                    · have r289 : own_R p.tables e below F0 (T190.setTop (mkF m 385 #[.val (.int p0s), .val (.int p1s), .val (.int p2s), .val (.int p3s), .val (.int p4s), .val (.int z119), .val (.int dd), .val (.int z123), .val (.int z124), .val (.int i1), .val (.int i2), .val (.int i3), .val (.double (9218868437227405312 : UInt64)), .second, .val (.int z137), .val (.int z140), .val (.int z143), .val (.int z146), .val (.ref b149), .val (.ref b153), .val (.ref b171), .val (.int z186), .val (.int z187), .val (.ref gt), .unset, .unset, .unset, .unset, .unset] [(.int (0 : Int32))])) := fun tg_ kg_ => by
                        refine r286 tg_ ?_
                        show Steps p.tables e below (T190.setTop (mkF m 376 #[.val (.int p0s), .val (.int p1s), .val (.int p2s), .val (.int p3s), .val (.int p4s), .val (.int z119), .val (.int dd), .val (.int z123), .val (.int z124), .val (.int i1), .val (.int i2), .val (.int i3), .val (.double (9218868437227405312 : UInt64)), .second, .val (.int z137), .val (.int z140), .val (.int z143), .val (.int z146), .val (.ref b149), .val (.ref b153), .val (.ref b171), .val (.int z186), .val (.int z187), .val (.ref gt), .unset, .unset, .unset, .unset, .unset] [(.int (3 : Int32)), (.int z187)])) _
                        refine XS.icmpYes X191.here hx rfl (pc0 := 376) (pc' := 384) rfl (hb hby at_376) rfl (feq hc287).2 (by decide) (by decide) ?_
                        show Steps p.tables e below (T190.setTop (mkF m 384 #[.val (.int p0s), .val (.int p1s), .val (.int p2s), .val (.int p3s), .val (.int p4s), .val (.int z119), .val (.int dd), .val (.int z123), .val (.int z124), .val (.int i1), .val (.int i2), .val (.int i3), .val (.double (9218868437227405312 : UInt64)), .second, .val (.int z137), .val (.int z140), .val (.int z143), .val (.int z146), .val (.ref b149), .val (.ref b153), .val (.ref b171), .val (.int z186), .val (.int z187), .val (.ref gt), .unset, .unset, .unset, .unset, .unset] [])) _
                        refine XS.iconst X191.here hx rfl (hb hby at_384) ?_
                        exact kg_
                      exact J201 (0 : Int32) (by
                            have z0 := own_ne32 hc281
                            have z1 := own_ne32 hc284
                            have z2 := own_ne32 hc287
                            have l0 : (0 : Int32).toInt = 0 := rfl
                            have l1 : (1 : Int32).toInt = 1 := rfl
                            have l2 : (2 : Int32).toInt = 2 := rfl
                            have l3 : (3 : Int32).toInt = 3 := rfl
                            show (z187.toInt = 0 → (0 : Int32).toInt = 0) ∧ (z187.toInt = 1 → (0 : Int32).toInt = i1.toInt) ∧ (z187.toInt = 2 → (0 : Int32).toInt = i2.toInt) ∧ (z187.toInt = 3 → (0 : Int32).toInt = i3.toInt)
                            refine ⟨fun q => ?_, fun q => ?_, fun q => ?_, fun q => ?_⟩ <;> first | rfl | (exfalso; omega) | omega) r289
              have r290 : own_R p.tables e below F0 (T181.setTop (mkF m 346 #[.val (.int p0s), .val (.int p1s), .val (.int p2s), .val (.int p3s), .val (.int p4s), .val (.int z119), .val (.int dd), .val (.int z123), .val (.int z124), .val (.int i1), .val (.int i2), .val (.int i3), .val (.double (9218868437227405312 : UInt64)), .second, .val (.int z137), .val (.int z140), .val (.int z143), .val (.int z146), .val (.ref b149), .val (.ref b153), .val (.ref b171), .val (.int z186), .val (.int z187), .unset, .unset, .unset, .unset, .unset, .unset] [(.int z186), (.ref b171)])) := fun tg_ kg_ => by
                refine r188 tg_ ?_
                show Steps p.tables e below (T181.setTop (mkF m 342 #[.val (.int p0s), .val (.int p1s), .val (.int p2s), .val (.int p3s), .val (.int p4s), .val (.int z119), .val (.int dd), .val (.int z123), .val (.int z124), .val (.int i1), .val (.int i2), .val (.int i3), .val (.double (9218868437227405312 : UInt64)), .second, .val (.int z137), .val (.int z140), .val (.int z143), .val (.int z146), .val (.ref b149), .val (.ref b153), .val (.ref b171), .val (.int z186), .val (.int z187), .unset, .unset, .unset, .unset, .unset, .unset] [])) _
                refine XS.aload X181.here hx rfl (hb hby at_342) rfl rfl ?_
                show Steps p.tables e below (T181.setTop (mkF m 344 #[.val (.int p0s), .val (.int p1s), .val (.int p2s), .val (.int p3s), .val (.int p4s), .val (.int z119), .val (.int dd), .val (.int z123), .val (.int z124), .val (.int i1), .val (.int i2), .val (.int i3), .val (.double (9218868437227405312 : UInt64)), .second, .val (.int z137), .val (.int z140), .val (.int z143), .val (.int z146), .val (.ref b149), .val (.ref b153), .val (.ref b171), .val (.int z186), .val (.int z187), .unset, .unset, .unset, .unset, .unset, .unset] [(.ref b171)])) _
                refine XS.iload X181.here hx rfl (hb hby at_344) rfl ?_
                exact kg_
              obtain ⟨cq291, kq291, q291a, q291b, q291c⟩ := isOf hZ e181 I181_1
              obtain ⟨_, _, ⟨T291, L291, k291, n291⟩, -, X291, ⟨Lc291, hQ291, l291, y291, z291⟩, st291⟩ := X181.virtualBack hx (y := (⟨"org/fractile/graph/PathTree", "path", "(I)[I"⟩ : MethodName)) (z := (⟨"org/fractile/graph/PathTree", "path", "(I)[I"⟩ : MethodName)) hown (mvT hZ (hw _ (List.mem_of_getElem? (i := 23) rfl))) (mvT hZ (hw _ (List.mem_of_getElem? (i := 24) rfl))) (notFace_of_selects (args := #[]) (mvT hZ (hw _ (List.mem_of_getElem? (i := 26) rfl)))) (mvT hZ (hw _ (List.mem_of_getElem? (i := 26) rfl))) (mvT hZ (hw _ (List.mem_of_getElem? (i := 25) rfl))) (by decide) (backOf (W := 0) (rm4 l Z a0 hw [] b171 z186 (z119) (b149) (b153) (gd) (gp) (PP) (LL) (chh) h181 n0 Zs185 I181_1 I181_2 I181_3 I181_4 F182 F183 ⟨hPP, hPb⟩ hcs) hZ (hw _ (List.mem_of_getElem? (i := 27) rfl)) (hw _ (List.mem_of_getElem? (i := 10) rfl)) (by decide) (by decide)) q291a q291c (g := (mkF m 346 #[.val (.int p0s), .val (.int p1s), .val (.int p2s), .val (.int p3s), .val (.int p4s), .val (.int z119), .val (.int dd), .val (.int z123), .val (.int z124), .val (.int i1), .val (.int i2), .val (.int i3), .val (.double (9218868437227405312 : UInt64)), .second, .val (.int z137), .val (.int z140), .val (.int z143), .val (.int z146), .val (.ref b149), .val (.ref b153), .val (.ref b171), .val (.int z186), .val (.int z187), .unset, .unset, .unset, .unset, .unset, .unset] [(.int z186), (.ref b171)])) rfl (by rw [hml]; rfl) (Steps.refl _) (argsL := [(.int z186)]) (rest := []) (lenOf pd_2 rfl) rfl (by show 2 * 0 + _ ≤ _; exact Nat.le_of_eq rfl) (hb hby at_346) (fun _ _ => ⟨rfl, e181, (by decide : 3 + 1 ≤ _), (by decide : 11 + 4 ≤ _)⟩)
              dsimp only [Pt.U, Pt.locs, Pt.cells, Pt.slots] at X291 l291 y291 z291 st291 hQ291
              subst l291 y291 z291
              obtain ⟨b_291, Nl_291, gr_291, rfl, N291q, I291_0, I291_1, I291_2, I291_3⟩ := hQ291
              have N291 := Fr.app N181 N291q
              obtain ⟨h291, e291⟩ : ∃ z, T291.heap = z := ⟨_, rfl⟩
              rw [e291] at I291_0 I291_2
              have ne292 : b149 ≠ b_291 := Nat.ne_of_lt (Nat.lt_of_lt_of_le F182.lt I291_1)
              have ne293 : b153 ≠ b_291 := Nat.ne_of_lt (Nat.lt_of_lt_of_le F183.lt I291_1)
              have ne294 : b171 ≠ b_291 := Nat.ne_of_lt (Nat.lt_of_lt_of_le I181_1.lt I291_1)
              have ge295 : n0 ≤ b_291 := Nat.le_trans Zs185 I291_1
              have old296 : h0.size ≤ b_291 := Nat.le_trans K184.1 I291_1
              have F297 : own_Arf Z h291 b149 .double 4 (fun i => (.double (gd i))) := F182.keep I291_0 nin0
              have F298 : own_Arf Z h291 b153 .int 4 (fun i => (.int (gp i))) := F183.keep I291_0 nin0
              have F299 : Exa Z h291 b171 "org/fractile/graph/PathTree" := I181_1.keep I291_0
              have F300 : Fld Z h291 b171 "org/fractile/graph/PathTree" "source" "I" (.int z119) := I181_2.keep I291_0 nin0
              have F301 : Fld Z h291 b171 "org/fractile/graph/PathTree" "cost" "[D" (.ref b149) := I181_3.keep I291_0 nin0
              have F302 : Fld Z h291 b171 "org/fractile/graph/PathTree" "predecessor" "[I" (.ref b153) := I181_4.keep I291_0 nin0
              have K303 : Keep h0 h291 [] := K184.trans I291_0 all0
              have Zs304 : n0 ≤ h291.size := Nat.le_trans Zs185 I291_0.1
              have r291 : own_R p.tables e below F0 (T291.setTop (mkF m 349 #[.val (.int p0s), .val (.int p1s), .val (.int p2s), .val (.int p3s), .val (.int p4s), .val (.int z119), .val (.int dd), .val (.int z123), .val (.int z124), .val (.int i1), .val (.int i2), .val (.int i3), .val (.double (9218868437227405312 : UInt64)), .second, .val (.int z137), .val (.int z140), .val (.int z143), .val (.int z146), .val (.ref b149), .val (.ref b153), .val (.ref b171), .val (.int z186), .val (.int z187), .unset, .unset, .unset, .unset, .unset, .unset] [(.ref b_291)])) := fun tg_ kg_ => r290 tg_ (st291.trans kg_)
              exact J189 b_291 Nl_291 gr_291 T291 _ _ X291 e291 N291 Zs304 K303 I291_2 (hout _ _ I291_3) r291
            have r305 : own_R p.tables e below F0 (T153.setTop (mkF m 168 #[.val (.int p0s), .val (.int p1s), .val (.int p2s), .val (.int p3s), .val (.int p4s), .val (.int z119), .val (.int dd), .val (.int z123), .val (.int z124), .val (.int i1), .val (.int i2), .val (.int i3), .val (.double (9218868437227405312 : UInt64)), .second, .val (.int z137), .val (.int z140), .val (.int z143), .val (.int z146), .val (.ref b149), .val (.ref b153), .unset, .unset, .unset, .unset, .unset, .unset, .unset, .unset, .unset] [(.double FP.dconst0), (.int z137), (.ref b149)])) := fun tg_ kg_ => by
              refine r158 tg_ ?_
              show Steps p.tables e below (T153.setTop (mkF m 163 #[.val (.int p0s), .val (.int p1s), .val (.int p2s), .val (.int p3s), .val (.int p4s), .val (.int z119), .val (.int dd), .val (.int z123), .val (.int z124), .val (.int i1), .val (.int i2), .val (.int i3), .val (.double (9218868437227405312 : UInt64)), .second, .val (.int z137), .val (.int z140), .val (.int z143), .val (.int z146), .val (.ref b149), .val (.ref b153), .unset, .unset, .unset, .unset, .unset, .unset, .unset, .unset, .unset] [])) _
              refine XS.aload X153.here hx rfl (hb hby at_163) rfl rfl ?_
              show Steps p.tables e below (T153.setTop (mkF m 165 #[.val (.int p0s), .val (.int p1s), .val (.int p2s), .val (.int p3s), .val (.int p4s), .val (.int z119), .val (.int dd), .val (.int z123), .val (.int z124), .val (.int i1), .val (.int i2), .val (.int i3), .val (.double (9218868437227405312 : UInt64)), .second, .val (.int z137), .val (.int z140), .val (.int z143), .val (.int z146), .val (.ref b149), .val (.ref b153), .unset, .unset, .unset, .unset, .unset, .unset, .unset, .unset, .unset] [(.ref b149)])) _
              refine XS.iload X153.here hx rfl (hb hby at_165) rfl ?_
              show Steps p.tables e below (T153.setTop (mkF m 167 #[.val (.int p0s), .val (.int p1s), .val (.int p2s), .val (.int p3s), .val (.int p4s), .val (.int z119), .val (.int dd), .val (.int z123), .val (.int z124), .val (.int i1), .val (.int i2), .val (.int i3), .val (.double (9218868437227405312 : UInt64)), .second, .val (.int z137), .val (.int z140), .val (.int z143), .val (.int z146), .val (.ref b149), .val (.ref b153), .unset, .unset, .unset, .unset, .unset, .unset, .unset, .unset, .unset] [(.int z137), (.ref b149)])) _
              refine XS.dconst0 X153.here hx rfl (hb hby at_167) rfl ?_
              exact kg_
            obtain ⟨T306, h306, X306, e306, W306, V306, st306⟩ := own_stD X153 hx hZ e153 (j := z137) F155 (by omega) (by omega) (g := (mkF m 168 #[.val (.int p0s), .val (.int p1s), .val (.int p2s), .val (.int p3s), .val (.int p4s), .val (.int z119), .val (.int dd), .val (.int z123), .val (.int z124), .val (.int i1), .val (.int i2), .val (.int i3), .val (.double (9218868437227405312 : UInt64)), .second, .val (.int z137), .val (.int z140), .val (.int z143), .val (.int z146), .val (.ref b149), .val (.ref b153), .unset, .unset, .unset, .unset, .unset, .unset, .unset, .unset, .unset] [(.double FP.dconst0), (.int z137), (.ref b149)])) rfl rfl (hb hby at_168)
            rw [show (z137).toNatClampNeg = V0 from own_clamp hV0] at V306
            obtain ⟨gf306, hgf306, V306'⟩ := own_nameD (g := (fun _ => (0 : UInt64))) V306
            have F307 : own_Arf Z h306 b149 .double 4 (fun i => (.double (gf306 i))) := V306'
            have F308 : own_Arf Z h306 b153 .int 4 (fun i => (.int ((fun _ => (0 : Int32)) i))) := F157.other W306 (Ne.symm ne154)
            have Zs309 : n0 ≤ h306.size := by rw [W306.size]; exact Zs156
            have N310 := Fr.snoc X306 N145 ge149
            have K311 : Keep h0 h306 [] := K153.wr W306 (Or.inr old149)
            have r306 : own_R p.tables e below F0 (T306.setTop (mkF m 169 #[.val (.int p0s), .val (.int p1s), .val (.int p2s), .val (.int p3s), .val (.int p4s), .val (.int z119), .val (.int dd), .val (.int z123), .val (.int z124), .val (.int i1), .val (.int i2), .val (.int i3), .val (.double (9218868437227405312 : UInt64)), .second, .val (.int z137), .val (.int z140), .val (.int z143), .val (.int z146), .val (.ref b149), .val (.ref b153), .unset, .unset, .unset, .unset, .unset, .unset, .unset, .unset, .unset] [])) := fun tg_ kg_ => r305 tg_ (st306 tg_ kg_)
            have r312 : own_R p.tables e below F0 (T306.setTop (mkF m 175 #[.val (.int p0s), .val (.int p1s), .val (.int p2s), .val (.int p3s), .val (.int p4s), .val (.int z119), .val (.int dd), .val (.int z123), .val (.int z124), .val (.int i1), .val (.int i2), .val (.int i3), .val (.double (9218868437227405312 : UInt64)), .second, .val (.int z137), .val (.int z140), .val (.int z143), .val (.int z146), .val (.ref b149), .val (.ref b153), .unset, .unset, .unset, .unset, .unset, .unset, .unset, .unset, .unset] [(.int p4s), (.int z137), (.ref b153)])) := fun tg_ kg_ => by
              refine r306 tg_ ?_
              show Steps p.tables e below (T306.setTop (mkF m 169 #[.val (.int p0s), .val (.int p1s), .val (.int p2s), .val (.int p3s), .val (.int p4s), .val (.int z119), .val (.int dd), .val (.int z123), .val (.int z124), .val (.int i1), .val (.int i2), .val (.int i3), .val (.double (9218868437227405312 : UInt64)), .second, .val (.int z137), .val (.int z140), .val (.int z143), .val (.int z146), .val (.ref b149), .val (.ref b153), .unset, .unset, .unset, .unset, .unset, .unset, .unset, .unset, .unset] [])) _
              refine XS.aload X306.here hx rfl (hb hby at_169) rfl rfl ?_
              show Steps p.tables e below (T306.setTop (mkF m 171 #[.val (.int p0s), .val (.int p1s), .val (.int p2s), .val (.int p3s), .val (.int p4s), .val (.int z119), .val (.int dd), .val (.int z123), .val (.int z124), .val (.int i1), .val (.int i2), .val (.int i3), .val (.double (9218868437227405312 : UInt64)), .second, .val (.int z137), .val (.int z140), .val (.int z143), .val (.int z146), .val (.ref b149), .val (.ref b153), .unset, .unset, .unset, .unset, .unset, .unset, .unset, .unset, .unset] [(.ref b153)])) _
              refine XS.iload X306.here hx rfl (hb hby at_171) rfl ?_
              show Steps p.tables e below (T306.setTop (mkF m 173 #[.val (.int p0s), .val (.int p1s), .val (.int p2s), .val (.int p3s), .val (.int p4s), .val (.int z119), .val (.int dd), .val (.int z123), .val (.int z124), .val (.int i1), .val (.int i2), .val (.int i3), .val (.double (9218868437227405312 : UInt64)), .second, .val (.int z137), .val (.int z140), .val (.int z143), .val (.int z146), .val (.ref b149), .val (.ref b153), .unset, .unset, .unset, .unset, .unset, .unset, .unset, .unset, .unset] [(.int z137), (.ref b153)])) _
              refine XS.iload X306.here hx rfl (hb hby at_173) rfl ?_
              exact kg_
            obtain ⟨T313, h313, X313, e313, W313, V313, st313⟩ := own_stI X306 hx hZ e306 (j := z137) F308 (by omega) (by omega) (g := (mkF m 175 #[.val (.int p0s), .val (.int p1s), .val (.int p2s), .val (.int p3s), .val (.int p4s), .val (.int z119), .val (.int dd), .val (.int z123), .val (.int z124), .val (.int i1), .val (.int i2), .val (.int i3), .val (.double (9218868437227405312 : UInt64)), .second, .val (.int z137), .val (.int z140), .val (.int z143), .val (.int z146), .val (.ref b149), .val (.ref b153), .unset, .unset, .unset, .unset, .unset, .unset, .unset, .unset, .unset] [(.int p4s), (.int z137), (.ref b153)])) rfl rfl (hb hby at_175)
            rw [show (z137).toNatClampNeg = V0 from own_clamp hV0] at V313
            obtain ⟨gf313, hgf313, V313'⟩ := own_nameI (g := (fun _ => (0 : Int32))) V313
            have F314 : own_Arf Z h313 b149 .double 4 (fun i => (.double (gf306 i))) := F307.other W313 ne154
            have F315 : own_Arf Z h313 b153 .int 4 (fun i => (.int (gf313 i))) := V313'
            have Zs316 : n0 ≤ h313.size := by rw [W313.size]; exact Zs309
            have N317 := Fr.snoc X313 N310 ge153
            have K318 : Keep h0 h313 [] := K311.wr W313 (Or.inr old153)
            have r313 : own_R p.tables e below F0 (T313.setTop (mkF m 176 #[.val (.int p0s), .val (.int p1s), .val (.int p2s), .val (.int p3s), .val (.int p4s), .val (.int z119), .val (.int dd), .val (.int z123), .val (.int z124), .val (.int i1), .val (.int i2), .val (.int i3), .val (.double (9218868437227405312 : UInt64)), .second, .val (.int z137), .val (.int z140), .val (.int z143), .val (.int z146), .val (.ref b149), .val (.ref b153), .unset, .unset, .unset, .unset, .unset, .unset, .unset, .unset, .unset] [])) := fun tg_ kg_ => r312 tg_ (st313 tg_ kg_)
            have r319 : own_R p.tables e below F0 (T313.setTop (mkF m 182 #[.val (.int p0s), .val (.int p1s), .val (.int p2s), .val (.int p3s), .val (.int p4s), .val (.int z119), .val (.int dd), .val (.int z123), .val (.int z124), .val (.int i1), .val (.int i2), .val (.int i3), .val (.double (9218868437227405312 : UInt64)), .second, .val (.int z137), .val (.int z140), .val (.int z143), .val (.int z146), .val (.ref b149), .val (.ref b153), .unset, .unset, .unset, .unset, .unset, .unset, .unset, .unset, .unset] [(.int i1), (.int z140), (.ref b149)])) := fun tg_ kg_ => by
              refine r313 tg_ ?_
              show Steps p.tables e below (T313.setTop (mkF m 176 #[.val (.int p0s), .val (.int p1s), .val (.int p2s), .val (.int p3s), .val (.int p4s), .val (.int z119), .val (.int dd), .val (.int z123), .val (.int z124), .val (.int i1), .val (.int i2), .val (.int i3), .val (.double (9218868437227405312 : UInt64)), .second, .val (.int z137), .val (.int z140), .val (.int z143), .val (.int z146), .val (.ref b149), .val (.ref b153), .unset, .unset, .unset, .unset, .unset, .unset, .unset, .unset, .unset] [])) _
              refine XS.aload X313.here hx rfl (hb hby at_176) rfl rfl ?_
              show Steps p.tables e below (T313.setTop (mkF m 178 #[.val (.int p0s), .val (.int p1s), .val (.int p2s), .val (.int p3s), .val (.int p4s), .val (.int z119), .val (.int dd), .val (.int z123), .val (.int z124), .val (.int i1), .val (.int i2), .val (.int i3), .val (.double (9218868437227405312 : UInt64)), .second, .val (.int z137), .val (.int z140), .val (.int z143), .val (.int z146), .val (.ref b149), .val (.ref b153), .unset, .unset, .unset, .unset, .unset, .unset, .unset, .unset, .unset] [(.ref b149)])) _
              refine XS.iload X313.here hx rfl (hb hby at_178) rfl ?_
              show Steps p.tables e below (T313.setTop (mkF m 180 #[.val (.int p0s), .val (.int p1s), .val (.int p2s), .val (.int p3s), .val (.int p4s), .val (.int z119), .val (.int dd), .val (.int z123), .val (.int z124), .val (.int i1), .val (.int i2), .val (.int i3), .val (.double (9218868437227405312 : UInt64)), .second, .val (.int z137), .val (.int z140), .val (.int z143), .val (.int z146), .val (.ref b149), .val (.ref b153), .unset, .unset, .unset, .unset, .unset, .unset, .unset, .unset, .unset] [(.int z140), (.ref b149)])) _
              refine XS.iload X313.here hx rfl (hb hby at_180) rfl ?_
              exact kg_
            have J320 : ∀ (x1 : UInt64) (hx1 : (i1.toInt = 0 → own_nf x1) ∧ (i1.toInt = 1 → x1 = (9218868437227405312 : UInt64))) (r321 : own_R p.tables e below F0 (T313.setTop (mkF m 191 #[.val (.int p0s), .val (.int p1s), .val (.int p2s), .val (.int p3s), .val (.int p4s), .val (.int z119), .val (.int dd), .val (.int z123), .val (.int z124), .val (.int i1), .val (.int i2), .val (.int i3), .val (.double (9218868437227405312 : UInt64)), .second, .val (.int z137), .val (.int z140), .val (.int z143), .val (.int z146), .val (.ref b149), .val (.ref b153), .unset, .unset, .unset, .unset, .unset, .unset, .unset, .unset, .unset] [(.double x1), (.int z140), (.ref b149)]))), G := by
              intro x1 hx1 r321
              obtain ⟨T322, h322, X322, e322, W322, V322, st322⟩ := own_stD X313 hx hZ e313 (j := z140) F314 (by omega) (by omega) (g := (mkF m 191 #[.val (.int p0s), .val (.int p1s), .val (.int p2s), .val (.int p3s), .val (.int p4s), .val (.int z119), .val (.int dd), .val (.int z123), .val (.int z124), .val (.int i1), .val (.int i2), .val (.int i3), .val (.double (9218868437227405312 : UInt64)), .second, .val (.int z137), .val (.int z140), .val (.int z143), .val (.int z146), .val (.ref b149), .val (.ref b153), .unset, .unset, .unset, .unset, .unset, .unset, .unset, .unset, .unset] [(.double x1), (.int z140), (.ref b149)])) rfl rfl (hb hby at_191)
              rw [show (z140).toNatClampNeg = V1 from own_clamp hV1] at V322
              obtain ⟨gf322, hgf322, V322'⟩ := own_nameD (g := gf306) V322
              have F323 : own_Arf Z h322 b149 .double 4 (fun i => (.double (gf322 i))) := V322'
              have F324 : own_Arf Z h322 b153 .int 4 (fun i => (.int (gf313 i))) := F315.other W322 (Ne.symm ne154)
              have Zs325 : n0 ≤ h322.size := by rw [W322.size]; exact Zs316
              have N326 := Fr.snoc X322 N317 ge149
              have K327 : Keep h0 h322 [] := K318.wr W322 (Or.inr old149)
              have r322 : own_R p.tables e below F0 (T322.setTop (mkF m 192 #[.val (.int p0s), .val (.int p1s), .val (.int p2s), .val (.int p3s), .val (.int p4s), .val (.int z119), .val (.int dd), .val (.int z123), .val (.int z124), .val (.int i1), .val (.int i2), .val (.int i3), .val (.double (9218868437227405312 : UInt64)), .second, .val (.int z137), .val (.int z140), .val (.int z143), .val (.int z146), .val (.ref b149), .val (.ref b153), .unset, .unset, .unset, .unset, .unset, .unset, .unset, .unset, .unset] [])) := fun tg_ kg_ => r321 tg_ (st322 tg_ kg_)
              have r328 : own_R p.tables e below F0 (T322.setTop (mkF m 198 #[.val (.int p0s), .val (.int p1s), .val (.int p2s), .val (.int p3s), .val (.int p4s), .val (.int z119), .val (.int dd), .val (.int z123), .val (.int z124), .val (.int i1), .val (.int i2), .val (.int i3), .val (.double (9218868437227405312 : UInt64)), .second, .val (.int z137), .val (.int z140), .val (.int z143), .val (.int z146), .val (.ref b149), .val (.ref b153), .unset, .unset, .unset, .unset, .unset, .unset, .unset, .unset, .unset] [(.int i1), (.int z140), (.ref b153)])) := fun tg_ kg_ => by
                refine r322 tg_ ?_
                show Steps p.tables e below (T322.setTop (mkF m 192 #[.val (.int p0s), .val (.int p1s), .val (.int p2s), .val (.int p3s), .val (.int p4s), .val (.int z119), .val (.int dd), .val (.int z123), .val (.int z124), .val (.int i1), .val (.int i2), .val (.int i3), .val (.double (9218868437227405312 : UInt64)), .second, .val (.int z137), .val (.int z140), .val (.int z143), .val (.int z146), .val (.ref b149), .val (.ref b153), .unset, .unset, .unset, .unset, .unset, .unset, .unset, .unset, .unset] [])) _
                refine XS.aload X322.here hx rfl (hb hby at_192) rfl rfl ?_
                show Steps p.tables e below (T322.setTop (mkF m 194 #[.val (.int p0s), .val (.int p1s), .val (.int p2s), .val (.int p3s), .val (.int p4s), .val (.int z119), .val (.int dd), .val (.int z123), .val (.int z124), .val (.int i1), .val (.int i2), .val (.int i3), .val (.double (9218868437227405312 : UInt64)), .second, .val (.int z137), .val (.int z140), .val (.int z143), .val (.int z146), .val (.ref b149), .val (.ref b153), .unset, .unset, .unset, .unset, .unset, .unset, .unset, .unset, .unset] [(.ref b153)])) _
                refine XS.iload X322.here hx rfl (hb hby at_194) rfl ?_
                show Steps p.tables e below (T322.setTop (mkF m 196 #[.val (.int p0s), .val (.int p1s), .val (.int p2s), .val (.int p3s), .val (.int p4s), .val (.int z119), .val (.int dd), .val (.int z123), .val (.int z124), .val (.int i1), .val (.int i2), .val (.int i3), .val (.double (9218868437227405312 : UInt64)), .second, .val (.int z137), .val (.int z140), .val (.int z143), .val (.int z146), .val (.ref b149), .val (.ref b153), .unset, .unset, .unset, .unset, .unset, .unset, .unset, .unset, .unset] [(.int z140), (.ref b153)])) _
                refine XS.iload X322.here hx rfl (hb hby at_196) rfl ?_
                exact kg_
              have J329 : ∀ (y1 : Int32) (hy1 : i1.toInt = 0 → y1 = z137) (r330 : own_R p.tables e below F0 (T322.setTop (mkF m 208 #[.val (.int p0s), .val (.int p1s), .val (.int p2s), .val (.int p3s), .val (.int p4s), .val (.int z119), .val (.int dd), .val (.int z123), .val (.int z124), .val (.int i1), .val (.int i2), .val (.int i3), .val (.double (9218868437227405312 : UInt64)), .second, .val (.int z137), .val (.int z140), .val (.int z143), .val (.int z146), .val (.ref b149), .val (.ref b153), .unset, .unset, .unset, .unset, .unset, .unset, .unset, .unset, .unset] [(.int y1), (.int z140), (.ref b153)]))), G := by
                intro y1 hy1 r330
                obtain ⟨T331, h331, X331, e331, W331, V331, st331⟩ := own_stI X322 hx hZ e322 (j := z140) F324 (by omega) (by omega) (g := (mkF m 208 #[.val (.int p0s), .val (.int p1s), .val (.int p2s), .val (.int p3s), .val (.int p4s), .val (.int z119), .val (.int dd), .val (.int z123), .val (.int z124), .val (.int i1), .val (.int i2), .val (.int i3), .val (.double (9218868437227405312 : UInt64)), .second, .val (.int z137), .val (.int z140), .val (.int z143), .val (.int z146), .val (.ref b149), .val (.ref b153), .unset, .unset, .unset, .unset, .unset, .unset, .unset, .unset, .unset] [(.int y1), (.int z140), (.ref b153)])) rfl rfl (hb hby at_208)
                rw [show (z140).toNatClampNeg = V1 from own_clamp hV1] at V331
                obtain ⟨gf331, hgf331, V331'⟩ := own_nameI (g := gf313) V331
                have F332 : own_Arf Z h331 b149 .double 4 (fun i => (.double (gf322 i))) := F323.other W331 ne154
                have F333 : own_Arf Z h331 b153 .int 4 (fun i => (.int (gf331 i))) := V331'
                have Zs334 : n0 ≤ h331.size := by rw [W331.size]; exact Zs325
                have N335 := Fr.snoc X331 N326 ge153
                have K336 : Keep h0 h331 [] := K327.wr W331 (Or.inr old153)
                have r331 : own_R p.tables e below F0 (T331.setTop (mkF m 209 #[.val (.int p0s), .val (.int p1s), .val (.int p2s), .val (.int p3s), .val (.int p4s), .val (.int z119), .val (.int dd), .val (.int z123), .val (.int z124), .val (.int i1), .val (.int i2), .val (.int i3), .val (.double (9218868437227405312 : UInt64)), .second, .val (.int z137), .val (.int z140), .val (.int z143), .val (.int z146), .val (.ref b149), .val (.ref b153), .unset, .unset, .unset, .unset, .unset, .unset, .unset, .unset, .unset] [])) := fun tg_ kg_ => r330 tg_ (st331 tg_ kg_)
                have r337 : own_R p.tables e below F0 (T331.setTop (mkF m 215 #[.val (.int p0s), .val (.int p1s), .val (.int p2s), .val (.int p3s), .val (.int p4s), .val (.int z119), .val (.int dd), .val (.int z123), .val (.int z124), .val (.int i1), .val (.int i2), .val (.int i3), .val (.double (9218868437227405312 : UInt64)), .second, .val (.int z137), .val (.int z140), .val (.int z143), .val (.int z146), .val (.ref b149), .val (.ref b153), .unset, .unset, .unset, .unset, .unset, .unset, .unset, .unset, .unset] [(.int i2), (.int z143), (.ref b149)])) := fun tg_ kg_ => by
                  refine r331 tg_ ?_
                  show Steps p.tables e below (T331.setTop (mkF m 209 #[.val (.int p0s), .val (.int p1s), .val (.int p2s), .val (.int p3s), .val (.int p4s), .val (.int z119), .val (.int dd), .val (.int z123), .val (.int z124), .val (.int i1), .val (.int i2), .val (.int i3), .val (.double (9218868437227405312 : UInt64)), .second, .val (.int z137), .val (.int z140), .val (.int z143), .val (.int z146), .val (.ref b149), .val (.ref b153), .unset, .unset, .unset, .unset, .unset, .unset, .unset, .unset, .unset] [])) _
                  refine XS.aload X331.here hx rfl (hb hby at_209) rfl rfl ?_
                  show Steps p.tables e below (T331.setTop (mkF m 211 #[.val (.int p0s), .val (.int p1s), .val (.int p2s), .val (.int p3s), .val (.int p4s), .val (.int z119), .val (.int dd), .val (.int z123), .val (.int z124), .val (.int i1), .val (.int i2), .val (.int i3), .val (.double (9218868437227405312 : UInt64)), .second, .val (.int z137), .val (.int z140), .val (.int z143), .val (.int z146), .val (.ref b149), .val (.ref b153), .unset, .unset, .unset, .unset, .unset, .unset, .unset, .unset, .unset] [(.ref b149)])) _
                  refine XS.iload X331.here hx rfl (hb hby at_211) rfl ?_
                  show Steps p.tables e below (T331.setTop (mkF m 213 #[.val (.int p0s), .val (.int p1s), .val (.int p2s), .val (.int p3s), .val (.int p4s), .val (.int z119), .val (.int dd), .val (.int z123), .val (.int z124), .val (.int i1), .val (.int i2), .val (.int i3), .val (.double (9218868437227405312 : UInt64)), .second, .val (.int z137), .val (.int z140), .val (.int z143), .val (.int z146), .val (.ref b149), .val (.ref b153), .unset, .unset, .unset, .unset, .unset, .unset, .unset, .unset, .unset] [(.int z143), (.ref b149)])) _
                  refine XS.iload X331.here hx rfl (hb hby at_213) rfl ?_
                  exact kg_
                have J338 : ∀ (x2 : UInt64) (hx2 : (i2.toInt = 0 → own_nf x2) ∧ (i2.toInt = 1 → x2 = (9218868437227405312 : UInt64))) (r339 : own_R p.tables e below F0 (T331.setTop (mkF m 226 #[.val (.int p0s), .val (.int p1s), .val (.int p2s), .val (.int p3s), .val (.int p4s), .val (.int z119), .val (.int dd), .val (.int z123), .val (.int z124), .val (.int i1), .val (.int i2), .val (.int i3), .val (.double (9218868437227405312 : UInt64)), .second, .val (.int z137), .val (.int z140), .val (.int z143), .val (.int z146), .val (.ref b149), .val (.ref b153), .unset, .unset, .unset, .unset, .unset, .unset, .unset, .unset, .unset] [(.double x2), (.int z143), (.ref b149)]))), G := by
                  intro x2 hx2 r339
                  obtain ⟨T340, h340, X340, e340, W340, V340, st340⟩ := own_stD X331 hx hZ e331 (j := z143) F332 (by omega) (by omega) (g := (mkF m 226 #[.val (.int p0s), .val (.int p1s), .val (.int p2s), .val (.int p3s), .val (.int p4s), .val (.int z119), .val (.int dd), .val (.int z123), .val (.int z124), .val (.int i1), .val (.int i2), .val (.int i3), .val (.double (9218868437227405312 : UInt64)), .second, .val (.int z137), .val (.int z140), .val (.int z143), .val (.int z146), .val (.ref b149), .val (.ref b153), .unset, .unset, .unset, .unset, .unset, .unset, .unset, .unset, .unset] [(.double x2), (.int z143), (.ref b149)])) rfl rfl (hb hby at_226)
                  rw [show (z143).toNatClampNeg = V2 from own_clamp hV2] at V340
                  obtain ⟨gf340, hgf340, V340'⟩ := own_nameD (g := gf322) V340
                  have F341 : own_Arf Z h340 b149 .double 4 (fun i => (.double (gf340 i))) := V340'
                  have F342 : own_Arf Z h340 b153 .int 4 (fun i => (.int (gf331 i))) := F333.other W340 (Ne.symm ne154)
                  have Zs343 : n0 ≤ h340.size := by rw [W340.size]; exact Zs334
                  have N344 := Fr.snoc X340 N335 ge149
                  have K345 : Keep h0 h340 [] := K336.wr W340 (Or.inr old149)
                  have r340 : own_R p.tables e below F0 (T340.setTop (mkF m 227 #[.val (.int p0s), .val (.int p1s), .val (.int p2s), .val (.int p3s), .val (.int p4s), .val (.int z119), .val (.int dd), .val (.int z123), .val (.int z124), .val (.int i1), .val (.int i2), .val (.int i3), .val (.double (9218868437227405312 : UInt64)), .second, .val (.int z137), .val (.int z140), .val (.int z143), .val (.int z146), .val (.ref b149), .val (.ref b153), .unset, .unset, .unset, .unset, .unset, .unset, .unset, .unset, .unset] [])) := fun tg_ kg_ => r339 tg_ (st340 tg_ kg_)
                  have r346 : own_R p.tables e below F0 (T340.setTop (mkF m 233 #[.val (.int p0s), .val (.int p1s), .val (.int p2s), .val (.int p3s), .val (.int p4s), .val (.int z119), .val (.int dd), .val (.int z123), .val (.int z124), .val (.int i1), .val (.int i2), .val (.int i3), .val (.double (9218868437227405312 : UInt64)), .second, .val (.int z137), .val (.int z140), .val (.int z143), .val (.int z146), .val (.ref b149), .val (.ref b153), .unset, .unset, .unset, .unset, .unset, .unset, .unset, .unset, .unset] [(.int i2), (.int z143), (.ref b153)])) := fun tg_ kg_ => by
                    refine r340 tg_ ?_
                    show Steps p.tables e below (T340.setTop (mkF m 227 #[.val (.int p0s), .val (.int p1s), .val (.int p2s), .val (.int p3s), .val (.int p4s), .val (.int z119), .val (.int dd), .val (.int z123), .val (.int z124), .val (.int i1), .val (.int i2), .val (.int i3), .val (.double (9218868437227405312 : UInt64)), .second, .val (.int z137), .val (.int z140), .val (.int z143), .val (.int z146), .val (.ref b149), .val (.ref b153), .unset, .unset, .unset, .unset, .unset, .unset, .unset, .unset, .unset] [])) _
                    refine XS.aload X340.here hx rfl (hb hby at_227) rfl rfl ?_
                    show Steps p.tables e below (T340.setTop (mkF m 229 #[.val (.int p0s), .val (.int p1s), .val (.int p2s), .val (.int p3s), .val (.int p4s), .val (.int z119), .val (.int dd), .val (.int z123), .val (.int z124), .val (.int i1), .val (.int i2), .val (.int i3), .val (.double (9218868437227405312 : UInt64)), .second, .val (.int z137), .val (.int z140), .val (.int z143), .val (.int z146), .val (.ref b149), .val (.ref b153), .unset, .unset, .unset, .unset, .unset, .unset, .unset, .unset, .unset] [(.ref b153)])) _
                    refine XS.iload X340.here hx rfl (hb hby at_229) rfl ?_
                    show Steps p.tables e below (T340.setTop (mkF m 231 #[.val (.int p0s), .val (.int p1s), .val (.int p2s), .val (.int p3s), .val (.int p4s), .val (.int z119), .val (.int dd), .val (.int z123), .val (.int z124), .val (.int i1), .val (.int i2), .val (.int i3), .val (.double (9218868437227405312 : UInt64)), .second, .val (.int z137), .val (.int z140), .val (.int z143), .val (.int z146), .val (.ref b149), .val (.ref b153), .unset, .unset, .unset, .unset, .unset, .unset, .unset, .unset, .unset] [(.int z143), (.ref b153)])) _
                    refine XS.iload X340.here hx rfl (hb hby at_231) rfl ?_
                    exact kg_
                  have J347 : ∀ (y2 : Int32) (hy2 : i2.toInt = 0 → (z123.toInt = 0 → y2 = z137) ∧ (z123.toInt = 1 → y2 = z140)) (r348 : own_R p.tables e below F0 (T340.setTop (mkF m 253 #[.val (.int p0s), .val (.int p1s), .val (.int p2s), .val (.int p3s), .val (.int p4s), .val (.int z119), .val (.int dd), .val (.int z123), .val (.int z124), .val (.int i1), .val (.int i2), .val (.int i3), .val (.double (9218868437227405312 : UInt64)), .second, .val (.int z137), .val (.int z140), .val (.int z143), .val (.int z146), .val (.ref b149), .val (.ref b153), .unset, .unset, .unset, .unset, .unset, .unset, .unset, .unset, .unset] [(.int y2), (.int z143), (.ref b153)]))), G := by
                    intro y2 hy2 r348
                    obtain ⟨T349, h349, X349, e349, W349, V349, st349⟩ := own_stI X340 hx hZ e340 (j := z143) F342 (by omega) (by omega) (g := (mkF m 253 #[.val (.int p0s), .val (.int p1s), .val (.int p2s), .val (.int p3s), .val (.int p4s), .val (.int z119), .val (.int dd), .val (.int z123), .val (.int z124), .val (.int i1), .val (.int i2), .val (.int i3), .val (.double (9218868437227405312 : UInt64)), .second, .val (.int z137), .val (.int z140), .val (.int z143), .val (.int z146), .val (.ref b149), .val (.ref b153), .unset, .unset, .unset, .unset, .unset, .unset, .unset, .unset, .unset] [(.int y2), (.int z143), (.ref b153)])) rfl rfl (hb hby at_253)
                    rw [show (z143).toNatClampNeg = V2 from own_clamp hV2] at V349
                    obtain ⟨gf349, hgf349, V349'⟩ := own_nameI (g := gf331) V349
                    have F350 : own_Arf Z h349 b149 .double 4 (fun i => (.double (gf340 i))) := F341.other W349 ne154
                    have F351 : own_Arf Z h349 b153 .int 4 (fun i => (.int (gf349 i))) := V349'
                    have Zs352 : n0 ≤ h349.size := by rw [W349.size]; exact Zs343
                    have N353 := Fr.snoc X349 N344 ge153
                    have K354 : Keep h0 h349 [] := K345.wr W349 (Or.inr old153)
                    have r349 : own_R p.tables e below F0 (T349.setTop (mkF m 254 #[.val (.int p0s), .val (.int p1s), .val (.int p2s), .val (.int p3s), .val (.int p4s), .val (.int z119), .val (.int dd), .val (.int z123), .val (.int z124), .val (.int i1), .val (.int i2), .val (.int i3), .val (.double (9218868437227405312 : UInt64)), .second, .val (.int z137), .val (.int z140), .val (.int z143), .val (.int z146), .val (.ref b149), .val (.ref b153), .unset, .unset, .unset, .unset, .unset, .unset, .unset, .unset, .unset] [])) := fun tg_ kg_ => r348 tg_ (st349 tg_ kg_)
                    have r355 : own_R p.tables e below F0 (T349.setTop (mkF m 260 #[.val (.int p0s), .val (.int p1s), .val (.int p2s), .val (.int p3s), .val (.int p4s), .val (.int z119), .val (.int dd), .val (.int z123), .val (.int z124), .val (.int i1), .val (.int i2), .val (.int i3), .val (.double (9218868437227405312 : UInt64)), .second, .val (.int z137), .val (.int z140), .val (.int z143), .val (.int z146), .val (.ref b149), .val (.ref b153), .unset, .unset, .unset, .unset, .unset, .unset, .unset, .unset, .unset] [(.int i3), (.int z146), (.ref b149)])) := fun tg_ kg_ => by
                      refine r349 tg_ ?_
                      show Steps p.tables e below (T349.setTop (mkF m 254 #[.val (.int p0s), .val (.int p1s), .val (.int p2s), .val (.int p3s), .val (.int p4s), .val (.int z119), .val (.int dd), .val (.int z123), .val (.int z124), .val (.int i1), .val (.int i2), .val (.int i3), .val (.double (9218868437227405312 : UInt64)), .second, .val (.int z137), .val (.int z140), .val (.int z143), .val (.int z146), .val (.ref b149), .val (.ref b153), .unset, .unset, .unset, .unset, .unset, .unset, .unset, .unset, .unset] [])) _
                      refine XS.aload X349.here hx rfl (hb hby at_254) rfl rfl ?_
                      show Steps p.tables e below (T349.setTop (mkF m 256 #[.val (.int p0s), .val (.int p1s), .val (.int p2s), .val (.int p3s), .val (.int p4s), .val (.int z119), .val (.int dd), .val (.int z123), .val (.int z124), .val (.int i1), .val (.int i2), .val (.int i3), .val (.double (9218868437227405312 : UInt64)), .second, .val (.int z137), .val (.int z140), .val (.int z143), .val (.int z146), .val (.ref b149), .val (.ref b153), .unset, .unset, .unset, .unset, .unset, .unset, .unset, .unset, .unset] [(.ref b149)])) _
                      refine XS.iload X349.here hx rfl (hb hby at_256) rfl ?_
                      show Steps p.tables e below (T349.setTop (mkF m 258 #[.val (.int p0s), .val (.int p1s), .val (.int p2s), .val (.int p3s), .val (.int p4s), .val (.int z119), .val (.int dd), .val (.int z123), .val (.int z124), .val (.int i1), .val (.int i2), .val (.int i3), .val (.double (9218868437227405312 : UInt64)), .second, .val (.int z137), .val (.int z140), .val (.int z143), .val (.int z146), .val (.ref b149), .val (.ref b153), .unset, .unset, .unset, .unset, .unset, .unset, .unset, .unset, .unset] [(.int z146), (.ref b149)])) _
                      refine XS.iload X349.here hx rfl (hb hby at_258) rfl ?_
                      exact kg_
                    have J356 : ∀ (x3 : UInt64) (hx3 : (i3.toInt = 0 → own_nf x3) ∧ (i3.toInt = 1 → x3 = (9218868437227405312 : UInt64))) (r357 : own_R p.tables e below F0 (T349.setTop (mkF m 271 #[.val (.int p0s), .val (.int p1s), .val (.int p2s), .val (.int p3s), .val (.int p4s), .val (.int z119), .val (.int dd), .val (.int z123), .val (.int z124), .val (.int i1), .val (.int i2), .val (.int i3), .val (.double (9218868437227405312 : UInt64)), .second, .val (.int z137), .val (.int z140), .val (.int z143), .val (.int z146), .val (.ref b149), .val (.ref b153), .unset, .unset, .unset, .unset, .unset, .unset, .unset, .unset, .unset] [(.double x3), (.int z146), (.ref b149)]))), G := by
                      intro x3 hx3 r357
                      obtain ⟨T358, h358, X358, e358, W358, V358, st358⟩ := own_stD X349 hx hZ e349 (j := z146) F350 (by omega) (by omega) (g := (mkF m 271 #[.val (.int p0s), .val (.int p1s), .val (.int p2s), .val (.int p3s), .val (.int p4s), .val (.int z119), .val (.int dd), .val (.int z123), .val (.int z124), .val (.int i1), .val (.int i2), .val (.int i3), .val (.double (9218868437227405312 : UInt64)), .second, .val (.int z137), .val (.int z140), .val (.int z143), .val (.int z146), .val (.ref b149), .val (.ref b153), .unset, .unset, .unset, .unset, .unset, .unset, .unset, .unset, .unset] [(.double x3), (.int z146), (.ref b149)])) rfl rfl (hb hby at_271)
                      rw [show (z146).toNatClampNeg = V3 from own_clamp hV3] at V358
                      obtain ⟨gf358, hgf358, V358'⟩ := own_nameD (g := gf340) V358
                      have F359 : own_Arf Z h358 b149 .double 4 (fun i => (.double (gf358 i))) := V358'
                      have F360 : own_Arf Z h358 b153 .int 4 (fun i => (.int (gf349 i))) := F351.other W358 (Ne.symm ne154)
                      have Zs361 : n0 ≤ h358.size := by rw [W358.size]; exact Zs352
                      have N362 := Fr.snoc X358 N353 ge149
                      have K363 : Keep h0 h358 [] := K354.wr W358 (Or.inr old149)
                      have r358 : own_R p.tables e below F0 (T358.setTop (mkF m 272 #[.val (.int p0s), .val (.int p1s), .val (.int p2s), .val (.int p3s), .val (.int p4s), .val (.int z119), .val (.int dd), .val (.int z123), .val (.int z124), .val (.int i1), .val (.int i2), .val (.int i3), .val (.double (9218868437227405312 : UInt64)), .second, .val (.int z137), .val (.int z140), .val (.int z143), .val (.int z146), .val (.ref b149), .val (.ref b153), .unset, .unset, .unset, .unset, .unset, .unset, .unset, .unset, .unset] [])) := fun tg_ kg_ => r357 tg_ (st358 tg_ kg_)
                      have r364 : own_R p.tables e below F0 (T358.setTop (mkF m 278 #[.val (.int p0s), .val (.int p1s), .val (.int p2s), .val (.int p3s), .val (.int p4s), .val (.int z119), .val (.int dd), .val (.int z123), .val (.int z124), .val (.int i1), .val (.int i2), .val (.int i3), .val (.double (9218868437227405312 : UInt64)), .second, .val (.int z137), .val (.int z140), .val (.int z143), .val (.int z146), .val (.ref b149), .val (.ref b153), .unset, .unset, .unset, .unset, .unset, .unset, .unset, .unset, .unset] [(.int i3), (.int z146), (.ref b153)])) := fun tg_ kg_ => by
                        refine r358 tg_ ?_
                        show Steps p.tables e below (T358.setTop (mkF m 272 #[.val (.int p0s), .val (.int p1s), .val (.int p2s), .val (.int p3s), .val (.int p4s), .val (.int z119), .val (.int dd), .val (.int z123), .val (.int z124), .val (.int i1), .val (.int i2), .val (.int i3), .val (.double (9218868437227405312 : UInt64)), .second, .val (.int z137), .val (.int z140), .val (.int z143), .val (.int z146), .val (.ref b149), .val (.ref b153), .unset, .unset, .unset, .unset, .unset, .unset, .unset, .unset, .unset] [])) _
                        refine XS.aload X358.here hx rfl (hb hby at_272) rfl rfl ?_
                        show Steps p.tables e below (T358.setTop (mkF m 274 #[.val (.int p0s), .val (.int p1s), .val (.int p2s), .val (.int p3s), .val (.int p4s), .val (.int z119), .val (.int dd), .val (.int z123), .val (.int z124), .val (.int i1), .val (.int i2), .val (.int i3), .val (.double (9218868437227405312 : UInt64)), .second, .val (.int z137), .val (.int z140), .val (.int z143), .val (.int z146), .val (.ref b149), .val (.ref b153), .unset, .unset, .unset, .unset, .unset, .unset, .unset, .unset, .unset] [(.ref b153)])) _
                        refine XS.iload X358.here hx rfl (hb hby at_274) rfl ?_
                        show Steps p.tables e below (T358.setTop (mkF m 276 #[.val (.int p0s), .val (.int p1s), .val (.int p2s), .val (.int p3s), .val (.int p4s), .val (.int z119), .val (.int dd), .val (.int z123), .val (.int z124), .val (.int i1), .val (.int i2), .val (.int i3), .val (.double (9218868437227405312 : UInt64)), .second, .val (.int z137), .val (.int z140), .val (.int z143), .val (.int z146), .val (.ref b149), .val (.ref b153), .unset, .unset, .unset, .unset, .unset, .unset, .unset, .unset, .unset] [(.int z146), (.ref b153)])) _
                        refine XS.iload X358.here hx rfl (hb hby at_276) rfl ?_
                        exact kg_
                      have J365 : ∀ (y3 : Int32) (hy3 : i3.toInt = 0 → (z124.toInt = 0 → y3 = z137) ∧ (z124.toInt = 1 → y3 = z140) ∧ (z124.toInt = 2 → y3 = z143)) (r366 : own_R p.tables e below F0 (T358.setTop (mkF m 309 #[.val (.int p0s), .val (.int p1s), .val (.int p2s), .val (.int p3s), .val (.int p4s), .val (.int z119), .val (.int dd), .val (.int z123), .val (.int z124), .val (.int i1), .val (.int i2), .val (.int i3), .val (.double (9218868437227405312 : UInt64)), .second, .val (.int z137), .val (.int z140), .val (.int z143), .val (.int z146), .val (.ref b149), .val (.ref b153), .unset, .unset, .unset, .unset, .unset, .unset, .unset, .unset, .unset] [(.int y3), (.int z146), (.ref b153)]))), G := by
                        intro y3 hy3 r366
                        obtain ⟨T367, h367, X367, e367, W367, V367, st367⟩ := own_stI X358 hx hZ e358 (j := z146) F360 (by omega) (by omega) (g := (mkF m 309 #[.val (.int p0s), .val (.int p1s), .val (.int p2s), .val (.int p3s), .val (.int p4s), .val (.int z119), .val (.int dd), .val (.int z123), .val (.int z124), .val (.int i1), .val (.int i2), .val (.int i3), .val (.double (9218868437227405312 : UInt64)), .second, .val (.int z137), .val (.int z140), .val (.int z143), .val (.int z146), .val (.ref b149), .val (.ref b153), .unset, .unset, .unset, .unset, .unset, .unset, .unset, .unset, .unset] [(.int y3), (.int z146), (.ref b153)])) rfl rfl (hb hby at_309)
                        rw [show (z146).toNatClampNeg = V3 from own_clamp hV3] at V367
                        obtain ⟨gf367, hgf367, V367'⟩ := own_nameI (g := gf349) V367
                        have F368 : own_Arf Z h367 b149 .double 4 (fun i => (.double (gf358 i))) := F359.other W367 ne154
                        have F369 : own_Arf Z h367 b153 .int 4 (fun i => (.int (gf367 i))) := V367'
                        have Zs370 : n0 ≤ h367.size := by rw [W367.size]; exact Zs361
                        have N371 := Fr.snoc X367 N362 ge153
                        have K372 : Keep h0 h367 [] := K363.wr W367 (Or.inr old153)
                        have r367 : own_R p.tables e below F0 (T367.setTop (mkF m 310 #[.val (.int p0s), .val (.int p1s), .val (.int p2s), .val (.int p3s), .val (.int p4s), .val (.int z119), .val (.int dd), .val (.int z123), .val (.int z124), .val (.int i1), .val (.int i2), .val (.int i3), .val (.double (9218868437227405312 : UInt64)), .second, .val (.int z137), .val (.int z140), .val (.int z143), .val (.int z146), .val (.ref b149), .val (.ref b153), .unset, .unset, .unset, .unset, .unset, .unset, .unset, .unset, .unset] [])) := fun tg_ kg_ => r366 tg_ (st367 tg_ kg_)
                        obtain ⟨u0, u1, u2, u3, u4, u5, u6, u7, u8, u9⟩ := hVs
                        exact J159 gf358 gf367 T367 _ _ X367 e367 N371 Zs370 K372 F368 F369 (show own_nf (gf358 V0) ∧ ((i1.toInt = 0 → own_nf (gf358 V1)) ∧ (i1.toInt = 1 → gf358 V1 = (9218868437227405312 : UInt64))) ∧ ((i2.toInt = 0 → own_nf (gf358 V2)) ∧ (i2.toInt = 1 → gf358 V2 = (9218868437227405312 : UInt64))) ∧ ((i3.toInt = 0 → own_nf (gf358 V3)) ∧ (i3.toInt = 1 → gf358 V3 = (9218868437227405312 : UInt64))) from ⟨by rw [hgf358, if_neg u6, hgf340, if_neg u5, hgf322, if_neg u4, hgf306, if_pos rfl]; exact own_nf0, ⟨fun q => by rw [hgf358, if_neg u8, hgf340, if_neg u7, hgf322, if_pos rfl]; exact hx1.1 q, fun q => by rw [hgf358, if_neg u8, hgf340, if_neg u7, hgf322, if_pos rfl]; exact hx1.2 q⟩, ⟨fun q => by rw [hgf358, if_neg u9, hgf340, if_pos rfl]; exact hx2.1 q, fun q => by rw [hgf358, if_neg u9, hgf340, if_pos rfl]; exact hx2.2 q⟩, ⟨fun q => by rw [hgf358, if_pos rfl]; exact hx3.1 q, fun q => by rw [hgf358, if_pos rfl]; exact hx3.2 q⟩⟩) (show (i1.toInt = 0 → gf367 V1 = z137) ∧ (i2.toInt = 0 → (z123.toInt = 0 → gf367 V2 = z137) ∧ (z123.toInt = 1 → gf367 V2 = z140)) ∧ (i3.toInt = 0 → (z124.toInt = 0 → gf367 V3 = z137) ∧ (z124.toInt = 1 → gf367 V3 = z140) ∧ (z124.toInt = 2 → gf367 V3 = z143)) from ⟨fun q => by rw [hgf367, if_neg u8, hgf349, if_neg u7, hgf331, if_pos rfl]; exact hy1 q, fun q => ⟨fun z => by rw [hgf367, if_neg u9, hgf349, if_pos rfl]; exact (hy2 q).1 z, fun z => by rw [hgf367, if_neg u9, hgf349, if_pos rfl]; exact (hy2 q).2 z⟩, fun q => ⟨fun z => by rw [hgf367, if_pos rfl]; exact (hy3 q).1 z, fun z => by rw [hgf367, if_pos rfl]; exact (hy3 q).2.1 z, fun z => by rw [hgf367, if_pos rfl]; exact (hy3 q).2.2 z⟩⟩) r367
                      by_cases hc373 : i3 = (0 : Int32)
                      · have r374 : own_R p.tables e below F0 (T358.setTop (mkF m 288 #[.val (.int p0s), .val (.int p1s), .val (.int p2s), .val (.int p3s), .val (.int p4s), .val (.int z119), .val (.int dd), .val (.int z123), .val (.int z124), .val (.int i1), .val (.int i2), .val (.int i3), .val (.double (9218868437227405312 : UInt64)), .second, .val (.int z137), .val (.int z140), .val (.int z143), .val (.int z146), .val (.ref b149), .val (.ref b153), .unset, .unset, .unset, .unset, .unset, .unset, .unset, .unset, .unset] [(.int z124), (.int z146), (.ref b153)])) := fun tg_ kg_ => by
                          refine r364 tg_ ?_
                          show Steps p.tables e below (T358.setTop (mkF m 278 #[.val (.int p0s), .val (.int p1s), .val (.int p2s), .val (.int p3s), .val (.int p4s), .val (.int z119), .val (.int dd), .val (.int z123), .val (.int z124), .val (.int i1), .val (.int i2), .val (.int i3), .val (.double (9218868437227405312 : UInt64)), .second, .val (.int z137), .val (.int z140), .val (.int z143), .val (.int z146), .val (.ref b149), .val (.ref b153), .unset, .unset, .unset, .unset, .unset, .unset, .unset, .unset, .unset] [(.int i3), (.int z146), (.ref b153)])) _
                          refine XS.ifYes X358.here hx rfl (pc0 := 278) (pc' := 286) rfl (hb hby at_278) rfl ((if0 _ _).trans (teq hc373).1) (by decide) (by decide) ?_
                          show Steps p.tables e below (T358.setTop (mkF m 286 #[.val (.int p0s), .val (.int p1s), .val (.int p2s), .val (.int p3s), .val (.int p4s), .val (.int z119), .val (.int dd), .val (.int z123), .val (.int z124), .val (.int i1), .val (.int i2), .val (.int i3), .val (.double (9218868437227405312 : UInt64)), .second, .val (.int z137), .val (.int z140), .val (.int z143), .val (.int z146), .val (.ref b149), .val (.ref b153), .unset, .unset, .unset, .unset, .unset, .unset, .unset, .unset, .unset] [(.int z146), (.ref b153)])) _
                          refine XS.iload X358.here hx rfl (hb hby at_286) rfl ?_
                          exact kg_
                        by_cases hc375 : z124 = (0 : Int32)
                        · have r376 : own_R p.tables e below F0 (T358.setTop (mkF m 309 #[.val (.int p0s), .val (.int p1s), .val (.int p2s), .val (.int p3s), .val (.int p4s), .val (.int z119), .val (.int dd), .val (.int z123), .val (.int z124), .val (.int i1), .val (.int i2), .val (.int i3), .val (.double (9218868437227405312 : UInt64)), .second, .val (.int z137), .val (.int z140), .val (.int z143), .val (.int z146), .val (.ref b149), .val (.ref b153), .unset, .unset, .unset, .unset, .unset, .unset, .unset, .unset, .unset] [(.int z137), (.int z146), (.ref b153)])) := fun tg_ kg_ => by
                            refine r374 tg_ ?_
                            show Steps p.tables e below (T358.setTop (mkF m 288 #[.val (.int p0s), .val (.int p1s), .val (.int p2s), .val (.int p3s), .val (.int p4s), .val (.int z119), .val (.int dd), .val (.int z123), .val (.int z124), .val (.int i1), .val (.int i2), .val (.int i3), .val (.double (9218868437227405312 : UInt64)), .second, .val (.int z137), .val (.int z140), .val (.int z143), .val (.int z146), .val (.ref b149), .val (.ref b153), .unset, .unset, .unset, .unset, .unset, .unset, .unset, .unset, .unset] [(.int z124), (.int z146), (.ref b153)])) _
                            refine XS.ifNo X358.here hx rfl (hb hby at_288) rfl ((if0 _ _).trans (teq hc375).2) ?_
                            show Steps p.tables e below (T358.setTop (mkF m 291 #[.val (.int p0s), .val (.int p1s), .val (.int p2s), .val (.int p3s), .val (.int p4s), .val (.int z119), .val (.int dd), .val (.int z123), .val (.int z124), .val (.int i1), .val (.int i2), .val (.int i3), .val (.double (9218868437227405312 : UInt64)), .second, .val (.int z137), .val (.int z140), .val (.int z143), .val (.int z146), .val (.ref b149), .val (.ref b153), .unset, .unset, .unset, .unset, .unset, .unset, .unset, .unset, .unset] [(.int z146), (.ref b153)])) _
                            refine XS.iload X358.here hx rfl (hb hby at_291) rfl ?_
                            show Steps p.tables e below (T358.setTop (mkF m 293 #[.val (.int p0s), .val (.int p1s), .val (.int p2s), .val (.int p3s), .val (.int p4s), .val (.int z119), .val (.int dd), .val (.int z123), .val (.int z124), .val (.int i1), .val (.int i2), .val (.int i3), .val (.double (9218868437227405312 : UInt64)), .second, .val (.int z137), .val (.int z140), .val (.int z143), .val (.int z146), .val (.ref b149), .val (.ref b153), .unset, .unset, .unset, .unset, .unset, .unset, .unset, .unset, .unset] [(.int z137), (.int z146), (.ref b153)])) _
                            refine XS.goto X358.here hx rfl (pc0 := 293) (pc' := 309) rfl (hb hby at_293) (by decide) (by decide) ?_
                            exact kg_
                          exact J365 z137 (by
                                have u1 : z123.toInt = 0 ∨ z123.toInt = 1 := hp2
                                have u2 : z124.toInt = 0 ∨ z124.toInt = 1 ∨ z124.toInt = 2 := hp3
                                have z0 : (0 : Int32).toInt = 0 := rfl
                                have z9 : (1 : Int32).toInt = 1 := rfl
                                have z1 := own_eq32 hc373
                                have z2 := own_eq32 hc375
                                intros
                                first | rfl | (exfalso; omega) | (refine ⟨fun q1 => ?_, fun q1 => ?_⟩ <;> first | rfl | (exfalso; omega)) | (refine ⟨fun q1 => ?_, fun q1 => ?_, fun q1 => ?_⟩ <;> first | rfl | (exfalso; omega))) r376
                        · have r377 : own_R p.tables e below F0 (T358.setTop (mkF m 299 #[.val (.int p0s), .val (.int p1s), .val (.int p2s), .val (.int p3s), .val (.int p4s), .val (.int z119), .val (.int dd), .val (.int z123), .val (.int z124), .val (.int i1), .val (.int i2), .val (.int i3), .val (.double (9218868437227405312 : UInt64)), .second, .val (.int z137), .val (.int z140), .val (.int z143), .val (.int z146), .val (.ref b149), .val (.ref b153), .unset, .unset, .unset, .unset, .unset, .unset, .unset, .unset, .unset] [(.int (1 : Int32)), (.int z124), (.int z146), (.ref b153)])) := fun tg_ kg_ => by
                            refine r374 tg_ ?_
                            show Steps p.tables e below (T358.setTop (mkF m 288 #[.val (.int p0s), .val (.int p1s), .val (.int p2s), .val (.int p3s), .val (.int p4s), .val (.int z119), .val (.int dd), .val (.int z123), .val (.int z124), .val (.int i1), .val (.int i2), .val (.int i3), .val (.double (9218868437227405312 : UInt64)), .second, .val (.int z137), .val (.int z140), .val (.int z143), .val (.int z146), .val (.ref b149), .val (.ref b153), .unset, .unset, .unset, .unset, .unset, .unset, .unset, .unset, .unset] [(.int z124), (.int z146), (.ref b153)])) _
                            refine XS.ifYes X358.here hx rfl (pc0 := 288) (pc' := 296) rfl (hb hby at_288) rfl ((if0 _ _).trans (feq hc375).2) (by decide) (by decide) ?_
                            show Steps p.tables e below (T358.setTop (mkF m 296 #[.val (.int p0s), .val (.int p1s), .val (.int p2s), .val (.int p3s), .val (.int p4s), .val (.int z119), .val (.int dd), .val (.int z123), .val (.int z124), .val (.int i1), .val (.int i2), .val (.int i3), .val (.double (9218868437227405312 : UInt64)), .second, .val (.int z137), .val (.int z140), .val (.int z143), .val (.int z146), .val (.ref b149), .val (.ref b153), .unset, .unset, .unset, .unset, .unset, .unset, .unset, .unset, .unset] [(.int z146), (.ref b153)])) _
                            refine XS.iload X358.here hx rfl (hb hby at_296) rfl ?_
                            show Steps p.tables e below (T358.setTop (mkF m 298 #[.val (.int p0s), .val (.int p1s), .val (.int p2s), .val (.int p3s), .val (.int p4s), .val (.int z119), .val (.int dd), .val (.int z123), .val (.int z124), .val (.int i1), .val (.int i2), .val (.int i3), .val (.double (9218868437227405312 : UInt64)), .second, .val (.int z137), .val (.int z140), .val (.int z143), .val (.int z146), .val (.ref b149), .val (.ref b153), .unset, .unset, .unset, .unset, .unset, .unset, .unset, .unset, .unset] [(.int z124), (.int z146), (.ref b153)])) _
                            refine XS.iconst X358.here hx rfl (hb hby at_298) ?_
                            exact kg_
                          by_cases hc378 : z124 = (1 : Int32)
                          · have r379 : own_R p.tables e below F0 (T358.setTop (mkF m 309 #[.val (.int p0s), .val (.int p1s), .val (.int p2s), .val (.int p3s), .val (.int p4s), .val (.int z119), .val (.int dd), .val (.int z123), .val (.int z124), .val (.int i1), .val (.int i2), .val (.int i3), .val (.double (9218868437227405312 : UInt64)), .second, .val (.int z137), .val (.int z140), .val (.int z143), .val (.int z146), .val (.ref b149), .val (.ref b153), .unset, .unset, .unset, .unset, .unset, .unset, .unset, .unset, .unset] [(.int z140), (.int z146), (.ref b153)])) := fun tg_ kg_ => by
                              refine r377 tg_ ?_
                              show Steps p.tables e below (T358.setTop (mkF m 299 #[.val (.int p0s), .val (.int p1s), .val (.int p2s), .val (.int p3s), .val (.int p4s), .val (.int z119), .val (.int dd), .val (.int z123), .val (.int z124), .val (.int i1), .val (.int i2), .val (.int i3), .val (.double (9218868437227405312 : UInt64)), .second, .val (.int z137), .val (.int z140), .val (.int z143), .val (.int z146), .val (.ref b149), .val (.ref b153), .unset, .unset, .unset, .unset, .unset, .unset, .unset, .unset, .unset] [(.int (1 : Int32)), (.int z124), (.int z146), (.ref b153)])) _
                              refine XS.icmpNo X358.here hx rfl (hb hby at_299) rfl (teq hc378).2 ?_
                              show Steps p.tables e below (T358.setTop (mkF m 302 #[.val (.int p0s), .val (.int p1s), .val (.int p2s), .val (.int p3s), .val (.int p4s), .val (.int z119), .val (.int dd), .val (.int z123), .val (.int z124), .val (.int i1), .val (.int i2), .val (.int i3), .val (.double (9218868437227405312 : UInt64)), .second, .val (.int z137), .val (.int z140), .val (.int z143), .val (.int z146), .val (.ref b149), .val (.ref b153), .unset, .unset, .unset, .unset, .unset, .unset, .unset, .unset, .unset] [(.int z146), (.ref b153)])) _
                              refine XS.iload X358.here hx rfl (hb hby at_302) rfl ?_
                              show Steps p.tables e below (T358.setTop (mkF m 304 #[.val (.int p0s), .val (.int p1s), .val (.int p2s), .val (.int p3s), .val (.int p4s), .val (.int z119), .val (.int dd), .val (.int z123), .val (.int z124), .val (.int i1), .val (.int i2), .val (.int i3), .val (.double (9218868437227405312 : UInt64)), .second, .val (.int z137), .val (.int z140), .val (.int z143), .val (.int z146), .val (.ref b149), .val (.ref b153), .unset, .unset, .unset, .unset, .unset, .unset, .unset, .unset, .unset] [(.int z140), (.int z146), (.ref b153)])) _
                              refine XS.goto X358.here hx rfl (pc0 := 304) (pc' := 309) rfl (hb hby at_304) (by decide) (by decide) ?_
                              exact kg_
                            exact J365 z140 (by
                                  have u1 : z123.toInt = 0 ∨ z123.toInt = 1 := hp2
                                  have u2 : z124.toInt = 0 ∨ z124.toInt = 1 ∨ z124.toInt = 2 := hp3
                                  have z0 : (0 : Int32).toInt = 0 := rfl
                                  have z9 : (1 : Int32).toInt = 1 := rfl
                                  have z1 := own_eq32 hc373
                                  have z2 := own_ne32 hc375
                                  have z3 := own_eq32 hc378
                                  intros
                                  first | rfl | (exfalso; omega) | (refine ⟨fun q1 => ?_, fun q1 => ?_⟩ <;> first | rfl | (exfalso; omega)) | (refine ⟨fun q1 => ?_, fun q1 => ?_, fun q1 => ?_⟩ <;> first | rfl | (exfalso; omega))) r379
                          · have r380 : own_R p.tables e below F0 (T358.setTop (mkF m 309 #[.val (.int p0s), .val (.int p1s), .val (.int p2s), .val (.int p3s), .val (.int p4s), .val (.int z119), .val (.int dd), .val (.int z123), .val (.int z124), .val (.int i1), .val (.int i2), .val (.int i3), .val (.double (9218868437227405312 : UInt64)), .second, .val (.int z137), .val (.int z140), .val (.int z143), .val (.int z146), .val (.ref b149), .val (.ref b153), .unset, .unset, .unset, .unset, .unset, .unset, .unset, .unset, .unset] [(.int z143), (.int z146), (.ref b153)])) := fun tg_ kg_ => by
                              refine r377 tg_ ?_
                              show Steps p.tables e below (T358.setTop (mkF m 299 #[.val (.int p0s), .val (.int p1s), .val (.int p2s), .val (.int p3s), .val (.int p4s), .val (.int z119), .val (.int dd), .val (.int z123), .val (.int z124), .val (.int i1), .val (.int i2), .val (.int i3), .val (.double (9218868437227405312 : UInt64)), .second, .val (.int z137), .val (.int z140), .val (.int z143), .val (.int z146), .val (.ref b149), .val (.ref b153), .unset, .unset, .unset, .unset, .unset, .unset, .unset, .unset, .unset] [(.int (1 : Int32)), (.int z124), (.int z146), (.ref b153)])) _
                              refine XS.icmpYes X358.here hx rfl (pc0 := 299) (pc' := 307) rfl (hb hby at_299) rfl (feq hc378).2 (by decide) (by decide) ?_
                              show Steps p.tables e below (T358.setTop (mkF m 307 #[.val (.int p0s), .val (.int p1s), .val (.int p2s), .val (.int p3s), .val (.int p4s), .val (.int z119), .val (.int dd), .val (.int z123), .val (.int z124), .val (.int i1), .val (.int i2), .val (.int i3), .val (.double (9218868437227405312 : UInt64)), .second, .val (.int z137), .val (.int z140), .val (.int z143), .val (.int z146), .val (.ref b149), .val (.ref b153), .unset, .unset, .unset, .unset, .unset, .unset, .unset, .unset, .unset] [(.int z146), (.ref b153)])) _
                              refine XS.iload X358.here hx rfl (hb hby at_307) rfl ?_
                              exact kg_
                            exact J365 z143 (by
                                  have u1 : z123.toInt = 0 ∨ z123.toInt = 1 := hp2
                                  have u2 : z124.toInt = 0 ∨ z124.toInt = 1 ∨ z124.toInt = 2 := hp3
                                  have z0 : (0 : Int32).toInt = 0 := rfl
                                  have z9 : (1 : Int32).toInt = 1 := rfl
                                  have z1 := own_eq32 hc373
                                  have z2 := own_ne32 hc375
                                  have z3 := own_ne32 hc378
                                  intros
                                  first | rfl | (exfalso; omega) | (refine ⟨fun q1 => ?_, fun q1 => ?_⟩ <;> first | rfl | (exfalso; omega)) | (refine ⟨fun q1 => ?_, fun q1 => ?_, fun q1 => ?_⟩ <;> first | rfl | (exfalso; omega))) r380
                      · have r381 : own_R p.tables e below F0 (T358.setTop (mkF m 309 #[.val (.int p0s), .val (.int p1s), .val (.int p2s), .val (.int p3s), .val (.int p4s), .val (.int z119), .val (.int dd), .val (.int z123), .val (.int z124), .val (.int i1), .val (.int i2), .val (.int i3), .val (.double (9218868437227405312 : UInt64)), .second, .val (.int z137), .val (.int z140), .val (.int z143), .val (.int z146), .val (.ref b149), .val (.ref b153), .unset, .unset, .unset, .unset, .unset, .unset, .unset, .unset, .unset] [(.int p4s), (.int z146), (.ref b153)])) := fun tg_ kg_ => by
                          refine r364 tg_ ?_
                          show Steps p.tables e below (T358.setTop (mkF m 278 #[.val (.int p0s), .val (.int p1s), .val (.int p2s), .val (.int p3s), .val (.int p4s), .val (.int z119), .val (.int dd), .val (.int z123), .val (.int z124), .val (.int i1), .val (.int i2), .val (.int i3), .val (.double (9218868437227405312 : UInt64)), .second, .val (.int z137), .val (.int z140), .val (.int z143), .val (.int z146), .val (.ref b149), .val (.ref b153), .unset, .unset, .unset, .unset, .unset, .unset, .unset, .unset, .unset] [(.int i3), (.int z146), (.ref b153)])) _
                          refine XS.ifNo X358.here hx rfl (hb hby at_278) rfl ((if0 _ _).trans (feq hc373).1) ?_
                          show Steps p.tables e below (T358.setTop (mkF m 281 #[.val (.int p0s), .val (.int p1s), .val (.int p2s), .val (.int p3s), .val (.int p4s), .val (.int z119), .val (.int dd), .val (.int z123), .val (.int z124), .val (.int i1), .val (.int i2), .val (.int i3), .val (.double (9218868437227405312 : UInt64)), .second, .val (.int z137), .val (.int z140), .val (.int z143), .val (.int z146), .val (.ref b149), .val (.ref b153), .unset, .unset, .unset, .unset, .unset, .unset, .unset, .unset, .unset] [(.int z146), (.ref b153)])) _
                          refine XS.iload X358.here hx rfl (hb hby at_281) rfl ?_
                          show Steps p.tables e below (T358.setTop (mkF m 283 #[.val (.int p0s), .val (.int p1s), .val (.int p2s), .val (.int p3s), .val (.int p4s), .val (.int z119), .val (.int dd), .val (.int z123), .val (.int z124), .val (.int i1), .val (.int i2), .val (.int i3), .val (.double (9218868437227405312 : UInt64)), .second, .val (.int z137), .val (.int z140), .val (.int z143), .val (.int z146), .val (.ref b149), .val (.ref b153), .unset, .unset, .unset, .unset, .unset, .unset, .unset, .unset, .unset] [(.int p4s), (.int z146), (.ref b153)])) _
                          refine XS.goto X358.here hx rfl (pc0 := 283) (pc' := 309) rfl (hb hby at_283) (by decide) (by decide) ?_
                          exact kg_
                        exact J365 p4s (by
                              have u1 : z123.toInt = 0 ∨ z123.toInt = 1 := hp2
                              have u2 : z124.toInt = 0 ∨ z124.toInt = 1 ∨ z124.toInt = 2 := hp3
                              have z0 : (0 : Int32).toInt = 0 := rfl
                              have z9 : (1 : Int32).toInt = 1 := rfl
                              have z1 := own_ne32 hc373
                              intros
                              first | rfl | (exfalso; omega) | (refine ⟨fun q1 => ?_, fun q1 => ?_⟩ <;> first | rfl | (exfalso; omega)) | (refine ⟨fun q1 => ?_, fun q1 => ?_, fun q1 => ?_⟩ <;> first | rfl | (exfalso; omega))) r381
                    by_cases hc382 : i3 = (0 : Int32)
                    · have r383 : own_R p.tables e below F0 (T349.setTop (mkF m 271 #[.val (.int p0s), .val (.int p1s), .val (.int p2s), .val (.int p3s), .val (.int p4s), .val (.int z119), .val (.int dd), .val (.int z123), .val (.int z124), .val (.int i1), .val (.int i2), .val (.int i3), .val (.double (9218868437227405312 : UInt64)), .second, .val (.int z137), .val (.int z140), .val (.int z143), .val (.int z146), .val (.ref b149), .val (.ref b153), .unset, .unset, .unset, .unset, .unset, .unset, .unset, .unset, .unset] [(.double (4613937818241073152 : UInt64)), (.int z146), (.ref b149)])) := fun tg_ kg_ => by
                        refine r355 tg_ ?_
                        show Steps p.tables e below (T349.setTop (mkF m 260 #[.val (.int p0s), .val (.int p1s), .val (.int p2s), .val (.int p3s), .val (.int p4s), .val (.int z119), .val (.int dd), .val (.int z123), .val (.int z124), .val (.int i1), .val (.int i2), .val (.int i3), .val (.double (9218868437227405312 : UInt64)), .second, .val (.int z137), .val (.int z140), .val (.int z143), .val (.int z146), .val (.ref b149), .val (.ref b153), .unset, .unset, .unset, .unset, .unset, .unset, .unset, .unset, .unset] [(.int i3), (.int z146), (.ref b149)])) _
                        refine XS.ifYes X349.here hx rfl (pc0 := 260) (pc' := 268) rfl (hb hby at_260) rfl ((if0 _ _).trans (teq hc382).1) (by decide) (by decide) ?_
                        show Steps p.tables e below (T349.setTop (mkF m 268 #[.val (.int p0s), .val (.int p1s), .val (.int p2s), .val (.int p3s), .val (.int p4s), .val (.int z119), .val (.int dd), .val (.int z123), .val (.int z124), .val (.int i1), .val (.int i2), .val (.int i3), .val (.double (9218868437227405312 : UInt64)), .second, .val (.int z137), .val (.int z140), .val (.int z143), .val (.int z146), .val (.ref b149), .val (.ref b153), .unset, .unset, .unset, .unset, .unset, .unset, .unset, .unset, .unset] [(.int z146), (.ref b149)])) _
                        refine X349.ldc2DoubleC hx hown (mvT hZ (hw _ (List.mem_of_getElem? (i := 7) rfl))) (g := (mkF m 268 #[.val (.int p0s), .val (.int p1s), .val (.int p2s), .val (.int p3s), .val (.int p4s), .val (.int z119), .val (.int dd), .val (.int z123), .val (.int z124), .val (.int i1), .val (.int i2), .val (.int i3), .val (.double (9218868437227405312 : UInt64)), .second, .val (.int z137), .val (.int z140), .val (.int z143), .val (.int z146), .val (.ref b149), .val (.ref b153), .unset, .unset, .unset, .unset, .unset, .unset, .unset, .unset, .unset] [(.int z146), (.ref b149)])) rfl (hb hby at_268) _ ?_
                        exact kg_
                      exact J356 (4613937818241073152 : UInt64) ⟨fun _ => own_nf3, fun q => absurd q (by have z1 := own_eq32 hc382; have z0 : (0 : Int32).toInt = 0 := rfl; omega)⟩ r383
                    · have r384 : own_R p.tables e below F0 (T349.setTop (mkF m 271 #[.val (.int p0s), .val (.int p1s), .val (.int p2s), .val (.int p3s), .val (.int p4s), .val (.int z119), .val (.int dd), .val (.int z123), .val (.int z124), .val (.int i1), .val (.int i2), .val (.int i3), .val (.double (9218868437227405312 : UInt64)), .second, .val (.int z137), .val (.int z140), .val (.int z143), .val (.int z146), .val (.ref b149), .val (.ref b153), .unset, .unset, .unset, .unset, .unset, .unset, .unset, .unset, .unset] [(.double (9218868437227405312 : UInt64)), (.int z146), (.ref b149)])) := fun tg_ kg_ => by
                        refine r355 tg_ ?_
                        show Steps p.tables e below (T349.setTop (mkF m 260 #[.val (.int p0s), .val (.int p1s), .val (.int p2s), .val (.int p3s), .val (.int p4s), .val (.int z119), .val (.int dd), .val (.int z123), .val (.int z124), .val (.int i1), .val (.int i2), .val (.int i3), .val (.double (9218868437227405312 : UInt64)), .second, .val (.int z137), .val (.int z140), .val (.int z143), .val (.int z146), .val (.ref b149), .val (.ref b153), .unset, .unset, .unset, .unset, .unset, .unset, .unset, .unset, .unset] [(.int i3), (.int z146), (.ref b149)])) _
                        refine XS.ifNo X349.here hx rfl (hb hby at_260) rfl ((if0 _ _).trans (feq hc382).1) ?_
                        show Steps p.tables e below (T349.setTop (mkF m 263 #[.val (.int p0s), .val (.int p1s), .val (.int p2s), .val (.int p3s), .val (.int p4s), .val (.int z119), .val (.int dd), .val (.int z123), .val (.int z124), .val (.int i1), .val (.int i2), .val (.int i3), .val (.double (9218868437227405312 : UInt64)), .second, .val (.int z137), .val (.int z140), .val (.int z143), .val (.int z146), .val (.ref b149), .val (.ref b153), .unset, .unset, .unset, .unset, .unset, .unset, .unset, .unset, .unset] [(.int z146), (.ref b149)])) _
                        refine XS.dload X349.here hx rfl (hb hby at_263) rfl ?_
                        show Steps p.tables e below (T349.setTop (mkF m 265 #[.val (.int p0s), .val (.int p1s), .val (.int p2s), .val (.int p3s), .val (.int p4s), .val (.int z119), .val (.int dd), .val (.int z123), .val (.int z124), .val (.int i1), .val (.int i2), .val (.int i3), .val (.double (9218868437227405312 : UInt64)), .second, .val (.int z137), .val (.int z140), .val (.int z143), .val (.int z146), .val (.ref b149), .val (.ref b153), .unset, .unset, .unset, .unset, .unset, .unset, .unset, .unset, .unset] [(.double (9218868437227405312 : UInt64)), (.int z146), (.ref b149)])) _
                        refine XS.goto X349.here hx rfl (pc0 := 265) (pc' := 271) rfl (hb hby at_265) (by decide) (by decide) ?_
                        exact kg_
                      exact J356 (9218868437227405312 : UInt64) ⟨fun q => absurd q (by have z1 := own_ne32 hc382; have z0 : (0 : Int32).toInt = 0 := rfl; omega), fun _ => rfl⟩ r384
                  by_cases hc385 : i2 = (0 : Int32)
                  · have r386 : own_R p.tables e below F0 (T340.setTop (mkF m 243 #[.val (.int p0s), .val (.int p1s), .val (.int p2s), .val (.int p3s), .val (.int p4s), .val (.int z119), .val (.int dd), .val (.int z123), .val (.int z124), .val (.int i1), .val (.int i2), .val (.int i3), .val (.double (9218868437227405312 : UInt64)), .second, .val (.int z137), .val (.int z140), .val (.int z143), .val (.int z146), .val (.ref b149), .val (.ref b153), .unset, .unset, .unset, .unset, .unset, .unset, .unset, .unset, .unset] [(.int z123), (.int z143), (.ref b153)])) := fun tg_ kg_ => by
                      refine r346 tg_ ?_
                      show Steps p.tables e below (T340.setTop (mkF m 233 #[.val (.int p0s), .val (.int p1s), .val (.int p2s), .val (.int p3s), .val (.int p4s), .val (.int z119), .val (.int dd), .val (.int z123), .val (.int z124), .val (.int i1), .val (.int i2), .val (.int i3), .val (.double (9218868437227405312 : UInt64)), .second, .val (.int z137), .val (.int z140), .val (.int z143), .val (.int z146), .val (.ref b149), .val (.ref b153), .unset, .unset, .unset, .unset, .unset, .unset, .unset, .unset, .unset] [(.int i2), (.int z143), (.ref b153)])) _
                      refine XS.ifYes X340.here hx rfl (pc0 := 233) (pc' := 241) rfl (hb hby at_233) rfl ((if0 _ _).trans (teq hc385).1) (by decide) (by decide) ?_
                      show Steps p.tables e below (T340.setTop (mkF m 241 #[.val (.int p0s), .val (.int p1s), .val (.int p2s), .val (.int p3s), .val (.int p4s), .val (.int z119), .val (.int dd), .val (.int z123), .val (.int z124), .val (.int i1), .val (.int i2), .val (.int i3), .val (.double (9218868437227405312 : UInt64)), .second, .val (.int z137), .val (.int z140), .val (.int z143), .val (.int z146), .val (.ref b149), .val (.ref b153), .unset, .unset, .unset, .unset, .unset, .unset, .unset, .unset, .unset] [(.int z143), (.ref b153)])) _
                      refine XS.iload X340.here hx rfl (hb hby at_241) rfl ?_
                      exact kg_
                    by_cases hc387 : z123 = (0 : Int32)
                    · have r388 : own_R p.tables e below F0 (T340.setTop (mkF m 253 #[.val (.int p0s), .val (.int p1s), .val (.int p2s), .val (.int p3s), .val (.int p4s), .val (.int z119), .val (.int dd), .val (.int z123), .val (.int z124), .val (.int i1), .val (.int i2), .val (.int i3), .val (.double (9218868437227405312 : UInt64)), .second, .val (.int z137), .val (.int z140), .val (.int z143), .val (.int z146), .val (.ref b149), .val (.ref b153), .unset, .unset, .unset, .unset, .unset, .unset, .unset, .unset, .unset] [(.int z137), (.int z143), (.ref b153)])) := fun tg_ kg_ => by
                        refine r386 tg_ ?_
                        show Steps p.tables e below (T340.setTop (mkF m 243 #[.val (.int p0s), .val (.int p1s), .val (.int p2s), .val (.int p3s), .val (.int p4s), .val (.int z119), .val (.int dd), .val (.int z123), .val (.int z124), .val (.int i1), .val (.int i2), .val (.int i3), .val (.double (9218868437227405312 : UInt64)), .second, .val (.int z137), .val (.int z140), .val (.int z143), .val (.int z146), .val (.ref b149), .val (.ref b153), .unset, .unset, .unset, .unset, .unset, .unset, .unset, .unset, .unset] [(.int z123), (.int z143), (.ref b153)])) _
                        refine XS.ifNo X340.here hx rfl (hb hby at_243) rfl ((if0 _ _).trans (teq hc387).2) ?_
                        show Steps p.tables e below (T340.setTop (mkF m 246 #[.val (.int p0s), .val (.int p1s), .val (.int p2s), .val (.int p3s), .val (.int p4s), .val (.int z119), .val (.int dd), .val (.int z123), .val (.int z124), .val (.int i1), .val (.int i2), .val (.int i3), .val (.double (9218868437227405312 : UInt64)), .second, .val (.int z137), .val (.int z140), .val (.int z143), .val (.int z146), .val (.ref b149), .val (.ref b153), .unset, .unset, .unset, .unset, .unset, .unset, .unset, .unset, .unset] [(.int z143), (.ref b153)])) _
                        refine XS.iload X340.here hx rfl (hb hby at_246) rfl ?_
                        show Steps p.tables e below (T340.setTop (mkF m 248 #[.val (.int p0s), .val (.int p1s), .val (.int p2s), .val (.int p3s), .val (.int p4s), .val (.int z119), .val (.int dd), .val (.int z123), .val (.int z124), .val (.int i1), .val (.int i2), .val (.int i3), .val (.double (9218868437227405312 : UInt64)), .second, .val (.int z137), .val (.int z140), .val (.int z143), .val (.int z146), .val (.ref b149), .val (.ref b153), .unset, .unset, .unset, .unset, .unset, .unset, .unset, .unset, .unset] [(.int z137), (.int z143), (.ref b153)])) _
                        refine XS.goto X340.here hx rfl (pc0 := 248) (pc' := 253) rfl (hb hby at_248) (by decide) (by decide) ?_
                        exact kg_
                      exact J347 z137 (by
                            have u1 : z123.toInt = 0 ∨ z123.toInt = 1 := hp2
                            have u2 : z124.toInt = 0 ∨ z124.toInt = 1 ∨ z124.toInt = 2 := hp3
                            have z0 : (0 : Int32).toInt = 0 := rfl
                            have z9 : (1 : Int32).toInt = 1 := rfl
                            have z1 := own_eq32 hc385
                            have z2 := own_eq32 hc387
                            intros
                            first | rfl | (exfalso; omega) | (refine ⟨fun q1 => ?_, fun q1 => ?_⟩ <;> first | rfl | (exfalso; omega)) | (refine ⟨fun q1 => ?_, fun q1 => ?_, fun q1 => ?_⟩ <;> first | rfl | (exfalso; omega))) r388
                    · have r389 : own_R p.tables e below F0 (T340.setTop (mkF m 253 #[.val (.int p0s), .val (.int p1s), .val (.int p2s), .val (.int p3s), .val (.int p4s), .val (.int z119), .val (.int dd), .val (.int z123), .val (.int z124), .val (.int i1), .val (.int i2), .val (.int i3), .val (.double (9218868437227405312 : UInt64)), .second, .val (.int z137), .val (.int z140), .val (.int z143), .val (.int z146), .val (.ref b149), .val (.ref b153), .unset, .unset, .unset, .unset, .unset, .unset, .unset, .unset, .unset] [(.int z140), (.int z143), (.ref b153)])) := fun tg_ kg_ => by
                        refine r386 tg_ ?_
                        show Steps p.tables e below (T340.setTop (mkF m 243 #[.val (.int p0s), .val (.int p1s), .val (.int p2s), .val (.int p3s), .val (.int p4s), .val (.int z119), .val (.int dd), .val (.int z123), .val (.int z124), .val (.int i1), .val (.int i2), .val (.int i3), .val (.double (9218868437227405312 : UInt64)), .second, .val (.int z137), .val (.int z140), .val (.int z143), .val (.int z146), .val (.ref b149), .val (.ref b153), .unset, .unset, .unset, .unset, .unset, .unset, .unset, .unset, .unset] [(.int z123), (.int z143), (.ref b153)])) _
                        refine XS.ifYes X340.here hx rfl (pc0 := 243) (pc' := 251) rfl (hb hby at_243) rfl ((if0 _ _).trans (feq hc387).2) (by decide) (by decide) ?_
                        show Steps p.tables e below (T340.setTop (mkF m 251 #[.val (.int p0s), .val (.int p1s), .val (.int p2s), .val (.int p3s), .val (.int p4s), .val (.int z119), .val (.int dd), .val (.int z123), .val (.int z124), .val (.int i1), .val (.int i2), .val (.int i3), .val (.double (9218868437227405312 : UInt64)), .second, .val (.int z137), .val (.int z140), .val (.int z143), .val (.int z146), .val (.ref b149), .val (.ref b153), .unset, .unset, .unset, .unset, .unset, .unset, .unset, .unset, .unset] [(.int z143), (.ref b153)])) _
                        refine XS.iload X340.here hx rfl (hb hby at_251) rfl ?_
                        exact kg_
                      exact J347 z140 (by
                            have u1 : z123.toInt = 0 ∨ z123.toInt = 1 := hp2
                            have u2 : z124.toInt = 0 ∨ z124.toInt = 1 ∨ z124.toInt = 2 := hp3
                            have z0 : (0 : Int32).toInt = 0 := rfl
                            have z9 : (1 : Int32).toInt = 1 := rfl
                            have z1 := own_eq32 hc385
                            have z2 := own_ne32 hc387
                            intros
                            first | rfl | (exfalso; omega) | (refine ⟨fun q1 => ?_, fun q1 => ?_⟩ <;> first | rfl | (exfalso; omega)) | (refine ⟨fun q1 => ?_, fun q1 => ?_, fun q1 => ?_⟩ <;> first | rfl | (exfalso; omega))) r389
                  · have r390 : own_R p.tables e below F0 (T340.setTop (mkF m 253 #[.val (.int p0s), .val (.int p1s), .val (.int p2s), .val (.int p3s), .val (.int p4s), .val (.int z119), .val (.int dd), .val (.int z123), .val (.int z124), .val (.int i1), .val (.int i2), .val (.int i3), .val (.double (9218868437227405312 : UInt64)), .second, .val (.int z137), .val (.int z140), .val (.int z143), .val (.int z146), .val (.ref b149), .val (.ref b153), .unset, .unset, .unset, .unset, .unset, .unset, .unset, .unset, .unset] [(.int p4s), (.int z143), (.ref b153)])) := fun tg_ kg_ => by
                      refine r346 tg_ ?_
                      show Steps p.tables e below (T340.setTop (mkF m 233 #[.val (.int p0s), .val (.int p1s), .val (.int p2s), .val (.int p3s), .val (.int p4s), .val (.int z119), .val (.int dd), .val (.int z123), .val (.int z124), .val (.int i1), .val (.int i2), .val (.int i3), .val (.double (9218868437227405312 : UInt64)), .second, .val (.int z137), .val (.int z140), .val (.int z143), .val (.int z146), .val (.ref b149), .val (.ref b153), .unset, .unset, .unset, .unset, .unset, .unset, .unset, .unset, .unset] [(.int i2), (.int z143), (.ref b153)])) _
                      refine XS.ifNo X340.here hx rfl (hb hby at_233) rfl ((if0 _ _).trans (feq hc385).1) ?_
                      show Steps p.tables e below (T340.setTop (mkF m 236 #[.val (.int p0s), .val (.int p1s), .val (.int p2s), .val (.int p3s), .val (.int p4s), .val (.int z119), .val (.int dd), .val (.int z123), .val (.int z124), .val (.int i1), .val (.int i2), .val (.int i3), .val (.double (9218868437227405312 : UInt64)), .second, .val (.int z137), .val (.int z140), .val (.int z143), .val (.int z146), .val (.ref b149), .val (.ref b153), .unset, .unset, .unset, .unset, .unset, .unset, .unset, .unset, .unset] [(.int z143), (.ref b153)])) _
                      refine XS.iload X340.here hx rfl (hb hby at_236) rfl ?_
                      show Steps p.tables e below (T340.setTop (mkF m 238 #[.val (.int p0s), .val (.int p1s), .val (.int p2s), .val (.int p3s), .val (.int p4s), .val (.int z119), .val (.int dd), .val (.int z123), .val (.int z124), .val (.int i1), .val (.int i2), .val (.int i3), .val (.double (9218868437227405312 : UInt64)), .second, .val (.int z137), .val (.int z140), .val (.int z143), .val (.int z146), .val (.ref b149), .val (.ref b153), .unset, .unset, .unset, .unset, .unset, .unset, .unset, .unset, .unset] [(.int p4s), (.int z143), (.ref b153)])) _
                      refine XS.goto X340.here hx rfl (pc0 := 238) (pc' := 253) rfl (hb hby at_238) (by decide) (by decide) ?_
                      exact kg_
                    exact J347 p4s (by
                          have u1 : z123.toInt = 0 ∨ z123.toInt = 1 := hp2
                          have u2 : z124.toInt = 0 ∨ z124.toInt = 1 ∨ z124.toInt = 2 := hp3
                          have z0 : (0 : Int32).toInt = 0 := rfl
                          have z9 : (1 : Int32).toInt = 1 := rfl
                          have z1 := own_ne32 hc385
                          intros
                          first | rfl | (exfalso; omega) | (refine ⟨fun q1 => ?_, fun q1 => ?_⟩ <;> first | rfl | (exfalso; omega)) | (refine ⟨fun q1 => ?_, fun q1 => ?_, fun q1 => ?_⟩ <;> first | rfl | (exfalso; omega))) r390
                by_cases hc391 : i2 = (0 : Int32)
                · have r392 : own_R p.tables e below F0 (T331.setTop (mkF m 226 #[.val (.int p0s), .val (.int p1s), .val (.int p2s), .val (.int p3s), .val (.int p4s), .val (.int z119), .val (.int dd), .val (.int z123), .val (.int z124), .val (.int i1), .val (.int i2), .val (.int i3), .val (.double (9218868437227405312 : UInt64)), .second, .val (.int z137), .val (.int z140), .val (.int z143), .val (.int z146), .val (.ref b149), .val (.ref b153), .unset, .unset, .unset, .unset, .unset, .unset, .unset, .unset, .unset] [(.double (4611686018427387904 : UInt64)), (.int z143), (.ref b149)])) := fun tg_ kg_ => by
                    refine r337 tg_ ?_
                    show Steps p.tables e below (T331.setTop (mkF m 215 #[.val (.int p0s), .val (.int p1s), .val (.int p2s), .val (.int p3s), .val (.int p4s), .val (.int z119), .val (.int dd), .val (.int z123), .val (.int z124), .val (.int i1), .val (.int i2), .val (.int i3), .val (.double (9218868437227405312 : UInt64)), .second, .val (.int z137), .val (.int z140), .val (.int z143), .val (.int z146), .val (.ref b149), .val (.ref b153), .unset, .unset, .unset, .unset, .unset, .unset, .unset, .unset, .unset] [(.int i2), (.int z143), (.ref b149)])) _
                    refine XS.ifYes X331.here hx rfl (pc0 := 215) (pc' := 223) rfl (hb hby at_215) rfl ((if0 _ _).trans (teq hc391).1) (by decide) (by decide) ?_
                    show Steps p.tables e below (T331.setTop (mkF m 223 #[.val (.int p0s), .val (.int p1s), .val (.int p2s), .val (.int p3s), .val (.int p4s), .val (.int z119), .val (.int dd), .val (.int z123), .val (.int z124), .val (.int i1), .val (.int i2), .val (.int i3), .val (.double (9218868437227405312 : UInt64)), .second, .val (.int z137), .val (.int z140), .val (.int z143), .val (.int z146), .val (.ref b149), .val (.ref b153), .unset, .unset, .unset, .unset, .unset, .unset, .unset, .unset, .unset] [(.int z143), (.ref b149)])) _
                    refine X331.ldc2DoubleC hx hown (mvT hZ (hw _ (List.mem_of_getElem? (i := 29) rfl))) (g := (mkF m 223 #[.val (.int p0s), .val (.int p1s), .val (.int p2s), .val (.int p3s), .val (.int p4s), .val (.int z119), .val (.int dd), .val (.int z123), .val (.int z124), .val (.int i1), .val (.int i2), .val (.int i3), .val (.double (9218868437227405312 : UInt64)), .second, .val (.int z137), .val (.int z140), .val (.int z143), .val (.int z146), .val (.ref b149), .val (.ref b153), .unset, .unset, .unset, .unset, .unset, .unset, .unset, .unset, .unset] [(.int z143), (.ref b149)])) rfl (hb hby at_223) _ ?_
                    exact kg_
                  exact J338 (4611686018427387904 : UInt64) ⟨fun _ => own_nf2, fun q => absurd q (by have z1 := own_eq32 hc391; have z0 : (0 : Int32).toInt = 0 := rfl; omega)⟩ r392
                · have r393 : own_R p.tables e below F0 (T331.setTop (mkF m 226 #[.val (.int p0s), .val (.int p1s), .val (.int p2s), .val (.int p3s), .val (.int p4s), .val (.int z119), .val (.int dd), .val (.int z123), .val (.int z124), .val (.int i1), .val (.int i2), .val (.int i3), .val (.double (9218868437227405312 : UInt64)), .second, .val (.int z137), .val (.int z140), .val (.int z143), .val (.int z146), .val (.ref b149), .val (.ref b153), .unset, .unset, .unset, .unset, .unset, .unset, .unset, .unset, .unset] [(.double (9218868437227405312 : UInt64)), (.int z143), (.ref b149)])) := fun tg_ kg_ => by
                    refine r337 tg_ ?_
                    show Steps p.tables e below (T331.setTop (mkF m 215 #[.val (.int p0s), .val (.int p1s), .val (.int p2s), .val (.int p3s), .val (.int p4s), .val (.int z119), .val (.int dd), .val (.int z123), .val (.int z124), .val (.int i1), .val (.int i2), .val (.int i3), .val (.double (9218868437227405312 : UInt64)), .second, .val (.int z137), .val (.int z140), .val (.int z143), .val (.int z146), .val (.ref b149), .val (.ref b153), .unset, .unset, .unset, .unset, .unset, .unset, .unset, .unset, .unset] [(.int i2), (.int z143), (.ref b149)])) _
                    refine XS.ifNo X331.here hx rfl (hb hby at_215) rfl ((if0 _ _).trans (feq hc391).1) ?_
                    show Steps p.tables e below (T331.setTop (mkF m 218 #[.val (.int p0s), .val (.int p1s), .val (.int p2s), .val (.int p3s), .val (.int p4s), .val (.int z119), .val (.int dd), .val (.int z123), .val (.int z124), .val (.int i1), .val (.int i2), .val (.int i3), .val (.double (9218868437227405312 : UInt64)), .second, .val (.int z137), .val (.int z140), .val (.int z143), .val (.int z146), .val (.ref b149), .val (.ref b153), .unset, .unset, .unset, .unset, .unset, .unset, .unset, .unset, .unset] [(.int z143), (.ref b149)])) _
                    refine XS.dload X331.here hx rfl (hb hby at_218) rfl ?_
                    show Steps p.tables e below (T331.setTop (mkF m 220 #[.val (.int p0s), .val (.int p1s), .val (.int p2s), .val (.int p3s), .val (.int p4s), .val (.int z119), .val (.int dd), .val (.int z123), .val (.int z124), .val (.int i1), .val (.int i2), .val (.int i3), .val (.double (9218868437227405312 : UInt64)), .second, .val (.int z137), .val (.int z140), .val (.int z143), .val (.int z146), .val (.ref b149), .val (.ref b153), .unset, .unset, .unset, .unset, .unset, .unset, .unset, .unset, .unset] [(.double (9218868437227405312 : UInt64)), (.int z143), (.ref b149)])) _
                    refine XS.goto X331.here hx rfl (pc0 := 220) (pc' := 226) rfl (hb hby at_220) (by decide) (by decide) ?_
                    exact kg_
                  exact J338 (9218868437227405312 : UInt64) ⟨fun q => absurd q (by have z1 := own_ne32 hc391; have z0 : (0 : Int32).toInt = 0 := rfl; omega), fun _ => rfl⟩ r393
              by_cases hc394 : i1 = (0 : Int32)
              · have r395 : own_R p.tables e below F0 (T322.setTop (mkF m 208 #[.val (.int p0s), .val (.int p1s), .val (.int p2s), .val (.int p3s), .val (.int p4s), .val (.int z119), .val (.int dd), .val (.int z123), .val (.int z124), .val (.int i1), .val (.int i2), .val (.int i3), .val (.double (9218868437227405312 : UInt64)), .second, .val (.int z137), .val (.int z140), .val (.int z143), .val (.int z146), .val (.ref b149), .val (.ref b153), .unset, .unset, .unset, .unset, .unset, .unset, .unset, .unset, .unset] [(.int z137), (.int z140), (.ref b153)])) := fun tg_ kg_ => by
                  refine r328 tg_ ?_
                  show Steps p.tables e below (T322.setTop (mkF m 198 #[.val (.int p0s), .val (.int p1s), .val (.int p2s), .val (.int p3s), .val (.int p4s), .val (.int z119), .val (.int dd), .val (.int z123), .val (.int z124), .val (.int i1), .val (.int i2), .val (.int i3), .val (.double (9218868437227405312 : UInt64)), .second, .val (.int z137), .val (.int z140), .val (.int z143), .val (.int z146), .val (.ref b149), .val (.ref b153), .unset, .unset, .unset, .unset, .unset, .unset, .unset, .unset, .unset] [(.int i1), (.int z140), (.ref b153)])) _
                  refine XS.ifYes X322.here hx rfl (pc0 := 198) (pc' := 206) rfl (hb hby at_198) rfl ((if0 _ _).trans (teq hc394).1) (by decide) (by decide) ?_
                  show Steps p.tables e below (T322.setTop (mkF m 206 #[.val (.int p0s), .val (.int p1s), .val (.int p2s), .val (.int p3s), .val (.int p4s), .val (.int z119), .val (.int dd), .val (.int z123), .val (.int z124), .val (.int i1), .val (.int i2), .val (.int i3), .val (.double (9218868437227405312 : UInt64)), .second, .val (.int z137), .val (.int z140), .val (.int z143), .val (.int z146), .val (.ref b149), .val (.ref b153), .unset, .unset, .unset, .unset, .unset, .unset, .unset, .unset, .unset] [(.int z140), (.ref b153)])) _
                  refine XS.iload X322.here hx rfl (hb hby at_206) rfl ?_
                  exact kg_
                exact J329 z137 (by
                      have u1 : z123.toInt = 0 ∨ z123.toInt = 1 := hp2
                      have u2 : z124.toInt = 0 ∨ z124.toInt = 1 ∨ z124.toInt = 2 := hp3
                      have z0 : (0 : Int32).toInt = 0 := rfl
                      have z9 : (1 : Int32).toInt = 1 := rfl
                      have z1 := own_eq32 hc394
                      intros
                      first | rfl | (exfalso; omega) | (refine ⟨fun q1 => ?_, fun q1 => ?_⟩ <;> first | rfl | (exfalso; omega)) | (refine ⟨fun q1 => ?_, fun q1 => ?_, fun q1 => ?_⟩ <;> first | rfl | (exfalso; omega))) r395
              · have r396 : own_R p.tables e below F0 (T322.setTop (mkF m 208 #[.val (.int p0s), .val (.int p1s), .val (.int p2s), .val (.int p3s), .val (.int p4s), .val (.int z119), .val (.int dd), .val (.int z123), .val (.int z124), .val (.int i1), .val (.int i2), .val (.int i3), .val (.double (9218868437227405312 : UInt64)), .second, .val (.int z137), .val (.int z140), .val (.int z143), .val (.int z146), .val (.ref b149), .val (.ref b153), .unset, .unset, .unset, .unset, .unset, .unset, .unset, .unset, .unset] [(.int p4s), (.int z140), (.ref b153)])) := fun tg_ kg_ => by
                  refine r328 tg_ ?_
                  show Steps p.tables e below (T322.setTop (mkF m 198 #[.val (.int p0s), .val (.int p1s), .val (.int p2s), .val (.int p3s), .val (.int p4s), .val (.int z119), .val (.int dd), .val (.int z123), .val (.int z124), .val (.int i1), .val (.int i2), .val (.int i3), .val (.double (9218868437227405312 : UInt64)), .second, .val (.int z137), .val (.int z140), .val (.int z143), .val (.int z146), .val (.ref b149), .val (.ref b153), .unset, .unset, .unset, .unset, .unset, .unset, .unset, .unset, .unset] [(.int i1), (.int z140), (.ref b153)])) _
                  refine XS.ifNo X322.here hx rfl (hb hby at_198) rfl ((if0 _ _).trans (feq hc394).1) ?_
                  show Steps p.tables e below (T322.setTop (mkF m 201 #[.val (.int p0s), .val (.int p1s), .val (.int p2s), .val (.int p3s), .val (.int p4s), .val (.int z119), .val (.int dd), .val (.int z123), .val (.int z124), .val (.int i1), .val (.int i2), .val (.int i3), .val (.double (9218868437227405312 : UInt64)), .second, .val (.int z137), .val (.int z140), .val (.int z143), .val (.int z146), .val (.ref b149), .val (.ref b153), .unset, .unset, .unset, .unset, .unset, .unset, .unset, .unset, .unset] [(.int z140), (.ref b153)])) _
                  refine XS.iload X322.here hx rfl (hb hby at_201) rfl ?_
                  show Steps p.tables e below (T322.setTop (mkF m 203 #[.val (.int p0s), .val (.int p1s), .val (.int p2s), .val (.int p3s), .val (.int p4s), .val (.int z119), .val (.int dd), .val (.int z123), .val (.int z124), .val (.int i1), .val (.int i2), .val (.int i3), .val (.double (9218868437227405312 : UInt64)), .second, .val (.int z137), .val (.int z140), .val (.int z143), .val (.int z146), .val (.ref b149), .val (.ref b153), .unset, .unset, .unset, .unset, .unset, .unset, .unset, .unset, .unset] [(.int p4s), (.int z140), (.ref b153)])) _
                  refine XS.goto X322.here hx rfl (pc0 := 203) (pc' := 208) rfl (hb hby at_203) (by decide) (by decide) ?_
                  exact kg_
                exact J329 p4s (by
                      have u1 : z123.toInt = 0 ∨ z123.toInt = 1 := hp2
                      have u2 : z124.toInt = 0 ∨ z124.toInt = 1 ∨ z124.toInt = 2 := hp3
                      have z0 : (0 : Int32).toInt = 0 := rfl
                      have z9 : (1 : Int32).toInt = 1 := rfl
                      have z1 := own_ne32 hc394
                      intros
                      first | rfl | (exfalso; omega) | (refine ⟨fun q1 => ?_, fun q1 => ?_⟩ <;> first | rfl | (exfalso; omega)) | (refine ⟨fun q1 => ?_, fun q1 => ?_, fun q1 => ?_⟩ <;> first | rfl | (exfalso; omega))) r396
            by_cases hc397 : i1 = (0 : Int32)
            · have r398 : own_R p.tables e below F0 (T313.setTop (mkF m 191 #[.val (.int p0s), .val (.int p1s), .val (.int p2s), .val (.int p3s), .val (.int p4s), .val (.int z119), .val (.int dd), .val (.int z123), .val (.int z124), .val (.int i1), .val (.int i2), .val (.int i3), .val (.double (9218868437227405312 : UInt64)), .second, .val (.int z137), .val (.int z140), .val (.int z143), .val (.int z146), .val (.ref b149), .val (.ref b153), .unset, .unset, .unset, .unset, .unset, .unset, .unset, .unset, .unset] [(.double FP.dconst1), (.int z140), (.ref b149)])) := fun tg_ kg_ => by
                refine r319 tg_ ?_
                show Steps p.tables e below (T313.setTop (mkF m 182 #[.val (.int p0s), .val (.int p1s), .val (.int p2s), .val (.int p3s), .val (.int p4s), .val (.int z119), .val (.int dd), .val (.int z123), .val (.int z124), .val (.int i1), .val (.int i2), .val (.int i3), .val (.double (9218868437227405312 : UInt64)), .second, .val (.int z137), .val (.int z140), .val (.int z143), .val (.int z146), .val (.ref b149), .val (.ref b153), .unset, .unset, .unset, .unset, .unset, .unset, .unset, .unset, .unset] [(.int i1), (.int z140), (.ref b149)])) _
                refine XS.ifYes X313.here hx rfl (pc0 := 182) (pc' := 190) rfl (hb hby at_182) rfl ((if0 _ _).trans (teq hc397).1) (by decide) (by decide) ?_
                show Steps p.tables e below (T313.setTop (mkF m 190 #[.val (.int p0s), .val (.int p1s), .val (.int p2s), .val (.int p3s), .val (.int p4s), .val (.int z119), .val (.int dd), .val (.int z123), .val (.int z124), .val (.int i1), .val (.int i2), .val (.int i3), .val (.double (9218868437227405312 : UInt64)), .second, .val (.int z137), .val (.int z140), .val (.int z143), .val (.int z146), .val (.ref b149), .val (.ref b153), .unset, .unset, .unset, .unset, .unset, .unset, .unset, .unset, .unset] [(.int z140), (.ref b149)])) _
                refine XS.dconst1 X313.here hx rfl (hb hby at_190) rfl ?_
                exact kg_
              exact J320 FP.dconst1 ⟨fun _ => own_nf1, fun q => absurd q (by have z1 := own_eq32 hc397; have z0 : (0 : Int32).toInt = 0 := rfl; omega)⟩ r398
            · have r399 : own_R p.tables e below F0 (T313.setTop (mkF m 191 #[.val (.int p0s), .val (.int p1s), .val (.int p2s), .val (.int p3s), .val (.int p4s), .val (.int z119), .val (.int dd), .val (.int z123), .val (.int z124), .val (.int i1), .val (.int i2), .val (.int i3), .val (.double (9218868437227405312 : UInt64)), .second, .val (.int z137), .val (.int z140), .val (.int z143), .val (.int z146), .val (.ref b149), .val (.ref b153), .unset, .unset, .unset, .unset, .unset, .unset, .unset, .unset, .unset] [(.double (9218868437227405312 : UInt64)), (.int z140), (.ref b149)])) := fun tg_ kg_ => by
                refine r319 tg_ ?_
                show Steps p.tables e below (T313.setTop (mkF m 182 #[.val (.int p0s), .val (.int p1s), .val (.int p2s), .val (.int p3s), .val (.int p4s), .val (.int z119), .val (.int dd), .val (.int z123), .val (.int z124), .val (.int i1), .val (.int i2), .val (.int i3), .val (.double (9218868437227405312 : UInt64)), .second, .val (.int z137), .val (.int z140), .val (.int z143), .val (.int z146), .val (.ref b149), .val (.ref b153), .unset, .unset, .unset, .unset, .unset, .unset, .unset, .unset, .unset] [(.int i1), (.int z140), (.ref b149)])) _
                refine XS.ifNo X313.here hx rfl (hb hby at_182) rfl ((if0 _ _).trans (feq hc397).1) ?_
                show Steps p.tables e below (T313.setTop (mkF m 185 #[.val (.int p0s), .val (.int p1s), .val (.int p2s), .val (.int p3s), .val (.int p4s), .val (.int z119), .val (.int dd), .val (.int z123), .val (.int z124), .val (.int i1), .val (.int i2), .val (.int i3), .val (.double (9218868437227405312 : UInt64)), .second, .val (.int z137), .val (.int z140), .val (.int z143), .val (.int z146), .val (.ref b149), .val (.ref b153), .unset, .unset, .unset, .unset, .unset, .unset, .unset, .unset, .unset] [(.int z140), (.ref b149)])) _
                refine XS.dload X313.here hx rfl (hb hby at_185) rfl ?_
                show Steps p.tables e below (T313.setTop (mkF m 187 #[.val (.int p0s), .val (.int p1s), .val (.int p2s), .val (.int p3s), .val (.int p4s), .val (.int z119), .val (.int dd), .val (.int z123), .val (.int z124), .val (.int i1), .val (.int i2), .val (.int i3), .val (.double (9218868437227405312 : UInt64)), .second, .val (.int z137), .val (.int z140), .val (.int z143), .val (.int z146), .val (.ref b149), .val (.ref b153), .unset, .unset, .unset, .unset, .unset, .unset, .unset, .unset, .unset] [(.double (9218868437227405312 : UInt64)), (.int z140), (.ref b149)])) _
                refine XS.goto X313.here hx rfl (pc0 := 187) (pc' := 191) rfl (hb hby at_187) (by decide) (by decide) ?_
                exact kg_
              exact J320 (9218868437227405312 : UInt64) ⟨fun q => absurd q (by have z1 := own_ne32 hc397; have z0 : (0 : Int32).toInt = 0 := rfl; omega), fun _ => rfl⟩ r399
          by_cases hc400 : (p2s &&& (4 : Int32)) = (0 : Int32)
          · have r401 : own_R p.tables e below F0 (s₁.setTop (mkF m 82 #[.val (.int p0s), .val (.int p1s), .val (.int p2s), .val (.int p3s), .val (.int p4s), .val (.int z119), .val (.int dd), .val (.int z123), .val (.int z124), .val (.int i1), .val (.int i2), .unset, .unset, .unset, .unset, .unset, .unset, .unset, .unset, .unset, .unset, .unset, .unset, .unset, .unset, .unset, .unset, .unset, .unset] [(.int (1 : Int32)), (.int z124)])) := fun tg_ kg_ => by
              refine r132 tg_ ?_
              show Steps p.tables e below (s₁.setTop (mkF m 76 #[.val (.int p0s), .val (.int p1s), .val (.int p2s), .val (.int p3s), .val (.int p4s), .val (.int z119), .val (.int dd), .val (.int z123), .val (.int z124), .val (.int i1), .val (.int i2), .unset, .unset, .unset, .unset, .unset, .unset, .unset, .unset, .unset, .unset, .unset, .unset, .unset, .unset, .unset, .unset, .unset, .unset] [(.int (p2s &&& (4 : Int32)))])) _
              refine XS.ifNo X0.here hx rfl (hb hby at_76) rfl ((if0 _ _).trans (teq hc400).2) ?_
              show Steps p.tables e below (s₁.setTop (mkF m 79 #[.val (.int p0s), .val (.int p1s), .val (.int p2s), .val (.int p3s), .val (.int p4s), .val (.int z119), .val (.int dd), .val (.int z123), .val (.int z124), .val (.int i1), .val (.int i2), .unset, .unset, .unset, .unset, .unset, .unset, .unset, .unset, .unset, .unset, .unset, .unset, .unset, .unset, .unset, .unset, .unset, .unset] [])) _
              refine XS.iload X0.here hx rfl (hb hby at_79) rfl ?_
              show Steps p.tables e below (s₁.setTop (mkF m 81 #[.val (.int p0s), .val (.int p1s), .val (.int p2s), .val (.int p3s), .val (.int p4s), .val (.int z119), .val (.int dd), .val (.int z123), .val (.int z124), .val (.int i1), .val (.int i2), .unset, .unset, .unset, .unset, .unset, .unset, .unset, .unset, .unset, .unset, .unset, .unset, .unset, .unset, .unset, .unset, .unset, .unset] [(.int z124)])) _
              refine XS.iconst X0.here hx rfl (hb hby at_81) ?_
              exact kg_
            by_cases hc402 : z124 = (1 : Int32)
            · have r403 : own_R p.tables e below F0 (s₁.setTop (mkF m 87 #[.val (.int p0s), .val (.int p1s), .val (.int p2s), .val (.int p3s), .val (.int p4s), .val (.int z119), .val (.int dd), .val (.int z123), .val (.int z124), .val (.int i1), .val (.int i2), .unset, .unset, .unset, .unset, .unset, .unset, .unset, .unset, .unset, .unset, .unset, .unset, .unset, .unset, .unset, .unset, .unset, .unset] [(.int i1)])) := fun tg_ kg_ => by
                refine r401 tg_ ?_
                show Steps p.tables e below (s₁.setTop (mkF m 82 #[.val (.int p0s), .val (.int p1s), .val (.int p2s), .val (.int p3s), .val (.int p4s), .val (.int z119), .val (.int dd), .val (.int z123), .val (.int z124), .val (.int i1), .val (.int i2), .unset, .unset, .unset, .unset, .unset, .unset, .unset, .unset, .unset, .unset, .unset, .unset, .unset, .unset, .unset, .unset, .unset, .unset] [(.int (1 : Int32)), (.int z124)])) _
                refine XS.icmpNo X0.here hx rfl (hb hby at_82) rfl (teq hc402).2 ?_
                show Steps p.tables e below (s₁.setTop (mkF m 85 #[.val (.int p0s), .val (.int p1s), .val (.int p2s), .val (.int p3s), .val (.int p4s), .val (.int z119), .val (.int dd), .val (.int z123), .val (.int z124), .val (.int i1), .val (.int i2), .unset, .unset, .unset, .unset, .unset, .unset, .unset, .unset, .unset, .unset, .unset, .unset, .unset, .unset, .unset, .unset, .unset, .unset] [])) _
                refine XS.iload X0.here hx rfl (hb hby at_85) rfl ?_
                exact kg_
              by_cases hc404 : i1 = (0 : Int32)
              · have r405 : own_R p.tables e below F0 (s₁.setTop (mkF m 93 #[.val (.int p0s), .val (.int p1s), .val (.int p2s), .val (.int p3s), .val (.int p4s), .val (.int z119), .val (.int dd), .val (.int z123), .val (.int z124), .val (.int i1), .val (.int i2), .unset, .unset, .unset, .unset, .unset, .unset, .unset, .unset, .unset, .unset, .unset, .unset, .unset, .unset, .unset, .unset, .unset, .unset] [(.int (2 : Int32)), (.int z124)])) := fun tg_ kg_ => by
                  refine r403 tg_ ?_
                  show Steps p.tables e below (s₁.setTop (mkF m 87 #[.val (.int p0s), .val (.int p1s), .val (.int p2s), .val (.int p3s), .val (.int p4s), .val (.int z119), .val (.int dd), .val (.int z123), .val (.int z124), .val (.int i1), .val (.int i2), .unset, .unset, .unset, .unset, .unset, .unset, .unset, .unset, .unset, .unset, .unset, .unset, .unset, .unset, .unset, .unset, .unset, .unset] [(.int i1)])) _
                  refine XS.ifNo X0.here hx rfl (hb hby at_87) rfl ((if0 _ _).trans (teq hc404).2) ?_
                  show Steps p.tables e below (s₁.setTop (mkF m 90 #[.val (.int p0s), .val (.int p1s), .val (.int p2s), .val (.int p3s), .val (.int p4s), .val (.int z119), .val (.int dd), .val (.int z123), .val (.int z124), .val (.int i1), .val (.int i2), .unset, .unset, .unset, .unset, .unset, .unset, .unset, .unset, .unset, .unset, .unset, .unset, .unset, .unset, .unset, .unset, .unset, .unset] [])) _
                  refine XS.iload X0.here hx rfl (hb hby at_90) rfl ?_
                  show Steps p.tables e below (s₁.setTop (mkF m 92 #[.val (.int p0s), .val (.int p1s), .val (.int p2s), .val (.int p3s), .val (.int p4s), .val (.int z119), .val (.int dd), .val (.int z123), .val (.int z124), .val (.int i1), .val (.int i2), .unset, .unset, .unset, .unset, .unset, .unset, .unset, .unset, .unset, .unset, .unset, .unset, .unset, .unset, .unset, .unset, .unset, .unset] [(.int z124)])) _
                  refine XS.iconst X0.here hx rfl (hb hby at_92) ?_
                  exact kg_
                by_cases hc406 : z124 = (2 : Int32)
                · have r407 : own_R p.tables e below F0 (s₁.setTop (mkF m 98 #[.val (.int p0s), .val (.int p1s), .val (.int p2s), .val (.int p3s), .val (.int p4s), .val (.int z119), .val (.int dd), .val (.int z123), .val (.int z124), .val (.int i1), .val (.int i2), .unset, .unset, .unset, .unset, .unset, .unset, .unset, .unset, .unset, .unset, .unset, .unset, .unset, .unset, .unset, .unset, .unset, .unset] [(.int i2)])) := fun tg_ kg_ => by
                    refine r405 tg_ ?_
                    show Steps p.tables e below (s₁.setTop (mkF m 93 #[.val (.int p0s), .val (.int p1s), .val (.int p2s), .val (.int p3s), .val (.int p4s), .val (.int z119), .val (.int dd), .val (.int z123), .val (.int z124), .val (.int i1), .val (.int i2), .unset, .unset, .unset, .unset, .unset, .unset, .unset, .unset, .unset, .unset, .unset, .unset, .unset, .unset, .unset, .unset, .unset, .unset] [(.int (2 : Int32)), (.int z124)])) _
                    refine XS.icmpNo X0.here hx rfl (hb hby at_93) rfl (teq hc406).2 ?_
                    show Steps p.tables e below (s₁.setTop (mkF m 96 #[.val (.int p0s), .val (.int p1s), .val (.int p2s), .val (.int p3s), .val (.int p4s), .val (.int z119), .val (.int dd), .val (.int z123), .val (.int z124), .val (.int i1), .val (.int i2), .unset, .unset, .unset, .unset, .unset, .unset, .unset, .unset, .unset, .unset, .unset, .unset, .unset, .unset, .unset, .unset, .unset, .unset] [])) _
                    refine XS.iload X0.here hx rfl (hb hby at_96) rfl ?_
                    exact kg_
                  by_cases hc408 : i2 = (0 : Int32)
                  · have r409 : own_R p.tables e below F0 (s₁.setTop (mkF m 106 #[.val (.int p0s), .val (.int p1s), .val (.int p2s), .val (.int p3s), .val (.int p4s), .val (.int z119), .val (.int dd), .val (.int z123), .val (.int z124), .val (.int i1), .val (.int i2), .unset, .unset, .unset, .unset, .unset, .unset, .unset, .unset, .unset, .unset, .unset, .unset, .unset, .unset, .unset, .unset, .unset, .unset] [(.int (0 : Int32))])) := fun tg_ kg_ => by
                      refine r407 tg_ ?_
                      show Steps p.tables e below (s₁.setTop (mkF m 98 #[.val (.int p0s), .val (.int p1s), .val (.int p2s), .val (.int p3s), .val (.int p4s), .val (.int z119), .val (.int dd), .val (.int z123), .val (.int z124), .val (.int i1), .val (.int i2), .unset, .unset, .unset, .unset, .unset, .unset, .unset, .unset, .unset, .unset, .unset, .unset, .unset, .unset, .unset, .unset, .unset, .unset] [(.int i2)])) _
                      refine XS.ifYes X0.here hx rfl (pc0 := 98) (pc' := 105) rfl (hb hby at_98) rfl ((if0 _ _).trans (teq hc408).1) (by decide) (by decide) ?_
                      show Steps p.tables e below (s₁.setTop (mkF m 105 #[.val (.int p0s), .val (.int p1s), .val (.int p2s), .val (.int p3s), .val (.int p4s), .val (.int z119), .val (.int dd), .val (.int z123), .val (.int z124), .val (.int i1), .val (.int i2), .unset, .unset, .unset, .unset, .unset, .unset, .unset, .unset, .unset, .unset, .unset, .unset, .unset, .unset, .unset, .unset, .unset, .unset] [])) _
                      refine XS.iconst X0.here hx rfl (hb hby at_105) ?_
                      exact kg_
                    exact J133 (0 : Int32) (by
                                            show ((0 : Int32).toInt = 0 ∨ (0 : Int32).toInt = 1) ∧ (z124.toInt = 1 → i1.toInt = 1 → (0 : Int32).toInt = 1) ∧ (z124.toInt = 2 → i2.toInt = 1 → (0 : Int32).toInt = 1)
                                            have u0 : i1.toInt = 0 ∨ i1.toInt = 1 := hi1
                                            have u1 : i2.toInt = 0 ∨ i2.toInt = 1 := hi2.1
                                            have u2 : z124.toInt = 0 ∨ z124.toInt = 1 ∨ z124.toInt = 2 := hp3
                                            have q201_r := own_R32 p2s
                                            have q202_e : (4 : Int32).toInt = 4 := (by decide)
                                            have q202_r : (4 : Int) ≤ (4 : Int32).toInt ∧ (4 : Int32).toInt ≤ 4 := ⟨Int.le_of_eq q202_e.symm, Int.le_of_eq q202_e⟩
                                            have q203_r := own_R32 (p2s &&& (4 : Int32))
                                            have q204_ := c_andS p2s (4 : Int32)
                                            have q205_e : (0 : Int32).toInt = 0 := (by decide)
                                            have q205_r : (0 : Int) ≤ (0 : Int32).toInt ∧ (0 : Int32).toInt ≤ 0 := ⟨Int.le_of_eq q205_e.symm, Int.le_of_eq q205_e⟩
                                            have q206_r : (0 : Int) ≤ z124.toInt ∧ z124.toInt ≤ 2 := (own_012b hp3)
                                            have q207_e : (1 : Int32).toInt = 1 := (by decide)
                                            have q207_r : (1 : Int) ≤ (1 : Int32).toInt ∧ (1 : Int32).toInt ≤ 1 := ⟨Int.le_of_eq q207_e.symm, Int.le_of_eq q207_e⟩
                                            have q208_r := own_R32 i1
                                            have q209_e : (2 : Int32).toInt = 2 := (by decide)
                                            have q209_r : (2 : Int) ≤ (2 : Int32).toInt ∧ (2 : Int32).toInt ≤ 2 := ⟨Int.le_of_eq q209_e.symm, Int.le_of_eq q209_e⟩
                                            have q210_r := own_R32 i2
                                            have q211_c := own_eq32 hc400
                                            have q212_c := own_eq32 hc402
                                            have q213_c := own_eq32 hc404
                                            have q214_c := own_eq32 hc406
                                            have q215_c := own_eq32 hc408
                                            omega) r409
                  · have r410 : own_R p.tables e below F0 (s₁.setTop (mkF m 106 #[.val (.int p0s), .val (.int p1s), .val (.int p2s), .val (.int p3s), .val (.int p4s), .val (.int z119), .val (.int dd), .val (.int z123), .val (.int z124), .val (.int i1), .val (.int i2), .unset, .unset, .unset, .unset, .unset, .unset, .unset, .unset, .unset, .unset, .unset, .unset, .unset, .unset, .unset, .unset, .unset, .unset] [(.int (1 : Int32))])) := fun tg_ kg_ => by
                      refine r407 tg_ ?_
                      show Steps p.tables e below (s₁.setTop (mkF m 98 #[.val (.int p0s), .val (.int p1s), .val (.int p2s), .val (.int p3s), .val (.int p4s), .val (.int z119), .val (.int dd), .val (.int z123), .val (.int z124), .val (.int i1), .val (.int i2), .unset, .unset, .unset, .unset, .unset, .unset, .unset, .unset, .unset, .unset, .unset, .unset, .unset, .unset, .unset, .unset, .unset, .unset] [(.int i2)])) _
                      refine XS.ifNo X0.here hx rfl (hb hby at_98) rfl ((if0 _ _).trans (feq hc408).1) ?_
                      show Steps p.tables e below (s₁.setTop (mkF m 101 #[.val (.int p0s), .val (.int p1s), .val (.int p2s), .val (.int p3s), .val (.int p4s), .val (.int z119), .val (.int dd), .val (.int z123), .val (.int z124), .val (.int i1), .val (.int i2), .unset, .unset, .unset, .unset, .unset, .unset, .unset, .unset, .unset, .unset, .unset, .unset, .unset, .unset, .unset, .unset, .unset, .unset] [])) _
                      refine XS.iconst X0.here hx rfl (hb hby at_101) ?_
                      show Steps p.tables e below (s₁.setTop (mkF m 102 #[.val (.int p0s), .val (.int p1s), .val (.int p2s), .val (.int p3s), .val (.int p4s), .val (.int z119), .val (.int dd), .val (.int z123), .val (.int z124), .val (.int i1), .val (.int i2), .unset, .unset, .unset, .unset, .unset, .unset, .unset, .unset, .unset, .unset, .unset, .unset, .unset, .unset, .unset, .unset, .unset, .unset] [(.int (1 : Int32))])) _
                      refine XS.goto X0.here hx rfl (pc0 := 102) (pc' := 106) rfl (hb hby at_102) (by decide) (by decide) ?_
                      exact kg_
                    exact J133 (1 : Int32) (by
                                            show ((1 : Int32).toInt = 0 ∨ (1 : Int32).toInt = 1) ∧ (z124.toInt = 1 → i1.toInt = 1 → (1 : Int32).toInt = 1) ∧ (z124.toInt = 2 → i2.toInt = 1 → (1 : Int32).toInt = 1)
                                            have u0 : i1.toInt = 0 ∨ i1.toInt = 1 := hi1
                                            have u1 : i2.toInt = 0 ∨ i2.toInt = 1 := hi2.1
                                            have u2 : z124.toInt = 0 ∨ z124.toInt = 1 ∨ z124.toInt = 2 := hp3
                                            have q216_r := own_R32 p2s
                                            have q217_e : (4 : Int32).toInt = 4 := (by decide)
                                            have q217_r : (4 : Int) ≤ (4 : Int32).toInt ∧ (4 : Int32).toInt ≤ 4 := ⟨Int.le_of_eq q217_e.symm, Int.le_of_eq q217_e⟩
                                            have q218_r := own_R32 (p2s &&& (4 : Int32))
                                            have q219_ := c_andS p2s (4 : Int32)
                                            have q220_e : (0 : Int32).toInt = 0 := (by decide)
                                            have q220_r : (0 : Int) ≤ (0 : Int32).toInt ∧ (0 : Int32).toInt ≤ 0 := ⟨Int.le_of_eq q220_e.symm, Int.le_of_eq q220_e⟩
                                            have q221_r : (0 : Int) ≤ z124.toInt ∧ z124.toInt ≤ 2 := (own_012b hp3)
                                            have q222_e : (1 : Int32).toInt = 1 := (by decide)
                                            have q222_r : (1 : Int) ≤ (1 : Int32).toInt ∧ (1 : Int32).toInt ≤ 1 := ⟨Int.le_of_eq q222_e.symm, Int.le_of_eq q222_e⟩
                                            have q223_r := own_R32 i1
                                            have q224_e : (2 : Int32).toInt = 2 := (by decide)
                                            have q224_r : (2 : Int) ≤ (2 : Int32).toInt ∧ (2 : Int32).toInt ≤ 2 := ⟨Int.le_of_eq q224_e.symm, Int.le_of_eq q224_e⟩
                                            have q225_r := own_R32 i2
                                            have q226_c := own_eq32 hc400
                                            have q227_c := own_eq32 hc402
                                            have q228_c := own_eq32 hc404
                                            have q229_c := own_eq32 hc406
                                            have q230_c := own_ne32 hc408
                                            omega) r410
                · have r411 : own_R p.tables e below F0 (s₁.setTop (mkF m 106 #[.val (.int p0s), .val (.int p1s), .val (.int p2s), .val (.int p3s), .val (.int p4s), .val (.int z119), .val (.int dd), .val (.int z123), .val (.int z124), .val (.int i1), .val (.int i2), .unset, .unset, .unset, .unset, .unset, .unset, .unset, .unset, .unset, .unset, .unset, .unset, .unset, .unset, .unset, .unset, .unset, .unset] [(.int (0 : Int32))])) := fun tg_ kg_ => by
                    refine r405 tg_ ?_
                    show Steps p.tables e below (s₁.setTop (mkF m 93 #[.val (.int p0s), .val (.int p1s), .val (.int p2s), .val (.int p3s), .val (.int p4s), .val (.int z119), .val (.int dd), .val (.int z123), .val (.int z124), .val (.int i1), .val (.int i2), .unset, .unset, .unset, .unset, .unset, .unset, .unset, .unset, .unset, .unset, .unset, .unset, .unset, .unset, .unset, .unset, .unset, .unset] [(.int (2 : Int32)), (.int z124)])) _
                    refine XS.icmpYes X0.here hx rfl (pc0 := 93) (pc' := 105) rfl (hb hby at_93) rfl (feq hc406).2 (by decide) (by decide) ?_
                    show Steps p.tables e below (s₁.setTop (mkF m 105 #[.val (.int p0s), .val (.int p1s), .val (.int p2s), .val (.int p3s), .val (.int p4s), .val (.int z119), .val (.int dd), .val (.int z123), .val (.int z124), .val (.int i1), .val (.int i2), .unset, .unset, .unset, .unset, .unset, .unset, .unset, .unset, .unset, .unset, .unset, .unset, .unset, .unset, .unset, .unset, .unset, .unset] [])) _
                    refine XS.iconst X0.here hx rfl (hb hby at_105) ?_
                    exact kg_
                  exact J133 (0 : Int32) (by
                                        show ((0 : Int32).toInt = 0 ∨ (0 : Int32).toInt = 1) ∧ (z124.toInt = 1 → i1.toInt = 1 → (0 : Int32).toInt = 1) ∧ (z124.toInt = 2 → i2.toInt = 1 → (0 : Int32).toInt = 1)
                                        have u0 : i1.toInt = 0 ∨ i1.toInt = 1 := hi1
                                        have u1 : i2.toInt = 0 ∨ i2.toInt = 1 := hi2.1
                                        have u2 : z124.toInt = 0 ∨ z124.toInt = 1 ∨ z124.toInt = 2 := hp3
                                        have q231_r := own_R32 p2s
                                        have q232_e : (4 : Int32).toInt = 4 := (by decide)
                                        have q232_r : (4 : Int) ≤ (4 : Int32).toInt ∧ (4 : Int32).toInt ≤ 4 := ⟨Int.le_of_eq q232_e.symm, Int.le_of_eq q232_e⟩
                                        have q233_r := own_R32 (p2s &&& (4 : Int32))
                                        have q234_ := c_andS p2s (4 : Int32)
                                        have q235_e : (0 : Int32).toInt = 0 := (by decide)
                                        have q235_r : (0 : Int) ≤ (0 : Int32).toInt ∧ (0 : Int32).toInt ≤ 0 := ⟨Int.le_of_eq q235_e.symm, Int.le_of_eq q235_e⟩
                                        have q236_r : (0 : Int) ≤ z124.toInt ∧ z124.toInt ≤ 2 := (own_012b hp3)
                                        have q237_e : (1 : Int32).toInt = 1 := (by decide)
                                        have q237_r : (1 : Int) ≤ (1 : Int32).toInt ∧ (1 : Int32).toInt ≤ 1 := ⟨Int.le_of_eq q237_e.symm, Int.le_of_eq q237_e⟩
                                        have q238_r := own_R32 i1
                                        have q239_e : (2 : Int32).toInt = 2 := (by decide)
                                        have q239_r : (2 : Int) ≤ (2 : Int32).toInt ∧ (2 : Int32).toInt ≤ 2 := ⟨Int.le_of_eq q239_e.symm, Int.le_of_eq q239_e⟩
                                        have q240_c := own_eq32 hc400
                                        have q241_c := own_eq32 hc402
                                        have q242_c := own_eq32 hc404
                                        have q243_c := own_ne32 hc406
                                        omega) r411
              · have r412 : own_R p.tables e below F0 (s₁.setTop (mkF m 106 #[.val (.int p0s), .val (.int p1s), .val (.int p2s), .val (.int p3s), .val (.int p4s), .val (.int z119), .val (.int dd), .val (.int z123), .val (.int z124), .val (.int i1), .val (.int i2), .unset, .unset, .unset, .unset, .unset, .unset, .unset, .unset, .unset, .unset, .unset, .unset, .unset, .unset, .unset, .unset, .unset, .unset] [(.int (1 : Int32))])) := fun tg_ kg_ => by
                  refine r403 tg_ ?_
                  show Steps p.tables e below (s₁.setTop (mkF m 87 #[.val (.int p0s), .val (.int p1s), .val (.int p2s), .val (.int p3s), .val (.int p4s), .val (.int z119), .val (.int dd), .val (.int z123), .val (.int z124), .val (.int i1), .val (.int i2), .unset, .unset, .unset, .unset, .unset, .unset, .unset, .unset, .unset, .unset, .unset, .unset, .unset, .unset, .unset, .unset, .unset, .unset] [(.int i1)])) _
                  refine XS.ifYes X0.here hx rfl (pc0 := 87) (pc' := 101) rfl (hb hby at_87) rfl ((if0 _ _).trans (feq hc404).2) (by decide) (by decide) ?_
                  show Steps p.tables e below (s₁.setTop (mkF m 101 #[.val (.int p0s), .val (.int p1s), .val (.int p2s), .val (.int p3s), .val (.int p4s), .val (.int z119), .val (.int dd), .val (.int z123), .val (.int z124), .val (.int i1), .val (.int i2), .unset, .unset, .unset, .unset, .unset, .unset, .unset, .unset, .unset, .unset, .unset, .unset, .unset, .unset, .unset, .unset, .unset, .unset] [])) _
                  refine XS.iconst X0.here hx rfl (hb hby at_101) ?_
                  show Steps p.tables e below (s₁.setTop (mkF m 102 #[.val (.int p0s), .val (.int p1s), .val (.int p2s), .val (.int p3s), .val (.int p4s), .val (.int z119), .val (.int dd), .val (.int z123), .val (.int z124), .val (.int i1), .val (.int i2), .unset, .unset, .unset, .unset, .unset, .unset, .unset, .unset, .unset, .unset, .unset, .unset, .unset, .unset, .unset, .unset, .unset, .unset] [(.int (1 : Int32))])) _
                  refine XS.goto X0.here hx rfl (pc0 := 102) (pc' := 106) rfl (hb hby at_102) (by decide) (by decide) ?_
                  exact kg_
                exact J133 (1 : Int32) (by
                                    show ((1 : Int32).toInt = 0 ∨ (1 : Int32).toInt = 1) ∧ (z124.toInt = 1 → i1.toInt = 1 → (1 : Int32).toInt = 1) ∧ (z124.toInt = 2 → i2.toInt = 1 → (1 : Int32).toInt = 1)
                                    have u0 : i1.toInt = 0 ∨ i1.toInt = 1 := hi1
                                    have u1 : i2.toInt = 0 ∨ i2.toInt = 1 := hi2.1
                                    have u2 : z124.toInt = 0 ∨ z124.toInt = 1 ∨ z124.toInt = 2 := hp3
                                    have q244_r := own_R32 p2s
                                    have q245_e : (4 : Int32).toInt = 4 := (by decide)
                                    have q245_r : (4 : Int) ≤ (4 : Int32).toInt ∧ (4 : Int32).toInt ≤ 4 := ⟨Int.le_of_eq q245_e.symm, Int.le_of_eq q245_e⟩
                                    have q246_r := own_R32 (p2s &&& (4 : Int32))
                                    have q247_ := c_andS p2s (4 : Int32)
                                    have q248_e : (0 : Int32).toInt = 0 := (by decide)
                                    have q248_r : (0 : Int) ≤ (0 : Int32).toInt ∧ (0 : Int32).toInt ≤ 0 := ⟨Int.le_of_eq q248_e.symm, Int.le_of_eq q248_e⟩
                                    have q249_r : (0 : Int) ≤ z124.toInt ∧ z124.toInt ≤ 2 := (own_012b hp3)
                                    have q250_e : (1 : Int32).toInt = 1 := (by decide)
                                    have q250_r : (1 : Int) ≤ (1 : Int32).toInt ∧ (1 : Int32).toInt ≤ 1 := ⟨Int.le_of_eq q250_e.symm, Int.le_of_eq q250_e⟩
                                    have q251_r := own_R32 i1
                                    have q252_c := own_eq32 hc400
                                    have q253_c := own_eq32 hc402
                                    have q254_c := own_ne32 hc404
                                    omega) r412
            · have r413 : own_R p.tables e below F0 (s₁.setTop (mkF m 93 #[.val (.int p0s), .val (.int p1s), .val (.int p2s), .val (.int p3s), .val (.int p4s), .val (.int z119), .val (.int dd), .val (.int z123), .val (.int z124), .val (.int i1), .val (.int i2), .unset, .unset, .unset, .unset, .unset, .unset, .unset, .unset, .unset, .unset, .unset, .unset, .unset, .unset, .unset, .unset, .unset, .unset] [(.int (2 : Int32)), (.int z124)])) := fun tg_ kg_ => by
                refine r401 tg_ ?_
                show Steps p.tables e below (s₁.setTop (mkF m 82 #[.val (.int p0s), .val (.int p1s), .val (.int p2s), .val (.int p3s), .val (.int p4s), .val (.int z119), .val (.int dd), .val (.int z123), .val (.int z124), .val (.int i1), .val (.int i2), .unset, .unset, .unset, .unset, .unset, .unset, .unset, .unset, .unset, .unset, .unset, .unset, .unset, .unset, .unset, .unset, .unset, .unset] [(.int (1 : Int32)), (.int z124)])) _
                refine XS.icmpYes X0.here hx rfl (pc0 := 82) (pc' := 90) rfl (hb hby at_82) rfl (feq hc402).2 (by decide) (by decide) ?_
                show Steps p.tables e below (s₁.setTop (mkF m 90 #[.val (.int p0s), .val (.int p1s), .val (.int p2s), .val (.int p3s), .val (.int p4s), .val (.int z119), .val (.int dd), .val (.int z123), .val (.int z124), .val (.int i1), .val (.int i2), .unset, .unset, .unset, .unset, .unset, .unset, .unset, .unset, .unset, .unset, .unset, .unset, .unset, .unset, .unset, .unset, .unset, .unset] [])) _
                refine XS.iload X0.here hx rfl (hb hby at_90) rfl ?_
                show Steps p.tables e below (s₁.setTop (mkF m 92 #[.val (.int p0s), .val (.int p1s), .val (.int p2s), .val (.int p3s), .val (.int p4s), .val (.int z119), .val (.int dd), .val (.int z123), .val (.int z124), .val (.int i1), .val (.int i2), .unset, .unset, .unset, .unset, .unset, .unset, .unset, .unset, .unset, .unset, .unset, .unset, .unset, .unset, .unset, .unset, .unset, .unset] [(.int z124)])) _
                refine XS.iconst X0.here hx rfl (hb hby at_92) ?_
                exact kg_
              by_cases hc414 : z124 = (2 : Int32)
              · have r415 : own_R p.tables e below F0 (s₁.setTop (mkF m 98 #[.val (.int p0s), .val (.int p1s), .val (.int p2s), .val (.int p3s), .val (.int p4s), .val (.int z119), .val (.int dd), .val (.int z123), .val (.int z124), .val (.int i1), .val (.int i2), .unset, .unset, .unset, .unset, .unset, .unset, .unset, .unset, .unset, .unset, .unset, .unset, .unset, .unset, .unset, .unset, .unset, .unset] [(.int i2)])) := fun tg_ kg_ => by
                  refine r413 tg_ ?_
                  show Steps p.tables e below (s₁.setTop (mkF m 93 #[.val (.int p0s), .val (.int p1s), .val (.int p2s), .val (.int p3s), .val (.int p4s), .val (.int z119), .val (.int dd), .val (.int z123), .val (.int z124), .val (.int i1), .val (.int i2), .unset, .unset, .unset, .unset, .unset, .unset, .unset, .unset, .unset, .unset, .unset, .unset, .unset, .unset, .unset, .unset, .unset, .unset] [(.int (2 : Int32)), (.int z124)])) _
                  refine XS.icmpNo X0.here hx rfl (hb hby at_93) rfl (teq hc414).2 ?_
                  show Steps p.tables e below (s₁.setTop (mkF m 96 #[.val (.int p0s), .val (.int p1s), .val (.int p2s), .val (.int p3s), .val (.int p4s), .val (.int z119), .val (.int dd), .val (.int z123), .val (.int z124), .val (.int i1), .val (.int i2), .unset, .unset, .unset, .unset, .unset, .unset, .unset, .unset, .unset, .unset, .unset, .unset, .unset, .unset, .unset, .unset, .unset, .unset] [])) _
                  refine XS.iload X0.here hx rfl (hb hby at_96) rfl ?_
                  exact kg_
                by_cases hc416 : i2 = (0 : Int32)
                · have r417 : own_R p.tables e below F0 (s₁.setTop (mkF m 106 #[.val (.int p0s), .val (.int p1s), .val (.int p2s), .val (.int p3s), .val (.int p4s), .val (.int z119), .val (.int dd), .val (.int z123), .val (.int z124), .val (.int i1), .val (.int i2), .unset, .unset, .unset, .unset, .unset, .unset, .unset, .unset, .unset, .unset, .unset, .unset, .unset, .unset, .unset, .unset, .unset, .unset] [(.int (0 : Int32))])) := fun tg_ kg_ => by
                    refine r415 tg_ ?_
                    show Steps p.tables e below (s₁.setTop (mkF m 98 #[.val (.int p0s), .val (.int p1s), .val (.int p2s), .val (.int p3s), .val (.int p4s), .val (.int z119), .val (.int dd), .val (.int z123), .val (.int z124), .val (.int i1), .val (.int i2), .unset, .unset, .unset, .unset, .unset, .unset, .unset, .unset, .unset, .unset, .unset, .unset, .unset, .unset, .unset, .unset, .unset, .unset] [(.int i2)])) _
                    refine XS.ifYes X0.here hx rfl (pc0 := 98) (pc' := 105) rfl (hb hby at_98) rfl ((if0 _ _).trans (teq hc416).1) (by decide) (by decide) ?_
                    show Steps p.tables e below (s₁.setTop (mkF m 105 #[.val (.int p0s), .val (.int p1s), .val (.int p2s), .val (.int p3s), .val (.int p4s), .val (.int z119), .val (.int dd), .val (.int z123), .val (.int z124), .val (.int i1), .val (.int i2), .unset, .unset, .unset, .unset, .unset, .unset, .unset, .unset, .unset, .unset, .unset, .unset, .unset, .unset, .unset, .unset, .unset, .unset] [])) _
                    refine XS.iconst X0.here hx rfl (hb hby at_105) ?_
                    exact kg_
                  exact J133 (0 : Int32) (by
                                        show ((0 : Int32).toInt = 0 ∨ (0 : Int32).toInt = 1) ∧ (z124.toInt = 1 → i1.toInt = 1 → (0 : Int32).toInt = 1) ∧ (z124.toInt = 2 → i2.toInt = 1 → (0 : Int32).toInt = 1)
                                        have u0 : i1.toInt = 0 ∨ i1.toInt = 1 := hi1
                                        have u1 : i2.toInt = 0 ∨ i2.toInt = 1 := hi2.1
                                        have u2 : z124.toInt = 0 ∨ z124.toInt = 1 ∨ z124.toInt = 2 := hp3
                                        have q255_r := own_R32 p2s
                                        have q256_e : (4 : Int32).toInt = 4 := (by decide)
                                        have q256_r : (4 : Int) ≤ (4 : Int32).toInt ∧ (4 : Int32).toInt ≤ 4 := ⟨Int.le_of_eq q256_e.symm, Int.le_of_eq q256_e⟩
                                        have q257_r := own_R32 (p2s &&& (4 : Int32))
                                        have q258_ := c_andS p2s (4 : Int32)
                                        have q259_e : (0 : Int32).toInt = 0 := (by decide)
                                        have q259_r : (0 : Int) ≤ (0 : Int32).toInt ∧ (0 : Int32).toInt ≤ 0 := ⟨Int.le_of_eq q259_e.symm, Int.le_of_eq q259_e⟩
                                        have q260_r : (0 : Int) ≤ z124.toInt ∧ z124.toInt ≤ 2 := (own_012b hp3)
                                        have q261_e : (1 : Int32).toInt = 1 := (by decide)
                                        have q261_r : (1 : Int) ≤ (1 : Int32).toInt ∧ (1 : Int32).toInt ≤ 1 := ⟨Int.le_of_eq q261_e.symm, Int.le_of_eq q261_e⟩
                                        have q262_e : (2 : Int32).toInt = 2 := (by decide)
                                        have q262_r : (2 : Int) ≤ (2 : Int32).toInt ∧ (2 : Int32).toInt ≤ 2 := ⟨Int.le_of_eq q262_e.symm, Int.le_of_eq q262_e⟩
                                        have q263_r := own_R32 i2
                                        have q264_c := own_eq32 hc400
                                        have q265_c := own_ne32 hc402
                                        have q266_c := own_eq32 hc414
                                        have q267_c := own_eq32 hc416
                                        omega) r417
                · have r418 : own_R p.tables e below F0 (s₁.setTop (mkF m 106 #[.val (.int p0s), .val (.int p1s), .val (.int p2s), .val (.int p3s), .val (.int p4s), .val (.int z119), .val (.int dd), .val (.int z123), .val (.int z124), .val (.int i1), .val (.int i2), .unset, .unset, .unset, .unset, .unset, .unset, .unset, .unset, .unset, .unset, .unset, .unset, .unset, .unset, .unset, .unset, .unset, .unset] [(.int (1 : Int32))])) := fun tg_ kg_ => by
                    refine r415 tg_ ?_
                    show Steps p.tables e below (s₁.setTop (mkF m 98 #[.val (.int p0s), .val (.int p1s), .val (.int p2s), .val (.int p3s), .val (.int p4s), .val (.int z119), .val (.int dd), .val (.int z123), .val (.int z124), .val (.int i1), .val (.int i2), .unset, .unset, .unset, .unset, .unset, .unset, .unset, .unset, .unset, .unset, .unset, .unset, .unset, .unset, .unset, .unset, .unset, .unset] [(.int i2)])) _
                    refine XS.ifNo X0.here hx rfl (hb hby at_98) rfl ((if0 _ _).trans (feq hc416).1) ?_
                    show Steps p.tables e below (s₁.setTop (mkF m 101 #[.val (.int p0s), .val (.int p1s), .val (.int p2s), .val (.int p3s), .val (.int p4s), .val (.int z119), .val (.int dd), .val (.int z123), .val (.int z124), .val (.int i1), .val (.int i2), .unset, .unset, .unset, .unset, .unset, .unset, .unset, .unset, .unset, .unset, .unset, .unset, .unset, .unset, .unset, .unset, .unset, .unset] [])) _
                    refine XS.iconst X0.here hx rfl (hb hby at_101) ?_
                    show Steps p.tables e below (s₁.setTop (mkF m 102 #[.val (.int p0s), .val (.int p1s), .val (.int p2s), .val (.int p3s), .val (.int p4s), .val (.int z119), .val (.int dd), .val (.int z123), .val (.int z124), .val (.int i1), .val (.int i2), .unset, .unset, .unset, .unset, .unset, .unset, .unset, .unset, .unset, .unset, .unset, .unset, .unset, .unset, .unset, .unset, .unset, .unset] [(.int (1 : Int32))])) _
                    refine XS.goto X0.here hx rfl (pc0 := 102) (pc' := 106) rfl (hb hby at_102) (by decide) (by decide) ?_
                    exact kg_
                  exact J133 (1 : Int32) (by
                                        show ((1 : Int32).toInt = 0 ∨ (1 : Int32).toInt = 1) ∧ (z124.toInt = 1 → i1.toInt = 1 → (1 : Int32).toInt = 1) ∧ (z124.toInt = 2 → i2.toInt = 1 → (1 : Int32).toInt = 1)
                                        have u0 : i1.toInt = 0 ∨ i1.toInt = 1 := hi1
                                        have u1 : i2.toInt = 0 ∨ i2.toInt = 1 := hi2.1
                                        have u2 : z124.toInt = 0 ∨ z124.toInt = 1 ∨ z124.toInt = 2 := hp3
                                        have q268_r := own_R32 p2s
                                        have q269_e : (4 : Int32).toInt = 4 := (by decide)
                                        have q269_r : (4 : Int) ≤ (4 : Int32).toInt ∧ (4 : Int32).toInt ≤ 4 := ⟨Int.le_of_eq q269_e.symm, Int.le_of_eq q269_e⟩
                                        have q270_r := own_R32 (p2s &&& (4 : Int32))
                                        have q271_ := c_andS p2s (4 : Int32)
                                        have q272_e : (0 : Int32).toInt = 0 := (by decide)
                                        have q272_r : (0 : Int) ≤ (0 : Int32).toInt ∧ (0 : Int32).toInt ≤ 0 := ⟨Int.le_of_eq q272_e.symm, Int.le_of_eq q272_e⟩
                                        have q273_r : (0 : Int) ≤ z124.toInt ∧ z124.toInt ≤ 2 := (own_012b hp3)
                                        have q274_e : (1 : Int32).toInt = 1 := (by decide)
                                        have q274_r : (1 : Int) ≤ (1 : Int32).toInt ∧ (1 : Int32).toInt ≤ 1 := ⟨Int.le_of_eq q274_e.symm, Int.le_of_eq q274_e⟩
                                        have q275_e : (2 : Int32).toInt = 2 := (by decide)
                                        have q275_r : (2 : Int) ≤ (2 : Int32).toInt ∧ (2 : Int32).toInt ≤ 2 := ⟨Int.le_of_eq q275_e.symm, Int.le_of_eq q275_e⟩
                                        have q276_r := own_R32 i2
                                        have q277_c := own_eq32 hc400
                                        have q278_c := own_ne32 hc402
                                        have q279_c := own_eq32 hc414
                                        have q280_c := own_ne32 hc416
                                        omega) r418
              · have r419 : own_R p.tables e below F0 (s₁.setTop (mkF m 106 #[.val (.int p0s), .val (.int p1s), .val (.int p2s), .val (.int p3s), .val (.int p4s), .val (.int z119), .val (.int dd), .val (.int z123), .val (.int z124), .val (.int i1), .val (.int i2), .unset, .unset, .unset, .unset, .unset, .unset, .unset, .unset, .unset, .unset, .unset, .unset, .unset, .unset, .unset, .unset, .unset, .unset] [(.int (0 : Int32))])) := fun tg_ kg_ => by
                  refine r413 tg_ ?_
                  show Steps p.tables e below (s₁.setTop (mkF m 93 #[.val (.int p0s), .val (.int p1s), .val (.int p2s), .val (.int p3s), .val (.int p4s), .val (.int z119), .val (.int dd), .val (.int z123), .val (.int z124), .val (.int i1), .val (.int i2), .unset, .unset, .unset, .unset, .unset, .unset, .unset, .unset, .unset, .unset, .unset, .unset, .unset, .unset, .unset, .unset, .unset, .unset] [(.int (2 : Int32)), (.int z124)])) _
                  refine XS.icmpYes X0.here hx rfl (pc0 := 93) (pc' := 105) rfl (hb hby at_93) rfl (feq hc414).2 (by decide) (by decide) ?_
                  show Steps p.tables e below (s₁.setTop (mkF m 105 #[.val (.int p0s), .val (.int p1s), .val (.int p2s), .val (.int p3s), .val (.int p4s), .val (.int z119), .val (.int dd), .val (.int z123), .val (.int z124), .val (.int i1), .val (.int i2), .unset, .unset, .unset, .unset, .unset, .unset, .unset, .unset, .unset, .unset, .unset, .unset, .unset, .unset, .unset, .unset, .unset, .unset] [])) _
                  refine XS.iconst X0.here hx rfl (hb hby at_105) ?_
                  exact kg_
                exact J133 (0 : Int32) (by
                                    show ((0 : Int32).toInt = 0 ∨ (0 : Int32).toInt = 1) ∧ (z124.toInt = 1 → i1.toInt = 1 → (0 : Int32).toInt = 1) ∧ (z124.toInt = 2 → i2.toInt = 1 → (0 : Int32).toInt = 1)
                                    have u0 : i1.toInt = 0 ∨ i1.toInt = 1 := hi1
                                    have u1 : i2.toInt = 0 ∨ i2.toInt = 1 := hi2.1
                                    have u2 : z124.toInt = 0 ∨ z124.toInt = 1 ∨ z124.toInt = 2 := hp3
                                    have q281_r := own_R32 p2s
                                    have q282_e : (4 : Int32).toInt = 4 := (by decide)
                                    have q282_r : (4 : Int) ≤ (4 : Int32).toInt ∧ (4 : Int32).toInt ≤ 4 := ⟨Int.le_of_eq q282_e.symm, Int.le_of_eq q282_e⟩
                                    have q283_r := own_R32 (p2s &&& (4 : Int32))
                                    have q284_ := c_andS p2s (4 : Int32)
                                    have q285_e : (0 : Int32).toInt = 0 := (by decide)
                                    have q285_r : (0 : Int) ≤ (0 : Int32).toInt ∧ (0 : Int32).toInt ≤ 0 := ⟨Int.le_of_eq q285_e.symm, Int.le_of_eq q285_e⟩
                                    have q286_r : (0 : Int) ≤ z124.toInt ∧ z124.toInt ≤ 2 := (own_012b hp3)
                                    have q287_e : (1 : Int32).toInt = 1 := (by decide)
                                    have q287_r : (1 : Int) ≤ (1 : Int32).toInt ∧ (1 : Int32).toInt ≤ 1 := ⟨Int.le_of_eq q287_e.symm, Int.le_of_eq q287_e⟩
                                    have q288_e : (2 : Int32).toInt = 2 := (by decide)
                                    have q288_r : (2 : Int) ≤ (2 : Int32).toInt ∧ (2 : Int32).toInt ≤ 2 := ⟨Int.le_of_eq q288_e.symm, Int.le_of_eq q288_e⟩
                                    have q289_c := own_eq32 hc400
                                    have q290_c := own_ne32 hc402
                                    have q291_c := own_ne32 hc414
                                    omega) r419
          · have r420 : own_R p.tables e below F0 (s₁.setTop (mkF m 106 #[.val (.int p0s), .val (.int p1s), .val (.int p2s), .val (.int p3s), .val (.int p4s), .val (.int z119), .val (.int dd), .val (.int z123), .val (.int z124), .val (.int i1), .val (.int i2), .unset, .unset, .unset, .unset, .unset, .unset, .unset, .unset, .unset, .unset, .unset, .unset, .unset, .unset, .unset, .unset, .unset, .unset] [(.int (1 : Int32))])) := fun tg_ kg_ => by
              refine r132 tg_ ?_
              show Steps p.tables e below (s₁.setTop (mkF m 76 #[.val (.int p0s), .val (.int p1s), .val (.int p2s), .val (.int p3s), .val (.int p4s), .val (.int z119), .val (.int dd), .val (.int z123), .val (.int z124), .val (.int i1), .val (.int i2), .unset, .unset, .unset, .unset, .unset, .unset, .unset, .unset, .unset, .unset, .unset, .unset, .unset, .unset, .unset, .unset, .unset, .unset] [(.int (p2s &&& (4 : Int32)))])) _
              refine XS.ifYes X0.here hx rfl (pc0 := 76) (pc' := 101) rfl (hb hby at_76) rfl ((if0 _ _).trans (feq hc400).2) (by decide) (by decide) ?_
              show Steps p.tables e below (s₁.setTop (mkF m 101 #[.val (.int p0s), .val (.int p1s), .val (.int p2s), .val (.int p3s), .val (.int p4s), .val (.int z119), .val (.int dd), .val (.int z123), .val (.int z124), .val (.int i1), .val (.int i2), .unset, .unset, .unset, .unset, .unset, .unset, .unset, .unset, .unset, .unset, .unset, .unset, .unset, .unset, .unset, .unset, .unset, .unset] [])) _
              refine XS.iconst X0.here hx rfl (hb hby at_101) ?_
              show Steps p.tables e below (s₁.setTop (mkF m 102 #[.val (.int p0s), .val (.int p1s), .val (.int p2s), .val (.int p3s), .val (.int p4s), .val (.int z119), .val (.int dd), .val (.int z123), .val (.int z124), .val (.int i1), .val (.int i2), .unset, .unset, .unset, .unset, .unset, .unset, .unset, .unset, .unset, .unset, .unset, .unset, .unset, .unset, .unset, .unset, .unset, .unset] [(.int (1 : Int32))])) _
              refine XS.goto X0.here hx rfl (pc0 := 102) (pc' := 106) rfl (hb hby at_102) (by decide) (by decide) ?_
              exact kg_
            exact J133 (1 : Int32) (by
                            show ((1 : Int32).toInt = 0 ∨ (1 : Int32).toInt = 1) ∧ (z124.toInt = 1 → i1.toInt = 1 → (1 : Int32).toInt = 1) ∧ (z124.toInt = 2 → i2.toInt = 1 → (1 : Int32).toInt = 1)
                            have u0 : i1.toInt = 0 ∨ i1.toInt = 1 := hi1
                            have u1 : i2.toInt = 0 ∨ i2.toInt = 1 := hi2.1
                            have u2 : z124.toInt = 0 ∨ z124.toInt = 1 ∨ z124.toInt = 2 := hp3
                            have q292_r := own_R32 p2s
                            have q293_e : (4 : Int32).toInt = 4 := (by decide)
                            have q293_r : (4 : Int) ≤ (4 : Int32).toInt ∧ (4 : Int32).toInt ≤ 4 := ⟨Int.le_of_eq q293_e.symm, Int.le_of_eq q293_e⟩
                            have q294_r := own_R32 (p2s &&& (4 : Int32))
                            have q295_ := c_andS p2s (4 : Int32)
                            have q296_e : (0 : Int32).toInt = 0 := (by decide)
                            have q296_r : (0 : Int) ≤ (0 : Int32).toInt ∧ (0 : Int32).toInt ≤ 0 := ⟨Int.le_of_eq q296_e.symm, Int.le_of_eq q296_e⟩
                            have q297_e : (1 : Int32).toInt = 1 := (by decide)
                            have q297_r : (1 : Int) ≤ (1 : Int32).toInt ∧ (1 : Int32).toInt ≤ 1 := ⟨Int.le_of_eq q297_e.symm, Int.le_of_eq q297_e⟩
                            have q298_c := own_ne32 hc400
                            omega) r420
        by_cases hc421 : (p2s &&& (2 : Int32)) = (0 : Int32)
        · have r422 : own_R p.tables e below F0 (s₁.setTop (mkF m 58 #[.val (.int p0s), .val (.int p1s), .val (.int p2s), .val (.int p3s), .val (.int p4s), .val (.int z119), .val (.int dd), .val (.int z123), .val (.int z124), .val (.int i1), .unset, .unset, .unset, .unset, .unset, .unset, .unset, .unset, .unset, .unset, .unset, .unset, .unset, .unset, .unset, .unset, .unset, .unset, .unset] [(.int (1 : Int32)), (.int z123)])) := fun tg_ kg_ => by
            refine r129 tg_ ?_
            show Steps p.tables e below (s₁.setTop (mkF m 52 #[.val (.int p0s), .val (.int p1s), .val (.int p2s), .val (.int p3s), .val (.int p4s), .val (.int z119), .val (.int dd), .val (.int z123), .val (.int z124), .val (.int i1), .unset, .unset, .unset, .unset, .unset, .unset, .unset, .unset, .unset, .unset, .unset, .unset, .unset, .unset, .unset, .unset, .unset, .unset, .unset] [(.int (p2s &&& (2 : Int32)))])) _
            refine XS.ifNo X0.here hx rfl (hb hby at_52) rfl ((if0 _ _).trans (teq hc421).2) ?_
            show Steps p.tables e below (s₁.setTop (mkF m 55 #[.val (.int p0s), .val (.int p1s), .val (.int p2s), .val (.int p3s), .val (.int p4s), .val (.int z119), .val (.int dd), .val (.int z123), .val (.int z124), .val (.int i1), .unset, .unset, .unset, .unset, .unset, .unset, .unset, .unset, .unset, .unset, .unset, .unset, .unset, .unset, .unset, .unset, .unset, .unset, .unset] [])) _
            refine XS.iload X0.here hx rfl (hb hby at_55) rfl ?_
            show Steps p.tables e below (s₁.setTop (mkF m 57 #[.val (.int p0s), .val (.int p1s), .val (.int p2s), .val (.int p3s), .val (.int p4s), .val (.int z119), .val (.int dd), .val (.int z123), .val (.int z124), .val (.int i1), .unset, .unset, .unset, .unset, .unset, .unset, .unset, .unset, .unset, .unset, .unset, .unset, .unset, .unset, .unset, .unset, .unset, .unset, .unset] [(.int z123)])) _
            refine XS.iconst X0.here hx rfl (hb hby at_57) ?_
            exact kg_
          by_cases hc423 : z123 = (1 : Int32)
          · have r424 : own_R p.tables e below F0 (s₁.setTop (mkF m 63 #[.val (.int p0s), .val (.int p1s), .val (.int p2s), .val (.int p3s), .val (.int p4s), .val (.int z119), .val (.int dd), .val (.int z123), .val (.int z124), .val (.int i1), .unset, .unset, .unset, .unset, .unset, .unset, .unset, .unset, .unset, .unset, .unset, .unset, .unset, .unset, .unset, .unset, .unset, .unset, .unset] [(.int i1)])) := fun tg_ kg_ => by
              refine r422 tg_ ?_
              show Steps p.tables e below (s₁.setTop (mkF m 58 #[.val (.int p0s), .val (.int p1s), .val (.int p2s), .val (.int p3s), .val (.int p4s), .val (.int z119), .val (.int dd), .val (.int z123), .val (.int z124), .val (.int i1), .unset, .unset, .unset, .unset, .unset, .unset, .unset, .unset, .unset, .unset, .unset, .unset, .unset, .unset, .unset, .unset, .unset, .unset, .unset] [(.int (1 : Int32)), (.int z123)])) _
              refine XS.icmpNo X0.here hx rfl (hb hby at_58) rfl (teq hc423).2 ?_
              show Steps p.tables e below (s₁.setTop (mkF m 61 #[.val (.int p0s), .val (.int p1s), .val (.int p2s), .val (.int p3s), .val (.int p4s), .val (.int z119), .val (.int dd), .val (.int z123), .val (.int z124), .val (.int i1), .unset, .unset, .unset, .unset, .unset, .unset, .unset, .unset, .unset, .unset, .unset, .unset, .unset, .unset, .unset, .unset, .unset, .unset, .unset] [])) _
              refine XS.iload X0.here hx rfl (hb hby at_61) rfl ?_
              exact kg_
            by_cases hc425 : i1 = (0 : Int32)
            · have r426 : own_R p.tables e below F0 (s₁.setTop (mkF m 71 #[.val (.int p0s), .val (.int p1s), .val (.int p2s), .val (.int p3s), .val (.int p4s), .val (.int z119), .val (.int dd), .val (.int z123), .val (.int z124), .val (.int i1), .unset, .unset, .unset, .unset, .unset, .unset, .unset, .unset, .unset, .unset, .unset, .unset, .unset, .unset, .unset, .unset, .unset, .unset, .unset] [(.int (0 : Int32))])) := fun tg_ kg_ => by
                refine r424 tg_ ?_
                show Steps p.tables e below (s₁.setTop (mkF m 63 #[.val (.int p0s), .val (.int p1s), .val (.int p2s), .val (.int p3s), .val (.int p4s), .val (.int z119), .val (.int dd), .val (.int z123), .val (.int z124), .val (.int i1), .unset, .unset, .unset, .unset, .unset, .unset, .unset, .unset, .unset, .unset, .unset, .unset, .unset, .unset, .unset, .unset, .unset, .unset, .unset] [(.int i1)])) _
                refine XS.ifYes X0.here hx rfl (pc0 := 63) (pc' := 70) rfl (hb hby at_63) rfl ((if0 _ _).trans (teq hc425).1) (by decide) (by decide) ?_
                show Steps p.tables e below (s₁.setTop (mkF m 70 #[.val (.int p0s), .val (.int p1s), .val (.int p2s), .val (.int p3s), .val (.int p4s), .val (.int z119), .val (.int dd), .val (.int z123), .val (.int z124), .val (.int i1), .unset, .unset, .unset, .unset, .unset, .unset, .unset, .unset, .unset, .unset, .unset, .unset, .unset, .unset, .unset, .unset, .unset, .unset, .unset] [])) _
                refine XS.iconst X0.here hx rfl (hb hby at_70) ?_
                exact kg_
              exact J130 (0 : Int32) (by
                                show ((0 : Int32).toInt = 0 ∨ (0 : Int32).toInt = 1) ∧ (z123.toInt = 1 → i1.toInt = 1 → (0 : Int32).toInt = 1)
                                have u0 : i1.toInt = 0 ∨ i1.toInt = 1 := hi1
                                have u1 : z123.toInt = 0 ∨ z123.toInt = 1 := hp2
                                have q299_r := own_R32 p2s
                                have q300_e : (2 : Int32).toInt = 2 := (by decide)
                                have q300_r : (2 : Int) ≤ (2 : Int32).toInt ∧ (2 : Int32).toInt ≤ 2 := ⟨Int.le_of_eq q300_e.symm, Int.le_of_eq q300_e⟩
                                have q301_r := own_R32 (p2s &&& (2 : Int32))
                                have q302_ := c_andS p2s (2 : Int32)
                                have q303_e : (0 : Int32).toInt = 0 := (by decide)
                                have q303_r : (0 : Int) ≤ (0 : Int32).toInt ∧ (0 : Int32).toInt ≤ 0 := ⟨Int.le_of_eq q303_e.symm, Int.le_of_eq q303_e⟩
                                have q304_r : (0 : Int) ≤ z123.toInt ∧ z123.toInt ≤ 1 := (own_01b hp2)
                                have q305_e : (1 : Int32).toInt = 1 := (by decide)
                                have q305_r : (1 : Int) ≤ (1 : Int32).toInt ∧ (1 : Int32).toInt ≤ 1 := ⟨Int.le_of_eq q305_e.symm, Int.le_of_eq q305_e⟩
                                have q306_r := own_R32 i1
                                have q307_c := own_eq32 hc421
                                have q308_c := own_eq32 hc423
                                have q309_c := own_eq32 hc425
                                omega) r426
            · have r427 : own_R p.tables e below F0 (s₁.setTop (mkF m 71 #[.val (.int p0s), .val (.int p1s), .val (.int p2s), .val (.int p3s), .val (.int p4s), .val (.int z119), .val (.int dd), .val (.int z123), .val (.int z124), .val (.int i1), .unset, .unset, .unset, .unset, .unset, .unset, .unset, .unset, .unset, .unset, .unset, .unset, .unset, .unset, .unset, .unset, .unset, .unset, .unset] [(.int (1 : Int32))])) := fun tg_ kg_ => by
                refine r424 tg_ ?_
                show Steps p.tables e below (s₁.setTop (mkF m 63 #[.val (.int p0s), .val (.int p1s), .val (.int p2s), .val (.int p3s), .val (.int p4s), .val (.int z119), .val (.int dd), .val (.int z123), .val (.int z124), .val (.int i1), .unset, .unset, .unset, .unset, .unset, .unset, .unset, .unset, .unset, .unset, .unset, .unset, .unset, .unset, .unset, .unset, .unset, .unset, .unset] [(.int i1)])) _
                refine XS.ifNo X0.here hx rfl (hb hby at_63) rfl ((if0 _ _).trans (feq hc425).1) ?_
                show Steps p.tables e below (s₁.setTop (mkF m 66 #[.val (.int p0s), .val (.int p1s), .val (.int p2s), .val (.int p3s), .val (.int p4s), .val (.int z119), .val (.int dd), .val (.int z123), .val (.int z124), .val (.int i1), .unset, .unset, .unset, .unset, .unset, .unset, .unset, .unset, .unset, .unset, .unset, .unset, .unset, .unset, .unset, .unset, .unset, .unset, .unset] [])) _
                refine XS.iconst X0.here hx rfl (hb hby at_66) ?_
                show Steps p.tables e below (s₁.setTop (mkF m 67 #[.val (.int p0s), .val (.int p1s), .val (.int p2s), .val (.int p3s), .val (.int p4s), .val (.int z119), .val (.int dd), .val (.int z123), .val (.int z124), .val (.int i1), .unset, .unset, .unset, .unset, .unset, .unset, .unset, .unset, .unset, .unset, .unset, .unset, .unset, .unset, .unset, .unset, .unset, .unset, .unset] [(.int (1 : Int32))])) _
                refine XS.goto X0.here hx rfl (pc0 := 67) (pc' := 71) rfl (hb hby at_67) (by decide) (by decide) ?_
                exact kg_
              exact J130 (1 : Int32) (by
                                show ((1 : Int32).toInt = 0 ∨ (1 : Int32).toInt = 1) ∧ (z123.toInt = 1 → i1.toInt = 1 → (1 : Int32).toInt = 1)
                                have u0 : i1.toInt = 0 ∨ i1.toInt = 1 := hi1
                                have u1 : z123.toInt = 0 ∨ z123.toInt = 1 := hp2
                                have q310_r := own_R32 p2s
                                have q311_e : (2 : Int32).toInt = 2 := (by decide)
                                have q311_r : (2 : Int) ≤ (2 : Int32).toInt ∧ (2 : Int32).toInt ≤ 2 := ⟨Int.le_of_eq q311_e.symm, Int.le_of_eq q311_e⟩
                                have q312_r := own_R32 (p2s &&& (2 : Int32))
                                have q313_ := c_andS p2s (2 : Int32)
                                have q314_e : (0 : Int32).toInt = 0 := (by decide)
                                have q314_r : (0 : Int) ≤ (0 : Int32).toInt ∧ (0 : Int32).toInt ≤ 0 := ⟨Int.le_of_eq q314_e.symm, Int.le_of_eq q314_e⟩
                                have q315_r : (0 : Int) ≤ z123.toInt ∧ z123.toInt ≤ 1 := (own_01b hp2)
                                have q316_e : (1 : Int32).toInt = 1 := (by decide)
                                have q316_r : (1 : Int) ≤ (1 : Int32).toInt ∧ (1 : Int32).toInt ≤ 1 := ⟨Int.le_of_eq q316_e.symm, Int.le_of_eq q316_e⟩
                                have q317_r := own_R32 i1
                                have q318_c := own_eq32 hc421
                                have q319_c := own_eq32 hc423
                                have q320_c := own_ne32 hc425
                                omega) r427
          · have r428 : own_R p.tables e below F0 (s₁.setTop (mkF m 71 #[.val (.int p0s), .val (.int p1s), .val (.int p2s), .val (.int p3s), .val (.int p4s), .val (.int z119), .val (.int dd), .val (.int z123), .val (.int z124), .val (.int i1), .unset, .unset, .unset, .unset, .unset, .unset, .unset, .unset, .unset, .unset, .unset, .unset, .unset, .unset, .unset, .unset, .unset, .unset, .unset] [(.int (0 : Int32))])) := fun tg_ kg_ => by
              refine r422 tg_ ?_
              show Steps p.tables e below (s₁.setTop (mkF m 58 #[.val (.int p0s), .val (.int p1s), .val (.int p2s), .val (.int p3s), .val (.int p4s), .val (.int z119), .val (.int dd), .val (.int z123), .val (.int z124), .val (.int i1), .unset, .unset, .unset, .unset, .unset, .unset, .unset, .unset, .unset, .unset, .unset, .unset, .unset, .unset, .unset, .unset, .unset, .unset, .unset] [(.int (1 : Int32)), (.int z123)])) _
              refine XS.icmpYes X0.here hx rfl (pc0 := 58) (pc' := 70) rfl (hb hby at_58) rfl (feq hc423).2 (by decide) (by decide) ?_
              show Steps p.tables e below (s₁.setTop (mkF m 70 #[.val (.int p0s), .val (.int p1s), .val (.int p2s), .val (.int p3s), .val (.int p4s), .val (.int z119), .val (.int dd), .val (.int z123), .val (.int z124), .val (.int i1), .unset, .unset, .unset, .unset, .unset, .unset, .unset, .unset, .unset, .unset, .unset, .unset, .unset, .unset, .unset, .unset, .unset, .unset, .unset] [])) _
              refine XS.iconst X0.here hx rfl (hb hby at_70) ?_
              exact kg_
            exact J130 (0 : Int32) (by
                            show ((0 : Int32).toInt = 0 ∨ (0 : Int32).toInt = 1) ∧ (z123.toInt = 1 → i1.toInt = 1 → (0 : Int32).toInt = 1)
                            have u0 : i1.toInt = 0 ∨ i1.toInt = 1 := hi1
                            have u1 : z123.toInt = 0 ∨ z123.toInt = 1 := hp2
                            have q321_r := own_R32 p2s
                            have q322_e : (2 : Int32).toInt = 2 := (by decide)
                            have q322_r : (2 : Int) ≤ (2 : Int32).toInt ∧ (2 : Int32).toInt ≤ 2 := ⟨Int.le_of_eq q322_e.symm, Int.le_of_eq q322_e⟩
                            have q323_r := own_R32 (p2s &&& (2 : Int32))
                            have q324_ := c_andS p2s (2 : Int32)
                            have q325_e : (0 : Int32).toInt = 0 := (by decide)
                            have q325_r : (0 : Int) ≤ (0 : Int32).toInt ∧ (0 : Int32).toInt ≤ 0 := ⟨Int.le_of_eq q325_e.symm, Int.le_of_eq q325_e⟩
                            have q326_r : (0 : Int) ≤ z123.toInt ∧ z123.toInt ≤ 1 := (own_01b hp2)
                            have q327_e : (1 : Int32).toInt = 1 := (by decide)
                            have q327_r : (1 : Int) ≤ (1 : Int32).toInt ∧ (1 : Int32).toInt ≤ 1 := ⟨Int.le_of_eq q327_e.symm, Int.le_of_eq q327_e⟩
                            have q328_c := own_eq32 hc421
                            have q329_c := own_ne32 hc423
                            omega) r428
        · have r429 : own_R p.tables e below F0 (s₁.setTop (mkF m 71 #[.val (.int p0s), .val (.int p1s), .val (.int p2s), .val (.int p3s), .val (.int p4s), .val (.int z119), .val (.int dd), .val (.int z123), .val (.int z124), .val (.int i1), .unset, .unset, .unset, .unset, .unset, .unset, .unset, .unset, .unset, .unset, .unset, .unset, .unset, .unset, .unset, .unset, .unset, .unset, .unset] [(.int (1 : Int32))])) := fun tg_ kg_ => by
            refine r129 tg_ ?_
            show Steps p.tables e below (s₁.setTop (mkF m 52 #[.val (.int p0s), .val (.int p1s), .val (.int p2s), .val (.int p3s), .val (.int p4s), .val (.int z119), .val (.int dd), .val (.int z123), .val (.int z124), .val (.int i1), .unset, .unset, .unset, .unset, .unset, .unset, .unset, .unset, .unset, .unset, .unset, .unset, .unset, .unset, .unset, .unset, .unset, .unset, .unset] [(.int (p2s &&& (2 : Int32)))])) _
            refine XS.ifYes X0.here hx rfl (pc0 := 52) (pc' := 66) rfl (hb hby at_52) rfl ((if0 _ _).trans (feq hc421).2) (by decide) (by decide) ?_
            show Steps p.tables e below (s₁.setTop (mkF m 66 #[.val (.int p0s), .val (.int p1s), .val (.int p2s), .val (.int p3s), .val (.int p4s), .val (.int z119), .val (.int dd), .val (.int z123), .val (.int z124), .val (.int i1), .unset, .unset, .unset, .unset, .unset, .unset, .unset, .unset, .unset, .unset, .unset, .unset, .unset, .unset, .unset, .unset, .unset, .unset, .unset] [])) _
            refine XS.iconst X0.here hx rfl (hb hby at_66) ?_
            show Steps p.tables e below (s₁.setTop (mkF m 67 #[.val (.int p0s), .val (.int p1s), .val (.int p2s), .val (.int p3s), .val (.int p4s), .val (.int z119), .val (.int dd), .val (.int z123), .val (.int z124), .val (.int i1), .unset, .unset, .unset, .unset, .unset, .unset, .unset, .unset, .unset, .unset, .unset, .unset, .unset, .unset, .unset, .unset, .unset, .unset, .unset] [(.int (1 : Int32))])) _
            refine XS.goto X0.here hx rfl (pc0 := 67) (pc' := 71) rfl (hb hby at_67) (by decide) (by decide) ?_
            exact kg_
          exact J130 (1 : Int32) (by
                        show ((1 : Int32).toInt = 0 ∨ (1 : Int32).toInt = 1) ∧ (z123.toInt = 1 → i1.toInt = 1 → (1 : Int32).toInt = 1)
                        have u0 : i1.toInt = 0 ∨ i1.toInt = 1 := hi1
                        have u1 : z123.toInt = 0 ∨ z123.toInt = 1 := hp2
                        have q330_r := own_R32 p2s
                        have q331_e : (2 : Int32).toInt = 2 := (by decide)
                        have q331_r : (2 : Int) ≤ (2 : Int32).toInt ∧ (2 : Int32).toInt ≤ 2 := ⟨Int.le_of_eq q331_e.symm, Int.le_of_eq q331_e⟩
                        have q332_r := own_R32 (p2s &&& (2 : Int32))
                        have q333_ := c_andS p2s (2 : Int32)
                        have q334_e : (0 : Int32).toInt = 0 := (by decide)
                        have q334_r : (0 : Int) ≤ (0 : Int32).toInt ∧ (0 : Int32).toInt ≤ 0 := ⟨Int.le_of_eq q334_e.symm, Int.le_of_eq q334_e⟩
                        have q335_e : (1 : Int32).toInt = 1 := (by decide)
                        have q335_r : (1 : Int) ≤ (1 : Int32).toInt ∧ (1 : Int32).toInt ≤ 1 := ⟨Int.le_of_eq q335_e.symm, Int.le_of_eq q335_e⟩
                        have q336_c := own_ne32 hc421
                        omega) r429
      by_cases hc430 : (p2s &&& (1 : Int32)) = (0 : Int32)
      · have r431 : own_R p.tables e below F0 (s₁.setTop (mkF m 47 #[.val (.int p0s), .val (.int p1s), .val (.int p2s), .val (.int p3s), .val (.int p4s), .val (.int z119), .val (.int dd), .val (.int z123), .val (.int z124), .unset, .unset, .unset, .unset, .unset, .unset, .unset, .unset, .unset, .unset, .unset, .unset, .unset, .unset, .unset, .unset, .unset, .unset, .unset, .unset] [(.int (0 : Int32))])) := fun tg_ kg_ => by
          refine r126 tg_ ?_
          show Steps p.tables e below (s₁.setTop (mkF m 39 #[.val (.int p0s), .val (.int p1s), .val (.int p2s), .val (.int p3s), .val (.int p4s), .val (.int z119), .val (.int dd), .val (.int z123), .val (.int z124), .unset, .unset, .unset, .unset, .unset, .unset, .unset, .unset, .unset, .unset, .unset, .unset, .unset, .unset, .unset, .unset, .unset, .unset, .unset, .unset] [(.int (p2s &&& (1 : Int32)))])) _
          refine XS.ifYes X0.here hx rfl (pc0 := 39) (pc' := 46) rfl (hb hby at_39) rfl ((if0 _ _).trans (teq hc430).1) (by decide) (by decide) ?_
          show Steps p.tables e below (s₁.setTop (mkF m 46 #[.val (.int p0s), .val (.int p1s), .val (.int p2s), .val (.int p3s), .val (.int p4s), .val (.int z119), .val (.int dd), .val (.int z123), .val (.int z124), .unset, .unset, .unset, .unset, .unset, .unset, .unset, .unset, .unset, .unset, .unset, .unset, .unset, .unset, .unset, .unset, .unset, .unset, .unset, .unset] [])) _
          refine XS.iconst X0.here hx rfl (hb hby at_46) ?_
          exact kg_
        exact J127 (0 : Int32) (show own_01 _ from by first | exact Or.inl (by decide) | exact Or.inr (by decide)) r431
      · have r432 : own_R p.tables e below F0 (s₁.setTop (mkF m 47 #[.val (.int p0s), .val (.int p1s), .val (.int p2s), .val (.int p3s), .val (.int p4s), .val (.int z119), .val (.int dd), .val (.int z123), .val (.int z124), .unset, .unset, .unset, .unset, .unset, .unset, .unset, .unset, .unset, .unset, .unset, .unset, .unset, .unset, .unset, .unset, .unset, .unset, .unset, .unset] [(.int (1 : Int32))])) := fun tg_ kg_ => by
          refine r126 tg_ ?_
          show Steps p.tables e below (s₁.setTop (mkF m 39 #[.val (.int p0s), .val (.int p1s), .val (.int p2s), .val (.int p3s), .val (.int p4s), .val (.int z119), .val (.int dd), .val (.int z123), .val (.int z124), .unset, .unset, .unset, .unset, .unset, .unset, .unset, .unset, .unset, .unset, .unset, .unset, .unset, .unset, .unset, .unset, .unset, .unset, .unset, .unset] [(.int (p2s &&& (1 : Int32)))])) _
          refine XS.ifNo X0.here hx rfl (hb hby at_39) rfl ((if0 _ _).trans (feq hc430).1) ?_
          show Steps p.tables e below (s₁.setTop (mkF m 42 #[.val (.int p0s), .val (.int p1s), .val (.int p2s), .val (.int p3s), .val (.int p4s), .val (.int z119), .val (.int dd), .val (.int z123), .val (.int z124), .unset, .unset, .unset, .unset, .unset, .unset, .unset, .unset, .unset, .unset, .unset, .unset, .unset, .unset, .unset, .unset, .unset, .unset, .unset, .unset] [])) _
          refine XS.iconst X0.here hx rfl (hb hby at_42) ?_
          show Steps p.tables e below (s₁.setTop (mkF m 43 #[.val (.int p0s), .val (.int p1s), .val (.int p2s), .val (.int p3s), .val (.int p4s), .val (.int z119), .val (.int dd), .val (.int z123), .val (.int z124), .unset, .unset, .unset, .unset, .unset, .unset, .unset, .unset, .unset, .unset, .unset, .unset, .unset, .unset, .unset, .unset, .unset, .unset, .unset, .unset] [(.int (1 : Int32))])) _
          refine XS.goto X0.here hx rfl (pc0 := 43) (pc' := 47) rfl (hb hby at_43) (by decide) (by decide) ?_
          exact kg_
        exact J127 (1 : Int32) (show own_01 _ from by first | exact Or.inl (by decide) | exact Or.inr (by decide)) r432
    by_cases hc433 : (p1s &&& (1 : Int32)) = (0 : Int32)
    · have r434 : own_R p.tables e below F0 (s₁.setTop (mkF m 16 #[.val (.int p0s), .val (.int p1s), .val (.int p2s), .val (.int p3s), .val (.int p4s), .val (.int z119), .unset, .unset, .unset, .unset, .unset, .unset, .unset, .unset, .unset, .unset, .unset, .unset, .unset, .unset, .unset, .unset, .unset, .unset, .unset, .unset, .unset, .unset, .unset] [(.int (1 : Int32))])) := fun tg_ kg_ => by
        refine r120 tg_ ?_
        show Steps p.tables e below (s₁.setTop (mkF m 8 #[.val (.int p0s), .val (.int p1s), .val (.int p2s), .val (.int p3s), .val (.int p4s), .val (.int z119), .unset, .unset, .unset, .unset, .unset, .unset, .unset, .unset, .unset, .unset, .unset, .unset, .unset, .unset, .unset, .unset, .unset, .unset, .unset, .unset, .unset, .unset, .unset] [(.int (p1s &&& (1 : Int32)))])) _
        refine XS.ifNo X0.here hx rfl (hb hby at_8) rfl ((if0 _ _).trans (teq hc433).2) ?_
        show Steps p.tables e below (s₁.setTop (mkF m 11 #[.val (.int p0s), .val (.int p1s), .val (.int p2s), .val (.int p3s), .val (.int p4s), .val (.int z119), .unset, .unset, .unset, .unset, .unset, .unset, .unset, .unset, .unset, .unset, .unset, .unset, .unset, .unset, .unset, .unset, .unset, .unset, .unset, .unset, .unset, .unset, .unset] [])) _
        refine XS.iconst X0.here hx rfl (hb hby at_11) ?_
        show Steps p.tables e below (s₁.setTop (mkF m 12 #[.val (.int p0s), .val (.int p1s), .val (.int p2s), .val (.int p3s), .val (.int p4s), .val (.int z119), .unset, .unset, .unset, .unset, .unset, .unset, .unset, .unset, .unset, .unset, .unset, .unset, .unset, .unset, .unset, .unset, .unset, .unset, .unset, .unset, .unset, .unset, .unset] [(.int (1 : Int32))])) _
        refine XS.goto X0.here hx rfl (pc0 := 12) (pc' := 16) rfl (hb hby at_12) (by decide) (by decide) ?_
        exact kg_
      exact J121 (1 : Int32) (show own_dd _ from by first | exact Or.inl (by decide) | exact Or.inr (by decide)) r434
    · have r435 : own_R p.tables e below F0 (s₁.setTop (mkF m 16 #[.val (.int p0s), .val (.int p1s), .val (.int p2s), .val (.int p3s), .val (.int p4s), .val (.int z119), .unset, .unset, .unset, .unset, .unset, .unset, .unset, .unset, .unset, .unset, .unset, .unset, .unset, .unset, .unset, .unset, .unset, .unset, .unset, .unset, .unset, .unset, .unset] [(.int (3 : Int32))])) := fun tg_ kg_ => by
        refine r120 tg_ ?_
        show Steps p.tables e below (s₁.setTop (mkF m 8 #[.val (.int p0s), .val (.int p1s), .val (.int p2s), .val (.int p3s), .val (.int p4s), .val (.int z119), .unset, .unset, .unset, .unset, .unset, .unset, .unset, .unset, .unset, .unset, .unset, .unset, .unset, .unset, .unset, .unset, .unset, .unset, .unset, .unset, .unset, .unset, .unset] [(.int (p1s &&& (1 : Int32)))])) _
        refine XS.ifYes X0.here hx rfl (pc0 := 8) (pc' := 15) rfl (hb hby at_8) rfl ((if0 _ _).trans (feq hc433).2) (by decide) (by decide) ?_
        show Steps p.tables e below (s₁.setTop (mkF m 15 #[.val (.int p0s), .val (.int p1s), .val (.int p2s), .val (.int p3s), .val (.int p4s), .val (.int z119), .unset, .unset, .unset, .unset, .unset, .unset, .unset, .unset, .unset, .unset, .unset, .unset, .unset, .unset, .unset, .unset, .unset, .unset, .unset, .unset, .unset, .unset, .unset] [])) _
        refine XS.iconst X0.here hx rfl (hb hby at_15) ?_
        exact kg_
      exact J121 (3 : Int32) (show own_dd _ from by first | exact Or.inl (by decide) | exact Or.inr (by decide)) r435
  exact key _ _ id (fun t k => castTop (ef_0 m p0s p1s p2s p3s p4s) k)
set_option maxRecDepth 65536 in
set_option maxHeartbeats 40000000 in
theorem comes_1 {Post : Tables → Env → Array Value → State → Outcome → State → Prop} (hpost : ∀ tb e args s v u, (limb_1_1.after args s (.returned v) u = true ∧ limb_1_2.after args s (.returned v) u = true ∧ True) → FrameEnd s (.returned v) u (Jvm.fieldLocs frame_1_writes args s ++ Jvm.arrayLocs frame_1_arrays args s ++ Jvm.staticLocs frame_1_statics s) 16 128 → Post tb e args s (.returned v) u) :
    ArmFor flags0 classFile x code maxLocals ret World_1 tables_1 room_1 Calls_1 rest_1 Pre_1 Post := by
  intro l hfl _ _ p e ha hc hk s m args below hf hA hF happ hP
  obtain ⟨hcalls, hrest, hpre⟩ := hP
  obtain ⟨-, -, -, hnamed, -, -, -, hat⟩ := (Spec.applies_iff hf).mp happ
  obtain ⟨hg, hn⟩ := and_e (Cond.before_iff.mp (show (Jvm.Cond.and given_1 narrow_1).before args s = true from hpre))
  obtain ⟨gw1, gw2⟩ := and_e hg
  obtain ⟨gw3, gw4⟩ := and_e gw2
  obtain ⟨gw5, gw6⟩ := and_e gw4
  obtain ⟨gw7, gw8⟩ := and_e gw6
  obtain ⟨gw9, gw10⟩ := and_e gw8
  obtain ⟨w0, w1, w2, w3, w4, rfl⟩ : ∃ w0 w1 w2 w3 w4 : Value, args = #[w0, w1, w2, w3, w4] := by
    have hs : args.size = 5 := by simpa [Cond.value, given_1] using gw1
    obtain ⟨L⟩ := args
    match L, hs with
    | [w0, w1, w2, w3, w4], _ => exact ⟨w0, w1, w2, w3, w4, rfl⟩
  have hw := fun d (hd : d ∈ tables_1) => atoms_spec (ws := Jvm.Cond.code x code maxLocals ret :: tables_1) hat d (List.mem_cons_of_mem _ hd)
  have hfit : Fit s := fun {y c} hc i hi => by
    obtain ⟨ha, rfl⟩ := Array.getElem?_eq_some_iff.mp hc
    have q := List.all_eq_true.mp ((Array.all_eq_true_iff_forall_mem.mp hF) _ (Array.getElem_mem ha)) i (List.mem_range.mpr hi)
    simpa [Array.getElem?_eq_getElem hi] using q
  obtain ⟨i0, ei0⟩ := is_v gw3
  obtain rfl : w0 = (.int i0) := Option.some.inj ei0
  obtain ⟨i1, ei1⟩ := is_v gw5
  obtain rfl : w1 = (.int i1) := Option.some.inj ei1
  obtain ⟨i2, ei2⟩ := is_v gw7
  obtain rfl : w2 = (.int i2) := Option.some.inj ei2
  obtain ⟨i3, ei3⟩ := is_v gw9
  obtain rfl : w3 = (.int i3) := Option.some.inj ei3
  obtain ⟨i4, ei4⟩ := is_v gw10
  obtain rfl : w4 = (.int i4) := Option.some.inj ei4
  obtain ⟨n, o, h1, h2, h3, _, L, rfl, ⟨rfl, N⟩, hq⟩ := rm0 l s _ hw tables_1 i0 i1 i2 i3 i4  s.heap s.heap.size (Nat.le_refl _)  p e ha hc hk s m _ below hf ((Spec.applies_iff_loose hf).mp happ).1 ⟨rfl, State.Warmed39.refl s, rfl⟩ trivial
  refine ⟨n, _, h1, h2, h3, hpost _ _ _ _ _ _ ⟨Cond.after_iff.mpr rfl, Cond.after_iff.mpr (eq_i res_at (Term.int_eval (1)) rfl), trivial⟩ ⟨hq.1, hq.2.1, (hq.2.2.sift fun y hy => Or.inr (N y hy)).mono (by decide) (by decide)⟩⟩
theorem main_1_1 : Claimed_1_1 := comes_1 fun _ _ _ _ _ _ h hF => ⟨h.1, hF⟩
theorem main_1_2 : Claimed_1_2 := comes_1 fun _ _ _ _ _ _ h hF => ⟨h.2.1, hF⟩
end Jvm.Pilot.@@N@@
namespace Jvm.Pilot.@@N@@
open Jvm Jvm.ClassFile Sem Op Lib Jvm.Free Jvm.Stand Jvm.Pilot.@@N@@.Jvm.D
/-! MADE BY PROGRAM (witnessworld.py) out of the Statement's table words and the real class files: 11 classes; the members and pool entries that the words name. The judged class is class 1, her method 2. -/
namespace start1
open Jvm.ClassFile
def u (s : String) : CpInfo := .utf8 (stringToUtf16 s)
/-- a pool by its gaps: so many unusable entries, then the entry; so many at the end -/
def gap : Nat → List CpInfo → List CpInfo
  | 0, r => r
  | n + 1, r => .unusable :: gap n r
def poolList (es : List (Nat × CpInfo)) (last : Nat) : List CpInfo := es.foldr (fun e r => gap e.1 (e.2 :: r)) (gap last [])
def pool (es : List (Nat × CpInfo)) (last : Nat) : Array CpInfo := ⟨poolList es last⟩
def fileOf (pool : Array CpInfo) (this : Nat) (attrs : Array Attribute := #[]) (ms : Array MethodInfo := #[]) (fl : Nat := 33) (sup : Nat := 0) (ifs : Array Nat := #[]) (fds : Array FieldInfo := #[]) : ClassFile where
  minorVersion := 0
  majorVersion := 65
  constantPool := pool
  accessFlags := fl
  thisClass := this
  superClass := sup
  interfaces := ifs
  fields := fds
  methods := ms
  attributes := attrs
def plain (name : String) (sup : Option ClassId) : Class where
  name := name
  kind := .ordinary
  loader := none
  accessFlags := 33
  super := sup
  interfaces := #[]
  cf := none
  fields := #[]
  methods := #[]
  instanceTypes := #[]
  staticTypes := #[]
  resolved := #[]
  callSites := []
  init := .initialized
  statics := none
  mirror := none

def pool0 : Array CpInfo := pool [(5, u "<init>"), (0, u "()V"), (1, .class_ 10), (1, u "java/lang/Object")] 113

def k0c0 : Code := { maxStack := 0, maxLocals := 1, code := object_method_1_code, exceptionTable := #[], attributes := #[] }
def k0m0 : Method := { name := "<init>", desc := "()V", sig := { parameters := [], returnType := none }, accessFlags := 1, code := some k0c0 }
/-- java/lang/Object -/
def k0 : Class := { plain "java/lang/Object" none with
  accessFlags := 33
  interfaces := #[]
  cf := some (fileOf pool0 8 #[] #[{ accessFlags := 1, nameIndex := 5, descriptorIndex := 6, attributes := #[] }] 33 0 #[] #[])
  fields := #[]
  methods := #[k0m0]
  instanceTypes := #[]
  staticTypes := #[]
  resolved := Array.replicate 124 none
  statics := none }

def pool1 : Array CpInfo := pool [(2, .class_ 4), (1, u "java/lang/Object"), (0, u "<init>"), (0, u "()V"), (2, .double 9218868437227405312), (1, .methodref 12 13), (0, .class_ 14), (0, .nameAndType 15 16), (0, u "org/fractile/graph/PathTreePathPinLaw"), (0, u "vert"), (0, u "(III)I"), (0, .double 4611686018427387904), (1, .double 4613937818241073152), (1, .class_ 22), (0, u "org/fractile/graph/PathTree"), (0, .methodref 21 24), (0, .nameAndType 5 25), (0, u "(I[D[I)V"), (0, .methodref 21 27), (0, .nameAndType 28 29), (0, u "path"), (0, u "(I)[I"), (2, u "law"), (0, u "(IIIII)Z")] 7

def k1m0 : Method := { name := "<init>", desc := "()V", sig := { parameters := [], returnType := none }, accessFlags := 1, code := none }
def k1c1 : Code := { maxStack := 3, maxLocals := 3, code := method_2_code, exceptionTable := #[], attributes := #[] }
def k1m1 : Method := { name := "vert", desc := "(III)I", sig := { parameters := [.int, .int, .int], returnType := some .int }, accessFlags := 10, code := some k1c1 }
def k1c2 : Code := { maxStack := 5, maxLocals := 29, code := code, exceptionTable := #[], attributes := #[] }
def k1m2 : Method := { name := "law", desc := "(IIIII)Z", sig := { parameters := [.int, .int, .int, .int, .int], returnType := some .boolean }, accessFlags := 9, code := some k1c2 }
/-- org/fractile/graph/PathTreePathPinLaw -/
def k1 : Class := { plain "org/fractile/graph/PathTreePathPinLaw" (some 0) with
  accessFlags := 49
  interfaces := #[]
  cf := some (fileOf pool1 12 #[] #[{ accessFlags := 1, nameIndex := 5, descriptorIndex := 6, attributes := #[] }, { accessFlags := 10, nameIndex := 15, descriptorIndex := 16, attributes := #[] }, { accessFlags := 9, nameIndex := 32, descriptorIndex := 33, attributes := #[] }] 49 2 #[] #[])
  fields := #[]
  methods := #[k1m0, k1m1, k1m2]
  instanceTypes := #[]
  staticTypes := #[]
  resolved := Array.replicate 41 none
  statics := none }

def pool2 : Array CpInfo := pool [(1, .methodref 2 3), (0, .class_ 4), (0, .nameAndType 5 6), (0, u "java/lang/Object"), (0, u "<init>"), (0, u "()V"), (0, .fieldref 8 9), (0, .class_ 10), (0, .nameAndType 11 12), (0, u "org/fractile/graph/PathTree"), (0, u "source"), (0, u "I"), (0, .fieldref 8 14), (0, .nameAndType 15 16), (0, u "cost"), (0, u "[D"), (0, .fieldref 8 18), (0, .nameAndType 19 20), (0, u "predecessor"), (0, u "[I"), (2, .double 9218868437227405312), (1, u "(I[D[I)V"), (6, u "path"), (0, u "(I)[I")] 3

def k2c0 : Code := { maxStack := 2, maxLocals := 4, code := prog_56_method_1_code, exceptionTable := #[], attributes := #[] }
def k2m0 : Method := { name := "<init>", desc := "(I[D[I)V", sig := { parameters := [.int, (.array .double), (.array .int)], returnType := none }, accessFlags := 0, code := some k2c0 }
def k2c1 : Code := { maxStack := 4, maxLocals := 6, code := prog_56_method_5_code, exceptionTable := #[], attributes := #[] }
def k2m1 : Method := { name := "path", desc := "(I)[I", sig := { parameters := [.int], returnType := some (.array .int) }, accessFlags := 1, code := some k2c1 }
/-- org/fractile/graph/PathTree -/
def k2 : Class := { plain "org/fractile/graph/PathTree" (some 0) with
  accessFlags := 49
  interfaces := #[]
  cf := some (fileOf pool2 8 #[] #[{ accessFlags := 0, nameIndex := 5, descriptorIndex := 25, attributes := #[] }, { accessFlags := 1, nameIndex := 32, descriptorIndex := 33, attributes := #[] }] 49 2 #[] #[{ accessFlags := 18, nameIndex := 11, descriptorIndex := 12, attributes := #[] }, { accessFlags := 18, nameIndex := 15, descriptorIndex := 16, attributes := #[] }, { accessFlags := 18, nameIndex := 19, descriptorIndex := 20, attributes := #[] }])
  fields := #[{ name := "source", type := .int, accessFlags := 18, slot := 0, constantValue := 0 }, { name := "cost", type := (.array .double), accessFlags := 18, slot := 1, constantValue := 0 }, { name := "predecessor", type := (.array .int), accessFlags := 18, slot := 2, constantValue := 0 }]
  methods := #[k2m0, k2m1]
  instanceTypes := #[.int, (.array .double), (.array .int)]
  staticTypes := #[]
  resolved := Array.replicate 37 none
  statics := none }

def pool3 : Array CpInfo := pool [(1, u "java/lang/Cloneable"), (0, .class_ 1), (0, u "java/lang/Object"), (0, .class_ 3)] 3

/-- java/lang/Cloneable -/
def k3 : Class := { plain "java/lang/Cloneable" (some 0) with
  accessFlags := 1537
  interfaces := #[]
  cf := some (fileOf pool3 2 #[] #[] 1537 4 #[] #[])
  fields := #[]
  methods := #[]
  instanceTypes := #[]
  staticTypes := #[]
  resolved := Array.replicate 8 none
  statics := none }

def pool4 : Array CpInfo := pool [(1, u "java/io/Serializable"), (0, .class_ 1), (0, u "java/lang/Object"), (0, .class_ 3)] 3

/-- java/io/Serializable -/
def k4 : Class := { plain "java/io/Serializable" (some 0) with
  accessFlags := 1537
  interfaces := #[]
  cf := some (fileOf pool4 2 #[] #[] 1537 4 #[] #[])
  fields := #[]
  methods := #[]
  instanceTypes := #[]
  staticTypes := #[]
  resolved := Array.replicate 8 none
  statics := none }

/-- the primitive byte -/
def k5 : Class := { plain "byte" none with kind := .primitive 'B', accessFlags := 0x411 }
/-- [B -/
def k6 : Class := { plain "[B" (some 0) with kind := .array 5 .byte, interfaces := #[3, 4], accessFlags := 1041 }

/-- the primitive double -/
def k7 : Class := { plain "double" none with kind := .primitive 'D', accessFlags := 0x411 }
/-- [D -/
def k8 : Class := { plain "[D" (some 0) with kind := .array 7 .double, interfaces := #[3, 4], accessFlags := 1041 }

/-- the primitive int -/
def k9 : Class := { plain "int" none with kind := .primitive 'I', accessFlags := 0x411 }
/-- [I -/
def k10 : Class := { plain "[I" (some 0) with kind := .array 9 .int, interfaces := #[3, 4], accessFlags := 1041 }

def heap : Heap := #[]
def classes : Array Class := #[k0, k1, k2, k3, k4, k5, k6, k7, k8, k9, k10]
def interned : List (Array UInt16 × Addr) := []
def slotsUsed : Nat := 0
def theMethod : MethodId := ⟨1, 2⟩
def args0 : Array Value := #[.int 5, .int 3, .int 2, .int 1, .int 2]
def aboutOver (below : List Frame) : State where
  vm := { classes := classes, interned := interned.toArray }
  heap := heap
  slotsUsed := slotsUsed
  threads := #[{ frames := .invoking theMethod args0 :: below }]
def below0 : List Frame := [.native { method := ⟨0, 0⟩, args := #[] }]
def about1 : State := aboutOver below0
def p0 : Program := .bare "" "" ""
def e0 : Env := launch0.env 0 0 0
theorem w_frames : about1.frames = Frame.invoking theMethod args0 :: below0 := rfl
set_option maxRecDepth 65536 in
theorem w_args : argsFit about1.vm theMethod args0 = true := by decide +kernel
set_option maxRecDepth 65536 in
theorem w_heap : heapFits about1 = true := by decide +kernel
set_option maxRecDepth 65536 in
theorem w_runnable : about1.curStatus? = some .runnable := by decide +kernel
set_option maxRecDepth 65536 in
theorem w_alone : about1.alone = true := by decide +kernel
set_option maxRecDepth 65536 in
theorem w_named : about1.methodNamed? x = some theMethod := by decide +kernel
set_option maxRecDepth 65536 in
theorem w_hears : about1.hears theMethod below0 = true := by decide +kernel
set_option maxRecDepth 65536 in
theorem w_ripe : about1.ripe theMethod args0 below0 = true := by decide +kernel
theorem w_running : about1.status = .running := rfl
set_option maxRecDepth 65536 in
theorem w_room : about1.hasRoom e0.platform room_1 = true :=
  launch0.hasRoom_least _ room_1 (by decide +kernel) (by decide +kernel) (by decide +kernel) (by decide +kernel) (by decide +kernel) (by decide +kernel)
theorem allAtoms_all (ts : List Jvm.Cond) (a : Array Jvm.Value) (st : Jvm.State) : (allAtoms ts).before a st = ts.all (fun c => c.before a st) := by
  induction ts with
  | nil => rfl
  | cons c t ih =>
    show (Jvm.Cond.and c (allAtoms t)).before a st = _
    rw [Jvm.Cond.before_and, ih, List.all_cons]
def words1 : List Jvm.Cond := Jvm.Cond.code x code maxLocals ret :: tables_1
/-- a 'code' word, met by the world's own term for the bytes: nothing is compared byte by byte -/
theorem code_word {y : MethodName} {bytes : ByteArray} {mx : Nat} {rt : Option FieldType} {a : Array Value} {s : State} {m : MethodId} {meth : Method} {c : Code} (h1 : s.methodNamed? y = some m) (h2 : s.vm.method? m = some meth) (h3 : meth.code = some c) (h4 : c.code = bytes)
    (h5 : (c.maxLocals == mx && c.exceptionTable.isEmpty && decide (c.maxStack ≤ mostOperands) && decide (meth.sig.returnType = rt) && !meth.locks && decide (parseMethodDescriptor y.desc = some meth.sig)) = true) : (Jvm.Cond.code y bytes mx rt).before a s = true := by
  simp only [Bool.and_eq_true, beq_iff_eq, Bool.not_eq_true', decide_eq_true_eq] at h5
  obtain ⟨⟨⟨⟨⟨g1, g2⟩, g3⟩, g4⟩, g5⟩, g6⟩ := h5
  simp [Cond.before, Cond.holds, Cond.value, h1, h2, h3, h4, g1, g2, g3, g4, g5, g6]
def isCode : Jvm.Cond → Bool
  | .code _ _ _ _ => true
  | _ => false
theorem all_split {L : List Jvm.Cond} {P : Jvm.Cond → Bool} (h1 : L.all (fun c => isCode c || P c) = true) (h2 : ∀ c ∈ L.filter isCode, P c = true) : L.all P = true := by
  refine List.all_eq_true.mpr fun c hc => ?_
  have h := List.all_eq_true.mp h1 c hc
  rcases Bool.eq_false_or_eq_true (isCode c) with hi | hi
  · exact h2 c (List.mem_filter.mpr ⟨hc, hi⟩)
  · simpa [hi] using h
set_option maxRecDepth 65536 in
theorem w_c0 : (Jvm.Cond.code x code maxLocals ret).before args0 about1 = true := code_word (m := ⟨1, 2⟩) (meth := k1m2) (c := k1c2) (by decide +kernel) rfl rfl rfl (by decide +kernel)
set_option maxRecDepth 65536 in
theorem w_c1 : (Jvm.Cond.code ({ cls := "org/fractile/graph/PathTreePathPinLaw", name := "vert", desc := "(III)I" } : Jvm.MethodName) method_2_code (3 : Nat) (Option.some Jvm.ClassFile.FieldType.int)).before args0 about1 = true := code_word (m := ⟨1, 1⟩) (meth := k1m1) (c := k1c1) (by decide +kernel) rfl rfl rfl (by decide +kernel)
set_option maxRecDepth 65536 in
theorem w_c2 : (Jvm.Cond.code ({ cls := "org/fractile/graph/PathTree", name := "<init>", desc := "(I[D[I)V" } : Jvm.MethodName) prog_56_method_1_code (4 : Nat) (Option.none : Option Jvm.ClassFile.FieldType)).before args0 about1 = true := code_word (m := ⟨2, 0⟩) (meth := k2m0) (c := k2c0) (by decide +kernel) rfl rfl rfl (by decide +kernel)
set_option maxRecDepth 65536 in
theorem w_c3 : (Jvm.Cond.code ({ cls := "java/lang/Object", name := "<init>", desc := "()V" } : Jvm.MethodName) object_method_1_code (1 : Nat) (Option.none : Option Jvm.ClassFile.FieldType)).before args0 about1 = true := code_word (m := ⟨0, 0⟩) (meth := k0m0) (c := k0c0) (by decide +kernel) rfl rfl rfl (by decide +kernel)
set_option maxRecDepth 65536 in
theorem w_c4 : (Jvm.Cond.code ({ cls := "org/fractile/graph/PathTree", name := "path", desc := "(I)[I" } : Jvm.MethodName) prog_56_method_5_code (6 : Nat) (Option.some (Jvm.ClassFile.FieldType.array Jvm.ClassFile.FieldType.int))).before args0 about1 = true := code_word (m := ⟨2, 1⟩) (meth := k2m1) (c := k2c1) (by decide +kernel) rfl rfl rfl (by decide +kernel)
def codes1 : List Jvm.Cond := [Jvm.Cond.code x code maxLocals ret, Jvm.Cond.code ({ cls := "org/fractile/graph/PathTreePathPinLaw", name := "vert", desc := "(III)I" } : Jvm.MethodName) method_2_code (3 : Nat) (Option.some Jvm.ClassFile.FieldType.int), Jvm.Cond.code ({ cls := "org/fractile/graph/PathTree", name := "<init>", desc := "(I[D[I)V" } : Jvm.MethodName) prog_56_method_1_code (4 : Nat) (Option.none : Option Jvm.ClassFile.FieldType), Jvm.Cond.code ({ cls := "java/lang/Object", name := "<init>", desc := "()V" } : Jvm.MethodName) object_method_1_code (1 : Nat) (Option.none : Option Jvm.ClassFile.FieldType), Jvm.Cond.code ({ cls := "org/fractile/graph/PathTree", name := "path", desc := "(I)[I" } : Jvm.MethodName) prog_56_method_5_code (6 : Nat) (Option.some (Jvm.ClassFile.FieldType.array Jvm.ClassFile.FieldType.int))]
set_option maxRecDepth 65536 in
theorem codes_eq : words1.filter isCode = codes1 := rfl
theorem w_codes : ∀ c ∈ words1.filter isCode, c.before args0 about1 = true := by
  rw [codes_eq]
  intro c hc
  simp only [codes1, List.mem_cons, List.not_mem_nil, or_false] at hc
  rcases hc with rfl | rfl | rfl | rfl | rfl
  · exact w_c0
  · exact w_c1
  · exact w_c2
  · exact w_c3
  · exact w_c4
set_option maxRecDepth 65536 in
theorem w_t1 : (words1.take 24).all (fun c => isCode c || c.before args0 about1) = true := by decide +kernel
set_option maxRecDepth 65536 in
theorem w_t2 : (words1.drop 24).all (fun c => isCode c || c.before args0 about1) = true := by decide +kernel
theorem w_tables : (allAtoms (Jvm.Cond.code x code maxLocals ret :: tables_1)).before args0 about1 = true := by
  rw [allAtoms_all]
  show words1.all (fun c => c.before args0 about1) = true
  refine all_split ?_ w_codes
  rw [← List.take_append_drop 24 words1, List.all_append, w_t1, w_t2]
  rfl
set_option maxRecDepth 65536 in
theorem w_case : (Jvm.Cond.and given_1 narrow_1).before args0 about1 = true := by decide +kernel
theorem w_applies : (headSpec (Jvm.Cond.code x code maxLocals ret :: tables_1) room_1).applies x e0.platform about1 = true :=
  (Spec.applies_iff w_frames).mpr ⟨w_running, w_runnable, w_alone, w_named, w_hears, w_ripe, w_room, w_tables⟩
theorem atStart : AtStart classFile x code maxLocals ret World_1 tables_1 room_1 Calls_1 rest_1 Pre_1 launch0 p0 e0 about1 theMethod args0 below0 :=
  ⟨lists_1, trivial, launch0.admits_env _ _ _, launch0.least_env, fairChoices_fair.cas, fairChoices_fair.clock, w_frames, w_args, w_heap, w_applies, trivial, trivial, w_case⟩
end start1
theorem witness_1 : WitnessClaimed_1 := ⟨start1.p0, start1.e0, start1.about1, start1.theMethod, start1.args0, start1.below0, start1.atStart⟩
end Jvm.Pilot.@@N@@
