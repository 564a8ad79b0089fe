import JvmDerived
import JvmDerived.Pilot.@@N@@Statement
import JvmDerived.Pilot.@@N@@Code
set_option linter.unusedVariables false
set_option linter.unusedSimpArgs false
namespace Jvm.Pilot.@@N@@
open Jvm Jvm.ClassFile Sem Op Lib Jvm.Free Jvm.Stand Jvm.LawKit Jvm.RoadKit Bundle Jvm.Pilot.@@N@@.Jvm.D
-- OWN KIT (mine): reach, finish, weakening of the counters, arrays by a function, arithmetic in omega's form
abbrev own_R (tb : Tables) (e : Env) (below : List Frame) (F0 F : State) : Prop := ∀ t, Steps tb e below F t → Steps tb e below F0 t
abbrev own_G (p : Program) (e : Env) (below : List Frame) (s F0 : State) (Q : Option Value → Heap → List Loc → Prop) (kc ks : Nat) : Prop :=
  ∃ s₂ o, Steps p.tables e below F0 s₂ ∧ s₂.status = .running ∧ Ended s₂ below o ∧ ∃ v L, o = .returned v ∧ Q v s₂.heap L ∧ FrameEnd s o s₂ L kc ks
section OwnKit
variable {p : Program} {l : Launch} {e : Env} {R : Room} {s : State} {m : MethodId} {args : Array Value} {below : List Frame} {meth : Method} {c : Code} {T : State} {locs : List Loc} {cells slots : Nat}
theorem own_fin (X : Stand p l e R s m args below meth c T locs cells slots) (hl : meth.locks = false) {F0 : State} {Q : Option Value → Heap → List Loc → Prop} {kc ks : Nat} (v : Option Value) (hv : meth.sig.returnType = none → v = none) (hq : Q v T.heap locs) (hc : cells ≤ kc) (hs : slots ≤ ks)
    (st : ∀ fs, (∀ (f : JFrame) (acts : List Action), f.method = m → f.locked = none → f.entered = [] → (doReturn e (T.setTop f) acts v).1 = T.setFrames fs) → Steps p.tables e below F0 (T.setFrames fs)) : own_G p e below s F0 Q kc ks := by
  obtain ⟨fs, hr, hrun, hended, hW, hsame⟩ := X.leave hv hl
  exact ⟨_, _, st fs hr, hrun, hended, _, _, rfl, hq, ⟨_, rfl⟩, hW, hsame.mono hc hs⟩
theorem own_mono (X : Stand p l e R s m args below meth c T locs cells slots) {c' s' : Nat} (hc : cells ≤ c') (hs : slots ≤ s') : Stand p l e R s m args below meth c T locs c' s' := { X with same := X.same.mono hc hs }
end OwnKit
theorem own_hv {meth : Method} {t : FieldType} {v : Option Value} (h : meth.sig.returnType = some t) : meth.sig.returnType = none → v = none := fun q => by rw [h] at q; cases q
theorem own_lt32 {a b : Int32} (h : a < b) : a.toInt < b.toInt := Int32.lt_iff_toInt_lt.mp h
theorem own_nlt32 {a b : Int32} (h : ¬ a < b) : b.toInt ≤ a.toInt := Int.not_lt.mp fun q => h (Int32.lt_iff_toInt_lt.mpr q)
theorem own_eq32 {a b : Int32} (h : a = b) : a.toInt = b.toInt := congrArg Int32.toInt h
theorem own_ne32 {a b : Int32} (h : ¬ a = b) : a.toInt ≠ b.toInt := fun q => h (Int32.toInt_inj.mp q)
theorem own_lt64 {a b : Int64} (h : a < b) : a.toInt < b.toInt := Int64.lt_iff_toInt_lt.mp h
theorem own_nlt64 {a b : Int64} (h : ¬ a < b) : b.toInt ≤ a.toInt := Int.not_lt.mp fun q => h (Int64.lt_iff_toInt_lt.mpr q)
theorem own_eq64 {a b : Int64} (h : a = b) : a.toInt = b.toInt := congrArg Int64.toInt h
theorem own_ne64 {a b : Int64} (h : ¬ a = b) : a.toInt ≠ b.toInt := fun q => h (Int64.toInt_inj.mp q)
theorem own_imulc (x y : Int32) (d : Int) (h : y.toInt = d) : ((x * y).toInt - x.toInt * d) % 4294967296 = 0 := by rw [← h]; exact c_imul x y
theorem own_imulc' (x y : Int32) (d : Int) (h : x.toInt = d) : ((x * y).toInt - d * y.toInt) % 4294967296 = 0 := by rw [← h]; exact c_imul x y
theorem own_lmulc (x y : Int64) (d : Int) (h : y.toInt = d) : ((x * y).toInt - x.toInt * d) % 18446744073709551616 = 0 := by rw [← h]; exact c_lmul x y
theorem own_lmulc' (x y : Int64) (d : Int) (h : x.toInt = d) : ((x * y).toInt - d * y.toInt) % 18446744073709551616 = 0 := by rw [← h]; exact c_lmul x y
theorem own_mask (x m : Int32) (k : Nat) (P : Int) (hk : k ≤ 31) (hm : m.toBitVec.toNat = 2 ^ k - 1) (hP : P = ((2 ^ k : Nat) : Int)) : (x &&& m).toInt = x.toInt % P := by rw [hP]; exact c_mask x m k hk hm
theorem own_maskL (x m : Int64) (k : Nat) (P : Int) (hk : k ≤ 63) (hm : m.toBitVec.toNat = 2 ^ k - 1) (hP : P = ((2 ^ k : Nat) : Int)) : (x &&& m).toInt = x.toInt % P := by rw [hP]; exact c_maskL x m k hk hm
theorem own_ishr (x q : Int32) (k : Nat) (P : Int) (hk : q.toBitVec.toNat % 32 = k) (hP : P = ((2 ^ k : Nat) : Int)) : (x >>> (q &&& 31)).toInt = x.toInt / P := by rw [hP]; exact c_ishr x q k hk
theorem own_ishl (x q : Int32) (k : Nat) (P : Int) (hk : q.toBitVec.toNat % 32 = k) (hP : P = ((2 ^ k : Nat) : Int)) : ((x <<< (q &&& 31)).toInt - x.toInt * P) % 4294967296 = 0 := by rw [hP]; exact c_ishl x q k hk
theorem own_iushr (x q : Int32) (k : Nat) (P : Int) (hk : q.toBitVec.toNat % 32 = k) (h0 : 0 < k) (hP : P = ((2 ^ k : Nat) : Int)) : ((x.toUInt32 >>> (q &&& 31).toUInt32).toInt32).toInt = (x.toInt % 4294967296) / P := by rw [hP]; exact c_iushr x q k hk h0
theorem own_lshr (x : Int64) (q : Int32) (k : Nat) (P : Int) (hk : q.toBitVec.toNat % 64 = k) (hP : P = ((2 ^ k : Nat) : Int)) : (x >>> (q &&& 0x3f).toInt64).toInt = x.toInt / P := by rw [hP]; exact c_lshr x q k hk
theorem own_lshl (x : Int64) (q : Int32) (k : Nat) (P : Int) (hk : q.toBitVec.toNat % 64 = k) (hP : P = ((2 ^ k : Nat) : Int)) : ((x <<< (q &&& 0x3f).toInt64).toInt - x.toInt * P) % 18446744073709551616 = 0 := by rw [hP]; exact c_lshl x q k hk
theorem own_lushr (x : Int64) (q : Int32) (k : Nat) (P : Int) (hk : q.toBitVec.toNat % 64 = k) (h0 : 0 < k) (hP : P = ((2 ^ k : Nat) : Int)) : ((x.toUInt64 >>> (q &&& 0x3f).toInt64.toUInt64).toInt64).toInt = (x.toInt % 18446744073709551616) / P := by rw [hP]; exact c_lushr x q k hk h0
theorem own_lc_lt {x y : Int64} {cd : ClassFile.Cond} {b : Bool} (h : if_icmp.holds cd (lcmpW x y) 0 = b) : ifCond.holds cd (lcmpW x y) = b := (if0 _ _).trans h
theorem own_l_lt {x y : Int64} (h : x < y) : ifCond.holds .lt (lcmpW x y) = true ∧ ifCond.holds .ge (lcmpW x y) = false := ⟨(if0 _ _).trans (tlt ((lw_lt x y).mpr h)).1, (if0 _ _).trans (tlt ((lw_lt x y).mpr h)).2.1⟩
theorem own_l_nlt {x y : Int64} (h : ¬ x < y) : ifCond.holds .lt (lcmpW x y) = false ∧ ifCond.holds .ge (lcmpW x y) = true := ⟨(if0 _ _).trans (flt (fun q => h ((lw_lt x y).mp q))).1, (if0 _ _).trans (flt (fun q => h ((lw_lt x y).mp q))).2.1⟩
theorem own_l_gt {x y : Int64} (h : y < x) : ifCond.holds .gt (lcmpW x y) = true ∧ ifCond.holds .le (lcmpW x y) = false := ⟨(if0 _ _).trans (tlt ((lw_gt x y).mpr h)).2.2.1, (if0 _ _).trans (tlt ((lw_gt x y).mpr h)).2.2.2⟩
theorem own_l_ngt {x y : Int64} (h : ¬ y < x) : ifCond.holds .gt (lcmpW x y) = false ∧ ifCond.holds .le (lcmpW x y) = true := ⟨(if0 _ _).trans (flt (fun q => h ((lw_gt x y).mp q))).2.2.1, (if0 _ _).trans (flt (fun q => h ((lw_gt x y).mp q))).2.2.2⟩
theorem own_l_eq {x y : Int64} (h : x = y) : ifCond.holds .eq (lcmpW x y) = true ∧ ifCond.holds .ne (lcmpW x y) = false := ⟨(if0 _ _).trans (teq ((lw_eq x y).mpr h)).1, (if0 _ _).trans (teq ((lw_eq x y).mpr h)).2⟩
theorem own_l_neq {x y : Int64} (h : ¬ x = y) : ifCond.holds .eq (lcmpW x y) = false ∧ ifCond.holds .ne (lcmpW x y) = true := ⟨(if0 _ _).trans (feq (fun q => h ((lw_eq x y).mp q))).1, (if0 _ _).trans (feq (fun q => h ((lw_eq x y).mp q))).2⟩
theorem own_lrem {x y : Int64} {d : Int} (hy : y.toInt = d) : (0 ≤ x.toInt → (x - (x / y) * y).toInt = x.toInt % d) ∧ (x.toInt < 0 → (x - (x / y) * y).toInt = -((-x.toInt) % d)) := c_lrem x y d hy
theorem own_lremf (x y : Int64) (d : Int) (hy : y.toInt = d) : (0 ≤ x.toInt → (x % y).toInt = x.toInt % d) ∧ (x.toInt < 0 → (x % y).toInt = -((-x.toInt) % d)) := by rw [Int64.toInt_mod, hy]; exact tr _ _
theorem own_lremM {p : Program} {l : Launch} {e : Env} {R : Room} {s : State} {m : MethodId} {args : Array Value} {below : List Frame} {meth : Method} {c : Code} {T : State} {locs : List Loc} {cells slots : Nat} {g : JFrame} {target : State} (X : Stand p l e R s m args below meth c T locs cells slots) (hx : p.tables.exec = Jvm.exec) (hg : g.method = m) {x y : Int64} {rest : List Value} (hd : decode c.code g.pc = .ok (.lrem, 1)) (hs : g.stack = .long y :: .long x :: rest) (hy : y ≠ 0)
    (hr : Steps p.tables e below (T.setTop { g with pc := g.pc + 1, stack := .long (x % y) :: rest }) target) : Steps p.tables e below (T.setTop g) target :=
  XS.lrem X.here hx hg hd hs hy (by rw [lrem_mod]; exact hr)
theorem own_R32 (x : Int32) : -2147483648 ≤ x.toInt ∧ x.toInt ≤ 2147483647 := by have := rng32 x; omega
theorem own_R64 (x : Int64) : -9223372036854775808 ≤ x.toInt ∧ x.toInt ≤ 9223372036854775807 := by have := rng64 x; omega
theorem own_iaddR {x y : Int32} {a b c d : Int} (lo hi : Int) (hx : a ≤ x.toInt ∧ x.toInt ≤ b) (hy : c ≤ y.toInt ∧ y.toInt ≤ d) (h1 : -2147483648 ≤ a + c ∧ b + d ≤ 2147483647) (h2 : lo ≤ a + c ∧ b + d ≤ hi) : (x + y).toInt = x.toInt + y.toInt ∧ lo ≤ (x + y).toInt ∧ (x + y).toInt ≤ hi := by have := c_iadd x y; have := rng32 (x + y); omega
theorem own_isubR {x y : Int32} {a b c d : Int} (lo hi : Int) (hx : a ≤ x.toInt ∧ x.toInt ≤ b) (hy : c ≤ y.toInt ∧ y.toInt ≤ d) (h1 : -2147483648 ≤ a - d ∧ b - c ≤ 2147483647) (h2 : lo ≤ a - d ∧ b - c ≤ hi) : (x - y).toInt = x.toInt - y.toInt ∧ lo ≤ (x - y).toInt ∧ (x - y).toInt ≤ hi := by have := c_isub x y; have := rng32 (x - y); omega
theorem own_laddR {x y : Int64} {a b c d : Int} (lo hi : Int) (hx : a ≤ x.toInt ∧ x.toInt ≤ b) (hy : c ≤ y.toInt ∧ y.toInt ≤ d) (h1 : -9223372036854775808 ≤ a + c ∧ b + d ≤ 9223372036854775807) (h2 : lo ≤ a + c ∧ b + d ≤ hi) : (x + y).toInt = x.toInt + y.toInt ∧ lo ≤ (x + y).toInt ∧ (x + y).toInt ≤ hi := by have := c_ladd x y; have := rng64 (x + y); omega
theorem own_lsubR {x y : Int64} {a b c d : Int} (lo hi : Int) (hx : a ≤ x.toInt ∧ x.toInt ≤ b) (hy : c ≤ y.toInt ∧ y.toInt ≤ d) (h1 : -9223372036854775808 ≤ a - d ∧ b - c ≤ 9223372036854775807) (h2 : lo ≤ a - d ∧ b - c ≤ hi) : (x - y).toInt = x.toInt - y.toInt ∧ lo ≤ (x - y).toInt ∧ (x - y).toInt ≤ hi := by have := c_lsub x y; have := rng64 (x - y); omega
theorem own_imulR {x y : Int32} {a b k : Int} (lo hi : Int) (hx : a ≤ x.toInt ∧ x.toInt ≤ b) (hy : y.toInt = k) (hk : 0 ≤ k) (h1 : -2147483648 ≤ a * k ∧ b * k ≤ 2147483647) (h2 : lo ≤ a * k ∧ b * k ≤ hi) : (x * y).toInt = x.toInt * k ∧ lo ≤ (x * y).toInt ∧ (x * y).toInt ≤ hi := by
  have h := c_imul x y; have := rng32 (x * y); rw [hy] at h
  have p1 := Int.mul_le_mul_of_nonneg_right hx.1 hk; have p2 := Int.mul_le_mul_of_nonneg_right hx.2 hk
  generalize x.toInt * k = z at *; generalize a * k = z1 at *; generalize b * k = z2 at *; omega
theorem own_lmulR {x y : Int64} {a b k : Int} (lo hi : Int) (hx : a ≤ x.toInt ∧ x.toInt ≤ b) (hy : y.toInt = k) (hk : 0 ≤ k) (h1 : -9223372036854775808 ≤ a * k ∧ b * k ≤ 9223372036854775807) (h2 : lo ≤ a * k ∧ b * k ≤ hi) : (x * y).toInt = x.toInt * k ∧ lo ≤ (x * y).toInt ∧ (x * y).toInt ≤ hi := by
  have h := c_lmul x y; have := rng64 (x * y); rw [hy] at h
  have p1 := Int.mul_le_mul_of_nonneg_right hx.1 hk; have p2 := Int.mul_le_mul_of_nonneg_right hx.2 hk
  generalize x.toInt * k = z at *; generalize a * k = z1 at *; generalize b * k = z2 at *; omega
theorem own_imulR' {x y : Int32} {a b k : Int} (lo hi : Int) (hx : a ≤ y.toInt ∧ y.toInt ≤ b) (hy : x.toInt = k) (hk : 0 ≤ k) (h1 : -2147483648 ≤ a * k ∧ b * k ≤ 2147483647) (h2 : lo ≤ a * k ∧ b * k ≤ hi) : (x * y).toInt = y.toInt * k ∧ lo ≤ (x * y).toInt ∧ (x * y).toInt ≤ hi := by rw [Int32.mul_comm]; exact own_imulR lo hi hx hy hk h1 h2
theorem own_lmulR' {x y : Int64} {a b k : Int} (lo hi : Int) (hx : a ≤ y.toInt ∧ y.toInt ≤ b) (hy : x.toInt = k) (hk : 0 ≤ k) (h1 : -9223372036854775808 ≤ a * k ∧ b * k ≤ 9223372036854775807) (h2 : lo ≤ a * k ∧ b * k ≤ hi) : (x * y).toInt = y.toInt * k ∧ lo ≤ (x * y).toInt ∧ (x * y).toInt ≤ hi := by rw [Int64.mul_comm]; exact own_lmulR lo hi hx hy hk h1 h2
theorem own_maskR (x m : Int32) (k : Nat) (P : Int) (hk : k ≤ 31) (hm : m.toBitVec.toNat = 2 ^ k - 1) (hP : P = ((2 ^ k : Nat) : Int)) (hi : Int) (h0 : 0 < P) (h : P ≤ hi + 1) : (x &&& m).toInt = x.toInt % P ∧ 0 ≤ (x &&& m).toInt ∧ (x &&& m).toInt ≤ hi := by
  have e := own_mask x m k P hk hm hP; have h1 := Int.emod_nonneg x.toInt (show P ≠ 0 by omega); have h2 := Int.emod_lt_of_pos x.toInt h0; omega
theorem own_maskLR (x m : Int64) (k : Nat) (P : Int) (hk : k ≤ 63) (hm : m.toBitVec.toNat = 2 ^ k - 1) (hP : P = ((2 ^ k : Nat) : Int)) (hi : Int) (h0 : 0 < P) (h : P ≤ hi + 1) : (x &&& m).toInt = x.toInt % P ∧ 0 ≤ (x &&& m).toInt ∧ (x &&& m).toInt ≤ hi := by
  have e := own_maskL x m k P hk hm hP; have h1 := Int.emod_nonneg x.toInt (show P ≠ 0 by omega); have h2 := Int.emod_lt_of_pos x.toInt h0; omega
theorem own_iremR {x y : Int32} {a b d : Int} (hi : Int) (hx : a ≤ x.toInt ∧ x.toInt ≤ b) (hy : y.toInt = d) (ha : 0 ≤ a) (hd : 0 < d) (h : d ≤ hi + 1) : (x % y).toInt = x.toInt % d ∧ 0 ≤ (x % y).toInt ∧ (x % y).toInt ≤ hi := by
  have e := (c_irem x y d hy).1 (by omega); have h1 := Int.emod_nonneg x.toInt (show d ≠ 0 by omega); have h2 := Int.emod_lt_of_pos x.toInt hd; omega
theorem own_lremR {x y : Int64} {a b d : Int} (hi : Int) (hx : a ≤ x.toInt ∧ x.toInt ≤ b) (hy : y.toInt = d) (ha : 0 ≤ a) (hd : 0 < d) (h : d ≤ hi + 1) : (x % y).toInt = x.toInt % d ∧ 0 ≤ (x % y).toInt ∧ (x % y).toInt ≤ hi := by
  have e := (own_lremf x y d hy).1 (by omega); have h1 := Int.emod_nonneg x.toInt (show d ≠ 0 by omega); have h2 := Int.emod_lt_of_pos x.toInt hd; omega
theorem own_idivR {x y : Int32} {a b d : Int} (lo hi : Int) (hx : a ≤ x.toInt ∧ x.toInt ≤ b) (hy : y.toInt = d) (hy1 : y ≠ -1) (ha : 0 ≤ a) (hd : 0 < d) (h : lo ≤ a / d ∧ b / d ≤ hi) : (x / y).toInt = x.toInt / d ∧ lo ≤ (x / y).toInt ∧ (x / y).toInt ≤ hi := by
  have e := (c_idiv x y d hy hy1).1 (by omega); have h1 := Int.ediv_le_ediv hd hx.1; have h2 := Int.ediv_le_ediv hd hx.2; omega
theorem own_ldivR {x y : Int64} {a b d : Int} (lo hi : Int) (hx : a ≤ x.toInt ∧ x.toInt ≤ b) (hy : y.toInt = d) (hy1 : y ≠ -1) (ha : 0 ≤ a) (hd : 0 < d) (h : lo ≤ a / d ∧ b / d ≤ hi) : (x / y).toInt = x.toInt / d ∧ lo ≤ (x / y).toInt ∧ (x / y).toInt ≤ hi := by
  have e := (c_ldiv x y d hy hy1).1 (by omega); have h1 := Int.ediv_le_ediv hd hx.1; have h2 := Int.ediv_le_ediv hd hx.2; omega
theorem own_l2iR {x : Int64} {a b : Int} (hx : a ≤ x.toInt ∧ x.toInt ≤ b) (h1 : -2147483648 ≤ a ∧ b ≤ 2147483647) : x.toInt32.toInt = x.toInt ∧ a ≤ x.toInt32.toInt ∧ x.toInt32.toInt ≤ b := by have := c_l2i x; have := rng32 x.toInt32; omega
theorem own_i2lR {x : Int32} {a b : Int} (hx : a ≤ x.toInt ∧ x.toInt ≤ b) : x.toInt64.toInt = x.toInt ∧ a ≤ x.toInt64.toInt ∧ x.toInt64.toInt ≤ b := by have := c_i2l x; omega
theorem own_eqR32 {x y : Int32} {a b : Int} (h : x = y) (hy : a ≤ y.toInt ∧ y.toInt ≤ b) : x.toInt = y.toInt ∧ a ≤ x.toInt ∧ x.toInt ≤ b := by subst h; exact ⟨rfl, hy⟩
theorem own_eqR64 {x y : Int64} {a b : Int} (h : x = y) (hy : a ≤ y.toInt ∧ y.toInt ≤ b) : x.toInt = y.toInt ∧ a ≤ x.toInt ∧ x.toInt ≤ b := by subst h; exact ⟨rfl, hy⟩
theorem own_lushrR {x : Int64} {a b : Int} (q : Int32) (k : Nat) (P lo hi : Int) (hx : a ≤ x.toInt ∧ x.toInt ≤ b) (ha : 0 ≤ a) (hk : q.toBitVec.toNat % 64 = k) (h0 : 0 < k) (hP : P = ((2 ^ k : Nat) : Int)) (hPp : 0 < P) (h : lo ≤ a / P ∧ b / P ≤ hi) : ((x.toUInt64 >>> (q &&& 0x3f).toInt64.toUInt64).toInt64).toInt = x.toInt / P ∧ lo ≤ ((x.toUInt64 >>> (q &&& 0x3f).toInt64.toUInt64).toInt64).toInt ∧ ((x.toUInt64 >>> (q &&& 0x3f).toInt64.toUInt64).toInt64).toInt ≤ hi := by
  have e := own_lushr x q k P hk h0 hP; have := rng64 x; rw [Int.emod_eq_of_lt (by omega) (by omega)] at e; have h1 := Int.ediv_le_ediv hPp hx.1; have h2 := Int.ediv_le_ediv hPp hx.2; omega
theorem own_iushrR {x : Int32} {a b : Int} (q : Int32) (k : Nat) (P lo hi : Int) (hx : a ≤ x.toInt ∧ x.toInt ≤ b) (ha : 0 ≤ a) (hk : q.toBitVec.toNat % 32 = k) (h0 : 0 < k) (hP : P = ((2 ^ k : Nat) : Int)) (hPp : 0 < P) (h : lo ≤ a / P ∧ b / P ≤ hi) : ((x.toUInt32 >>> (q &&& 31).toUInt32).toInt32).toInt = x.toInt / P ∧ lo ≤ ((x.toUInt32 >>> (q &&& 31).toUInt32).toInt32).toInt ∧ ((x.toUInt32 >>> (q &&& 31).toUInt32).toInt32).toInt ≤ hi := by
  have e := own_iushr x q k P hk h0 hP; have := rng32 x; rw [Int.emod_eq_of_lt (by omega) (by omega)] at e; have h1 := Int.ediv_le_ediv hPp hx.1; have h2 := Int.ediv_le_ediv hPp hx.2; omega
-- OWN KIT 1 (mine): an array by a function of its places
def own_Arf (Z : State) (h : Heap) (a : Addr) (ty : FieldType) (n : Nat) (f : Nat → Value) : Prop := ∃ c : Cell, Arr Z h a c ty ∧ c.slots.size = n ∧ n < 2 ^ 31 ∧ ∀ j, j < n → c.slots[j]? = some (f j)
section OwnArf
variable {Z : State} {h h' : Heap} {a b : Addr} {ty : FieldType} {n : Nat} {f f' : Nat → Value} {sl : Nat} {v : Value} {ws : List Addr}
theorem own_Arf.lt (F : own_Arf Z h a ty n f) : a < h.size := by obtain ⟨c, A, -⟩ := F; exact A.lt
theorem own_Arf.ext (F : own_Arf Z h a ty n f) (E : Ext h h') : own_Arf Z h' a ty n f := by obtain ⟨c, A, r⟩ := F; exact ⟨c, A.ext E, r⟩
theorem own_Arf.other (F : own_Arf Z h b ty n f) (W : Wr h h' a sl v) (q : b ≠ a) : own_Arf Z h' b ty n f := by obtain ⟨c, A, r⟩ := F; exact ⟨c, A.other W q, r⟩
theorem own_Arf.keep (F : own_Arf Z h a ty n f) (K : Keep h h' ws) (q : a ∉ ws) : own_Arf Z h' a ty n f := by obtain ⟨c, A, r⟩ := F; exact ⟨c, ⟨K.2.1 a c A.1 q, A.2⟩, r⟩
theorem own_Arf.cong (F : own_Arf Z h a ty n f) (q : ∀ j, j < n → f j = f' j) : own_Arf Z h a ty n f' := by obtain ⟨c, A, r1, r2, r3⟩ := F; exact ⟨c, A, r1, r2, fun j hj => (q j hj) ▸ r3 j hj⟩
theorem own_Arf.new {k : ClassId} {z : Int32} (A : Arr Z h a (newA k ty z) ty) (q : ¬ z < 0) : own_Arf Z h a ty z.toNatClampNeg (fun _ => defaultValue ty) :=
  ⟨_, A, sz_new _ _ _, (back32 q).2, fun j hj => by simp [newA, hj]⟩
theorem own_inb {j : Int32} {n : Nat} (h1 : 0 ≤ j.toInt) (h2 : j.toInt < n) : ¬ (j < 0 ∨ n ≤ j.toNatClampNeg) := by
  have q : j.toNatClampNeg = j.toInt.toNat := rfl
  rintro (p | p)
  · have := Int32.lt_iff_toInt_lt.mp p; rw [show (0 : Int32).toInt = 0 from rfl] at this; omega
  · rw [q] at p; omega
theorem own_set {c : Cell} {k : Nat} (A : Arr Z h a c ty) (S : c.slots.size = n) (hn : n < 2 ^ 31) (H : ∀ j, j < n → c.slots[j]? = some (f j)) (W : Wr h h' a k v) (hk : k < n) : own_Arf Z h' a ty n (fun i => if i = k then v else f i) := by
  refine ⟨_, A.same W, by rw [sz_set]; exact S, hn, fun j hj => ?_⟩
  by_cases q : j = k
  · subst q; simp [Cell.setSlot, S, hj]
  · show _ = some (if j = k then v else f j)
    rw [if_neg q, ← H j hj]; exact Array.getElem?_setIfInBounds_ne (Ne.symm q)
variable {p : Program} {l : Launch} {e : Env} {R : Room} {s : State} {m : MethodId} {args : Array Value} {below : List Frame} {meth : Method} {c : Code} {T : State} {locs : List Loc} {cells slots : Nat}
theorem own_ld {A : Prop} {j : Int32} (F : own_Arf Z h a ty n f) (h1 : 0 ≤ j.toInt) (h2 : j.toInt < n) (k : ∀ c : Cell, Arr Z h a c ty → ¬ (j < 0 ∨ c.slots.size ≤ j.toNatClampNeg) → c.slots[j.toNatClampNeg]? = some (f j.toNatClampNeg) → A) : A := by
  obtain ⟨c, Ar, S, hn, H⟩ := F
  exact k c Ar (by rw [S]; exact own_inb h1 h2) (H _ (by have q : j.toNatClampNeg = j.toInt.toNat := rfl; omega))
theorem own_iaload (X : Stand p l e R s m args below meth c T locs cells slots) (hx : p.tables.exec = Jvm.exec) (hZ : Z.Warmed39 s.vm) (eT : T.heap = h) {j : Int32} (F : own_Arf Z h a .int n f) (h1 : 0 ≤ j.toInt) (h2 : j.toInt < n) {w : Value} (hv : f j.toNatClampNeg = w) {g : JFrame} (hg : g.method = m) {rest : List Value} (hs : g.stack = .int j :: .ref a :: rest) (hd : decode c.code g.pc = .ok (.iaload, 1)) :
    ∀ target, Steps p.tables e below (T.setTop { g with pc := g.pc + 1, stack := w :: rest }) target → Steps p.tables e below (T.setTop g) target := by
  subst hv
  exact own_ld F h1 h2 fun cl Ar hin hat => X.iaload hx (j := j) (by rw [eT]; exact Ar.1) (State.isArrayOf_alike hZ.alike Ar.2.1) Ar.2.2 hin hat hg hs hd
theorem own_baloadB (X : Stand p l e R s m args below meth c T locs cells slots) (hx : p.tables.exec = Jvm.exec) (hZ : Z.Warmed39 s.vm) (eT : T.heap = h) {j : Int32} (F : own_Arf Z h a .byte n f) (h1 : 0 ≤ j.toInt) (h2 : j.toInt < n) {w : Value} (hv : f j.toNatClampNeg = w) {g : JFrame} (hg : g.method = m) {rest : List Value} (hs : g.stack = .int j :: .ref a :: rest) (hd : decode c.code g.pc = .ok (.baload, 1)) :
    ∀ target, Steps p.tables e below (T.setTop { g with pc := g.pc + 1, stack := w :: rest }) target → Steps p.tables e below (T.setTop g) target := by
  subst hv
  exact own_ld F h1 h2 fun cl Ar hin hat => X.baloadBytes hx (j := j) (by rw [eT]; exact Ar.1) (State.isArrayOf_alike hZ.alike Ar.2.1) Ar.2.2 hin hat hg hs hd
theorem own_baloadZ (X : Stand p l e R s m args below meth c T locs cells slots) (hx : p.tables.exec = Jvm.exec) (hZ : Z.Warmed39 s.vm) (eT : T.heap = h) {j : Int32} (F : own_Arf Z h a .boolean n f) (h1 : 0 ≤ j.toInt) (h2 : j.toInt < n) {w : Value} (hv : f j.toNatClampNeg = w) {g : JFrame} (hg : g.method = m) {rest : List Value} (hs : g.stack = .int j :: .ref a :: rest) (hd : decode c.code g.pc = .ok (.baload, 1)) :
    ∀ target, Steps p.tables e below (T.setTop { g with pc := g.pc + 1, stack := w :: rest }) target → Steps p.tables e below (T.setTop g) target := by
  subst hv
  exact own_ld F h1 h2 fun cl Ar hin hat => X.baloadBooleans hx (j := j) (by rw [eT]; exact Ar.1) (State.isArrayOf_alike hZ.alike Ar.2.1) Ar.2.2 hin hat hg hs hd
theorem own_len32 {c : Cell} {n : Nat} (S : c.slots.size = n) {z : Int32} (hz : z = Int32.ofNat n) : c.slots.size.toInt32 = z := by rw [S, hz]
theorem own_alen (X : Stand p l e R s m args below meth c T locs cells slots) (hx : p.tables.exec = Jvm.exec) (hZ : Z.Warmed39 s.vm) (eT : T.heap = h) (F : own_Arf Z h a ty n f) (z : Int32) (hz : z = Int32.ofNat n) {g : JFrame} (hg : g.method = m) {rest : List Value} (hs : g.stack = .ref a :: rest) (hd : decode c.code g.pc = .ok (.arraylength, 1)) :
    ∀ target, Steps p.tables e below (T.setTop { g with pc := g.pc + 1, stack := .int z :: rest }) target → Steps p.tables e below (T.setTop g) target := by
  obtain ⟨cl, Ar, S, hn, H⟩ := F
  intro t k
  refine X.arraylength hx (cell := cl) (by rw [eT]; exact Ar.1) (State.isArrayOf_alike hZ.alike Ar.2.1) hg hs hd t ?_
  rw [own_len32 S hz]; exact k
theorem own_stI (X : Stand p l e R s m args below meth c T locs cells slots) (hx : p.tables.exec = Jvm.exec) (hZ : Z.Warmed39 s.vm) (eT : T.heap = h) {j x : Int32} (F : own_Arf Z h a .int n f) (h1 : 0 ≤ j.toInt) (h2 : j.toInt < n) {g : JFrame} (hg : g.method = m) {rest : List Value} (hs : g.stack = .int x :: .int j :: .ref a :: rest) (hd : decode c.code g.pc = .ok (.iastore, 1)) :
    ∃ T' h', Stand p l e R s m args below meth c T' (locs ++ [⟨a, j.toNatClampNeg⟩]) cells slots ∧ T'.heap = h' ∧ Wr h h' a j.toNatClampNeg (.int x) ∧ own_Arf Z h' a .int n (fun i => if i = j.toNatClampNeg then .int x else f i) ∧ ∀ target, Steps p.tables e below (T'.setTop { g with pc := g.pc + 1, stack := rest }) target → Steps p.tables e below (T.setTop g) target := by
  obtain ⟨cl, Ar, S, hn, H⟩ := F
  have hin : ¬ (j < 0 ∨ cl.slots.size ≤ j.toNatClampNeg) := by rw [S]; exact own_inb h1 h2
  obtain ⟨T', h', X', e', W, st⟩ := stI X hx hZ eT Ar (j := j) hin hg hs hd
  exact ⟨T', h', X', e', W, own_set Ar S hn H W (by have q : j.toNatClampNeg = j.toInt.toNat := rfl; omega), st⟩
theorem own_stB (X : Stand p l e R s m args below meth c T locs cells slots) (hx : p.tables.exec = Jvm.exec) (hZ : Z.Warmed39 s.vm) (eT : T.heap = h) {j x : Int32} (F : own_Arf Z h a .byte n f) (h1 : 0 ≤ j.toInt) (h2 : j.toInt < n) {g : JFrame} (hg : g.method = m) {rest : List Value} (hs : g.stack = .int x :: .int j :: .ref a :: rest) (hd : decode c.code g.pc = .ok (.bastore, 1)) :
    ∃ T' h', Stand p l e R s m args below meth c T' (locs ++ [⟨a, j.toNatClampNeg⟩]) cells slots ∧ T'.heap = h' ∧ Wr h h' a j.toNatClampNeg (.int (nar .byte x)) ∧ own_Arf Z h' a .byte n (fun i => if i = j.toNatClampNeg then .int (nar .byte x) else f i) ∧ ∀ target, Steps p.tables e below (T'.setTop { g with pc := g.pc + 1, stack := rest }) target → Steps p.tables e below (T.setTop g) target := by
  obtain ⟨cl, Ar, S, hn, H⟩ := F
  have hin : ¬ (j < 0 ∨ cl.slots.size ≤ j.toNatClampNeg) := by rw [S]; exact own_inb h1 h2
  obtain ⟨T', h', X', e', W, st⟩ := stB X hx hZ eT Ar (j := j) hin hg hs hd
  exact ⟨T', h', X', e', W, own_set Ar S hn H W (by have q : j.toNatClampNeg = j.toInt.toNat := rfl; omega), st⟩
theorem own_stZ (X : Stand p l e R s m args below meth c T locs cells slots) (hx : p.tables.exec = Jvm.exec) (hZ : Z.Warmed39 s.vm) (eT : T.heap = h) {j x : Int32} (F : own_Arf Z h a .boolean n f) (h1 : 0 ≤ j.toInt) (h2 : j.toInt < n) {g : JFrame} (hg : g.method = m) {rest : List Value} (hs : g.stack = .int x :: .int j :: .ref a :: rest) (hd : decode c.code g.pc = .ok (.bastore, 1)) :
    ∃ T' h', Stand p l e R s m args below meth c T' (locs ++ [⟨a, j.toNatClampNeg⟩]) cells slots ∧ T'.heap = h' ∧ Wr h h' a j.toNatClampNeg (.int (nar .boolean x)) ∧ own_Arf Z h' a .boolean n (fun i => if i = j.toNatClampNeg then .int (nar .boolean x) else f i) ∧ ∀ target, Steps p.tables e below (T'.setTop { g with pc := g.pc + 1, stack := rest }) target → Steps p.tables e below (T.setTop g) target := by
  obtain ⟨cl, Ar, S, hn, H⟩ := F
  have hin : ¬ (j < 0 ∨ cl.slots.size ≤ j.toNatClampNeg) := by rw [S]; exact own_inb h1 h2
  obtain ⟨T', h', X', e', W, st⟩ := stZ X hx hZ eT Ar (j := j) hin hg hs hd
  exact ⟨T', h', X', e', W, own_set Ar S hn H W (by have q : j.toNatClampNeg = j.toInt.toNat := rfl; omega), st⟩
end OwnArf
theorem own_clamp {i : Int32} {k : Nat} (h : i.toInt = k) : i.toNatClampNeg = k := by show i.toInt.toNat = k; omega
theorem own_tabArf {s : State} {a : Addr} {cl : Cell} {ty : FieldType} {n : Nat} (hf : Fit s) (A : Arr s s.heap a cl ty) (ht : ty = .int ∨ ty = .boolean ∨ ty = .byte ∨ ty = .char ∨ ty = .short) (S : cl.slots.size = n) (hn : n < 2 ^ 31) : ∃ g : Nat → Int32, own_Arf s s.heap a ty n (fun i => .int (g i)) := by
  refine ⟨fun i => atv cl (Int32.ofNat i), cl, A, S, hn, fun j hj => ?_⟩
  have e1 : (Int32.ofNat j).toInt = j := Int32.toInt_ofNat_of_lt (by omega)
  have e2 : (Int32.ofNat j).toNatClampNeg = j := by show (Int32.ofNat j).toInt.toNat = j; omega
  have hin : ¬ (Int32.ofNat j < 0 ∨ cl.slots.size ≤ (Int32.ofNat j).toNatClampNeg) := by rw [S]; exact own_inb (by omega) (by omega)
  obtain ⟨v, h1, h2⟩ := elem_fit hf A hin
  obtain ⟨x, rfl⟩ := fit_I h2 ht
  show cl.slots[j]? = some (.int (atv cl (Int32.ofNat j)))
  rw [atv_of h1, ← e2]; exact h1
theorem own_lenOf {args : Array Value} {s : State} {t : Term} {a : Addr} {cl : Cell} {ty : FieldType} {k : Int32} (ev : t.eval args s none [] s = some (.ref a)) (A : Arr s s.heap a cl ty) (h : (Cond.eq (.length t) (.int k)).value args s none s [] = some true) (hk : 0 ≤ k.toInt) : cl.slots.size = k.toInt.toNat ∧ cl.slots.size < 2 ^ 31 := by
  have ha := A.fin (Vm.Alike.refl _)
  by_cases q : cl.slots.size < 2 ^ 31
  · have e1 : (Term.length t).eval args s none [] s = some (.int cl.slots.size.toInt32) := len_f ev ha q
    have e2 : cl.slots.size.toInt32 = k := by
      have hh := h
      simp only [Cond.value] at hh
      rw [e1] at hh
      simpa [Term.eval] using hh
    have e3 := len_toInt q
    rw [e2] at e3
    exact ⟨by omega, q⟩
  · exfalso
    have e1 : (Term.length t).eval args s none [] s = none := by simp [Term.eval, ev, ha, q]
    simp [Cond.value, e1] at h
theorem own_nameI {Z : State} {h : Heap} {a : Addr} {ty : FieldType} {n k : Nat} {g : Nat → Int32} {x : Int32} (V : own_Arf Z h a ty n (fun i => if i = k then .int x else .int (g i))) : ∃ g' : Nat → Int32, (∀ i, g' i = if i = k then x else g i) ∧ own_Arf Z h a ty n (fun i => .int (g' i)) :=
  ⟨fun i => if i = k then x else g i, fun _ => rfl, V.cong (fun i _ => by by_cases q : i = k <;> simp [q])⟩
theorem own_nameD {Z : State} {h : Heap} {a : Addr} {ty : FieldType} {n k : Nat} {g : Nat → UInt64} {x : UInt64} (V : own_Arf Z h a ty n (fun i => if i = k then .double x else .double (g i))) : ∃ g' : Nat → UInt64, (∀ i, g' i = if i = k then x else g i) ∧ own_Arf Z h a ty n (fun i => .double (g' i)) :=
  ⟨fun i => if i = k then x else g i, fun _ => rfl, V.cong (fun i _ => by by_cases q : i = k <;> simp [q])⟩
theorem own_natOf {i : Int32} {lo hi : Int} (h1 : 0 ≤ i.toInt) : ∃ k : Nat, i.toInt = k := ⟨i.toInt.toNat, by omega⟩
theorem own_tn {i : Int32} {k : Nat} (h : i.toInt = k) : i.toBitVec.toNat = k := by
  have h1 : i.toBitVec.toInt = k := h
  have h2 := BitVec.toInt_eq_toNat_cond i.toBitVec
  have h3 := i.toBitVec.isLt
  rw [h1] at h2
  split at h2 <;> omega
def own_cand (s c k : Nat → Int32) (i : Nat) : Prop := (k i).toInt = 0 ∧ (c i).toInt < (s i).toInt
def own_diff (s c : Nat → Int32) (i : Nat) : Int := (s i).toInt - (c i).toInt
def own_best (s c k : Nat → Int32) (n : Nat) (r : Int32) : Prop := (r.toInt = -1 ∧ ∀ i, i < n → ¬ own_cand s c k i) ∨ ∃ j : Nat, r.toInt = j ∧ j < n ∧ own_cand s c k j ∧ (∀ i, i < n → own_cand s c k i → own_diff s c i ≤ own_diff s c j) ∧ (∀ i, i < j → own_cand s c k i → own_diff s c i < own_diff s c j)
theorem own_bskip {s c k : Nat → Int32} {q : Nat} {b : Int32} (hb : own_best s c k q b) (hn : ¬ own_cand s c k q) : own_best s c k (q + 1) b := by
  rcases hb with ⟨h1, h2⟩ | ⟨j, h1, h2, h3, h4, h5⟩
  · refine Or.inl ⟨h1, fun i hi => ?_⟩
    rcases Nat.lt_succ_iff_lt_or_eq.mp hi with z | z
    · exact h2 i z
    · exact z ▸ hn
  · refine Or.inr ⟨j, h1, by omega, h3, fun i hi hc => ?_, h5⟩
    rcases Nat.lt_succ_iff_lt_or_eq.mp hi with z | z
    · exact h4 i z hc
    · exact absurd (z ▸ hc) hn
theorem own_bnew {s c k : Nat → Int32} {q : Nat} {b i : Int32} (hb : own_best s c k q b) (hneg : b.toInt < 0) (hi : i.toInt = q) (hc : own_cand s c k q) : own_best s c k (q + 1) i := by
  rcases hb with ⟨h1, h2⟩ | ⟨j, h1, h2, h3, h4, h5⟩
  · refine Or.inr ⟨q, hi, by omega, hc, fun x hx hcx => ?_, fun x hx hcx => absurd hcx (h2 x hx)⟩
    rcases Nat.lt_succ_iff_lt_or_eq.mp hx with z | z
    · exact absurd hcx (h2 x z)
    · rw [z]; exact Int.le_refl _
  · omega
theorem own_bup {s c k : Nat → Int32} {q j : Nat} {i : Int32} (hi : i.toInt = q) (hc : own_cand s c k q) (h4 : ∀ i, i < q → own_cand s c k i → own_diff s c i ≤ own_diff s c j) (hd : own_diff s c j < own_diff s c q) : own_best s c k (q + 1) i := by
  refine Or.inr ⟨q, hi, by omega, hc, fun x hx hcx => ?_, fun x hx hcx => Int.lt_of_le_of_lt (h4 x hx hcx) hd⟩
  rcases Nat.lt_succ_iff_lt_or_eq.mp hx with z | z
  · exact Int.le_of_lt (Int.lt_of_le_of_lt (h4 x z hcx) hd)
  · rw [z]; exact Int.le_refl _
theorem own_bkeep {s c k : Nat → Int32} {q j : Nat} {b : Int32} (h1 : b.toInt = j) (h2 : j < q) (h3 : own_cand s c k j) (h4 : ∀ i, i < q → own_cand s c k i → own_diff s c i ≤ own_diff s c j) (h5 : ∀ i, i < j → own_cand s c k i → own_diff s c i < own_diff s c j) (hd : ¬ own_diff s c j < own_diff s c q) : own_best s c k (q + 1) b := by
  refine Or.inr ⟨j, h1, by omega, h3, fun x hx hcx => ?_, h5⟩
  rcases Nat.lt_succ_iff_lt_or_eq.mp hx with z | z
  · exact h4 x z hcx
  · rw [z]; omega
theorem own_bpos {s c k : Nat → Int32} {q : Nat} {b : Int32} (hb : own_best s c k q b) (h : ¬ b.toInt < 0) : ∃ j : Nat, b.toInt = j ∧ j < q ∧ own_cand s c k j ∧ (∀ i, i < q → own_cand s c k i → own_diff s c i ≤ own_diff s c j) ∧ (∀ i, i < j → own_cand s c k i → own_diff s c i < own_diff s c j) := by
  rcases hb with ⟨h1, h2⟩ | h
  · omega
  · exact h
def own_exc (p0 : Int32) (p1 : Int32) (p2 : Int32) (p3 : Int32) (p4 : Int32) : Int64 := (if p0 < p1 then (if p2 = (0 : Int32) then (if p4 < p3 then ((p3.toInt64) - (p4.toInt64)) else (0 : Int64)) else (0 : Int64)) else (0 : Int64))
theorem pn_0 : plainName "org/fractile/core/RefinementMostAbovePinLaw" = true := by first | (simp [plainName, overriddenIn]; done) | decide +kernel
theorem d1_0 : decode method_2_code 0 = .ok (.iload_n 0, 1) := by decide +kernel
theorem d1_1 : decode method_2_code 1 = .ok (.iload_n 1, 1) := by decide +kernel
theorem d1_2 : decode method_2_code 2 = .ok (.if_icmp .ge 13, 3) := by decide +kernel
theorem d1_5 : decode method_2_code 5 = .ok (.iload_n 2, 1) := by decide +kernel
theorem d1_6 : decode method_2_code 6 = .ok (.ifCond .ne 9, 3) := by decide +kernel
theorem d1_9 : decode method_2_code 9 = .ok (.iload_n 3, 1) := by decide +kernel
theorem d1_10 : decode method_2_code 10 = .ok (.iload 4, 2) := by decide +kernel
theorem d1_12 : decode method_2_code 12 = .ok (.if_icmp .gt 5, 3) := by decide +kernel
theorem d1_15 : decode method_2_code 15 = .ok (.lconst 0, 1) := by decide +kernel
theorem d1_16 : decode method_2_code 16 = .ok (.lreturn, 1) := by decide +kernel
theorem d1_17 : decode method_2_code 17 = .ok (.iload_n 3, 1) := by decide +kernel
theorem d1_18 : decode method_2_code 18 = .ok (.i2l, 1) := by decide +kernel
theorem d1_19 : decode method_2_code 19 = .ok (.iload 4, 2) := by decide +kernel
theorem d1_21 : decode method_2_code 21 = .ok (.i2l, 1) := by decide +kernel
theorem d1_22 : decode method_2_code 22 = .ok (.lsub, 1) := by decide +kernel
theorem d1_23 : decode method_2_code 23 = .ok (.lreturn, 1) := by decide +kernel
theorem ef_1 (m : MethodId) (x0 : Int32) (x1 : Int32) (x2 : Int32) (x3 : Int32) (x4 : Int32) : entryFrame m #[(.int x0), (.int x1), (.int x2), (.int x3), (.int x4)] 5 = mkF m 0 #[.val (.int x0), .val (.int x1), .val (.int x2), .val (.int x3), .val (.int x4)] [] := by first | (simp [entryFrame, mkF, argsToLocals, Value.category]; done) | rfl
def Q1 (Z : State) (p0 : Int32) (p1 : Int32) (p2 : Int32) (p3 : Int32) (p4 : Int32) (h0 : Heap) (n0 : Nat) (v : Option Value) (h : Heap) (L : List Loc) : Prop := v = some (.long (own_exc p0 p1 p2 p3 p4)) ∧ Fr n0 L ∧ h = h0
set_option maxRecDepth 65536 in
set_option maxHeartbeats 40000000 in
theorem rm1 (l : Launch) (Z : State) (a0 : Array Value) (hw : ∀ d ∈ tables_1, d.before a0 Z = true) (ws : List Jvm.Cond) (p0 : Int32) (p1 : Int32) (p2 : Int32) (p3 : Int32) (p4 : Int32) (h0 : Heap) (n0 : Nat) (Z0 : n0 ≤ h0.size) :
    MetFree l (⟨"org/fractile/core/RefinementMostAbovePinLaw", "excess", "(IIZII)J"⟩ : MethodName) (head1 (Jvm.Cond.code (⟨"org/fractile/core/RefinementMostAbovePinLaw", "excess", "(IIZII)J"⟩ : MethodName) method_2_code 5 (some .long) :: ws) ({ frames := 0, cells := 0, slots := 0, locals := 0 } : Room)) (fun a U => a = #[(.int p0), (.int p1), (.int p2), (.int p3), (.int p4)] ∧ Z.Warmed39 U.vm ∧ U.heap = h0) (fun _ _ _ _ _ => True) (fun _ U o U' => ∃ v L, o = .returned v ∧ Q1 Z p0 p1 p2 p3 p4 h0 n0 v U'.heap L ∧ FrameEnd U o U' L ({ frames := 0, cells := 0, slots := 0, locals := 0 } : Room).cells ({ frames := 0, cells := 0, slots := 0, locals := 0 } : Room).slots) := by
  refine MetFree.of_bodySF (plainFor_of_name pn_0) hisR ?_
  intro p e s m args below meth c s₁ Bd hml0 hP hK
  obtain ⟨rfl, hZ, hh⟩ := hP
  have hx := Bd.exec
  have hby := Bd.bytes
  have hml : c.maxLocals = 5 := hml0
  have hown : s.vm.findClass "org/fractile/core/RefinementMostAbovePinLaw" = some m.cls := findClass_of_methodNamed Bd.named
  have hnm := (name_of_methodNamed Bd.named Bd.method).1
  have hlk : meth.locks = false := BodyLoose.notSynchronized Bd
  have X0 : Stand p l e ({ frames := 0, cells := 0, slots := 0, locals := 0 } : Room) s m #[(.int p0), (.int p1), (.int p2), (.int p3), (.int p4)] below meth c s₁ [] 0 0 := Stand.of_body Bd
  have e0 : s₁.heap = h0 := by rw [← hh, Bd.state]; rfl
  have N0 := Fr.nil n0
  have K0 : Keep h0 h0 [] := Keep.refl h0 _
  have key : ∀ (F0 : State) (G : Prop), (own_G p e below s F0 (Q1 Z p0 p1 p2 p3 p4 h0 n0) ({ frames := 0, cells := 0, slots := 0, locals := 0 } : Room).cells ({ frames := 0, cells := 0, slots := 0, locals := 0 } : Room).slots → G) → own_R p.tables e below F0 (s₁.setTop (mkF m 0 #[.val (.int p0), .val (.int p1), .val (.int p2), .val (.int p3), .val (.int p4)] [])) → G := by
    intro F0 G hG r0
    have r1 : own_R p.tables e below F0 (s₁.setTop (mkF m 2 #[.val (.int p0), .val (.int p1), .val (.int p2), .val (.int p3), .val (.int p4)] [(.int p1), (.int p0)])) := fun tg_ kg_ => by
      refine r0 tg_ ?_
      show Steps p.tables e below (s₁.setTop (mkF m 0 #[.val (.int p0), .val (.int p1), .val (.int p2), .val (.int p3), .val (.int p4)] [])) _
      refine XS.iloadN X0.here hx rfl (hb hby d1_0) rfl ?_
      show Steps p.tables e below (s₁.setTop (mkF m 1 #[.val (.int p0), .val (.int p1), .val (.int p2), .val (.int p3), .val (.int p4)] [(.int p0)])) _
      refine XS.iloadN X0.here hx rfl (hb hby d1_1) rfl ?_
      exact kg_
    by_cases hc2 : p0 < p1
    · have r3 : own_R p.tables e below F0 (s₁.setTop (mkF m 6 #[.val (.int p0), .val (.int p1), .val (.int p2), .val (.int p3), .val (.int p4)] [(.int p2)])) := fun tg_ kg_ => by
        refine r1 tg_ ?_
        show Steps p.tables e below (s₁.setTop (mkF m 2 #[.val (.int p0), .val (.int p1), .val (.int p2), .val (.int p3), .val (.int p4)] [(.int p1), (.int p0)])) _
        refine XS.icmpNo X0.here hx rfl (hb hby d1_2) rfl (tlt hc2).2.1 ?_
        show Steps p.tables e below (s₁.setTop (mkF m 5 #[.val (.int p0), .val (.int p1), .val (.int p2), .val (.int p3), .val (.int p4)] [])) _
        refine XS.iloadN X0.here hx rfl (hb hby d1_5) rfl ?_
        exact kg_
      by_cases hc4 : p2 = (0 : Int32)
      · have r5 : own_R p.tables e below F0 (s₁.setTop (mkF m 12 #[.val (.int p0), .val (.int p1), .val (.int p2), .val (.int p3), .val (.int p4)] [(.int p4), (.int p3)])) := fun tg_ kg_ => by
          refine r3 tg_ ?_
          show Steps p.tables e below (s₁.setTop (mkF m 6 #[.val (.int p0), .val (.int p1), .val (.int p2), .val (.int p3), .val (.int p4)] [(.int p2)])) _
          refine XS.ifNo X0.here hx rfl (hb hby d1_6) rfl ((if0 _ _).trans (teq hc4).2) ?_
          show Steps p.tables e below (s₁.setTop (mkF m 9 #[.val (.int p0), .val (.int p1), .val (.int p2), .val (.int p3), .val (.int p4)] [])) _
          refine XS.iloadN X0.here hx rfl (hb hby d1_9) rfl ?_
          show Steps p.tables e below (s₁.setTop (mkF m 10 #[.val (.int p0), .val (.int p1), .val (.int p2), .val (.int p3), .val (.int p4)] [(.int p3)])) _
          refine XS.iload X0.here hx rfl (hb hby d1_10) rfl ?_
          exact kg_
        by_cases hc6 : p4 < p3
        · have r7 : own_R p.tables e below F0 (s₁.setTop (mkF m 23 #[.val (.int p0), .val (.int p1), .val (.int p2), .val (.int p3), .val (.int p4)] [(.long ((p3.toInt64) - (p4.toInt64)))])) := fun tg_ kg_ => by
            refine r5 tg_ ?_
            show Steps p.tables e below (s₁.setTop (mkF m 12 #[.val (.int p0), .val (.int p1), .val (.int p2), .val (.int p3), .val (.int p4)] [(.int p4), (.int p3)])) _
            refine XS.icmpYes X0.here hx rfl (pc0 := 12) (pc' := 17) rfl (hb hby d1_12) rfl (tlt hc6).2.2.1 (by decide) (by decide) ?_
            show Steps p.tables e below (s₁.setTop (mkF m 17 #[.val (.int p0), .val (.int p1), .val (.int p2), .val (.int p3), .val (.int p4)] [])) _
            refine XS.iloadN X0.here hx rfl (hb hby d1_17) rfl ?_
            show Steps p.tables e below (s₁.setTop (mkF m 18 #[.val (.int p0), .val (.int p1), .val (.int p2), .val (.int p3), .val (.int p4)] [(.int p3)])) _
            refine XS.i2l X0.here hx rfl (hb hby d1_18) rfl ?_
            show Steps p.tables e below (s₁.setTop (mkF m 19 #[.val (.int p0), .val (.int p1), .val (.int p2), .val (.int p3), .val (.int p4)] [(.long (p3.toInt64))])) _
            refine XS.iload X0.here hx rfl (hb hby d1_19) rfl ?_
            show Steps p.tables e below (s₁.setTop (mkF m 21 #[.val (.int p0), .val (.int p1), .val (.int p2), .val (.int p3), .val (.int p4)] [(.int p4), (.long (p3.toInt64))])) _
            refine XS.i2l X0.here hx rfl (hb hby d1_21) rfl ?_
            show Steps p.tables e below (s₁.setTop (mkF m 22 #[.val (.int p0), .val (.int p1), .val (.int p2), .val (.int p3), .val (.int p4)] [(.long (p4.toInt64)), (.long (p3.toInt64))])) _
            refine XS.lsub X0.here hx rfl (hb hby d1_22) rfl ?_
            exact kg_
          refine hG (own_fin X0 hlk (some (.long ((p3.toInt64) - (p4.toInt64)))) (own_hv Bd.returns) ?_ (by decide) (by decide) (fun fs hr => r7 _ (retOut X0 hx Bd.returns rfl (Or.inr (Or.inl ⟨rfl, rfl, _, rfl⟩)) (hb hby d1_23) hr)))
          rw [e0]
          refine ⟨?_, N0, rfl⟩
          have ev : (own_exc p0 p1 p2 p3 p4) = ((p3.toInt64) - (p4.toInt64)) := by unfold own_exc; rw [if_pos hc2, if_pos hc4, if_pos hc6]
          rw [ev]
        · have r8 : own_R p.tables e below F0 (s₁.setTop (mkF m 16 #[.val (.int p0), .val (.int p1), .val (.int p2), .val (.int p3), .val (.int p4)] [(.long (0 : Int64))])) := fun tg_ kg_ => by
            refine r5 tg_ ?_
            show Steps p.tables e below (s₁.setTop (mkF m 12 #[.val (.int p0), .val (.int p1), .val (.int p2), .val (.int p3), .val (.int p4)] [(.int p4), (.int p3)])) _
            refine XS.icmpNo X0.here hx rfl (hb hby d1_12) rfl (flt hc6).2.2.1 ?_
            show Steps p.tables e below (s₁.setTop (mkF m 15 #[.val (.int p0), .val (.int p1), .val (.int p2), .val (.int p3), .val (.int p4)] [])) _
            refine XS.lconst X0.here hx rfl (hb hby d1_15) ?_
            exact kg_
          refine hG (own_fin X0 hlk (some (.long (0 : Int64))) (own_hv Bd.returns) ?_ (by decide) (by decide) (fun fs hr => r8 _ (retOut X0 hx Bd.returns rfl (Or.inr (Or.inl ⟨rfl, rfl, _, rfl⟩)) (hb hby d1_16) hr)))
          rw [e0]
          refine ⟨?_, N0, rfl⟩
          have ev : (own_exc p0 p1 p2 p3 p4) = (0 : Int64) := by unfold own_exc; rw [if_pos hc2, if_pos hc4, if_neg hc6]
          rw [ev]
      · have r9 : own_R p.tables e below F0 (s₁.setTop (mkF m 16 #[.val (.int p0), .val (.int p1), .val (.int p2), .val (.int p3), .val (.int p4)] [(.long (0 : Int64))])) := fun tg_ kg_ => by
          refine r3 tg_ ?_
          show Steps p.tables e below (s₁.setTop (mkF m 6 #[.val (.int p0), .val (.int p1), .val (.int p2), .val (.int p3), .val (.int p4)] [(.int p2)])) _
          refine XS.ifYes X0.here hx rfl (pc0 := 6) (pc' := 15) rfl (hb hby d1_6) rfl ((if0 _ _).trans (feq hc4).2) (by decide) (by decide) ?_
          show Steps p.tables e below (s₁.setTop (mkF m 15 #[.val (.int p0), .val (.int p1), .val (.int p2), .val (.int p3), .val (.int p4)] [])) _
          refine XS.lconst X0.here hx rfl (hb hby d1_15) ?_
          exact kg_
        refine hG (own_fin X0 hlk (some (.long (0 : Int64))) (own_hv Bd.returns) ?_ (by decide) (by decide) (fun fs hr => r9 _ (retOut X0 hx Bd.returns rfl (Or.inr (Or.inl ⟨rfl, rfl, _, rfl⟩)) (hb hby d1_16) hr)))
        rw [e0]
        refine ⟨?_, N0, rfl⟩
        have ev : (own_exc p0 p1 p2 p3 p4) = (0 : Int64) := by unfold own_exc; rw [if_pos hc2, if_neg hc4]
        rw [ev]
    · have r10 : own_R p.tables e below F0 (s₁.setTop (mkF m 16 #[.val (.int p0), .val (.int p1), .val (.int p2), .val (.int p3), .val (.int p4)] [(.long (0 : Int64))])) := fun tg_ kg_ => by
        refine r1 tg_ ?_
        show Steps p.tables e below (s₁.setTop (mkF m 2 #[.val (.int p0), .val (.int p1), .val (.int p2), .val (.int p3), .val (.int p4)] [(.int p1), (.int p0)])) _
        refine XS.icmpYes X0.here hx rfl (pc0 := 2) (pc' := 15) rfl (hb hby d1_2) rfl (flt hc2).2.1 (by decide) (by decide) ?_
        show Steps p.tables e below (s₁.setTop (mkF m 15 #[.val (.int p0), .val (.int p1), .val (.int p2), .val (.int p3), .val (.int p4)] [])) _
        refine XS.lconst X0.here hx rfl (hb hby d1_15) ?_
        exact kg_
      refine hG (own_fin X0 hlk (some (.long (0 : Int64))) (own_hv Bd.returns) ?_ (by decide) (by decide) (fun fs hr => r10 _ (retOut X0 hx Bd.returns rfl (Or.inr (Or.inl ⟨rfl, rfl, _, rfl⟩)) (hb hby d1_16) hr)))
      rw [e0]
      refine ⟨?_, N0, rfl⟩
      have ev : (own_exc p0 p1 p2 p3 p4) = (0 : Int64) := by unfold own_exc; rw [if_neg hc2]
      rw [ev]
  exact key _ _ id (fun t k => castTop (ef_1 m p0 p1 p2 p3 p4) k)
theorem pn_1 : plainName "org/fractile/core/Refinement" = true := by first | (simp [plainName, overriddenIn]; done) | decide +kernel
theorem d2_0 : decode prog_37_method_5_code 0 = .ok (.iconst (-1), 1) := by decide +kernel
theorem d2_1 : decode prog_37_method_5_code 1 = .ok (.istore_n 3, 1) := by decide +kernel
theorem d2_2 : decode prog_37_method_5_code 2 = .ok (.iconst 0, 1) := by decide +kernel
theorem d2_3 : decode prog_37_method_5_code 3 = .ok (.istore 4, 2) := by decide +kernel
theorem d2_5 : decode prog_37_method_5_code 5 = .ok (.iload 4, 2) := by decide +kernel
theorem d2_7 : decode prog_37_method_5_code 7 = .ok (.aload_n 0, 1) := by decide +kernel
theorem d2_8 : decode prog_37_method_5_code 8 = .ok (.arraylength, 1) := by decide +kernel
theorem d2_9 : decode prog_37_method_5_code 9 = .ok (.if_icmp .ge 53, 3) := by decide +kernel
theorem d2_12 : decode prog_37_method_5_code 12 = .ok (.aload_n 2, 1) := by decide +kernel
theorem d2_13 : decode prog_37_method_5_code 13 = .ok (.iload 4, 2) := by decide +kernel
theorem d2_15 : decode prog_37_method_5_code 15 = .ok (.baload, 1) := by decide +kernel
theorem d2_16 : decode prog_37_method_5_code 16 = .ok (.ifCond .ne 40, 3) := by decide +kernel
theorem d2_19 : decode prog_37_method_5_code 19 = .ok (.aload_n 0, 1) := by decide +kernel
theorem d2_20 : decode prog_37_method_5_code 20 = .ok (.iload 4, 2) := by decide +kernel
theorem d2_22 : decode prog_37_method_5_code 22 = .ok (.iaload, 1) := by decide +kernel
theorem d2_23 : decode prog_37_method_5_code 23 = .ok (.aload_n 1, 1) := by decide +kernel
theorem d2_24 : decode prog_37_method_5_code 24 = .ok (.iload 4, 2) := by decide +kernel
theorem d2_26 : decode prog_37_method_5_code 26 = .ok (.iaload, 1) := by decide +kernel
theorem d2_27 : decode prog_37_method_5_code 27 = .ok (.if_icmp .le 29, 3) := by decide +kernel
theorem d2_30 : decode prog_37_method_5_code 30 = .ok (.iload_n 3, 1) := by decide +kernel
theorem d2_31 : decode prog_37_method_5_code 31 = .ok (.ifCond .lt 22, 3) := by decide +kernel
theorem d2_34 : decode prog_37_method_5_code 34 = .ok (.aload_n 0, 1) := by decide +kernel
theorem d2_35 : decode prog_37_method_5_code 35 = .ok (.iload 4, 2) := by decide +kernel
theorem d2_37 : decode prog_37_method_5_code 37 = .ok (.iaload, 1) := by decide +kernel
theorem d2_38 : decode prog_37_method_5_code 38 = .ok (.aload_n 1, 1) := by decide +kernel
theorem d2_39 : decode prog_37_method_5_code 39 = .ok (.iload 4, 2) := by decide +kernel
theorem d2_41 : decode prog_37_method_5_code 41 = .ok (.iaload, 1) := by decide +kernel
theorem d2_42 : decode prog_37_method_5_code 42 = .ok (.isub, 1) := by decide +kernel
theorem d2_43 : decode prog_37_method_5_code 43 = .ok (.aload_n 0, 1) := by decide +kernel
theorem d2_44 : decode prog_37_method_5_code 44 = .ok (.iload_n 3, 1) := by decide +kernel
theorem d2_45 : decode prog_37_method_5_code 45 = .ok (.iaload, 1) := by decide +kernel
theorem d2_46 : decode prog_37_method_5_code 46 = .ok (.aload_n 1, 1) := by decide +kernel
theorem d2_47 : decode prog_37_method_5_code 47 = .ok (.iload_n 3, 1) := by decide +kernel
theorem d2_48 : decode prog_37_method_5_code 48 = .ok (.iaload, 1) := by decide +kernel
theorem d2_49 : decode prog_37_method_5_code 49 = .ok (.isub, 1) := by decide +kernel
theorem d2_50 : decode prog_37_method_5_code 50 = .ok (.if_icmp .le 6, 3) := by decide +kernel
theorem d2_53 : decode prog_37_method_5_code 53 = .ok (.iload 4, 2) := by decide +kernel
theorem d2_55 : decode prog_37_method_5_code 55 = .ok (.istore_n 3, 1) := by decide +kernel
theorem d2_56 : decode prog_37_method_5_code 56 = .ok (.iinc 4 1, 3) := by decide +kernel
theorem d2_59 : decode prog_37_method_5_code 59 = .ok (.goto (-54), 3) := by decide +kernel
theorem d2_62 : decode prog_37_method_5_code 62 = .ok (.iload_n 3, 1) := by decide +kernel
theorem d2_63 : decode prog_37_method_5_code 63 = .ok (.ireturn, 1) := by decide +kernel
theorem ef_2 (m : MethodId) (x0 : Addr) (x1 : Addr) (x2 : Addr) : entryFrame m #[(.ref x0), (.ref x1), (.ref x2)] 5 = mkF m 0 #[.val (.ref x0), .val (.ref x1), .val (.ref x2), .unset, .unset] [] := by first | (simp [entryFrame, mkF, argsToLocals, Value.category]; done) | rfl
def Q2 (Z : State) (a0 : Addr) (a1 : Addr) (a2 : Addr) (n : Nat) (gs : Nat → Int32) (gc : Nat → Int32) (gk : Nat → Int32) (h0 : Heap) (n0 : Nat) (v : Option Value) (h : Heap) (L : List Loc) : Prop := ∃ (r : Int32), v = some (.int r) ∧ Fr n0 L ∧ h = h0 ∧ own_best gs gc gk n r
set_option maxRecDepth 65536 in
set_option maxHeartbeats 40000000 in
theorem rm2 (l : Launch) (Z : State) (a0 : Array Value) (hw : ∀ d ∈ tables_1, d.before a0 Z = true) (ws : List Jvm.Cond) (a0 : Addr) (a1 : Addr) (a2 : Addr) (n : Nat) (gs : Nat → Int32) (gc : Nat → Int32) (gk : Nat → Int32) (h0 : Heap) (n0 : Nat) (Z0 : n0 ≤ h0.size) (A0 : own_Arf Z h0 a0 .int n (fun i => (.int (gs i)))) (A1 : own_Arf Z h0 a1 .int n (fun i => (.int (gc i)))) (A2 : own_Arf Z h0 a2 .boolean n (fun i => (.int (gk i)))) (hpos : ∀ i, i < n → 0 ≤ (gs i).toInt ∧ 0 ≤ (gc i).toInt) (hn : n ≤ 100) :
    MetFree l (⟨"org/fractile/core/Refinement", "mostAbove", "([I[I[Z)I"⟩ : MethodName) (head1 (Jvm.Cond.code (⟨"org/fractile/core/Refinement", "mostAbove", "([I[I[Z)I"⟩ : MethodName) prog_37_method_5_code 5 (some .int) :: ws) ({ frames := 0, cells := 0, slots := 0, locals := 0 } : Room)) (fun a U => a = #[(.ref a0), (.ref a1), (.ref a2)] ∧ Z.Warmed39 U.vm ∧ U.heap = h0) (fun _ _ _ _ _ => True) (fun _ U o U' => ∃ v L, o = .returned v ∧ Q2 Z a0 a1 a2 n gs gc gk h0 n0 v U'.heap L ∧ FrameEnd U o U' L ({ frames := 0, cells := 0, slots := 0, locals := 0 } : Room).cells ({ frames := 0, cells := 0, slots := 0, locals := 0 } : Room).slots) := by
  refine MetFree.of_bodySF (plainFor_of_name pn_1) hisR ?_
  intro p e s m args below meth c s₁ Bd hml0 hP hK
  obtain ⟨rfl, hZ, hh⟩ := hP
  have hx := Bd.exec
  have hby := Bd.bytes
  have hml : c.maxLocals = 5 := hml0
  have hown : s.vm.findClass "org/fractile/core/Refinement" = some m.cls := findClass_of_methodNamed Bd.named
  have hnm := (name_of_methodNamed Bd.named Bd.method).1
  have hlk : meth.locks = false := BodyLoose.notSynchronized Bd
  have X0 : Stand p l e ({ frames := 0, cells := 0, slots := 0, locals := 0 } : Room) s m #[(.ref a0), (.ref a1), (.ref a2)] below meth c s₁ [] 0 0 := Stand.of_body Bd
  have e0 : s₁.heap = h0 := by rw [← hh, Bd.state]; rfl
  have N0 := Fr.nil n0
  have K0 : Keep h0 h0 [] := Keep.refl h0 _
  have key : ∀ (F0 : State) (G : Prop), (own_G p e below s F0 (Q2 Z a0 a1 a2 n gs gc gk h0 n0) ({ frames := 0, cells := 0, slots := 0, locals := 0 } : Room).cells ({ frames := 0, cells := 0, slots := 0, locals := 0 } : Room).slots → G) → own_R p.tables e below F0 (s₁.setTop (mkF m 0 #[.val (.ref a0), .val (.ref a1), .val (.ref a2), .unset, .unset] [])) → G := by
    intro F0 G hG r0
    have hN : (Int32.ofNat n).toInt = n := Int32.toInt_ofNat_of_lt (by omega)
    have r11 : own_R p.tables e below F0 (s₁.setTop (mkF m 5 #[.val (.ref a0), .val (.ref a1), .val (.ref a2), .val (.int (-1 : Int32)), .val (.int (0 : Int32))] [])) := fun tg_ kg_ => by
      refine r0 tg_ ?_
      show Steps p.tables e below (s₁.setTop (mkF m 0 #[.val (.ref a0), .val (.ref a1), .val (.ref a2), .unset, .unset] [])) _
      refine XS.iconst X0.here hx rfl (hb hby d2_0) ?_
      show Steps p.tables e below (s₁.setTop (mkF m 1 #[.val (.ref a0), .val (.ref a1), .val (.ref a2), .unset, .unset] [(.int (-1 : Int32))])) _
      refine XS.istoreN X0.here hx rfl (hb hby d2_1) rfl (l' := #[.val (.ref a0), .val (.ref a1), .val (.ref a2), .val (.int (-1 : Int32)), .unset]) rfl ?_
      show Steps p.tables e below (s₁.setTop (mkF m 2 #[.val (.ref a0), .val (.ref a1), .val (.ref a2), .val (.int (-1 : Int32)), .unset] [])) _
      refine XS.iconst X0.here hx rfl (hb hby d2_2) ?_
      show Steps p.tables e below (s₁.setTop (mkF m 3 #[.val (.ref a0), .val (.ref a1), .val (.ref a2), .val (.int (-1 : Int32)), .unset] [(.int (0 : Int32))])) _
      refine XS.istore X0.here hx rfl (hb hby d2_3) rfl (l' := #[.val (.ref a0), .val (.ref a1), .val (.ref a2), .val (.int (-1 : Int32)), .val (.int (0 : Int32))]) rfl ?_
      exact kg_
    have J12 : ∀ (k15 : Nat) (b : Int32) (i : Int32) (q : Nat) (hi : i.toInt = q) (hq : q ≤ n) (hbb : own_best gs gc gk q b) (_ : n - q = k15) (r13 : own_R p.tables e below F0 (s₁.setTop (mkF m 5 #[.val (.ref a0), .val (.ref a1), .val (.ref a2), .val (.int b), .val (.int i)] []))), G := by
      intro k15
      induction k15 using Nat.strongRecOn with
      | ind k15 ih14 =>
        intro b i q hi hq hbb hm16 r13
        have r17 : own_R p.tables e below F0 (s₁.setTop (mkF m 9 #[.val (.ref a0), .val (.ref a1), .val (.ref a2), .val (.int b), .val (.int i)] [(.int (Int32.ofNat n)), (.int i)])) := fun tg_ kg_ => by
          refine r13 tg_ ?_
          show Steps p.tables e below (s₁.setTop (mkF m 5 #[.val (.ref a0), .val (.ref a1), .val (.ref a2), .val (.int b), .val (.int i)] [])) _
          refine XS.iload X0.here hx rfl (hb hby d2_5) rfl ?_
          show Steps p.tables e below (s₁.setTop (mkF m 7 #[.val (.ref a0), .val (.ref a1), .val (.ref a2), .val (.int b), .val (.int i)] [(.int i)])) _
          refine XS.aloadN X0.here hx rfl (hb hby d2_7) rfl rfl ?_
          show Steps p.tables e below (s₁.setTop (mkF m 8 #[.val (.ref a0), .val (.ref a1), .val (.ref a2), .val (.int b), .val (.int i)] [(.ref a0), (.int i)])) _
          refine own_alen X0 hx hZ e0 A0 (Int32.ofNat n) rfl (g := (mkF m 8 #[.val (.ref a0), .val (.ref a1), .val (.ref a2), .val (.int b), .val (.int i)] [(.ref a0), (.int i)])) rfl rfl (hb hby d2_8) _ ?_
          exact kg_
        by_cases hc18 : i < (Int32.ofNat n)
        · have r19 : own_R p.tables e below F0 (s₁.setTop (mkF m 16 #[.val (.ref a0), .val (.ref a1), .val (.ref a2), .val (.int b), .val (.int i)] [(.int (gk q))])) := fun tg_ kg_ => by
            refine r17 tg_ ?_
            show Steps p.tables e below (s₁.setTop (mkF m 9 #[.val (.ref a0), .val (.ref a1), .val (.ref a2), .val (.int b), .val (.int i)] [(.int (Int32.ofNat n)), (.int i)])) _
            refine XS.icmpNo X0.here hx rfl (hb hby d2_9) rfl (tlt hc18).2.1 ?_
            show Steps p.tables e below (s₁.setTop (mkF m 12 #[.val (.ref a0), .val (.ref a1), .val (.ref a2), .val (.int b), .val (.int i)] [])) _
            refine XS.aloadN X0.here hx rfl (hb hby d2_12) rfl rfl ?_
            show Steps p.tables e below (s₁.setTop (mkF m 13 #[.val (.ref a0), .val (.ref a1), .val (.ref a2), .val (.int b), .val (.int i)] [(.ref a2)])) _
            refine XS.iload X0.here hx rfl (hb hby d2_13) rfl ?_
            show Steps p.tables e below (s₁.setTop (mkF m 15 #[.val (.ref a0), .val (.ref a1), .val (.ref a2), .val (.int b), .val (.int i)] [(.int i), (.ref a2)])) _
            refine own_baloadZ X0 hx hZ e0 (j := i) A2 (by
                        have q199_r := own_R32 i
                        have q200_r := own_R32 (Int32.ofNat n)
                        have q201_c := own_lt32 hc18
                        omega) (by
                        have q202_r := own_R32 i
                        have q203_r := own_R32 (Int32.ofNat n)
                        have q204_c := own_lt32 hc18
                        omega) (w := (.int (gk q))) (congrArg (fun j => Value.int (gk j)) (own_clamp hi)) (g := (mkF m 15 #[.val (.ref a0), .val (.ref a1), .val (.ref a2), .val (.int b), .val (.int i)] [(.int i), (.ref a2)])) rfl rfl (hb hby d2_15) _ ?_
            exact kg_
          by_cases hc20 : (gk q) = (0 : Int32)
          · have r21 : own_R p.tables e below F0 (s₁.setTop (mkF m 27 #[.val (.ref a0), .val (.ref a1), .val (.ref a2), .val (.int b), .val (.int i)] [(.int (gc q)), (.int (gs q))])) := fun tg_ kg_ => by
              refine r19 tg_ ?_
              show Steps p.tables e below (s₁.setTop (mkF m 16 #[.val (.ref a0), .val (.ref a1), .val (.ref a2), .val (.int b), .val (.int i)] [(.int (gk q))])) _
              refine XS.ifNo X0.here hx rfl (hb hby d2_16) rfl ((if0 _ _).trans (teq hc20).2) ?_
              show Steps p.tables e below (s₁.setTop (mkF m 19 #[.val (.ref a0), .val (.ref a1), .val (.ref a2), .val (.int b), .val (.int i)] [])) _
              refine XS.aloadN X0.here hx rfl (hb hby d2_19) rfl rfl ?_
              show Steps p.tables e below (s₁.setTop (mkF m 20 #[.val (.ref a0), .val (.ref a1), .val (.ref a2), .val (.int b), .val (.int i)] [(.ref a0)])) _
              refine XS.iload X0.here hx rfl (hb hby d2_20) rfl ?_
              show Steps p.tables e below (s₁.setTop (mkF m 22 #[.val (.ref a0), .val (.ref a1), .val (.ref a2), .val (.int b), .val (.int i)] [(.int i), (.ref a0)])) _
              refine own_iaload X0 hx hZ e0 (j := i) A0 (by
                            have q205_r := own_R32 i
                            have q206_r := own_R32 (Int32.ofNat n)
                            have q207_r := own_R32 (gk q)
                            have q208_e : (0 : Int32).toInt = 0 := (by decide)
                            have q208_r : (0 : Int) ≤ (0 : Int32).toInt ∧ (0 : Int32).toInt ≤ 0 := ⟨Int.le_of_eq q208_e.symm, Int.le_of_eq q208_e⟩
                            have q209_c := own_lt32 hc18
                            have q210_c := own_eq32 hc20
                            omega) (by
                            have q211_r := own_R32 i
                            have q212_r := own_R32 (Int32.ofNat n)
                            have q213_r := own_R32 (gk q)
                            have q214_e : (0 : Int32).toInt = 0 := (by decide)
                            have q214_r : (0 : Int) ≤ (0 : Int32).toInt ∧ (0 : Int32).toInt ≤ 0 := ⟨Int.le_of_eq q214_e.symm, Int.le_of_eq q214_e⟩
                            have q215_c := own_lt32 hc18
                            have q216_c := own_eq32 hc20
                            omega) (w := (.int (gs q))) (congrArg (fun j => Value.int (gs j)) (own_clamp hi)) (g := (mkF m 22 #[.val (.ref a0), .val (.ref a1), .val (.ref a2), .val (.int b), .val (.int i)] [(.int i), (.ref a0)])) rfl rfl (hb hby d2_22) _ ?_
              show Steps p.tables e below (s₁.setTop (mkF m 23 #[.val (.ref a0), .val (.ref a1), .val (.ref a2), .val (.int b), .val (.int i)] [(.int (gs q))])) _
              refine XS.aloadN X0.here hx rfl (hb hby d2_23) rfl rfl ?_
              show Steps p.tables e below (s₁.setTop (mkF m 24 #[.val (.ref a0), .val (.ref a1), .val (.ref a2), .val (.int b), .val (.int i)] [(.ref a1), (.int (gs q))])) _
              refine XS.iload X0.here hx rfl (hb hby d2_24) rfl ?_
              show Steps p.tables e below (s₁.setTop (mkF m 26 #[.val (.ref a0), .val (.ref a1), .val (.ref a2), .val (.int b), .val (.int i)] [(.int i), (.ref a1), (.int (gs q))])) _
              refine own_iaload X0 hx hZ e0 (j := i) A1 (by
                            have q217_r := own_R32 i
                            have q218_r := own_R32 (Int32.ofNat n)
                            have q219_r := own_R32 (gk q)
                            have q220_e : (0 : Int32).toInt = 0 := (by decide)
                            have q220_r : (0 : Int) ≤ (0 : Int32).toInt ∧ (0 : Int32).toInt ≤ 0 := ⟨Int.le_of_eq q220_e.symm, Int.le_of_eq q220_e⟩
                            have q221_c := own_lt32 hc18
                            have q222_c := own_eq32 hc20
                            omega) (by
                            have q223_r := own_R32 i
                            have q224_r := own_R32 (Int32.ofNat n)
                            have q225_r := own_R32 (gk q)
                            have q226_e : (0 : Int32).toInt = 0 := (by decide)
                            have q226_r : (0 : Int) ≤ (0 : Int32).toInt ∧ (0 : Int32).toInt ≤ 0 := ⟨Int.le_of_eq q226_e.symm, Int.le_of_eq q226_e⟩
                            have q227_c := own_lt32 hc18
                            have q228_c := own_eq32 hc20
                            omega) (w := (.int (gc q))) (congrArg (fun j => Value.int (gc j)) (own_clamp hi)) (g := (mkF m 26 #[.val (.ref a0), .val (.ref a1), .val (.ref a2), .val (.int b), .val (.int i)] [(.int i), (.ref a1), (.int (gs q))])) rfl rfl (hb hby d2_26) _ ?_
              exact kg_
            by_cases hc22 : (gc q) < (gs q)
            · have r23 : own_R p.tables e below F0 (s₁.setTop (mkF m 31 #[.val (.ref a0), .val (.ref a1), .val (.ref a2), .val (.int b), .val (.int i)] [(.int b)])) := fun tg_ kg_ => by
                refine r21 tg_ ?_
                show Steps p.tables e below (s₁.setTop (mkF m 27 #[.val (.ref a0), .val (.ref a1), .val (.ref a2), .val (.int b), .val (.int i)] [(.int (gc q)), (.int (gs q))])) _
                refine XS.icmpNo X0.here hx rfl (hb hby d2_27) rfl (tlt hc22).2.2.2 ?_
                show Steps p.tables e below (s₁.setTop (mkF m 30 #[.val (.ref a0), .val (.ref a1), .val (.ref a2), .val (.int b), .val (.int i)] [])) _
                refine XS.iloadN X0.here hx rfl (hb hby d2_30) rfl ?_
                exact kg_
              by_cases hc24 : b < (0 : Int32)
              · have r25 : own_R p.tables e below F0 (s₁.setTop (mkF m 5 #[.val (.ref a0), .val (.ref a1), .val (.ref a2), .val (.int i), .val (.int (i + (1 : Int32)))] [])) := fun tg_ kg_ => by
                  refine r23 tg_ ?_
                  show Steps p.tables e below (s₁.setTop (mkF m 31 #[.val (.ref a0), .val (.ref a1), .val (.ref a2), .val (.int b), .val (.int i)] [(.int b)])) _
                  refine XS.ifYes X0.here hx rfl (pc0 := 31) (pc' := 53) rfl (hb hby d2_31) rfl ((if0 _ _).trans (tlt hc24).1) (by decide) (by decide) ?_
                  show Steps p.tables e below (s₁.setTop (mkF m 53 #[.val (.ref a0), .val (.ref a1), .val (.ref a2), .val (.int b), .val (.int i)] [])) _
                  refine XS.iload X0.here hx rfl (hb hby d2_53) rfl ?_
                  show Steps p.tables e below (s₁.setTop (mkF m 55 #[.val (.ref a0), .val (.ref a1), .val (.ref a2), .val (.int b), .val (.int i)] [(.int i)])) _
                  refine XS.istoreN X0.here hx rfl (hb hby d2_55) rfl (l' := #[.val (.ref a0), .val (.ref a1), .val (.ref a2), .val (.int i), .val (.int i)]) rfl ?_
                  show Steps p.tables e below (s₁.setTop (mkF m 56 #[.val (.ref a0), .val (.ref a1), .val (.ref a2), .val (.int i), .val (.int i)] [])) _
                  refine XS.iinc X0.here hx rfl (hb hby d2_56) rfl (l' := #[.val (.ref a0), .val (.ref a1), .val (.ref a2), .val (.int i), .val (.int (i + (1 : Int32)))]) rfl ?_
                  show Steps p.tables e below (s₁.setTop (mkF m 59 #[.val (.ref a0), .val (.ref a1), .val (.ref a2), .val (.int i), .val (.int (i + (1 : Int32)))] [])) _
                  refine XS.goto X0.here hx rfl (pc0 := 59) (pc' := 5) rfl (hb hby d2_59) (by decide) (by decide) ?_
                  exact kg_
                have q229_r := own_R32 i
                have q230_r := own_R32 (Int32.ofNat n)
                have q231_r := own_R32 (gk q)
                have q232_e : (0 : Int32).toInt = 0 := (by decide)
                have q232_r : (0 : Int) ≤ (0 : Int32).toInt ∧ (0 : Int32).toInt ≤ 0 := ⟨Int.le_of_eq q232_e.symm, Int.le_of_eq q232_e⟩
                have q233_r := own_R32 (gc q)
                have q234_r := own_R32 (gs q)
                have q235_r := own_R32 b
                have q236_e : (1 : Int32).toInt = 1 := (by decide)
                have q236_r : (1 : Int) ≤ (1 : Int32).toInt ∧ (1 : Int32).toInt ≤ 1 := ⟨Int.le_of_eq q236_e.symm, Int.le_of_eq q236_e⟩
                have q237_r := own_R32 (i + (1 : Int32))
                have q238_ := c_iadd i (1 : Int32)
                have q239_c := own_lt32 hc18
                have q240_c := own_eq32 hc20
                have q241_c := own_lt32 hc22
                have q242_c := own_lt32 hc24
                exact ih14 _ (by omega) i (i + (1 : Int32)) (q + 1) (by omega) (by omega) (own_bnew hbb (own_lt32 hc24) hi ⟨own_eq32 hc20, own_lt32 hc22⟩) rfl r25
              · have r26 : own_R p.tables e below F0 (s₁.setTop (mkF m 34 #[.val (.ref a0), .val (.ref a1), .val (.ref a2), .val (.int b), .val (.int i)] [])) := fun tg_ kg_ => by
                  refine r23 tg_ ?_
                  show Steps p.tables e below (s₁.setTop (mkF m 31 #[.val (.ref a0), .val (.ref a1), .val (.ref a2), .val (.int b), .val (.int i)] [(.int b)])) _
                  refine XS.ifNo X0.here hx rfl (hb hby d2_31) rfl ((if0 _ _).trans (flt hc24).1) ?_
                  exact kg_
                obtain ⟨j, hj1, hj2, hj3, hj4, hj5⟩ := own_bpos hbb (fun z => hc24 (Int32.lt_iff_toInt_lt.mpr z))
                have r27 : own_R p.tables e below F0 (s₁.setTop (mkF m 50 #[.val (.ref a0), .val (.ref a1), .val (.ref a2), .val (.int b), .val (.int i)] [(.int ((gs j) - (gc j))), (.int ((gs q) - (gc q)))])) := fun tg_ kg_ => by
                  refine r26 tg_ ?_
                  show Steps p.tables e below (s₁.setTop (mkF m 34 #[.val (.ref a0), .val (.ref a1), .val (.ref a2), .val (.int b), .val (.int i)] [])) _
                  refine XS.aloadN X0.here hx rfl (hb hby d2_34) rfl rfl ?_
                  show Steps p.tables e below (s₁.setTop (mkF m 35 #[.val (.ref a0), .val (.ref a1), .val (.ref a2), .val (.int b), .val (.int i)] [(.ref a0)])) _
                  refine XS.iload X0.here hx rfl (hb hby d2_35) rfl ?_
                  show Steps p.tables e below (s₁.setTop (mkF m 37 #[.val (.ref a0), .val (.ref a1), .val (.ref a2), .val (.int b), .val (.int i)] [(.int i), (.ref a0)])) _
                  refine own_iaload X0 hx hZ e0 (j := i) A0 (by
                                    have q243_r := own_R32 i
                                    have q244_r := own_R32 (Int32.ofNat n)
                                    have q245_r := own_R32 (gk q)
                                    have q246_e : (0 : Int32).toInt = 0 := (by decide)
                                    have q246_r : (0 : Int) ≤ (0 : Int32).toInt ∧ (0 : Int32).toInt ≤ 0 := ⟨Int.le_of_eq q246_e.symm, Int.le_of_eq q246_e⟩
                                    have q247_r := own_R32 (gc q)
                                    have q248_r := own_R32 (gs q)
                                    have q249_r := own_R32 b
                                    have q250_c := own_lt32 hc18
                                    have q251_c := own_eq32 hc20
                                    have q252_c := own_lt32 hc22
                                    have q253_c := own_nlt32 hc24
                                    omega) (by
                                    have q254_r := own_R32 i
                                    have q255_r := own_R32 (Int32.ofNat n)
                                    have q256_r := own_R32 (gk q)
                                    have q257_e : (0 : Int32).toInt = 0 := (by decide)
                                    have q257_r : (0 : Int) ≤ (0 : Int32).toInt ∧ (0 : Int32).toInt ≤ 0 := ⟨Int.le_of_eq q257_e.symm, Int.le_of_eq q257_e⟩
                                    have q258_r := own_R32 (gc q)
                                    have q259_r := own_R32 (gs q)
                                    have q260_r := own_R32 b
                                    have q261_c := own_lt32 hc18
                                    have q262_c := own_eq32 hc20
                                    have q263_c := own_lt32 hc22
                                    have q264_c := own_nlt32 hc24
                                    omega) (w := (.int (gs q))) (congrArg (fun j => Value.int (gs j)) (own_clamp hi)) (g := (mkF m 37 #[.val (.ref a0), .val (.ref a1), .val (.ref a2), .val (.int b), .val (.int i)] [(.int i), (.ref a0)])) rfl rfl (hb hby d2_37) _ ?_
                  show Steps p.tables e below (s₁.setTop (mkF m 38 #[.val (.ref a0), .val (.ref a1), .val (.ref a2), .val (.int b), .val (.int i)] [(.int (gs q))])) _
                  refine XS.aloadN X0.here hx rfl (hb hby d2_38) rfl rfl ?_
                  show Steps p.tables e below (s₁.setTop (mkF m 39 #[.val (.ref a0), .val (.ref a1), .val (.ref a2), .val (.int b), .val (.int i)] [(.ref a1), (.int (gs q))])) _
                  refine XS.iload X0.here hx rfl (hb hby d2_39) rfl ?_
                  show Steps p.tables e below (s₁.setTop (mkF m 41 #[.val (.ref a0), .val (.ref a1), .val (.ref a2), .val (.int b), .val (.int i)] [(.int i), (.ref a1), (.int (gs q))])) _
                  refine own_iaload X0 hx hZ e0 (j := i) A1 (by
                                    have q265_r := own_R32 i
                                    have q266_r := own_R32 (Int32.ofNat n)
                                    have q267_r := own_R32 (gk q)
                                    have q268_e : (0 : Int32).toInt = 0 := (by decide)
                                    have q268_r : (0 : Int) ≤ (0 : Int32).toInt ∧ (0 : Int32).toInt ≤ 0 := ⟨Int.le_of_eq q268_e.symm, Int.le_of_eq q268_e⟩
                                    have q269_r := own_R32 (gc q)
                                    have q270_r := own_R32 (gs q)
                                    have q271_r := own_R32 b
                                    have q272_c := own_lt32 hc18
                                    have q273_c := own_eq32 hc20
                                    have q274_c := own_lt32 hc22
                                    have q275_c := own_nlt32 hc24
                                    omega) (by
                                    have q276_r := own_R32 i
                                    have q277_r := own_R32 (Int32.ofNat n)
                                    have q278_r := own_R32 (gk q)
                                    have q279_e : (0 : Int32).toInt = 0 := (by decide)
                                    have q279_r : (0 : Int) ≤ (0 : Int32).toInt ∧ (0 : Int32).toInt ≤ 0 := ⟨Int.le_of_eq q279_e.symm, Int.le_of_eq q279_e⟩
                                    have q280_r := own_R32 (gc q)
                                    have q281_r := own_R32 (gs q)
                                    have q282_r := own_R32 b
                                    have q283_c := own_lt32 hc18
                                    have q284_c := own_eq32 hc20
                                    have q285_c := own_lt32 hc22
                                    have q286_c := own_nlt32 hc24
                                    omega) (w := (.int (gc q))) (congrArg (fun j => Value.int (gc j)) (own_clamp hi)) (g := (mkF m 41 #[.val (.ref a0), .val (.ref a1), .val (.ref a2), .val (.int b), .val (.int i)] [(.int i), (.ref a1), (.int (gs q))])) rfl rfl (hb hby d2_41) _ ?_
                  show Steps p.tables e below (s₁.setTop (mkF m 42 #[.val (.ref a0), .val (.ref a1), .val (.ref a2), .val (.int b), .val (.int i)] [(.int (gc q)), (.int (gs q))])) _
                  refine XS.isub X0.here hx rfl (hb hby d2_42) rfl ?_
                  show Steps p.tables e below (s₁.setTop (mkF m 43 #[.val (.ref a0), .val (.ref a1), .val (.ref a2), .val (.int b), .val (.int i)] [(.int ((gs q) - (gc q)))])) _
                  refine XS.aloadN X0.here hx rfl (hb hby d2_43) rfl rfl ?_
                  show Steps p.tables e below (s₁.setTop (mkF m 44 #[.val (.ref a0), .val (.ref a1), .val (.ref a2), .val (.int b), .val (.int i)] [(.ref a0), (.int ((gs q) - (gc q)))])) _
                  refine XS.iloadN X0.here hx rfl (hb hby d2_44) rfl ?_
                  show Steps p.tables e below (s₁.setTop (mkF m 45 #[.val (.ref a0), .val (.ref a1), .val (.ref a2), .val (.int b), .val (.int i)] [(.int b), (.ref a0), (.int ((gs q) - (gc q)))])) _
                  refine own_iaload X0 hx hZ e0 (j := b) A0 (by
                                    have q287_r := own_R32 i
                                    have q288_r := own_R32 (Int32.ofNat n)
                                    have q289_r := own_R32 (gk q)
                                    have q290_e : (0 : Int32).toInt = 0 := (by decide)
                                    have q290_r : (0 : Int) ≤ (0 : Int32).toInt ∧ (0 : Int32).toInt ≤ 0 := ⟨Int.le_of_eq q290_e.symm, Int.le_of_eq q290_e⟩
                                    have q291_r := own_R32 (gc q)
                                    have q292_r := own_R32 (gs q)
                                    have q293_r := own_R32 b
                                    have q294_c := own_lt32 hc18
                                    have q295_c := own_eq32 hc20
                                    have q296_c := own_lt32 hc22
                                    have q297_c := own_nlt32 hc24
                                    omega) (by
                                    have q298_r := own_R32 i
                                    have q299_r := own_R32 (Int32.ofNat n)
                                    have q300_r := own_R32 (gk q)
                                    have q301_e : (0 : Int32).toInt = 0 := (by decide)
                                    have q301_r : (0 : Int) ≤ (0 : Int32).toInt ∧ (0 : Int32).toInt ≤ 0 := ⟨Int.le_of_eq q301_e.symm, Int.le_of_eq q301_e⟩
                                    have q302_r := own_R32 (gc q)
                                    have q303_r := own_R32 (gs q)
                                    have q304_r := own_R32 b
                                    have q305_c := own_lt32 hc18
                                    have q306_c := own_eq32 hc20
                                    have q307_c := own_lt32 hc22
                                    have q308_c := own_nlt32 hc24
                                    omega) (w := (.int (gs j))) (congrArg (fun j => Value.int (gs j)) (own_clamp hj1)) (g := (mkF m 45 #[.val (.ref a0), .val (.ref a1), .val (.ref a2), .val (.int b), .val (.int i)] [(.int b), (.ref a0), (.int ((gs q) - (gc q)))])) rfl rfl (hb hby d2_45) _ ?_
                  show Steps p.tables e below (s₁.setTop (mkF m 46 #[.val (.ref a0), .val (.ref a1), .val (.ref a2), .val (.int b), .val (.int i)] [(.int (gs j)), (.int ((gs q) - (gc q)))])) _
                  refine XS.aloadN X0.here hx rfl (hb hby d2_46) rfl rfl ?_
                  show Steps p.tables e below (s₁.setTop (mkF m 47 #[.val (.ref a0), .val (.ref a1), .val (.ref a2), .val (.int b), .val (.int i)] [(.ref a1), (.int (gs j)), (.int ((gs q) - (gc q)))])) _
                  refine XS.iloadN X0.here hx rfl (hb hby d2_47) rfl ?_
                  show Steps p.tables e below (s₁.setTop (mkF m 48 #[.val (.ref a0), .val (.ref a1), .val (.ref a2), .val (.int b), .val (.int i)] [(.int b), (.ref a1), (.int (gs j)), (.int ((gs q) - (gc q)))])) _
                  refine own_iaload X0 hx hZ e0 (j := b) A1 (by
                                    have q309_r := own_R32 i
                                    have q310_r := own_R32 (Int32.ofNat n)
                                    have q311_r := own_R32 (gk q)
                                    have q312_e : (0 : Int32).toInt = 0 := (by decide)
                                    have q312_r : (0 : Int) ≤ (0 : Int32).toInt ∧ (0 : Int32).toInt ≤ 0 := ⟨Int.le_of_eq q312_e.symm, Int.le_of_eq q312_e⟩
                                    have q313_r := own_R32 (gc q)
                                    have q314_r := own_R32 (gs q)
                                    have q315_r := own_R32 b
                                    have q316_c := own_lt32 hc18
                                    have q317_c := own_eq32 hc20
                                    have q318_c := own_lt32 hc22
                                    have q319_c := own_nlt32 hc24
                                    omega) (by
                                    have q320_r := own_R32 i
                                    have q321_r := own_R32 (Int32.ofNat n)
                                    have q322_r := own_R32 (gk q)
                                    have q323_e : (0 : Int32).toInt = 0 := (by decide)
                                    have q323_r : (0 : Int) ≤ (0 : Int32).toInt ∧ (0 : Int32).toInt ≤ 0 := ⟨Int.le_of_eq q323_e.symm, Int.le_of_eq q323_e⟩
                                    have q324_r := own_R32 (gc q)
                                    have q325_r := own_R32 (gs q)
                                    have q326_r := own_R32 b
                                    have q327_c := own_lt32 hc18
                                    have q328_c := own_eq32 hc20
                                    have q329_c := own_lt32 hc22
                                    have q330_c := own_nlt32 hc24
                                    omega) (w := (.int (gc j))) (congrArg (fun j => Value.int (gc j)) (own_clamp hj1)) (g := (mkF m 48 #[.val (.ref a0), .val (.ref a1), .val (.ref a2), .val (.int b), .val (.int i)] [(.int b), (.ref a1), (.int (gs j)), (.int ((gs q) - (gc q)))])) rfl rfl (hb hby d2_48) _ ?_
                  show Steps p.tables e below (s₁.setTop (mkF m 49 #[.val (.ref a0), .val (.ref a1), .val (.ref a2), .val (.int b), .val (.int i)] [(.int (gc j)), (.int (gs j)), (.int ((gs q) - (gc q)))])) _
                  refine XS.isub X0.here hx rfl (hb hby d2_49) rfl ?_
                  exact kg_
                by_cases hc28 : ((gs j) - (gc j)) < ((gs q) - (gc q))
                · have r29 : own_R p.tables e below F0 (s₁.setTop (mkF m 5 #[.val (.ref a0), .val (.ref a1), .val (.ref a2), .val (.int i), .val (.int (i + (1 : Int32)))] [])) := fun tg_ kg_ => by
                    refine r27 tg_ ?_
                    show Steps p.tables e below (s₁.setTop (mkF m 50 #[.val (.ref a0), .val (.ref a1), .val (.ref a2), .val (.int b), .val (.int i)] [(.int ((gs j) - (gc j))), (.int ((gs q) - (gc q)))])) _
                    refine XS.icmpNo X0.here hx rfl (hb hby d2_50) rfl (tlt hc28).2.2.2 ?_
                    show Steps p.tables e below (s₁.setTop (mkF m 53 #[.val (.ref a0), .val (.ref a1), .val (.ref a2), .val (.int b), .val (.int i)] [])) _
                    refine XS.iload X0.here hx rfl (hb hby d2_53) rfl ?_
                    show Steps p.tables e below (s₁.setTop (mkF m 55 #[.val (.ref a0), .val (.ref a1), .val (.ref a2), .val (.int b), .val (.int i)] [(.int i)])) _
                    refine XS.istoreN X0.here hx rfl (hb hby d2_55) rfl (l' := #[.val (.ref a0), .val (.ref a1), .val (.ref a2), .val (.int i), .val (.int i)]) rfl ?_
                    show Steps p.tables e below (s₁.setTop (mkF m 56 #[.val (.ref a0), .val (.ref a1), .val (.ref a2), .val (.int i), .val (.int i)] [])) _
                    refine XS.iinc X0.here hx rfl (hb hby d2_56) rfl (l' := #[.val (.ref a0), .val (.ref a1), .val (.ref a2), .val (.int i), .val (.int (i + (1 : Int32)))]) rfl ?_
                    show Steps p.tables e below (s₁.setTop (mkF m 59 #[.val (.ref a0), .val (.ref a1), .val (.ref a2), .val (.int i), .val (.int (i + (1 : Int32)))] [])) _
                    refine XS.goto X0.here hx rfl (pc0 := 59) (pc' := 5) rfl (hb hby d2_59) (by decide) (by decide) ?_
                    exact kg_
                  have q331_r := own_R32 i
                  have q332_r := own_R32 (Int32.ofNat n)
                  have q333_r := own_R32 (gk q)
                  have q334_e : (0 : Int32).toInt = 0 := (by decide)
                  have q334_r : (0 : Int) ≤ (0 : Int32).toInt ∧ (0 : Int32).toInt ≤ 0 := ⟨Int.le_of_eq q334_e.symm, Int.le_of_eq q334_e⟩
                  have q335_r := own_R32 (gc q)
                  have q336_r := own_R32 (gs q)
                  have q337_r := own_R32 b
                  have q338_r := own_R32 (gs j)
                  have q339_r := own_R32 (gc j)
                  have q340_r := own_R32 ((gs j) - (gc j))
                  have q341_ := c_isub (gs j) (gc j)
                  have q342_r := own_R32 ((gs q) - (gc q))
                  have q343_ := c_isub (gs q) (gc q)
                  have q344_e : (1 : Int32).toInt = 1 := (by decide)
                  have q344_r : (1 : Int) ≤ (1 : Int32).toInt ∧ (1 : Int32).toInt ≤ 1 := ⟨Int.le_of_eq q344_e.symm, Int.le_of_eq q344_e⟩
                  have q345_r := own_R32 (i + (1 : Int32))
                  have q346_ := c_iadd i (1 : Int32)
                  have q347_c := own_lt32 hc18
                  have q348_c := own_eq32 hc20
                  have q349_c := own_lt32 hc22
                  have q350_c := own_nlt32 hc24
                  have q351_c := own_lt32 hc28
                  have hp1 := hpos q (by omega)
                  have hp2 := hpos j (by omega)
                  have hdd :  own_diff gs gc j < own_diff gs gc q := by unfold own_diff; omega
                  exact ih14 _ (by omega) i (i + (1 : Int32)) (q + 1) (by omega) (by omega) (own_bup hi ⟨own_eq32 hc20, own_lt32 hc22⟩ hj4 hdd) rfl r29
                · have r30 : own_R p.tables e below F0 (s₁.setTop (mkF m 5 #[.val (.ref a0), .val (.ref a1), .val (.ref a2), .val (.int b), .val (.int (i + (1 : Int32)))] [])) := fun tg_ kg_ => by
                    refine r27 tg_ ?_
                    show Steps p.tables e below (s₁.setTop (mkF m 50 #[.val (.ref a0), .val (.ref a1), .val (.ref a2), .val (.int b), .val (.int i)] [(.int ((gs j) - (gc j))), (.int ((gs q) - (gc q)))])) _
                    refine XS.icmpYes X0.here hx rfl (pc0 := 50) (pc' := 56) rfl (hb hby d2_50) rfl (flt hc28).2.2.2 (by decide) (by decide) ?_
                    show Steps p.tables e below (s₁.setTop (mkF m 56 #[.val (.ref a0), .val (.ref a1), .val (.ref a2), .val (.int b), .val (.int i)] [])) _
                    refine XS.iinc X0.here hx rfl (hb hby d2_56) rfl (l' := #[.val (.ref a0), .val (.ref a1), .val (.ref a2), .val (.int b), .val (.int (i + (1 : Int32)))]) rfl ?_
                    show Steps p.tables e below (s₁.setTop (mkF m 59 #[.val (.ref a0), .val (.ref a1), .val (.ref a2), .val (.int b), .val (.int (i + (1 : Int32)))] [])) _
                    refine XS.goto X0.here hx rfl (pc0 := 59) (pc' := 5) rfl (hb hby d2_59) (by decide) (by decide) ?_
                    exact kg_
                  have q352_r := own_R32 i
                  have q353_r := own_R32 (Int32.ofNat n)
                  have q354_r := own_R32 (gk q)
                  have q355_e : (0 : Int32).toInt = 0 := (by decide)
                  have q355_r : (0 : Int) ≤ (0 : Int32).toInt ∧ (0 : Int32).toInt ≤ 0 := ⟨Int.le_of_eq q355_e.symm, Int.le_of_eq q355_e⟩
                  have q356_r := own_R32 (gc q)
                  have q357_r := own_R32 (gs q)
                  have q358_r := own_R32 b
                  have q359_r := own_R32 (gs j)
                  have q360_r := own_R32 (gc j)
                  have q361_r := own_R32 ((gs j) - (gc j))
                  have q362_ := c_isub (gs j) (gc j)
                  have q363_r := own_R32 ((gs q) - (gc q))
                  have q364_ := c_isub (gs q) (gc q)
                  have q365_e : (1 : Int32).toInt = 1 := (by decide)
                  have q365_r : (1 : Int) ≤ (1 : Int32).toInt ∧ (1 : Int32).toInt ≤ 1 := ⟨Int.le_of_eq q365_e.symm, Int.le_of_eq q365_e⟩
                  have q366_r := own_R32 (i + (1 : Int32))
                  have q367_ := c_iadd i (1 : Int32)
                  have q368_c := own_lt32 hc18
                  have q369_c := own_eq32 hc20
                  have q370_c := own_lt32 hc22
                  have q371_c := own_nlt32 hc24
                  have q372_c := own_nlt32 hc28
                  have hp1 := hpos q (by omega)
                  have hp2 := hpos j (by omega)
                  have hdd : ¬ own_diff gs gc j < own_diff gs gc q := by unfold own_diff; omega
                  exact ih14 _ (by omega) b (i + (1 : Int32)) (q + 1) (by omega) (by omega) (own_bkeep hj1 hj2 hj3 hj4 hj5 hdd) rfl r30
            · have r31 : own_R p.tables e below F0 (s₁.setTop (mkF m 5 #[.val (.ref a0), .val (.ref a1), .val (.ref a2), .val (.int b), .val (.int (i + (1 : Int32)))] [])) := fun tg_ kg_ => by
                refine r21 tg_ ?_
                show Steps p.tables e below (s₁.setTop (mkF m 27 #[.val (.ref a0), .val (.ref a1), .val (.ref a2), .val (.int b), .val (.int i)] [(.int (gc q)), (.int (gs q))])) _
                refine XS.icmpYes X0.here hx rfl (pc0 := 27) (pc' := 56) rfl (hb hby d2_27) rfl (flt hc22).2.2.2 (by decide) (by decide) ?_
                show Steps p.tables e below (s₁.setTop (mkF m 56 #[.val (.ref a0), .val (.ref a1), .val (.ref a2), .val (.int b), .val (.int i)] [])) _
                refine XS.iinc X0.here hx rfl (hb hby d2_56) rfl (l' := #[.val (.ref a0), .val (.ref a1), .val (.ref a2), .val (.int b), .val (.int (i + (1 : Int32)))]) rfl ?_
                show Steps p.tables e below (s₁.setTop (mkF m 59 #[.val (.ref a0), .val (.ref a1), .val (.ref a2), .val (.int b), .val (.int (i + (1 : Int32)))] [])) _
                refine XS.goto X0.here hx rfl (pc0 := 59) (pc' := 5) rfl (hb hby d2_59) (by decide) (by decide) ?_
                exact kg_
              have q373_r := own_R32 i
              have q374_r := own_R32 (Int32.ofNat n)
              have q375_r := own_R32 (gk q)
              have q376_e : (0 : Int32).toInt = 0 := (by decide)
              have q376_r : (0 : Int) ≤ (0 : Int32).toInt ∧ (0 : Int32).toInt ≤ 0 := ⟨Int.le_of_eq q376_e.symm, Int.le_of_eq q376_e⟩
              have q377_r := own_R32 (gc q)
              have q378_r := own_R32 (gs q)
              have q379_e : (1 : Int32).toInt = 1 := (by decide)
              have q379_r : (1 : Int) ≤ (1 : Int32).toInt ∧ (1 : Int32).toInt ≤ 1 := ⟨Int.le_of_eq q379_e.symm, Int.le_of_eq q379_e⟩
              have q380_r := own_R32 (i + (1 : Int32))
              have q381_ := c_iadd i (1 : Int32)
              have q382_c := own_lt32 hc18
              have q383_c := own_eq32 hc20
              have q384_c := own_nlt32 hc22
              exact ih14 _ (by omega) b (i + (1 : Int32)) (q + 1) (by omega) (by omega) (own_bskip hbb (fun z => hc22 (Int32.lt_iff_toInt_lt.mpr z.2))) rfl r31
          · have r32 : own_R p.tables e below F0 (s₁.setTop (mkF m 5 #[.val (.ref a0), .val (.ref a1), .val (.ref a2), .val (.int b), .val (.int (i + (1 : Int32)))] [])) := fun tg_ kg_ => by
              refine r19 tg_ ?_
              show Steps p.tables e below (s₁.setTop (mkF m 16 #[.val (.ref a0), .val (.ref a1), .val (.ref a2), .val (.int b), .val (.int i)] [(.int (gk q))])) _
              refine XS.ifYes X0.here hx rfl (pc0 := 16) (pc' := 56) rfl (hb hby d2_16) rfl ((if0 _ _).trans (feq hc20).2) (by decide) (by decide) ?_
              show Steps p.tables e below (s₁.setTop (mkF m 56 #[.val (.ref a0), .val (.ref a1), .val (.ref a2), .val (.int b), .val (.int i)] [])) _
              refine XS.iinc X0.here hx rfl (hb hby d2_56) rfl (l' := #[.val (.ref a0), .val (.ref a1), .val (.ref a2), .val (.int b), .val (.int (i + (1 : Int32)))]) rfl ?_
              show Steps p.tables e below (s₁.setTop (mkF m 59 #[.val (.ref a0), .val (.ref a1), .val (.ref a2), .val (.int b), .val (.int (i + (1 : Int32)))] [])) _
              refine XS.goto X0.here hx rfl (pc0 := 59) (pc' := 5) rfl (hb hby d2_59) (by decide) (by decide) ?_
              exact kg_
            have q385_r := own_R32 i
            have q386_r := own_R32 (Int32.ofNat n)
            have q387_r := own_R32 (gk q)
            have q388_e : (0 : Int32).toInt = 0 := (by decide)
            have q388_r : (0 : Int) ≤ (0 : Int32).toInt ∧ (0 : Int32).toInt ≤ 0 := ⟨Int.le_of_eq q388_e.symm, Int.le_of_eq q388_e⟩
            have q389_e : (1 : Int32).toInt = 1 := (by decide)
            have q389_r : (1 : Int) ≤ (1 : Int32).toInt ∧ (1 : Int32).toInt ≤ 1 := ⟨Int.le_of_eq q389_e.symm, Int.le_of_eq q389_e⟩
            have q390_r := own_R32 (i + (1 : Int32))
            have q391_ := c_iadd i (1 : Int32)
            have q392_c := own_lt32 hc18
            have q393_c := own_ne32 hc20
            exact ih14 _ (by omega) b (i + (1 : Int32)) (q + 1) (by omega) (by omega) (own_bskip hbb (fun z => own_ne32 hc20 z.1)) rfl r32
        · have r33 : own_R p.tables e below F0 (s₁.setTop (mkF m 63 #[.val (.ref a0), .val (.ref a1), .val (.ref a2), .val (.int b), .val (.int i)] [(.int b)])) := fun tg_ kg_ => by
            refine r17 tg_ ?_
            show Steps p.tables e below (s₁.setTop (mkF m 9 #[.val (.ref a0), .val (.ref a1), .val (.ref a2), .val (.int b), .val (.int i)] [(.int (Int32.ofNat n)), (.int i)])) _
            refine XS.icmpYes X0.here hx rfl (pc0 := 9) (pc' := 62) rfl (hb hby d2_9) rfl (flt hc18).2.1 (by decide) (by decide) ?_
            show Steps p.tables e below (s₁.setTop (mkF m 62 #[.val (.ref a0), .val (.ref a1), .val (.ref a2), .val (.int b), .val (.int i)] [])) _
            refine XS.iloadN X0.here hx rfl (hb hby d2_62) rfl ?_
            exact kg_
          refine hG (own_fin X0 hlk (some (.int b)) (own_hv Bd.returns) ?_ (by decide) (by decide) (fun fs hr => r33 _ (retOut X0 hx Bd.returns rfl (Or.inl ⟨rfl, Or.inl rfl, _, rfl⟩) (hb hby d2_63) hr)))
          rw [e0]
          refine ⟨b, ?_, N0, rfl, (by
              have q394_r := own_R32 i
              have q395_r := own_R32 (Int32.ofNat n)
              have q396_c := own_nlt32 hc18
              have : q = n := by omega
              subst this; exact hbb)⟩
          rfl
    exact J12 _ (-1 : Int32) (0 : Int32) 0 (by decide) (Nat.zero_le _) (Or.inl ⟨by decide, fun i hi => absurd hi (by omega)⟩) rfl r11
  exact key _ _ id (fun t k => castTop (ef_2 m a0 a1 a2) k)
theorem own_narB {x : Int32} (h : x.toInt = 0 ∨ x.toInt = 1) : (nar .boolean x).toInt = x.toInt := by
  show (x &&& 1).toInt = _
  have := own_mask x 1 1 2 (by decide) (by decide) (by decide)
  omega
theorem own_excI (i n k s c : Int32) (hs : 0 ≤ s.toInt) (hc : 0 ≤ c.toInt) : (own_exc i n k s c).toInt = if i.toInt < n.toInt ∧ k.toInt = 0 ∧ c.toInt < s.toInt then s.toInt - c.toInt else 0 := by
  have h0 : (0 : Int64).toInt = 0 := rfl
  have h1 := c_i2l s
  have h2 := c_i2l c
  have h3 := c_lsub s.toInt64 c.toInt64
  have h4 := rng64 (s.toInt64 - c.toInt64)
  have h5 := rng32 s
  have h6 := rng32 c
  have h7 : (0 : Int32).toInt = 0 := rfl
  unfold own_exc
  simp only [Int32.lt_iff_toInt_lt, ← Int32.toInt_inj, h7]
  repeat' split
  all_goals first | (exfalso; omega) | omega
theorem own_excC (i n k s c : Int32) (I N : Nat) (gs gc gk : Nat → Int32) (hi : i.toInt = I) (hN : n.toInt = N) (hv : I < N → (gs I).toInt = s.toInt ∧ (gc I).toInt = c.toInt ∧ (gk I).toInt = k.toInt) (hs : 0 ≤ s.toInt) (hc : 0 ≤ c.toInt) :
    ((I < N ∧ own_cand gs gc gk I) → (own_exc i n k s c).toInt = own_diff gs gc I) ∧ (¬ (I < N ∧ own_cand gs gc gk I) → (own_exc i n k s c).toInt = 0) := by
  rw [own_excI i n k s c hs hc]
  constructor
  · rintro ⟨h1, h2, h3⟩
    obtain ⟨v1, v2, v3⟩ := hv h1
    rw [if_pos ⟨by omega, by omega, by omega⟩]
    unfold own_diff; omega
  · intro h
    rw [if_neg]
    rintro ⟨h1, h2, h3⟩
    have h1' : I < N := by omega
    obtain ⟨v1, v2, v3⟩ := hv h1'
    exact h ⟨h1', by omega, by omega⟩
theorem own_spec {N : Nat} {gs gc gk : Nat → Int32} {r : Int32} {e0 e1 e2 : Int} (hN : N ≤ 3)
    (h0 : ((0 < N ∧ own_cand gs gc gk 0) → e0 = own_diff gs gc 0) ∧ (¬ (0 < N ∧ own_cand gs gc gk 0) → e0 = 0)) (h1 : ((1 < N ∧ own_cand gs gc gk 1) → e1 = own_diff gs gc 1) ∧ (¬ (1 < N ∧ own_cand gs gc gk 1) → e1 = 0)) (h2 : ((2 < N ∧ own_cand gs gc gk 2) → e2 = own_diff gs gc 2) ∧ (¬ (2 < N ∧ own_cand gs gc gk 2) → e2 = 0))
    (hb : own_best gs gc gk N r) : (r.toInt = -1 ∧ e0 = 0 ∧ e1 = 0 ∧ e2 = 0) ∨ (r.toInt = 0 ∧ 0 < N ∧ 0 < e0 ∧ e1 ≤ e0 ∧ e2 ≤ e0) ∨ (r.toInt = 1 ∧ 1 < N ∧ 0 < e1 ∧ e0 < e1 ∧ e2 ≤ e1) ∨ (r.toInt = 2 ∧ 2 < N ∧ 0 < e2 ∧ e0 < e2 ∧ e1 < e2) := by
  rcases hb with ⟨b1, b2⟩ | ⟨j, b1, b2, b3, b4, b5⟩
  · exact Or.inl ⟨b1, h0.2 (fun q => b2 0 q.1 q.2), h1.2 (fun q => b2 1 q.1 q.2), h2.2 (fun q => b2 2 q.1 q.2)⟩
  · have pos : 0 < own_diff gs gc j := by have := b3.2; unfold own_diff; omega
    have le : ∀ (I : Nat) (e : Int), ((I < N ∧ own_cand gs gc gk I) → e = own_diff gs gc I) ∧ (¬ (I < N ∧ own_cand gs gc gk I) → e = 0) → e ≤ own_diff gs gc j ∧ (I < j → e < own_diff gs gc j) := by
      intro I e h
      by_cases q : I < N ∧ own_cand gs gc gk I
      · rw [h.1 q]; exact ⟨b4 I q.1 q.2, fun z => b5 I z q.2⟩
      · rw [h.2 q]; exact ⟨by omega, fun _ => pos⟩
    have l0 := le 0 e0 h0
    have l1 := le 1 e1 h1
    have l2 := le 2 e2 h2
    have hj : j = 0 ∨ j = 1 ∨ j = 2 := by omega
    rcases hj with rfl | rfl | rfl
    · have q := h0.1 ⟨b2, b3⟩
      exact Or.inr (Or.inl ⟨b1, b2, by omega, by omega, by omega⟩)
    · have q := h1.1 ⟨b2, b3⟩
      have z := l0.2 (by omega)
      exact Or.inr (Or.inr (Or.inl ⟨b1, b2, by omega, by omega, by omega⟩))
    · have q := h2.1 ⟨b2, b3⟩
      have z := l0.2 (by omega)
      have z' := l1.2 (by omega)
      exact Or.inr (Or.inr (Or.inr ⟨b1, b2, by omega, by omega, by omega⟩))
theorem pd_0 : parseMethodDescriptor "(IIZII)J" = some ⟨[.int, .int, .boolean, .int, .int], some .long⟩ := by decide +kernel
theorem pd_1 : parseMethodDescriptor "([I[I[Z)I" = some ⟨[(.array .int), (.array .int), (.array .boolean)], some .int⟩ := by decide +kernel
theorem ef_0 (m : MethodId) (x0 : Int32) (x1 : Int64) (x2 : Int64) (x3 : Int64) : entryFrame m #[(.int x0), (.long x1), (.long x2), (.long x3)] maxLocals = mkF m 0 #[.val (.int x0), .val (.long x1), .second, .val (.long x2), .second, .val (.long x3), .second, .unset, .unset, .unset, .unset, .unset, .unset, .unset, .unset, .unset, .unset, .unset, .unset, .unset, .unset, .unset, .unset, .unset, .unset, .unset, .unset, .unset, .unset] [] := by first | (simp [entryFrame, mkF, argsToLocals, Value.category, maxLocals]; done) | rfl
def Q0 (Z : State) (p0s : Int32) (p1s : Int64) (p2s : Int64) (p3s : Int64) (h0 : Heap) (n0 : Nat) (v : Option Value) (h : Heap) (L : List Loc) : Prop := v = some (.int (1 : Int32)) ∧ Fr n0 L
set_option maxRecDepth 65536 in
set_option maxHeartbeats 40000000 in
theorem rm0 (l : Launch) (Z : State) (a0 : Array Value) (hw : ∀ d ∈ tables_1, d.before a0 Z = true) (ws : List Jvm.Cond) (p0s : Int32) (p1s : Int64) (p2s : Int64) (p3s : Int64) (h0 : Heap) (n0 : Nat) (Z0 : n0 ≤ h0.size) :
    MetFree l x (head1 (Jvm.Cond.code x code maxLocals ret :: ws) room_1) (fun a U => a = #[(.int p0s), (.long p1s), (.long p2s), (.long p3s)] ∧ Z.Warmed39 U.vm ∧ U.heap = h0) (fun _ _ _ _ _ => True) (fun _ U o U' => ∃ v L, o = .returned v ∧ Q0 Z p0s p1s p2s p3s h0 n0 v U'.heap L ∧ FrameEnd U o U' L 16 128) := by
  refine MetFree.of_bodySF (plainFor_of_name pn_0) hisR ?_
  intro p e s m args below meth c s₁ Bd hml0 hP hK
  obtain ⟨rfl, hZ, hh⟩ := hP
  have hx := Bd.exec
  have hby := Bd.bytes
  have hml : c.maxLocals = 29 := hml0
  have hown : s.vm.findClass "org/fractile/core/RefinementMostAbovePinLaw" = some m.cls := findClass_of_methodNamed Bd.named
  have hnm := (name_of_methodNamed Bd.named Bd.method).1
  have hlk : meth.locks = false := BodyLoose.notSynchronized Bd
  have X0 : Stand p l e room_1 s m #[(.int p0s), (.long p1s), (.long p2s), (.long p3s)] below meth c s₁ [] 0 0 := Stand.of_body Bd
  have e0 : s₁.heap = h0 := by rw [← hh, Bd.state]; rfl
  have N0 := Fr.nil n0
  have K0 : Keep h0 h0 [] := Keep.refl h0 _
  have key : ∀ (F0 : State) (G : Prop), (own_G p e below s F0 (Q0 Z p0s p1s p2s p3s h0 n0) 16 128 → G) → own_R p.tables e below F0 (s₁.setTop (mkF m 0 #[.val (.int p0s), .val (.long p1s), .second, .val (.long p2s), .second, .val (.long p3s), .second, .unset, .unset, .unset, .unset, .unset, .unset, .unset, .unset, .unset, .unset, .unset, .unset, .unset, .unset, .unset, .unset, .unset, .unset, .unset, .unset, .unset, .unset] [])) → G := by
    intro F0 G hG r0
    obtain ⟨z34, hz34⟩ : ∃ z : Int32, z = (p0s &&& (3 : Int32)) := ⟨_, rfl⟩
    have r35 : own_R p.tables e below F0 (s₁.setTop (mkF m 8 #[.val (.int p0s), .val (.long p1s), .second, .val (.long p2s), .second, .val (.long p3s), .second, .val (.int z34), .unset, .unset, .unset, .unset, .unset, .unset, .unset, .unset, .unset, .unset, .unset, .unset, .unset, .unset, .unset, .unset, .unset, .unset, .unset, .unset, .unset] [(.int (p0s &&& (4 : Int32)))])) := fun tg_ kg_ => by
      refine r0 tg_ ?_
      show Steps p.tables e below (s₁.setTop (mkF m 0 #[.val (.int p0s), .val (.long p1s), .second, .val (.long p2s), .second, .val (.long p3s), .second, .unset, .unset, .unset, .unset, .unset, .unset, .unset, .unset, .unset, .unset, .unset, .unset, .unset, .unset, .unset, .unset, .unset, .unset, .unset, .unset, .unset, .unset] [])) _
      refine XS.iloadN X0.here hx rfl (hb hby at_0) rfl ?_
      show Steps p.tables e below (s₁.setTop (mkF m 1 #[.val (.int p0s), .val (.long p1s), .second, .val (.long p2s), .second, .val (.long p3s), .second, .unset, .unset, .unset, .unset, .unset, .unset, .unset, .unset, .unset, .unset, .unset, .unset, .unset, .unset, .unset, .unset, .unset, .unset, .unset, .unset, .unset, .unset] [(.int p0s)])) _
      refine XS.iconst X0.here hx rfl (hb hby at_1) ?_
      show Steps p.tables e below (s₁.setTop (mkF m 2 #[.val (.int p0s), .val (.long p1s), .second, .val (.long p2s), .second, .val (.long p3s), .second, .unset, .unset, .unset, .unset, .unset, .unset, .unset, .unset, .unset, .unset, .unset, .unset, .unset, .unset, .unset, .unset, .unset, .unset, .unset, .unset, .unset, .unset] [(.int (3 : Int32)), (.int p0s)])) _
      refine XS.iand X0.here hx rfl (hb hby at_2) rfl ?_
      show Steps p.tables e below (s₁.setTop (mkF m 3 #[.val (.int p0s), .val (.long p1s), .second, .val (.long p2s), .second, .val (.long p3s), .second, .unset, .unset, .unset, .unset, .unset, .unset, .unset, .unset, .unset, .unset, .unset, .unset, .unset, .unset, .unset, .unset, .unset, .unset, .unset, .unset, .unset, .unset] [(.int (p0s &&& (3 : Int32)))])) _
      refine XS.istore X0.here hx rfl (hb hby at_3) (x := z34) (rest := []) (by subst hz34; rfl) (l' := #[.val (.int p0s), .val (.long p1s), .second, .val (.long p2s), .second, .val (.long p3s), .second, .val (.int z34), .unset, .unset, .unset, .unset, .unset, .unset, .unset, .unset, .unset, .unset, .unset, .unset, .unset, .unset, .unset, .unset, .unset, .unset, .unset, .unset, .unset]) rfl ?_
      show Steps p.tables e below (s₁.setTop (mkF m 5 #[.val (.int p0s), .val (.long p1s), .second, .val (.long p2s), .second, .val (.long p3s), .second, .val (.int z34), .unset, .unset, .unset, .unset, .unset, .unset, .unset, .unset, .unset, .unset, .unset, .unset, .unset, .unset, .unset, .unset, .unset, .unset, .unset, .unset, .unset] [])) _
      refine XS.iloadN X0.here hx rfl (hb hby at_5) rfl ?_
      show Steps p.tables e below (s₁.setTop (mkF m 6 #[.val (.int p0s), .val (.long p1s), .second, .val (.long p2s), .second, .val (.long p3s), .second, .val (.int z34), .unset, .unset, .unset, .unset, .unset, .unset, .unset, .unset, .unset, .unset, .unset, .unset, .unset, .unset, .unset, .unset, .unset, .unset, .unset, .unset, .unset] [(.int p0s)])) _
      refine XS.iconst X0.here hx rfl (hb hby at_6) ?_
      show Steps p.tables e below (s₁.setTop (mkF m 7 #[.val (.int p0s), .val (.long p1s), .second, .val (.long p2s), .second, .val (.long p3s), .second, .val (.int z34), .unset, .unset, .unset, .unset, .unset, .unset, .unset, .unset, .unset, .unset, .unset, .unset, .unset, .unset, .unset, .unset, .unset, .unset, .unset, .unset, .unset] [(.int (4 : Int32)), (.int p0s)])) _
      refine XS.iand X0.here hx rfl (hb hby at_7) rfl ?_
      exact kg_
    have J36 : ∀ (k0 : Int32) (hk0 : k0.toInt = 0 ∨ k0.toInt = 1) (r37 : own_R p.tables e below F0 (s₁.setTop (mkF m 16 #[.val (.int p0s), .val (.long p1s), .second, .val (.long p2s), .second, .val (.long p3s), .second, .val (.int z34), .unset, .unset, .unset, .unset, .unset, .unset, .unset, .unset, .unset, .unset, .unset, .unset, .unset, .unset, .unset, .unset, .unset, .unset, .unset, .unset, .unset] [(.int k0)]))), G := by
      intro k0 hk0 r37
      have r38 : own_R p.tables e below F0 (s₁.setTop (mkF m 22 #[.val (.int p0s), .val (.long p1s), .second, .val (.long p2s), .second, .val (.long p3s), .second, .val (.int z34), .val (.int k0), .unset, .unset, .unset, .unset, .unset, .unset, .unset, .unset, .unset, .unset, .unset, .unset, .unset, .unset, .unset, .unset, .unset, .unset, .unset, .unset] [(.int (p0s &&& (8 : Int32)))])) := fun tg_ kg_ => by
        refine r37 tg_ ?_
        show Steps p.tables e below (s₁.setTop (mkF m 16 #[.val (.int p0s), .val (.long p1s), .second, .val (.long p2s), .second, .val (.long p3s), .second, .val (.int z34), .unset, .unset, .unset, .unset, .unset, .unset, .unset, .unset, .unset, .unset, .unset, .unset, .unset, .unset, .unset, .unset, .unset, .unset, .unset, .unset, .unset] [(.int k0)])) _
        refine XS.istore X0.here hx rfl (hb hby at_16) rfl (l' := #[.val (.int p0s), .val (.long p1s), .second, .val (.long p2s), .second, .val (.long p3s), .second, .val (.int z34), .val (.int k0), .unset, .unset, .unset, .unset, .unset, .unset, .unset, .unset, .unset, .unset, .unset, .unset, .unset, .unset, .unset, .unset, .unset, .unset, .unset, .unset]) rfl ?_
        show Steps p.tables e below (s₁.setTop (mkF m 18 #[.val (.int p0s), .val (.long p1s), .second, .val (.long p2s), .second, .val (.long p3s), .second, .val (.int z34), .val (.int k0), .unset, .unset, .unset, .unset, .unset, .unset, .unset, .unset, .unset, .unset, .unset, .unset, .unset, .unset, .unset, .unset, .unset, .unset, .unset, .unset] [])) _
        refine XS.iloadN X0.here hx rfl (hb hby at_18) rfl ?_
        show Steps p.tables e below (s₁.setTop (mkF m 19 #[.val (.int p0s), .val (.long p1s), .second, .val (.long p2s), .second, .val (.long p3s), .second, .val (.int z34), .val (.int k0), .unset, .unset, .unset, .unset, .unset, .unset, .unset, .unset, .unset, .unset, .unset, .unset, .unset, .unset, .unset, .unset, .unset, .unset, .unset, .unset] [(.int p0s)])) _
        refine XS.bipush X0.here hx rfl (hb hby at_19) ?_
        show Steps p.tables e below (s₁.setTop (mkF m 21 #[.val (.int p0s), .val (.long p1s), .second, .val (.long p2s), .second, .val (.long p3s), .second, .val (.int z34), .val (.int k0), .unset, .unset, .unset, .unset, .unset, .unset, .unset, .unset, .unset, .unset, .unset, .unset, .unset, .unset, .unset, .unset, .unset, .unset, .unset, .unset] [(.int (8 : Int32)), (.int p0s)])) _
        refine XS.iand X0.here hx rfl (hb hby at_21) rfl ?_
        exact kg_
      have J39 : ∀ (k1 : Int32) (hk1 : k1.toInt = 0 ∨ k1.toInt = 1) (r40 : own_R p.tables e below F0 (s₁.setTop (mkF m 30 #[.val (.int p0s), .val (.long p1s), .second, .val (.long p2s), .second, .val (.long p3s), .second, .val (.int z34), .val (.int k0), .unset, .unset, .unset, .unset, .unset, .unset, .unset, .unset, .unset, .unset, .unset, .unset, .unset, .unset, .unset, .unset, .unset, .unset, .unset, .unset] [(.int k1)]))), G := by
        intro k1 hk1 r40
        have r41 : own_R p.tables e below F0 (s₁.setTop (mkF m 36 #[.val (.int p0s), .val (.long p1s), .second, .val (.long p2s), .second, .val (.long p3s), .second, .val (.int z34), .val (.int k0), .val (.int k1), .unset, .unset, .unset, .unset, .unset, .unset, .unset, .unset, .unset, .unset, .unset, .unset, .unset, .unset, .unset, .unset, .unset, .unset, .unset] [(.int (p0s &&& (16 : Int32)))])) := fun tg_ kg_ => by
          refine r40 tg_ ?_
          show Steps p.tables e below (s₁.setTop (mkF m 30 #[.val (.int p0s), .val (.long p1s), .second, .val (.long p2s), .second, .val (.long p3s), .second, .val (.int z34), .val (.int k0), .unset, .unset, .unset, .unset, .unset, .unset, .unset, .unset, .unset, .unset, .unset, .unset, .unset, .unset, .unset, .unset, .unset, .unset, .unset, .unset] [(.int k1)])) _
          refine XS.istore X0.here hx rfl (hb hby at_30) rfl (l' := #[.val (.int p0s), .val (.long p1s), .second, .val (.long p2s), .second, .val (.long p3s), .second, .val (.int z34), .val (.int k0), .val (.int k1), .unset, .unset, .unset, .unset, .unset, .unset, .unset, .unset, .unset, .unset, .unset, .unset, .unset, .unset, .unset, .unset, .unset, .unset, .unset]) rfl ?_
          show Steps p.tables e below (s₁.setTop (mkF m 32 #[.val (.int p0s), .val (.long p1s), .second, .val (.long p2s), .second, .val (.long p3s), .second, .val (.int z34), .val (.int k0), .val (.int k1), .unset, .unset, .unset, .unset, .unset, .unset, .unset, .unset, .unset, .unset, .unset, .unset, .unset, .unset, .unset, .unset, .unset, .unset, .unset] [])) _
          refine XS.iloadN X0.here hx rfl (hb hby at_32) rfl ?_
          show Steps p.tables e below (s₁.setTop (mkF m 33 #[.val (.int p0s), .val (.long p1s), .second, .val (.long p2s), .second, .val (.long p3s), .second, .val (.int z34), .val (.int k0), .val (.int k1), .unset, .unset, .unset, .unset, .unset, .unset, .unset, .unset, .unset, .unset, .unset, .unset, .unset, .unset, .unset, .unset, .unset, .unset, .unset] [(.int p0s)])) _
          refine XS.bipush X0.here hx rfl (hb hby at_33) ?_
          show Steps p.tables e below (s₁.setTop (mkF m 35 #[.val (.int p0s), .val (.long p1s), .second, .val (.long p2s), .second, .val (.long p3s), .second, .val (.int z34), .val (.int k0), .val (.int k1), .unset, .unset, .unset, .unset, .unset, .unset, .unset, .unset, .unset, .unset, .unset, .unset, .unset, .unset, .unset, .unset, .unset, .unset, .unset] [(.int (16 : Int32)), (.int p0s)])) _
          refine XS.iand X0.here hx rfl (hb hby at_35) rfl ?_
          exact kg_
        have J42 : ∀ (k2 : Int32) (hk2 : k2.toInt = 0 ∨ k2.toInt = 1) (r43 : own_R p.tables e below F0 (s₁.setTop (mkF m 44 #[.val (.int p0s), .val (.long p1s), .second, .val (.long p2s), .second, .val (.long p3s), .second, .val (.int z34), .val (.int k0), .val (.int k1), .unset, .unset, .unset, .unset, .unset, .unset, .unset, .unset, .unset, .unset, .unset, .unset, .unset, .unset, .unset, .unset, .unset, .unset, .unset] [(.int k2)]))), G := by
          intro k2 hk2 r43
          obtain ⟨z44, hz44⟩ : ∃ z : Int32, z = ((((p1s.toUInt64 >>> ((32 : Int32) &&& 0x3f).toInt64.toUInt64).toInt64).toInt32) &&& (2147483647 : Int32)) := ⟨_, rfl⟩
          obtain ⟨z45, hz45⟩ : ∃ z : Int32, z = ((p1s.toInt32) &&& (2147483647 : Int32)) := ⟨_, rfl⟩
          obtain ⟨z46, hz46⟩ : ∃ z : Int32, z = ((((p2s.toUInt64 >>> ((32 : Int32) &&& 0x3f).toInt64.toUInt64).toInt64).toInt32) &&& (2147483647 : Int32)) := ⟨_, rfl⟩
          obtain ⟨z47, hz47⟩ : ∃ z : Int32, z = ((p2s.toInt32) &&& (2147483647 : Int32)) := ⟨_, rfl⟩
          obtain ⟨z48, hz48⟩ : ∃ z : Int32, z = ((((p3s.toUInt64 >>> ((32 : Int32) &&& 0x3f).toInt64.toUInt64).toInt64).toInt32) &&& (2147483647 : Int32)) := ⟨_, rfl⟩
          obtain ⟨z49, hz49⟩ : ∃ z : Int32, z = ((p3s.toInt32) &&& (2147483647 : Int32)) := ⟨_, rfl⟩
          have r50 : own_R p.tables e below F0 (s₁.setTop (mkF m 99 #[.val (.int p0s), .val (.long p1s), .second, .val (.long p2s), .second, .val (.long p3s), .second, .val (.int z34), .val (.int k0), .val (.int k1), .val (.int k2), .val (.int z44), .val (.int z45), .val (.int z46), .val (.int z47), .val (.int z48), .val (.int z49), .unset, .unset, .unset, .unset, .unset, .unset, .unset, .unset, .unset, .unset, .unset, .unset] [])) := fun tg_ kg_ => by
            refine r43 tg_ ?_
            show Steps p.tables e below (s₁.setTop (mkF m 44 #[.val (.int p0s), .val (.long p1s), .second, .val (.long p2s), .second, .val (.long p3s), .second, .val (.int z34), .val (.int k0), .val (.int k1), .unset, .unset, .unset, .unset, .unset, .unset, .unset, .unset, .unset, .unset, .unset, .unset, .unset, .unset, .unset, .unset, .unset, .unset, .unset] [(.int k2)])) _
            refine XS.istore X0.here hx rfl (hb hby at_44) rfl (l' := #[.val (.int p0s), .val (.long p1s), .second, .val (.long p2s), .second, .val (.long p3s), .second, .val (.int z34), .val (.int k0), .val (.int k1), .val (.int k2), .unset, .unset, .unset, .unset, .unset, .unset, .unset, .unset, .unset, .unset, .unset, .unset, .unset, .unset, .unset, .unset, .unset, .unset]) rfl ?_
            show Steps p.tables e below (s₁.setTop (mkF m 46 #[.val (.int p0s), .val (.long p1s), .second, .val (.long p2s), .second, .val (.long p3s), .second, .val (.int z34), .val (.int k0), .val (.int k1), .val (.int k2), .unset, .unset, .unset, .unset, .unset, .unset, .unset, .unset, .unset, .unset, .unset, .unset, .unset, .unset, .unset, .unset, .unset, .unset] [])) _
            refine XS.lloadN X0.here hx rfl (hb hby at_46) rfl ?_
            show Steps p.tables e below (s₁.setTop (mkF m 47 #[.val (.int p0s), .val (.long p1s), .second, .val (.long p2s), .second, .val (.long p3s), .second, .val (.int z34), .val (.int k0), .val (.int k1), .val (.int k2), .unset, .unset, .unset, .unset, .unset, .unset, .unset, .unset, .unset, .unset, .unset, .unset, .unset, .unset, .unset, .unset, .unset, .unset] [(.long p1s)])) _
            refine XS.bipush X0.here hx rfl (hb hby at_47) ?_
            show Steps p.tables e below (s₁.setTop (mkF m 49 #[.val (.int p0s), .val (.long p1s), .second, .val (.long p2s), .second, .val (.long p3s), .second, .val (.int z34), .val (.int k0), .val (.int k1), .val (.int k2), .unset, .unset, .unset, .unset, .unset, .unset, .unset, .unset, .unset, .unset, .unset, .unset, .unset, .unset, .unset, .unset, .unset, .unset] [(.int (32 : Int32)), (.long p1s)])) _
            refine XS.lushr X0.here hx rfl (hb hby at_49) rfl ?_
            show Steps p.tables e below (s₁.setTop (mkF m 50 #[.val (.int p0s), .val (.long p1s), .second, .val (.long p2s), .second, .val (.long p3s), .second, .val (.int z34), .val (.int k0), .val (.int k1), .val (.int k2), .unset, .unset, .unset, .unset, .unset, .unset, .unset, .unset, .unset, .unset, .unset, .unset, .unset, .unset, .unset, .unset, .unset, .unset] [(.long ((p1s.toUInt64 >>> ((32 : Int32) &&& 0x3f).toInt64.toUInt64).toInt64))])) _
            refine XS.l2i X0.here hx rfl (hb hby at_50) rfl ?_
            show Steps p.tables e below (s₁.setTop (mkF m 51 #[.val (.int p0s), .val (.long p1s), .second, .val (.long p2s), .second, .val (.long p3s), .second, .val (.int z34), .val (.int k0), .val (.int k1), .val (.int k2), .unset, .unset, .unset, .unset, .unset, .unset, .unset, .unset, .unset, .unset, .unset, .unset, .unset, .unset, .unset, .unset, .unset, .unset] [(.int (((p1s.toUInt64 >>> ((32 : Int32) &&& 0x3f).toInt64.toUInt64).toInt64).toInt32))])) _
            refine X0.ldcI hx hown (mvT hZ (hw _ (List.mem_of_getElem? (i := 0) rfl))) rfl (hb hby at_51) ?_
            show Steps p.tables e below (s₁.setTop (mkF m 53 #[.val (.int p0s), .val (.long p1s), .second, .val (.long p2s), .second, .val (.long p3s), .second, .val (.int z34), .val (.int k0), .val (.int k1), .val (.int k2), .unset, .unset, .unset, .unset, .unset, .unset, .unset, .unset, .unset, .unset, .unset, .unset, .unset, .unset, .unset, .unset, .unset, .unset] [(.int (2147483647 : Int32)), (.int (((p1s.toUInt64 >>> ((32 : Int32) &&& 0x3f).toInt64.toUInt64).toInt64).toInt32))])) _
            refine XS.iand X0.here hx rfl (hb hby at_53) rfl ?_
            show Steps p.tables e below (s₁.setTop (mkF m 54 #[.val (.int p0s), .val (.long p1s), .second, .val (.long p2s), .second, .val (.long p3s), .second, .val (.int z34), .val (.int k0), .val (.int k1), .val (.int k2), .unset, .unset, .unset, .unset, .unset, .unset, .unset, .unset, .unset, .unset, .unset, .unset, .unset, .unset, .unset, .unset, .unset, .unset] [(.int ((((p1s.toUInt64 >>> ((32 : Int32) &&& 0x3f).toInt64.toUInt64).toInt64).toInt32) &&& (2147483647 : Int32)))])) _
            refine XS.istore X0.here hx rfl (hb hby at_54) (x := z44) (rest := []) (by subst hz44; rfl) (l' := #[.val (.int p0s), .val (.long p1s), .second, .val (.long p2s), .second, .val (.long p3s), .second, .val (.int z34), .val (.int k0), .val (.int k1), .val (.int k2), .val (.int z44), .unset, .unset, .unset, .unset, .unset, .unset, .unset, .unset, .unset, .unset, .unset, .unset, .unset, .unset, .unset, .unset, .unset]) rfl ?_
            show Steps p.tables e below (s₁.setTop (mkF m 56 #[.val (.int p0s), .val (.long p1s), .second, .val (.long p2s), .second, .val (.long p3s), .second, .val (.int z34), .val (.int k0), .val (.int k1), .val (.int k2), .val (.int z44), .unset, .unset, .unset, .unset, .unset, .unset, .unset, .unset, .unset, .unset, .unset, .unset, .unset, .unset, .unset, .unset, .unset] [])) _
            refine XS.lloadN X0.here hx rfl (hb hby at_56) rfl ?_
            show Steps p.tables e below (s₁.setTop (mkF m 57 #[.val (.int p0s), .val (.long p1s), .second, .val (.long p2s), .second, .val (.long p3s), .second, .val (.int z34), .val (.int k0), .val (.int k1), .val (.int k2), .val (.int z44), .unset, .unset, .unset, .unset, .unset, .unset, .unset, .unset, .unset, .unset, .unset, .unset, .unset, .unset, .unset, .unset, .unset] [(.long p1s)])) _
            refine XS.l2i X0.here hx rfl (hb hby at_57) rfl ?_
            show Steps p.tables e below (s₁.setTop (mkF m 58 #[.val (.int p0s), .val (.long p1s), .second, .val (.long p2s), .second, .val (.long p3s), .second, .val (.int z34), .val (.int k0), .val (.int k1), .val (.int k2), .val (.int z44), .unset, .unset, .unset, .unset, .unset, .unset, .unset, .unset, .unset, .unset, .unset, .unset, .unset, .unset, .unset, .unset, .unset] [(.int (p1s.toInt32))])) _
            refine X0.ldcI hx hown (mvT hZ (hw _ (List.mem_of_getElem? (i := 0) rfl))) rfl (hb hby at_58) ?_
            show Steps p.tables e below (s₁.setTop (mkF m 60 #[.val (.int p0s), .val (.long p1s), .second, .val (.long p2s), .second, .val (.long p3s), .second, .val (.int z34), .val (.int k0), .val (.int k1), .val (.int k2), .val (.int z44), .unset, .unset, .unset, .unset, .unset, .unset, .unset, .unset, .unset, .unset, .unset, .unset, .unset, .unset, .unset, .unset, .unset] [(.int (2147483647 : Int32)), (.int (p1s.toInt32))])) _
            refine XS.iand X0.here hx rfl (hb hby at_60) rfl ?_
            show Steps p.tables e below (s₁.setTop (mkF m 61 #[.val (.int p0s), .val (.long p1s), .second, .val (.long p2s), .second, .val (.long p3s), .second, .val (.int z34), .val (.int k0), .val (.int k1), .val (.int k2), .val (.int z44), .unset, .unset, .unset, .unset, .unset, .unset, .unset, .unset, .unset, .unset, .unset, .unset, .unset, .unset, .unset, .unset, .unset] [(.int ((p1s.toInt32) &&& (2147483647 : Int32)))])) _
            refine XS.istore X0.here hx rfl (hb hby at_61) (x := z45) (rest := []) (by subst hz45; rfl) (l' := #[.val (.int p0s), .val (.long p1s), .second, .val (.long p2s), .second, .val (.long p3s), .second, .val (.int z34), .val (.int k0), .val (.int k1), .val (.int k2), .val (.int z44), .val (.int z45), .unset, .unset, .unset, .unset, .unset, .unset, .unset, .unset, .unset, .unset, .unset, .unset, .unset, .unset, .unset, .unset]) rfl ?_
            show Steps p.tables e below (s₁.setTop (mkF m 63 #[.val (.int p0s), .val (.long p1s), .second, .val (.long p2s), .second, .val (.long p3s), .second, .val (.int z34), .val (.int k0), .val (.int k1), .val (.int k2), .val (.int z44), .val (.int z45), .unset, .unset, .unset, .unset, .unset, .unset, .unset, .unset, .unset, .unset, .unset, .unset, .unset, .unset, .unset, .unset] [])) _
            refine XS.lloadN X0.here hx rfl (hb hby at_63) rfl ?_
            show Steps p.tables e below (s₁.setTop (mkF m 64 #[.val (.int p0s), .val (.long p1s), .second, .val (.long p2s), .second, .val (.long p3s), .second, .val (.int z34), .val (.int k0), .val (.int k1), .val (.int k2), .val (.int z44), .val (.int z45), .unset, .unset, .unset, .unset, .unset, .unset, .unset, .unset, .unset, .unset, .unset, .unset, .unset, .unset, .unset, .unset] [(.long p2s)])) _
            refine XS.bipush X0.here hx rfl (hb hby at_64) ?_
            show Steps p.tables e below (s₁.setTop (mkF m 66 #[.val (.int p0s), .val (.long p1s), .second, .val (.long p2s), .second, .val (.long p3s), .second, .val (.int z34), .val (.int k0), .val (.int k1), .val (.int k2), .val (.int z44), .val (.int z45), .unset, .unset, .unset, .unset, .unset, .unset, .unset, .unset, .unset, .unset, .unset, .unset, .unset, .unset, .unset, .unset] [(.int (32 : Int32)), (.long p2s)])) _
            refine XS.lushr X0.here hx rfl (hb hby at_66) rfl ?_
            show Steps p.tables e below (s₁.setTop (mkF m 67 #[.val (.int p0s), .val (.long p1s), .second, .val (.long p2s), .second, .val (.long p3s), .second, .val (.int z34), .val (.int k0), .val (.int k1), .val (.int k2), .val (.int z44), .val (.int z45), .unset, .unset, .unset, .unset, .unset, .unset, .unset, .unset, .unset, .unset, .unset, .unset, .unset, .unset, .unset, .unset] [(.long ((p2s.toUInt64 >>> ((32 : Int32) &&& 0x3f).toInt64.toUInt64).toInt64))])) _
            refine XS.l2i X0.here hx rfl (hb hby at_67) rfl ?_
            show Steps p.tables e below (s₁.setTop (mkF m 68 #[.val (.int p0s), .val (.long p1s), .second, .val (.long p2s), .second, .val (.long p3s), .second, .val (.int z34), .val (.int k0), .val (.int k1), .val (.int k2), .val (.int z44), .val (.int z45), .unset, .unset, .unset, .unset, .unset, .unset, .unset, .unset, .unset, .unset, .unset, .unset, .unset, .unset, .unset, .unset] [(.int (((p2s.toUInt64 >>> ((32 : Int32) &&& 0x3f).toInt64.toUInt64).toInt64).toInt32))])) _
            refine X0.ldcI hx hown (mvT hZ (hw _ (List.mem_of_getElem? (i := 0) rfl))) rfl (hb hby at_68) ?_
            show Steps p.tables e below (s₁.setTop (mkF m 70 #[.val (.int p0s), .val (.long p1s), .second, .val (.long p2s), .second, .val (.long p3s), .second, .val (.int z34), .val (.int k0), .val (.int k1), .val (.int k2), .val (.int z44), .val (.int z45), .unset, .unset, .unset, .unset, .unset, .unset, .unset, .unset, .unset, .unset, .unset, .unset, .unset, .unset, .unset, .unset] [(.int (2147483647 : Int32)), (.int (((p2s.toUInt64 >>> ((32 : Int32) &&& 0x3f).toInt64.toUInt64).toInt64).toInt32))])) _
            refine XS.iand X0.here hx rfl (hb hby at_70) rfl ?_
            show Steps p.tables e below (s₁.setTop (mkF m 71 #[.val (.int p0s), .val (.long p1s), .second, .val (.long p2s), .second, .val (.long p3s), .second, .val (.int z34), .val (.int k0), .val (.int k1), .val (.int k2), .val (.int z44), .val (.int z45), .unset, .unset, .unset, .unset, .unset, .unset, .unset, .unset, .unset, .unset, .unset, .unset, .unset, .unset, .unset, .unset] [(.int ((((p2s.toUInt64 >>> ((32 : Int32) &&& 0x3f).toInt64.toUInt64).toInt64).toInt32) &&& (2147483647 : Int32)))])) _
            refine XS.istore X0.here hx rfl (hb hby at_71) (x := z46) (rest := []) (by subst hz46; rfl) (l' := #[.val (.int p0s), .val (.long p1s), .second, .val (.long p2s), .second, .val (.long p3s), .second, .val (.int z34), .val (.int k0), .val (.int k1), .val (.int k2), .val (.int z44), .val (.int z45), .val (.int z46), .unset, .unset, .unset, .unset, .unset, .unset, .unset, .unset, .unset, .unset, .unset, .unset, .unset, .unset, .unset]) rfl ?_
            show Steps p.tables e below (s₁.setTop (mkF m 73 #[.val (.int p0s), .val (.long p1s), .second, .val (.long p2s), .second, .val (.long p3s), .second, .val (.int z34), .val (.int k0), .val (.int k1), .val (.int k2), .val (.int z44), .val (.int z45), .val (.int z46), .unset, .unset, .unset, .unset, .unset, .unset, .unset, .unset, .unset, .unset, .unset, .unset, .unset, .unset, .unset] [])) _
            refine XS.lloadN X0.here hx rfl (hb hby at_73) rfl ?_
            show Steps p.tables e below (s₁.setTop (mkF m 74 #[.val (.int p0s), .val (.long p1s), .second, .val (.long p2s), .second, .val (.long p3s), .second, .val (.int z34), .val (.int k0), .val (.int k1), .val (.int k2), .val (.int z44), .val (.int z45), .val (.int z46), .unset, .unset, .unset, .unset, .unset, .unset, .unset, .unset, .unset, .unset, .unset, .unset, .unset, .unset, .unset] [(.long p2s)])) _
            refine XS.l2i X0.here hx rfl (hb hby at_74) rfl ?_
            show Steps p.tables e below (s₁.setTop (mkF m 75 #[.val (.int p0s), .val (.long p1s), .second, .val (.long p2s), .second, .val (.long p3s), .second, .val (.int z34), .val (.int k0), .val (.int k1), .val (.int k2), .val (.int z44), .val (.int z45), .val (.int z46), .unset, .unset, .unset, .unset, .unset, .unset, .unset, .unset, .unset, .unset, .unset, .unset, .unset, .unset, .unset] [(.int (p2s.toInt32))])) _
            refine X0.ldcI hx hown (mvT hZ (hw _ (List.mem_of_getElem? (i := 0) rfl))) rfl (hb hby at_75) ?_
            show Steps p.tables e below (s₁.setTop (mkF m 77 #[.val (.int p0s), .val (.long p1s), .second, .val (.long p2s), .second, .val (.long p3s), .second, .val (.int z34), .val (.int k0), .val (.int k1), .val (.int k2), .val (.int z44), .val (.int z45), .val (.int z46), .unset, .unset, .unset, .unset, .unset, .unset, .unset, .unset, .unset, .unset, .unset, .unset, .unset, .unset, .unset] [(.int (2147483647 : Int32)), (.int (p2s.toInt32))])) _
            refine XS.iand X0.here hx rfl (hb hby at_77) rfl ?_
            show Steps p.tables e below (s₁.setTop (mkF m 78 #[.val (.int p0s), .val (.long p1s), .second, .val (.long p2s), .second, .val (.long p3s), .second, .val (.int z34), .val (.int k0), .val (.int k1), .val (.int k2), .val (.int z44), .val (.int z45), .val (.int z46), .unset, .unset, .unset, .unset, .unset, .unset, .unset, .unset, .unset, .unset, .unset, .unset, .unset, .unset, .unset] [(.int ((p2s.toInt32) &&& (2147483647 : Int32)))])) _
            refine XS.istore X0.here hx rfl (hb hby at_78) (x := z47) (rest := []) (by subst hz47; rfl) (l' := #[.val (.int p0s), .val (.long p1s), .second, .val (.long p2s), .second, .val (.long p3s), .second, .val (.int z34), .val (.int k0), .val (.int k1), .val (.int k2), .val (.int z44), .val (.int z45), .val (.int z46), .val (.int z47), .unset, .unset, .unset, .unset, .unset, .unset, .unset, .unset, .unset, .unset, .unset, .unset, .unset, .unset]) rfl ?_
            show Steps p.tables e below (s₁.setTop (mkF m 80 #[.val (.int p0s), .val (.long p1s), .second, .val (.long p2s), .second, .val (.long p3s), .second, .val (.int z34), .val (.int k0), .val (.int k1), .val (.int k2), .val (.int z44), .val (.int z45), .val (.int z46), .val (.int z47), .unset, .unset, .unset, .unset, .unset, .unset, .unset, .unset, .unset, .unset, .unset, .unset, .unset, .unset] [])) _
            refine XS.lload X0.here hx rfl (hb hby at_80) rfl ?_
            show Steps p.tables e below (s₁.setTop (mkF m 82 #[.val (.int p0s), .val (.long p1s), .second, .val (.long p2s), .second, .val (.long p3s), .second, .val (.int z34), .val (.int k0), .val (.int k1), .val (.int k2), .val (.int z44), .val (.int z45), .val (.int z46), .val (.int z47), .unset, .unset, .unset, .unset, .unset, .unset, .unset, .unset, .unset, .unset, .unset, .unset, .unset, .unset] [(.long p3s)])) _
            refine XS.bipush X0.here hx rfl (hb hby at_82) ?_
            show Steps p.tables e below (s₁.setTop (mkF m 84 #[.val (.int p0s), .val (.long p1s), .second, .val (.long p2s), .second, .val (.long p3s), .second, .val (.int z34), .val (.int k0), .val (.int k1), .val (.int k2), .val (.int z44), .val (.int z45), .val (.int z46), .val (.int z47), .unset, .unset, .unset, .unset, .unset, .unset, .unset, .unset, .unset, .unset, .unset, .unset, .unset, .unset] [(.int (32 : Int32)), (.long p3s)])) _
            refine XS.lushr X0.here hx rfl (hb hby at_84) rfl ?_
            show Steps p.tables e below (s₁.setTop (mkF m 85 #[.val (.int p0s), .val (.long p1s), .second, .val (.long p2s), .second, .val (.long p3s), .second, .val (.int z34), .val (.int k0), .val (.int k1), .val (.int k2), .val (.int z44), .val (.int z45), .val (.int z46), .val (.int z47), .unset, .unset, .unset, .unset, .unset, .unset, .unset, .unset, .unset, .unset, .unset, .unset, .unset, .unset] [(.long ((p3s.toUInt64 >>> ((32 : Int32) &&& 0x3f).toInt64.toUInt64).toInt64))])) _
            refine XS.l2i X0.here hx rfl (hb hby at_85) rfl ?_
            show Steps p.tables e below (s₁.setTop (mkF m 86 #[.val (.int p0s), .val (.long p1s), .second, .val (.long p2s), .second, .val (.long p3s), .second, .val (.int z34), .val (.int k0), .val (.int k1), .val (.int k2), .val (.int z44), .val (.int z45), .val (.int z46), .val (.int z47), .unset, .unset, .unset, .unset, .unset, .unset, .unset, .unset, .unset, .unset, .unset, .unset, .unset, .unset] [(.int (((p3s.toUInt64 >>> ((32 : Int32) &&& 0x3f).toInt64.toUInt64).toInt64).toInt32))])) _
            refine X0.ldcI hx hown (mvT hZ (hw _ (List.mem_of_getElem? (i := 0) rfl))) rfl (hb hby at_86) ?_
            show Steps p.tables e below (s₁.setTop (mkF m 88 #[.val (.int p0s), .val (.long p1s), .second, .val (.long p2s), .second, .val (.long p3s), .second, .val (.int z34), .val (.int k0), .val (.int k1), .val (.int k2), .val (.int z44), .val (.int z45), .val (.int z46), .val (.int z47), .unset, .unset, .unset, .unset, .unset, .unset, .unset, .unset, .unset, .unset, .unset, .unset, .unset, .unset] [(.int (2147483647 : Int32)), (.int (((p3s.toUInt64 >>> ((32 : Int32) &&& 0x3f).toInt64.toUInt64).toInt64).toInt32))])) _
            refine XS.iand X0.here hx rfl (hb hby at_88) rfl ?_
            show Steps p.tables e below (s₁.setTop (mkF m 89 #[.val (.int p0s), .val (.long p1s), .second, .val (.long p2s), .second, .val (.long p3s), .second, .val (.int z34), .val (.int k0), .val (.int k1), .val (.int k2), .val (.int z44), .val (.int z45), .val (.int z46), .val (.int z47), .unset, .unset, .unset, .unset, .unset, .unset, .unset, .unset, .unset, .unset, .unset, .unset, .unset, .unset] [(.int ((((p3s.toUInt64 >>> ((32 : Int32) &&& 0x3f).toInt64.toUInt64).toInt64).toInt32) &&& (2147483647 : Int32)))])) _
            refine XS.istore X0.here hx rfl (hb hby at_89) (x := z48) (rest := []) (by subst hz48; rfl) (l' := #[.val (.int p0s), .val (.long p1s), .second, .val (.long p2s), .second, .val (.long p3s), .second, .val (.int z34), .val (.int k0), .val (.int k1), .val (.int k2), .val (.int z44), .val (.int z45), .val (.int z46), .val (.int z47), .val (.int z48), .unset, .unset, .unset, .unset, .unset, .unset, .unset, .unset, .unset, .unset, .unset, .unset, .unset]) rfl ?_
            show Steps p.tables e below (s₁.setTop (mkF m 91 #[.val (.int p0s), .val (.long p1s), .second, .val (.long p2s), .second, .val (.long p3s), .second, .val (.int z34), .val (.int k0), .val (.int k1), .val (.int k2), .val (.int z44), .val (.int z45), .val (.int z46), .val (.int z47), .val (.int z48), .unset, .unset, .unset, .unset, .unset, .unset, .unset, .unset, .unset, .unset, .unset, .unset, .unset] [])) _
            refine XS.lload X0.here hx rfl (hb hby at_91) rfl ?_
            show Steps p.tables e below (s₁.setTop (mkF m 93 #[.val (.int p0s), .val (.long p1s), .second, .val (.long p2s), .second, .val (.long p3s), .second, .val (.int z34), .val (.int k0), .val (.int k1), .val (.int k2), .val (.int z44), .val (.int z45), .val (.int z46), .val (.int z47), .val (.int z48), .unset, .unset, .unset, .unset, .unset, .unset, .unset, .unset, .unset, .unset, .unset, .unset, .unset] [(.long p3s)])) _
            refine XS.l2i X0.here hx rfl (hb hby at_93) rfl ?_
            show Steps p.tables e below (s₁.setTop (mkF m 94 #[.val (.int p0s), .val (.long p1s), .second, .val (.long p2s), .second, .val (.long p3s), .second, .val (.int z34), .val (.int k0), .val (.int k1), .val (.int k2), .val (.int z44), .val (.int z45), .val (.int z46), .val (.int z47), .val (.int z48), .unset, .unset, .unset, .unset, .unset, .unset, .unset, .unset, .unset, .unset, .unset, .unset, .unset] [(.int (p3s.toInt32))])) _
            refine X0.ldcI hx hown (mvT hZ (hw _ (List.mem_of_getElem? (i := 0) rfl))) rfl (hb hby at_94) ?_
            show Steps p.tables e below (s₁.setTop (mkF m 96 #[.val (.int p0s), .val (.long p1s), .second, .val (.long p2s), .second, .val (.long p3s), .second, .val (.int z34), .val (.int k0), .val (.int k1), .val (.int k2), .val (.int z44), .val (.int z45), .val (.int z46), .val (.int z47), .val (.int z48), .unset, .unset, .unset, .unset, .unset, .unset, .unset, .unset, .unset, .unset, .unset, .unset, .unset] [(.int (2147483647 : Int32)), (.int (p3s.toInt32))])) _
            refine XS.iand X0.here hx rfl (hb hby at_96) rfl ?_
            show Steps p.tables e below (s₁.setTop (mkF m 97 #[.val (.int p0s), .val (.long p1s), .second, .val (.long p2s), .second, .val (.long p3s), .second, .val (.int z34), .val (.int k0), .val (.int k1), .val (.int k2), .val (.int z44), .val (.int z45), .val (.int z46), .val (.int z47), .val (.int z48), .unset, .unset, .unset, .unset, .unset, .unset, .unset, .unset, .unset, .unset, .unset, .unset, .unset] [(.int ((p3s.toInt32) &&& (2147483647 : Int32)))])) _
            refine XS.istore X0.here hx rfl (hb hby at_97) (x := z49) (rest := []) (by subst hz49; rfl) (l' := #[.val (.int p0s), .val (.long p1s), .second, .val (.long p2s), .second, .val (.long p3s), .second, .val (.int z34), .val (.int k0), .val (.int k1), .val (.int k2), .val (.int z44), .val (.int z45), .val (.int z46), .val (.int z47), .val (.int z48), .val (.int z49), .unset, .unset, .unset, .unset, .unset, .unset, .unset, .unset, .unset, .unset, .unset, .unset]) rfl ?_
            exact kg_
          have hnn11 : 0 ≤ z44.toInt := (by
                        have q981_r := own_R64 p1s
                        have q982_e : (32 : Int32).toInt = 32 := (by decide)
                        have q982_r : (32 : Int) ≤ (32 : Int32).toInt ∧ (32 : Int32).toInt ≤ 32 := ⟨Int.le_of_eq q982_e.symm, Int.le_of_eq q982_e⟩
                        have q983_r := own_R64 ((p1s.toUInt64 >>> ((32 : Int32) &&& 0x3f).toInt64.toUInt64).toInt64)
                        have q984_ := own_lushr p1s (32 : Int32) 32 4294967296 (by decide) (by decide) (by decide)
                        have q985_r := own_R32 (((p1s.toUInt64 >>> ((32 : Int32) &&& 0x3f).toInt64.toUInt64).toInt64).toInt32)
                        have q986_ := c_l2i ((p1s.toUInt64 >>> ((32 : Int32) &&& 0x3f).toInt64.toUInt64).toInt64)
                        have q987_e : (2147483647 : Int32).toInt = 2147483647 := (by decide)
                        have q987_r : (2147483647 : Int) ≤ (2147483647 : Int32).toInt ∧ (2147483647 : Int32).toInt ≤ 2147483647 := ⟨Int.le_of_eq q987_e.symm, Int.le_of_eq q987_e⟩
                        have q988_ := own_maskR (((p1s.toUInt64 >>> ((32 : Int32) &&& 0x3f).toInt64.toUInt64).toInt64).toInt32) (2147483647 : Int32) 31 2147483648 (by decide) (by decide) (by decide) 2147483647 (by decide) (by decide)
                        have q988_e := q988_.1
                        have q988_r := q988_.2
                        have q989_ := own_eqR32 hz44 q988_r
                        have q989_e := q989_.1
                        have q989_r := q989_.2
                        omega)
          have hnn12 : 0 ≤ z45.toInt := (by
                        have q990_r := own_R64 p1s
                        have q991_r := own_R32 (p1s.toInt32)
                        have q992_ := c_l2i p1s
                        have q993_e : (2147483647 : Int32).toInt = 2147483647 := (by decide)
                        have q993_r : (2147483647 : Int) ≤ (2147483647 : Int32).toInt ∧ (2147483647 : Int32).toInt ≤ 2147483647 := ⟨Int.le_of_eq q993_e.symm, Int.le_of_eq q993_e⟩
                        have q994_ := own_maskR (p1s.toInt32) (2147483647 : Int32) 31 2147483648 (by decide) (by decide) (by decide) 2147483647 (by decide) (by decide)
                        have q994_e := q994_.1
                        have q994_r := q994_.2
                        have q995_ := own_eqR32 hz45 q994_r
                        have q995_e := q995_.1
                        have q995_r := q995_.2
                        omega)
          have hnn13 : 0 ≤ z46.toInt := (by
                        have q996_r := own_R64 p2s
                        have q997_e : (32 : Int32).toInt = 32 := (by decide)
                        have q997_r : (32 : Int) ≤ (32 : Int32).toInt ∧ (32 : Int32).toInt ≤ 32 := ⟨Int.le_of_eq q997_e.symm, Int.le_of_eq q997_e⟩
                        have q998_r := own_R64 ((p2s.toUInt64 >>> ((32 : Int32) &&& 0x3f).toInt64.toUInt64).toInt64)
                        have q999_ := own_lushr p2s (32 : Int32) 32 4294967296 (by decide) (by decide) (by decide)
                        have q1000_r := own_R32 (((p2s.toUInt64 >>> ((32 : Int32) &&& 0x3f).toInt64.toUInt64).toInt64).toInt32)
                        have q1001_ := c_l2i ((p2s.toUInt64 >>> ((32 : Int32) &&& 0x3f).toInt64.toUInt64).toInt64)
                        have q1002_e : (2147483647 : Int32).toInt = 2147483647 := (by decide)
                        have q1002_r : (2147483647 : Int) ≤ (2147483647 : Int32).toInt ∧ (2147483647 : Int32).toInt ≤ 2147483647 := ⟨Int.le_of_eq q1002_e.symm, Int.le_of_eq q1002_e⟩
                        have q1003_ := own_maskR (((p2s.toUInt64 >>> ((32 : Int32) &&& 0x3f).toInt64.toUInt64).toInt64).toInt32) (2147483647 : Int32) 31 2147483648 (by decide) (by decide) (by decide) 2147483647 (by decide) (by decide)
                        have q1003_e := q1003_.1
                        have q1003_r := q1003_.2
                        have q1004_ := own_eqR32 hz46 q1003_r
                        have q1004_e := q1004_.1
                        have q1004_r := q1004_.2
                        omega)
          have hnn14 : 0 ≤ z47.toInt := (by
                        have q1005_r := own_R64 p2s
                        have q1006_r := own_R32 (p2s.toInt32)
                        have q1007_ := c_l2i p2s
                        have q1008_e : (2147483647 : Int32).toInt = 2147483647 := (by decide)
                        have q1008_r : (2147483647 : Int) ≤ (2147483647 : Int32).toInt ∧ (2147483647 : Int32).toInt ≤ 2147483647 := ⟨Int.le_of_eq q1008_e.symm, Int.le_of_eq q1008_e⟩
                        have q1009_ := own_maskR (p2s.toInt32) (2147483647 : Int32) 31 2147483648 (by decide) (by decide) (by decide) 2147483647 (by decide) (by decide)
                        have q1009_e := q1009_.1
                        have q1009_r := q1009_.2
                        have q1010_ := own_eqR32 hz47 q1009_r
                        have q1010_e := q1010_.1
                        have q1010_r := q1010_.2
                        omega)
          have hnn15 : 0 ≤ z48.toInt := (by
                        have q1011_r := own_R64 p3s
                        have q1012_e : (32 : Int32).toInt = 32 := (by decide)
                        have q1012_r : (32 : Int) ≤ (32 : Int32).toInt ∧ (32 : Int32).toInt ≤ 32 := ⟨Int.le_of_eq q1012_e.symm, Int.le_of_eq q1012_e⟩
                        have q1013_r := own_R64 ((p3s.toUInt64 >>> ((32 : Int32) &&& 0x3f).toInt64.toUInt64).toInt64)
                        have q1014_ := own_lushr p3s (32 : Int32) 32 4294967296 (by decide) (by decide) (by decide)
                        have q1015_r := own_R32 (((p3s.toUInt64 >>> ((32 : Int32) &&& 0x3f).toInt64.toUInt64).toInt64).toInt32)
                        have q1016_ := c_l2i ((p3s.toUInt64 >>> ((32 : Int32) &&& 0x3f).toInt64.toUInt64).toInt64)
                        have q1017_e : (2147483647 : Int32).toInt = 2147483647 := (by decide)
                        have q1017_r : (2147483647 : Int) ≤ (2147483647 : Int32).toInt ∧ (2147483647 : Int32).toInt ≤ 2147483647 := ⟨Int.le_of_eq q1017_e.symm, Int.le_of_eq q1017_e⟩
                        have q1018_ := own_maskR (((p3s.toUInt64 >>> ((32 : Int32) &&& 0x3f).toInt64.toUInt64).toInt64).toInt32) (2147483647 : Int32) 31 2147483648 (by decide) (by decide) (by decide) 2147483647 (by decide) (by decide)
                        have q1018_e := q1018_.1
                        have q1018_r := q1018_.2
                        have q1019_ := own_eqR32 hz48 q1018_r
                        have q1019_e := q1019_.1
                        have q1019_r := q1019_.2
                        omega)
          have hnn16 : 0 ≤ z49.toInt := (by
                        have q1020_r := own_R64 p3s
                        have q1021_r := own_R32 (p3s.toInt32)
                        have q1022_ := c_l2i p3s
                        have q1023_e : (2147483647 : Int32).toInt = 2147483647 := (by decide)
                        have q1023_r : (2147483647 : Int) ≤ (2147483647 : Int32).toInt ∧ (2147483647 : Int32).toInt ≤ 2147483647 := ⟨Int.le_of_eq q1023_e.symm, Int.le_of_eq q1023_e⟩
                        have q1024_ := own_maskR (p3s.toInt32) (2147483647 : Int32) 31 2147483648 (by decide) (by decide) (by decide) 2147483647 (by decide) (by decide)
                        have q1024_e := q1024_.1
                        have q1024_r := q1024_.2
                        have q1025_ := own_eqR32 hz49 q1024_r
                        have q1025_e := q1025_.1
                        have q1025_r := q1025_.2
                        omega)
          have hn4 : z34 = 0 ∨ z34 = 1 ∨ z34 = 2 ∨ z34 = 3 := by
            have q1026_r := own_R32 p0s
            have q1027_e : (3 : Int32).toInt = 3 := (by decide)
            have q1027_r : (3 : Int) ≤ (3 : Int32).toInt ∧ (3 : Int32).toInt ≤ 3 := ⟨Int.le_of_eq q1027_e.symm, Int.le_of_eq q1027_e⟩
            have q1028_ := own_maskR p0s (3 : Int32) 2 4 (by decide) (by decide) (by decide) 3 (by decide) (by decide)
            have q1028_e := q1028_.1
            have q1028_r := q1028_.2
            have q1029_ := own_eqR32 hz34 q1028_r
            have q1029_e := q1029_.1
            have q1029_r := q1029_.2
            have h0 : (0 : Int32).toInt = 0 := rfl
            have h1 : (1 : Int32).toInt = 1 := rfl
            have h2 : (2 : Int32).toInt = 2 := rfl
            have h3 : (3 : Int32).toInt = 3 := rfl
            simp only [← Int32.toInt_inj, h0, h1, h2, h3]
            omega
          have J51 : ∀ (nn : Int32) (aS : Addr) (aC : Addr) (aK : Addr) (N : Nat) (gs : Nat → Int32) (gc : Nat → Int32) (gk : Nat → Int32) (T52 : State) (lo59 : List Loc) (h54 : Heap) (X53 : Stand p l e room_1 s m #[(.int p0s), (.long p1s), (.long p2s), (.long p3s)] below meth c T52 lo59 3 9) (e55 : T52.heap = h54) (N56 : Fr n0 lo59) (Zs57 : n0 ≤ h54.size) (K58 : Keep h0 h54 []) (F60 : own_Arf Z h54 aS .int N (fun i => (.int (gs i)))) (F61 : own_Arf Z h54 aC .int N (fun i => (.int (gc i)))) (F62 : own_Arf Z h54 aK .boolean N (fun i => (.int (gk i)))) (hNN : nn.toInt = N) (hN3 : N ≤ 3) (hv : (0 < N → gs 0 = z44 ∧ gc 0 = z45 ∧ (gk 0).toInt = k0.toInt) ∧ (1 < N → gs 1 = z46 ∧ gc 1 = z47 ∧ (gk 1).toInt = k1.toInt) ∧ (2 < N → gs 2 = z48 ∧ gc 2 = z49 ∧ (gk 2).toInt = k2.toInt)) (r63 : own_R p.tables e below F0 (T52.setTop (mkF m 188 #[.val (.int p0s), .val (.long p1s), .second, .val (.long p2s), .second, .val (.long p3s), .second, .val (.int nn), .val (.int k0), .val (.int k1), .val (.int k2), .val (.int z44), .val (.int z45), .val (.int z46), .val (.int z47), .val (.int z48), .val (.int z49), .val (.ref aS), .val (.ref aC), .val (.ref aK), .unset, .unset, .unset, .unset, .unset, .unset, .unset, .unset, .unset] []))), G := by
            intro nn aS aC aK N gs gc gk T52 lo59 h54 X53 e55 N56 Zs57 K58 F60 F61 F62 hNN hN3 hv r63
            have r64 : own_R p.tables e below F0 (T52.setTop (mkF m 197 #[.val (.int p0s), .val (.long p1s), .second, .val (.long p2s), .second, .val (.long p3s), .second, .val (.int nn), .val (.int k0), .val (.int k1), .val (.int k2), .val (.int z44), .val (.int z45), .val (.int z46), .val (.int z47), .val (.int z48), .val (.int z49), .val (.ref aS), .val (.ref aC), .val (.ref aK), .unset, .unset, .unset, .unset, .unset, .unset, .unset, .unset, .unset] [(.int z45), (.int z44), (.int k0), (.int nn), (.int (0 : Int32))])) := fun tg_ kg_ => by
              refine r63 tg_ ?_
              show Steps p.tables e below (T52.setTop (mkF m 188 #[.val (.int p0s), .val (.long p1s), .second, .val (.long p2s), .second, .val (.long p3s), .second, .val (.int nn), .val (.int k0), .val (.int k1), .val (.int k2), .val (.int z44), .val (.int z45), .val (.int z46), .val (.int z47), .val (.int z48), .val (.int z49), .val (.ref aS), .val (.ref aC), .val (.ref aK), .unset, .unset, .unset, .unset, .unset, .unset, .unset, .unset, .unset] [])) _
              refine XS.iconst X53.here hx rfl (hb hby at_188) ?_
              show Steps p.tables e below (T52.setTop (mkF m 189 #[.val (.int p0s), .val (.long p1s), .second, .val (.long p2s), .second, .val (.long p3s), .second, .val (.int nn), .val (.int k0), .val (.int k1), .val (.int k2), .val (.int z44), .val (.int z45), .val (.int z46), .val (.int z47), .val (.int z48), .val (.int z49), .val (.ref aS), .val (.ref aC), .val (.ref aK), .unset, .unset, .unset, .unset, .unset, .unset, .unset, .unset, .unset] [(.int (0 : Int32))])) _
              refine XS.iload X53.here hx rfl (hb hby at_189) rfl ?_
              show Steps p.tables e below (T52.setTop (mkF m 191 #[.val (.int p0s), .val (.long p1s), .second, .val (.long p2s), .second, .val (.long p3s), .second, .val (.int nn), .val (.int k0), .val (.int k1), .val (.int k2), .val (.int z44), .val (.int z45), .val (.int z46), .val (.int z47), .val (.int z48), .val (.int z49), .val (.ref aS), .val (.ref aC), .val (.ref aK), .unset, .unset, .unset, .unset, .unset, .unset, .unset, .unset, .unset] [(.int nn), (.int (0 : Int32))])) _
              refine XS.iload X53.here hx rfl (hb hby at_191) rfl ?_
              show Steps p.tables e below (T52.setTop (mkF m 193 #[.val (.int p0s), .val (.long p1s), .second, .val (.long p2s), .second, .val (.long p3s), .second, .val (.int nn), .val (.int k0), .val (.int k1), .val (.int k2), .val (.int z44), .val (.int z45), .val (.int z46), .val (.int z47), .val (.int z48), .val (.int z49), .val (.ref aS), .val (.ref aC), .val (.ref aK), .unset, .unset, .unset, .unset, .unset, .unset, .unset, .unset, .unset] [(.int k0), (.int nn), (.int (0 : Int32))])) _
              refine XS.iload X53.here hx rfl (hb hby at_193) rfl ?_
              show Steps p.tables e below (T52.setTop (mkF m 195 #[.val (.int p0s), .val (.long p1s), .second, .val (.long p2s), .second, .val (.long p3s), .second, .val (.int nn), .val (.int k0), .val (.int k1), .val (.int k2), .val (.int z44), .val (.int z45), .val (.int z46), .val (.int z47), .val (.int z48), .val (.int z49), .val (.ref aS), .val (.ref aC), .val (.ref aK), .unset, .unset, .unset, .unset, .unset, .unset, .unset, .unset, .unset] [(.int z44), (.int k0), (.int nn), (.int (0 : Int32))])) _
              refine XS.iload X53.here hx rfl (hb hby at_195) rfl ?_
              exact kg_
            obtain ⟨_, _, ⟨T65, L65, k65, n65⟩, -, X65, ⟨Lc65, hQ65, l65, y65, z65⟩, st65⟩ := Jvm.LawKit.callS X53 hx (y := (⟨"org/fractile/core/RefinementMostAbovePinLaw", "excess", "(IIZII)J"⟩ : MethodName)) hown (mvT hZ (hw _ (List.mem_of_getElem? (i := 3) rfl))) (mvT hZ (hw _ (List.mem_of_getElem? (i := 4) rfl))) (mvT hZ (hw _ (List.mem_of_getElem? (i := 5) rfl))) (mvT hZ (hw _ (List.mem_of_getElem? (i := 6) rfl))) (by decide) (backOf (W := 0) (rm1 l Z a0 hw [] (0 : Int32) nn k0 z44 z45 h54 n0 Zs57 ) hZ (hw _ (List.mem_of_getElem? (i := 6) rfl)) (hw _ (List.mem_of_getElem? (i := 5) rfl)) (by decide) (by decide)) (g := (mkF m 197 #[.val (.int p0s), .val (.long p1s), .second, .val (.long p2s), .second, .val (.long p3s), .second, .val (.int nn), .val (.int k0), .val (.int k1), .val (.int k2), .val (.int z44), .val (.int z45), .val (.int z46), .val (.int z47), .val (.int z48), .val (.int z49), .val (.ref aS), .val (.ref aC), .val (.ref aK), .unset, .unset, .unset, .unset, .unset, .unset, .unset, .unset, .unset] [(.int z45), (.int z44), (.int k0), (.int nn), (.int (0 : Int32))])) rfl (by rw [hml]; rfl) (argsL := [(.int (0 : Int32)), (.int nn), (.int k0), (.int z44), (.int z45)]) (rest := []) (lenOf pd_0 rfl) rfl (by show 2 * 0 + _ ≤ _; exact Nat.le_of_eq rfl) (hb hby at_197) (fun _ _ => ⟨rfl, e55, (by decide : 3 + 0 ≤ _), (by decide : 9 + 0 ≤ _)⟩)
            dsimp only [Pt.U, Pt.locs, Pt.cells, Pt.slots] at X65 l65 y65 z65 st65 hQ65
            subst l65 y65 z65
            obtain ⟨rfl, N65q, I65_0⟩ := hQ65
            have N65 := Fr.app N56 N65q
            have r65 : own_R p.tables e below F0 (T65.setTop (mkF m 200 #[.val (.int p0s), .val (.long p1s), .second, .val (.long p2s), .second, .val (.long p3s), .second, .val (.int nn), .val (.int k0), .val (.int k1), .val (.int k2), .val (.int z44), .val (.int z45), .val (.int z46), .val (.int z47), .val (.int z48), .val (.int z49), .val (.ref aS), .val (.ref aC), .val (.ref aK), .unset, .unset, .unset, .unset, .unset, .unset, .unset, .unset, .unset] [(.long (own_exc (0 : Int32) nn k0 z44 z45))])) := fun tg_ kg_ => r64 tg_ (st65 tg_ kg_)
            obtain ⟨z66, hz66⟩ : ∃ z : Int64, z = (own_exc (0 : Int32) nn k0 z44 z45) := ⟨_, rfl⟩
            have r67 : own_R p.tables e below F0 (T65.setTop (mkF m 211 #[.val (.int p0s), .val (.long p1s), .second, .val (.long p2s), .second, .val (.long p3s), .second, .val (.int nn), .val (.int k0), .val (.int k1), .val (.int k2), .val (.int z44), .val (.int z45), .val (.int z46), .val (.int z47), .val (.int z48), .val (.int z49), .val (.ref aS), .val (.ref aC), .val (.ref aK), .val (.long z66), .second, .unset, .unset, .unset, .unset, .unset, .unset, .unset] [(.int z47), (.int z46), (.int k1), (.int nn), (.int (1 : Int32))])) := fun tg_ kg_ => by
              refine r65 tg_ ?_
              show Steps p.tables e below (T65.setTop (mkF m 200 #[.val (.int p0s), .val (.long p1s), .second, .val (.long p2s), .second, .val (.long p3s), .second, .val (.int nn), .val (.int k0), .val (.int k1), .val (.int k2), .val (.int z44), .val (.int z45), .val (.int z46), .val (.int z47), .val (.int z48), .val (.int z49), .val (.ref aS), .val (.ref aC), .val (.ref aK), .unset, .unset, .unset, .unset, .unset, .unset, .unset, .unset, .unset] [(.long (own_exc (0 : Int32) nn k0 z44 z45))])) _
              refine XS.lstore X65.here hx rfl (hb hby at_200) (x := z66) (rest := []) (by subst hz66; rfl) (l' := #[.val (.int p0s), .val (.long p1s), .second, .val (.long p2s), .second, .val (.long p3s), .second, .val (.int nn), .val (.int k0), .val (.int k1), .val (.int k2), .val (.int z44), .val (.int z45), .val (.int z46), .val (.int z47), .val (.int z48), .val (.int z49), .val (.ref aS), .val (.ref aC), .val (.ref aK), .val (.long z66), .second, .unset, .unset, .unset, .unset, .unset, .unset, .unset]) rfl ?_
              show Steps p.tables e below (T65.setTop (mkF m 202 #[.val (.int p0s), .val (.long p1s), .second, .val (.long p2s), .second, .val (.long p3s), .second, .val (.int nn), .val (.int k0), .val (.int k1), .val (.int k2), .val (.int z44), .val (.int z45), .val (.int z46), .val (.int z47), .val (.int z48), .val (.int z49), .val (.ref aS), .val (.ref aC), .val (.ref aK), .val (.long z66), .second, .unset, .unset, .unset, .unset, .unset, .unset, .unset] [])) _
              refine XS.iconst X65.here hx rfl (hb hby at_202) ?_
              show Steps p.tables e below (T65.setTop (mkF m 203 #[.val (.int p0s), .val (.long p1s), .second, .val (.long p2s), .second, .val (.long p3s), .second, .val (.int nn), .val (.int k0), .val (.int k1), .val (.int k2), .val (.int z44), .val (.int z45), .val (.int z46), .val (.int z47), .val (.int z48), .val (.int z49), .val (.ref aS), .val (.ref aC), .val (.ref aK), .val (.long z66), .second, .unset, .unset, .unset, .unset, .unset, .unset, .unset] [(.int (1 : Int32))])) _
              refine XS.iload X65.here hx rfl (hb hby at_203) rfl ?_
              show Steps p.tables e below (T65.setTop (mkF m 205 #[.val (.int p0s), .val (.long p1s), .second, .val (.long p2s), .second, .val (.long p3s), .second, .val (.int nn), .val (.int k0), .val (.int k1), .val (.int k2), .val (.int z44), .val (.int z45), .val (.int z46), .val (.int z47), .val (.int z48), .val (.int z49), .val (.ref aS), .val (.ref aC), .val (.ref aK), .val (.long z66), .second, .unset, .unset, .unset, .unset, .unset, .unset, .unset] [(.int nn), (.int (1 : Int32))])) _
              refine XS.iload X65.here hx rfl (hb hby at_205) rfl ?_
              show Steps p.tables e below (T65.setTop (mkF m 207 #[.val (.int p0s), .val (.long p1s), .second, .val (.long p2s), .second, .val (.long p3s), .second, .val (.int nn), .val (.int k0), .val (.int k1), .val (.int k2), .val (.int z44), .val (.int z45), .val (.int z46), .val (.int z47), .val (.int z48), .val (.int z49), .val (.ref aS), .val (.ref aC), .val (.ref aK), .val (.long z66), .second, .unset, .unset, .unset, .unset, .unset, .unset, .unset] [(.int k1), (.int nn), (.int (1 : Int32))])) _
              refine XS.iload X65.here hx rfl (hb hby at_207) rfl ?_
              show Steps p.tables e below (T65.setTop (mkF m 209 #[.val (.int p0s), .val (.long p1s), .second, .val (.long p2s), .second, .val (.long p3s), .second, .val (.int nn), .val (.int k0), .val (.int k1), .val (.int k2), .val (.int z44), .val (.int z45), .val (.int z46), .val (.int z47), .val (.int z48), .val (.int z49), .val (.ref aS), .val (.ref aC), .val (.ref aK), .val (.long z66), .second, .unset, .unset, .unset, .unset, .unset, .unset, .unset] [(.int z46), (.int k1), (.int nn), (.int (1 : Int32))])) _
              refine XS.iload X65.here hx rfl (hb hby at_209) rfl ?_
              exact kg_
            obtain ⟨_, _, ⟨T68, L68, k68, n68⟩, -, X68, ⟨Lc68, hQ68, l68, y68, z68⟩, st68⟩ := Jvm.LawKit.callS X65 hx (y := (⟨"org/fractile/core/RefinementMostAbovePinLaw", "excess", "(IIZII)J"⟩ : MethodName)) hown (mvT hZ (hw _ (List.mem_of_getElem? (i := 3) rfl))) (mvT hZ (hw _ (List.mem_of_getElem? (i := 4) rfl))) (mvT hZ (hw _ (List.mem_of_getElem? (i := 5) rfl))) (mvT hZ (hw _ (List.mem_of_getElem? (i := 6) rfl))) (by decide) (backOf (W := 0) (rm1 l Z a0 hw [] (1 : Int32) nn k1 z46 z47 h54 n0 Zs57 ) hZ (hw _ (List.mem_of_getElem? (i := 6) rfl)) (hw _ (List.mem_of_getElem? (i := 5) rfl)) (by decide) (by decide)) (g := (mkF m 211 #[.val (.int p0s), .val (.long p1s), .second, .val (.long p2s), .second, .val (.long p3s), .second, .val (.int nn), .val (.int k0), .val (.int k1), .val (.int k2), .val (.int z44), .val (.int z45), .val (.int z46), .val (.int z47), .val (.int z48), .val (.int z49), .val (.ref aS), .val (.ref aC), .val (.ref aK), .val (.long z66), .second, .unset, .unset, .unset, .unset, .unset, .unset, .unset] [(.int z47), (.int z46), (.int k1), (.int nn), (.int (1 : Int32))])) rfl (by rw [hml]; rfl) (argsL := [(.int (1 : Int32)), (.int nn), (.int k1), (.int z46), (.int z47)]) (rest := []) (lenOf pd_0 rfl) rfl (by show 2 * 0 + _ ≤ _; exact Nat.le_of_eq rfl) (hb hby at_211) (fun _ _ => ⟨rfl, I65_0, (by decide : 3 + 0 ≤ _), (by decide : 9 + 0 ≤ _)⟩)
            dsimp only [Pt.U, Pt.locs, Pt.cells, Pt.slots] at X68 l68 y68 z68 st68 hQ68
            subst l68 y68 z68
            obtain ⟨rfl, N68q, I68_0⟩ := hQ68
            have N68 := Fr.app N65 N68q
            have r68 : own_R p.tables e below F0 (T68.setTop (mkF m 214 #[.val (.int p0s), .val (.long p1s), .second, .val (.long p2s), .second, .val (.long p3s), .second, .val (.int nn), .val (.int k0), .val (.int k1), .val (.int k2), .val (.int z44), .val (.int z45), .val (.int z46), .val (.int z47), .val (.int z48), .val (.int z49), .val (.ref aS), .val (.ref aC), .val (.ref aK), .val (.long z66), .second, .unset, .unset, .unset, .unset, .unset, .unset, .unset] [(.long (own_exc (1 : Int32) nn k1 z46 z47))])) := fun tg_ kg_ => r67 tg_ (st68 tg_ kg_)
            obtain ⟨z69, hz69⟩ : ∃ z : Int64, z = (own_exc (1 : Int32) nn k1 z46 z47) := ⟨_, rfl⟩
            have r70 : own_R p.tables e below F0 (T68.setTop (mkF m 225 #[.val (.int p0s), .val (.long p1s), .second, .val (.long p2s), .second, .val (.long p3s), .second, .val (.int nn), .val (.int k0), .val (.int k1), .val (.int k2), .val (.int z44), .val (.int z45), .val (.int z46), .val (.int z47), .val (.int z48), .val (.int z49), .val (.ref aS), .val (.ref aC), .val (.ref aK), .val (.long z66), .second, .val (.long z69), .second, .unset, .unset, .unset, .unset, .unset] [(.int z49), (.int z48), (.int k2), (.int nn), (.int (2 : Int32))])) := fun tg_ kg_ => by
              refine r68 tg_ ?_
              show Steps p.tables e below (T68.setTop (mkF m 214 #[.val (.int p0s), .val (.long p1s), .second, .val (.long p2s), .second, .val (.long p3s), .second, .val (.int nn), .val (.int k0), .val (.int k1), .val (.int k2), .val (.int z44), .val (.int z45), .val (.int z46), .val (.int z47), .val (.int z48), .val (.int z49), .val (.ref aS), .val (.ref aC), .val (.ref aK), .val (.long z66), .second, .unset, .unset, .unset, .unset, .unset, .unset, .unset] [(.long (own_exc (1 : Int32) nn k1 z46 z47))])) _
              refine XS.lstore X68.here hx rfl (hb hby at_214) (x := z69) (rest := []) (by subst hz69; rfl) (l' := #[.val (.int p0s), .val (.long p1s), .second, .val (.long p2s), .second, .val (.long p3s), .second, .val (.int nn), .val (.int k0), .val (.int k1), .val (.int k2), .val (.int z44), .val (.int z45), .val (.int z46), .val (.int z47), .val (.int z48), .val (.int z49), .val (.ref aS), .val (.ref aC), .val (.ref aK), .val (.long z66), .second, .val (.long z69), .second, .unset, .unset, .unset, .unset, .unset]) rfl ?_
              show Steps p.tables e below (T68.setTop (mkF m 216 #[.val (.int p0s), .val (.long p1s), .second, .val (.long p2s), .second, .val (.long p3s), .second, .val (.int nn), .val (.int k0), .val (.int k1), .val (.int k2), .val (.int z44), .val (.int z45), .val (.int z46), .val (.int z47), .val (.int z48), .val (.int z49), .val (.ref aS), .val (.ref aC), .val (.ref aK), .val (.long z66), .second, .val (.long z69), .second, .unset, .unset, .unset, .unset, .unset] [])) _
              refine XS.iconst X68.here hx rfl (hb hby at_216) ?_
              show Steps p.tables e below (T68.setTop (mkF m 217 #[.val (.int p0s), .val (.long p1s), .second, .val (.long p2s), .second, .val (.long p3s), .second, .val (.int nn), .val (.int k0), .val (.int k1), .val (.int k2), .val (.int z44), .val (.int z45), .val (.int z46), .val (.int z47), .val (.int z48), .val (.int z49), .val (.ref aS), .val (.ref aC), .val (.ref aK), .val (.long z66), .second, .val (.long z69), .second, .unset, .unset, .unset, .unset, .unset] [(.int (2 : Int32))])) _
              refine XS.iload X68.here hx rfl (hb hby at_217) rfl ?_
              show Steps p.tables e below (T68.setTop (mkF m 219 #[.val (.int p0s), .val (.long p1s), .second, .val (.long p2s), .second, .val (.long p3s), .second, .val (.int nn), .val (.int k0), .val (.int k1), .val (.int k2), .val (.int z44), .val (.int z45), .val (.int z46), .val (.int z47), .val (.int z48), .val (.int z49), .val (.ref aS), .val (.ref aC), .val (.ref aK), .val (.long z66), .second, .val (.long z69), .second, .unset, .unset, .unset, .unset, .unset] [(.int nn), (.int (2 : Int32))])) _
              refine XS.iload X68.here hx rfl (hb hby at_219) rfl ?_
              show Steps p.tables e below (T68.setTop (mkF m 221 #[.val (.int p0s), .val (.long p1s), .second, .val (.long p2s), .second, .val (.long p3s), .second, .val (.int nn), .val (.int k0), .val (.int k1), .val (.int k2), .val (.int z44), .val (.int z45), .val (.int z46), .val (.int z47), .val (.int z48), .val (.int z49), .val (.ref aS), .val (.ref aC), .val (.ref aK), .val (.long z66), .second, .val (.long z69), .second, .unset, .unset, .unset, .unset, .unset] [(.int k2), (.int nn), (.int (2 : Int32))])) _
              refine XS.iload X68.here hx rfl (hb hby at_221) rfl ?_
              show Steps p.tables e below (T68.setTop (mkF m 223 #[.val (.int p0s), .val (.long p1s), .second, .val (.long p2s), .second, .val (.long p3s), .second, .val (.int nn), .val (.int k0), .val (.int k1), .val (.int k2), .val (.int z44), .val (.int z45), .val (.int z46), .val (.int z47), .val (.int z48), .val (.int z49), .val (.ref aS), .val (.ref aC), .val (.ref aK), .val (.long z66), .second, .val (.long z69), .second, .unset, .unset, .unset, .unset, .unset] [(.int z48), (.int k2), (.int nn), (.int (2 : Int32))])) _
              refine XS.iload X68.here hx rfl (hb hby at_223) rfl ?_
              exact kg_
            obtain ⟨_, _, ⟨T71, L71, k71, n71⟩, -, X71, ⟨Lc71, hQ71, l71, y71, z71⟩, st71⟩ := Jvm.LawKit.callS X68 hx (y := (⟨"org/fractile/core/RefinementMostAbovePinLaw", "excess", "(IIZII)J"⟩ : MethodName)) hown (mvT hZ (hw _ (List.mem_of_getElem? (i := 3) rfl))) (mvT hZ (hw _ (List.mem_of_getElem? (i := 4) rfl))) (mvT hZ (hw _ (List.mem_of_getElem? (i := 5) rfl))) (mvT hZ (hw _ (List.mem_of_getElem? (i := 6) rfl))) (by decide) (backOf (W := 0) (rm1 l Z a0 hw [] (2 : Int32) nn k2 z48 z49 h54 n0 Zs57 ) hZ (hw _ (List.mem_of_getElem? (i := 6) rfl)) (hw _ (List.mem_of_getElem? (i := 5) rfl)) (by decide) (by decide)) (g := (mkF m 225 #[.val (.int p0s), .val (.long p1s), .second, .val (.long p2s), .second, .val (.long p3s), .second, .val (.int nn), .val (.int k0), .val (.int k1), .val (.int k2), .val (.int z44), .val (.int z45), .val (.int z46), .val (.int z47), .val (.int z48), .val (.int z49), .val (.ref aS), .val (.ref aC), .val (.ref aK), .val (.long z66), .second, .val (.long z69), .second, .unset, .unset, .unset, .unset, .unset] [(.int z49), (.int z48), (.int k2), (.int nn), (.int (2 : Int32))])) rfl (by rw [hml]; rfl) (argsL := [(.int (2 : Int32)), (.int nn), (.int k2), (.int z48), (.int z49)]) (rest := []) (lenOf pd_0 rfl) rfl (by show 2 * 0 + _ ≤ _; exact Nat.le_of_eq rfl) (hb hby at_225) (fun _ _ => ⟨rfl, I68_0, (by decide : 3 + 0 ≤ _), (by decide : 9 + 0 ≤ _)⟩)
            dsimp only [Pt.U, Pt.locs, Pt.cells, Pt.slots] at X71 l71 y71 z71 st71 hQ71
            subst l71 y71 z71
            obtain ⟨rfl, N71q, I71_0⟩ := hQ71
            have N71 := Fr.app N68 N71q
            have r71 : own_R p.tables e below F0 (T71.setTop (mkF m 228 #[.val (.int p0s), .val (.long p1s), .second, .val (.long p2s), .second, .val (.long p3s), .second, .val (.int nn), .val (.int k0), .val (.int k1), .val (.int k2), .val (.int z44), .val (.int z45), .val (.int z46), .val (.int z47), .val (.int z48), .val (.int z49), .val (.ref aS), .val (.ref aC), .val (.ref aK), .val (.long z66), .second, .val (.long z69), .second, .unset, .unset, .unset, .unset, .unset] [(.long (own_exc (2 : Int32) nn k2 z48 z49))])) := fun tg_ kg_ => r70 tg_ (st71 tg_ kg_)
            obtain ⟨z72, hz72⟩ : ∃ z : Int64, z = (own_exc (2 : Int32) nn k2 z48 z49) := ⟨_, rfl⟩
            have r73 : own_R p.tables e below F0 (T71.setTop (mkF m 236 #[.val (.int p0s), .val (.long p1s), .second, .val (.long p2s), .second, .val (.long p3s), .second, .val (.int nn), .val (.int k0), .val (.int k1), .val (.int k2), .val (.int z44), .val (.int z45), .val (.int z46), .val (.int z47), .val (.int z48), .val (.int z49), .val (.ref aS), .val (.ref aC), .val (.ref aK), .val (.long z66), .second, .val (.long z69), .second, .val (.long z72), .second, .unset, .unset, .unset] [(.ref aK), (.ref aC), (.ref aS)])) := fun tg_ kg_ => by
              refine r71 tg_ ?_
              show Steps p.tables e below (T71.setTop (mkF m 228 #[.val (.int p0s), .val (.long p1s), .second, .val (.long p2s), .second, .val (.long p3s), .second, .val (.int nn), .val (.int k0), .val (.int k1), .val (.int k2), .val (.int z44), .val (.int z45), .val (.int z46), .val (.int z47), .val (.int z48), .val (.int z49), .val (.ref aS), .val (.ref aC), .val (.ref aK), .val (.long z66), .second, .val (.long z69), .second, .unset, .unset, .unset, .unset, .unset] [(.long (own_exc (2 : Int32) nn k2 z48 z49))])) _
              refine XS.lstore X71.here hx rfl (hb hby at_228) (x := z72) (rest := []) (by subst hz72; rfl) (l' := #[.val (.int p0s), .val (.long p1s), .second, .val (.long p2s), .second, .val (.long p3s), .second, .val (.int nn), .val (.int k0), .val (.int k1), .val (.int k2), .val (.int z44), .val (.int z45), .val (.int z46), .val (.int z47), .val (.int z48), .val (.int z49), .val (.ref aS), .val (.ref aC), .val (.ref aK), .val (.long z66), .second, .val (.long z69), .second, .val (.long z72), .second, .unset, .unset, .unset]) rfl ?_
              show Steps p.tables e below (T71.setTop (mkF m 230 #[.val (.int p0s), .val (.long p1s), .second, .val (.long p2s), .second, .val (.long p3s), .second, .val (.int nn), .val (.int k0), .val (.int k1), .val (.int k2), .val (.int z44), .val (.int z45), .val (.int z46), .val (.int z47), .val (.int z48), .val (.int z49), .val (.ref aS), .val (.ref aC), .val (.ref aK), .val (.long z66), .second, .val (.long z69), .second, .val (.long z72), .second, .unset, .unset, .unset] [])) _
              refine XS.aload X71.here hx rfl (hb hby at_230) rfl rfl ?_
              show Steps p.tables e below (T71.setTop (mkF m 232 #[.val (.int p0s), .val (.long p1s), .second, .val (.long p2s), .second, .val (.long p3s), .second, .val (.int nn), .val (.int k0), .val (.int k1), .val (.int k2), .val (.int z44), .val (.int z45), .val (.int z46), .val (.int z47), .val (.int z48), .val (.int z49), .val (.ref aS), .val (.ref aC), .val (.ref aK), .val (.long z66), .second, .val (.long z69), .second, .val (.long z72), .second, .unset, .unset, .unset] [(.ref aS)])) _
              refine XS.aload X71.here hx rfl (hb hby at_232) rfl rfl ?_
              show Steps p.tables e below (T71.setTop (mkF m 234 #[.val (.int p0s), .val (.long p1s), .second, .val (.long p2s), .second, .val (.long p3s), .second, .val (.int nn), .val (.int k0), .val (.int k1), .val (.int k2), .val (.int z44), .val (.int z45), .val (.int z46), .val (.int z47), .val (.int z48), .val (.int z49), .val (.ref aS), .val (.ref aC), .val (.ref aK), .val (.long z66), .second, .val (.long z69), .second, .val (.long z72), .second, .unset, .unset, .unset] [(.ref aC), (.ref aS)])) _
              refine XS.aload X71.here hx rfl (hb hby at_234) rfl rfl ?_
              exact kg_
            obtain ⟨_, _, ⟨T74, L74, k74, n74⟩, -, X74, ⟨Lc74, hQ74, l74, y74, z74⟩, st74⟩ := Jvm.LawKit.callS X71 hx (y := (⟨"org/fractile/core/Refinement", "mostAbove", "([I[I[Z)I"⟩ : MethodName)) hown (mvT hZ (hw _ (List.mem_of_getElem? (i := 7) rfl))) (mvT hZ (hw _ (List.mem_of_getElem? (i := 8) rfl))) (mvT hZ (hw _ (List.mem_of_getElem? (i := 9) rfl))) (mvT hZ (hw _ (List.mem_of_getElem? (i := 10) rfl))) (by decide) (backOf (W := 0) (rm2 l Z a0 hw [] aS aC aK (N) (gs) (gc) (gk) h54 n0 Zs57 F60 F61 F62 (fun i hi => by
                  have h3 : i = 0 ∨ i = 1 ∨ i = 2 := by omega
                  rcases h3 with rfl | rfl | rfl
                  · rw [(hv.1 hi).1, (hv.1 hi).2.1]; exact ⟨hnn11, hnn12⟩
                  · rw [(hv.2.1 hi).1, (hv.2.1 hi).2.1]; exact ⟨hnn13, hnn14⟩
                  · rw [(hv.2.2 hi).1, (hv.2.2 hi).2.1]; exact ⟨hnn15, hnn16⟩) (by omega)) hZ (hw _ (List.mem_of_getElem? (i := 10) rfl)) (hw _ (List.mem_of_getElem? (i := 9) rfl)) (by decide) (by decide)) (g := (mkF m 236 #[.val (.int p0s), .val (.long p1s), .second, .val (.long p2s), .second, .val (.long p3s), .second, .val (.int nn), .val (.int k0), .val (.int k1), .val (.int k2), .val (.int z44), .val (.int z45), .val (.int z46), .val (.int z47), .val (.int z48), .val (.int z49), .val (.ref aS), .val (.ref aC), .val (.ref aK), .val (.long z66), .second, .val (.long z69), .second, .val (.long z72), .second, .unset, .unset, .unset] [(.ref aK), (.ref aC), (.ref aS)])) rfl (by rw [hml]; rfl) (argsL := [(.ref aS), (.ref aC), (.ref aK)]) (rest := []) (lenOf pd_1 rfl) rfl (by show 2 * 0 + _ ≤ _; exact Nat.le_of_eq rfl) (hb hby at_236) (fun _ _ => ⟨rfl, I71_0, (by decide : 3 + 0 ≤ _), (by decide : 9 + 0 ≤ _)⟩)
            dsimp only [Pt.U, Pt.locs, Pt.cells, Pt.slots] at X74 l74 y74 z74 st74 hQ74
            subst l74 y74 z74
            obtain ⟨r_74, rfl, N74q, I74_0, I74_1⟩ := hQ74
            have N74 := Fr.app N71 N74q
            have r74 : own_R p.tables e below F0 (T74.setTop (mkF m 239 #[.val (.int p0s), .val (.long p1s), .second, .val (.long p2s), .second, .val (.long p3s), .second, .val (.int nn), .val (.int k0), .val (.int k1), .val (.int k2), .val (.int z44), .val (.int z45), .val (.int z46), .val (.int z47), .val (.int z48), .val (.int z49), .val (.ref aS), .val (.ref aC), .val (.ref aK), .val (.long z66), .second, .val (.long z69), .second, .val (.long z72), .second, .unset, .unset, .unset] [(.int r_74)])) := fun tg_ kg_ => r73 tg_ (st74 tg_ kg_)
            have r75 : own_R p.tables e below F0 (T74.setTop (mkF m 244 #[.val (.int p0s), .val (.long p1s), .second, .val (.long p2s), .second, .val (.long p3s), .second, .val (.int nn), .val (.int k0), .val (.int k1), .val (.int k2), .val (.int z44), .val (.int z45), .val (.int z46), .val (.int z47), .val (.int z48), .val (.int z49), .val (.ref aS), .val (.ref aC), .val (.ref aK), .val (.long z66), .second, .val (.long z69), .second, .val (.long z72), .second, .val (.int r_74), .unset, .unset] [(.int (-1 : Int32)), (.int r_74)])) := fun tg_ kg_ => by
              refine r74 tg_ ?_
              show Steps p.tables e below (T74.setTop (mkF m 239 #[.val (.int p0s), .val (.long p1s), .second, .val (.long p2s), .second, .val (.long p3s), .second, .val (.int nn), .val (.int k0), .val (.int k1), .val (.int k2), .val (.int z44), .val (.int z45), .val (.int z46), .val (.int z47), .val (.int z48), .val (.int z49), .val (.ref aS), .val (.ref aC), .val (.ref aK), .val (.long z66), .second, .val (.long z69), .second, .val (.long z72), .second, .unset, .unset, .unset] [(.int r_74)])) _
              refine XS.istore X74.here hx rfl (hb hby at_239) rfl (l' := #[.val (.int p0s), .val (.long p1s), .second, .val (.long p2s), .second, .val (.long p3s), .second, .val (.int nn), .val (.int k0), .val (.int k1), .val (.int k2), .val (.int z44), .val (.int z45), .val (.int z46), .val (.int z47), .val (.int z48), .val (.int z49), .val (.ref aS), .val (.ref aC), .val (.ref aK), .val (.long z66), .second, .val (.long z69), .second, .val (.long z72), .second, .val (.int r_74), .unset, .unset]) rfl ?_
              show Steps p.tables e below (T74.setTop (mkF m 241 #[.val (.int p0s), .val (.long p1s), .second, .val (.long p2s), .second, .val (.long p3s), .second, .val (.int nn), .val (.int k0), .val (.int k1), .val (.int k2), .val (.int z44), .val (.int z45), .val (.int z46), .val (.int z47), .val (.int z48), .val (.int z49), .val (.ref aS), .val (.ref aC), .val (.ref aK), .val (.long z66), .second, .val (.long z69), .second, .val (.long z72), .second, .val (.int r_74), .unset, .unset] [])) _
              refine XS.iload X74.here hx rfl (hb hby at_241) rfl ?_
              show Steps p.tables e below (T74.setTop (mkF m 243 #[.val (.int p0s), .val (.long p1s), .second, .val (.long p2s), .second, .val (.long p3s), .second, .val (.int nn), .val (.int k0), .val (.int k1), .val (.int k2), .val (.int z44), .val (.int z45), .val (.int z46), .val (.int z47), .val (.int z48), .val (.int z49), .val (.ref aS), .val (.ref aC), .val (.ref aK), .val (.long z66), .second, .val (.long z69), .second, .val (.long z72), .second, .val (.int r_74), .unset, .unset] [(.int r_74)])) _
              refine XS.iconst X74.here hx rfl (hb hby at_243) ?_
              exact kg_
            by_cases hc76 : r_74 = (-1 : Int32)
            · have r77 : own_R p.tables e below F0 (T74.setTop (mkF m 251 #[.val (.int p0s), .val (.long p1s), .second, .val (.long p2s), .second, .val (.long p3s), .second, .val (.int nn), .val (.int k0), .val (.int k1), .val (.int k2), .val (.int z44), .val (.int z45), .val (.int z46), .val (.int z47), .val (.int z48), .val (.int z49), .val (.ref aS), .val (.ref aC), .val (.ref aK), .val (.long z66), .second, .val (.long z69), .second, .val (.long z72), .second, .val (.int r_74), .unset, .unset] [(.int (lcmpW z66 (0 : Int64)))])) := fun tg_ kg_ => by
                refine r75 tg_ ?_
                show Steps p.tables e below (T74.setTop (mkF m 244 #[.val (.int p0s), .val (.long p1s), .second, .val (.long p2s), .second, .val (.long p3s), .second, .val (.int nn), .val (.int k0), .val (.int k1), .val (.int k2), .val (.int z44), .val (.int z45), .val (.int z46), .val (.int z47), .val (.int z48), .val (.int z49), .val (.ref aS), .val (.ref aC), .val (.ref aK), .val (.long z66), .second, .val (.long z69), .second, .val (.long z72), .second, .val (.int r_74), .unset, .unset] [(.int (-1 : Int32)), (.int r_74)])) _
                refine XS.icmpNo X74.here hx rfl (hb hby at_244) rfl (teq hc76).2 ?_
                show Steps p.tables e below (T74.setTop (mkF m 247 #[.val (.int p0s), .val (.long p1s), .second, .val (.long p2s), .second, .val (.long p3s), .second, .val (.int nn), .val (.int k0), .val (.int k1), .val (.int k2), .val (.int z44), .val (.int z45), .val (.int z46), .val (.int z47), .val (.int z48), .val (.int z49), .val (.ref aS), .val (.ref aC), .val (.ref aK), .val (.long z66), .second, .val (.long z69), .second, .val (.long z72), .second, .val (.int r_74), .unset, .unset] [])) _
                refine XS.lload X74.here hx rfl (hb hby at_247) rfl ?_
                show Steps p.tables e below (T74.setTop (mkF m 249 #[.val (.int p0s), .val (.long p1s), .second, .val (.long p2s), .second, .val (.long p3s), .second, .val (.int nn), .val (.int k0), .val (.int k1), .val (.int k2), .val (.int z44), .val (.int z45), .val (.int z46), .val (.int z47), .val (.int z48), .val (.int z49), .val (.ref aS), .val (.ref aC), .val (.ref aK), .val (.long z66), .second, .val (.long z69), .second, .val (.long z72), .second, .val (.int r_74), .unset, .unset] [(.long z66)])) _
                refine XS.lconst X74.here hx rfl (hb hby at_249) ?_
                show Steps p.tables e below (T74.setTop (mkF m 250 #[.val (.int p0s), .val (.long p1s), .second, .val (.long p2s), .second, .val (.long p3s), .second, .val (.int nn), .val (.int k0), .val (.int k1), .val (.int k2), .val (.int z44), .val (.int z45), .val (.int z46), .val (.int z47), .val (.int z48), .val (.int z49), .val (.ref aS), .val (.ref aC), .val (.ref aK), .val (.long z66), .second, .val (.long z69), .second, .val (.long z72), .second, .val (.int r_74), .unset, .unset] [(.long (0 : Int64)), (.long z66)])) _
                refine XS.lcmp X74.here hx rfl (hb hby at_250) rfl ?_
                exact kg_
              by_cases hc78 : z66 = (0 : Int64)
              · have r79 : own_R p.tables e below F0 (T74.setTop (mkF m 258 #[.val (.int p0s), .val (.long p1s), .second, .val (.long p2s), .second, .val (.long p3s), .second, .val (.int nn), .val (.int k0), .val (.int k1), .val (.int k2), .val (.int z44), .val (.int z45), .val (.int z46), .val (.int z47), .val (.int z48), .val (.int z49), .val (.ref aS), .val (.ref aC), .val (.ref aK), .val (.long z66), .second, .val (.long z69), .second, .val (.long z72), .second, .val (.int r_74), .unset, .unset] [(.int (lcmpW z69 (0 : Int64)))])) := fun tg_ kg_ => by
                  refine r77 tg_ ?_
                  show Steps p.tables e below (T74.setTop (mkF m 251 #[.val (.int p0s), .val (.long p1s), .second, .val (.long p2s), .second, .val (.long p3s), .second, .val (.int nn), .val (.int k0), .val (.int k1), .val (.int k2), .val (.int z44), .val (.int z45), .val (.int z46), .val (.int z47), .val (.int z48), .val (.int z49), .val (.ref aS), .val (.ref aC), .val (.ref aK), .val (.long z66), .second, .val (.long z69), .second, .val (.long z72), .second, .val (.int r_74), .unset, .unset] [(.int (lcmpW z66 (0 : Int64)))])) _
                  refine XS.ifNo X74.here hx rfl (hb hby at_251) rfl (own_l_eq hc78).2 ?_
                  show Steps p.tables e below (T74.setTop (mkF m 254 #[.val (.int p0s), .val (.long p1s), .second, .val (.long p2s), .second, .val (.long p3s), .second, .val (.int nn), .val (.int k0), .val (.int k1), .val (.int k2), .val (.int z44), .val (.int z45), .val (.int z46), .val (.int z47), .val (.int z48), .val (.int z49), .val (.ref aS), .val (.ref aC), .val (.ref aK), .val (.long z66), .second, .val (.long z69), .second, .val (.long z72), .second, .val (.int r_74), .unset, .unset] [])) _
                  refine XS.lload X74.here hx rfl (hb hby at_254) rfl ?_
                  show Steps p.tables e below (T74.setTop (mkF m 256 #[.val (.int p0s), .val (.long p1s), .second, .val (.long p2s), .second, .val (.long p3s), .second, .val (.int nn), .val (.int k0), .val (.int k1), .val (.int k2), .val (.int z44), .val (.int z45), .val (.int z46), .val (.int z47), .val (.int z48), .val (.int z49), .val (.ref aS), .val (.ref aC), .val (.ref aK), .val (.long z66), .second, .val (.long z69), .second, .val (.long z72), .second, .val (.int r_74), .unset, .unset] [(.long z69)])) _
                  refine XS.lconst X74.here hx rfl (hb hby at_256) ?_
                  show Steps p.tables e below (T74.setTop (mkF m 257 #[.val (.int p0s), .val (.long p1s), .second, .val (.long p2s), .second, .val (.long p3s), .second, .val (.int nn), .val (.int k0), .val (.int k1), .val (.int k2), .val (.int z44), .val (.int z45), .val (.int z46), .val (.int z47), .val (.int z48), .val (.int z49), .val (.ref aS), .val (.ref aC), .val (.ref aK), .val (.long z66), .second, .val (.long z69), .second, .val (.long z72), .second, .val (.int r_74), .unset, .unset] [(.long (0 : Int64)), (.long z69)])) _
                  refine XS.lcmp X74.here hx rfl (hb hby at_257) rfl ?_
                  exact kg_
                by_cases hc80 : z69 = (0 : Int64)
                · have r81 : own_R p.tables e below F0 (T74.setTop (mkF m 265 #[.val (.int p0s), .val (.long p1s), .second, .val (.long p2s), .second, .val (.long p3s), .second, .val (.int nn), .val (.int k0), .val (.int k1), .val (.int k2), .val (.int z44), .val (.int z45), .val (.int z46), .val (.int z47), .val (.int z48), .val (.int z49), .val (.ref aS), .val (.ref aC), .val (.ref aK), .val (.long z66), .second, .val (.long z69), .second, .val (.long z72), .second, .val (.int r_74), .unset, .unset] [(.int (lcmpW z72 (0 : Int64)))])) := fun tg_ kg_ => by
                    refine r79 tg_ ?_
                    show Steps p.tables e below (T74.setTop (mkF m 258 #[.val (.int p0s), .val (.long p1s), .second, .val (.long p2s), .second, .val (.long p3s), .second, .val (.int nn), .val (.int k0), .val (.int k1), .val (.int k2), .val (.int z44), .val (.int z45), .val (.int z46), .val (.int z47), .val (.int z48), .val (.int z49), .val (.ref aS), .val (.ref aC), .val (.ref aK), .val (.long z66), .second, .val (.long z69), .second, .val (.long z72), .second, .val (.int r_74), .unset, .unset] [(.int (lcmpW z69 (0 : Int64)))])) _
                    refine XS.ifNo X74.here hx rfl (hb hby at_258) rfl (own_l_eq hc80).2 ?_
                    show Steps p.tables e below (T74.setTop (mkF m 261 #[.val (.int p0s), .val (.long p1s), .second, .val (.long p2s), .second, .val (.long p3s), .second, .val (.int nn), .val (.int k0), .val (.int k1), .val (.int k2), .val (.int z44), .val (.int z45), .val (.int z46), .val (.int z47), .val (.int z48), .val (.int z49), .val (.ref aS), .val (.ref aC), .val (.ref aK), .val (.long z66), .second, .val (.long z69), .second, .val (.long z72), .second, .val (.int r_74), .unset, .unset] [])) _
                    refine XS.lload X74.here hx rfl (hb hby at_261) rfl ?_
                    show Steps p.tables e below (T74.setTop (mkF m 263 #[.val (.int p0s), .val (.long p1s), .second, .val (.long p2s), .second, .val (.long p3s), .second, .val (.int nn), .val (.int k0), .val (.int k1), .val (.int k2), .val (.int z44), .val (.int z45), .val (.int z46), .val (.int z47), .val (.int z48), .val (.int z49), .val (.ref aS), .val (.ref aC), .val (.ref aK), .val (.long z66), .second, .val (.long z69), .second, .val (.long z72), .second, .val (.int r_74), .unset, .unset] [(.long z72)])) _
                    refine XS.lconst X74.here hx rfl (hb hby at_263) ?_
                    show Steps p.tables e below (T74.setTop (mkF m 264 #[.val (.int p0s), .val (.long p1s), .second, .val (.long p2s), .second, .val (.long p3s), .second, .val (.int nn), .val (.int k0), .val (.int k1), .val (.int k2), .val (.int z44), .val (.int z45), .val (.int z46), .val (.int z47), .val (.int z48), .val (.int z49), .val (.ref aS), .val (.ref aC), .val (.ref aK), .val (.long z66), .second, .val (.long z69), .second, .val (.long z72), .second, .val (.int r_74), .unset, .unset] [(.long (0 : Int64)), (.long z72)])) _
                    refine XS.lcmp X74.here hx rfl (hb hby at_264) rfl ?_
                    exact kg_
                  by_cases hc82 : z72 = (0 : Int64)
                  · have r83 : own_R p.tables e below F0 (T74.setTop (mkF m 273 #[.val (.int p0s), .val (.long p1s), .second, .val (.long p2s), .second, .val (.long p3s), .second, .val (.int nn), .val (.int k0), .val (.int k1), .val (.int k2), .val (.int z44), .val (.int z45), .val (.int z46), .val (.int z47), .val (.int z48), .val (.int z49), .val (.ref aS), .val (.ref aC), .val (.ref aK), .val (.long z66), .second, .val (.long z69), .second, .val (.long z72), .second, .val (.int r_74), .unset, .unset] [(.int (1 : Int32))])) := fun tg_ kg_ => by
                      refine r81 tg_ ?_
                      show Steps p.tables e below (T74.setTop (mkF m 265 #[.val (.int p0s), .val (.long p1s), .second, .val (.long p2s), .second, .val (.long p3s), .second, .val (.int nn), .val (.int k0), .val (.int k1), .val (.int k2), .val (.int z44), .val (.int z45), .val (.int z46), .val (.int z47), .val (.int z48), .val (.int z49), .val (.ref aS), .val (.ref aC), .val (.ref aK), .val (.long z66), .second, .val (.long z69), .second, .val (.long z72), .second, .val (.int r_74), .unset, .unset] [(.int (lcmpW z72 (0 : Int64)))])) _
                      refine XS.ifNo X74.here hx rfl (hb hby at_265) rfl (own_l_eq hc82).2 ?_
                      show Steps p.tables e below (T74.setTop (mkF m 268 #[.val (.int p0s), .val (.long p1s), .second, .val (.long p2s), .second, .val (.long p3s), .second, .val (.int nn), .val (.int k0), .val (.int k1), .val (.int k2), .val (.int z44), .val (.int z45), .val (.int z46), .val (.int z47), .val (.int z48), .val (.int z49), .val (.ref aS), .val (.ref aC), .val (.ref aK), .val (.long z66), .second, .val (.long z69), .second, .val (.long z72), .second, .val (.int r_74), .unset, .unset] [])) _
                      refine XS.iconst X74.here hx rfl (hb hby at_268) ?_
                      show Steps p.tables e below (T74.setTop (mkF m 269 #[.val (.int p0s), .val (.long p1s), .second, .val (.long p2s), .second, .val (.long p3s), .second, .val (.int nn), .val (.int k0), .val (.int k1), .val (.int k2), .val (.int z44), .val (.int z45), .val (.int z46), .val (.int z47), .val (.int z48), .val (.int z49), .val (.ref aS), .val (.ref aC), .val (.ref aK), .val (.long z66), .second, .val (.long z69), .second, .val (.long z72), .second, .val (.int r_74), .unset, .unset] [(.int (1 : Int32))])) _
                      refine XS.goto X74.here hx rfl (pc0 := 269) (pc' := 273) rfl (hb hby at_269) (by decide) (by decide) ?_
                      exact kg_
                    refine hG (own_fin X74 hlk (some (.int (nar .boolean (1 : Int32)))) (own_hv Bd.returns) ?_ (by decide) (by decide) (fun fs hr => r83 _ (retN X74 hx (t := .boolean) Bd.returns (by simp) (hb hby at_273) hr)))
                    rw [I74_0]
                    exact ⟨rfl, N74⟩
                  · have r84 : own_R p.tables e below F0 (T74.setTop (mkF m 273 #[.val (.int p0s), .val (.long p1s), .second, .val (.long p2s), .second, .val (.long p3s), .second, .val (.int nn), .val (.int k0), .val (.int k1), .val (.int k2), .val (.int z44), .val (.int z45), .val (.int z46), .val (.int z47), .val (.int z48), .val (.int z49), .val (.ref aS), .val (.ref aC), .val (.ref aK), .val (.long z66), .second, .val (.long z69), .second, .val (.long z72), .second, .val (.int r_74), .unset, .unset] [(.int (0 : Int32))])) := fun tg_ kg_ => by
                      refine r81 tg_ ?_
                      show Steps p.tables e below (T74.setTop (mkF m 265 #[.val (.int p0s), .val (.long p1s), .second, .val (.long p2s), .second, .val (.long p3s), .second, .val (.int nn), .val (.int k0), .val (.int k1), .val (.int k2), .val (.int z44), .val (.int z45), .val (.int z46), .val (.int z47), .val (.int z48), .val (.int z49), .val (.ref aS), .val (.ref aC), .val (.ref aK), .val (.long z66), .second, .val (.long z69), .second, .val (.long z72), .second, .val (.int r_74), .unset, .unset] [(.int (lcmpW z72 (0 : Int64)))])) _
                      refine XS.ifYes X74.here hx rfl (pc0 := 265) (pc' := 272) rfl (hb hby at_265) rfl (own_l_neq hc82).2 (by decide) (by decide) ?_
                      show Steps p.tables e below (T74.setTop (mkF m 272 #[.val (.int p0s), .val (.long p1s), .second, .val (.long p2s), .second, .val (.long p3s), .second, .val (.int nn), .val (.int k0), .val (.int k1), .val (.int k2), .val (.int z44), .val (.int z45), .val (.int z46), .val (.int z47), .val (.int z48), .val (.int z49), .val (.ref aS), .val (.ref aC), .val (.ref aK), .val (.long z66), .second, .val (.long z69), .second, .val (.long z72), .second, .val (.int r_74), .unset, .unset] [])) _
                      refine XS.iconst X74.here hx rfl (hb hby at_272) ?_
                      exact kg_
                    exfalso
                    have he0 := own_excC (0 : Int32) nn k0 z44 z45 0 N gs gc gk (by decide) hNN (fun q => ⟨own_eq32 (hv.1 q).1, own_eq32 (hv.1 q).2.1, (hv.1 q).2.2⟩) hnn11 hnn12
                    have he1 := own_excC (1 : Int32) nn k1 z46 z47 1 N gs gc gk (by decide) hNN (fun q => ⟨own_eq32 (hv.2.1 q).1, own_eq32 (hv.2.1 q).2.1, (hv.2.1 q).2.2⟩) hnn13 hnn14
                    have he2 := own_excC (2 : Int32) nn k2 z48 z49 2 N gs gc gk (by decide) hNN (fun q => ⟨own_eq32 (hv.2.2 q).1, own_eq32 (hv.2.2 q).2.1, (hv.2.2 q).2.2⟩) hnn15 hnn16
                    have sp := own_spec hN3 he0 he1 he2 I74_1
                    clear hv he0 he1 he2 I74_1
                    have q1030_r := own_R32 r_74
                    have q1031_e : (-1 : Int32).toInt = -1 := (by decide)
                    have q1031_r : (-1 : Int) ≤ (-1 : Int32).toInt ∧ (-1 : Int32).toInt ≤ -1 := ⟨Int.le_of_eq q1031_e.symm, Int.le_of_eq q1031_e⟩
                    have q1032_e : (0 : Int32).toInt = 0 := (by decide)
                    have q1032_r : (0 : Int) ≤ (0 : Int32).toInt ∧ (0 : Int32).toInt ≤ 0 := ⟨Int.le_of_eq q1032_e.symm, Int.le_of_eq q1032_e⟩
                    have q1033_r := own_R32 nn
                    have q1034_r := own_R32 k0
                    have q1035_r := own_R32 z44
                    have q1036_r := own_R32 z45
                    have q1037_r := own_R64 (own_exc (0 : Int32) nn k0 z44 z45)
                    have q1038_ := own_eqR64 hz66 q1037_r
                    have q1038_e := q1038_.1
                    have q1038_r := q1038_.2
                    have q1039_e : (0 : Int64).toInt = 0 := (by decide)
                    have q1039_r : (0 : Int) ≤ (0 : Int64).toInt ∧ (0 : Int64).toInt ≤ 0 := ⟨Int.le_of_eq q1039_e.symm, Int.le_of_eq q1039_e⟩
                    have q1040_e : (1 : Int32).toInt = 1 := (by decide)
                    have q1040_r : (1 : Int) ≤ (1 : Int32).toInt ∧ (1 : Int32).toInt ≤ 1 := ⟨Int.le_of_eq q1040_e.symm, Int.le_of_eq q1040_e⟩
                    have q1041_r := own_R32 k1
                    have q1042_r := own_R32 z46
                    have q1043_r := own_R32 z47
                    have q1044_r := own_R64 (own_exc (1 : Int32) nn k1 z46 z47)
                    have q1045_ := own_eqR64 hz69 q1044_r
                    have q1045_e := q1045_.1
                    have q1045_r := q1045_.2
                    have q1046_e : (2 : Int32).toInt = 2 := (by decide)
                    have q1046_r : (2 : Int) ≤ (2 : Int32).toInt ∧ (2 : Int32).toInt ≤ 2 := ⟨Int.le_of_eq q1046_e.symm, Int.le_of_eq q1046_e⟩
                    have q1047_r := own_R32 k2
                    have q1048_r := own_R32 z48
                    have q1049_r := own_R32 z49
                    have q1050_r := own_R64 (own_exc (2 : Int32) nn k2 z48 z49)
                    have q1051_ := own_eqR64 hz72 q1050_r
                    have q1051_e := q1051_.1
                    have q1051_r := q1051_.2
                    have q1052_c := own_eq32 hc76
                    have q1053_c := own_eq64 hc78
                    have q1054_c := own_eq64 hc80
                    have q1055_c := own_ne64 hc82
                    rcases sp with h | h | h | h <;> omega
                · have r85 : own_R p.tables e below F0 (T74.setTop (mkF m 273 #[.val (.int p0s), .val (.long p1s), .second, .val (.long p2s), .second, .val (.long p3s), .second, .val (.int nn), .val (.int k0), .val (.int k1), .val (.int k2), .val (.int z44), .val (.int z45), .val (.int z46), .val (.int z47), .val (.int z48), .val (.int z49), .val (.ref aS), .val (.ref aC), .val (.ref aK), .val (.long z66), .second, .val (.long z69), .second, .val (.long z72), .second, .val (.int r_74), .unset, .unset] [(.int (0 : Int32))])) := fun tg_ kg_ => by
                    refine r79 tg_ ?_
                    show Steps p.tables e below (T74.setTop (mkF m 258 #[.val (.int p0s), .val (.long p1s), .second, .val (.long p2s), .second, .val (.long p3s), .second, .val (.int nn), .val (.int k0), .val (.int k1), .val (.int k2), .val (.int z44), .val (.int z45), .val (.int z46), .val (.int z47), .val (.int z48), .val (.int z49), .val (.ref aS), .val (.ref aC), .val (.ref aK), .val (.long z66), .second, .val (.long z69), .second, .val (.long z72), .second, .val (.int r_74), .unset, .unset] [(.int (lcmpW z69 (0 : Int64)))])) _
                    refine XS.ifYes X74.here hx rfl (pc0 := 258) (pc' := 272) rfl (hb hby at_258) rfl (own_l_neq hc80).2 (by decide) (by decide) ?_
                    show Steps p.tables e below (T74.setTop (mkF m 272 #[.val (.int p0s), .val (.long p1s), .second, .val (.long p2s), .second, .val (.long p3s), .second, .val (.int nn), .val (.int k0), .val (.int k1), .val (.int k2), .val (.int z44), .val (.int z45), .val (.int z46), .val (.int z47), .val (.int z48), .val (.int z49), .val (.ref aS), .val (.ref aC), .val (.ref aK), .val (.long z66), .second, .val (.long z69), .second, .val (.long z72), .second, .val (.int r_74), .unset, .unset] [])) _
                    refine XS.iconst X74.here hx rfl (hb hby at_272) ?_
                    exact kg_
                  exfalso
                  have he0 := own_excC (0 : Int32) nn k0 z44 z45 0 N gs gc gk (by decide) hNN (fun q => ⟨own_eq32 (hv.1 q).1, own_eq32 (hv.1 q).2.1, (hv.1 q).2.2⟩) hnn11 hnn12
                  have he1 := own_excC (1 : Int32) nn k1 z46 z47 1 N gs gc gk (by decide) hNN (fun q => ⟨own_eq32 (hv.2.1 q).1, own_eq32 (hv.2.1 q).2.1, (hv.2.1 q).2.2⟩) hnn13 hnn14
                  have he2 := own_excC (2 : Int32) nn k2 z48 z49 2 N gs gc gk (by decide) hNN (fun q => ⟨own_eq32 (hv.2.2 q).1, own_eq32 (hv.2.2 q).2.1, (hv.2.2 q).2.2⟩) hnn15 hnn16
                  have sp := own_spec hN3 he0 he1 he2 I74_1
                  clear hv he0 he1 he2 I74_1
                  have q1056_r := own_R32 r_74
                  have q1057_e : (-1 : Int32).toInt = -1 := (by decide)
                  have q1057_r : (-1 : Int) ≤ (-1 : Int32).toInt ∧ (-1 : Int32).toInt ≤ -1 := ⟨Int.le_of_eq q1057_e.symm, Int.le_of_eq q1057_e⟩
                  have q1058_e : (0 : Int32).toInt = 0 := (by decide)
                  have q1058_r : (0 : Int) ≤ (0 : Int32).toInt ∧ (0 : Int32).toInt ≤ 0 := ⟨Int.le_of_eq q1058_e.symm, Int.le_of_eq q1058_e⟩
                  have q1059_r := own_R32 nn
                  have q1060_r := own_R32 k0
                  have q1061_r := own_R32 z44
                  have q1062_r := own_R32 z45
                  have q1063_r := own_R64 (own_exc (0 : Int32) nn k0 z44 z45)
                  have q1064_ := own_eqR64 hz66 q1063_r
                  have q1064_e := q1064_.1
                  have q1064_r := q1064_.2
                  have q1065_e : (0 : Int64).toInt = 0 := (by decide)
                  have q1065_r : (0 : Int) ≤ (0 : Int64).toInt ∧ (0 : Int64).toInt ≤ 0 := ⟨Int.le_of_eq q1065_e.symm, Int.le_of_eq q1065_e⟩
                  have q1066_e : (1 : Int32).toInt = 1 := (by decide)
                  have q1066_r : (1 : Int) ≤ (1 : Int32).toInt ∧ (1 : Int32).toInt ≤ 1 := ⟨Int.le_of_eq q1066_e.symm, Int.le_of_eq q1066_e⟩
                  have q1067_r := own_R32 k1
                  have q1068_r := own_R32 z46
                  have q1069_r := own_R32 z47
                  have q1070_r := own_R64 (own_exc (1 : Int32) nn k1 z46 z47)
                  have q1071_ := own_eqR64 hz69 q1070_r
                  have q1071_e := q1071_.1
                  have q1071_r := q1071_.2
                  have q1072_c := own_eq32 hc76
                  have q1073_c := own_eq64 hc78
                  have q1074_c := own_ne64 hc80
                  rcases sp with h | h | h | h <;> omega
              · have r86 : own_R p.tables e below F0 (T74.setTop (mkF m 273 #[.val (.int p0s), .val (.long p1s), .second, .val (.long p2s), .second, .val (.long p3s), .second, .val (.int nn), .val (.int k0), .val (.int k1), .val (.int k2), .val (.int z44), .val (.int z45), .val (.int z46), .val (.int z47), .val (.int z48), .val (.int z49), .val (.ref aS), .val (.ref aC), .val (.ref aK), .val (.long z66), .second, .val (.long z69), .second, .val (.long z72), .second, .val (.int r_74), .unset, .unset] [(.int (0 : Int32))])) := fun tg_ kg_ => by
                  refine r77 tg_ ?_
                  show Steps p.tables e below (T74.setTop (mkF m 251 #[.val (.int p0s), .val (.long p1s), .second, .val (.long p2s), .second, .val (.long p3s), .second, .val (.int nn), .val (.int k0), .val (.int k1), .val (.int k2), .val (.int z44), .val (.int z45), .val (.int z46), .val (.int z47), .val (.int z48), .val (.int z49), .val (.ref aS), .val (.ref aC), .val (.ref aK), .val (.long z66), .second, .val (.long z69), .second, .val (.long z72), .second, .val (.int r_74), .unset, .unset] [(.int (lcmpW z66 (0 : Int64)))])) _
                  refine XS.ifYes X74.here hx rfl (pc0 := 251) (pc' := 272) rfl (hb hby at_251) rfl (own_l_neq hc78).2 (by decide) (by decide) ?_
                  show Steps p.tables e below (T74.setTop (mkF m 272 #[.val (.int p0s), .val (.long p1s), .second, .val (.long p2s), .second, .val (.long p3s), .second, .val (.int nn), .val (.int k0), .val (.int k1), .val (.int k2), .val (.int z44), .val (.int z45), .val (.int z46), .val (.int z47), .val (.int z48), .val (.int z49), .val (.ref aS), .val (.ref aC), .val (.ref aK), .val (.long z66), .second, .val (.long z69), .second, .val (.long z72), .second, .val (.int r_74), .unset, .unset] [])) _
                  refine XS.iconst X74.here hx rfl (hb hby at_272) ?_
                  exact kg_
                exfalso
                have he0 := own_excC (0 : Int32) nn k0 z44 z45 0 N gs gc gk (by decide) hNN (fun q => ⟨own_eq32 (hv.1 q).1, own_eq32 (hv.1 q).2.1, (hv.1 q).2.2⟩) hnn11 hnn12
                have he1 := own_excC (1 : Int32) nn k1 z46 z47 1 N gs gc gk (by decide) hNN (fun q => ⟨own_eq32 (hv.2.1 q).1, own_eq32 (hv.2.1 q).2.1, (hv.2.1 q).2.2⟩) hnn13 hnn14
                have he2 := own_excC (2 : Int32) nn k2 z48 z49 2 N gs gc gk (by decide) hNN (fun q => ⟨own_eq32 (hv.2.2 q).1, own_eq32 (hv.2.2 q).2.1, (hv.2.2 q).2.2⟩) hnn15 hnn16
                have sp := own_spec hN3 he0 he1 he2 I74_1
                clear hv he0 he1 he2 I74_1
                have q1075_r := own_R32 r_74
                have q1076_e : (-1 : Int32).toInt = -1 := (by decide)
                have q1076_r : (-1 : Int) ≤ (-1 : Int32).toInt ∧ (-1 : Int32).toInt ≤ -1 := ⟨Int.le_of_eq q1076_e.symm, Int.le_of_eq q1076_e⟩
                have q1077_e : (0 : Int32).toInt = 0 := (by decide)
                have q1077_r : (0 : Int) ≤ (0 : Int32).toInt ∧ (0 : Int32).toInt ≤ 0 := ⟨Int.le_of_eq q1077_e.symm, Int.le_of_eq q1077_e⟩
                have q1078_r := own_R32 nn
                have q1079_r := own_R32 k0
                have q1080_r := own_R32 z44
                have q1081_r := own_R32 z45
                have q1082_r := own_R64 (own_exc (0 : Int32) nn k0 z44 z45)
                have q1083_ := own_eqR64 hz66 q1082_r
                have q1083_e := q1083_.1
                have q1083_r := q1083_.2
                have q1084_e : (0 : Int64).toInt = 0 := (by decide)
                have q1084_r : (0 : Int) ≤ (0 : Int64).toInt ∧ (0 : Int64).toInt ≤ 0 := ⟨Int.le_of_eq q1084_e.symm, Int.le_of_eq q1084_e⟩
                have q1085_c := own_eq32 hc76
                have q1086_c := own_ne64 hc78
                rcases sp with h | h | h | h <;> omega
            · have r87 : own_R p.tables e below F0 (T74.setTop (mkF m 276 #[.val (.int p0s), .val (.long p1s), .second, .val (.long p2s), .second, .val (.long p3s), .second, .val (.int nn), .val (.int k0), .val (.int k1), .val (.int k2), .val (.int z44), .val (.int z45), .val (.int z46), .val (.int z47), .val (.int z48), .val (.int z49), .val (.ref aS), .val (.ref aC), .val (.ref aK), .val (.long z66), .second, .val (.long z69), .second, .val (.long z72), .second, .val (.int r_74), .unset, .unset] [(.int r_74)])) := fun tg_ kg_ => by
                refine r75 tg_ ?_
                show Steps p.tables e below (T74.setTop (mkF m 244 #[.val (.int p0s), .val (.long p1s), .second, .val (.long p2s), .second, .val (.long p3s), .second, .val (.int nn), .val (.int k0), .val (.int k1), .val (.int k2), .val (.int z44), .val (.int z45), .val (.int z46), .val (.int z47), .val (.int z48), .val (.int z49), .val (.ref aS), .val (.ref aC), .val (.ref aK), .val (.long z66), .second, .val (.long z69), .second, .val (.long z72), .second, .val (.int r_74), .unset, .unset] [(.int (-1 : Int32)), (.int r_74)])) _
                refine XS.icmpYes X74.here hx rfl (pc0 := 244) (pc' := 274) rfl (hb hby at_244) rfl (feq hc76).2 (by decide) (by decide) ?_
                show Steps p.tables e below (T74.setTop (mkF m 274 #[.val (.int p0s), .val (.long p1s), .second, .val (.long p2s), .second, .val (.long p3s), .second, .val (.int nn), .val (.int k0), .val (.int k1), .val (.int k2), .val (.int z44), .val (.int z45), .val (.int z46), .val (.int z47), .val (.int z48), .val (.int z49), .val (.ref aS), .val (.ref aC), .val (.ref aK), .val (.long z66), .second, .val (.long z69), .second, .val (.long z72), .second, .val (.int r_74), .unset, .unset] [])) _
                refine XS.iload X74.here hx rfl (hb hby at_274) rfl ?_
                exact kg_
              by_cases hc88 : r_74 < (0 : Int32)
              · have r89 : own_R p.tables e below F0 (T74.setTop (mkF m 287 #[.val (.int p0s), .val (.long p1s), .second, .val (.long p2s), .second, .val (.long p3s), .second, .val (.int nn), .val (.int k0), .val (.int k1), .val (.int k2), .val (.int z44), .val (.int z45), .val (.int z46), .val (.int z47), .val (.int z48), .val (.int z49), .val (.ref aS), .val (.ref aC), .val (.ref aK), .val (.long z66), .second, .val (.long z69), .second, .val (.long z72), .second, .val (.int r_74), .unset, .unset] [(.int (0 : Int32))])) := fun tg_ kg_ => by
                  refine r87 tg_ ?_
                  show Steps p.tables e below (T74.setTop (mkF m 276 #[.val (.int p0s), .val (.long p1s), .second, .val (.long p2s), .second, .val (.long p3s), .second, .val (.int nn), .val (.int k0), .val (.int k1), .val (.int k2), .val (.int z44), .val (.int z45), .val (.int z46), .val (.int z47), .val (.int z48), .val (.int z49), .val (.ref aS), .val (.ref aC), .val (.ref aK), .val (.long z66), .second, .val (.long z69), .second, .val (.long z72), .second, .val (.int r_74), .unset, .unset] [(.int r_74)])) _
                  refine XS.ifYes X74.here hx rfl (pc0 := 276) (pc' := 286) rfl (hb hby at_276) rfl ((if0 _ _).trans (tlt hc88).1) (by decide) (by decide) ?_
                  show Steps p.tables e below (T74.setTop (mkF m 286 #[.val (.int p0s), .val (.long p1s), .second, .val (.long p2s), .second, .val (.long p3s), .second, .val (.int nn), .val (.int k0), .val (.int k1), .val (.int k2), .val (.int z44), .val (.int z45), .val (.int z46), .val (.int z47), .val (.int z48), .val (.int z49), .val (.ref aS), .val (.ref aC), .val (.ref aK), .val (.long z66), .second, .val (.long z69), .second, .val (.long z72), .second, .val (.int r_74), .unset, .unset] [])) _
                  refine XS.iconst X74.here hx rfl (hb hby at_286) ?_
                  exact kg_
                exfalso
                have he0 := own_excC (0 : Int32) nn k0 z44 z45 0 N gs gc gk (by decide) hNN (fun q => ⟨own_eq32 (hv.1 q).1, own_eq32 (hv.1 q).2.1, (hv.1 q).2.2⟩) hnn11 hnn12
                have he1 := own_excC (1 : Int32) nn k1 z46 z47 1 N gs gc gk (by decide) hNN (fun q => ⟨own_eq32 (hv.2.1 q).1, own_eq32 (hv.2.1 q).2.1, (hv.2.1 q).2.2⟩) hnn13 hnn14
                have he2 := own_excC (2 : Int32) nn k2 z48 z49 2 N gs gc gk (by decide) hNN (fun q => ⟨own_eq32 (hv.2.2 q).1, own_eq32 (hv.2.2 q).2.1, (hv.2.2 q).2.2⟩) hnn15 hnn16
                have sp := own_spec hN3 he0 he1 he2 I74_1
                clear hv he0 he1 he2 I74_1
                have q1087_r := own_R32 r_74
                have q1088_e : (-1 : Int32).toInt = -1 := (by decide)
                have q1088_r : (-1 : Int) ≤ (-1 : Int32).toInt ∧ (-1 : Int32).toInt ≤ -1 := ⟨Int.le_of_eq q1088_e.symm, Int.le_of_eq q1088_e⟩
                have q1089_e : (0 : Int32).toInt = 0 := (by decide)
                have q1089_r : (0 : Int) ≤ (0 : Int32).toInt ∧ (0 : Int32).toInt ≤ 0 := ⟨Int.le_of_eq q1089_e.symm, Int.le_of_eq q1089_e⟩
                have q1090_c := own_ne32 hc76
                have q1091_c := own_lt32 hc88
                rcases sp with h | h | h | h <;> omega
              · have r90 : own_R p.tables e below F0 (T74.setTop (mkF m 283 #[.val (.int p0s), .val (.long p1s), .second, .val (.long p2s), .second, .val (.long p3s), .second, .val (.int nn), .val (.int k0), .val (.int k1), .val (.int k2), .val (.int z44), .val (.int z45), .val (.int z46), .val (.int z47), .val (.int z48), .val (.int z49), .val (.ref aS), .val (.ref aC), .val (.ref aK), .val (.long z66), .second, .val (.long z69), .second, .val (.long z72), .second, .val (.int r_74), .unset, .unset] [(.int nn), (.int r_74)])) := fun tg_ kg_ => by
                  refine r87 tg_ ?_
                  show Steps p.tables e below (T74.setTop (mkF m 276 #[.val (.int p0s), .val (.long p1s), .second, .val (.long p2s), .second, .val (.long p3s), .second, .val (.int nn), .val (.int k0), .val (.int k1), .val (.int k2), .val (.int z44), .val (.int z45), .val (.int z46), .val (.int z47), .val (.int z48), .val (.int z49), .val (.ref aS), .val (.ref aC), .val (.ref aK), .val (.long z66), .second, .val (.long z69), .second, .val (.long z72), .second, .val (.int r_74), .unset, .unset] [(.int r_74)])) _
                  refine XS.ifNo X74.here hx rfl (hb hby at_276) rfl ((if0 _ _).trans (flt hc88).1) ?_
                  show Steps p.tables e below (T74.setTop (mkF m 279 #[.val (.int p0s), .val (.long p1s), .second, .val (.long p2s), .second, .val (.long p3s), .second, .val (.int nn), .val (.int k0), .val (.int k1), .val (.int k2), .val (.int z44), .val (.int z45), .val (.int z46), .val (.int z47), .val (.int z48), .val (.int z49), .val (.ref aS), .val (.ref aC), .val (.ref aK), .val (.long z66), .second, .val (.long z69), .second, .val (.long z72), .second, .val (.int r_74), .unset, .unset] [])) _
                  refine XS.iload X74.here hx rfl (hb hby at_279) rfl ?_
                  show Steps p.tables e below (T74.setTop (mkF m 281 #[.val (.int p0s), .val (.long p1s), .second, .val (.long p2s), .second, .val (.long p3s), .second, .val (.int nn), .val (.int k0), .val (.int k1), .val (.int k2), .val (.int z44), .val (.int z45), .val (.int z46), .val (.int z47), .val (.int z48), .val (.int z49), .val (.ref aS), .val (.ref aC), .val (.ref aK), .val (.long z66), .second, .val (.long z69), .second, .val (.long z72), .second, .val (.int r_74), .unset, .unset] [(.int r_74)])) _
                  refine XS.iload X74.here hx rfl (hb hby at_281) rfl ?_
                  exact kg_
                by_cases hc91 : r_74 < nn
                · have r92 : own_R p.tables e below F0 (T74.setTop (mkF m 290 #[.val (.int p0s), .val (.long p1s), .second, .val (.long p2s), .second, .val (.long p3s), .second, .val (.int nn), .val (.int k0), .val (.int k1), .val (.int k2), .val (.int z44), .val (.int z45), .val (.int z46), .val (.int z47), .val (.int z48), .val (.int z49), .val (.ref aS), .val (.ref aC), .val (.ref aK), .val (.long z66), .second, .val (.long z69), .second, .val (.long z72), .second, .val (.int r_74), .unset, .unset] [(.int r_74)])) := fun tg_ kg_ => by
                    refine r90 tg_ ?_
                    show Steps p.tables e below (T74.setTop (mkF m 283 #[.val (.int p0s), .val (.long p1s), .second, .val (.long p2s), .second, .val (.long p3s), .second, .val (.int nn), .val (.int k0), .val (.int k1), .val (.int k2), .val (.int z44), .val (.int z45), .val (.int z46), .val (.int z47), .val (.int z48), .val (.int z49), .val (.ref aS), .val (.ref aC), .val (.ref aK), .val (.long z66), .second, .val (.long z69), .second, .val (.long z72), .second, .val (.int r_74), .unset, .unset] [(.int nn), (.int r_74)])) _
                    refine XS.icmpYes X74.here hx rfl (pc0 := 283) (pc' := 288) rfl (hb hby at_283) rfl (tlt hc91).1 (by decide) (by decide) ?_
                    show Steps p.tables e below (T74.setTop (mkF m 288 #[.val (.int p0s), .val (.long p1s), .second, .val (.long p2s), .second, .val (.long p3s), .second, .val (.int nn), .val (.int k0), .val (.int k1), .val (.int k2), .val (.int z44), .val (.int z45), .val (.int z46), .val (.int z47), .val (.int z48), .val (.int z49), .val (.ref aS), .val (.ref aC), .val (.ref aK), .val (.long z66), .second, .val (.long z69), .second, .val (.long z72), .second, .val (.int r_74), .unset, .unset] [])) _
                    refine XS.iload X74.here hx rfl (hb hby at_288) rfl ?_
                    exact kg_
                  by_cases hc93 : r_74 = (0 : Int32)
                  · have r94 : own_R p.tables e below F0 (T74.setTop (mkF m 317 #[.val (.int p0s), .val (.long p1s), .second, .val (.long p2s), .second, .val (.long p3s), .second, .val (.int nn), .val (.int k0), .val (.int k1), .val (.int k2), .val (.int z44), .val (.int z45), .val (.int z46), .val (.int z47), .val (.int z48), .val (.int z49), .val (.ref aS), .val (.ref aC), .val (.ref aK), .val (.long z66), .second, .val (.long z69), .second, .val (.long z72), .second, .val (.int r_74), .val (.long z66), .second] [(.int (lcmpW z66 (0 : Int64)))])) := fun tg_ kg_ => by
                      refine r92 tg_ ?_
                      show Steps p.tables e below (T74.setTop (mkF m 290 #[.val (.int p0s), .val (.long p1s), .second, .val (.long p2s), .second, .val (.long p3s), .second, .val (.int nn), .val (.int k0), .val (.int k1), .val (.int k2), .val (.int z44), .val (.int z45), .val (.int z46), .val (.int z47), .val (.int z48), .val (.int z49), .val (.ref aS), .val (.ref aC), .val (.ref aK), .val (.long z66), .second, .val (.long z69), .second, .val (.long z72), .second, .val (.int r_74), .unset, .unset] [(.int r_74)])) _
                      refine XS.ifNo X74.here hx rfl (hb hby at_290) rfl ((if0 _ _).trans (teq hc93).2) ?_
                      show Steps p.tables e below (T74.setTop (mkF m 293 #[.val (.int p0s), .val (.long p1s), .second, .val (.long p2s), .second, .val (.long p3s), .second, .val (.int nn), .val (.int k0), .val (.int k1), .val (.int k2), .val (.int z44), .val (.int z45), .val (.int z46), .val (.int z47), .val (.int z48), .val (.int z49), .val (.ref aS), .val (.ref aC), .val (.ref aK), .val (.long z66), .second, .val (.long z69), .second, .val (.long z72), .second, .val (.int r_74), .unset, .unset] [])) _
                      refine XS.lload X74.here hx rfl (hb hby at_293) rfl ?_
                      show Steps p.tables e below (T74.setTop (mkF m 295 #[.val (.int p0s), .val (.long p1s), .second, .val (.long p2s), .second, .val (.long p3s), .second, .val (.int nn), .val (.int k0), .val (.int k1), .val (.int k2), .val (.int z44), .val (.int z45), .val (.int z46), .val (.int z47), .val (.int z48), .val (.int z49), .val (.ref aS), .val (.ref aC), .val (.ref aK), .val (.long z66), .second, .val (.long z69), .second, .val (.long z72), .second, .val (.int r_74), .unset, .unset] [(.long z66)])) _
                      refine XS.goto X74.here hx rfl (pc0 := 295) (pc' := 311) rfl (hb hby at_295) (by decide) (by decide) ?_
                      show Steps p.tables e below (T74.setTop (mkF m 311 #[.val (.int p0s), .val (.long p1s), .second, .val (.long p2s), .second, .val (.long p3s), .second, .val (.int nn), .val (.int k0), .val (.int k1), .val (.int k2), .val (.int z44), .val (.int z45), .val (.int z46), .val (.int z47), .val (.int z48), .val (.int z49), .val (.ref aS), .val (.ref aC), .val (.ref aK), .val (.long z66), .second, .val (.long z69), .second, .val (.long z72), .second, .val (.int r_74), .unset, .unset] [(.long z66)])) _
                      refine XS.lstore X74.here hx rfl (hb hby at_311) rfl (l' := #[.val (.int p0s), .val (.long p1s), .second, .val (.long p2s), .second, .val (.long p3s), .second, .val (.int nn), .val (.int k0), .val (.int k1), .val (.int k2), .val (.int z44), .val (.int z45), .val (.int z46), .val (.int z47), .val (.int z48), .val (.int z49), .val (.ref aS), .val (.ref aC), .val (.ref aK), .val (.long z66), .second, .val (.long z69), .second, .val (.long z72), .second, .val (.int r_74), .val (.long z66), .second]) rfl ?_
                      show Steps p.tables e below (T74.setTop (mkF m 313 #[.val (.int p0s), .val (.long p1s), .second, .val (.long p2s), .second, .val (.long p3s), .second, .val (.int nn), .val (.int k0), .val (.int k1), .val (.int k2), .val (.int z44), .val (.int z45), .val (.int z46), .val (.int z47), .val (.int z48), .val (.int z49), .val (.ref aS), .val (.ref aC), .val (.ref aK), .val (.long z66), .second, .val (.long z69), .second, .val (.long z72), .second, .val (.int r_74), .val (.long z66), .second] [])) _
                      refine XS.lload X74.here hx rfl (hb hby at_313) rfl ?_
                      show Steps p.tables e below (T74.setTop (mkF m 315 #[.val (.int p0s), .val (.long p1s), .second, .val (.long p2s), .second, .val (.long p3s), .second, .val (.int nn), .val (.int k0), .val (.int k1), .val (.int k2), .val (.int z44), .val (.int z45), .val (.int z46), .val (.int z47), .val (.int z48), .val (.int z49), .val (.ref aS), .val (.ref aC), .val (.ref aK), .val (.long z66), .second, .val (.long z69), .second, .val (.long z72), .second, .val (.int r_74), .val (.long z66), .second] [(.long z66)])) _
                      refine XS.lconst X74.here hx rfl (hb hby at_315) ?_
                      show Steps p.tables e below (T74.setTop (mkF m 316 #[.val (.int p0s), .val (.long p1s), .second, .val (.long p2s), .second, .val (.long p3s), .second, .val (.int nn), .val (.int k0), .val (.int k1), .val (.int k2), .val (.int z44), .val (.int z45), .val (.int z46), .val (.int z47), .val (.int z48), .val (.int z49), .val (.ref aS), .val (.ref aC), .val (.ref aK), .val (.long z66), .second, .val (.long z69), .second, .val (.long z72), .second, .val (.int r_74), .val (.long z66), .second] [(.long (0 : Int64)), (.long z66)])) _
                      refine XS.lcmp X74.here hx rfl (hb hby at_316) rfl ?_
                      exact kg_
                    by_cases hc95 : (0 : Int64) < z66
                    · have r96 : own_R p.tables e below F0 (T74.setTop (mkF m 335 #[.val (.int p0s), .val (.long p1s), .second, .val (.long p2s), .second, .val (.long p3s), .second, .val (.int nn), .val (.int k0), .val (.int k1), .val (.int k2), .val (.int z44), .val (.int z45), .val (.int z46), .val (.int z47), .val (.int z48), .val (.int z49), .val (.ref aS), .val (.ref aC), .val (.ref aK), .val (.long z66), .second, .val (.long z69), .second, .val (.long z72), .second, .val (.int r_74), .val (.long z66), .second] [(.int (lcmpW z66 z69))])) := fun tg_ kg_ => by
                        refine r94 tg_ ?_
                        show Steps p.tables e below (T74.setTop (mkF m 317 #[.val (.int p0s), .val (.long p1s), .second, .val (.long p2s), .second, .val (.long p3s), .second, .val (.int nn), .val (.int k0), .val (.int k1), .val (.int k2), .val (.int z44), .val (.int z45), .val (.int z46), .val (.int z47), .val (.int z48), .val (.int z49), .val (.ref aS), .val (.ref aC), .val (.ref aK), .val (.long z66), .second, .val (.long z69), .second, .val (.long z72), .second, .val (.int r_74), .val (.long z66), .second] [(.int (lcmpW z66 (0 : Int64)))])) _
                        refine XS.ifYes X74.here hx rfl (pc0 := 317) (pc' := 322) rfl (hb hby at_317) rfl (own_l_gt hc95).1 (by decide) (by decide) ?_
                        show Steps p.tables e below (T74.setTop (mkF m 322 #[.val (.int p0s), .val (.long p1s), .second, .val (.long p2s), .second, .val (.long p3s), .second, .val (.int nn), .val (.int k0), .val (.int k1), .val (.int k2), .val (.int z44), .val (.int z45), .val (.int z46), .val (.int z47), .val (.int z48), .val (.int z49), .val (.ref aS), .val (.ref aC), .val (.ref aK), .val (.long z66), .second, .val (.long z69), .second, .val (.long z72), .second, .val (.int r_74), .val (.long z66), .second] [])) _
                        refine XS.lload X74.here hx rfl (hb hby at_322) rfl ?_
                        show Steps p.tables e below (T74.setTop (mkF m 324 #[.val (.int p0s), .val (.long p1s), .second, .val (.long p2s), .second, .val (.long p3s), .second, .val (.int nn), .val (.int k0), .val (.int k1), .val (.int k2), .val (.int z44), .val (.int z45), .val (.int z46), .val (.int z47), .val (.int z48), .val (.int z49), .val (.ref aS), .val (.ref aC), .val (.ref aK), .val (.long z66), .second, .val (.long z69), .second, .val (.long z72), .second, .val (.int r_74), .val (.long z66), .second] [(.long z66)])) _
                        refine XS.lload X74.here hx rfl (hb hby at_324) rfl ?_
                        show Steps p.tables e below (T74.setTop (mkF m 326 #[.val (.int p0s), .val (.long p1s), .second, .val (.long p2s), .second, .val (.long p3s), .second, .val (.int nn), .val (.int k0), .val (.int k1), .val (.int k2), .val (.int z44), .val (.int z45), .val (.int z46), .val (.int z47), .val (.int z48), .val (.int z49), .val (.ref aS), .val (.ref aC), .val (.ref aK), .val (.long z66), .second, .val (.long z69), .second, .val (.long z72), .second, .val (.int r_74), .val (.long z66), .second] [(.long z66), (.long z66)])) _
                        refine XS.lcmp X74.here hx rfl (hb hby at_326) rfl ?_
                        show Steps p.tables e below (T74.setTop (mkF m 327 #[.val (.int p0s), .val (.long p1s), .second, .val (.long p2s), .second, .val (.long p3s), .second, .val (.int nn), .val (.int k0), .val (.int k1), .val (.int k2), .val (.int z44), .val (.int z45), .val (.int z46), .val (.int z47), .val (.int z48), .val (.int z49), .val (.ref aS), .val (.ref aC), .val (.ref aK), .val (.long z66), .second, .val (.long z69), .second, .val (.long z72), .second, .val (.int r_74), .val (.long z66), .second] [(.int (lcmpW z66 z66))])) _
                        refine XS.ifNo X74.here hx rfl (hb hby at_327) rfl (own_l_nlt Int64.lt_irrefl).1 ?_
                        show Steps p.tables e below (T74.setTop (mkF m 330 #[.val (.int p0s), .val (.long p1s), .second, .val (.long p2s), .second, .val (.long p3s), .second, .val (.int nn), .val (.int k0), .val (.int k1), .val (.int k2), .val (.int z44), .val (.int z45), .val (.int z46), .val (.int z47), .val (.int z48), .val (.int z49), .val (.ref aS), .val (.ref aC), .val (.ref aK), .val (.long z66), .second, .val (.long z69), .second, .val (.long z72), .second, .val (.int r_74), .val (.long z66), .second] [])) _
                        refine XS.lload X74.here hx rfl (hb hby at_330) rfl ?_
                        show Steps p.tables e below (T74.setTop (mkF m 332 #[.val (.int p0s), .val (.long p1s), .second, .val (.long p2s), .second, .val (.long p3s), .second, .val (.int nn), .val (.int k0), .val (.int k1), .val (.int k2), .val (.int z44), .val (.int z45), .val (.int z46), .val (.int z47), .val (.int z48), .val (.int z49), .val (.ref aS), .val (.ref aC), .val (.ref aK), .val (.long z66), .second, .val (.long z69), .second, .val (.long z72), .second, .val (.int r_74), .val (.long z66), .second] [(.long z66)])) _
                        refine XS.lload X74.here hx rfl (hb hby at_332) rfl ?_
                        show Steps p.tables e below (T74.setTop (mkF m 334 #[.val (.int p0s), .val (.long p1s), .second, .val (.long p2s), .second, .val (.long p3s), .second, .val (.int nn), .val (.int k0), .val (.int k1), .val (.int k2), .val (.int z44), .val (.int z45), .val (.int z46), .val (.int z47), .val (.int z48), .val (.int z49), .val (.ref aS), .val (.ref aC), .val (.ref aK), .val (.long z66), .second, .val (.long z69), .second, .val (.long z72), .second, .val (.int r_74), .val (.long z66), .second] [(.long z69), (.long z66)])) _
                        refine XS.lcmp X74.here hx rfl (hb hby at_334) rfl ?_
                        exact kg_
                      by_cases hc97 : z66 < z69
                      · have r98 : own_R p.tables e below F0 (T74.setTop (mkF m 347 #[.val (.int p0s), .val (.long p1s), .second, .val (.long p2s), .second, .val (.long p3s), .second, .val (.int nn), .val (.int k0), .val (.int k1), .val (.int k2), .val (.int z44), .val (.int z45), .val (.int z46), .val (.int z47), .val (.int z48), .val (.int z49), .val (.ref aS), .val (.ref aC), .val (.ref aK), .val (.long z66), .second, .val (.long z69), .second, .val (.long z72), .second, .val (.int r_74), .val (.long z66), .second] [(.int (0 : Int32))])) := fun tg_ kg_ => by
                          refine r96 tg_ ?_
                          show Steps p.tables e below (T74.setTop (mkF m 335 #[.val (.int p0s), .val (.long p1s), .second, .val (.long p2s), .second, .val (.long p3s), .second, .val (.int nn), .val (.int k0), .val (.int k1), .val (.int k2), .val (.int z44), .val (.int z45), .val (.int z46), .val (.int z47), .val (.int z48), .val (.int z49), .val (.ref aS), .val (.ref aC), .val (.ref aK), .val (.long z66), .second, .val (.long z69), .second, .val (.long z72), .second, .val (.int r_74), .val (.long z66), .second] [(.int (lcmpW z66 z69))])) _
                          refine XS.ifYes X74.here hx rfl (pc0 := 335) (pc' := 346) rfl (hb hby at_335) rfl (own_l_lt hc97).1 (by decide) (by decide) ?_
                          show Steps p.tables e below (T74.setTop (mkF m 346 #[.val (.int p0s), .val (.long p1s), .second, .val (.long p2s), .second, .val (.long p3s), .second, .val (.int nn), .val (.int k0), .val (.int k1), .val (.int k2), .val (.int z44), .val (.int z45), .val (.int z46), .val (.int z47), .val (.int z48), .val (.int z49), .val (.ref aS), .val (.ref aC), .val (.ref aK), .val (.long z66), .second, .val (.long z69), .second, .val (.long z72), .second, .val (.int r_74), .val (.long z66), .second] [])) _
                          refine XS.iconst X74.here hx rfl (hb hby at_346) ?_
                          exact kg_
                        exfalso
                        have he0 := own_excC (0 : Int32) nn k0 z44 z45 0 N gs gc gk (by decide) hNN (fun q => ⟨own_eq32 (hv.1 q).1, own_eq32 (hv.1 q).2.1, (hv.1 q).2.2⟩) hnn11 hnn12
                        have he1 := own_excC (1 : Int32) nn k1 z46 z47 1 N gs gc gk (by decide) hNN (fun q => ⟨own_eq32 (hv.2.1 q).1, own_eq32 (hv.2.1 q).2.1, (hv.2.1 q).2.2⟩) hnn13 hnn14
                        have he2 := own_excC (2 : Int32) nn k2 z48 z49 2 N gs gc gk (by decide) hNN (fun q => ⟨own_eq32 (hv.2.2 q).1, own_eq32 (hv.2.2 q).2.1, (hv.2.2 q).2.2⟩) hnn15 hnn16
                        have sp := own_spec hN3 he0 he1 he2 I74_1
                        clear hv he0 he1 he2 I74_1
                        have q1092_r := own_R32 r_74
                        have q1093_e : (-1 : Int32).toInt = -1 := (by decide)
                        have q1093_r : (-1 : Int) ≤ (-1 : Int32).toInt ∧ (-1 : Int32).toInt ≤ -1 := ⟨Int.le_of_eq q1093_e.symm, Int.le_of_eq q1093_e⟩
                        have q1094_e : (0 : Int32).toInt = 0 := (by decide)
                        have q1094_r : (0 : Int) ≤ (0 : Int32).toInt ∧ (0 : Int32).toInt ≤ 0 := ⟨Int.le_of_eq q1094_e.symm, Int.le_of_eq q1094_e⟩
                        have q1095_r := own_R32 nn
                        have q1096_e : (0 : Int64).toInt = 0 := (by decide)
                        have q1096_r : (0 : Int) ≤ (0 : Int64).toInt ∧ (0 : Int64).toInt ≤ 0 := ⟨Int.le_of_eq q1096_e.symm, Int.le_of_eq q1096_e⟩
                        have q1097_r := own_R32 k0
                        have q1098_r := own_R32 z44
                        have q1099_r := own_R32 z45
                        have q1100_r := own_R64 (own_exc (0 : Int32) nn k0 z44 z45)
                        have q1101_ := own_eqR64 hz66 q1100_r
                        have q1101_e := q1101_.1
                        have q1101_r := q1101_.2
                        have q1102_e : (1 : Int32).toInt = 1 := (by decide)
                        have q1102_r : (1 : Int) ≤ (1 : Int32).toInt ∧ (1 : Int32).toInt ≤ 1 := ⟨Int.le_of_eq q1102_e.symm, Int.le_of_eq q1102_e⟩
                        have q1103_r := own_R32 k1
                        have q1104_r := own_R32 z46
                        have q1105_r := own_R32 z47
                        have q1106_r := own_R64 (own_exc (1 : Int32) nn k1 z46 z47)
                        have q1107_ := own_eqR64 hz69 q1106_r
                        have q1107_e := q1107_.1
                        have q1107_r := q1107_.2
                        have q1108_c := own_ne32 hc76
                        have q1109_c := own_nlt32 hc88
                        have q1110_c := own_lt32 hc91
                        have q1111_c := own_eq32 hc93
                        have q1112_c := own_lt64 hc95
                        have q1113_c := own_lt64 hc97
                        rcases sp with h | h | h | h <;> omega
                      · have r99 : own_R p.tables e below F0 (T74.setTop (mkF m 343 #[.val (.int p0s), .val (.long p1s), .second, .val (.long p2s), .second, .val (.long p3s), .second, .val (.int nn), .val (.int k0), .val (.int k1), .val (.int k2), .val (.int z44), .val (.int z45), .val (.int z46), .val (.int z47), .val (.int z48), .val (.int z49), .val (.ref aS), .val (.ref aC), .val (.ref aK), .val (.long z66), .second, .val (.long z69), .second, .val (.long z72), .second, .val (.int r_74), .val (.long z66), .second] [(.int (lcmpW z66 z72))])) := fun tg_ kg_ => by
                          refine r96 tg_ ?_
                          show Steps p.tables e below (T74.setTop (mkF m 335 #[.val (.int p0s), .val (.long p1s), .second, .val (.long p2s), .second, .val (.long p3s), .second, .val (.int nn), .val (.int k0), .val (.int k1), .val (.int k2), .val (.int z44), .val (.int z45), .val (.int z46), .val (.int z47), .val (.int z48), .val (.int z49), .val (.ref aS), .val (.ref aC), .val (.ref aK), .val (.long z66), .second, .val (.long z69), .second, .val (.long z72), .second, .val (.int r_74), .val (.long z66), .second] [(.int (lcmpW z66 z69))])) _
                          refine XS.ifNo X74.here hx rfl (hb hby at_335) rfl (own_l_nlt hc97).1 ?_
                          show Steps p.tables e below (T74.setTop (mkF m 338 #[.val (.int p0s), .val (.long p1s), .second, .val (.long p2s), .second, .val (.long p3s), .second, .val (.int nn), .val (.int k0), .val (.int k1), .val (.int k2), .val (.int z44), .val (.int z45), .val (.int z46), .val (.int z47), .val (.int z48), .val (.int z49), .val (.ref aS), .val (.ref aC), .val (.ref aK), .val (.long z66), .second, .val (.long z69), .second, .val (.long z72), .second, .val (.int r_74), .val (.long z66), .second] [])) _
                          refine XS.lload X74.here hx rfl (hb hby at_338) rfl ?_
                          show Steps p.tables e below (T74.setTop (mkF m 340 #[.val (.int p0s), .val (.long p1s), .second, .val (.long p2s), .second, .val (.long p3s), .second, .val (.int nn), .val (.int k0), .val (.int k1), .val (.int k2), .val (.int z44), .val (.int z45), .val (.int z46), .val (.int z47), .val (.int z48), .val (.int z49), .val (.ref aS), .val (.ref aC), .val (.ref aK), .val (.long z66), .second, .val (.long z69), .second, .val (.long z72), .second, .val (.int r_74), .val (.long z66), .second] [(.long z66)])) _
                          refine XS.lload X74.here hx rfl (hb hby at_340) rfl ?_
                          show Steps p.tables e below (T74.setTop (mkF m 342 #[.val (.int p0s), .val (.long p1s), .second, .val (.long p2s), .second, .val (.long p3s), .second, .val (.int nn), .val (.int k0), .val (.int k1), .val (.int k2), .val (.int z44), .val (.int z45), .val (.int z46), .val (.int z47), .val (.int z48), .val (.int z49), .val (.ref aS), .val (.ref aC), .val (.ref aK), .val (.long z66), .second, .val (.long z69), .second, .val (.long z72), .second, .val (.int r_74), .val (.long z66), .second] [(.long z72), (.long z66)])) _
                          refine XS.lcmp X74.here hx rfl (hb hby at_342) rfl ?_
                          exact kg_
                        by_cases hc100 : z66 < z72
                        · have r101 : own_R p.tables e below F0 (T74.setTop (mkF m 347 #[.val (.int p0s), .val (.long p1s), .second, .val (.long p2s), .second, .val (.long p3s), .second, .val (.int nn), .val (.int k0), .val (.int k1), .val (.int k2), .val (.int z44), .val (.int z45), .val (.int z46), .val (.int z47), .val (.int z48), .val (.int z49), .val (.ref aS), .val (.ref aC), .val (.ref aK), .val (.long z66), .second, .val (.long z69), .second, .val (.long z72), .second, .val (.int r_74), .val (.long z66), .second] [(.int (0 : Int32))])) := fun tg_ kg_ => by
                            refine r99 tg_ ?_
                            show Steps p.tables e below (T74.setTop (mkF m 343 #[.val (.int p0s), .val (.long p1s), .second, .val (.long p2s), .second, .val (.long p3s), .second, .val (.int nn), .val (.int k0), .val (.int k1), .val (.int k2), .val (.int z44), .val (.int z45), .val (.int z46), .val (.int z47), .val (.int z48), .val (.int z49), .val (.ref aS), .val (.ref aC), .val (.ref aK), .val (.long z66), .second, .val (.long z69), .second, .val (.long z72), .second, .val (.int r_74), .val (.long z66), .second] [(.int (lcmpW z66 z72))])) _
                            refine XS.ifNo X74.here hx rfl (hb hby at_343) rfl (own_l_lt hc100).2 ?_
                            show Steps p.tables e below (T74.setTop (mkF m 346 #[.val (.int p0s), .val (.long p1s), .second, .val (.long p2s), .second, .val (.long p3s), .second, .val (.int nn), .val (.int k0), .val (.int k1), .val (.int k2), .val (.int z44), .val (.int z45), .val (.int z46), .val (.int z47), .val (.int z48), .val (.int z49), .val (.ref aS), .val (.ref aC), .val (.ref aK), .val (.long z66), .second, .val (.long z69), .second, .val (.long z72), .second, .val (.int r_74), .val (.long z66), .second] [])) _
                            refine XS.iconst X74.here hx rfl (hb hby at_346) ?_
                            exact kg_
                          exfalso
                          have he0 := own_excC (0 : Int32) nn k0 z44 z45 0 N gs gc gk (by decide) hNN (fun q => ⟨own_eq32 (hv.1 q).1, own_eq32 (hv.1 q).2.1, (hv.1 q).2.2⟩) hnn11 hnn12
                          have he1 := own_excC (1 : Int32) nn k1 z46 z47 1 N gs gc gk (by decide) hNN (fun q => ⟨own_eq32 (hv.2.1 q).1, own_eq32 (hv.2.1 q).2.1, (hv.2.1 q).2.2⟩) hnn13 hnn14
                          have he2 := own_excC (2 : Int32) nn k2 z48 z49 2 N gs gc gk (by decide) hNN (fun q => ⟨own_eq32 (hv.2.2 q).1, own_eq32 (hv.2.2 q).2.1, (hv.2.2 q).2.2⟩) hnn15 hnn16
                          have sp := own_spec hN3 he0 he1 he2 I74_1
                          clear hv he0 he1 he2 I74_1
                          have q1114_r := own_R32 r_74
                          have q1115_e : (-1 : Int32).toInt = -1 := (by decide)
                          have q1115_r : (-1 : Int) ≤ (-1 : Int32).toInt ∧ (-1 : Int32).toInt ≤ -1 := ⟨Int.le_of_eq q1115_e.symm, Int.le_of_eq q1115_e⟩
                          have q1116_e : (0 : Int32).toInt = 0 := (by decide)
                          have q1116_r : (0 : Int) ≤ (0 : Int32).toInt ∧ (0 : Int32).toInt ≤ 0 := ⟨Int.le_of_eq q1116_e.symm, Int.le_of_eq q1116_e⟩
                          have q1117_r := own_R32 nn
                          have q1118_e : (0 : Int64).toInt = 0 := (by decide)
                          have q1118_r : (0 : Int) ≤ (0 : Int64).toInt ∧ (0 : Int64).toInt ≤ 0 := ⟨Int.le_of_eq q1118_e.symm, Int.le_of_eq q1118_e⟩
                          have q1119_r := own_R32 k0
                          have q1120_r := own_R32 z44
                          have q1121_r := own_R32 z45
                          have q1122_r := own_R64 (own_exc (0 : Int32) nn k0 z44 z45)
                          have q1123_ := own_eqR64 hz66 q1122_r
                          have q1123_e := q1123_.1
                          have q1123_r := q1123_.2
                          have q1124_e : (1 : Int32).toInt = 1 := (by decide)
                          have q1124_r : (1 : Int) ≤ (1 : Int32).toInt ∧ (1 : Int32).toInt ≤ 1 := ⟨Int.le_of_eq q1124_e.symm, Int.le_of_eq q1124_e⟩
                          have q1125_r := own_R32 k1
                          have q1126_r := own_R32 z46
                          have q1127_r := own_R32 z47
                          have q1128_r := own_R64 (own_exc (1 : Int32) nn k1 z46 z47)
                          have q1129_ := own_eqR64 hz69 q1128_r
                          have q1129_e := q1129_.1
                          have q1129_r := q1129_.2
                          have q1130_e : (2 : Int32).toInt = 2 := (by decide)
                          have q1130_r : (2 : Int) ≤ (2 : Int32).toInt ∧ (2 : Int32).toInt ≤ 2 := ⟨Int.le_of_eq q1130_e.symm, Int.le_of_eq q1130_e⟩
                          have q1131_r := own_R32 k2
                          have q1132_r := own_R32 z48
                          have q1133_r := own_R32 z49
                          have q1134_r := own_R64 (own_exc (2 : Int32) nn k2 z48 z49)
                          have q1135_ := own_eqR64 hz72 q1134_r
                          have q1135_e := q1135_.1
                          have q1135_r := q1135_.2
                          have q1136_c := own_ne32 hc76
                          have q1137_c := own_nlt32 hc88
                          have q1138_c := own_lt32 hc91
                          have q1139_c := own_eq32 hc93
                          have q1140_c := own_lt64 hc95
                          have q1141_c := own_nlt64 hc97
                          have q1142_c := own_lt64 hc100
                          rcases sp with h | h | h | h <;> omega
                        · have r102 : own_R p.tables e below F0 (T74.setTop (mkF m 350 #[.val (.int p0s), .val (.long p1s), .second, .val (.long p2s), .second, .val (.long p3s), .second, .val (.int nn), .val (.int k0), .val (.int k1), .val (.int k2), .val (.int z44), .val (.int z45), .val (.int z46), .val (.int z47), .val (.int z48), .val (.int z49), .val (.ref aS), .val (.ref aC), .val (.ref aK), .val (.long z66), .second, .val (.long z69), .second, .val (.long z72), .second, .val (.int r_74), .val (.long z66), .second] [(.int r_74)])) := fun tg_ kg_ => by
                            refine r99 tg_ ?_
                            show Steps p.tables e below (T74.setTop (mkF m 343 #[.val (.int p0s), .val (.long p1s), .second, .val (.long p2s), .second, .val (.long p3s), .second, .val (.int nn), .val (.int k0), .val (.int k1), .val (.int k2), .val (.int z44), .val (.int z45), .val (.int z46), .val (.int z47), .val (.int z48), .val (.int z49), .val (.ref aS), .val (.ref aC), .val (.ref aK), .val (.long z66), .second, .val (.long z69), .second, .val (.long z72), .second, .val (.int r_74), .val (.long z66), .second] [(.int (lcmpW z66 z72))])) _
                            refine XS.ifYes X74.here hx rfl (pc0 := 343) (pc' := 348) rfl (hb hby at_343) rfl (own_l_nlt hc100).2 (by decide) (by decide) ?_
                            show Steps p.tables e below (T74.setTop (mkF m 348 #[.val (.int p0s), .val (.long p1s), .second, .val (.long p2s), .second, .val (.long p3s), .second, .val (.int nn), .val (.int k0), .val (.int k1), .val (.int k2), .val (.int z44), .val (.int z45), .val (.int z46), .val (.int z47), .val (.int z48), .val (.int z49), .val (.ref aS), .val (.ref aC), .val (.ref aK), .val (.long z66), .second, .val (.long z69), .second, .val (.long z72), .second, .val (.int r_74), .val (.long z66), .second] [])) _
                            refine XS.iload X74.here hx rfl (hb hby at_348) rfl ?_
                            exact kg_
                          by_cases hc103 : (0 : Int32) < r_74
                          · have r104 : own_R p.tables e below F0 (T74.setTop (mkF m 362 #[.val (.int p0s), .val (.long p1s), .second, .val (.long p2s), .second, .val (.long p3s), .second, .val (.int nn), .val (.int k0), .val (.int k1), .val (.int k2), .val (.int z44), .val (.int z45), .val (.int z46), .val (.int z47), .val (.int z48), .val (.int z49), .val (.ref aS), .val (.ref aC), .val (.ref aK), .val (.long z66), .second, .val (.long z69), .second, .val (.long z72), .second, .val (.int r_74), .val (.long z66), .second] [(.int (0 : Int32))])) := fun tg_ kg_ => by
                              refine r102 tg_ ?_
                              show Steps p.tables e below (T74.setTop (mkF m 350 #[.val (.int p0s), .val (.long p1s), .second, .val (.long p2s), .second, .val (.long p3s), .second, .val (.int nn), .val (.int k0), .val (.int k1), .val (.int k2), .val (.int z44), .val (.int z45), .val (.int z46), .val (.int z47), .val (.int z48), .val (.int z49), .val (.ref aS), .val (.ref aC), .val (.ref aK), .val (.long z66), .second, .val (.long z69), .second, .val (.long z72), .second, .val (.int r_74), .val (.long z66), .second] [(.int r_74)])) _
                              refine XS.ifNo X74.here hx rfl (hb hby at_350) rfl ((if0 _ _).trans (tlt hc103).2.2.2) ?_
                              show Steps p.tables e below (T74.setTop (mkF m 353 #[.val (.int p0s), .val (.long p1s), .second, .val (.long p2s), .second, .val (.long p3s), .second, .val (.int nn), .val (.int k0), .val (.int k1), .val (.int k2), .val (.int z44), .val (.int z45), .val (.int z46), .val (.int z47), .val (.int z48), .val (.int z49), .val (.ref aS), .val (.ref aC), .val (.ref aK), .val (.long z66), .second, .val (.long z69), .second, .val (.long z72), .second, .val (.int r_74), .val (.long z66), .second] [])) _
                              refine XS.lload X74.here hx rfl (hb hby at_353) rfl ?_
                              show Steps p.tables e below (T74.setTop (mkF m 355 #[.val (.int p0s), .val (.long p1s), .second, .val (.long p2s), .second, .val (.long p3s), .second, .val (.int nn), .val (.int k0), .val (.int k1), .val (.int k2), .val (.int z44), .val (.int z45), .val (.int z46), .val (.int z47), .val (.int z48), .val (.int z49), .val (.ref aS), .val (.ref aC), .val (.ref aK), .val (.long z66), .second, .val (.long z69), .second, .val (.long z72), .second, .val (.int r_74), .val (.long z66), .second] [(.long z66)])) _
                              refine XS.lload X74.here hx rfl (hb hby at_355) rfl ?_
                              show Steps p.tables e below (T74.setTop (mkF m 357 #[.val (.int p0s), .val (.long p1s), .second, .val (.long p2s), .second, .val (.long p3s), .second, .val (.int nn), .val (.int k0), .val (.int k1), .val (.int k2), .val (.int z44), .val (.int z45), .val (.int z46), .val (.int z47), .val (.int z48), .val (.int z49), .val (.ref aS), .val (.ref aC), .val (.ref aK), .val (.long z66), .second, .val (.long z69), .second, .val (.long z72), .second, .val (.int r_74), .val (.long z66), .second] [(.long z66), (.long z66)])) _
                              refine XS.lcmp X74.here hx rfl (hb hby at_357) rfl ?_
                              show Steps p.tables e below (T74.setTop (mkF m 358 #[.val (.int p0s), .val (.long p1s), .second, .val (.long p2s), .second, .val (.long p3s), .second, .val (.int nn), .val (.int k0), .val (.int k1), .val (.int k2), .val (.int z44), .val (.int z45), .val (.int z46), .val (.int z47), .val (.int z48), .val (.int z49), .val (.ref aS), .val (.ref aC), .val (.ref aK), .val (.long z66), .second, .val (.long z69), .second, .val (.long z72), .second, .val (.int r_74), .val (.long z66), .second] [(.int (lcmpW z66 z66))])) _
                              refine XS.ifNo X74.here hx rfl (hb hby at_358) rfl (own_l_ngt Int64.lt_irrefl).1 ?_
                              show Steps p.tables e below (T74.setTop (mkF m 361 #[.val (.int p0s), .val (.long p1s), .second, .val (.long p2s), .second, .val (.long p3s), .second, .val (.int nn), .val (.int k0), .val (.int k1), .val (.int k2), .val (.int z44), .val (.int z45), .val (.int z46), .val (.int z47), .val (.int z48), .val (.int z49), .val (.ref aS), .val (.ref aC), .val (.ref aK), .val (.long z66), .second, .val (.long z69), .second, .val (.long z72), .second, .val (.int r_74), .val (.long z66), .second] [])) _
                              refine XS.iconst X74.here hx rfl (hb hby at_361) ?_
                              exact kg_
                            exfalso
                            have he0 := own_excC (0 : Int32) nn k0 z44 z45 0 N gs gc gk (by decide) hNN (fun q => ⟨own_eq32 (hv.1 q).1, own_eq32 (hv.1 q).2.1, (hv.1 q).2.2⟩) hnn11 hnn12
                            have he1 := own_excC (1 : Int32) nn k1 z46 z47 1 N gs gc gk (by decide) hNN (fun q => ⟨own_eq32 (hv.2.1 q).1, own_eq32 (hv.2.1 q).2.1, (hv.2.1 q).2.2⟩) hnn13 hnn14
                            have he2 := own_excC (2 : Int32) nn k2 z48 z49 2 N gs gc gk (by decide) hNN (fun q => ⟨own_eq32 (hv.2.2 q).1, own_eq32 (hv.2.2 q).2.1, (hv.2.2 q).2.2⟩) hnn15 hnn16
                            have sp := own_spec hN3 he0 he1 he2 I74_1
                            clear hv he0 he1 he2 I74_1
                            have q1143_r := own_R32 r_74
                            have q1144_e : (-1 : Int32).toInt = -1 := (by decide)
                            have q1144_r : (-1 : Int) ≤ (-1 : Int32).toInt ∧ (-1 : Int32).toInt ≤ -1 := ⟨Int.le_of_eq q1144_e.symm, Int.le_of_eq q1144_e⟩
                            have q1145_e : (0 : Int32).toInt = 0 := (by decide)
                            have q1145_r : (0 : Int) ≤ (0 : Int32).toInt ∧ (0 : Int32).toInt ≤ 0 := ⟨Int.le_of_eq q1145_e.symm, Int.le_of_eq q1145_e⟩
                            have q1146_r := own_R32 nn
                            have q1147_e : (0 : Int64).toInt = 0 := (by decide)
                            have q1147_r : (0 : Int) ≤ (0 : Int64).toInt ∧ (0 : Int64).toInt ≤ 0 := ⟨Int.le_of_eq q1147_e.symm, Int.le_of_eq q1147_e⟩
                            have q1148_r := own_R32 k0
                            have q1149_r := own_R32 z44
                            have q1150_r := own_R32 z45
                            have q1151_r := own_R64 (own_exc (0 : Int32) nn k0 z44 z45)
                            have q1152_ := own_eqR64 hz66 q1151_r
                            have q1152_e := q1152_.1
                            have q1152_r := q1152_.2
                            have q1153_e : (1 : Int32).toInt = 1 := (by decide)
                            have q1153_r : (1 : Int) ≤ (1 : Int32).toInt ∧ (1 : Int32).toInt ≤ 1 := ⟨Int.le_of_eq q1153_e.symm, Int.le_of_eq q1153_e⟩
                            have q1154_r := own_R32 k1
                            have q1155_r := own_R32 z46
                            have q1156_r := own_R32 z47
                            have q1157_r := own_R64 (own_exc (1 : Int32) nn k1 z46 z47)
                            have q1158_ := own_eqR64 hz69 q1157_r
                            have q1158_e := q1158_.1
                            have q1158_r := q1158_.2
                            have q1159_e : (2 : Int32).toInt = 2 := (by decide)
                            have q1159_r : (2 : Int) ≤ (2 : Int32).toInt ∧ (2 : Int32).toInt ≤ 2 := ⟨Int.le_of_eq q1159_e.symm, Int.le_of_eq q1159_e⟩
                            have q1160_r := own_R32 k2
                            have q1161_r := own_R32 z48
                            have q1162_r := own_R32 z49
                            have q1163_r := own_R64 (own_exc (2 : Int32) nn k2 z48 z49)
                            have q1164_ := own_eqR64 hz72 q1163_r
                            have q1164_e := q1164_.1
                            have q1164_r := q1164_.2
                            have q1165_c := own_ne32 hc76
                            have q1166_c := own_nlt32 hc88
                            have q1167_c := own_lt32 hc91
                            have q1168_c := own_eq32 hc93
                            have q1169_c := own_lt64 hc95
                            have q1170_c := own_nlt64 hc97
                            have q1171_c := own_nlt64 hc100
                            have q1172_c := own_lt32 hc103
                            rcases sp with h | h | h | h <;> omega
                          · have r105 : own_R p.tables e below F0 (T74.setTop (mkF m 366 #[.val (.int p0s), .val (.long p1s), .second, .val (.long p2s), .second, .val (.long p3s), .second, .val (.int nn), .val (.int k0), .val (.int k1), .val (.int k2), .val (.int z44), .val (.int z45), .val (.int z46), .val (.int z47), .val (.int z48), .val (.int z49), .val (.ref aS), .val (.ref aC), .val (.ref aK), .val (.long z66), .second, .val (.long z69), .second, .val (.long z72), .second, .val (.int r_74), .val (.long z66), .second] [(.int (1 : Int32)), (.int r_74)])) := fun tg_ kg_ => by
                              refine r102 tg_ ?_
                              show Steps p.tables e below (T74.setTop (mkF m 350 #[.val (.int p0s), .val (.long p1s), .second, .val (.long p2s), .second, .val (.long p3s), .second, .val (.int nn), .val (.int k0), .val (.int k1), .val (.int k2), .val (.int z44), .val (.int z45), .val (.int z46), .val (.int z47), .val (.int z48), .val (.int z49), .val (.ref aS), .val (.ref aC), .val (.ref aK), .val (.long z66), .second, .val (.long z69), .second, .val (.long z72), .second, .val (.int r_74), .val (.long z66), .second] [(.int r_74)])) _
                              refine XS.ifYes X74.here hx rfl (pc0 := 350) (pc' := 363) rfl (hb hby at_350) rfl ((if0 _ _).trans (flt hc103).2.2.2) (by decide) (by decide) ?_
                              show Steps p.tables e below (T74.setTop (mkF m 363 #[.val (.int p0s), .val (.long p1s), .second, .val (.long p2s), .second, .val (.long p3s), .second, .val (.int nn), .val (.int k0), .val (.int k1), .val (.int k2), .val (.int z44), .val (.int z45), .val (.int z46), .val (.int z47), .val (.int z48), .val (.int z49), .val (.ref aS), .val (.ref aC), .val (.ref aK), .val (.long z66), .second, .val (.long z69), .second, .val (.long z72), .second, .val (.int r_74), .val (.long z66), .second] [])) _
                              refine XS.iload X74.here hx rfl (hb hby at_363) rfl ?_
                              show Steps p.tables e below (T74.setTop (mkF m 365 #[.val (.int p0s), .val (.long p1s), .second, .val (.long p2s), .second, .val (.long p3s), .second, .val (.int nn), .val (.int k0), .val (.int k1), .val (.int k2), .val (.int z44), .val (.int z45), .val (.int z46), .val (.int z47), .val (.int z48), .val (.int z49), .val (.ref aS), .val (.ref aC), .val (.ref aK), .val (.long z66), .second, .val (.long z69), .second, .val (.long z72), .second, .val (.int r_74), .val (.long z66), .second] [(.int r_74)])) _
                              refine XS.iconst X74.here hx rfl (hb hby at_365) ?_
                              exact kg_
                            by_cases hc106 : (1 : Int32) < r_74
                            · have r107 : own_R p.tables e below F0 (T74.setTop (mkF m 374 #[.val (.int p0s), .val (.long p1s), .second, .val (.long p2s), .second, .val (.long p3s), .second, .val (.int nn), .val (.int k0), .val (.int k1), .val (.int k2), .val (.int z44), .val (.int z45), .val (.int z46), .val (.int z47), .val (.int z48), .val (.int z49), .val (.ref aS), .val (.ref aC), .val (.ref aK), .val (.long z66), .second, .val (.long z69), .second, .val (.long z72), .second, .val (.int r_74), .val (.long z66), .second] [(.int (lcmpW z66 z69))])) := fun tg_ kg_ => by
                                refine r105 tg_ ?_
                                show Steps p.tables e below (T74.setTop (mkF m 366 #[.val (.int p0s), .val (.long p1s), .second, .val (.long p2s), .second, .val (.long p3s), .second, .val (.int nn), .val (.int k0), .val (.int k1), .val (.int k2), .val (.int z44), .val (.int z45), .val (.int z46), .val (.int z47), .val (.int z48), .val (.int z49), .val (.ref aS), .val (.ref aC), .val (.ref aK), .val (.long z66), .second, .val (.long z69), .second, .val (.long z72), .second, .val (.int r_74), .val (.long z66), .second] [(.int (1 : Int32)), (.int r_74)])) _
                                refine XS.icmpNo X74.here hx rfl (hb hby at_366) rfl (tlt hc106).2.2.2 ?_
                                show Steps p.tables e below (T74.setTop (mkF m 369 #[.val (.int p0s), .val (.long p1s), .second, .val (.long p2s), .second, .val (.long p3s), .second, .val (.int nn), .val (.int k0), .val (.int k1), .val (.int k2), .val (.int z44), .val (.int z45), .val (.int z46), .val (.int z47), .val (.int z48), .val (.int z49), .val (.ref aS), .val (.ref aC), .val (.ref aK), .val (.long z66), .second, .val (.long z69), .second, .val (.long z72), .second, .val (.int r_74), .val (.long z66), .second] [])) _
                                refine XS.lload X74.here hx rfl (hb hby at_369) rfl ?_
                                show Steps p.tables e below (T74.setTop (mkF m 371 #[.val (.int p0s), .val (.long p1s), .second, .val (.long p2s), .second, .val (.long p3s), .second, .val (.int nn), .val (.int k0), .val (.int k1), .val (.int k2), .val (.int z44), .val (.int z45), .val (.int z46), .val (.int z47), .val (.int z48), .val (.int z49), .val (.ref aS), .val (.ref aC), .val (.ref aK), .val (.long z66), .second, .val (.long z69), .second, .val (.long z72), .second, .val (.int r_74), .val (.long z66), .second] [(.long z66)])) _
                                refine XS.lload X74.here hx rfl (hb hby at_371) rfl ?_
                                show Steps p.tables e below (T74.setTop (mkF m 373 #[.val (.int p0s), .val (.long p1s), .second, .val (.long p2s), .second, .val (.long p3s), .second, .val (.int nn), .val (.int k0), .val (.int k1), .val (.int k2), .val (.int z44), .val (.int z45), .val (.int z46), .val (.int z47), .val (.int z48), .val (.int z49), .val (.ref aS), .val (.ref aC), .val (.ref aK), .val (.long z66), .second, .val (.long z69), .second, .val (.long z72), .second, .val (.int r_74), .val (.long z66), .second] [(.long z69), (.long z66)])) _
                                refine XS.lcmp X74.here hx rfl (hb hby at_373) rfl ?_
                                exact kg_
                              by_cases hc108 : z69 < z66
                              · have r109 : own_R p.tables e below F0 (T74.setTop (mkF m 380 #[.val (.int p0s), .val (.long p1s), .second, .val (.long p2s), .second, .val (.long p3s), .second, .val (.int nn), .val (.int k0), .val (.int k1), .val (.int k2), .val (.int z44), .val (.int z45), .val (.int z46), .val (.int z47), .val (.int z48), .val (.int z49), .val (.ref aS), .val (.ref aC), .val (.ref aK), .val (.long z66), .second, .val (.long z69), .second, .val (.long z72), .second, .val (.int r_74), .val (.long z66), .second] [(.int (1 : Int32))])) := fun tg_ kg_ => by
                                  refine r107 tg_ ?_
                                  show Steps p.tables e below (T74.setTop (mkF m 374 #[.val (.int p0s), .val (.long p1s), .second, .val (.long p2s), .second, .val (.long p3s), .second, .val (.int nn), .val (.int k0), .val (.int k1), .val (.int k2), .val (.int z44), .val (.int z45), .val (.int z46), .val (.int z47), .val (.int z48), .val (.int z49), .val (.ref aS), .val (.ref aC), .val (.ref aK), .val (.long z66), .second, .val (.long z69), .second, .val (.long z72), .second, .val (.int r_74), .val (.long z66), .second] [(.int (lcmpW z66 z69))])) _
                                  refine XS.ifYes X74.here hx rfl (pc0 := 374) (pc' := 379) rfl (hb hby at_374) rfl (own_l_gt hc108).1 (by decide) (by decide) ?_
                                  show Steps p.tables e below (T74.setTop (mkF m 379 #[.val (.int p0s), .val (.long p1s), .second, .val (.long p2s), .second, .val (.long p3s), .second, .val (.int nn), .val (.int k0), .val (.int k1), .val (.int k2), .val (.int z44), .val (.int z45), .val (.int z46), .val (.int z47), .val (.int z48), .val (.int z49), .val (.ref aS), .val (.ref aC), .val (.ref aK), .val (.long z66), .second, .val (.long z69), .second, .val (.long z72), .second, .val (.int r_74), .val (.long z66), .second] [])) _
                                  refine XS.iconst X74.here hx rfl (hb hby at_379) ?_
                                  exact kg_
                                refine hG (own_fin X74 hlk (some (.int (nar .boolean (1 : Int32)))) (own_hv Bd.returns) ?_ (by decide) (by decide) (fun fs hr => r109 _ (retN X74 hx (t := .boolean) Bd.returns (by simp) (hb hby at_380) hr)))
                                rw [I74_0]
                                exact ⟨rfl, N74⟩
                              · have r110 : own_R p.tables e below F0 (T74.setTop (mkF m 378 #[.val (.int p0s), .val (.long p1s), .second, .val (.long p2s), .second, .val (.long p3s), .second, .val (.int nn), .val (.int k0), .val (.int k1), .val (.int k2), .val (.int z44), .val (.int z45), .val (.int z46), .val (.int z47), .val (.int z48), .val (.int z49), .val (.ref aS), .val (.ref aC), .val (.ref aK), .val (.long z66), .second, .val (.long z69), .second, .val (.long z72), .second, .val (.int r_74), .val (.long z66), .second] [(.int (0 : Int32))])) := fun tg_ kg_ => by
                                  refine r107 tg_ ?_
                                  show Steps p.tables e below (T74.setTop (mkF m 374 #[.val (.int p0s), .val (.long p1s), .second, .val (.long p2s), .second, .val (.long p3s), .second, .val (.int nn), .val (.int k0), .val (.int k1), .val (.int k2), .val (.int z44), .val (.int z45), .val (.int z46), .val (.int z47), .val (.int z48), .val (.int z49), .val (.ref aS), .val (.ref aC), .val (.ref aK), .val (.long z66), .second, .val (.long z69), .second, .val (.long z72), .second, .val (.int r_74), .val (.long z66), .second] [(.int (lcmpW z66 z69))])) _
                                  refine XS.ifNo X74.here hx rfl (hb hby at_374) rfl (own_l_ngt hc108).1 ?_
                                  show Steps p.tables e below (T74.setTop (mkF m 377 #[.val (.int p0s), .val (.long p1s), .second, .val (.long p2s), .second, .val (.long p3s), .second, .val (.int nn), .val (.int k0), .val (.int k1), .val (.int k2), .val (.int z44), .val (.int z45), .val (.int z46), .val (.int z47), .val (.int z48), .val (.int z49), .val (.ref aS), .val (.ref aC), .val (.ref aK), .val (.long z66), .second, .val (.long z69), .second, .val (.long z72), .second, .val (.int r_74), .val (.long z66), .second] [])) _
                                  refine XS.iconst X74.here hx rfl (hb hby at_377) ?_
                                  exact kg_
                                exfalso
                                have he0 := own_excC (0 : Int32) nn k0 z44 z45 0 N gs gc gk (by decide) hNN (fun q => ⟨own_eq32 (hv.1 q).1, own_eq32 (hv.1 q).2.1, (hv.1 q).2.2⟩) hnn11 hnn12
                                have he1 := own_excC (1 : Int32) nn k1 z46 z47 1 N gs gc gk (by decide) hNN (fun q => ⟨own_eq32 (hv.2.1 q).1, own_eq32 (hv.2.1 q).2.1, (hv.2.1 q).2.2⟩) hnn13 hnn14
                                have he2 := own_excC (2 : Int32) nn k2 z48 z49 2 N gs gc gk (by decide) hNN (fun q => ⟨own_eq32 (hv.2.2 q).1, own_eq32 (hv.2.2 q).2.1, (hv.2.2 q).2.2⟩) hnn15 hnn16
                                have sp := own_spec hN3 he0 he1 he2 I74_1
                                clear hv he0 he1 he2 I74_1
                                have q1173_r := own_R32 r_74
                                have q1174_e : (-1 : Int32).toInt = -1 := (by decide)
                                have q1174_r : (-1 : Int) ≤ (-1 : Int32).toInt ∧ (-1 : Int32).toInt ≤ -1 := ⟨Int.le_of_eq q1174_e.symm, Int.le_of_eq q1174_e⟩
                                have q1175_e : (0 : Int32).toInt = 0 := (by decide)
                                have q1175_r : (0 : Int) ≤ (0 : Int32).toInt ∧ (0 : Int32).toInt ≤ 0 := ⟨Int.le_of_eq q1175_e.symm, Int.le_of_eq q1175_e⟩
                                have q1176_r := own_R32 nn
                                have q1177_e : (0 : Int64).toInt = 0 := (by decide)
                                have q1177_r : (0 : Int) ≤ (0 : Int64).toInt ∧ (0 : Int64).toInt ≤ 0 := ⟨Int.le_of_eq q1177_e.symm, Int.le_of_eq q1177_e⟩
                                have q1178_r := own_R32 k0
                                have q1179_r := own_R32 z44
                                have q1180_r := own_R32 z45
                                have q1181_r := own_R64 (own_exc (0 : Int32) nn k0 z44 z45)
                                have q1182_ := own_eqR64 hz66 q1181_r
                                have q1182_e := q1182_.1
                                have q1182_r := q1182_.2
                                have q1183_e : (1 : Int32).toInt = 1 := (by decide)
                                have q1183_r : (1 : Int) ≤ (1 : Int32).toInt ∧ (1 : Int32).toInt ≤ 1 := ⟨Int.le_of_eq q1183_e.symm, Int.le_of_eq q1183_e⟩
                                have q1184_r := own_R32 k1
                                have q1185_r := own_R32 z46
                                have q1186_r := own_R32 z47
                                have q1187_r := own_R64 (own_exc (1 : Int32) nn k1 z46 z47)
                                have q1188_ := own_eqR64 hz69 q1187_r
                                have q1188_e := q1188_.1
                                have q1188_r := q1188_.2
                                have q1189_e : (2 : Int32).toInt = 2 := (by decide)
                                have q1189_r : (2 : Int) ≤ (2 : Int32).toInt ∧ (2 : Int32).toInt ≤ 2 := ⟨Int.le_of_eq q1189_e.symm, Int.le_of_eq q1189_e⟩
                                have q1190_r := own_R32 k2
                                have q1191_r := own_R32 z48
                                have q1192_r := own_R32 z49
                                have q1193_r := own_R64 (own_exc (2 : Int32) nn k2 z48 z49)
                                have q1194_ := own_eqR64 hz72 q1193_r
                                have q1194_e := q1194_.1
                                have q1194_r := q1194_.2
                                have q1195_c := own_ne32 hc76
                                have q1196_c := own_nlt32 hc88
                                have q1197_c := own_lt32 hc91
                                have q1198_c := own_eq32 hc93
                                have q1199_c := own_lt64 hc95
                                have q1200_c := own_nlt64 hc97
                                have q1201_c := own_nlt64 hc100
                                have q1202_c := own_nlt32 hc103
                                have q1203_c := own_lt32 hc106
                                have q1204_c := own_nlt64 hc108
                                rcases sp with h | h | h | h <;> omega
                            · have r111 : own_R p.tables e below F0 (T74.setTop (mkF m 380 #[.val (.int p0s), .val (.long p1s), .second, .val (.long p2s), .second, .val (.long p3s), .second, .val (.int nn), .val (.int k0), .val (.int k1), .val (.int k2), .val (.int z44), .val (.int z45), .val (.int z46), .val (.int z47), .val (.int z48), .val (.int z49), .val (.ref aS), .val (.ref aC), .val (.ref aK), .val (.long z66), .second, .val (.long z69), .second, .val (.long z72), .second, .val (.int r_74), .val (.long z66), .second] [(.int (1 : Int32))])) := fun tg_ kg_ => by
                                refine r105 tg_ ?_
                                show Steps p.tables e below (T74.setTop (mkF m 366 #[.val (.int p0s), .val (.long p1s), .second, .val (.long p2s), .second, .val (.long p3s), .second, .val (.int nn), .val (.int k0), .val (.int k1), .val (.int k2), .val (.int z44), .val (.int z45), .val (.int z46), .val (.int z47), .val (.int z48), .val (.int z49), .val (.ref aS), .val (.ref aC), .val (.ref aK), .val (.long z66), .second, .val (.long z69), .second, .val (.long z72), .second, .val (.int r_74), .val (.long z66), .second] [(.int (1 : Int32)), (.int r_74)])) _
                                refine XS.icmpYes X74.here hx rfl (pc0 := 366) (pc' := 379) rfl (hb hby at_366) rfl (flt hc106).2.2.2 (by decide) (by decide) ?_
                                show Steps p.tables e below (T74.setTop (mkF m 379 #[.val (.int p0s), .val (.long p1s), .second, .val (.long p2s), .second, .val (.long p3s), .second, .val (.int nn), .val (.int k0), .val (.int k1), .val (.int k2), .val (.int z44), .val (.int z45), .val (.int z46), .val (.int z47), .val (.int z48), .val (.int z49), .val (.ref aS), .val (.ref aC), .val (.ref aK), .val (.long z66), .second, .val (.long z69), .second, .val (.long z72), .second, .val (.int r_74), .val (.long z66), .second] [])) _
                                refine XS.iconst X74.here hx rfl (hb hby at_379) ?_
                                exact kg_
                              refine hG (own_fin X74 hlk (some (.int (nar .boolean (1 : Int32)))) (own_hv Bd.returns) ?_ (by decide) (by decide) (fun fs hr => r111 _ (retN X74 hx (t := .boolean) Bd.returns (by simp) (hb hby at_380) hr)))
                              rw [I74_0]
                              exact ⟨rfl, N74⟩
                    · have r112 : own_R p.tables e below F0 (T74.setTop (mkF m 321 #[.val (.int p0s), .val (.long p1s), .second, .val (.long p2s), .second, .val (.long p3s), .second, .val (.int nn), .val (.int k0), .val (.int k1), .val (.int k2), .val (.int z44), .val (.int z45), .val (.int z46), .val (.int z47), .val (.int z48), .val (.int z49), .val (.ref aS), .val (.ref aC), .val (.ref aK), .val (.long z66), .second, .val (.long z69), .second, .val (.long z72), .second, .val (.int r_74), .val (.long z66), .second] [(.int (0 : Int32))])) := fun tg_ kg_ => by
                        refine r94 tg_ ?_
                        show Steps p.tables e below (T74.setTop (mkF m 317 #[.val (.int p0s), .val (.long p1s), .second, .val (.long p2s), .second, .val (.long p3s), .second, .val (.int nn), .val (.int k0), .val (.int k1), .val (.int k2), .val (.int z44), .val (.int z45), .val (.int z46), .val (.int z47), .val (.int z48), .val (.int z49), .val (.ref aS), .val (.ref aC), .val (.ref aK), .val (.long z66), .second, .val (.long z69), .second, .val (.long z72), .second, .val (.int r_74), .val (.long z66), .second] [(.int (lcmpW z66 (0 : Int64)))])) _
                        refine XS.ifNo X74.here hx rfl (hb hby at_317) rfl (own_l_ngt hc95).1 ?_
                        show Steps p.tables e below (T74.setTop (mkF m 320 #[.val (.int p0s), .val (.long p1s), .second, .val (.long p2s), .second, .val (.long p3s), .second, .val (.int nn), .val (.int k0), .val (.int k1), .val (.int k2), .val (.int z44), .val (.int z45), .val (.int z46), .val (.int z47), .val (.int z48), .val (.int z49), .val (.ref aS), .val (.ref aC), .val (.ref aK), .val (.long z66), .second, .val (.long z69), .second, .val (.long z72), .second, .val (.int r_74), .val (.long z66), .second] [])) _
                        refine XS.iconst X74.here hx rfl (hb hby at_320) ?_
                        exact kg_
                      exfalso
                      have he0 := own_excC (0 : Int32) nn k0 z44 z45 0 N gs gc gk (by decide) hNN (fun q => ⟨own_eq32 (hv.1 q).1, own_eq32 (hv.1 q).2.1, (hv.1 q).2.2⟩) hnn11 hnn12
                      have he1 := own_excC (1 : Int32) nn k1 z46 z47 1 N gs gc gk (by decide) hNN (fun q => ⟨own_eq32 (hv.2.1 q).1, own_eq32 (hv.2.1 q).2.1, (hv.2.1 q).2.2⟩) hnn13 hnn14
                      have he2 := own_excC (2 : Int32) nn k2 z48 z49 2 N gs gc gk (by decide) hNN (fun q => ⟨own_eq32 (hv.2.2 q).1, own_eq32 (hv.2.2 q).2.1, (hv.2.2 q).2.2⟩) hnn15 hnn16
                      have sp := own_spec hN3 he0 he1 he2 I74_1
                      clear hv he0 he1 he2 I74_1
                      have q1205_r := own_R32 r_74
                      have q1206_e : (-1 : Int32).toInt = -1 := (by decide)
                      have q1206_r : (-1 : Int) ≤ (-1 : Int32).toInt ∧ (-1 : Int32).toInt ≤ -1 := ⟨Int.le_of_eq q1206_e.symm, Int.le_of_eq q1206_e⟩
                      have q1207_e : (0 : Int32).toInt = 0 := (by decide)
                      have q1207_r : (0 : Int) ≤ (0 : Int32).toInt ∧ (0 : Int32).toInt ≤ 0 := ⟨Int.le_of_eq q1207_e.symm, Int.le_of_eq q1207_e⟩
                      have q1208_r := own_R32 nn
                      have q1209_e : (0 : Int64).toInt = 0 := (by decide)
                      have q1209_r : (0 : Int) ≤ (0 : Int64).toInt ∧ (0 : Int64).toInt ≤ 0 := ⟨Int.le_of_eq q1209_e.symm, Int.le_of_eq q1209_e⟩
                      have q1210_r := own_R32 k0
                      have q1211_r := own_R32 z44
                      have q1212_r := own_R32 z45
                      have q1213_r := own_R64 (own_exc (0 : Int32) nn k0 z44 z45)
                      have q1214_ := own_eqR64 hz66 q1213_r
                      have q1214_e := q1214_.1
                      have q1214_r := q1214_.2
                      have q1215_c := own_ne32 hc76
                      have q1216_c := own_nlt32 hc88
                      have q1217_c := own_lt32 hc91
                      have q1218_c := own_eq32 hc93
                      have q1219_c := own_nlt64 hc95
                      rcases sp with h | h | h | h <;> omega
                  · have r113 : own_R p.tables e below F0 (T74.setTop (mkF m 301 #[.val (.int p0s), .val (.long p1s), .second, .val (.long p2s), .second, .val (.long p3s), .second, .val (.int nn), .val (.int k0), .val (.int k1), .val (.int k2), .val (.int z44), .val (.int z45), .val (.int z46), .val (.int z47), .val (.int z48), .val (.int z49), .val (.ref aS), .val (.ref aC), .val (.ref aK), .val (.long z66), .second, .val (.long z69), .second, .val (.long z72), .second, .val (.int r_74), .unset, .unset] [(.int (1 : Int32)), (.int r_74)])) := fun tg_ kg_ => by
                      refine r92 tg_ ?_
                      show Steps p.tables e below (T74.setTop (mkF m 290 #[.val (.int p0s), .val (.long p1s), .second, .val (.long p2s), .second, .val (.long p3s), .second, .val (.int nn), .val (.int k0), .val (.int k1), .val (.int k2), .val (.int z44), .val (.int z45), .val (.int z46), .val (.int z47), .val (.int z48), .val (.int z49), .val (.ref aS), .val (.ref aC), .val (.ref aK), .val (.long z66), .second, .val (.long z69), .second, .val (.long z72), .second, .val (.int r_74), .unset, .unset] [(.int r_74)])) _
                      refine XS.ifYes X74.here hx rfl (pc0 := 290) (pc' := 298) rfl (hb hby at_290) rfl ((if0 _ _).trans (feq hc93).2) (by decide) (by decide) ?_
                      show Steps p.tables e below (T74.setTop (mkF m 298 #[.val (.int p0s), .val (.long p1s), .second, .val (.long p2s), .second, .val (.long p3s), .second, .val (.int nn), .val (.int k0), .val (.int k1), .val (.int k2), .val (.int z44), .val (.int z45), .val (.int z46), .val (.int z47), .val (.int z48), .val (.int z49), .val (.ref aS), .val (.ref aC), .val (.ref aK), .val (.long z66), .second, .val (.long z69), .second, .val (.long z72), .second, .val (.int r_74), .unset, .unset] [])) _
                      refine XS.iload X74.here hx rfl (hb hby at_298) rfl ?_
                      show Steps p.tables e below (T74.setTop (mkF m 300 #[.val (.int p0s), .val (.long p1s), .second, .val (.long p2s), .second, .val (.long p3s), .second, .val (.int nn), .val (.int k0), .val (.int k1), .val (.int k2), .val (.int z44), .val (.int z45), .val (.int z46), .val (.int z47), .val (.int z48), .val (.int z49), .val (.ref aS), .val (.ref aC), .val (.ref aK), .val (.long z66), .second, .val (.long z69), .second, .val (.long z72), .second, .val (.int r_74), .unset, .unset] [(.int r_74)])) _
                      refine XS.iconst X74.here hx rfl (hb hby at_300) ?_
                      exact kg_
                    by_cases hc114 : r_74 = (1 : Int32)
                    · have r115 : own_R p.tables e below F0 (T74.setTop (mkF m 317 #[.val (.int p0s), .val (.long p1s), .second, .val (.long p2s), .second, .val (.long p3s), .second, .val (.int nn), .val (.int k0), .val (.int k1), .val (.int k2), .val (.int z44), .val (.int z45), .val (.int z46), .val (.int z47), .val (.int z48), .val (.int z49), .val (.ref aS), .val (.ref aC), .val (.ref aK), .val (.long z66), .second, .val (.long z69), .second, .val (.long z72), .second, .val (.int r_74), .val (.long z69), .second] [(.int (lcmpW z69 (0 : Int64)))])) := fun tg_ kg_ => by
                        refine r113 tg_ ?_
                        show Steps p.tables e below (T74.setTop (mkF m 301 #[.val (.int p0s), .val (.long p1s), .second, .val (.long p2s), .second, .val (.long p3s), .second, .val (.int nn), .val (.int k0), .val (.int k1), .val (.int k2), .val (.int z44), .val (.int z45), .val (.int z46), .val (.int z47), .val (.int z48), .val (.int z49), .val (.ref aS), .val (.ref aC), .val (.ref aK), .val (.long z66), .second, .val (.long z69), .second, .val (.long z72), .second, .val (.int r_74), .unset, .unset] [(.int (1 : Int32)), (.int r_74)])) _
                        refine XS.icmpNo X74.here hx rfl (hb hby at_301) rfl (teq hc114).2 ?_
                        show Steps p.tables e below (T74.setTop (mkF m 304 #[.val (.int p0s), .val (.long p1s), .second, .val (.long p2s), .second, .val (.long p3s), .second, .val (.int nn), .val (.int k0), .val (.int k1), .val (.int k2), .val (.int z44), .val (.int z45), .val (.int z46), .val (.int z47), .val (.int z48), .val (.int z49), .val (.ref aS), .val (.ref aC), .val (.ref aK), .val (.long z66), .second, .val (.long z69), .second, .val (.long z72), .second, .val (.int r_74), .unset, .unset] [])) _
                        refine XS.lload X74.here hx rfl (hb hby at_304) rfl ?_
                        show Steps p.tables e below (T74.setTop (mkF m 306 #[.val (.int p0s), .val (.long p1s), .second, .val (.long p2s), .second, .val (.long p3s), .second, .val (.int nn), .val (.int k0), .val (.int k1), .val (.int k2), .val (.int z44), .val (.int z45), .val (.int z46), .val (.int z47), .val (.int z48), .val (.int z49), .val (.ref aS), .val (.ref aC), .val (.ref aK), .val (.long z66), .second, .val (.long z69), .second, .val (.long z72), .second, .val (.int r_74), .unset, .unset] [(.long z69)])) _
                        refine XS.goto X74.here hx rfl (pc0 := 306) (pc' := 311) rfl (hb hby at_306) (by decide) (by decide) ?_
                        show Steps p.tables e below (T74.setTop (mkF m 311 #[.val (.int p0s), .val (.long p1s), .second, .val (.long p2s), .second, .val (.long p3s), .second, .val (.int nn), .val (.int k0), .val (.int k1), .val (.int k2), .val (.int z44), .val (.int z45), .val (.int z46), .val (.int z47), .val (.int z48), .val (.int z49), .val (.ref aS), .val (.ref aC), .val (.ref aK), .val (.long z66), .second, .val (.long z69), .second, .val (.long z72), .second, .val (.int r_74), .unset, .unset] [(.long z69)])) _
                        refine XS.lstore X74.here hx rfl (hb hby at_311) rfl (l' := #[.val (.int p0s), .val (.long p1s), .second, .val (.long p2s), .second, .val (.long p3s), .second, .val (.int nn), .val (.int k0), .val (.int k1), .val (.int k2), .val (.int z44), .val (.int z45), .val (.int z46), .val (.int z47), .val (.int z48), .val (.int z49), .val (.ref aS), .val (.ref aC), .val (.ref aK), .val (.long z66), .second, .val (.long z69), .second, .val (.long z72), .second, .val (.int r_74), .val (.long z69), .second]) rfl ?_
                        show Steps p.tables e below (T74.setTop (mkF m 313 #[.val (.int p0s), .val (.long p1s), .second, .val (.long p2s), .second, .val (.long p3s), .second, .val (.int nn), .val (.int k0), .val (.int k1), .val (.int k2), .val (.int z44), .val (.int z45), .val (.int z46), .val (.int z47), .val (.int z48), .val (.int z49), .val (.ref aS), .val (.ref aC), .val (.ref aK), .val (.long z66), .second, .val (.long z69), .second, .val (.long z72), .second, .val (.int r_74), .val (.long z69), .second] [])) _
                        refine XS.lload X74.here hx rfl (hb hby at_313) rfl ?_
                        show Steps p.tables e below (T74.setTop (mkF m 315 #[.val (.int p0s), .val (.long p1s), .second, .val (.long p2s), .second, .val (.long p3s), .second, .val (.int nn), .val (.int k0), .val (.int k1), .val (.int k2), .val (.int z44), .val (.int z45), .val (.int z46), .val (.int z47), .val (.int z48), .val (.int z49), .val (.ref aS), .val (.ref aC), .val (.ref aK), .val (.long z66), .second, .val (.long z69), .second, .val (.long z72), .second, .val (.int r_74), .val (.long z69), .second] [(.long z69)])) _
                        refine XS.lconst X74.here hx rfl (hb hby at_315) ?_
                        show Steps p.tables e below (T74.setTop (mkF m 316 #[.val (.int p0s), .val (.long p1s), .second, .val (.long p2s), .second, .val (.long p3s), .second, .val (.int nn), .val (.int k0), .val (.int k1), .val (.int k2), .val (.int z44), .val (.int z45), .val (.int z46), .val (.int z47), .val (.int z48), .val (.int z49), .val (.ref aS), .val (.ref aC), .val (.ref aK), .val (.long z66), .second, .val (.long z69), .second, .val (.long z72), .second, .val (.int r_74), .val (.long z69), .second] [(.long (0 : Int64)), (.long z69)])) _
                        refine XS.lcmp X74.here hx rfl (hb hby at_316) rfl ?_
                        exact kg_
                      by_cases hc116 : (0 : Int64) < z69
                      · have r117 : own_R p.tables e below F0 (T74.setTop (mkF m 327 #[.val (.int p0s), .val (.long p1s), .second, .val (.long p2s), .second, .val (.long p3s), .second, .val (.int nn), .val (.int k0), .val (.int k1), .val (.int k2), .val (.int z44), .val (.int z45), .val (.int z46), .val (.int z47), .val (.int z48), .val (.int z49), .val (.ref aS), .val (.ref aC), .val (.ref aK), .val (.long z66), .second, .val (.long z69), .second, .val (.long z72), .second, .val (.int r_74), .val (.long z69), .second] [(.int (lcmpW z69 z66))])) := fun tg_ kg_ => by
                          refine r115 tg_ ?_
                          show Steps p.tables e below (T74.setTop (mkF m 317 #[.val (.int p0s), .val (.long p1s), .second, .val (.long p2s), .second, .val (.long p3s), .second, .val (.int nn), .val (.int k0), .val (.int k1), .val (.int k2), .val (.int z44), .val (.int z45), .val (.int z46), .val (.int z47), .val (.int z48), .val (.int z49), .val (.ref aS), .val (.ref aC), .val (.ref aK), .val (.long z66), .second, .val (.long z69), .second, .val (.long z72), .second, .val (.int r_74), .val (.long z69), .second] [(.int (lcmpW z69 (0 : Int64)))])) _
                          refine XS.ifYes X74.here hx rfl (pc0 := 317) (pc' := 322) rfl (hb hby at_317) rfl (own_l_gt hc116).1 (by decide) (by decide) ?_
                          show Steps p.tables e below (T74.setTop (mkF m 322 #[.val (.int p0s), .val (.long p1s), .second, .val (.long p2s), .second, .val (.long p3s), .second, .val (.int nn), .val (.int k0), .val (.int k1), .val (.int k2), .val (.int z44), .val (.int z45), .val (.int z46), .val (.int z47), .val (.int z48), .val (.int z49), .val (.ref aS), .val (.ref aC), .val (.ref aK), .val (.long z66), .second, .val (.long z69), .second, .val (.long z72), .second, .val (.int r_74), .val (.long z69), .second] [])) _
                          refine XS.lload X74.here hx rfl (hb hby at_322) rfl ?_
                          show Steps p.tables e below (T74.setTop (mkF m 324 #[.val (.int p0s), .val (.long p1s), .second, .val (.long p2s), .second, .val (.long p3s), .second, .val (.int nn), .val (.int k0), .val (.int k1), .val (.int k2), .val (.int z44), .val (.int z45), .val (.int z46), .val (.int z47), .val (.int z48), .val (.int z49), .val (.ref aS), .val (.ref aC), .val (.ref aK), .val (.long z66), .second, .val (.long z69), .second, .val (.long z72), .second, .val (.int r_74), .val (.long z69), .second] [(.long z69)])) _
                          refine XS.lload X74.here hx rfl (hb hby at_324) rfl ?_
                          show Steps p.tables e below (T74.setTop (mkF m 326 #[.val (.int p0s), .val (.long p1s), .second, .val (.long p2s), .second, .val (.long p3s), .second, .val (.int nn), .val (.int k0), .val (.int k1), .val (.int k2), .val (.int z44), .val (.int z45), .val (.int z46), .val (.int z47), .val (.int z48), .val (.int z49), .val (.ref aS), .val (.ref aC), .val (.ref aK), .val (.long z66), .second, .val (.long z69), .second, .val (.long z72), .second, .val (.int r_74), .val (.long z69), .second] [(.long z66), (.long z69)])) _
                          refine XS.lcmp X74.here hx rfl (hb hby at_326) rfl ?_
                          exact kg_
                        by_cases hc118 : z69 < z66
                        · have r119 : own_R p.tables e below F0 (T74.setTop (mkF m 347 #[.val (.int p0s), .val (.long p1s), .second, .val (.long p2s), .second, .val (.long p3s), .second, .val (.int nn), .val (.int k0), .val (.int k1), .val (.int k2), .val (.int z44), .val (.int z45), .val (.int z46), .val (.int z47), .val (.int z48), .val (.int z49), .val (.ref aS), .val (.ref aC), .val (.ref aK), .val (.long z66), .second, .val (.long z69), .second, .val (.long z72), .second, .val (.int r_74), .val (.long z69), .second] [(.int (0 : Int32))])) := fun tg_ kg_ => by
                            refine r117 tg_ ?_
                            show Steps p.tables e below (T74.setTop (mkF m 327 #[.val (.int p0s), .val (.long p1s), .second, .val (.long p2s), .second, .val (.long p3s), .second, .val (.int nn), .val (.int k0), .val (.int k1), .val (.int k2), .val (.int z44), .val (.int z45), .val (.int z46), .val (.int z47), .val (.int z48), .val (.int z49), .val (.ref aS), .val (.ref aC), .val (.ref aK), .val (.long z66), .second, .val (.long z69), .second, .val (.long z72), .second, .val (.int r_74), .val (.long z69), .second] [(.int (lcmpW z69 z66))])) _
                            refine XS.ifYes X74.here hx rfl (pc0 := 327) (pc' := 346) rfl (hb hby at_327) rfl (own_l_lt hc118).1 (by decide) (by decide) ?_
                            show Steps p.tables e below (T74.setTop (mkF m 346 #[.val (.int p0s), .val (.long p1s), .second, .val (.long p2s), .second, .val (.long p3s), .second, .val (.int nn), .val (.int k0), .val (.int k1), .val (.int k2), .val (.int z44), .val (.int z45), .val (.int z46), .val (.int z47), .val (.int z48), .val (.int z49), .val (.ref aS), .val (.ref aC), .val (.ref aK), .val (.long z66), .second, .val (.long z69), .second, .val (.long z72), .second, .val (.int r_74), .val (.long z69), .second] [])) _
                            refine XS.iconst X74.here hx rfl (hb hby at_346) ?_
                            exact kg_
                          exfalso
                          have he0 := own_excC (0 : Int32) nn k0 z44 z45 0 N gs gc gk (by decide) hNN (fun q => ⟨own_eq32 (hv.1 q).1, own_eq32 (hv.1 q).2.1, (hv.1 q).2.2⟩) hnn11 hnn12
                          have he1 := own_excC (1 : Int32) nn k1 z46 z47 1 N gs gc gk (by decide) hNN (fun q => ⟨own_eq32 (hv.2.1 q).1, own_eq32 (hv.2.1 q).2.1, (hv.2.1 q).2.2⟩) hnn13 hnn14
                          have he2 := own_excC (2 : Int32) nn k2 z48 z49 2 N gs gc gk (by decide) hNN (fun q => ⟨own_eq32 (hv.2.2 q).1, own_eq32 (hv.2.2 q).2.1, (hv.2.2 q).2.2⟩) hnn15 hnn16
                          have sp := own_spec hN3 he0 he1 he2 I74_1
                          clear hv he0 he1 he2 I74_1
                          have q1220_r := own_R32 r_74
                          have q1221_e : (-1 : Int32).toInt = -1 := (by decide)
                          have q1221_r : (-1 : Int) ≤ (-1 : Int32).toInt ∧ (-1 : Int32).toInt ≤ -1 := ⟨Int.le_of_eq q1221_e.symm, Int.le_of_eq q1221_e⟩
                          have q1222_e : (0 : Int32).toInt = 0 := (by decide)
                          have q1222_r : (0 : Int) ≤ (0 : Int32).toInt ∧ (0 : Int32).toInt ≤ 0 := ⟨Int.le_of_eq q1222_e.symm, Int.le_of_eq q1222_e⟩
                          have q1223_r := own_R32 nn
                          have q1224_e : (1 : Int32).toInt = 1 := (by decide)
                          have q1224_r : (1 : Int) ≤ (1 : Int32).toInt ∧ (1 : Int32).toInt ≤ 1 := ⟨Int.le_of_eq q1224_e.symm, Int.le_of_eq q1224_e⟩
                          have q1225_e : (0 : Int64).toInt = 0 := (by decide)
                          have q1225_r : (0 : Int) ≤ (0 : Int64).toInt ∧ (0 : Int64).toInt ≤ 0 := ⟨Int.le_of_eq q1225_e.symm, Int.le_of_eq q1225_e⟩
                          have q1226_r := own_R32 k1
                          have q1227_r := own_R32 z46
                          have q1228_r := own_R32 z47
                          have q1229_r := own_R64 (own_exc (1 : Int32) nn k1 z46 z47)
                          have q1230_ := own_eqR64 hz69 q1229_r
                          have q1230_e := q1230_.1
                          have q1230_r := q1230_.2
                          have q1231_r := own_R32 k0
                          have q1232_r := own_R32 z44
                          have q1233_r := own_R32 z45
                          have q1234_r := own_R64 (own_exc (0 : Int32) nn k0 z44 z45)
                          have q1235_ := own_eqR64 hz66 q1234_r
                          have q1235_e := q1235_.1
                          have q1235_r := q1235_.2
                          have q1236_c := own_ne32 hc76
                          have q1237_c := own_nlt32 hc88
                          have q1238_c := own_lt32 hc91
                          have q1239_c := own_ne32 hc93
                          have q1240_c := own_eq32 hc114
                          have q1241_c := own_lt64 hc116
                          have q1242_c := own_lt64 hc118
                          rcases sp with h | h | h | h <;> omega
                        · have r120 : own_R p.tables e below F0 (T74.setTop (mkF m 343 #[.val (.int p0s), .val (.long p1s), .second, .val (.long p2s), .second, .val (.long p3s), .second, .val (.int nn), .val (.int k0), .val (.int k1), .val (.int k2), .val (.int z44), .val (.int z45), .val (.int z46), .val (.int z47), .val (.int z48), .val (.int z49), .val (.ref aS), .val (.ref aC), .val (.ref aK), .val (.long z66), .second, .val (.long z69), .second, .val (.long z72), .second, .val (.int r_74), .val (.long z69), .second] [(.int (lcmpW z69 z72))])) := fun tg_ kg_ => by
                            refine r117 tg_ ?_
                            show Steps p.tables e below (T74.setTop (mkF m 327 #[.val (.int p0s), .val (.long p1s), .second, .val (.long p2s), .second, .val (.long p3s), .second, .val (.int nn), .val (.int k0), .val (.int k1), .val (.int k2), .val (.int z44), .val (.int z45), .val (.int z46), .val (.int z47), .val (.int z48), .val (.int z49), .val (.ref aS), .val (.ref aC), .val (.ref aK), .val (.long z66), .second, .val (.long z69), .second, .val (.long z72), .second, .val (.int r_74), .val (.long z69), .second] [(.int (lcmpW z69 z66))])) _
                            refine XS.ifNo X74.here hx rfl (hb hby at_327) rfl (own_l_nlt hc118).1 ?_
                            show Steps p.tables e below (T74.setTop (mkF m 330 #[.val (.int p0s), .val (.long p1s), .second, .val (.long p2s), .second, .val (.long p3s), .second, .val (.int nn), .val (.int k0), .val (.int k1), .val (.int k2), .val (.int z44), .val (.int z45), .val (.int z46), .val (.int z47), .val (.int z48), .val (.int z49), .val (.ref aS), .val (.ref aC), .val (.ref aK), .val (.long z66), .second, .val (.long z69), .second, .val (.long z72), .second, .val (.int r_74), .val (.long z69), .second] [])) _
                            refine XS.lload X74.here hx rfl (hb hby at_330) rfl ?_
                            show Steps p.tables e below (T74.setTop (mkF m 332 #[.val (.int p0s), .val (.long p1s), .second, .val (.long p2s), .second, .val (.long p3s), .second, .val (.int nn), .val (.int k0), .val (.int k1), .val (.int k2), .val (.int z44), .val (.int z45), .val (.int z46), .val (.int z47), .val (.int z48), .val (.int z49), .val (.ref aS), .val (.ref aC), .val (.ref aK), .val (.long z66), .second, .val (.long z69), .second, .val (.long z72), .second, .val (.int r_74), .val (.long z69), .second] [(.long z69)])) _
                            refine XS.lload X74.here hx rfl (hb hby at_332) rfl ?_
                            show Steps p.tables e below (T74.setTop (mkF m 334 #[.val (.int p0s), .val (.long p1s), .second, .val (.long p2s), .second, .val (.long p3s), .second, .val (.int nn), .val (.int k0), .val (.int k1), .val (.int k2), .val (.int z44), .val (.int z45), .val (.int z46), .val (.int z47), .val (.int z48), .val (.int z49), .val (.ref aS), .val (.ref aC), .val (.ref aK), .val (.long z66), .second, .val (.long z69), .second, .val (.long z72), .second, .val (.int r_74), .val (.long z69), .second] [(.long z69), (.long z69)])) _
                            refine XS.lcmp X74.here hx rfl (hb hby at_334) rfl ?_
                            show Steps p.tables e below (T74.setTop (mkF m 335 #[.val (.int p0s), .val (.long p1s), .second, .val (.long p2s), .second, .val (.long p3s), .second, .val (.int nn), .val (.int k0), .val (.int k1), .val (.int k2), .val (.int z44), .val (.int z45), .val (.int z46), .val (.int z47), .val (.int z48), .val (.int z49), .val (.ref aS), .val (.ref aC), .val (.ref aK), .val (.long z66), .second, .val (.long z69), .second, .val (.long z72), .second, .val (.int r_74), .val (.long z69), .second] [(.int (lcmpW z69 z69))])) _
                            refine XS.ifNo X74.here hx rfl (hb hby at_335) rfl (own_l_nlt Int64.lt_irrefl).1 ?_
                            show Steps p.tables e below (T74.setTop (mkF m 338 #[.val (.int p0s), .val (.long p1s), .second, .val (.long p2s), .second, .val (.long p3s), .second, .val (.int nn), .val (.int k0), .val (.int k1), .val (.int k2), .val (.int z44), .val (.int z45), .val (.int z46), .val (.int z47), .val (.int z48), .val (.int z49), .val (.ref aS), .val (.ref aC), .val (.ref aK), .val (.long z66), .second, .val (.long z69), .second, .val (.long z72), .second, .val (.int r_74), .val (.long z69), .second] [])) _
                            refine XS.lload X74.here hx rfl (hb hby at_338) rfl ?_
                            show Steps p.tables e below (T74.setTop (mkF m 340 #[.val (.int p0s), .val (.long p1s), .second, .val (.long p2s), .second, .val (.long p3s), .second, .val (.int nn), .val (.int k0), .val (.int k1), .val (.int k2), .val (.int z44), .val (.int z45), .val (.int z46), .val (.int z47), .val (.int z48), .val (.int z49), .val (.ref aS), .val (.ref aC), .val (.ref aK), .val (.long z66), .second, .val (.long z69), .second, .val (.long z72), .second, .val (.int r_74), .val (.long z69), .second] [(.long z69)])) _
                            refine XS.lload X74.here hx rfl (hb hby at_340) rfl ?_
                            show Steps p.tables e below (T74.setTop (mkF m 342 #[.val (.int p0s), .val (.long p1s), .second, .val (.long p2s), .second, .val (.long p3s), .second, .val (.int nn), .val (.int k0), .val (.int k1), .val (.int k2), .val (.int z44), .val (.int z45), .val (.int z46), .val (.int z47), .val (.int z48), .val (.int z49), .val (.ref aS), .val (.ref aC), .val (.ref aK), .val (.long z66), .second, .val (.long z69), .second, .val (.long z72), .second, .val (.int r_74), .val (.long z69), .second] [(.long z72), (.long z69)])) _
                            refine XS.lcmp X74.here hx rfl (hb hby at_342) rfl ?_
                            exact kg_
                          by_cases hc121 : z69 < z72
                          · have r122 : own_R p.tables e below F0 (T74.setTop (mkF m 347 #[.val (.int p0s), .val (.long p1s), .second, .val (.long p2s), .second, .val (.long p3s), .second, .val (.int nn), .val (.int k0), .val (.int k1), .val (.int k2), .val (.int z44), .val (.int z45), .val (.int z46), .val (.int z47), .val (.int z48), .val (.int z49), .val (.ref aS), .val (.ref aC), .val (.ref aK), .val (.long z66), .second, .val (.long z69), .second, .val (.long z72), .second, .val (.int r_74), .val (.long z69), .second] [(.int (0 : Int32))])) := fun tg_ kg_ => by
                              refine r120 tg_ ?_
                              show Steps p.tables e below (T74.setTop (mkF m 343 #[.val (.int p0s), .val (.long p1s), .second, .val (.long p2s), .second, .val (.long p3s), .second, .val (.int nn), .val (.int k0), .val (.int k1), .val (.int k2), .val (.int z44), .val (.int z45), .val (.int z46), .val (.int z47), .val (.int z48), .val (.int z49), .val (.ref aS), .val (.ref aC), .val (.ref aK), .val (.long z66), .second, .val (.long z69), .second, .val (.long z72), .second, .val (.int r_74), .val (.long z69), .second] [(.int (lcmpW z69 z72))])) _
                              refine XS.ifNo X74.here hx rfl (hb hby at_343) rfl (own_l_lt hc121).2 ?_
                              show Steps p.tables e below (T74.setTop (mkF m 346 #[.val (.int p0s), .val (.long p1s), .second, .val (.long p2s), .second, .val (.long p3s), .second, .val (.int nn), .val (.int k0), .val (.int k1), .val (.int k2), .val (.int z44), .val (.int z45), .val (.int z46), .val (.int z47), .val (.int z48), .val (.int z49), .val (.ref aS), .val (.ref aC), .val (.ref aK), .val (.long z66), .second, .val (.long z69), .second, .val (.long z72), .second, .val (.int r_74), .val (.long z69), .second] [])) _
                              refine XS.iconst X74.here hx rfl (hb hby at_346) ?_
                              exact kg_
                            exfalso
                            have he0 := own_excC (0 : Int32) nn k0 z44 z45 0 N gs gc gk (by decide) hNN (fun q => ⟨own_eq32 (hv.1 q).1, own_eq32 (hv.1 q).2.1, (hv.1 q).2.2⟩) hnn11 hnn12
                            have he1 := own_excC (1 : Int32) nn k1 z46 z47 1 N gs gc gk (by decide) hNN (fun q => ⟨own_eq32 (hv.2.1 q).1, own_eq32 (hv.2.1 q).2.1, (hv.2.1 q).2.2⟩) hnn13 hnn14
                            have he2 := own_excC (2 : Int32) nn k2 z48 z49 2 N gs gc gk (by decide) hNN (fun q => ⟨own_eq32 (hv.2.2 q).1, own_eq32 (hv.2.2 q).2.1, (hv.2.2 q).2.2⟩) hnn15 hnn16
                            have sp := own_spec hN3 he0 he1 he2 I74_1
                            clear hv he0 he1 he2 I74_1
                            have q1243_r := own_R32 r_74
                            have q1244_e : (-1 : Int32).toInt = -1 := (by decide)
                            have q1244_r : (-1 : Int) ≤ (-1 : Int32).toInt ∧ (-1 : Int32).toInt ≤ -1 := ⟨Int.le_of_eq q1244_e.symm, Int.le_of_eq q1244_e⟩
                            have q1245_e : (0 : Int32).toInt = 0 := (by decide)
                            have q1245_r : (0 : Int) ≤ (0 : Int32).toInt ∧ (0 : Int32).toInt ≤ 0 := ⟨Int.le_of_eq q1245_e.symm, Int.le_of_eq q1245_e⟩
                            have q1246_r := own_R32 nn
                            have q1247_e : (1 : Int32).toInt = 1 := (by decide)
                            have q1247_r : (1 : Int) ≤ (1 : Int32).toInt ∧ (1 : Int32).toInt ≤ 1 := ⟨Int.le_of_eq q1247_e.symm, Int.le_of_eq q1247_e⟩
                            have q1248_e : (0 : Int64).toInt = 0 := (by decide)
                            have q1248_r : (0 : Int) ≤ (0 : Int64).toInt ∧ (0 : Int64).toInt ≤ 0 := ⟨Int.le_of_eq q1248_e.symm, Int.le_of_eq q1248_e⟩
                            have q1249_r := own_R32 k1
                            have q1250_r := own_R32 z46
                            have q1251_r := own_R32 z47
                            have q1252_r := own_R64 (own_exc (1 : Int32) nn k1 z46 z47)
                            have q1253_ := own_eqR64 hz69 q1252_r
                            have q1253_e := q1253_.1
                            have q1253_r := q1253_.2
                            have q1254_r := own_R32 k0
                            have q1255_r := own_R32 z44
                            have q1256_r := own_R32 z45
                            have q1257_r := own_R64 (own_exc (0 : Int32) nn k0 z44 z45)
                            have q1258_ := own_eqR64 hz66 q1257_r
                            have q1258_e := q1258_.1
                            have q1258_r := q1258_.2
                            have q1259_e : (2 : Int32).toInt = 2 := (by decide)
                            have q1259_r : (2 : Int) ≤ (2 : Int32).toInt ∧ (2 : Int32).toInt ≤ 2 := ⟨Int.le_of_eq q1259_e.symm, Int.le_of_eq q1259_e⟩
                            have q1260_r := own_R32 k2
                            have q1261_r := own_R32 z48
                            have q1262_r := own_R32 z49
                            have q1263_r := own_R64 (own_exc (2 : Int32) nn k2 z48 z49)
                            have q1264_ := own_eqR64 hz72 q1263_r
                            have q1264_e := q1264_.1
                            have q1264_r := q1264_.2
                            have q1265_c := own_ne32 hc76
                            have q1266_c := own_nlt32 hc88
                            have q1267_c := own_lt32 hc91
                            have q1268_c := own_ne32 hc93
                            have q1269_c := own_eq32 hc114
                            have q1270_c := own_lt64 hc116
                            have q1271_c := own_nlt64 hc118
                            have q1272_c := own_lt64 hc121
                            rcases sp with h | h | h | h <;> omega
                          · have r123 : own_R p.tables e below F0 (T74.setTop (mkF m 350 #[.val (.int p0s), .val (.long p1s), .second, .val (.long p2s), .second, .val (.long p3s), .second, .val (.int nn), .val (.int k0), .val (.int k1), .val (.int k2), .val (.int z44), .val (.int z45), .val (.int z46), .val (.int z47), .val (.int z48), .val (.int z49), .val (.ref aS), .val (.ref aC), .val (.ref aK), .val (.long z66), .second, .val (.long z69), .second, .val (.long z72), .second, .val (.int r_74), .val (.long z69), .second] [(.int r_74)])) := fun tg_ kg_ => by
                              refine r120 tg_ ?_
                              show Steps p.tables e below (T74.setTop (mkF m 343 #[.val (.int p0s), .val (.long p1s), .second, .val (.long p2s), .second, .val (.long p3s), .second, .val (.int nn), .val (.int k0), .val (.int k1), .val (.int k2), .val (.int z44), .val (.int z45), .val (.int z46), .val (.int z47), .val (.int z48), .val (.int z49), .val (.ref aS), .val (.ref aC), .val (.ref aK), .val (.long z66), .second, .val (.long z69), .second, .val (.long z72), .second, .val (.int r_74), .val (.long z69), .second] [(.int (lcmpW z69 z72))])) _
                              refine XS.ifYes X74.here hx rfl (pc0 := 343) (pc' := 348) rfl (hb hby at_343) rfl (own_l_nlt hc121).2 (by decide) (by decide) ?_
                              show Steps p.tables e below (T74.setTop (mkF m 348 #[.val (.int p0s), .val (.long p1s), .second, .val (.long p2s), .second, .val (.long p3s), .second, .val (.int nn), .val (.int k0), .val (.int k1), .val (.int k2), .val (.int z44), .val (.int z45), .val (.int z46), .val (.int z47), .val (.int z48), .val (.int z49), .val (.ref aS), .val (.ref aC), .val (.ref aK), .val (.long z66), .second, .val (.long z69), .second, .val (.long z72), .second, .val (.int r_74), .val (.long z69), .second] [])) _
                              refine XS.iload X74.here hx rfl (hb hby at_348) rfl ?_
                              exact kg_
                            by_cases hc124 : (0 : Int32) < r_74
                            · have r125 : own_R p.tables e below F0 (T74.setTop (mkF m 358 #[.val (.int p0s), .val (.long p1s), .second, .val (.long p2s), .second, .val (.long p3s), .second, .val (.int nn), .val (.int k0), .val (.int k1), .val (.int k2), .val (.int z44), .val (.int z45), .val (.int z46), .val (.int z47), .val (.int z48), .val (.int z49), .val (.ref aS), .val (.ref aC), .val (.ref aK), .val (.long z66), .second, .val (.long z69), .second, .val (.long z72), .second, .val (.int r_74), .val (.long z69), .second] [(.int (lcmpW z69 z66))])) := fun tg_ kg_ => by
                                refine r123 tg_ ?_
                                show Steps p.tables e below (T74.setTop (mkF m 350 #[.val (.int p0s), .val (.long p1s), .second, .val (.long p2s), .second, .val (.long p3s), .second, .val (.int nn), .val (.int k0), .val (.int k1), .val (.int k2), .val (.int z44), .val (.int z45), .val (.int z46), .val (.int z47), .val (.int z48), .val (.int z49), .val (.ref aS), .val (.ref aC), .val (.ref aK), .val (.long z66), .second, .val (.long z69), .second, .val (.long z72), .second, .val (.int r_74), .val (.long z69), .second] [(.int r_74)])) _
                                refine XS.ifNo X74.here hx rfl (hb hby at_350) rfl ((if0 _ _).trans (tlt hc124).2.2.2) ?_
                                show Steps p.tables e below (T74.setTop (mkF m 353 #[.val (.int p0s), .val (.long p1s), .second, .val (.long p2s), .second, .val (.long p3s), .second, .val (.int nn), .val (.int k0), .val (.int k1), .val (.int k2), .val (.int z44), .val (.int z45), .val (.int z46), .val (.int z47), .val (.int z48), .val (.int z49), .val (.ref aS), .val (.ref aC), .val (.ref aK), .val (.long z66), .second, .val (.long z69), .second, .val (.long z72), .second, .val (.int r_74), .val (.long z69), .second] [])) _
                                refine XS.lload X74.here hx rfl (hb hby at_353) rfl ?_
                                show Steps p.tables e below (T74.setTop (mkF m 355 #[.val (.int p0s), .val (.long p1s), .second, .val (.long p2s), .second, .val (.long p3s), .second, .val (.int nn), .val (.int k0), .val (.int k1), .val (.int k2), .val (.int z44), .val (.int z45), .val (.int z46), .val (.int z47), .val (.int z48), .val (.int z49), .val (.ref aS), .val (.ref aC), .val (.ref aK), .val (.long z66), .second, .val (.long z69), .second, .val (.long z72), .second, .val (.int r_74), .val (.long z69), .second] [(.long z69)])) _
                                refine XS.lload X74.here hx rfl (hb hby at_355) rfl ?_
                                show Steps p.tables e below (T74.setTop (mkF m 357 #[.val (.int p0s), .val (.long p1s), .second, .val (.long p2s), .second, .val (.long p3s), .second, .val (.int nn), .val (.int k0), .val (.int k1), .val (.int k2), .val (.int z44), .val (.int z45), .val (.int z46), .val (.int z47), .val (.int z48), .val (.int z49), .val (.ref aS), .val (.ref aC), .val (.ref aK), .val (.long z66), .second, .val (.long z69), .second, .val (.long z72), .second, .val (.int r_74), .val (.long z69), .second] [(.long z66), (.long z69)])) _
                                refine XS.lcmp X74.here hx rfl (hb hby at_357) rfl ?_
                                exact kg_
                              by_cases hc126 : z66 < z69
                              · have r127 : own_R p.tables e below F0 (T74.setTop (mkF m 366 #[.val (.int p0s), .val (.long p1s), .second, .val (.long p2s), .second, .val (.long p3s), .second, .val (.int nn), .val (.int k0), .val (.int k1), .val (.int k2), .val (.int z44), .val (.int z45), .val (.int z46), .val (.int z47), .val (.int z48), .val (.int z49), .val (.ref aS), .val (.ref aC), .val (.ref aK), .val (.long z66), .second, .val (.long z69), .second, .val (.long z72), .second, .val (.int r_74), .val (.long z69), .second] [(.int (1 : Int32)), (.int r_74)])) := fun tg_ kg_ => by
                                  refine r125 tg_ ?_
                                  show Steps p.tables e below (T74.setTop (mkF m 358 #[.val (.int p0s), .val (.long p1s), .second, .val (.long p2s), .second, .val (.long p3s), .second, .val (.int nn), .val (.int k0), .val (.int k1), .val (.int k2), .val (.int z44), .val (.int z45), .val (.int z46), .val (.int z47), .val (.int z48), .val (.int z49), .val (.ref aS), .val (.ref aC), .val (.ref aK), .val (.long z66), .second, .val (.long z69), .second, .val (.long z72), .second, .val (.int r_74), .val (.long z69), .second] [(.int (lcmpW z69 z66))])) _
                                  refine XS.ifYes X74.here hx rfl (pc0 := 358) (pc' := 363) rfl (hb hby at_358) rfl (own_l_gt hc126).1 (by decide) (by decide) ?_
                                  show Steps p.tables e below (T74.setTop (mkF m 363 #[.val (.int p0s), .val (.long p1s), .second, .val (.long p2s), .second, .val (.long p3s), .second, .val (.int nn), .val (.int k0), .val (.int k1), .val (.int k2), .val (.int z44), .val (.int z45), .val (.int z46), .val (.int z47), .val (.int z48), .val (.int z49), .val (.ref aS), .val (.ref aC), .val (.ref aK), .val (.long z66), .second, .val (.long z69), .second, .val (.long z72), .second, .val (.int r_74), .val (.long z69), .second] [])) _
                                  refine XS.iload X74.here hx rfl (hb hby at_363) rfl ?_
                                  show Steps p.tables e below (T74.setTop (mkF m 365 #[.val (.int p0s), .val (.long p1s), .second, .val (.long p2s), .second, .val (.long p3s), .second, .val (.int nn), .val (.int k0), .val (.int k1), .val (.int k2), .val (.int z44), .val (.int z45), .val (.int z46), .val (.int z47), .val (.int z48), .val (.int z49), .val (.ref aS), .val (.ref aC), .val (.ref aK), .val (.long z66), .second, .val (.long z69), .second, .val (.long z72), .second, .val (.int r_74), .val (.long z69), .second] [(.int r_74)])) _
                                  refine XS.iconst X74.here hx rfl (hb hby at_365) ?_
                                  exact kg_
                                by_cases hc128 : (1 : Int32) < r_74
                                · have r129 : own_R p.tables e below F0 (T74.setTop (mkF m 378 #[.val (.int p0s), .val (.long p1s), .second, .val (.long p2s), .second, .val (.long p3s), .second, .val (.int nn), .val (.int k0), .val (.int k1), .val (.int k2), .val (.int z44), .val (.int z45), .val (.int z46), .val (.int z47), .val (.int z48), .val (.int z49), .val (.ref aS), .val (.ref aC), .val (.ref aK), .val (.long z66), .second, .val (.long z69), .second, .val (.long z72), .second, .val (.int r_74), .val (.long z69), .second] [(.int (0 : Int32))])) := fun tg_ kg_ => by
                                    refine r127 tg_ ?_
                                    show Steps p.tables e below (T74.setTop (mkF m 366 #[.val (.int p0s), .val (.long p1s), .second, .val (.long p2s), .second, .val (.long p3s), .second, .val (.int nn), .val (.int k0), .val (.int k1), .val (.int k2), .val (.int z44), .val (.int z45), .val (.int z46), .val (.int z47), .val (.int z48), .val (.int z49), .val (.ref aS), .val (.ref aC), .val (.ref aK), .val (.long z66), .second, .val (.long z69), .second, .val (.long z72), .second, .val (.int r_74), .val (.long z69), .second] [(.int (1 : Int32)), (.int r_74)])) _
                                    refine XS.icmpNo X74.here hx rfl (hb hby at_366) rfl (tlt hc128).2.2.2 ?_
                                    show Steps p.tables e below (T74.setTop (mkF m 369 #[.val (.int p0s), .val (.long p1s), .second, .val (.long p2s), .second, .val (.long p3s), .second, .val (.int nn), .val (.int k0), .val (.int k1), .val (.int k2), .val (.int z44), .val (.int z45), .val (.int z46), .val (.int z47), .val (.int z48), .val (.int z49), .val (.ref aS), .val (.ref aC), .val (.ref aK), .val (.long z66), .second, .val (.long z69), .second, .val (.long z72), .second, .val (.int r_74), .val (.long z69), .second] [])) _
                                    refine XS.lload X74.here hx rfl (hb hby at_369) rfl ?_
                                    show Steps p.tables e below (T74.setTop (mkF m 371 #[.val (.int p0s), .val (.long p1s), .second, .val (.long p2s), .second, .val (.long p3s), .second, .val (.int nn), .val (.int k0), .val (.int k1), .val (.int k2), .val (.int z44), .val (.int z45), .val (.int z46), .val (.int z47), .val (.int z48), .val (.int z49), .val (.ref aS), .val (.ref aC), .val (.ref aK), .val (.long z66), .second, .val (.long z69), .second, .val (.long z72), .second, .val (.int r_74), .val (.long z69), .second] [(.long z69)])) _
                                    refine XS.lload X74.here hx rfl (hb hby at_371) rfl ?_
                                    show Steps p.tables e below (T74.setTop (mkF m 373 #[.val (.int p0s), .val (.long p1s), .second, .val (.long p2s), .second, .val (.long p3s), .second, .val (.int nn), .val (.int k0), .val (.int k1), .val (.int k2), .val (.int z44), .val (.int z45), .val (.int z46), .val (.int z47), .val (.int z48), .val (.int z49), .val (.ref aS), .val (.ref aC), .val (.ref aK), .val (.long z66), .second, .val (.long z69), .second, .val (.long z72), .second, .val (.int r_74), .val (.long z69), .second] [(.long z69), (.long z69)])) _
                                    refine XS.lcmp X74.here hx rfl (hb hby at_373) rfl ?_
                                    show Steps p.tables e below (T74.setTop (mkF m 374 #[.val (.int p0s), .val (.long p1s), .second, .val (.long p2s), .second, .val (.long p3s), .second, .val (.int nn), .val (.int k0), .val (.int k1), .val (.int k2), .val (.int z44), .val (.int z45), .val (.int z46), .val (.int z47), .val (.int z48), .val (.int z49), .val (.ref aS), .val (.ref aC), .val (.ref aK), .val (.long z66), .second, .val (.long z69), .second, .val (.long z72), .second, .val (.int r_74), .val (.long z69), .second] [(.int (lcmpW z69 z69))])) _
                                    refine XS.ifNo X74.here hx rfl (hb hby at_374) rfl (own_l_ngt Int64.lt_irrefl).1 ?_
                                    show Steps p.tables e below (T74.setTop (mkF m 377 #[.val (.int p0s), .val (.long p1s), .second, .val (.long p2s), .second, .val (.long p3s), .second, .val (.int nn), .val (.int k0), .val (.int k1), .val (.int k2), .val (.int z44), .val (.int z45), .val (.int z46), .val (.int z47), .val (.int z48), .val (.int z49), .val (.ref aS), .val (.ref aC), .val (.ref aK), .val (.long z66), .second, .val (.long z69), .second, .val (.long z72), .second, .val (.int r_74), .val (.long z69), .second] [])) _
                                    refine XS.iconst X74.here hx rfl (hb hby at_377) ?_
                                    exact kg_
                                  exfalso
                                  have he0 := own_excC (0 : Int32) nn k0 z44 z45 0 N gs gc gk (by decide) hNN (fun q => ⟨own_eq32 (hv.1 q).1, own_eq32 (hv.1 q).2.1, (hv.1 q).2.2⟩) hnn11 hnn12
                                  have he1 := own_excC (1 : Int32) nn k1 z46 z47 1 N gs gc gk (by decide) hNN (fun q => ⟨own_eq32 (hv.2.1 q).1, own_eq32 (hv.2.1 q).2.1, (hv.2.1 q).2.2⟩) hnn13 hnn14
                                  have he2 := own_excC (2 : Int32) nn k2 z48 z49 2 N gs gc gk (by decide) hNN (fun q => ⟨own_eq32 (hv.2.2 q).1, own_eq32 (hv.2.2 q).2.1, (hv.2.2 q).2.2⟩) hnn15 hnn16
                                  have sp := own_spec hN3 he0 he1 he2 I74_1
                                  clear hv he0 he1 he2 I74_1
                                  have q1273_r := own_R32 r_74
                                  have q1274_e : (-1 : Int32).toInt = -1 := (by decide)
                                  have q1274_r : (-1 : Int) ≤ (-1 : Int32).toInt ∧ (-1 : Int32).toInt ≤ -1 := ⟨Int.le_of_eq q1274_e.symm, Int.le_of_eq q1274_e⟩
                                  have q1275_e : (0 : Int32).toInt = 0 := (by decide)
                                  have q1275_r : (0 : Int) ≤ (0 : Int32).toInt ∧ (0 : Int32).toInt ≤ 0 := ⟨Int.le_of_eq q1275_e.symm, Int.le_of_eq q1275_e⟩
                                  have q1276_r := own_R32 nn
                                  have q1277_e : (1 : Int32).toInt = 1 := (by decide)
                                  have q1277_r : (1 : Int) ≤ (1 : Int32).toInt ∧ (1 : Int32).toInt ≤ 1 := ⟨Int.le_of_eq q1277_e.symm, Int.le_of_eq q1277_e⟩
                                  have q1278_e : (0 : Int64).toInt = 0 := (by decide)
                                  have q1278_r : (0 : Int) ≤ (0 : Int64).toInt ∧ (0 : Int64).toInt ≤ 0 := ⟨Int.le_of_eq q1278_e.symm, Int.le_of_eq q1278_e⟩
                                  have q1279_r := own_R32 k1
                                  have q1280_r := own_R32 z46
                                  have q1281_r := own_R32 z47
                                  have q1282_r := own_R64 (own_exc (1 : Int32) nn k1 z46 z47)
                                  have q1283_ := own_eqR64 hz69 q1282_r
                                  have q1283_e := q1283_.1
                                  have q1283_r := q1283_.2
                                  have q1284_r := own_R32 k0
                                  have q1285_r := own_R32 z44
                                  have q1286_r := own_R32 z45
                                  have q1287_r := own_R64 (own_exc (0 : Int32) nn k0 z44 z45)
                                  have q1288_ := own_eqR64 hz66 q1287_r
                                  have q1288_e := q1288_.1
                                  have q1288_r := q1288_.2
                                  have q1289_e : (2 : Int32).toInt = 2 := (by decide)
                                  have q1289_r : (2 : Int) ≤ (2 : Int32).toInt ∧ (2 : Int32).toInt ≤ 2 := ⟨Int.le_of_eq q1289_e.symm, Int.le_of_eq q1289_e⟩
                                  have q1290_r := own_R32 k2
                                  have q1291_r := own_R32 z48
                                  have q1292_r := own_R32 z49
                                  have q1293_r := own_R64 (own_exc (2 : Int32) nn k2 z48 z49)
                                  have q1294_ := own_eqR64 hz72 q1293_r
                                  have q1294_e := q1294_.1
                                  have q1294_r := q1294_.2
                                  have q1295_c := own_ne32 hc76
                                  have q1296_c := own_nlt32 hc88
                                  have q1297_c := own_lt32 hc91
                                  have q1298_c := own_ne32 hc93
                                  have q1299_c := own_eq32 hc114
                                  have q1300_c := own_lt64 hc116
                                  have q1301_c := own_nlt64 hc118
                                  have q1302_c := own_nlt64 hc121
                                  have q1303_c := own_lt32 hc124
                                  have q1304_c := own_lt64 hc126
                                  have q1305_c := own_lt32 hc128
                                  rcases sp with h | h | h | h <;> omega
                                · have r130 : own_R p.tables e below F0 (T74.setTop (mkF m 380 #[.val (.int p0s), .val (.long p1s), .second, .val (.long p2s), .second, .val (.long p3s), .second, .val (.int nn), .val (.int k0), .val (.int k1), .val (.int k2), .val (.int z44), .val (.int z45), .val (.int z46), .val (.int z47), .val (.int z48), .val (.int z49), .val (.ref aS), .val (.ref aC), .val (.ref aK), .val (.long z66), .second, .val (.long z69), .second, .val (.long z72), .second, .val (.int r_74), .val (.long z69), .second] [(.int (1 : Int32))])) := fun tg_ kg_ => by
                                    refine r127 tg_ ?_
                                    show Steps p.tables e below (T74.setTop (mkF m 366 #[.val (.int p0s), .val (.long p1s), .second, .val (.long p2s), .second, .val (.long p3s), .second, .val (.int nn), .val (.int k0), .val (.int k1), .val (.int k2), .val (.int z44), .val (.int z45), .val (.int z46), .val (.int z47), .val (.int z48), .val (.int z49), .val (.ref aS), .val (.ref aC), .val (.ref aK), .val (.long z66), .second, .val (.long z69), .second, .val (.long z72), .second, .val (.int r_74), .val (.long z69), .second] [(.int (1 : Int32)), (.int r_74)])) _
                                    refine XS.icmpYes X74.here hx rfl (pc0 := 366) (pc' := 379) rfl (hb hby at_366) rfl (flt hc128).2.2.2 (by decide) (by decide) ?_
                                    show Steps p.tables e below (T74.setTop (mkF m 379 #[.val (.int p0s), .val (.long p1s), .second, .val (.long p2s), .second, .val (.long p3s), .second, .val (.int nn), .val (.int k0), .val (.int k1), .val (.int k2), .val (.int z44), .val (.int z45), .val (.int z46), .val (.int z47), .val (.int z48), .val (.int z49), .val (.ref aS), .val (.ref aC), .val (.ref aK), .val (.long z66), .second, .val (.long z69), .second, .val (.long z72), .second, .val (.int r_74), .val (.long z69), .second] [])) _
                                    refine XS.iconst X74.here hx rfl (hb hby at_379) ?_
                                    exact kg_
                                  refine hG (own_fin X74 hlk (some (.int (nar .boolean (1 : Int32)))) (own_hv Bd.returns) ?_ (by decide) (by decide) (fun fs hr => r130 _ (retN X74 hx (t := .boolean) Bd.returns (by simp) (hb hby at_380) hr)))
                                  rw [I74_0]
                                  exact ⟨rfl, N74⟩
                              · have r131 : own_R p.tables e below F0 (T74.setTop (mkF m 362 #[.val (.int p0s), .val (.long p1s), .second, .val (.long p2s), .second, .val (.long p3s), .second, .val (.int nn), .val (.int k0), .val (.int k1), .val (.int k2), .val (.int z44), .val (.int z45), .val (.int z46), .val (.int z47), .val (.int z48), .val (.int z49), .val (.ref aS), .val (.ref aC), .val (.ref aK), .val (.long z66), .second, .val (.long z69), .second, .val (.long z72), .second, .val (.int r_74), .val (.long z69), .second] [(.int (0 : Int32))])) := fun tg_ kg_ => by
                                  refine r125 tg_ ?_
                                  show Steps p.tables e below (T74.setTop (mkF m 358 #[.val (.int p0s), .val (.long p1s), .second, .val (.long p2s), .second, .val (.long p3s), .second, .val (.int nn), .val (.int k0), .val (.int k1), .val (.int k2), .val (.int z44), .val (.int z45), .val (.int z46), .val (.int z47), .val (.int z48), .val (.int z49), .val (.ref aS), .val (.ref aC), .val (.ref aK), .val (.long z66), .second, .val (.long z69), .second, .val (.long z72), .second, .val (.int r_74), .val (.long z69), .second] [(.int (lcmpW z69 z66))])) _
                                  refine XS.ifNo X74.here hx rfl (hb hby at_358) rfl (own_l_ngt hc126).1 ?_
                                  show Steps p.tables e below (T74.setTop (mkF m 361 #[.val (.int p0s), .val (.long p1s), .second, .val (.long p2s), .second, .val (.long p3s), .second, .val (.int nn), .val (.int k0), .val (.int k1), .val (.int k2), .val (.int z44), .val (.int z45), .val (.int z46), .val (.int z47), .val (.int z48), .val (.int z49), .val (.ref aS), .val (.ref aC), .val (.ref aK), .val (.long z66), .second, .val (.long z69), .second, .val (.long z72), .second, .val (.int r_74), .val (.long z69), .second] [])) _
                                  refine XS.iconst X74.here hx rfl (hb hby at_361) ?_
                                  exact kg_
                                exfalso
                                have he0 := own_excC (0 : Int32) nn k0 z44 z45 0 N gs gc gk (by decide) hNN (fun q => ⟨own_eq32 (hv.1 q).1, own_eq32 (hv.1 q).2.1, (hv.1 q).2.2⟩) hnn11 hnn12
                                have he1 := own_excC (1 : Int32) nn k1 z46 z47 1 N gs gc gk (by decide) hNN (fun q => ⟨own_eq32 (hv.2.1 q).1, own_eq32 (hv.2.1 q).2.1, (hv.2.1 q).2.2⟩) hnn13 hnn14
                                have he2 := own_excC (2 : Int32) nn k2 z48 z49 2 N gs gc gk (by decide) hNN (fun q => ⟨own_eq32 (hv.2.2 q).1, own_eq32 (hv.2.2 q).2.1, (hv.2.2 q).2.2⟩) hnn15 hnn16
                                have sp := own_spec hN3 he0 he1 he2 I74_1
                                clear hv he0 he1 he2 I74_1
                                have q1306_r := own_R32 r_74
                                have q1307_e : (-1 : Int32).toInt = -1 := (by decide)
                                have q1307_r : (-1 : Int) ≤ (-1 : Int32).toInt ∧ (-1 : Int32).toInt ≤ -1 := ⟨Int.le_of_eq q1307_e.symm, Int.le_of_eq q1307_e⟩
                                have q1308_e : (0 : Int32).toInt = 0 := (by decide)
                                have q1308_r : (0 : Int) ≤ (0 : Int32).toInt ∧ (0 : Int32).toInt ≤ 0 := ⟨Int.le_of_eq q1308_e.symm, Int.le_of_eq q1308_e⟩
                                have q1309_r := own_R32 nn
                                have q1310_e : (1 : Int32).toInt = 1 := (by decide)
                                have q1310_r : (1 : Int) ≤ (1 : Int32).toInt ∧ (1 : Int32).toInt ≤ 1 := ⟨Int.le_of_eq q1310_e.symm, Int.le_of_eq q1310_e⟩
                                have q1311_e : (0 : Int64).toInt = 0 := (by decide)
                                have q1311_r : (0 : Int) ≤ (0 : Int64).toInt ∧ (0 : Int64).toInt ≤ 0 := ⟨Int.le_of_eq q1311_e.symm, Int.le_of_eq q1311_e⟩
                                have q1312_r := own_R32 k1
                                have q1313_r := own_R32 z46
                                have q1314_r := own_R32 z47
                                have q1315_r := own_R64 (own_exc (1 : Int32) nn k1 z46 z47)
                                have q1316_ := own_eqR64 hz69 q1315_r
                                have q1316_e := q1316_.1
                                have q1316_r := q1316_.2
                                have q1317_r := own_R32 k0
                                have q1318_r := own_R32 z44
                                have q1319_r := own_R32 z45
                                have q1320_r := own_R64 (own_exc (0 : Int32) nn k0 z44 z45)
                                have q1321_ := own_eqR64 hz66 q1320_r
                                have q1321_e := q1321_.1
                                have q1321_r := q1321_.2
                                have q1322_e : (2 : Int32).toInt = 2 := (by decide)
                                have q1322_r : (2 : Int) ≤ (2 : Int32).toInt ∧ (2 : Int32).toInt ≤ 2 := ⟨Int.le_of_eq q1322_e.symm, Int.le_of_eq q1322_e⟩
                                have q1323_r := own_R32 k2
                                have q1324_r := own_R32 z48
                                have q1325_r := own_R32 z49
                                have q1326_r := own_R64 (own_exc (2 : Int32) nn k2 z48 z49)
                                have q1327_ := own_eqR64 hz72 q1326_r
                                have q1327_e := q1327_.1
                                have q1327_r := q1327_.2
                                have q1328_c := own_ne32 hc76
                                have q1329_c := own_nlt32 hc88
                                have q1330_c := own_lt32 hc91
                                have q1331_c := own_ne32 hc93
                                have q1332_c := own_eq32 hc114
                                have q1333_c := own_lt64 hc116
                                have q1334_c := own_nlt64 hc118
                                have q1335_c := own_nlt64 hc121
                                have q1336_c := own_lt32 hc124
                                have q1337_c := own_nlt64 hc126
                                rcases sp with h | h | h | h <;> omega
                            · have r132 : own_R p.tables e below F0 (T74.setTop (mkF m 366 #[.val (.int p0s), .val (.long p1s), .second, .val (.long p2s), .second, .val (.long p3s), .second, .val (.int nn), .val (.int k0), .val (.int k1), .val (.int k2), .val (.int z44), .val (.int z45), .val (.int z46), .val (.int z47), .val (.int z48), .val (.int z49), .val (.ref aS), .val (.ref aC), .val (.ref aK), .val (.long z66), .second, .val (.long z69), .second, .val (.long z72), .second, .val (.int r_74), .val (.long z69), .second] [(.int (1 : Int32)), (.int r_74)])) := fun tg_ kg_ => by
                                refine r123 tg_ ?_
                                show Steps p.tables e below (T74.setTop (mkF m 350 #[.val (.int p0s), .val (.long p1s), .second, .val (.long p2s), .second, .val (.long p3s), .second, .val (.int nn), .val (.int k0), .val (.int k1), .val (.int k2), .val (.int z44), .val (.int z45), .val (.int z46), .val (.int z47), .val (.int z48), .val (.int z49), .val (.ref aS), .val (.ref aC), .val (.ref aK), .val (.long z66), .second, .val (.long z69), .second, .val (.long z72), .second, .val (.int r_74), .val (.long z69), .second] [(.int r_74)])) _
                                refine XS.ifYes X74.here hx rfl (pc0 := 350) (pc' := 363) rfl (hb hby at_350) rfl ((if0 _ _).trans (flt hc124).2.2.2) (by decide) (by decide) ?_
                                show Steps p.tables e below (T74.setTop (mkF m 363 #[.val (.int p0s), .val (.long p1s), .second, .val (.long p2s), .second, .val (.long p3s), .second, .val (.int nn), .val (.int k0), .val (.int k1), .val (.int k2), .val (.int z44), .val (.int z45), .val (.int z46), .val (.int z47), .val (.int z48), .val (.int z49), .val (.ref aS), .val (.ref aC), .val (.ref aK), .val (.long z66), .second, .val (.long z69), .second, .val (.long z72), .second, .val (.int r_74), .val (.long z69), .second] [])) _
                                refine XS.iload X74.here hx rfl (hb hby at_363) rfl ?_
                                show Steps p.tables e below (T74.setTop (mkF m 365 #[.val (.int p0s), .val (.long p1s), .second, .val (.long p2s), .second, .val (.long p3s), .second, .val (.int nn), .val (.int k0), .val (.int k1), .val (.int k2), .val (.int z44), .val (.int z45), .val (.int z46), .val (.int z47), .val (.int z48), .val (.int z49), .val (.ref aS), .val (.ref aC), .val (.ref aK), .val (.long z66), .second, .val (.long z69), .second, .val (.long z72), .second, .val (.int r_74), .val (.long z69), .second] [(.int r_74)])) _
                                refine XS.iconst X74.here hx rfl (hb hby at_365) ?_
                                exact kg_
                              by_cases hc133 : (1 : Int32) < r_74
                              · have r134 : own_R p.tables e below F0 (T74.setTop (mkF m 378 #[.val (.int p0s), .val (.long p1s), .second, .val (.long p2s), .second, .val (.long p3s), .second, .val (.int nn), .val (.int k0), .val (.int k1), .val (.int k2), .val (.int z44), .val (.int z45), .val (.int z46), .val (.int z47), .val (.int z48), .val (.int z49), .val (.ref aS), .val (.ref aC), .val (.ref aK), .val (.long z66), .second, .val (.long z69), .second, .val (.long z72), .second, .val (.int r_74), .val (.long z69), .second] [(.int (0 : Int32))])) := fun tg_ kg_ => by
                                  refine r132 tg_ ?_
                                  show Steps p.tables e below (T74.setTop (mkF m 366 #[.val (.int p0s), .val (.long p1s), .second, .val (.long p2s), .second, .val (.long p3s), .second, .val (.int nn), .val (.int k0), .val (.int k1), .val (.int k2), .val (.int z44), .val (.int z45), .val (.int z46), .val (.int z47), .val (.int z48), .val (.int z49), .val (.ref aS), .val (.ref aC), .val (.ref aK), .val (.long z66), .second, .val (.long z69), .second, .val (.long z72), .second, .val (.int r_74), .val (.long z69), .second] [(.int (1 : Int32)), (.int r_74)])) _
                                  refine XS.icmpNo X74.here hx rfl (hb hby at_366) rfl (tlt hc133).2.2.2 ?_
                                  show Steps p.tables e below (T74.setTop (mkF m 369 #[.val (.int p0s), .val (.long p1s), .second, .val (.long p2s), .second, .val (.long p3s), .second, .val (.int nn), .val (.int k0), .val (.int k1), .val (.int k2), .val (.int z44), .val (.int z45), .val (.int z46), .val (.int z47), .val (.int z48), .val (.int z49), .val (.ref aS), .val (.ref aC), .val (.ref aK), .val (.long z66), .second, .val (.long z69), .second, .val (.long z72), .second, .val (.int r_74), .val (.long z69), .second] [])) _
                                  refine XS.lload X74.here hx rfl (hb hby at_369) rfl ?_
                                  show Steps p.tables e below (T74.setTop (mkF m 371 #[.val (.int p0s), .val (.long p1s), .second, .val (.long p2s), .second, .val (.long p3s), .second, .val (.int nn), .val (.int k0), .val (.int k1), .val (.int k2), .val (.int z44), .val (.int z45), .val (.int z46), .val (.int z47), .val (.int z48), .val (.int z49), .val (.ref aS), .val (.ref aC), .val (.ref aK), .val (.long z66), .second, .val (.long z69), .second, .val (.long z72), .second, .val (.int r_74), .val (.long z69), .second] [(.long z69)])) _
                                  refine XS.lload X74.here hx rfl (hb hby at_371) rfl ?_
                                  show Steps p.tables e below (T74.setTop (mkF m 373 #[.val (.int p0s), .val (.long p1s), .second, .val (.long p2s), .second, .val (.long p3s), .second, .val (.int nn), .val (.int k0), .val (.int k1), .val (.int k2), .val (.int z44), .val (.int z45), .val (.int z46), .val (.int z47), .val (.int z48), .val (.int z49), .val (.ref aS), .val (.ref aC), .val (.ref aK), .val (.long z66), .second, .val (.long z69), .second, .val (.long z72), .second, .val (.int r_74), .val (.long z69), .second] [(.long z69), (.long z69)])) _
                                  refine XS.lcmp X74.here hx rfl (hb hby at_373) rfl ?_
                                  show Steps p.tables e below (T74.setTop (mkF m 374 #[.val (.int p0s), .val (.long p1s), .second, .val (.long p2s), .second, .val (.long p3s), .second, .val (.int nn), .val (.int k0), .val (.int k1), .val (.int k2), .val (.int z44), .val (.int z45), .val (.int z46), .val (.int z47), .val (.int z48), .val (.int z49), .val (.ref aS), .val (.ref aC), .val (.ref aK), .val (.long z66), .second, .val (.long z69), .second, .val (.long z72), .second, .val (.int r_74), .val (.long z69), .second] [(.int (lcmpW z69 z69))])) _
                                  refine XS.ifNo X74.here hx rfl (hb hby at_374) rfl (own_l_ngt Int64.lt_irrefl).1 ?_
                                  show Steps p.tables e below (T74.setTop (mkF m 377 #[.val (.int p0s), .val (.long p1s), .second, .val (.long p2s), .second, .val (.long p3s), .second, .val (.int nn), .val (.int k0), .val (.int k1), .val (.int k2), .val (.int z44), .val (.int z45), .val (.int z46), .val (.int z47), .val (.int z48), .val (.int z49), .val (.ref aS), .val (.ref aC), .val (.ref aK), .val (.long z66), .second, .val (.long z69), .second, .val (.long z72), .second, .val (.int r_74), .val (.long z69), .second] [])) _
                                  refine XS.iconst X74.here hx rfl (hb hby at_377) ?_
                                  exact kg_
                                exfalso
                                have he0 := own_excC (0 : Int32) nn k0 z44 z45 0 N gs gc gk (by decide) hNN (fun q => ⟨own_eq32 (hv.1 q).1, own_eq32 (hv.1 q).2.1, (hv.1 q).2.2⟩) hnn11 hnn12
                                have he1 := own_excC (1 : Int32) nn k1 z46 z47 1 N gs gc gk (by decide) hNN (fun q => ⟨own_eq32 (hv.2.1 q).1, own_eq32 (hv.2.1 q).2.1, (hv.2.1 q).2.2⟩) hnn13 hnn14
                                have he2 := own_excC (2 : Int32) nn k2 z48 z49 2 N gs gc gk (by decide) hNN (fun q => ⟨own_eq32 (hv.2.2 q).1, own_eq32 (hv.2.2 q).2.1, (hv.2.2 q).2.2⟩) hnn15 hnn16
                                have sp := own_spec hN3 he0 he1 he2 I74_1
                                clear hv he0 he1 he2 I74_1
                                have q1338_r := own_R32 r_74
                                have q1339_e : (-1 : Int32).toInt = -1 := (by decide)
                                have q1339_r : (-1 : Int) ≤ (-1 : Int32).toInt ∧ (-1 : Int32).toInt ≤ -1 := ⟨Int.le_of_eq q1339_e.symm, Int.le_of_eq q1339_e⟩
                                have q1340_e : (0 : Int32).toInt = 0 := (by decide)
                                have q1340_r : (0 : Int) ≤ (0 : Int32).toInt ∧ (0 : Int32).toInt ≤ 0 := ⟨Int.le_of_eq q1340_e.symm, Int.le_of_eq q1340_e⟩
                                have q1341_r := own_R32 nn
                                have q1342_e : (1 : Int32).toInt = 1 := (by decide)
                                have q1342_r : (1 : Int) ≤ (1 : Int32).toInt ∧ (1 : Int32).toInt ≤ 1 := ⟨Int.le_of_eq q1342_e.symm, Int.le_of_eq q1342_e⟩
                                have q1343_e : (0 : Int64).toInt = 0 := (by decide)
                                have q1343_r : (0 : Int) ≤ (0 : Int64).toInt ∧ (0 : Int64).toInt ≤ 0 := ⟨Int.le_of_eq q1343_e.symm, Int.le_of_eq q1343_e⟩
                                have q1344_r := own_R32 k1
                                have q1345_r := own_R32 z46
                                have q1346_r := own_R32 z47
                                have q1347_r := own_R64 (own_exc (1 : Int32) nn k1 z46 z47)
                                have q1348_ := own_eqR64 hz69 q1347_r
                                have q1348_e := q1348_.1
                                have q1348_r := q1348_.2
                                have q1349_r := own_R32 k0
                                have q1350_r := own_R32 z44
                                have q1351_r := own_R32 z45
                                have q1352_r := own_R64 (own_exc (0 : Int32) nn k0 z44 z45)
                                have q1353_ := own_eqR64 hz66 q1352_r
                                have q1353_e := q1353_.1
                                have q1353_r := q1353_.2
                                have q1354_e : (2 : Int32).toInt = 2 := (by decide)
                                have q1354_r : (2 : Int) ≤ (2 : Int32).toInt ∧ (2 : Int32).toInt ≤ 2 := ⟨Int.le_of_eq q1354_e.symm, Int.le_of_eq q1354_e⟩
                                have q1355_r := own_R32 k2
                                have q1356_r := own_R32 z48
                                have q1357_r := own_R32 z49
                                have q1358_r := own_R64 (own_exc (2 : Int32) nn k2 z48 z49)
                                have q1359_ := own_eqR64 hz72 q1358_r
                                have q1359_e := q1359_.1
                                have q1359_r := q1359_.2
                                have q1360_c := own_ne32 hc76
                                have q1361_c := own_nlt32 hc88
                                have q1362_c := own_lt32 hc91
                                have q1363_c := own_ne32 hc93
                                have q1364_c := own_eq32 hc114
                                have q1365_c := own_lt64 hc116
                                have q1366_c := own_nlt64 hc118
                                have q1367_c := own_nlt64 hc121
                                have q1368_c := own_nlt32 hc124
                                have q1369_c := own_lt32 hc133
                                rcases sp with h | h | h | h <;> omega
                              · have r135 : own_R p.tables e below F0 (T74.setTop (mkF m 380 #[.val (.int p0s), .val (.long p1s), .second, .val (.long p2s), .second, .val (.long p3s), .second, .val (.int nn), .val (.int k0), .val (.int k1), .val (.int k2), .val (.int z44), .val (.int z45), .val (.int z46), .val (.int z47), .val (.int z48), .val (.int z49), .val (.ref aS), .val (.ref aC), .val (.ref aK), .val (.long z66), .second, .val (.long z69), .second, .val (.long z72), .second, .val (.int r_74), .val (.long z69), .second] [(.int (1 : Int32))])) := fun tg_ kg_ => by
                                  refine r132 tg_ ?_
                                  show Steps p.tables e below (T74.setTop (mkF m 366 #[.val (.int p0s), .val (.long p1s), .second, .val (.long p2s), .second, .val (.long p3s), .second, .val (.int nn), .val (.int k0), .val (.int k1), .val (.int k2), .val (.int z44), .val (.int z45), .val (.int z46), .val (.int z47), .val (.int z48), .val (.int z49), .val (.ref aS), .val (.ref aC), .val (.ref aK), .val (.long z66), .second, .val (.long z69), .second, .val (.long z72), .second, .val (.int r_74), .val (.long z69), .second] [(.int (1 : Int32)), (.int r_74)])) _
                                  refine XS.icmpYes X74.here hx rfl (pc0 := 366) (pc' := 379) rfl (hb hby at_366) rfl (flt hc133).2.2.2 (by decide) (by decide) ?_
                                  show Steps p.tables e below (T74.setTop (mkF m 379 #[.val (.int p0s), .val (.long p1s), .second, .val (.long p2s), .second, .val (.long p3s), .second, .val (.int nn), .val (.int k0), .val (.int k1), .val (.int k2), .val (.int z44), .val (.int z45), .val (.int z46), .val (.int z47), .val (.int z48), .val (.int z49), .val (.ref aS), .val (.ref aC), .val (.ref aK), .val (.long z66), .second, .val (.long z69), .second, .val (.long z72), .second, .val (.int r_74), .val (.long z69), .second] [])) _
                                  refine XS.iconst X74.here hx rfl (hb hby at_379) ?_
                                  exact kg_
                                refine hG (own_fin X74 hlk (some (.int (nar .boolean (1 : Int32)))) (own_hv Bd.returns) ?_ (by decide) (by decide) (fun fs hr => r135 _ (retN X74 hx (t := .boolean) Bd.returns (by simp) (hb hby at_380) hr)))
                                rw [I74_0]
                                exact ⟨rfl, N74⟩
                      · have r136 : own_R p.tables e below F0 (T74.setTop (mkF m 321 #[.val (.int p0s), .val (.long p1s), .second, .val (.long p2s), .second, .val (.long p3s), .second, .val (.int nn), .val (.int k0), .val (.int k1), .val (.int k2), .val (.int z44), .val (.int z45), .val (.int z46), .val (.int z47), .val (.int z48), .val (.int z49), .val (.ref aS), .val (.ref aC), .val (.ref aK), .val (.long z66), .second, .val (.long z69), .second, .val (.long z72), .second, .val (.int r_74), .val (.long z69), .second] [(.int (0 : Int32))])) := fun tg_ kg_ => by
                          refine r115 tg_ ?_
                          show Steps p.tables e below (T74.setTop (mkF m 317 #[.val (.int p0s), .val (.long p1s), .second, .val (.long p2s), .second, .val (.long p3s), .second, .val (.int nn), .val (.int k0), .val (.int k1), .val (.int k2), .val (.int z44), .val (.int z45), .val (.int z46), .val (.int z47), .val (.int z48), .val (.int z49), .val (.ref aS), .val (.ref aC), .val (.ref aK), .val (.long z66), .second, .val (.long z69), .second, .val (.long z72), .second, .val (.int r_74), .val (.long z69), .second] [(.int (lcmpW z69 (0 : Int64)))])) _
                          refine XS.ifNo X74.here hx rfl (hb hby at_317) rfl (own_l_ngt hc116).1 ?_
                          show Steps p.tables e below (T74.setTop (mkF m 320 #[.val (.int p0s), .val (.long p1s), .second, .val (.long p2s), .second, .val (.long p3s), .second, .val (.int nn), .val (.int k0), .val (.int k1), .val (.int k2), .val (.int z44), .val (.int z45), .val (.int z46), .val (.int z47), .val (.int z48), .val (.int z49), .val (.ref aS), .val (.ref aC), .val (.ref aK), .val (.long z66), .second, .val (.long z69), .second, .val (.long z72), .second, .val (.int r_74), .val (.long z69), .second] [])) _
                          refine XS.iconst X74.here hx rfl (hb hby at_320) ?_
                          exact kg_
                        exfalso
                        have he0 := own_excC (0 : Int32) nn k0 z44 z45 0 N gs gc gk (by decide) hNN (fun q => ⟨own_eq32 (hv.1 q).1, own_eq32 (hv.1 q).2.1, (hv.1 q).2.2⟩) hnn11 hnn12
                        have he1 := own_excC (1 : Int32) nn k1 z46 z47 1 N gs gc gk (by decide) hNN (fun q => ⟨own_eq32 (hv.2.1 q).1, own_eq32 (hv.2.1 q).2.1, (hv.2.1 q).2.2⟩) hnn13 hnn14
                        have he2 := own_excC (2 : Int32) nn k2 z48 z49 2 N gs gc gk (by decide) hNN (fun q => ⟨own_eq32 (hv.2.2 q).1, own_eq32 (hv.2.2 q).2.1, (hv.2.2 q).2.2⟩) hnn15 hnn16
                        have sp := own_spec hN3 he0 he1 he2 I74_1
                        clear hv he0 he1 he2 I74_1
                        have q1370_r := own_R32 r_74
                        have q1371_e : (-1 : Int32).toInt = -1 := (by decide)
                        have q1371_r : (-1 : Int) ≤ (-1 : Int32).toInt ∧ (-1 : Int32).toInt ≤ -1 := ⟨Int.le_of_eq q1371_e.symm, Int.le_of_eq q1371_e⟩
                        have q1372_e : (0 : Int32).toInt = 0 := (by decide)
                        have q1372_r : (0 : Int) ≤ (0 : Int32).toInt ∧ (0 : Int32).toInt ≤ 0 := ⟨Int.le_of_eq q1372_e.symm, Int.le_of_eq q1372_e⟩
                        have q1373_r := own_R32 nn
                        have q1374_e : (1 : Int32).toInt = 1 := (by decide)
                        have q1374_r : (1 : Int) ≤ (1 : Int32).toInt ∧ (1 : Int32).toInt ≤ 1 := ⟨Int.le_of_eq q1374_e.symm, Int.le_of_eq q1374_e⟩
                        have q1375_e : (0 : Int64).toInt = 0 := (by decide)
                        have q1375_r : (0 : Int) ≤ (0 : Int64).toInt ∧ (0 : Int64).toInt ≤ 0 := ⟨Int.le_of_eq q1375_e.symm, Int.le_of_eq q1375_e⟩
                        have q1376_r := own_R32 k1
                        have q1377_r := own_R32 z46
                        have q1378_r := own_R32 z47
                        have q1379_r := own_R64 (own_exc (1 : Int32) nn k1 z46 z47)
                        have q1380_ := own_eqR64 hz69 q1379_r
                        have q1380_e := q1380_.1
                        have q1380_r := q1380_.2
                        have q1381_c := own_ne32 hc76
                        have q1382_c := own_nlt32 hc88
                        have q1383_c := own_lt32 hc91
                        have q1384_c := own_ne32 hc93
                        have q1385_c := own_eq32 hc114
                        have q1386_c := own_nlt64 hc116
                        rcases sp with h | h | h | h <;> omega
                    · have r137 : own_R p.tables e below F0 (T74.setTop (mkF m 317 #[.val (.int p0s), .val (.long p1s), .second, .val (.long p2s), .second, .val (.long p3s), .second, .val (.int nn), .val (.int k0), .val (.int k1), .val (.int k2), .val (.int z44), .val (.int z45), .val (.int z46), .val (.int z47), .val (.int z48), .val (.int z49), .val (.ref aS), .val (.ref aC), .val (.ref aK), .val (.long z66), .second, .val (.long z69), .second, .val (.long z72), .second, .val (.int r_74), .val (.long z72), .second] [(.int (lcmpW z72 (0 : Int64)))])) := fun tg_ kg_ => by
                        refine r113 tg_ ?_
                        show Steps p.tables e below (T74.setTop (mkF m 301 #[.val (.int p0s), .val (.long p1s), .second, .val (.long p2s), .second, .val (.long p3s), .second, .val (.int nn), .val (.int k0), .val (.int k1), .val (.int k2), .val (.int z44), .val (.int z45), .val (.int z46), .val (.int z47), .val (.int z48), .val (.int z49), .val (.ref aS), .val (.ref aC), .val (.ref aK), .val (.long z66), .second, .val (.long z69), .second, .val (.long z72), .second, .val (.int r_74), .unset, .unset] [(.int (1 : Int32)), (.int r_74)])) _
                        refine XS.icmpYes X74.here hx rfl (pc0 := 301) (pc' := 309) rfl (hb hby at_301) rfl (feq hc114).2 (by decide) (by decide) ?_
                        show Steps p.tables e below (T74.setTop (mkF m 309 #[.val (.int p0s), .val (.long p1s), .second, .val (.long p2s), .second, .val (.long p3s), .second, .val (.int nn), .val (.int k0), .val (.int k1), .val (.int k2), .val (.int z44), .val (.int z45), .val (.int z46), .val (.int z47), .val (.int z48), .val (.int z49), .val (.ref aS), .val (.ref aC), .val (.ref aK), .val (.long z66), .second, .val (.long z69), .second, .val (.long z72), .second, .val (.int r_74), .unset, .unset] [])) _
                        refine XS.lload X74.here hx rfl (hb hby at_309) rfl ?_
                        show Steps p.tables e below (T74.setTop (mkF m 311 #[.val (.int p0s), .val (.long p1s), .second, .val (.long p2s), .second, .val (.long p3s), .second, .val (.int nn), .val (.int k0), .val (.int k1), .val (.int k2), .val (.int z44), .val (.int z45), .val (.int z46), .val (.int z47), .val (.int z48), .val (.int z49), .val (.ref aS), .val (.ref aC), .val (.ref aK), .val (.long z66), .second, .val (.long z69), .second, .val (.long z72), .second, .val (.int r_74), .unset, .unset] [(.long z72)])) _
                        refine XS.lstore X74.here hx rfl (hb hby at_311) rfl (l' := #[.val (.int p0s), .val (.long p1s), .second, .val (.long p2s), .second, .val (.long p3s), .second, .val (.int nn), .val (.int k0), .val (.int k1), .val (.int k2), .val (.int z44), .val (.int z45), .val (.int z46), .val (.int z47), .val (.int z48), .val (.int z49), .val (.ref aS), .val (.ref aC), .val (.ref aK), .val (.long z66), .second, .val (.long z69), .second, .val (.long z72), .second, .val (.int r_74), .val (.long z72), .second]) rfl ?_
                        show Steps p.tables e below (T74.setTop (mkF m 313 #[.val (.int p0s), .val (.long p1s), .second, .val (.long p2s), .second, .val (.long p3s), .second, .val (.int nn), .val (.int k0), .val (.int k1), .val (.int k2), .val (.int z44), .val (.int z45), .val (.int z46), .val (.int z47), .val (.int z48), .val (.int z49), .val (.ref aS), .val (.ref aC), .val (.ref aK), .val (.long z66), .second, .val (.long z69), .second, .val (.long z72), .second, .val (.int r_74), .val (.long z72), .second] [])) _
                        refine XS.lload X74.here hx rfl (hb hby at_313) rfl ?_
                        show Steps p.tables e below (T74.setTop (mkF m 315 #[.val (.int p0s), .val (.long p1s), .second, .val (.long p2s), .second, .val (.long p3s), .second, .val (.int nn), .val (.int k0), .val (.int k1), .val (.int k2), .val (.int z44), .val (.int z45), .val (.int z46), .val (.int z47), .val (.int z48), .val (.int z49), .val (.ref aS), .val (.ref aC), .val (.ref aK), .val (.long z66), .second, .val (.long z69), .second, .val (.long z72), .second, .val (.int r_74), .val (.long z72), .second] [(.long z72)])) _
                        refine XS.lconst X74.here hx rfl (hb hby at_315) ?_
                        show Steps p.tables e below (T74.setTop (mkF m 316 #[.val (.int p0s), .val (.long p1s), .second, .val (.long p2s), .second, .val (.long p3s), .second, .val (.int nn), .val (.int k0), .val (.int k1), .val (.int k2), .val (.int z44), .val (.int z45), .val (.int z46), .val (.int z47), .val (.int z48), .val (.int z49), .val (.ref aS), .val (.ref aC), .val (.ref aK), .val (.long z66), .second, .val (.long z69), .second, .val (.long z72), .second, .val (.int r_74), .val (.long z72), .second] [(.long (0 : Int64)), (.long z72)])) _
                        refine XS.lcmp X74.here hx rfl (hb hby at_316) rfl ?_
                        exact kg_
                      by_cases hc138 : (0 : Int64) < z72
                      · have r139 : own_R p.tables e below F0 (T74.setTop (mkF m 327 #[.val (.int p0s), .val (.long p1s), .second, .val (.long p2s), .second, .val (.long p3s), .second, .val (.int nn), .val (.int k0), .val (.int k1), .val (.int k2), .val (.int z44), .val (.int z45), .val (.int z46), .val (.int z47), .val (.int z48), .val (.int z49), .val (.ref aS), .val (.ref aC), .val (.ref aK), .val (.long z66), .second, .val (.long z69), .second, .val (.long z72), .second, .val (.int r_74), .val (.long z72), .second] [(.int (lcmpW z72 z66))])) := fun tg_ kg_ => by
                          refine r137 tg_ ?_
                          show Steps p.tables e below (T74.setTop (mkF m 317 #[.val (.int p0s), .val (.long p1s), .second, .val (.long p2s), .second, .val (.long p3s), .second, .val (.int nn), .val (.int k0), .val (.int k1), .val (.int k2), .val (.int z44), .val (.int z45), .val (.int z46), .val (.int z47), .val (.int z48), .val (.int z49), .val (.ref aS), .val (.ref aC), .val (.ref aK), .val (.long z66), .second, .val (.long z69), .second, .val (.long z72), .second, .val (.int r_74), .val (.long z72), .second] [(.int (lcmpW z72 (0 : Int64)))])) _
                          refine XS.ifYes X74.here hx rfl (pc0 := 317) (pc' := 322) rfl (hb hby at_317) rfl (own_l_gt hc138).1 (by decide) (by decide) ?_
                          show Steps p.tables e below (T74.setTop (mkF m 322 #[.val (.int p0s), .val (.long p1s), .second, .val (.long p2s), .second, .val (.long p3s), .second, .val (.int nn), .val (.int k0), .val (.int k1), .val (.int k2), .val (.int z44), .val (.int z45), .val (.int z46), .val (.int z47), .val (.int z48), .val (.int z49), .val (.ref aS), .val (.ref aC), .val (.ref aK), .val (.long z66), .second, .val (.long z69), .second, .val (.long z72), .second, .val (.int r_74), .val (.long z72), .second] [])) _
                          refine XS.lload X74.here hx rfl (hb hby at_322) rfl ?_
                          show Steps p.tables e below (T74.setTop (mkF m 324 #[.val (.int p0s), .val (.long p1s), .second, .val (.long p2s), .second, .val (.long p3s), .second, .val (.int nn), .val (.int k0), .val (.int k1), .val (.int k2), .val (.int z44), .val (.int z45), .val (.int z46), .val (.int z47), .val (.int z48), .val (.int z49), .val (.ref aS), .val (.ref aC), .val (.ref aK), .val (.long z66), .second, .val (.long z69), .second, .val (.long z72), .second, .val (.int r_74), .val (.long z72), .second] [(.long z72)])) _
                          refine XS.lload X74.here hx rfl (hb hby at_324) rfl ?_
                          show Steps p.tables e below (T74.setTop (mkF m 326 #[.val (.int p0s), .val (.long p1s), .second, .val (.long p2s), .second, .val (.long p3s), .second, .val (.int nn), .val (.int k0), .val (.int k1), .val (.int k2), .val (.int z44), .val (.int z45), .val (.int z46), .val (.int z47), .val (.int z48), .val (.int z49), .val (.ref aS), .val (.ref aC), .val (.ref aK), .val (.long z66), .second, .val (.long z69), .second, .val (.long z72), .second, .val (.int r_74), .val (.long z72), .second] [(.long z66), (.long z72)])) _
                          refine XS.lcmp X74.here hx rfl (hb hby at_326) rfl ?_
                          exact kg_
                        by_cases hc140 : z72 < z66
                        · have r141 : own_R p.tables e below F0 (T74.setTop (mkF m 347 #[.val (.int p0s), .val (.long p1s), .second, .val (.long p2s), .second, .val (.long p3s), .second, .val (.int nn), .val (.int k0), .val (.int k1), .val (.int k2), .val (.int z44), .val (.int z45), .val (.int z46), .val (.int z47), .val (.int z48), .val (.int z49), .val (.ref aS), .val (.ref aC), .val (.ref aK), .val (.long z66), .second, .val (.long z69), .second, .val (.long z72), .second, .val (.int r_74), .val (.long z72), .second] [(.int (0 : Int32))])) := fun tg_ kg_ => by
                            refine r139 tg_ ?_
                            show Steps p.tables e below (T74.setTop (mkF m 327 #[.val (.int p0s), .val (.long p1s), .second, .val (.long p2s), .second, .val (.long p3s), .second, .val (.int nn), .val (.int k0), .val (.int k1), .val (.int k2), .val (.int z44), .val (.int z45), .val (.int z46), .val (.int z47), .val (.int z48), .val (.int z49), .val (.ref aS), .val (.ref aC), .val (.ref aK), .val (.long z66), .second, .val (.long z69), .second, .val (.long z72), .second, .val (.int r_74), .val (.long z72), .second] [(.int (lcmpW z72 z66))])) _
                            refine XS.ifYes X74.here hx rfl (pc0 := 327) (pc' := 346) rfl (hb hby at_327) rfl (own_l_lt hc140).1 (by decide) (by decide) ?_
                            show Steps p.tables e below (T74.setTop (mkF m 346 #[.val (.int p0s), .val (.long p1s), .second, .val (.long p2s), .second, .val (.long p3s), .second, .val (.int nn), .val (.int k0), .val (.int k1), .val (.int k2), .val (.int z44), .val (.int z45), .val (.int z46), .val (.int z47), .val (.int z48), .val (.int z49), .val (.ref aS), .val (.ref aC), .val (.ref aK), .val (.long z66), .second, .val (.long z69), .second, .val (.long z72), .second, .val (.int r_74), .val (.long z72), .second] [])) _
                            refine XS.iconst X74.here hx rfl (hb hby at_346) ?_
                            exact kg_
                          exfalso
                          have he0 := own_excC (0 : Int32) nn k0 z44 z45 0 N gs gc gk (by decide) hNN (fun q => ⟨own_eq32 (hv.1 q).1, own_eq32 (hv.1 q).2.1, (hv.1 q).2.2⟩) hnn11 hnn12
                          have he1 := own_excC (1 : Int32) nn k1 z46 z47 1 N gs gc gk (by decide) hNN (fun q => ⟨own_eq32 (hv.2.1 q).1, own_eq32 (hv.2.1 q).2.1, (hv.2.1 q).2.2⟩) hnn13 hnn14
                          have he2 := own_excC (2 : Int32) nn k2 z48 z49 2 N gs gc gk (by decide) hNN (fun q => ⟨own_eq32 (hv.2.2 q).1, own_eq32 (hv.2.2 q).2.1, (hv.2.2 q).2.2⟩) hnn15 hnn16
                          have sp := own_spec hN3 he0 he1 he2 I74_1
                          clear hv he0 he1 he2 I74_1
                          have q1387_r := own_R32 r_74
                          have q1388_e : (-1 : Int32).toInt = -1 := (by decide)
                          have q1388_r : (-1 : Int) ≤ (-1 : Int32).toInt ∧ (-1 : Int32).toInt ≤ -1 := ⟨Int.le_of_eq q1388_e.symm, Int.le_of_eq q1388_e⟩
                          have q1389_e : (0 : Int32).toInt = 0 := (by decide)
                          have q1389_r : (0 : Int) ≤ (0 : Int32).toInt ∧ (0 : Int32).toInt ≤ 0 := ⟨Int.le_of_eq q1389_e.symm, Int.le_of_eq q1389_e⟩
                          have q1390_r := own_R32 nn
                          have q1391_e : (1 : Int32).toInt = 1 := (by decide)
                          have q1391_r : (1 : Int) ≤ (1 : Int32).toInt ∧ (1 : Int32).toInt ≤ 1 := ⟨Int.le_of_eq q1391_e.symm, Int.le_of_eq q1391_e⟩
                          have q1392_e : (0 : Int64).toInt = 0 := (by decide)
                          have q1392_r : (0 : Int) ≤ (0 : Int64).toInt ∧ (0 : Int64).toInt ≤ 0 := ⟨Int.le_of_eq q1392_e.symm, Int.le_of_eq q1392_e⟩
                          have q1393_e : (2 : Int32).toInt = 2 := (by decide)
                          have q1393_r : (2 : Int) ≤ (2 : Int32).toInt ∧ (2 : Int32).toInt ≤ 2 := ⟨Int.le_of_eq q1393_e.symm, Int.le_of_eq q1393_e⟩
                          have q1394_r := own_R32 k2
                          have q1395_r := own_R32 z48
                          have q1396_r := own_R32 z49
                          have q1397_r := own_R64 (own_exc (2 : Int32) nn k2 z48 z49)
                          have q1398_ := own_eqR64 hz72 q1397_r
                          have q1398_e := q1398_.1
                          have q1398_r := q1398_.2
                          have q1399_r := own_R32 k0
                          have q1400_r := own_R32 z44
                          have q1401_r := own_R32 z45
                          have q1402_r := own_R64 (own_exc (0 : Int32) nn k0 z44 z45)
                          have q1403_ := own_eqR64 hz66 q1402_r
                          have q1403_e := q1403_.1
                          have q1403_r := q1403_.2
                          have q1404_c := own_ne32 hc76
                          have q1405_c := own_nlt32 hc88
                          have q1406_c := own_lt32 hc91
                          have q1407_c := own_ne32 hc93
                          have q1408_c := own_ne32 hc114
                          have q1409_c := own_lt64 hc138
                          have q1410_c := own_lt64 hc140
                          rcases sp with h | h | h | h <;> omega
                        · have r142 : own_R p.tables e below F0 (T74.setTop (mkF m 335 #[.val (.int p0s), .val (.long p1s), .second, .val (.long p2s), .second, .val (.long p3s), .second, .val (.int nn), .val (.int k0), .val (.int k1), .val (.int k2), .val (.int z44), .val (.int z45), .val (.int z46), .val (.int z47), .val (.int z48), .val (.int z49), .val (.ref aS), .val (.ref aC), .val (.ref aK), .val (.long z66), .second, .val (.long z69), .second, .val (.long z72), .second, .val (.int r_74), .val (.long z72), .second] [(.int (lcmpW z72 z69))])) := fun tg_ kg_ => by
                            refine r139 tg_ ?_
                            show Steps p.tables e below (T74.setTop (mkF m 327 #[.val (.int p0s), .val (.long p1s), .second, .val (.long p2s), .second, .val (.long p3s), .second, .val (.int nn), .val (.int k0), .val (.int k1), .val (.int k2), .val (.int z44), .val (.int z45), .val (.int z46), .val (.int z47), .val (.int z48), .val (.int z49), .val (.ref aS), .val (.ref aC), .val (.ref aK), .val (.long z66), .second, .val (.long z69), .second, .val (.long z72), .second, .val (.int r_74), .val (.long z72), .second] [(.int (lcmpW z72 z66))])) _
                            refine XS.ifNo X74.here hx rfl (hb hby at_327) rfl (own_l_nlt hc140).1 ?_
                            show Steps p.tables e below (T74.setTop (mkF m 330 #[.val (.int p0s), .val (.long p1s), .second, .val (.long p2s), .second, .val (.long p3s), .second, .val (.int nn), .val (.int k0), .val (.int k1), .val (.int k2), .val (.int z44), .val (.int z45), .val (.int z46), .val (.int z47), .val (.int z48), .val (.int z49), .val (.ref aS), .val (.ref aC), .val (.ref aK), .val (.long z66), .second, .val (.long z69), .second, .val (.long z72), .second, .val (.int r_74), .val (.long z72), .second] [])) _
                            refine XS.lload X74.here hx rfl (hb hby at_330) rfl ?_
                            show Steps p.tables e below (T74.setTop (mkF m 332 #[.val (.int p0s), .val (.long p1s), .second, .val (.long p2s), .second, .val (.long p3s), .second, .val (.int nn), .val (.int k0), .val (.int k1), .val (.int k2), .val (.int z44), .val (.int z45), .val (.int z46), .val (.int z47), .val (.int z48), .val (.int z49), .val (.ref aS), .val (.ref aC), .val (.ref aK), .val (.long z66), .second, .val (.long z69), .second, .val (.long z72), .second, .val (.int r_74), .val (.long z72), .second] [(.long z72)])) _
                            refine XS.lload X74.here hx rfl (hb hby at_332) rfl ?_
                            show Steps p.tables e below (T74.setTop (mkF m 334 #[.val (.int p0s), .val (.long p1s), .second, .val (.long p2s), .second, .val (.long p3s), .second, .val (.int nn), .val (.int k0), .val (.int k1), .val (.int k2), .val (.int z44), .val (.int z45), .val (.int z46), .val (.int z47), .val (.int z48), .val (.int z49), .val (.ref aS), .val (.ref aC), .val (.ref aK), .val (.long z66), .second, .val (.long z69), .second, .val (.long z72), .second, .val (.int r_74), .val (.long z72), .second] [(.long z69), (.long z72)])) _
                            refine XS.lcmp X74.here hx rfl (hb hby at_334) rfl ?_
                            exact kg_
                          by_cases hc143 : z72 < z69
                          · have r144 : own_R p.tables e below F0 (T74.setTop (mkF m 347 #[.val (.int p0s), .val (.long p1s), .second, .val (.long p2s), .second, .val (.long p3s), .second, .val (.int nn), .val (.int k0), .val (.int k1), .val (.int k2), .val (.int z44), .val (.int z45), .val (.int z46), .val (.int z47), .val (.int z48), .val (.int z49), .val (.ref aS), .val (.ref aC), .val (.ref aK), .val (.long z66), .second, .val (.long z69), .second, .val (.long z72), .second, .val (.int r_74), .val (.long z72), .second] [(.int (0 : Int32))])) := fun tg_ kg_ => by
                              refine r142 tg_ ?_
                              show Steps p.tables e below (T74.setTop (mkF m 335 #[.val (.int p0s), .val (.long p1s), .second, .val (.long p2s), .second, .val (.long p3s), .second, .val (.int nn), .val (.int k0), .val (.int k1), .val (.int k2), .val (.int z44), .val (.int z45), .val (.int z46), .val (.int z47), .val (.int z48), .val (.int z49), .val (.ref aS), .val (.ref aC), .val (.ref aK), .val (.long z66), .second, .val (.long z69), .second, .val (.long z72), .second, .val (.int r_74), .val (.long z72), .second] [(.int (lcmpW z72 z69))])) _
                              refine XS.ifYes X74.here hx rfl (pc0 := 335) (pc' := 346) rfl (hb hby at_335) rfl (own_l_lt hc143).1 (by decide) (by decide) ?_
                              show Steps p.tables e below (T74.setTop (mkF m 346 #[.val (.int p0s), .val (.long p1s), .second, .val (.long p2s), .second, .val (.long p3s), .second, .val (.int nn), .val (.int k0), .val (.int k1), .val (.int k2), .val (.int z44), .val (.int z45), .val (.int z46), .val (.int z47), .val (.int z48), .val (.int z49), .val (.ref aS), .val (.ref aC), .val (.ref aK), .val (.long z66), .second, .val (.long z69), .second, .val (.long z72), .second, .val (.int r_74), .val (.long z72), .second] [])) _
                              refine XS.iconst X74.here hx rfl (hb hby at_346) ?_
                              exact kg_
                            exfalso
                            have he0 := own_excC (0 : Int32) nn k0 z44 z45 0 N gs gc gk (by decide) hNN (fun q => ⟨own_eq32 (hv.1 q).1, own_eq32 (hv.1 q).2.1, (hv.1 q).2.2⟩) hnn11 hnn12
                            have he1 := own_excC (1 : Int32) nn k1 z46 z47 1 N gs gc gk (by decide) hNN (fun q => ⟨own_eq32 (hv.2.1 q).1, own_eq32 (hv.2.1 q).2.1, (hv.2.1 q).2.2⟩) hnn13 hnn14
                            have he2 := own_excC (2 : Int32) nn k2 z48 z49 2 N gs gc gk (by decide) hNN (fun q => ⟨own_eq32 (hv.2.2 q).1, own_eq32 (hv.2.2 q).2.1, (hv.2.2 q).2.2⟩) hnn15 hnn16
                            have sp := own_spec hN3 he0 he1 he2 I74_1
                            clear hv he0 he1 he2 I74_1
                            have q1411_r := own_R32 r_74
                            have q1412_e : (-1 : Int32).toInt = -1 := (by decide)
                            have q1412_r : (-1 : Int) ≤ (-1 : Int32).toInt ∧ (-1 : Int32).toInt ≤ -1 := ⟨Int.le_of_eq q1412_e.symm, Int.le_of_eq q1412_e⟩
                            have q1413_e : (0 : Int32).toInt = 0 := (by decide)
                            have q1413_r : (0 : Int) ≤ (0 : Int32).toInt ∧ (0 : Int32).toInt ≤ 0 := ⟨Int.le_of_eq q1413_e.symm, Int.le_of_eq q1413_e⟩
                            have q1414_r := own_R32 nn
                            have q1415_e : (1 : Int32).toInt = 1 := (by decide)
                            have q1415_r : (1 : Int) ≤ (1 : Int32).toInt ∧ (1 : Int32).toInt ≤ 1 := ⟨Int.le_of_eq q1415_e.symm, Int.le_of_eq q1415_e⟩
                            have q1416_e : (0 : Int64).toInt = 0 := (by decide)
                            have q1416_r : (0 : Int) ≤ (0 : Int64).toInt ∧ (0 : Int64).toInt ≤ 0 := ⟨Int.le_of_eq q1416_e.symm, Int.le_of_eq q1416_e⟩
                            have q1417_e : (2 : Int32).toInt = 2 := (by decide)
                            have q1417_r : (2 : Int) ≤ (2 : Int32).toInt ∧ (2 : Int32).toInt ≤ 2 := ⟨Int.le_of_eq q1417_e.symm, Int.le_of_eq q1417_e⟩
                            have q1418_r := own_R32 k2
                            have q1419_r := own_R32 z48
                            have q1420_r := own_R32 z49
                            have q1421_r := own_R64 (own_exc (2 : Int32) nn k2 z48 z49)
                            have q1422_ := own_eqR64 hz72 q1421_r
                            have q1422_e := q1422_.1
                            have q1422_r := q1422_.2
                            have q1423_r := own_R32 k0
                            have q1424_r := own_R32 z44
                            have q1425_r := own_R32 z45
                            have q1426_r := own_R64 (own_exc (0 : Int32) nn k0 z44 z45)
                            have q1427_ := own_eqR64 hz66 q1426_r
                            have q1427_e := q1427_.1
                            have q1427_r := q1427_.2
                            have q1428_r := own_R32 k1
                            have q1429_r := own_R32 z46
                            have q1430_r := own_R32 z47
                            have q1431_r := own_R64 (own_exc (1 : Int32) nn k1 z46 z47)
                            have q1432_ := own_eqR64 hz69 q1431_r
                            have q1432_e := q1432_.1
                            have q1432_r := q1432_.2
                            have q1433_c := own_ne32 hc76
                            have q1434_c := own_nlt32 hc88
                            have q1435_c := own_lt32 hc91
                            have q1436_c := own_ne32 hc93
                            have q1437_c := own_ne32 hc114
                            have q1438_c := own_lt64 hc138
                            have q1439_c := own_nlt64 hc140
                            have q1440_c := own_lt64 hc143
                            rcases sp with h | h | h | h <;> omega
                          · have r145 : own_R p.tables e below F0 (T74.setTop (mkF m 350 #[.val (.int p0s), .val (.long p1s), .second, .val (.long p2s), .second, .val (.long p3s), .second, .val (.int nn), .val (.int k0), .val (.int k1), .val (.int k2), .val (.int z44), .val (.int z45), .val (.int z46), .val (.int z47), .val (.int z48), .val (.int z49), .val (.ref aS), .val (.ref aC), .val (.ref aK), .val (.long z66), .second, .val (.long z69), .second, .val (.long z72), .second, .val (.int r_74), .val (.long z72), .second] [(.int r_74)])) := fun tg_ kg_ => by
                              refine r142 tg_ ?_
                              show Steps p.tables e below (T74.setTop (mkF m 335 #[.val (.int p0s), .val (.long p1s), .second, .val (.long p2s), .second, .val (.long p3s), .second, .val (.int nn), .val (.int k0), .val (.int k1), .val (.int k2), .val (.int z44), .val (.int z45), .val (.int z46), .val (.int z47), .val (.int z48), .val (.int z49), .val (.ref aS), .val (.ref aC), .val (.ref aK), .val (.long z66), .second, .val (.long z69), .second, .val (.long z72), .second, .val (.int r_74), .val (.long z72), .second] [(.int (lcmpW z72 z69))])) _
                              refine XS.ifNo X74.here hx rfl (hb hby at_335) rfl (own_l_nlt hc143).1 ?_
                              show Steps p.tables e below (T74.setTop (mkF m 338 #[.val (.int p0s), .val (.long p1s), .second, .val (.long p2s), .second, .val (.long p3s), .second, .val (.int nn), .val (.int k0), .val (.int k1), .val (.int k2), .val (.int z44), .val (.int z45), .val (.int z46), .val (.int z47), .val (.int z48), .val (.int z49), .val (.ref aS), .val (.ref aC), .val (.ref aK), .val (.long z66), .second, .val (.long z69), .second, .val (.long z72), .second, .val (.int r_74), .val (.long z72), .second] [])) _
                              refine XS.lload X74.here hx rfl (hb hby at_338) rfl ?_
                              show Steps p.tables e below (T74.setTop (mkF m 340 #[.val (.int p0s), .val (.long p1s), .second, .val (.long p2s), .second, .val (.long p3s), .second, .val (.int nn), .val (.int k0), .val (.int k1), .val (.int k2), .val (.int z44), .val (.int z45), .val (.int z46), .val (.int z47), .val (.int z48), .val (.int z49), .val (.ref aS), .val (.ref aC), .val (.ref aK), .val (.long z66), .second, .val (.long z69), .second, .val (.long z72), .second, .val (.int r_74), .val (.long z72), .second] [(.long z72)])) _
                              refine XS.lload X74.here hx rfl (hb hby at_340) rfl ?_
                              show Steps p.tables e below (T74.setTop (mkF m 342 #[.val (.int p0s), .val (.long p1s), .second, .val (.long p2s), .second, .val (.long p3s), .second, .val (.int nn), .val (.int k0), .val (.int k1), .val (.int k2), .val (.int z44), .val (.int z45), .val (.int z46), .val (.int z47), .val (.int z48), .val (.int z49), .val (.ref aS), .val (.ref aC), .val (.ref aK), .val (.long z66), .second, .val (.long z69), .second, .val (.long z72), .second, .val (.int r_74), .val (.long z72), .second] [(.long z72), (.long z72)])) _
                              refine XS.lcmp X74.here hx rfl (hb hby at_342) rfl ?_
                              show Steps p.tables e below (T74.setTop (mkF m 343 #[.val (.int p0s), .val (.long p1s), .second, .val (.long p2s), .second, .val (.long p3s), .second, .val (.int nn), .val (.int k0), .val (.int k1), .val (.int k2), .val (.int z44), .val (.int z45), .val (.int z46), .val (.int z47), .val (.int z48), .val (.int z49), .val (.ref aS), .val (.ref aC), .val (.ref aK), .val (.long z66), .second, .val (.long z69), .second, .val (.long z72), .second, .val (.int r_74), .val (.long z72), .second] [(.int (lcmpW z72 z72))])) _
                              refine XS.ifYes X74.here hx rfl (pc0 := 343) (pc' := 348) rfl (hb hby at_343) rfl (own_l_nlt Int64.lt_irrefl).2 (by decide) (by decide) ?_
                              show Steps p.tables e below (T74.setTop (mkF m 348 #[.val (.int p0s), .val (.long p1s), .second, .val (.long p2s), .second, .val (.long p3s), .second, .val (.int nn), .val (.int k0), .val (.int k1), .val (.int k2), .val (.int z44), .val (.int z45), .val (.int z46), .val (.int z47), .val (.int z48), .val (.int z49), .val (.ref aS), .val (.ref aC), .val (.ref aK), .val (.long z66), .second, .val (.long z69), .second, .val (.long z72), .second, .val (.int r_74), .val (.long z72), .second] [])) _
                              refine XS.iload X74.here hx rfl (hb hby at_348) rfl ?_
                              exact kg_
                            by_cases hc146 : (0 : Int32) < r_74
                            · have r147 : own_R p.tables e below F0 (T74.setTop (mkF m 358 #[.val (.int p0s), .val (.long p1s), .second, .val (.long p2s), .second, .val (.long p3s), .second, .val (.int nn), .val (.int k0), .val (.int k1), .val (.int k2), .val (.int z44), .val (.int z45), .val (.int z46), .val (.int z47), .val (.int z48), .val (.int z49), .val (.ref aS), .val (.ref aC), .val (.ref aK), .val (.long z66), .second, .val (.long z69), .second, .val (.long z72), .second, .val (.int r_74), .val (.long z72), .second] [(.int (lcmpW z72 z66))])) := fun tg_ kg_ => by
                                refine r145 tg_ ?_
                                show Steps p.tables e below (T74.setTop (mkF m 350 #[.val (.int p0s), .val (.long p1s), .second, .val (.long p2s), .second, .val (.long p3s), .second, .val (.int nn), .val (.int k0), .val (.int k1), .val (.int k2), .val (.int z44), .val (.int z45), .val (.int z46), .val (.int z47), .val (.int z48), .val (.int z49), .val (.ref aS), .val (.ref aC), .val (.ref aK), .val (.long z66), .second, .val (.long z69), .second, .val (.long z72), .second, .val (.int r_74), .val (.long z72), .second] [(.int r_74)])) _
                                refine XS.ifNo X74.here hx rfl (hb hby at_350) rfl ((if0 _ _).trans (tlt hc146).2.2.2) ?_
                                show Steps p.tables e below (T74.setTop (mkF m 353 #[.val (.int p0s), .val (.long p1s), .second, .val (.long p2s), .second, .val (.long p3s), .second, .val (.int nn), .val (.int k0), .val (.int k1), .val (.int k2), .val (.int z44), .val (.int z45), .val (.int z46), .val (.int z47), .val (.int z48), .val (.int z49), .val (.ref aS), .val (.ref aC), .val (.ref aK), .val (.long z66), .second, .val (.long z69), .second, .val (.long z72), .second, .val (.int r_74), .val (.long z72), .second] [])) _
                                refine XS.lload X74.here hx rfl (hb hby at_353) rfl ?_
                                show Steps p.tables e below (T74.setTop (mkF m 355 #[.val (.int p0s), .val (.long p1s), .second, .val (.long p2s), .second, .val (.long p3s), .second, .val (.int nn), .val (.int k0), .val (.int k1), .val (.int k2), .val (.int z44), .val (.int z45), .val (.int z46), .val (.int z47), .val (.int z48), .val (.int z49), .val (.ref aS), .val (.ref aC), .val (.ref aK), .val (.long z66), .second, .val (.long z69), .second, .val (.long z72), .second, .val (.int r_74), .val (.long z72), .second] [(.long z72)])) _
                                refine XS.lload X74.here hx rfl (hb hby at_355) rfl ?_
                                show Steps p.tables e below (T74.setTop (mkF m 357 #[.val (.int p0s), .val (.long p1s), .second, .val (.long p2s), .second, .val (.long p3s), .second, .val (.int nn), .val (.int k0), .val (.int k1), .val (.int k2), .val (.int z44), .val (.int z45), .val (.int z46), .val (.int z47), .val (.int z48), .val (.int z49), .val (.ref aS), .val (.ref aC), .val (.ref aK), .val (.long z66), .second, .val (.long z69), .second, .val (.long z72), .second, .val (.int r_74), .val (.long z72), .second] [(.long z66), (.long z72)])) _
                                refine XS.lcmp X74.here hx rfl (hb hby at_357) rfl ?_
                                exact kg_
                              by_cases hc148 : z66 < z72
                              · have r149 : own_R p.tables e below F0 (T74.setTop (mkF m 366 #[.val (.int p0s), .val (.long p1s), .second, .val (.long p2s), .second, .val (.long p3s), .second, .val (.int nn), .val (.int k0), .val (.int k1), .val (.int k2), .val (.int z44), .val (.int z45), .val (.int z46), .val (.int z47), .val (.int z48), .val (.int z49), .val (.ref aS), .val (.ref aC), .val (.ref aK), .val (.long z66), .second, .val (.long z69), .second, .val (.long z72), .second, .val (.int r_74), .val (.long z72), .second] [(.int (1 : Int32)), (.int r_74)])) := fun tg_ kg_ => by
                                  refine r147 tg_ ?_
                                  show Steps p.tables e below (T74.setTop (mkF m 358 #[.val (.int p0s), .val (.long p1s), .second, .val (.long p2s), .second, .val (.long p3s), .second, .val (.int nn), .val (.int k0), .val (.int k1), .val (.int k2), .val (.int z44), .val (.int z45), .val (.int z46), .val (.int z47), .val (.int z48), .val (.int z49), .val (.ref aS), .val (.ref aC), .val (.ref aK), .val (.long z66), .second, .val (.long z69), .second, .val (.long z72), .second, .val (.int r_74), .val (.long z72), .second] [(.int (lcmpW z72 z66))])) _
                                  refine XS.ifYes X74.here hx rfl (pc0 := 358) (pc' := 363) rfl (hb hby at_358) rfl (own_l_gt hc148).1 (by decide) (by decide) ?_
                                  show Steps p.tables e below (T74.setTop (mkF m 363 #[.val (.int p0s), .val (.long p1s), .second, .val (.long p2s), .second, .val (.long p3s), .second, .val (.int nn), .val (.int k0), .val (.int k1), .val (.int k2), .val (.int z44), .val (.int z45), .val (.int z46), .val (.int z47), .val (.int z48), .val (.int z49), .val (.ref aS), .val (.ref aC), .val (.ref aK), .val (.long z66), .second, .val (.long z69), .second, .val (.long z72), .second, .val (.int r_74), .val (.long z72), .second] [])) _
                                  refine XS.iload X74.here hx rfl (hb hby at_363) rfl ?_
                                  show Steps p.tables e below (T74.setTop (mkF m 365 #[.val (.int p0s), .val (.long p1s), .second, .val (.long p2s), .second, .val (.long p3s), .second, .val (.int nn), .val (.int k0), .val (.int k1), .val (.int k2), .val (.int z44), .val (.int z45), .val (.int z46), .val (.int z47), .val (.int z48), .val (.int z49), .val (.ref aS), .val (.ref aC), .val (.ref aK), .val (.long z66), .second, .val (.long z69), .second, .val (.long z72), .second, .val (.int r_74), .val (.long z72), .second] [(.int r_74)])) _
                                  refine XS.iconst X74.here hx rfl (hb hby at_365) ?_
                                  exact kg_
                                by_cases hc150 : (1 : Int32) < r_74
                                · have r151 : own_R p.tables e below F0 (T74.setTop (mkF m 374 #[.val (.int p0s), .val (.long p1s), .second, .val (.long p2s), .second, .val (.long p3s), .second, .val (.int nn), .val (.int k0), .val (.int k1), .val (.int k2), .val (.int z44), .val (.int z45), .val (.int z46), .val (.int z47), .val (.int z48), .val (.int z49), .val (.ref aS), .val (.ref aC), .val (.ref aK), .val (.long z66), .second, .val (.long z69), .second, .val (.long z72), .second, .val (.int r_74), .val (.long z72), .second] [(.int (lcmpW z72 z69))])) := fun tg_ kg_ => by
                                    refine r149 tg_ ?_
                                    show Steps p.tables e below (T74.setTop (mkF m 366 #[.val (.int p0s), .val (.long p1s), .second, .val (.long p2s), .second, .val (.long p3s), .second, .val (.int nn), .val (.int k0), .val (.int k1), .val (.int k2), .val (.int z44), .val (.int z45), .val (.int z46), .val (.int z47), .val (.int z48), .val (.int z49), .val (.ref aS), .val (.ref aC), .val (.ref aK), .val (.long z66), .second, .val (.long z69), .second, .val (.long z72), .second, .val (.int r_74), .val (.long z72), .second] [(.int (1 : Int32)), (.int r_74)])) _
                                    refine XS.icmpNo X74.here hx rfl (hb hby at_366) rfl (tlt hc150).2.2.2 ?_
                                    show Steps p.tables e below (T74.setTop (mkF m 369 #[.val (.int p0s), .val (.long p1s), .second, .val (.long p2s), .second, .val (.long p3s), .second, .val (.int nn), .val (.int k0), .val (.int k1), .val (.int k2), .val (.int z44), .val (.int z45), .val (.int z46), .val (.int z47), .val (.int z48), .val (.int z49), .val (.ref aS), .val (.ref aC), .val (.ref aK), .val (.long z66), .second, .val (.long z69), .second, .val (.long z72), .second, .val (.int r_74), .val (.long z72), .second] [])) _
                                    refine XS.lload X74.here hx rfl (hb hby at_369) rfl ?_
                                    show Steps p.tables e below (T74.setTop (mkF m 371 #[.val (.int p0s), .val (.long p1s), .second, .val (.long p2s), .second, .val (.long p3s), .second, .val (.int nn), .val (.int k0), .val (.int k1), .val (.int k2), .val (.int z44), .val (.int z45), .val (.int z46), .val (.int z47), .val (.int z48), .val (.int z49), .val (.ref aS), .val (.ref aC), .val (.ref aK), .val (.long z66), .second, .val (.long z69), .second, .val (.long z72), .second, .val (.int r_74), .val (.long z72), .second] [(.long z72)])) _
                                    refine XS.lload X74.here hx rfl (hb hby at_371) rfl ?_
                                    show Steps p.tables e below (T74.setTop (mkF m 373 #[.val (.int p0s), .val (.long p1s), .second, .val (.long p2s), .second, .val (.long p3s), .second, .val (.int nn), .val (.int k0), .val (.int k1), .val (.int k2), .val (.int z44), .val (.int z45), .val (.int z46), .val (.int z47), .val (.int z48), .val (.int z49), .val (.ref aS), .val (.ref aC), .val (.ref aK), .val (.long z66), .second, .val (.long z69), .second, .val (.long z72), .second, .val (.int r_74), .val (.long z72), .second] [(.long z69), (.long z72)])) _
                                    refine XS.lcmp X74.here hx rfl (hb hby at_373) rfl ?_
                                    exact kg_
                                  by_cases hc152 : z69 < z72
                                  · have r153 : own_R p.tables e below F0 (T74.setTop (mkF m 380 #[.val (.int p0s), .val (.long p1s), .second, .val (.long p2s), .second, .val (.long p3s), .second, .val (.int nn), .val (.int k0), .val (.int k1), .val (.int k2), .val (.int z44), .val (.int z45), .val (.int z46), .val (.int z47), .val (.int z48), .val (.int z49), .val (.ref aS), .val (.ref aC), .val (.ref aK), .val (.long z66), .second, .val (.long z69), .second, .val (.long z72), .second, .val (.int r_74), .val (.long z72), .second] [(.int (1 : Int32))])) := fun tg_ kg_ => by
                                      refine r151 tg_ ?_
                                      show Steps p.tables e below (T74.setTop (mkF m 374 #[.val (.int p0s), .val (.long p1s), .second, .val (.long p2s), .second, .val (.long p3s), .second, .val (.int nn), .val (.int k0), .val (.int k1), .val (.int k2), .val (.int z44), .val (.int z45), .val (.int z46), .val (.int z47), .val (.int z48), .val (.int z49), .val (.ref aS), .val (.ref aC), .val (.ref aK), .val (.long z66), .second, .val (.long z69), .second, .val (.long z72), .second, .val (.int r_74), .val (.long z72), .second] [(.int (lcmpW z72 z69))])) _
                                      refine XS.ifYes X74.here hx rfl (pc0 := 374) (pc' := 379) rfl (hb hby at_374) rfl (own_l_gt hc152).1 (by decide) (by decide) ?_
                                      show Steps p.tables e below (T74.setTop (mkF m 379 #[.val (.int p0s), .val (.long p1s), .second, .val (.long p2s), .second, .val (.long p3s), .second, .val (.int nn), .val (.int k0), .val (.int k1), .val (.int k2), .val (.int z44), .val (.int z45), .val (.int z46), .val (.int z47), .val (.int z48), .val (.int z49), .val (.ref aS), .val (.ref aC), .val (.ref aK), .val (.long z66), .second, .val (.long z69), .second, .val (.long z72), .second, .val (.int r_74), .val (.long z72), .second] [])) _
                                      refine XS.iconst X74.here hx rfl (hb hby at_379) ?_
                                      exact kg_
                                    refine hG (own_fin X74 hlk (some (.int (nar .boolean (1 : Int32)))) (own_hv Bd.returns) ?_ (by decide) (by decide) (fun fs hr => r153 _ (retN X74 hx (t := .boolean) Bd.returns (by simp) (hb hby at_380) hr)))
                                    rw [I74_0]
                                    exact ⟨rfl, N74⟩
                                  · have r154 : own_R p.tables e below F0 (T74.setTop (mkF m 378 #[.val (.int p0s), .val (.long p1s), .second, .val (.long p2s), .second, .val (.long p3s), .second, .val (.int nn), .val (.int k0), .val (.int k1), .val (.int k2), .val (.int z44), .val (.int z45), .val (.int z46), .val (.int z47), .val (.int z48), .val (.int z49), .val (.ref aS), .val (.ref aC), .val (.ref aK), .val (.long z66), .second, .val (.long z69), .second, .val (.long z72), .second, .val (.int r_74), .val (.long z72), .second] [(.int (0 : Int32))])) := fun tg_ kg_ => by
                                      refine r151 tg_ ?_
                                      show Steps p.tables e below (T74.setTop (mkF m 374 #[.val (.int p0s), .val (.long p1s), .second, .val (.long p2s), .second, .val (.long p3s), .second, .val (.int nn), .val (.int k0), .val (.int k1), .val (.int k2), .val (.int z44), .val (.int z45), .val (.int z46), .val (.int z47), .val (.int z48), .val (.int z49), .val (.ref aS), .val (.ref aC), .val (.ref aK), .val (.long z66), .second, .val (.long z69), .second, .val (.long z72), .second, .val (.int r_74), .val (.long z72), .second] [(.int (lcmpW z72 z69))])) _
                                      refine XS.ifNo X74.here hx rfl (hb hby at_374) rfl (own_l_ngt hc152).1 ?_
                                      show Steps p.tables e below (T74.setTop (mkF m 377 #[.val (.int p0s), .val (.long p1s), .second, .val (.long p2s), .second, .val (.long p3s), .second, .val (.int nn), .val (.int k0), .val (.int k1), .val (.int k2), .val (.int z44), .val (.int z45), .val (.int z46), .val (.int z47), .val (.int z48), .val (.int z49), .val (.ref aS), .val (.ref aC), .val (.ref aK), .val (.long z66), .second, .val (.long z69), .second, .val (.long z72), .second, .val (.int r_74), .val (.long z72), .second] [])) _
                                      refine XS.iconst X74.here hx rfl (hb hby at_377) ?_
                                      exact kg_
                                    exfalso
                                    have he0 := own_excC (0 : Int32) nn k0 z44 z45 0 N gs gc gk (by decide) hNN (fun q => ⟨own_eq32 (hv.1 q).1, own_eq32 (hv.1 q).2.1, (hv.1 q).2.2⟩) hnn11 hnn12
                                    have he1 := own_excC (1 : Int32) nn k1 z46 z47 1 N gs gc gk (by decide) hNN (fun q => ⟨own_eq32 (hv.2.1 q).1, own_eq32 (hv.2.1 q).2.1, (hv.2.1 q).2.2⟩) hnn13 hnn14
                                    have he2 := own_excC (2 : Int32) nn k2 z48 z49 2 N gs gc gk (by decide) hNN (fun q => ⟨own_eq32 (hv.2.2 q).1, own_eq32 (hv.2.2 q).2.1, (hv.2.2 q).2.2⟩) hnn15 hnn16
                                    have sp := own_spec hN3 he0 he1 he2 I74_1
                                    clear hv he0 he1 he2 I74_1
                                    have q1441_r := own_R32 r_74
                                    have q1442_e : (-1 : Int32).toInt = -1 := (by decide)
                                    have q1442_r : (-1 : Int) ≤ (-1 : Int32).toInt ∧ (-1 : Int32).toInt ≤ -1 := ⟨Int.le_of_eq q1442_e.symm, Int.le_of_eq q1442_e⟩
                                    have q1443_e : (0 : Int32).toInt = 0 := (by decide)
                                    have q1443_r : (0 : Int) ≤ (0 : Int32).toInt ∧ (0 : Int32).toInt ≤ 0 := ⟨Int.le_of_eq q1443_e.symm, Int.le_of_eq q1443_e⟩
                                    have q1444_r := own_R32 nn
                                    have q1445_e : (1 : Int32).toInt = 1 := (by decide)
                                    have q1445_r : (1 : Int) ≤ (1 : Int32).toInt ∧ (1 : Int32).toInt ≤ 1 := ⟨Int.le_of_eq q1445_e.symm, Int.le_of_eq q1445_e⟩
                                    have q1446_e : (0 : Int64).toInt = 0 := (by decide)
                                    have q1446_r : (0 : Int) ≤ (0 : Int64).toInt ∧ (0 : Int64).toInt ≤ 0 := ⟨Int.le_of_eq q1446_e.symm, Int.le_of_eq q1446_e⟩
                                    have q1447_e : (2 : Int32).toInt = 2 := (by decide)
                                    have q1447_r : (2 : Int) ≤ (2 : Int32).toInt ∧ (2 : Int32).toInt ≤ 2 := ⟨Int.le_of_eq q1447_e.symm, Int.le_of_eq q1447_e⟩
                                    have q1448_r := own_R32 k2
                                    have q1449_r := own_R32 z48
                                    have q1450_r := own_R32 z49
                                    have q1451_r := own_R64 (own_exc (2 : Int32) nn k2 z48 z49)
                                    have q1452_ := own_eqR64 hz72 q1451_r
                                    have q1452_e := q1452_.1
                                    have q1452_r := q1452_.2
                                    have q1453_r := own_R32 k0
                                    have q1454_r := own_R32 z44
                                    have q1455_r := own_R32 z45
                                    have q1456_r := own_R64 (own_exc (0 : Int32) nn k0 z44 z45)
                                    have q1457_ := own_eqR64 hz66 q1456_r
                                    have q1457_e := q1457_.1
                                    have q1457_r := q1457_.2
                                    have q1458_r := own_R32 k1
                                    have q1459_r := own_R32 z46
                                    have q1460_r := own_R32 z47
                                    have q1461_r := own_R64 (own_exc (1 : Int32) nn k1 z46 z47)
                                    have q1462_ := own_eqR64 hz69 q1461_r
                                    have q1462_e := q1462_.1
                                    have q1462_r := q1462_.2
                                    have q1463_c := own_ne32 hc76
                                    have q1464_c := own_nlt32 hc88
                                    have q1465_c := own_lt32 hc91
                                    have q1466_c := own_ne32 hc93
                                    have q1467_c := own_ne32 hc114
                                    have q1468_c := own_lt64 hc138
                                    have q1469_c := own_nlt64 hc140
                                    have q1470_c := own_nlt64 hc143
                                    have q1471_c := own_lt32 hc146
                                    have q1472_c := own_lt64 hc148
                                    have q1473_c := own_lt32 hc150
                                    have q1474_c := own_nlt64 hc152
                                    rcases sp with h | h | h | h <;> omega
                                · have r155 : own_R p.tables e below F0 (T74.setTop (mkF m 380 #[.val (.int p0s), .val (.long p1s), .second, .val (.long p2s), .second, .val (.long p3s), .second, .val (.int nn), .val (.int k0), .val (.int k1), .val (.int k2), .val (.int z44), .val (.int z45), .val (.int z46), .val (.int z47), .val (.int z48), .val (.int z49), .val (.ref aS), .val (.ref aC), .val (.ref aK), .val (.long z66), .second, .val (.long z69), .second, .val (.long z72), .second, .val (.int r_74), .val (.long z72), .second] [(.int (1 : Int32))])) := fun tg_ kg_ => by
                                    refine r149 tg_ ?_
                                    show Steps p.tables e below (T74.setTop (mkF m 366 #[.val (.int p0s), .val (.long p1s), .second, .val (.long p2s), .second, .val (.long p3s), .second, .val (.int nn), .val (.int k0), .val (.int k1), .val (.int k2), .val (.int z44), .val (.int z45), .val (.int z46), .val (.int z47), .val (.int z48), .val (.int z49), .val (.ref aS), .val (.ref aC), .val (.ref aK), .val (.long z66), .second, .val (.long z69), .second, .val (.long z72), .second, .val (.int r_74), .val (.long z72), .second] [(.int (1 : Int32)), (.int r_74)])) _
                                    refine XS.icmpYes X74.here hx rfl (pc0 := 366) (pc' := 379) rfl (hb hby at_366) rfl (flt hc150).2.2.2 (by decide) (by decide) ?_
                                    show Steps p.tables e below (T74.setTop (mkF m 379 #[.val (.int p0s), .val (.long p1s), .second, .val (.long p2s), .second, .val (.long p3s), .second, .val (.int nn), .val (.int k0), .val (.int k1), .val (.int k2), .val (.int z44), .val (.int z45), .val (.int z46), .val (.int z47), .val (.int z48), .val (.int z49), .val (.ref aS), .val (.ref aC), .val (.ref aK), .val (.long z66), .second, .val (.long z69), .second, .val (.long z72), .second, .val (.int r_74), .val (.long z72), .second] [])) _
                                    refine XS.iconst X74.here hx rfl (hb hby at_379) ?_
                                    exact kg_
                                  refine hG (own_fin X74 hlk (some (.int (nar .boolean (1 : Int32)))) (own_hv Bd.returns) ?_ (by decide) (by decide) (fun fs hr => r155 _ (retN X74 hx (t := .boolean) Bd.returns (by simp) (hb hby at_380) hr)))
                                  rw [I74_0]
                                  exact ⟨rfl, N74⟩
                              · have r156 : own_R p.tables e below F0 (T74.setTop (mkF m 362 #[.val (.int p0s), .val (.long p1s), .second, .val (.long p2s), .second, .val (.long p3s), .second, .val (.int nn), .val (.int k0), .val (.int k1), .val (.int k2), .val (.int z44), .val (.int z45), .val (.int z46), .val (.int z47), .val (.int z48), .val (.int z49), .val (.ref aS), .val (.ref aC), .val (.ref aK), .val (.long z66), .second, .val (.long z69), .second, .val (.long z72), .second, .val (.int r_74), .val (.long z72), .second] [(.int (0 : Int32))])) := fun tg_ kg_ => by
                                  refine r147 tg_ ?_
                                  show Steps p.tables e below (T74.setTop (mkF m 358 #[.val (.int p0s), .val (.long p1s), .second, .val (.long p2s), .second, .val (.long p3s), .second, .val (.int nn), .val (.int k0), .val (.int k1), .val (.int k2), .val (.int z44), .val (.int z45), .val (.int z46), .val (.int z47), .val (.int z48), .val (.int z49), .val (.ref aS), .val (.ref aC), .val (.ref aK), .val (.long z66), .second, .val (.long z69), .second, .val (.long z72), .second, .val (.int r_74), .val (.long z72), .second] [(.int (lcmpW z72 z66))])) _
                                  refine XS.ifNo X74.here hx rfl (hb hby at_358) rfl (own_l_ngt hc148).1 ?_
                                  show Steps p.tables e below (T74.setTop (mkF m 361 #[.val (.int p0s), .val (.long p1s), .second, .val (.long p2s), .second, .val (.long p3s), .second, .val (.int nn), .val (.int k0), .val (.int k1), .val (.int k2), .val (.int z44), .val (.int z45), .val (.int z46), .val (.int z47), .val (.int z48), .val (.int z49), .val (.ref aS), .val (.ref aC), .val (.ref aK), .val (.long z66), .second, .val (.long z69), .second, .val (.long z72), .second, .val (.int r_74), .val (.long z72), .second] [])) _
                                  refine XS.iconst X74.here hx rfl (hb hby at_361) ?_
                                  exact kg_
                                exfalso
                                have he0 := own_excC (0 : Int32) nn k0 z44 z45 0 N gs gc gk (by decide) hNN (fun q => ⟨own_eq32 (hv.1 q).1, own_eq32 (hv.1 q).2.1, (hv.1 q).2.2⟩) hnn11 hnn12
                                have he1 := own_excC (1 : Int32) nn k1 z46 z47 1 N gs gc gk (by decide) hNN (fun q => ⟨own_eq32 (hv.2.1 q).1, own_eq32 (hv.2.1 q).2.1, (hv.2.1 q).2.2⟩) hnn13 hnn14
                                have he2 := own_excC (2 : Int32) nn k2 z48 z49 2 N gs gc gk (by decide) hNN (fun q => ⟨own_eq32 (hv.2.2 q).1, own_eq32 (hv.2.2 q).2.1, (hv.2.2 q).2.2⟩) hnn15 hnn16
                                have sp := own_spec hN3 he0 he1 he2 I74_1
                                clear hv he0 he1 he2 I74_1
                                have q1475_r := own_R32 r_74
                                have q1476_e : (-1 : Int32).toInt = -1 := (by decide)
                                have q1476_r : (-1 : Int) ≤ (-1 : Int32).toInt ∧ (-1 : Int32).toInt ≤ -1 := ⟨Int.le_of_eq q1476_e.symm, Int.le_of_eq q1476_e⟩
                                have q1477_e : (0 : Int32).toInt = 0 := (by decide)
                                have q1477_r : (0 : Int) ≤ (0 : Int32).toInt ∧ (0 : Int32).toInt ≤ 0 := ⟨Int.le_of_eq q1477_e.symm, Int.le_of_eq q1477_e⟩
                                have q1478_r := own_R32 nn
                                have q1479_e : (1 : Int32).toInt = 1 := (by decide)
                                have q1479_r : (1 : Int) ≤ (1 : Int32).toInt ∧ (1 : Int32).toInt ≤ 1 := ⟨Int.le_of_eq q1479_e.symm, Int.le_of_eq q1479_e⟩
                                have q1480_e : (0 : Int64).toInt = 0 := (by decide)
                                have q1480_r : (0 : Int) ≤ (0 : Int64).toInt ∧ (0 : Int64).toInt ≤ 0 := ⟨Int.le_of_eq q1480_e.symm, Int.le_of_eq q1480_e⟩
                                have q1481_e : (2 : Int32).toInt = 2 := (by decide)
                                have q1481_r : (2 : Int) ≤ (2 : Int32).toInt ∧ (2 : Int32).toInt ≤ 2 := ⟨Int.le_of_eq q1481_e.symm, Int.le_of_eq q1481_e⟩
                                have q1482_r := own_R32 k2
                                have q1483_r := own_R32 z48
                                have q1484_r := own_R32 z49
                                have q1485_r := own_R64 (own_exc (2 : Int32) nn k2 z48 z49)
                                have q1486_ := own_eqR64 hz72 q1485_r
                                have q1486_e := q1486_.1
                                have q1486_r := q1486_.2
                                have q1487_r := own_R32 k0
                                have q1488_r := own_R32 z44
                                have q1489_r := own_R32 z45
                                have q1490_r := own_R64 (own_exc (0 : Int32) nn k0 z44 z45)
                                have q1491_ := own_eqR64 hz66 q1490_r
                                have q1491_e := q1491_.1
                                have q1491_r := q1491_.2
                                have q1492_r := own_R32 k1
                                have q1493_r := own_R32 z46
                                have q1494_r := own_R32 z47
                                have q1495_r := own_R64 (own_exc (1 : Int32) nn k1 z46 z47)
                                have q1496_ := own_eqR64 hz69 q1495_r
                                have q1496_e := q1496_.1
                                have q1496_r := q1496_.2
                                have q1497_c := own_ne32 hc76
                                have q1498_c := own_nlt32 hc88
                                have q1499_c := own_lt32 hc91
                                have q1500_c := own_ne32 hc93
                                have q1501_c := own_ne32 hc114
                                have q1502_c := own_lt64 hc138
                                have q1503_c := own_nlt64 hc140
                                have q1504_c := own_nlt64 hc143
                                have q1505_c := own_lt32 hc146
                                have q1506_c := own_nlt64 hc148
                                rcases sp with h | h | h | h <;> omega
                            · have r157 : own_R p.tables e below F0 (T74.setTop (mkF m 366 #[.val (.int p0s), .val (.long p1s), .second, .val (.long p2s), .second, .val (.long p3s), .second, .val (.int nn), .val (.int k0), .val (.int k1), .val (.int k2), .val (.int z44), .val (.int z45), .val (.int z46), .val (.int z47), .val (.int z48), .val (.int z49), .val (.ref aS), .val (.ref aC), .val (.ref aK), .val (.long z66), .second, .val (.long z69), .second, .val (.long z72), .second, .val (.int r_74), .val (.long z72), .second] [(.int (1 : Int32)), (.int r_74)])) := fun tg_ kg_ => by
                                refine r145 tg_ ?_
                                show Steps p.tables e below (T74.setTop (mkF m 350 #[.val (.int p0s), .val (.long p1s), .second, .val (.long p2s), .second, .val (.long p3s), .second, .val (.int nn), .val (.int k0), .val (.int k1), .val (.int k2), .val (.int z44), .val (.int z45), .val (.int z46), .val (.int z47), .val (.int z48), .val (.int z49), .val (.ref aS), .val (.ref aC), .val (.ref aK), .val (.long z66), .second, .val (.long z69), .second, .val (.long z72), .second, .val (.int r_74), .val (.long z72), .second] [(.int r_74)])) _
                                refine XS.ifYes X74.here hx rfl (pc0 := 350) (pc' := 363) rfl (hb hby at_350) rfl ((if0 _ _).trans (flt hc146).2.2.2) (by decide) (by decide) ?_
                                show Steps p.tables e below (T74.setTop (mkF m 363 #[.val (.int p0s), .val (.long p1s), .second, .val (.long p2s), .second, .val (.long p3s), .second, .val (.int nn), .val (.int k0), .val (.int k1), .val (.int k2), .val (.int z44), .val (.int z45), .val (.int z46), .val (.int z47), .val (.int z48), .val (.int z49), .val (.ref aS), .val (.ref aC), .val (.ref aK), .val (.long z66), .second, .val (.long z69), .second, .val (.long z72), .second, .val (.int r_74), .val (.long z72), .second] [])) _
                                refine XS.iload X74.here hx rfl (hb hby at_363) rfl ?_
                                show Steps p.tables e below (T74.setTop (mkF m 365 #[.val (.int p0s), .val (.long p1s), .second, .val (.long p2s), .second, .val (.long p3s), .second, .val (.int nn), .val (.int k0), .val (.int k1), .val (.int k2), .val (.int z44), .val (.int z45), .val (.int z46), .val (.int z47), .val (.int z48), .val (.int z49), .val (.ref aS), .val (.ref aC), .val (.ref aK), .val (.long z66), .second, .val (.long z69), .second, .val (.long z72), .second, .val (.int r_74), .val (.long z72), .second] [(.int r_74)])) _
                                refine XS.iconst X74.here hx rfl (hb hby at_365) ?_
                                exact kg_
                              by_cases hc158 : (1 : Int32) < r_74
                              · have r159 : own_R p.tables e below F0 (T74.setTop (mkF m 374 #[.val (.int p0s), .val (.long p1s), .second, .val (.long p2s), .second, .val (.long p3s), .second, .val (.int nn), .val (.int k0), .val (.int k1), .val (.int k2), .val (.int z44), .val (.int z45), .val (.int z46), .val (.int z47), .val (.int z48), .val (.int z49), .val (.ref aS), .val (.ref aC), .val (.ref aK), .val (.long z66), .second, .val (.long z69), .second, .val (.long z72), .second, .val (.int r_74), .val (.long z72), .second] [(.int (lcmpW z72 z69))])) := fun tg_ kg_ => by
                                  refine r157 tg_ ?_
                                  show Steps p.tables e below (T74.setTop (mkF m 366 #[.val (.int p0s), .val (.long p1s), .second, .val (.long p2s), .second, .val (.long p3s), .second, .val (.int nn), .val (.int k0), .val (.int k1), .val (.int k2), .val (.int z44), .val (.int z45), .val (.int z46), .val (.int z47), .val (.int z48), .val (.int z49), .val (.ref aS), .val (.ref aC), .val (.ref aK), .val (.long z66), .second, .val (.long z69), .second, .val (.long z72), .second, .val (.int r_74), .val (.long z72), .second] [(.int (1 : Int32)), (.int r_74)])) _
                                  refine XS.icmpNo X74.here hx rfl (hb hby at_366) rfl (tlt hc158).2.2.2 ?_
                                  show Steps p.tables e below (T74.setTop (mkF m 369 #[.val (.int p0s), .val (.long p1s), .second, .val (.long p2s), .second, .val (.long p3s), .second, .val (.int nn), .val (.int k0), .val (.int k1), .val (.int k2), .val (.int z44), .val (.int z45), .val (.int z46), .val (.int z47), .val (.int z48), .val (.int z49), .val (.ref aS), .val (.ref aC), .val (.ref aK), .val (.long z66), .second, .val (.long z69), .second, .val (.long z72), .second, .val (.int r_74), .val (.long z72), .second] [])) _
                                  refine XS.lload X74.here hx rfl (hb hby at_369) rfl ?_
                                  show Steps p.tables e below (T74.setTop (mkF m 371 #[.val (.int p0s), .val (.long p1s), .second, .val (.long p2s), .second, .val (.long p3s), .second, .val (.int nn), .val (.int k0), .val (.int k1), .val (.int k2), .val (.int z44), .val (.int z45), .val (.int z46), .val (.int z47), .val (.int z48), .val (.int z49), .val (.ref aS), .val (.ref aC), .val (.ref aK), .val (.long z66), .second, .val (.long z69), .second, .val (.long z72), .second, .val (.int r_74), .val (.long z72), .second] [(.long z72)])) _
                                  refine XS.lload X74.here hx rfl (hb hby at_371) rfl ?_
                                  show Steps p.tables e below (T74.setTop (mkF m 373 #[.val (.int p0s), .val (.long p1s), .second, .val (.long p2s), .second, .val (.long p3s), .second, .val (.int nn), .val (.int k0), .val (.int k1), .val (.int k2), .val (.int z44), .val (.int z45), .val (.int z46), .val (.int z47), .val (.int z48), .val (.int z49), .val (.ref aS), .val (.ref aC), .val (.ref aK), .val (.long z66), .second, .val (.long z69), .second, .val (.long z72), .second, .val (.int r_74), .val (.long z72), .second] [(.long z69), (.long z72)])) _
                                  refine XS.lcmp X74.here hx rfl (hb hby at_373) rfl ?_
                                  exact kg_
                                by_cases hc160 : z69 < z72
                                · have r161 : own_R p.tables e below F0 (T74.setTop (mkF m 380 #[.val (.int p0s), .val (.long p1s), .second, .val (.long p2s), .second, .val (.long p3s), .second, .val (.int nn), .val (.int k0), .val (.int k1), .val (.int k2), .val (.int z44), .val (.int z45), .val (.int z46), .val (.int z47), .val (.int z48), .val (.int z49), .val (.ref aS), .val (.ref aC), .val (.ref aK), .val (.long z66), .second, .val (.long z69), .second, .val (.long z72), .second, .val (.int r_74), .val (.long z72), .second] [(.int (1 : Int32))])) := fun tg_ kg_ => by
                                    refine r159 tg_ ?_
                                    show Steps p.tables e below (T74.setTop (mkF m 374 #[.val (.int p0s), .val (.long p1s), .second, .val (.long p2s), .second, .val (.long p3s), .second, .val (.int nn), .val (.int k0), .val (.int k1), .val (.int k2), .val (.int z44), .val (.int z45), .val (.int z46), .val (.int z47), .val (.int z48), .val (.int z49), .val (.ref aS), .val (.ref aC), .val (.ref aK), .val (.long z66), .second, .val (.long z69), .second, .val (.long z72), .second, .val (.int r_74), .val (.long z72), .second] [(.int (lcmpW z72 z69))])) _
                                    refine XS.ifYes X74.here hx rfl (pc0 := 374) (pc' := 379) rfl (hb hby at_374) rfl (own_l_gt hc160).1 (by decide) (by decide) ?_
                                    show Steps p.tables e below (T74.setTop (mkF m 379 #[.val (.int p0s), .val (.long p1s), .second, .val (.long p2s), .second, .val (.long p3s), .second, .val (.int nn), .val (.int k0), .val (.int k1), .val (.int k2), .val (.int z44), .val (.int z45), .val (.int z46), .val (.int z47), .val (.int z48), .val (.int z49), .val (.ref aS), .val (.ref aC), .val (.ref aK), .val (.long z66), .second, .val (.long z69), .second, .val (.long z72), .second, .val (.int r_74), .val (.long z72), .second] [])) _
                                    refine XS.iconst X74.here hx rfl (hb hby at_379) ?_
                                    exact kg_
                                  refine hG (own_fin X74 hlk (some (.int (nar .boolean (1 : Int32)))) (own_hv Bd.returns) ?_ (by decide) (by decide) (fun fs hr => r161 _ (retN X74 hx (t := .boolean) Bd.returns (by simp) (hb hby at_380) hr)))
                                  rw [I74_0]
                                  exact ⟨rfl, N74⟩
                                · have r162 : own_R p.tables e below F0 (T74.setTop (mkF m 378 #[.val (.int p0s), .val (.long p1s), .second, .val (.long p2s), .second, .val (.long p3s), .second, .val (.int nn), .val (.int k0), .val (.int k1), .val (.int k2), .val (.int z44), .val (.int z45), .val (.int z46), .val (.int z47), .val (.int z48), .val (.int z49), .val (.ref aS), .val (.ref aC), .val (.ref aK), .val (.long z66), .second, .val (.long z69), .second, .val (.long z72), .second, .val (.int r_74), .val (.long z72), .second] [(.int (0 : Int32))])) := fun tg_ kg_ => by
                                    refine r159 tg_ ?_
                                    show Steps p.tables e below (T74.setTop (mkF m 374 #[.val (.int p0s), .val (.long p1s), .second, .val (.long p2s), .second, .val (.long p3s), .second, .val (.int nn), .val (.int k0), .val (.int k1), .val (.int k2), .val (.int z44), .val (.int z45), .val (.int z46), .val (.int z47), .val (.int z48), .val (.int z49), .val (.ref aS), .val (.ref aC), .val (.ref aK), .val (.long z66), .second, .val (.long z69), .second, .val (.long z72), .second, .val (.int r_74), .val (.long z72), .second] [(.int (lcmpW z72 z69))])) _
                                    refine XS.ifNo X74.here hx rfl (hb hby at_374) rfl (own_l_ngt hc160).1 ?_
                                    show Steps p.tables e below (T74.setTop (mkF m 377 #[.val (.int p0s), .val (.long p1s), .second, .val (.long p2s), .second, .val (.long p3s), .second, .val (.int nn), .val (.int k0), .val (.int k1), .val (.int k2), .val (.int z44), .val (.int z45), .val (.int z46), .val (.int z47), .val (.int z48), .val (.int z49), .val (.ref aS), .val (.ref aC), .val (.ref aK), .val (.long z66), .second, .val (.long z69), .second, .val (.long z72), .second, .val (.int r_74), .val (.long z72), .second] [])) _
                                    refine XS.iconst X74.here hx rfl (hb hby at_377) ?_
                                    exact kg_
                                  exfalso
                                  have he0 := own_excC (0 : Int32) nn k0 z44 z45 0 N gs gc gk (by decide) hNN (fun q => ⟨own_eq32 (hv.1 q).1, own_eq32 (hv.1 q).2.1, (hv.1 q).2.2⟩) hnn11 hnn12
                                  have he1 := own_excC (1 : Int32) nn k1 z46 z47 1 N gs gc gk (by decide) hNN (fun q => ⟨own_eq32 (hv.2.1 q).1, own_eq32 (hv.2.1 q).2.1, (hv.2.1 q).2.2⟩) hnn13 hnn14
                                  have he2 := own_excC (2 : Int32) nn k2 z48 z49 2 N gs gc gk (by decide) hNN (fun q => ⟨own_eq32 (hv.2.2 q).1, own_eq32 (hv.2.2 q).2.1, (hv.2.2 q).2.2⟩) hnn15 hnn16
                                  have sp := own_spec hN3 he0 he1 he2 I74_1
                                  clear hv he0 he1 he2 I74_1
                                  have q1507_r := own_R32 r_74
                                  have q1508_e : (-1 : Int32).toInt = -1 := (by decide)
                                  have q1508_r : (-1 : Int) ≤ (-1 : Int32).toInt ∧ (-1 : Int32).toInt ≤ -1 := ⟨Int.le_of_eq q1508_e.symm, Int.le_of_eq q1508_e⟩
                                  have q1509_e : (0 : Int32).toInt = 0 := (by decide)
                                  have q1509_r : (0 : Int) ≤ (0 : Int32).toInt ∧ (0 : Int32).toInt ≤ 0 := ⟨Int.le_of_eq q1509_e.symm, Int.le_of_eq q1509_e⟩
                                  have q1510_r := own_R32 nn
                                  have q1511_e : (1 : Int32).toInt = 1 := (by decide)
                                  have q1511_r : (1 : Int) ≤ (1 : Int32).toInt ∧ (1 : Int32).toInt ≤ 1 := ⟨Int.le_of_eq q1511_e.symm, Int.le_of_eq q1511_e⟩
                                  have q1512_e : (0 : Int64).toInt = 0 := (by decide)
                                  have q1512_r : (0 : Int) ≤ (0 : Int64).toInt ∧ (0 : Int64).toInt ≤ 0 := ⟨Int.le_of_eq q1512_e.symm, Int.le_of_eq q1512_e⟩
                                  have q1513_e : (2 : Int32).toInt = 2 := (by decide)
                                  have q1513_r : (2 : Int) ≤ (2 : Int32).toInt ∧ (2 : Int32).toInt ≤ 2 := ⟨Int.le_of_eq q1513_e.symm, Int.le_of_eq q1513_e⟩
                                  have q1514_r := own_R32 k2
                                  have q1515_r := own_R32 z48
                                  have q1516_r := own_R32 z49
                                  have q1517_r := own_R64 (own_exc (2 : Int32) nn k2 z48 z49)
                                  have q1518_ := own_eqR64 hz72 q1517_r
                                  have q1518_e := q1518_.1
                                  have q1518_r := q1518_.2
                                  have q1519_r := own_R32 k0
                                  have q1520_r := own_R32 z44
                                  have q1521_r := own_R32 z45
                                  have q1522_r := own_R64 (own_exc (0 : Int32) nn k0 z44 z45)
                                  have q1523_ := own_eqR64 hz66 q1522_r
                                  have q1523_e := q1523_.1
                                  have q1523_r := q1523_.2
                                  have q1524_r := own_R32 k1
                                  have q1525_r := own_R32 z46
                                  have q1526_r := own_R32 z47
                                  have q1527_r := own_R64 (own_exc (1 : Int32) nn k1 z46 z47)
                                  have q1528_ := own_eqR64 hz69 q1527_r
                                  have q1528_e := q1528_.1
                                  have q1528_r := q1528_.2
                                  have q1529_c := own_ne32 hc76
                                  have q1530_c := own_nlt32 hc88
                                  have q1531_c := own_lt32 hc91
                                  have q1532_c := own_ne32 hc93
                                  have q1533_c := own_ne32 hc114
                                  have q1534_c := own_lt64 hc138
                                  have q1535_c := own_nlt64 hc140
                                  have q1536_c := own_nlt64 hc143
                                  have q1537_c := own_nlt32 hc146
                                  have q1538_c := own_lt32 hc158
                                  have q1539_c := own_nlt64 hc160
                                  rcases sp with h | h | h | h <;> omega
                              · have r163 : own_R p.tables e below F0 (T74.setTop (mkF m 380 #[.val (.int p0s), .val (.long p1s), .second, .val (.long p2s), .second, .val (.long p3s), .second, .val (.int nn), .val (.int k0), .val (.int k1), .val (.int k2), .val (.int z44), .val (.int z45), .val (.int z46), .val (.int z47), .val (.int z48), .val (.int z49), .val (.ref aS), .val (.ref aC), .val (.ref aK), .val (.long z66), .second, .val (.long z69), .second, .val (.long z72), .second, .val (.int r_74), .val (.long z72), .second] [(.int (1 : Int32))])) := fun tg_ kg_ => by
                                  refine r157 tg_ ?_
                                  show Steps p.tables e below (T74.setTop (mkF m 366 #[.val (.int p0s), .val (.long p1s), .second, .val (.long p2s), .second, .val (.long p3s), .second, .val (.int nn), .val (.int k0), .val (.int k1), .val (.int k2), .val (.int z44), .val (.int z45), .val (.int z46), .val (.int z47), .val (.int z48), .val (.int z49), .val (.ref aS), .val (.ref aC), .val (.ref aK), .val (.long z66), .second, .val (.long z69), .second, .val (.long z72), .second, .val (.int r_74), .val (.long z72), .second] [(.int (1 : Int32)), (.int r_74)])) _
                                  refine XS.icmpYes X74.here hx rfl (pc0 := 366) (pc' := 379) rfl (hb hby at_366) rfl (flt hc158).2.2.2 (by decide) (by decide) ?_
                                  show Steps p.tables e below (T74.setTop (mkF m 379 #[.val (.int p0s), .val (.long p1s), .second, .val (.long p2s), .second, .val (.long p3s), .second, .val (.int nn), .val (.int k0), .val (.int k1), .val (.int k2), .val (.int z44), .val (.int z45), .val (.int z46), .val (.int z47), .val (.int z48), .val (.int z49), .val (.ref aS), .val (.ref aC), .val (.ref aK), .val (.long z66), .second, .val (.long z69), .second, .val (.long z72), .second, .val (.int r_74), .val (.long z72), .second] [])) _
                                  refine XS.iconst X74.here hx rfl (hb hby at_379) ?_
                                  exact kg_
                                refine hG (own_fin X74 hlk (some (.int (nar .boolean (1 : Int32)))) (own_hv Bd.returns) ?_ (by decide) (by decide) (fun fs hr => r163 _ (retN X74 hx (t := .boolean) Bd.returns (by simp) (hb hby at_380) hr)))
                                rw [I74_0]
                                exact ⟨rfl, N74⟩
                      · have r164 : own_R p.tables e below F0 (T74.setTop (mkF m 321 #[.val (.int p0s), .val (.long p1s), .second, .val (.long p2s), .second, .val (.long p3s), .second, .val (.int nn), .val (.int k0), .val (.int k1), .val (.int k2), .val (.int z44), .val (.int z45), .val (.int z46), .val (.int z47), .val (.int z48), .val (.int z49), .val (.ref aS), .val (.ref aC), .val (.ref aK), .val (.long z66), .second, .val (.long z69), .second, .val (.long z72), .second, .val (.int r_74), .val (.long z72), .second] [(.int (0 : Int32))])) := fun tg_ kg_ => by
                          refine r137 tg_ ?_
                          show Steps p.tables e below (T74.setTop (mkF m 317 #[.val (.int p0s), .val (.long p1s), .second, .val (.long p2s), .second, .val (.long p3s), .second, .val (.int nn), .val (.int k0), .val (.int k1), .val (.int k2), .val (.int z44), .val (.int z45), .val (.int z46), .val (.int z47), .val (.int z48), .val (.int z49), .val (.ref aS), .val (.ref aC), .val (.ref aK), .val (.long z66), .second, .val (.long z69), .second, .val (.long z72), .second, .val (.int r_74), .val (.long z72), .second] [(.int (lcmpW z72 (0 : Int64)))])) _
                          refine XS.ifNo X74.here hx rfl (hb hby at_317) rfl (own_l_ngt hc138).1 ?_
                          show Steps p.tables e below (T74.setTop (mkF m 320 #[.val (.int p0s), .val (.long p1s), .second, .val (.long p2s), .second, .val (.long p3s), .second, .val (.int nn), .val (.int k0), .val (.int k1), .val (.int k2), .val (.int z44), .val (.int z45), .val (.int z46), .val (.int z47), .val (.int z48), .val (.int z49), .val (.ref aS), .val (.ref aC), .val (.ref aK), .val (.long z66), .second, .val (.long z69), .second, .val (.long z72), .second, .val (.int r_74), .val (.long z72), .second] [])) _
                          refine XS.iconst X74.here hx rfl (hb hby at_320) ?_
                          exact kg_
                        exfalso
                        have he0 := own_excC (0 : Int32) nn k0 z44 z45 0 N gs gc gk (by decide) hNN (fun q => ⟨own_eq32 (hv.1 q).1, own_eq32 (hv.1 q).2.1, (hv.1 q).2.2⟩) hnn11 hnn12
                        have he1 := own_excC (1 : Int32) nn k1 z46 z47 1 N gs gc gk (by decide) hNN (fun q => ⟨own_eq32 (hv.2.1 q).1, own_eq32 (hv.2.1 q).2.1, (hv.2.1 q).2.2⟩) hnn13 hnn14
                        have he2 := own_excC (2 : Int32) nn k2 z48 z49 2 N gs gc gk (by decide) hNN (fun q => ⟨own_eq32 (hv.2.2 q).1, own_eq32 (hv.2.2 q).2.1, (hv.2.2 q).2.2⟩) hnn15 hnn16
                        have sp := own_spec hN3 he0 he1 he2 I74_1
                        clear hv he0 he1 he2 I74_1
                        have q1540_r := own_R32 r_74
                        have q1541_e : (-1 : Int32).toInt = -1 := (by decide)
                        have q1541_r : (-1 : Int) ≤ (-1 : Int32).toInt ∧ (-1 : Int32).toInt ≤ -1 := ⟨Int.le_of_eq q1541_e.symm, Int.le_of_eq q1541_e⟩
                        have q1542_e : (0 : Int32).toInt = 0 := (by decide)
                        have q1542_r : (0 : Int) ≤ (0 : Int32).toInt ∧ (0 : Int32).toInt ≤ 0 := ⟨Int.le_of_eq q1542_e.symm, Int.le_of_eq q1542_e⟩
                        have q1543_r := own_R32 nn
                        have q1544_e : (1 : Int32).toInt = 1 := (by decide)
                        have q1544_r : (1 : Int) ≤ (1 : Int32).toInt ∧ (1 : Int32).toInt ≤ 1 := ⟨Int.le_of_eq q1544_e.symm, Int.le_of_eq q1544_e⟩
                        have q1545_e : (0 : Int64).toInt = 0 := (by decide)
                        have q1545_r : (0 : Int) ≤ (0 : Int64).toInt ∧ (0 : Int64).toInt ≤ 0 := ⟨Int.le_of_eq q1545_e.symm, Int.le_of_eq q1545_e⟩
                        have q1546_e : (2 : Int32).toInt = 2 := (by decide)
                        have q1546_r : (2 : Int) ≤ (2 : Int32).toInt ∧ (2 : Int32).toInt ≤ 2 := ⟨Int.le_of_eq q1546_e.symm, Int.le_of_eq q1546_e⟩
                        have q1547_r := own_R32 k2
                        have q1548_r := own_R32 z48
                        have q1549_r := own_R32 z49
                        have q1550_r := own_R64 (own_exc (2 : Int32) nn k2 z48 z49)
                        have q1551_ := own_eqR64 hz72 q1550_r
                        have q1551_e := q1551_.1
                        have q1551_r := q1551_.2
                        have q1552_c := own_ne32 hc76
                        have q1553_c := own_nlt32 hc88
                        have q1554_c := own_lt32 hc91
                        have q1555_c := own_ne32 hc93
                        have q1556_c := own_ne32 hc114
                        have q1557_c := own_nlt64 hc138
                        rcases sp with h | h | h | h <;> omega
                · have r165 : own_R p.tables e below F0 (T74.setTop (mkF m 287 #[.val (.int p0s), .val (.long p1s), .second, .val (.long p2s), .second, .val (.long p3s), .second, .val (.int nn), .val (.int k0), .val (.int k1), .val (.int k2), .val (.int z44), .val (.int z45), .val (.int z46), .val (.int z47), .val (.int z48), .val (.int z49), .val (.ref aS), .val (.ref aC), .val (.ref aK), .val (.long z66), .second, .val (.long z69), .second, .val (.long z72), .second, .val (.int r_74), .unset, .unset] [(.int (0 : Int32))])) := fun tg_ kg_ => by
                    refine r90 tg_ ?_
                    show Steps p.tables e below (T74.setTop (mkF m 283 #[.val (.int p0s), .val (.long p1s), .second, .val (.long p2s), .second, .val (.long p3s), .second, .val (.int nn), .val (.int k0), .val (.int k1), .val (.int k2), .val (.int z44), .val (.int z45), .val (.int z46), .val (.int z47), .val (.int z48), .val (.int z49), .val (.ref aS), .val (.ref aC), .val (.ref aK), .val (.long z66), .second, .val (.long z69), .second, .val (.long z72), .second, .val (.int r_74), .unset, .unset] [(.int nn), (.int r_74)])) _
                    refine XS.icmpNo X74.here hx rfl (hb hby at_283) rfl (flt hc91).1 ?_
                    show Steps p.tables e below (T74.setTop (mkF m 286 #[.val (.int p0s), .val (.long p1s), .second, .val (.long p2s), .second, .val (.long p3s), .second, .val (.int nn), .val (.int k0), .val (.int k1), .val (.int k2), .val (.int z44), .val (.int z45), .val (.int z46), .val (.int z47), .val (.int z48), .val (.int z49), .val (.ref aS), .val (.ref aC), .val (.ref aK), .val (.long z66), .second, .val (.long z69), .second, .val (.long z72), .second, .val (.int r_74), .unset, .unset] [])) _
                    refine XS.iconst X74.here hx rfl (hb hby at_286) ?_
                    exact kg_
                  exfalso
                  have he0 := own_excC (0 : Int32) nn k0 z44 z45 0 N gs gc gk (by decide) hNN (fun q => ⟨own_eq32 (hv.1 q).1, own_eq32 (hv.1 q).2.1, (hv.1 q).2.2⟩) hnn11 hnn12
                  have he1 := own_excC (1 : Int32) nn k1 z46 z47 1 N gs gc gk (by decide) hNN (fun q => ⟨own_eq32 (hv.2.1 q).1, own_eq32 (hv.2.1 q).2.1, (hv.2.1 q).2.2⟩) hnn13 hnn14
                  have he2 := own_excC (2 : Int32) nn k2 z48 z49 2 N gs gc gk (by decide) hNN (fun q => ⟨own_eq32 (hv.2.2 q).1, own_eq32 (hv.2.2 q).2.1, (hv.2.2 q).2.2⟩) hnn15 hnn16
                  have sp := own_spec hN3 he0 he1 he2 I74_1
                  clear hv he0 he1 he2 I74_1
                  have q1558_r := own_R32 r_74
                  have q1559_e : (-1 : Int32).toInt = -1 := (by decide)
                  have q1559_r : (-1 : Int) ≤ (-1 : Int32).toInt ∧ (-1 : Int32).toInt ≤ -1 := ⟨Int.le_of_eq q1559_e.symm, Int.le_of_eq q1559_e⟩
                  have q1560_e : (0 : Int32).toInt = 0 := (by decide)
                  have q1560_r : (0 : Int) ≤ (0 : Int32).toInt ∧ (0 : Int32).toInt ≤ 0 := ⟨Int.le_of_eq q1560_e.symm, Int.le_of_eq q1560_e⟩
                  have q1561_r := own_R32 nn
                  have q1562_c := own_ne32 hc76
                  have q1563_c := own_nlt32 hc88
                  have q1564_c := own_nlt32 hc91
                  rcases sp with h | h | h | h <;> omega
          rcases hn4 with hn4 | hn4 | hn4 | hn4
          · have r166 : own_R p.tables e below F0 (s₁.setTop (mkF m 99 #[.val (.int p0s), .val (.long p1s), .second, .val (.long p2s), .second, .val (.long p3s), .second, .val (.int (0 : Int32)), .val (.int k0), .val (.int k1), .val (.int k2), .val (.int z44), .val (.int z45), .val (.int z46), .val (.int z47), .val (.int z48), .val (.int z49), .unset, .unset, .unset, .unset, .unset, .unset, .unset, .unset, .unset, .unset, .unset, .unset] [])) := by rw [← hn4]; exact r50
            have r167 : own_R p.tables e below F0 (s₁.setTop (mkF m 101 #[.val (.int p0s), .val (.long p1s), .second, .val (.long p2s), .second, .val (.long p3s), .second, .val (.int (0 : Int32)), .val (.int k0), .val (.int k1), .val (.int k2), .val (.int z44), .val (.int z45), .val (.int z46), .val (.int z47), .val (.int z48), .val (.int z49), .unset, .unset, .unset, .unset, .unset, .unset, .unset, .unset, .unset, .unset, .unset, .unset] [(.int (0 : Int32))])) := fun tg_ kg_ => by
              refine r166 tg_ ?_
              show Steps p.tables e below (s₁.setTop (mkF m 99 #[.val (.int p0s), .val (.long p1s), .second, .val (.long p2s), .second, .val (.long p3s), .second, .val (.int (0 : Int32)), .val (.int k0), .val (.int k1), .val (.int k2), .val (.int z44), .val (.int z45), .val (.int z46), .val (.int z47), .val (.int z48), .val (.int z49), .unset, .unset, .unset, .unset, .unset, .unset, .unset, .unset, .unset, .unset, .unset, .unset] [])) _
              refine XS.iload X0.here hx rfl (hb hby at_99) rfl ?_
              exact kg_
            obtain ⟨T168, h168, k168, X168, e168, E168, A168, st168⟩ := newP X0 hx hZ (hw _ (List.mem_of_getElem? (i := 1) rfl)) e0 (g := (mkF m 101 #[.val (.int p0s), .val (.long p1s), .second, .val (.long p2s), .second, .val (.long p3s), .second, .val (.int (0 : Int32)), .val (.int k0), .val (.int k1), .val (.int k2), .val (.int z44), .val (.int z45), .val (.int z46), .val (.int z47), .val (.int z48), .val (.int z49), .unset, .unset, .unset, .unset, .unset, .unset, .unset, .unset, .unset, .unset, .unset, .unset] [(.int (0 : Int32))])) rfl (hb hby at_101) rfl (by decide) (cap := 0) (by decide) (by decide) (by decide) (by decide)
            obtain ⟨b168, g168⟩ : ∃ z, z = h0.size := ⟨_, rfl⟩
            rw [← g168] at A168 st168
            have ge168 : n0 ≤ b168 := Nat.le_trans Z0 (Nat.le_of_eq g168.symm)
            have old168 : h0.size ≤ b168 := Nat.le_trans K0.1 (Nat.le_of_eq g168.symm)
            have K168 : Keep h0 h168 [] := K0.ext E168
            have Zs169 : n0 ≤ h168.size := Nat.le_trans Z0 E168.1
            have F170 : own_Arf Z h168 b168 .int 0 (fun i => (.int ((fun _ => (0 : Int32)) i))) := by
              have q := own_Arf.new A168 (by decide)
              rw [show ((0 : Int32)).toNatClampNeg = 0 from rfl] at q
              exact q
            have r168 : own_R p.tables e below F0 (T168.setTop (mkF m 103 #[.val (.int p0s), .val (.long p1s), .second, .val (.long p2s), .second, .val (.long p3s), .second, .val (.int (0 : Int32)), .val (.int k0), .val (.int k1), .val (.int k2), .val (.int z44), .val (.int z45), .val (.int z46), .val (.int z47), .val (.int z48), .val (.int z49), .unset, .unset, .unset, .unset, .unset, .unset, .unset, .unset, .unset, .unset, .unset, .unset] [(.ref b168)])) := fun tg_ kg_ => r167 tg_ (st168 tg_ kg_)
            have r171 : own_R p.tables e below F0 (T168.setTop (mkF m 107 #[.val (.int p0s), .val (.long p1s), .second, .val (.long p2s), .second, .val (.long p3s), .second, .val (.int (0 : Int32)), .val (.int k0), .val (.int k1), .val (.int k2), .val (.int z44), .val (.int z45), .val (.int z46), .val (.int z47), .val (.int z48), .val (.int z49), .val (.ref b168), .unset, .unset, .unset, .unset, .unset, .unset, .unset, .unset, .unset, .unset, .unset] [(.int (0 : Int32))])) := fun tg_ kg_ => by
              refine r168 tg_ ?_
              show Steps p.tables e below (T168.setTop (mkF m 103 #[.val (.int p0s), .val (.long p1s), .second, .val (.long p2s), .second, .val (.long p3s), .second, .val (.int (0 : Int32)), .val (.int k0), .val (.int k1), .val (.int k2), .val (.int z44), .val (.int z45), .val (.int z46), .val (.int z47), .val (.int z48), .val (.int z49), .unset, .unset, .unset, .unset, .unset, .unset, .unset, .unset, .unset, .unset, .unset, .unset] [(.ref b168)])) _
              refine XS.astore X168.here hx rfl (hb hby at_103) rfl rfl (l' := #[.val (.int p0s), .val (.long p1s), .second, .val (.long p2s), .second, .val (.long p3s), .second, .val (.int (0 : Int32)), .val (.int k0), .val (.int k1), .val (.int k2), .val (.int z44), .val (.int z45), .val (.int z46), .val (.int z47), .val (.int z48), .val (.int z49), .val (.ref b168), .unset, .unset, .unset, .unset, .unset, .unset, .unset, .unset, .unset, .unset, .unset]) rfl ?_
              show Steps p.tables e below (T168.setTop (mkF m 105 #[.val (.int p0s), .val (.long p1s), .second, .val (.long p2s), .second, .val (.long p3s), .second, .val (.int (0 : Int32)), .val (.int k0), .val (.int k1), .val (.int k2), .val (.int z44), .val (.int z45), .val (.int z46), .val (.int z47), .val (.int z48), .val (.int z49), .val (.ref b168), .unset, .unset, .unset, .unset, .unset, .unset, .unset, .unset, .unset, .unset, .unset] [])) _
              refine XS.iload X168.here hx rfl (hb hby at_105) rfl ?_
              exact kg_
            obtain ⟨T172, h172, k172, X172, e172, E172, A172, st172⟩ := newP X168 hx hZ (hw _ (List.mem_of_getElem? (i := 1) rfl)) e168 (g := (mkF m 107 #[.val (.int p0s), .val (.long p1s), .second, .val (.long p2s), .second, .val (.long p3s), .second, .val (.int (0 : Int32)), .val (.int k0), .val (.int k1), .val (.int k2), .val (.int z44), .val (.int z45), .val (.int z46), .val (.int z47), .val (.int z48), .val (.int z49), .val (.ref b168), .unset, .unset, .unset, .unset, .unset, .unset, .unset, .unset, .unset, .unset, .unset] [(.int (0 : Int32))])) rfl (hb hby at_107) rfl (by decide) (cap := 0) (by decide) (by decide) (by decide) (by decide)
            obtain ⟨b172, g172⟩ : ∃ z, z = h168.size := ⟨_, rfl⟩
            rw [← g172] at A172 st172
            have ne173 : b168 ≠ b172 := Nat.ne_of_lt (Nat.lt_of_lt_of_le F170.lt (Nat.le_of_eq g172.symm))
            have ge172 : n0 ≤ b172 := Nat.le_trans Zs169 (Nat.le_of_eq g172.symm)
            have old172 : h0.size ≤ b172 := Nat.le_trans K168.1 (Nat.le_of_eq g172.symm)
            have K172 : Keep h0 h172 [] := K168.ext E172
            have F174 : own_Arf Z h172 b168 .int 0 (fun i => (.int ((fun _ => (0 : Int32)) i))) := F170.ext E172
            have Zs175 : n0 ≤ h172.size := Nat.le_trans Zs169 E172.1
            have F176 : own_Arf Z h172 b172 .int 0 (fun i => (.int ((fun _ => (0 : Int32)) i))) := by
              have q := own_Arf.new A172 (by decide)
              rw [show ((0 : Int32)).toNatClampNeg = 0 from rfl] at q
              exact q
            have r172 : own_R p.tables e below F0 (T172.setTop (mkF m 109 #[.val (.int p0s), .val (.long p1s), .second, .val (.long p2s), .second, .val (.long p3s), .second, .val (.int (0 : Int32)), .val (.int k0), .val (.int k1), .val (.int k2), .val (.int z44), .val (.int z45), .val (.int z46), .val (.int z47), .val (.int z48), .val (.int z49), .val (.ref b168), .unset, .unset, .unset, .unset, .unset, .unset, .unset, .unset, .unset, .unset, .unset] [(.ref b172)])) := fun tg_ kg_ => r171 tg_ (st172 tg_ kg_)
            have r177 : own_R p.tables e below F0 (T172.setTop (mkF m 113 #[.val (.int p0s), .val (.long p1s), .second, .val (.long p2s), .second, .val (.long p3s), .second, .val (.int (0 : Int32)), .val (.int k0), .val (.int k1), .val (.int k2), .val (.int z44), .val (.int z45), .val (.int z46), .val (.int z47), .val (.int z48), .val (.int z49), .val (.ref b168), .val (.ref b172), .unset, .unset, .unset, .unset, .unset, .unset, .unset, .unset, .unset, .unset] [(.int (0 : Int32))])) := fun tg_ kg_ => by
              refine r172 tg_ ?_
              show Steps p.tables e below (T172.setTop (mkF m 109 #[.val (.int p0s), .val (.long p1s), .second, .val (.long p2s), .second, .val (.long p3s), .second, .val (.int (0 : Int32)), .val (.int k0), .val (.int k1), .val (.int k2), .val (.int z44), .val (.int z45), .val (.int z46), .val (.int z47), .val (.int z48), .val (.int z49), .val (.ref b168), .unset, .unset, .unset, .unset, .unset, .unset, .unset, .unset, .unset, .unset, .unset] [(.ref b172)])) _
              refine XS.astore X172.here hx rfl (hb hby at_109) rfl rfl (l' := #[.val (.int p0s), .val (.long p1s), .second, .val (.long p2s), .second, .val (.long p3s), .second, .val (.int (0 : Int32)), .val (.int k0), .val (.int k1), .val (.int k2), .val (.int z44), .val (.int z45), .val (.int z46), .val (.int z47), .val (.int z48), .val (.int z49), .val (.ref b168), .val (.ref b172), .unset, .unset, .unset, .unset, .unset, .unset, .unset, .unset, .unset, .unset]) rfl ?_
              show Steps p.tables e below (T172.setTop (mkF m 111 #[.val (.int p0s), .val (.long p1s), .second, .val (.long p2s), .second, .val (.long p3s), .second, .val (.int (0 : Int32)), .val (.int k0), .val (.int k1), .val (.int k2), .val (.int z44), .val (.int z45), .val (.int z46), .val (.int z47), .val (.int z48), .val (.int z49), .val (.ref b168), .val (.ref b172), .unset, .unset, .unset, .unset, .unset, .unset, .unset, .unset, .unset, .unset] [])) _
              refine XS.iload X172.here hx rfl (hb hby at_111) rfl ?_
              exact kg_
            obtain ⟨T178, h178, k178, X178, e178, E178, A178, st178⟩ := newP X172 hx hZ (hw _ (List.mem_of_getElem? (i := 2) rfl)) e172 (g := (mkF m 113 #[.val (.int p0s), .val (.long p1s), .second, .val (.long p2s), .second, .val (.long p3s), .second, .val (.int (0 : Int32)), .val (.int k0), .val (.int k1), .val (.int k2), .val (.int z44), .val (.int z45), .val (.int z46), .val (.int z47), .val (.int z48), .val (.int z49), .val (.ref b168), .val (.ref b172), .unset, .unset, .unset, .unset, .unset, .unset, .unset, .unset, .unset, .unset] [(.int (0 : Int32))])) rfl (hb hby at_113) rfl (by decide) (cap := 0) (by decide) (by decide) (by decide) (by decide)
            obtain ⟨b178, g178⟩ : ∃ z, z = h172.size := ⟨_, rfl⟩
            rw [← g178] at A178 st178
            have ne179 : b168 ≠ b178 := Nat.ne_of_lt (Nat.lt_of_lt_of_le F174.lt (Nat.le_of_eq g178.symm))
            have ne180 : b172 ≠ b178 := Nat.ne_of_lt (Nat.lt_of_lt_of_le F176.lt (Nat.le_of_eq g178.symm))
            have ge178 : n0 ≤ b178 := Nat.le_trans Zs175 (Nat.le_of_eq g178.symm)
            have old178 : h0.size ≤ b178 := Nat.le_trans K172.1 (Nat.le_of_eq g178.symm)
            have K178 : Keep h0 h178 [] := K172.ext E178
            have F181 : own_Arf Z h178 b168 .int 0 (fun i => (.int ((fun _ => (0 : Int32)) i))) := F174.ext E178
            have F182 : own_Arf Z h178 b172 .int 0 (fun i => (.int ((fun _ => (0 : Int32)) i))) := F176.ext E178
            have Zs183 : n0 ≤ h178.size := Nat.le_trans Zs175 E178.1
            have F184 : own_Arf Z h178 b178 .boolean 0 (fun i => (.int ((fun _ => (0 : Int32)) i))) := by
              have q := own_Arf.new A178 (by decide)
              rw [show ((0 : Int32)).toNatClampNeg = 0 from rfl] at q
              exact q
            have r178 : own_R p.tables e below F0 (T178.setTop (mkF m 115 #[.val (.int p0s), .val (.long p1s), .second, .val (.long p2s), .second, .val (.long p3s), .second, .val (.int (0 : Int32)), .val (.int k0), .val (.int k1), .val (.int k2), .val (.int z44), .val (.int z45), .val (.int z46), .val (.int z47), .val (.int z48), .val (.int z49), .val (.ref b168), .val (.ref b172), .unset, .unset, .unset, .unset, .unset, .unset, .unset, .unset, .unset, .unset] [(.ref b178)])) := fun tg_ kg_ => r177 tg_ (st178 tg_ kg_)
            have r185 : own_R p.tables e below F0 (T178.setTop (mkF m 188 #[.val (.int p0s), .val (.long p1s), .second, .val (.long p2s), .second, .val (.long p3s), .second, .val (.int (0 : Int32)), .val (.int k0), .val (.int k1), .val (.int k2), .val (.int z44), .val (.int z45), .val (.int z46), .val (.int z47), .val (.int z48), .val (.int z49), .val (.ref b168), .val (.ref b172), .val (.ref b178), .unset, .unset, .unset, .unset, .unset, .unset, .unset, .unset, .unset] [])) := fun tg_ kg_ => by
              refine r178 tg_ ?_
              show Steps p.tables e below (T178.setTop (mkF m 115 #[.val (.int p0s), .val (.long p1s), .second, .val (.long p2s), .second, .val (.long p3s), .second, .val (.int (0 : Int32)), .val (.int k0), .val (.int k1), .val (.int k2), .val (.int z44), .val (.int z45), .val (.int z46), .val (.int z47), .val (.int z48), .val (.int z49), .val (.ref b168), .val (.ref b172), .unset, .unset, .unset, .unset, .unset, .unset, .unset, .unset, .unset, .unset] [(.ref b178)])) _
              refine XS.astore X178.here hx rfl (hb hby at_115) rfl rfl (l' := #[.val (.int p0s), .val (.long p1s), .second, .val (.long p2s), .second, .val (.long p3s), .second, .val (.int (0 : Int32)), .val (.int k0), .val (.int k1), .val (.int k2), .val (.int z44), .val (.int z45), .val (.int z46), .val (.int z47), .val (.int z48), .val (.int z49), .val (.ref b168), .val (.ref b172), .val (.ref b178), .unset, .unset, .unset, .unset, .unset, .unset, .unset, .unset, .unset]) rfl ?_
              show Steps p.tables e below (T178.setTop (mkF m 117 #[.val (.int p0s), .val (.long p1s), .second, .val (.long p2s), .second, .val (.long p3s), .second, .val (.int (0 : Int32)), .val (.int k0), .val (.int k1), .val (.int k2), .val (.int z44), .val (.int z45), .val (.int z46), .val (.int z47), .val (.int z48), .val (.int z49), .val (.ref b168), .val (.ref b172), .val (.ref b178), .unset, .unset, .unset, .unset, .unset, .unset, .unset, .unset, .unset] [])) _
              refine XS.iload X178.here hx rfl (hb hby at_117) rfl ?_
              show Steps p.tables e below (T178.setTop (mkF m 119 #[.val (.int p0s), .val (.long p1s), .second, .val (.long p2s), .second, .val (.long p3s), .second, .val (.int (0 : Int32)), .val (.int k0), .val (.int k1), .val (.int k2), .val (.int z44), .val (.int z45), .val (.int z46), .val (.int z47), .val (.int z48), .val (.int z49), .val (.ref b168), .val (.ref b172), .val (.ref b178), .unset, .unset, .unset, .unset, .unset, .unset, .unset, .unset, .unset] [(.int (0 : Int32))])) _
              refine XS.ifYes X178.here hx rfl (pc0 := 119) (pc' := 140) rfl (hb hby at_119) rfl ((if0 _ _).trans (flt (show ¬ ((0 : Int32) < (0 : Int32)) from by decide)).2.2.2) (by decide) (by decide) ?_
              show Steps p.tables e below (T178.setTop (mkF m 140 #[.val (.int p0s), .val (.long p1s), .second, .val (.long p2s), .second, .val (.long p3s), .second, .val (.int (0 : Int32)), .val (.int k0), .val (.int k1), .val (.int k2), .val (.int z44), .val (.int z45), .val (.int z46), .val (.int z47), .val (.int z48), .val (.int z49), .val (.ref b168), .val (.ref b172), .val (.ref b178), .unset, .unset, .unset, .unset, .unset, .unset, .unset, .unset, .unset] [])) _
              refine XS.iload X178.here hx rfl (hb hby at_140) rfl ?_
              show Steps p.tables e below (T178.setTop (mkF m 142 #[.val (.int p0s), .val (.long p1s), .second, .val (.long p2s), .second, .val (.long p3s), .second, .val (.int (0 : Int32)), .val (.int k0), .val (.int k1), .val (.int k2), .val (.int z44), .val (.int z45), .val (.int z46), .val (.int z47), .val (.int z48), .val (.int z49), .val (.ref b168), .val (.ref b172), .val (.ref b178), .unset, .unset, .unset, .unset, .unset, .unset, .unset, .unset, .unset] [(.int (0 : Int32))])) _
              refine XS.iconst X178.here hx rfl (hb hby at_142) ?_
              show Steps p.tables e below (T178.setTop (mkF m 143 #[.val (.int p0s), .val (.long p1s), .second, .val (.long p2s), .second, .val (.long p3s), .second, .val (.int (0 : Int32)), .val (.int k0), .val (.int k1), .val (.int k2), .val (.int z44), .val (.int z45), .val (.int z46), .val (.int z47), .val (.int z48), .val (.int z49), .val (.ref b168), .val (.ref b172), .val (.ref b178), .unset, .unset, .unset, .unset, .unset, .unset, .unset, .unset, .unset] [(.int (1 : Int32)), (.int (0 : Int32))])) _
              refine XS.icmpYes X178.here hx rfl (pc0 := 143) (pc' := 164) rfl (hb hby at_143) rfl (flt (show ¬ ((1 : Int32) < (0 : Int32)) from by decide)).2.2.2 (by decide) (by decide) ?_
              show Steps p.tables e below (T178.setTop (mkF m 164 #[.val (.int p0s), .val (.long p1s), .second, .val (.long p2s), .second, .val (.long p3s), .second, .val (.int (0 : Int32)), .val (.int k0), .val (.int k1), .val (.int k2), .val (.int z44), .val (.int z45), .val (.int z46), .val (.int z47), .val (.int z48), .val (.int z49), .val (.ref b168), .val (.ref b172), .val (.ref b178), .unset, .unset, .unset, .unset, .unset, .unset, .unset, .unset, .unset] [])) _
              refine XS.iload X178.here hx rfl (hb hby at_164) rfl ?_
              show Steps p.tables e below (T178.setTop (mkF m 166 #[.val (.int p0s), .val (.long p1s), .second, .val (.long p2s), .second, .val (.long p3s), .second, .val (.int (0 : Int32)), .val (.int k0), .val (.int k1), .val (.int k2), .val (.int z44), .val (.int z45), .val (.int z46), .val (.int z47), .val (.int z48), .val (.int z49), .val (.ref b168), .val (.ref b172), .val (.ref b178), .unset, .unset, .unset, .unset, .unset, .unset, .unset, .unset, .unset] [(.int (0 : Int32))])) _
              refine XS.iconst X178.here hx rfl (hb hby at_166) ?_
              show Steps p.tables e below (T178.setTop (mkF m 167 #[.val (.int p0s), .val (.long p1s), .second, .val (.long p2s), .second, .val (.long p3s), .second, .val (.int (0 : Int32)), .val (.int k0), .val (.int k1), .val (.int k2), .val (.int z44), .val (.int z45), .val (.int z46), .val (.int z47), .val (.int z48), .val (.int z49), .val (.ref b168), .val (.ref b172), .val (.ref b178), .unset, .unset, .unset, .unset, .unset, .unset, .unset, .unset, .unset] [(.int (2 : Int32)), (.int (0 : Int32))])) _
              refine XS.icmpYes X178.here hx rfl (pc0 := 167) (pc' := 188) rfl (hb hby at_167) rfl (flt (show ¬ ((2 : Int32) < (0 : Int32)) from by decide)).2.2.2 (by decide) (by decide) ?_
              exact kg_
            exact J51 (0 : Int32) b168 b172 b178 0 (fun _ => (0 : Int32)) (fun _ => (0 : Int32)) (fun _ => (0 : Int32)) T178 _ _ (own_mono X178 (by decide) (by decide)) e178 N0 Zs183 K178 F181 F182 F184 (by decide) (by decide) ⟨fun q => absurd q (by decide), fun q => absurd q (by decide), fun q => absurd q (by decide)⟩ r185
          · have r186 : own_R p.tables e below F0 (s₁.setTop (mkF m 99 #[.val (.int p0s), .val (.long p1s), .second, .val (.long p2s), .second, .val (.long p3s), .second, .val (.int (1 : Int32)), .val (.int k0), .val (.int k1), .val (.int k2), .val (.int z44), .val (.int z45), .val (.int z46), .val (.int z47), .val (.int z48), .val (.int z49), .unset, .unset, .unset, .unset, .unset, .unset, .unset, .unset, .unset, .unset, .unset, .unset] [])) := by rw [← hn4]; exact r50
            have r187 : own_R p.tables e below F0 (s₁.setTop (mkF m 101 #[.val (.int p0s), .val (.long p1s), .second, .val (.long p2s), .second, .val (.long p3s), .second, .val (.int (1 : Int32)), .val (.int k0), .val (.int k1), .val (.int k2), .val (.int z44), .val (.int z45), .val (.int z46), .val (.int z47), .val (.int z48), .val (.int z49), .unset, .unset, .unset, .unset, .unset, .unset, .unset, .unset, .unset, .unset, .unset, .unset] [(.int (1 : Int32))])) := fun tg_ kg_ => by
              refine r186 tg_ ?_
              show Steps p.tables e below (s₁.setTop (mkF m 99 #[.val (.int p0s), .val (.long p1s), .second, .val (.long p2s), .second, .val (.long p3s), .second, .val (.int (1 : Int32)), .val (.int k0), .val (.int k1), .val (.int k2), .val (.int z44), .val (.int z45), .val (.int z46), .val (.int z47), .val (.int z48), .val (.int z49), .unset, .unset, .unset, .unset, .unset, .unset, .unset, .unset, .unset, .unset, .unset, .unset] [])) _
              refine XS.iload X0.here hx rfl (hb hby at_99) rfl ?_
              exact kg_
            obtain ⟨T188, h188, k188, X188, e188, E188, A188, st188⟩ := newP X0 hx hZ (hw _ (List.mem_of_getElem? (i := 1) rfl)) e0 (g := (mkF m 101 #[.val (.int p0s), .val (.long p1s), .second, .val (.long p2s), .second, .val (.long p3s), .second, .val (.int (1 : Int32)), .val (.int k0), .val (.int k1), .val (.int k2), .val (.int z44), .val (.int z45), .val (.int z46), .val (.int z47), .val (.int z48), .val (.int z49), .unset, .unset, .unset, .unset, .unset, .unset, .unset, .unset, .unset, .unset, .unset, .unset] [(.int (1 : Int32))])) rfl (hb hby at_101) rfl (by decide) (cap := 1) (by decide) (by decide) (by decide) (by decide)
            obtain ⟨b188, g188⟩ : ∃ z, z = h0.size := ⟨_, rfl⟩
            rw [← g188] at A188 st188
            have ge188 : n0 ≤ b188 := Nat.le_trans Z0 (Nat.le_of_eq g188.symm)
            have old188 : h0.size ≤ b188 := Nat.le_trans K0.1 (Nat.le_of_eq g188.symm)
            have K188 : Keep h0 h188 [] := K0.ext E188
            have Zs189 : n0 ≤ h188.size := Nat.le_trans Z0 E188.1
            have F190 : own_Arf Z h188 b188 .int 1 (fun i => (.int ((fun _ => (0 : Int32)) i))) := by
              have q := own_Arf.new A188 (by decide)
              rw [show ((1 : Int32)).toNatClampNeg = 1 from rfl] at q
              exact q
            have r188 : own_R p.tables e below F0 (T188.setTop (mkF m 103 #[.val (.int p0s), .val (.long p1s), .second, .val (.long p2s), .second, .val (.long p3s), .second, .val (.int (1 : Int32)), .val (.int k0), .val (.int k1), .val (.int k2), .val (.int z44), .val (.int z45), .val (.int z46), .val (.int z47), .val (.int z48), .val (.int z49), .unset, .unset, .unset, .unset, .unset, .unset, .unset, .unset, .unset, .unset, .unset, .unset] [(.ref b188)])) := fun tg_ kg_ => r187 tg_ (st188 tg_ kg_)
            have r191 : own_R p.tables e below F0 (T188.setTop (mkF m 107 #[.val (.int p0s), .val (.long p1s), .second, .val (.long p2s), .second, .val (.long p3s), .second, .val (.int (1 : Int32)), .val (.int k0), .val (.int k1), .val (.int k2), .val (.int z44), .val (.int z45), .val (.int z46), .val (.int z47), .val (.int z48), .val (.int z49), .val (.ref b188), .unset, .unset, .unset, .unset, .unset, .unset, .unset, .unset, .unset, .unset, .unset] [(.int (1 : Int32))])) := fun tg_ kg_ => by
              refine r188 tg_ ?_
              show Steps p.tables e below (T188.setTop (mkF m 103 #[.val (.int p0s), .val (.long p1s), .second, .val (.long p2s), .second, .val (.long p3s), .second, .val (.int (1 : Int32)), .val (.int k0), .val (.int k1), .val (.int k2), .val (.int z44), .val (.int z45), .val (.int z46), .val (.int z47), .val (.int z48), .val (.int z49), .unset, .unset, .unset, .unset, .unset, .unset, .unset, .unset, .unset, .unset, .unset, .unset] [(.ref b188)])) _
              refine XS.astore X188.here hx rfl (hb hby at_103) rfl rfl (l' := #[.val (.int p0s), .val (.long p1s), .second, .val (.long p2s), .second, .val (.long p3s), .second, .val (.int (1 : Int32)), .val (.int k0), .val (.int k1), .val (.int k2), .val (.int z44), .val (.int z45), .val (.int z46), .val (.int z47), .val (.int z48), .val (.int z49), .val (.ref b188), .unset, .unset, .unset, .unset, .unset, .unset, .unset, .unset, .unset, .unset, .unset]) rfl ?_
              show Steps p.tables e below (T188.setTop (mkF m 105 #[.val (.int p0s), .val (.long p1s), .second, .val (.long p2s), .second, .val (.long p3s), .second, .val (.int (1 : Int32)), .val (.int k0), .val (.int k1), .val (.int k2), .val (.int z44), .val (.int z45), .val (.int z46), .val (.int z47), .val (.int z48), .val (.int z49), .val (.ref b188), .unset, .unset, .unset, .unset, .unset, .unset, .unset, .unset, .unset, .unset, .unset] [])) _
              refine XS.iload X188.here hx rfl (hb hby at_105) rfl ?_
              exact kg_
            obtain ⟨T192, h192, k192, X192, e192, E192, A192, st192⟩ := newP X188 hx hZ (hw _ (List.mem_of_getElem? (i := 1) rfl)) e188 (g := (mkF m 107 #[.val (.int p0s), .val (.long p1s), .second, .val (.long p2s), .second, .val (.long p3s), .second, .val (.int (1 : Int32)), .val (.int k0), .val (.int k1), .val (.int k2), .val (.int z44), .val (.int z45), .val (.int z46), .val (.int z47), .val (.int z48), .val (.int z49), .val (.ref b188), .unset, .unset, .unset, .unset, .unset, .unset, .unset, .unset, .unset, .unset, .unset] [(.int (1 : Int32))])) rfl (hb hby at_107) rfl (by decide) (cap := 1) (by decide) (by decide) (by decide) (by decide)
            obtain ⟨b192, g192⟩ : ∃ z, z = h188.size := ⟨_, rfl⟩
            rw [← g192] at A192 st192
            have ne193 : b188 ≠ b192 := Nat.ne_of_lt (Nat.lt_of_lt_of_le F190.lt (Nat.le_of_eq g192.symm))
            have ge192 : n0 ≤ b192 := Nat.le_trans Zs189 (Nat.le_of_eq g192.symm)
            have old192 : h0.size ≤ b192 := Nat.le_trans K188.1 (Nat.le_of_eq g192.symm)
            have K192 : Keep h0 h192 [] := K188.ext E192
            have F194 : own_Arf Z h192 b188 .int 1 (fun i => (.int ((fun _ => (0 : Int32)) i))) := F190.ext E192
            have Zs195 : n0 ≤ h192.size := Nat.le_trans Zs189 E192.1
            have F196 : own_Arf Z h192 b192 .int 1 (fun i => (.int ((fun _ => (0 : Int32)) i))) := by
              have q := own_Arf.new A192 (by decide)
              rw [show ((1 : Int32)).toNatClampNeg = 1 from rfl] at q
              exact q
            have r192 : own_R p.tables e below F0 (T192.setTop (mkF m 109 #[.val (.int p0s), .val (.long p1s), .second, .val (.long p2s), .second, .val (.long p3s), .second, .val (.int (1 : Int32)), .val (.int k0), .val (.int k1), .val (.int k2), .val (.int z44), .val (.int z45), .val (.int z46), .val (.int z47), .val (.int z48), .val (.int z49), .val (.ref b188), .unset, .unset, .unset, .unset, .unset, .unset, .unset, .unset, .unset, .unset, .unset] [(.ref b192)])) := fun tg_ kg_ => r191 tg_ (st192 tg_ kg_)
            have r197 : own_R p.tables e below F0 (T192.setTop (mkF m 113 #[.val (.int p0s), .val (.long p1s), .second, .val (.long p2s), .second, .val (.long p3s), .second, .val (.int (1 : Int32)), .val (.int k0), .val (.int k1), .val (.int k2), .val (.int z44), .val (.int z45), .val (.int z46), .val (.int z47), .val (.int z48), .val (.int z49), .val (.ref b188), .val (.ref b192), .unset, .unset, .unset, .unset, .unset, .unset, .unset, .unset, .unset, .unset] [(.int (1 : Int32))])) := fun tg_ kg_ => by
              refine r192 tg_ ?_
              show Steps p.tables e below (T192.setTop (mkF m 109 #[.val (.int p0s), .val (.long p1s), .second, .val (.long p2s), .second, .val (.long p3s), .second, .val (.int (1 : Int32)), .val (.int k0), .val (.int k1), .val (.int k2), .val (.int z44), .val (.int z45), .val (.int z46), .val (.int z47), .val (.int z48), .val (.int z49), .val (.ref b188), .unset, .unset, .unset, .unset, .unset, .unset, .unset, .unset, .unset, .unset, .unset] [(.ref b192)])) _
              refine XS.astore X192.here hx rfl (hb hby at_109) rfl rfl (l' := #[.val (.int p0s), .val (.long p1s), .second, .val (.long p2s), .second, .val (.long p3s), .second, .val (.int (1 : Int32)), .val (.int k0), .val (.int k1), .val (.int k2), .val (.int z44), .val (.int z45), .val (.int z46), .val (.int z47), .val (.int z48), .val (.int z49), .val (.ref b188), .val (.ref b192), .unset, .unset, .unset, .unset, .unset, .unset, .unset, .unset, .unset, .unset]) rfl ?_
              show Steps p.tables e below (T192.setTop (mkF m 111 #[.val (.int p0s), .val (.long p1s), .second, .val (.long p2s), .second, .val (.long p3s), .second, .val (.int (1 : Int32)), .val (.int k0), .val (.int k1), .val (.int k2), .val (.int z44), .val (.int z45), .val (.int z46), .val (.int z47), .val (.int z48), .val (.int z49), .val (.ref b188), .val (.ref b192), .unset, .unset, .unset, .unset, .unset, .unset, .unset, .unset, .unset, .unset] [])) _
              refine XS.iload X192.here hx rfl (hb hby at_111) rfl ?_
              exact kg_
            obtain ⟨T198, h198, k198, X198, e198, E198, A198, st198⟩ := newP X192 hx hZ (hw _ (List.mem_of_getElem? (i := 2) rfl)) e192 (g := (mkF m 113 #[.val (.int p0s), .val (.long p1s), .second, .val (.long p2s), .second, .val (.long p3s), .second, .val (.int (1 : Int32)), .val (.int k0), .val (.int k1), .val (.int k2), .val (.int z44), .val (.int z45), .val (.int z46), .val (.int z47), .val (.int z48), .val (.int z49), .val (.ref b188), .val (.ref b192), .unset, .unset, .unset, .unset, .unset, .unset, .unset, .unset, .unset, .unset] [(.int (1 : Int32))])) rfl (hb hby at_113) rfl (by decide) (cap := 1) (by decide) (by decide) (by decide) (by decide)
            obtain ⟨b198, g198⟩ : ∃ z, z = h192.size := ⟨_, rfl⟩
            rw [← g198] at A198 st198
            have ne199 : b188 ≠ b198 := Nat.ne_of_lt (Nat.lt_of_lt_of_le F194.lt (Nat.le_of_eq g198.symm))
            have ne200 : b192 ≠ b198 := Nat.ne_of_lt (Nat.lt_of_lt_of_le F196.lt (Nat.le_of_eq g198.symm))
            have ge198 : n0 ≤ b198 := Nat.le_trans Zs195 (Nat.le_of_eq g198.symm)
            have old198 : h0.size ≤ b198 := Nat.le_trans K192.1 (Nat.le_of_eq g198.symm)
            have K198 : Keep h0 h198 [] := K192.ext E198
            have F201 : own_Arf Z h198 b188 .int 1 (fun i => (.int ((fun _ => (0 : Int32)) i))) := F194.ext E198
            have F202 : own_Arf Z h198 b192 .int 1 (fun i => (.int ((fun _ => (0 : Int32)) i))) := F196.ext E198
            have Zs203 : n0 ≤ h198.size := Nat.le_trans Zs195 E198.1
            have F204 : own_Arf Z h198 b198 .boolean 1 (fun i => (.int ((fun _ => (0 : Int32)) i))) := by
              have q := own_Arf.new A198 (by decide)
              rw [show ((1 : Int32)).toNatClampNeg = 1 from rfl] at q
              exact q
            have r198 : own_R p.tables e below F0 (T198.setTop (mkF m 115 #[.val (.int p0s), .val (.long p1s), .second, .val (.long p2s), .second, .val (.long p3s), .second, .val (.int (1 : Int32)), .val (.int k0), .val (.int k1), .val (.int k2), .val (.int z44), .val (.int z45), .val (.int z46), .val (.int z47), .val (.int z48), .val (.int z49), .val (.ref b188), .val (.ref b192), .unset, .unset, .unset, .unset, .unset, .unset, .unset, .unset, .unset, .unset] [(.ref b198)])) := fun tg_ kg_ => r197 tg_ (st198 tg_ kg_)
            have r205 : own_R p.tables e below F0 (T198.setTop (mkF m 127 #[.val (.int p0s), .val (.long p1s), .second, .val (.long p2s), .second, .val (.long p3s), .second, .val (.int (1 : Int32)), .val (.int k0), .val (.int k1), .val (.int k2), .val (.int z44), .val (.int z45), .val (.int z46), .val (.int z47), .val (.int z48), .val (.int z49), .val (.ref b188), .val (.ref b192), .val (.ref b198), .unset, .unset, .unset, .unset, .unset, .unset, .unset, .unset, .unset] [(.int z44), (.int (0 : Int32)), (.ref b188)])) := fun tg_ kg_ => by
              refine r198 tg_ ?_
              show Steps p.tables e below (T198.setTop (mkF m 115 #[.val (.int p0s), .val (.long p1s), .second, .val (.long p2s), .second, .val (.long p3s), .second, .val (.int (1 : Int32)), .val (.int k0), .val (.int k1), .val (.int k2), .val (.int z44), .val (.int z45), .val (.int z46), .val (.int z47), .val (.int z48), .val (.int z49), .val (.ref b188), .val (.ref b192), .unset, .unset, .unset, .unset, .unset, .unset, .unset, .unset, .unset, .unset] [(.ref b198)])) _
              refine XS.astore X198.here hx rfl (hb hby at_115) rfl rfl (l' := #[.val (.int p0s), .val (.long p1s), .second, .val (.long p2s), .second, .val (.long p3s), .second, .val (.int (1 : Int32)), .val (.int k0), .val (.int k1), .val (.int k2), .val (.int z44), .val (.int z45), .val (.int z46), .val (.int z47), .val (.int z48), .val (.int z49), .val (.ref b188), .val (.ref b192), .val (.ref b198), .unset, .unset, .unset, .unset, .unset, .unset, .unset, .unset, .unset]) rfl ?_
              show Steps p.tables e below (T198.setTop (mkF m 117 #[.val (.int p0s), .val (.long p1s), .second, .val (.long p2s), .second, .val (.long p3s), .second, .val (.int (1 : Int32)), .val (.int k0), .val (.int k1), .val (.int k2), .val (.int z44), .val (.int z45), .val (.int z46), .val (.int z47), .val (.int z48), .val (.int z49), .val (.ref b188), .val (.ref b192), .val (.ref b198), .unset, .unset, .unset, .unset, .unset, .unset, .unset, .unset, .unset] [])) _
              refine XS.iload X198.here hx rfl (hb hby at_117) rfl ?_
              show Steps p.tables e below (T198.setTop (mkF m 119 #[.val (.int p0s), .val (.long p1s), .second, .val (.long p2s), .second, .val (.long p3s), .second, .val (.int (1 : Int32)), .val (.int k0), .val (.int k1), .val (.int k2), .val (.int z44), .val (.int z45), .val (.int z46), .val (.int z47), .val (.int z48), .val (.int z49), .val (.ref b188), .val (.ref b192), .val (.ref b198), .unset, .unset, .unset, .unset, .unset, .unset, .unset, .unset, .unset] [(.int (1 : Int32))])) _
              refine XS.ifNo X198.here hx rfl (hb hby at_119) rfl ((if0 _ _).trans (tlt (show (0 : Int32) < (1 : Int32) from by decide)).2.2.2) ?_
              show Steps p.tables e below (T198.setTop (mkF m 122 #[.val (.int p0s), .val (.long p1s), .second, .val (.long p2s), .second, .val (.long p3s), .second, .val (.int (1 : Int32)), .val (.int k0), .val (.int k1), .val (.int k2), .val (.int z44), .val (.int z45), .val (.int z46), .val (.int z47), .val (.int z48), .val (.int z49), .val (.ref b188), .val (.ref b192), .val (.ref b198), .unset, .unset, .unset, .unset, .unset, .unset, .unset, .unset, .unset] [])) _
              refine XS.aload X198.here hx rfl (hb hby at_122) rfl rfl ?_
              show Steps p.tables e below (T198.setTop (mkF m 124 #[.val (.int p0s), .val (.long p1s), .second, .val (.long p2s), .second, .val (.long p3s), .second, .val (.int (1 : Int32)), .val (.int k0), .val (.int k1), .val (.int k2), .val (.int z44), .val (.int z45), .val (.int z46), .val (.int z47), .val (.int z48), .val (.int z49), .val (.ref b188), .val (.ref b192), .val (.ref b198), .unset, .unset, .unset, .unset, .unset, .unset, .unset, .unset, .unset] [(.ref b188)])) _
              refine XS.iconst X198.here hx rfl (hb hby at_124) ?_
              show Steps p.tables e below (T198.setTop (mkF m 125 #[.val (.int p0s), .val (.long p1s), .second, .val (.long p2s), .second, .val (.long p3s), .second, .val (.int (1 : Int32)), .val (.int k0), .val (.int k1), .val (.int k2), .val (.int z44), .val (.int z45), .val (.int z46), .val (.int z47), .val (.int z48), .val (.int z49), .val (.ref b188), .val (.ref b192), .val (.ref b198), .unset, .unset, .unset, .unset, .unset, .unset, .unset, .unset, .unset] [(.int (0 : Int32)), (.ref b188)])) _
              refine XS.iload X198.here hx rfl (hb hby at_125) rfl ?_
              exact kg_
            obtain ⟨T206, h206, X206, e206, W206, V206, st206⟩ := own_stI X198 hx hZ e198 (j := (0 : Int32)) F201 (by decide) (by decide) (g := (mkF m 127 #[.val (.int p0s), .val (.long p1s), .second, .val (.long p2s), .second, .val (.long p3s), .second, .val (.int (1 : Int32)), .val (.int k0), .val (.int k1), .val (.int k2), .val (.int z44), .val (.int z45), .val (.int z46), .val (.int z47), .val (.int z48), .val (.int z49), .val (.ref b188), .val (.ref b192), .val (.ref b198), .unset, .unset, .unset, .unset, .unset, .unset, .unset, .unset, .unset] [(.int z44), (.int (0 : Int32)), (.ref b188)])) rfl rfl (hb hby at_127)
            have V206 : own_Arf Z h206 b188 .int 1 (fun i => if i = 0 then (.int z44) else (.int ((fun _ => (0 : Int32)) i))) := V206
            obtain ⟨gf206, hgf206, V206'⟩ := own_nameI (g := (fun _ => (0 : Int32))) V206
            have F207 : own_Arf Z h206 b188 .int 1 (fun i => (.int (gf206 i))) := V206'
            have F208 : own_Arf Z h206 b192 .int 1 (fun i => (.int ((fun _ => (0 : Int32)) i))) := F202.other W206 (Ne.symm ne193)
            have F209 : own_Arf Z h206 b198 .boolean 1 (fun i => (.int ((fun _ => (0 : Int32)) i))) := F204.other W206 (Ne.symm ne199)
            have Zs210 : n0 ≤ h206.size := by rw [W206.size]; exact Zs203
            have N211 := Fr.snoc X206 N0 ge188
            have K212 : Keep h0 h206 [] := K198.wr W206 (Or.inr old188)
            have r206 : own_R p.tables e below F0 (T206.setTop (mkF m 128 #[.val (.int p0s), .val (.long p1s), .second, .val (.long p2s), .second, .val (.long p3s), .second, .val (.int (1 : Int32)), .val (.int k0), .val (.int k1), .val (.int k2), .val (.int z44), .val (.int z45), .val (.int z46), .val (.int z47), .val (.int z48), .val (.int z49), .val (.ref b188), .val (.ref b192), .val (.ref b198), .unset, .unset, .unset, .unset, .unset, .unset, .unset, .unset, .unset] [])) := fun tg_ kg_ => r205 tg_ (st206 tg_ kg_)
            have r213 : own_R p.tables e below F0 (T206.setTop (mkF m 133 #[.val (.int p0s), .val (.long p1s), .second, .val (.long p2s), .second, .val (.long p3s), .second, .val (.int (1 : Int32)), .val (.int k0), .val (.int k1), .val (.int k2), .val (.int z44), .val (.int z45), .val (.int z46), .val (.int z47), .val (.int z48), .val (.int z49), .val (.ref b188), .val (.ref b192), .val (.ref b198), .unset, .unset, .unset, .unset, .unset, .unset, .unset, .unset, .unset] [(.int z45), (.int (0 : Int32)), (.ref b192)])) := fun tg_ kg_ => by
              refine r206 tg_ ?_
              show Steps p.tables e below (T206.setTop (mkF m 128 #[.val (.int p0s), .val (.long p1s), .second, .val (.long p2s), .second, .val (.long p3s), .second, .val (.int (1 : Int32)), .val (.int k0), .val (.int k1), .val (.int k2), .val (.int z44), .val (.int z45), .val (.int z46), .val (.int z47), .val (.int z48), .val (.int z49), .val (.ref b188), .val (.ref b192), .val (.ref b198), .unset, .unset, .unset, .unset, .unset, .unset, .unset, .unset, .unset] [])) _
              refine XS.aload X206.here hx rfl (hb hby at_128) rfl rfl ?_
              show Steps p.tables e below (T206.setTop (mkF m 130 #[.val (.int p0s), .val (.long p1s), .second, .val (.long p2s), .second, .val (.long p3s), .second, .val (.int (1 : Int32)), .val (.int k0), .val (.int k1), .val (.int k2), .val (.int z44), .val (.int z45), .val (.int z46), .val (.int z47), .val (.int z48), .val (.int z49), .val (.ref b188), .val (.ref b192), .val (.ref b198), .unset, .unset, .unset, .unset, .unset, .unset, .unset, .unset, .unset] [(.ref b192)])) _
              refine XS.iconst X206.here hx rfl (hb hby at_130) ?_
              show Steps p.tables e below (T206.setTop (mkF m 131 #[.val (.int p0s), .val (.long p1s), .second, .val (.long p2s), .second, .val (.long p3s), .second, .val (.int (1 : Int32)), .val (.int k0), .val (.int k1), .val (.int k2), .val (.int z44), .val (.int z45), .val (.int z46), .val (.int z47), .val (.int z48), .val (.int z49), .val (.ref b188), .val (.ref b192), .val (.ref b198), .unset, .unset, .unset, .unset, .unset, .unset, .unset, .unset, .unset] [(.int (0 : Int32)), (.ref b192)])) _
              refine XS.iload X206.here hx rfl (hb hby at_131) rfl ?_
              exact kg_
            obtain ⟨T214, h214, X214, e214, W214, V214, st214⟩ := own_stI X206 hx hZ e206 (j := (0 : Int32)) F208 (by decide) (by decide) (g := (mkF m 133 #[.val (.int p0s), .val (.long p1s), .second, .val (.long p2s), .second, .val (.long p3s), .second, .val (.int (1 : Int32)), .val (.int k0), .val (.int k1), .val (.int k2), .val (.int z44), .val (.int z45), .val (.int z46), .val (.int z47), .val (.int z48), .val (.int z49), .val (.ref b188), .val (.ref b192), .val (.ref b198), .unset, .unset, .unset, .unset, .unset, .unset, .unset, .unset, .unset] [(.int z45), (.int (0 : Int32)), (.ref b192)])) rfl rfl (hb hby at_133)
            have V214 : own_Arf Z h214 b192 .int 1 (fun i => if i = 0 then (.int z45) else (.int ((fun _ => (0 : Int32)) i))) := V214
            obtain ⟨gf214, hgf214, V214'⟩ := own_nameI (g := (fun _ => (0 : Int32))) V214
            have F215 : own_Arf Z h214 b188 .int 1 (fun i => (.int (gf206 i))) := F207.other W214 ne193
            have F216 : own_Arf Z h214 b192 .int 1 (fun i => (.int (gf214 i))) := V214'
            have F217 : own_Arf Z h214 b198 .boolean 1 (fun i => (.int ((fun _ => (0 : Int32)) i))) := F209.other W214 (Ne.symm ne200)
            have Zs218 : n0 ≤ h214.size := by rw [W214.size]; exact Zs210
            have N219 := Fr.snoc X214 N211 ge192
            have K220 : Keep h0 h214 [] := K212.wr W214 (Or.inr old192)
            have r214 : own_R p.tables e below F0 (T214.setTop (mkF m 134 #[.val (.int p0s), .val (.long p1s), .second, .val (.long p2s), .second, .val (.long p3s), .second, .val (.int (1 : Int32)), .val (.int k0), .val (.int k1), .val (.int k2), .val (.int z44), .val (.int z45), .val (.int z46), .val (.int z47), .val (.int z48), .val (.int z49), .val (.ref b188), .val (.ref b192), .val (.ref b198), .unset, .unset, .unset, .unset, .unset, .unset, .unset, .unset, .unset] [])) := fun tg_ kg_ => r213 tg_ (st214 tg_ kg_)
            have r221 : own_R p.tables e below F0 (T214.setTop (mkF m 139 #[.val (.int p0s), .val (.long p1s), .second, .val (.long p2s), .second, .val (.long p3s), .second, .val (.int (1 : Int32)), .val (.int k0), .val (.int k1), .val (.int k2), .val (.int z44), .val (.int z45), .val (.int z46), .val (.int z47), .val (.int z48), .val (.int z49), .val (.ref b188), .val (.ref b192), .val (.ref b198), .unset, .unset, .unset, .unset, .unset, .unset, .unset, .unset, .unset] [(.int k0), (.int (0 : Int32)), (.ref b198)])) := fun tg_ kg_ => by
              refine r214 tg_ ?_
              show Steps p.tables e below (T214.setTop (mkF m 134 #[.val (.int p0s), .val (.long p1s), .second, .val (.long p2s), .second, .val (.long p3s), .second, .val (.int (1 : Int32)), .val (.int k0), .val (.int k1), .val (.int k2), .val (.int z44), .val (.int z45), .val (.int z46), .val (.int z47), .val (.int z48), .val (.int z49), .val (.ref b188), .val (.ref b192), .val (.ref b198), .unset, .unset, .unset, .unset, .unset, .unset, .unset, .unset, .unset] [])) _
              refine XS.aload X214.here hx rfl (hb hby at_134) rfl rfl ?_
              show Steps p.tables e below (T214.setTop (mkF m 136 #[.val (.int p0s), .val (.long p1s), .second, .val (.long p2s), .second, .val (.long p3s), .second, .val (.int (1 : Int32)), .val (.int k0), .val (.int k1), .val (.int k2), .val (.int z44), .val (.int z45), .val (.int z46), .val (.int z47), .val (.int z48), .val (.int z49), .val (.ref b188), .val (.ref b192), .val (.ref b198), .unset, .unset, .unset, .unset, .unset, .unset, .unset, .unset, .unset] [(.ref b198)])) _
              refine XS.iconst X214.here hx rfl (hb hby at_136) ?_
              show Steps p.tables e below (T214.setTop (mkF m 137 #[.val (.int p0s), .val (.long p1s), .second, .val (.long p2s), .second, .val (.long p3s), .second, .val (.int (1 : Int32)), .val (.int k0), .val (.int k1), .val (.int k2), .val (.int z44), .val (.int z45), .val (.int z46), .val (.int z47), .val (.int z48), .val (.int z49), .val (.ref b188), .val (.ref b192), .val (.ref b198), .unset, .unset, .unset, .unset, .unset, .unset, .unset, .unset, .unset] [(.int (0 : Int32)), (.ref b198)])) _
              refine XS.iload X214.here hx rfl (hb hby at_137) rfl ?_
              exact kg_
            obtain ⟨T222, h222, X222, e222, W222, V222, st222⟩ := own_stZ X214 hx hZ e214 (j := (0 : Int32)) F217 (by decide) (by decide) (g := (mkF m 139 #[.val (.int p0s), .val (.long p1s), .second, .val (.long p2s), .second, .val (.long p3s), .second, .val (.int (1 : Int32)), .val (.int k0), .val (.int k1), .val (.int k2), .val (.int z44), .val (.int z45), .val (.int z46), .val (.int z47), .val (.int z48), .val (.int z49), .val (.ref b188), .val (.ref b192), .val (.ref b198), .unset, .unset, .unset, .unset, .unset, .unset, .unset, .unset, .unset] [(.int k0), (.int (0 : Int32)), (.ref b198)])) rfl rfl (hb hby at_139)
            have V222 : own_Arf Z h222 b198 .boolean 1 (fun i => if i = 0 then (.int (nar .boolean k0)) else (.int ((fun _ => (0 : Int32)) i))) := V222
            obtain ⟨gf222, hgf222, V222'⟩ := own_nameI (g := (fun _ => (0 : Int32))) V222
            have F223 : own_Arf Z h222 b188 .int 1 (fun i => (.int (gf206 i))) := F215.other W222 ne199
            have F224 : own_Arf Z h222 b192 .int 1 (fun i => (.int (gf214 i))) := F216.other W222 ne200
            have F225 : own_Arf Z h222 b198 .boolean 1 (fun i => (.int (gf222 i))) := V222'
            have Zs226 : n0 ≤ h222.size := by rw [W222.size]; exact Zs218
            have N227 := Fr.snoc X222 N219 ge198
            have K228 : Keep h0 h222 [] := K220.wr W222 (Or.inr old198)
            have r222 : own_R p.tables e below F0 (T222.setTop (mkF m 140 #[.val (.int p0s), .val (.long p1s), .second, .val (.long p2s), .second, .val (.long p3s), .second, .val (.int (1 : Int32)), .val (.int k0), .val (.int k1), .val (.int k2), .val (.int z44), .val (.int z45), .val (.int z46), .val (.int z47), .val (.int z48), .val (.int z49), .val (.ref b188), .val (.ref b192), .val (.ref b198), .unset, .unset, .unset, .unset, .unset, .unset, .unset, .unset, .unset] [])) := fun tg_ kg_ => r221 tg_ (st222 tg_ kg_)
            have r229 : own_R p.tables e below F0 (T222.setTop (mkF m 188 #[.val (.int p0s), .val (.long p1s), .second, .val (.long p2s), .second, .val (.long p3s), .second, .val (.int (1 : Int32)), .val (.int k0), .val (.int k1), .val (.int k2), .val (.int z44), .val (.int z45), .val (.int z46), .val (.int z47), .val (.int z48), .val (.int z49), .val (.ref b188), .val (.ref b192), .val (.ref b198), .unset, .unset, .unset, .unset, .unset, .unset, .unset, .unset, .unset] [])) := fun tg_ kg_ => by
              refine r222 tg_ ?_
              show Steps p.tables e below (T222.setTop (mkF m 140 #[.val (.int p0s), .val (.long p1s), .second, .val (.long p2s), .second, .val (.long p3s), .second, .val (.int (1 : Int32)), .val (.int k0), .val (.int k1), .val (.int k2), .val (.int z44), .val (.int z45), .val (.int z46), .val (.int z47), .val (.int z48), .val (.int z49), .val (.ref b188), .val (.ref b192), .val (.ref b198), .unset, .unset, .unset, .unset, .unset, .unset, .unset, .unset, .unset] [])) _
              refine XS.iload X222.here hx rfl (hb hby at_140) rfl ?_
              show Steps p.tables e below (T222.setTop (mkF m 142 #[.val (.int p0s), .val (.long p1s), .second, .val (.long p2s), .second, .val (.long p3s), .second, .val (.int (1 : Int32)), .val (.int k0), .val (.int k1), .val (.int k2), .val (.int z44), .val (.int z45), .val (.int z46), .val (.int z47), .val (.int z48), .val (.int z49), .val (.ref b188), .val (.ref b192), .val (.ref b198), .unset, .unset, .unset, .unset, .unset, .unset, .unset, .unset, .unset] [(.int (1 : Int32))])) _
              refine XS.iconst X222.here hx rfl (hb hby at_142) ?_
              show Steps p.tables e below (T222.setTop (mkF m 143 #[.val (.int p0s), .val (.long p1s), .second, .val (.long p2s), .second, .val (.long p3s), .second, .val (.int (1 : Int32)), .val (.int k0), .val (.int k1), .val (.int k2), .val (.int z44), .val (.int z45), .val (.int z46), .val (.int z47), .val (.int z48), .val (.int z49), .val (.ref b188), .val (.ref b192), .val (.ref b198), .unset, .unset, .unset, .unset, .unset, .unset, .unset, .unset, .unset] [(.int (1 : Int32)), (.int (1 : Int32))])) _
              refine XS.icmpYes X222.here hx rfl (pc0 := 143) (pc' := 164) rfl (hb hby at_143) rfl (flt (show ¬ ((1 : Int32) < (1 : Int32)) from by decide)).2.2.2 (by decide) (by decide) ?_
              show Steps p.tables e below (T222.setTop (mkF m 164 #[.val (.int p0s), .val (.long p1s), .second, .val (.long p2s), .second, .val (.long p3s), .second, .val (.int (1 : Int32)), .val (.int k0), .val (.int k1), .val (.int k2), .val (.int z44), .val (.int z45), .val (.int z46), .val (.int z47), .val (.int z48), .val (.int z49), .val (.ref b188), .val (.ref b192), .val (.ref b198), .unset, .unset, .unset, .unset, .unset, .unset, .unset, .unset, .unset] [])) _
              refine XS.iload X222.here hx rfl (hb hby at_164) rfl ?_
              show Steps p.tables e below (T222.setTop (mkF m 166 #[.val (.int p0s), .val (.long p1s), .second, .val (.long p2s), .second, .val (.long p3s), .second, .val (.int (1 : Int32)), .val (.int k0), .val (.int k1), .val (.int k2), .val (.int z44), .val (.int z45), .val (.int z46), .val (.int z47), .val (.int z48), .val (.int z49), .val (.ref b188), .val (.ref b192), .val (.ref b198), .unset, .unset, .unset, .unset, .unset, .unset, .unset, .unset, .unset] [(.int (1 : Int32))])) _
              refine XS.iconst X222.here hx rfl (hb hby at_166) ?_
              show Steps p.tables e below (T222.setTop (mkF m 167 #[.val (.int p0s), .val (.long p1s), .second, .val (.long p2s), .second, .val (.long p3s), .second, .val (.int (1 : Int32)), .val (.int k0), .val (.int k1), .val (.int k2), .val (.int z44), .val (.int z45), .val (.int z46), .val (.int z47), .val (.int z48), .val (.int z49), .val (.ref b188), .val (.ref b192), .val (.ref b198), .unset, .unset, .unset, .unset, .unset, .unset, .unset, .unset, .unset] [(.int (2 : Int32)), (.int (1 : Int32))])) _
              refine XS.icmpYes X222.here hx rfl (pc0 := 167) (pc' := 188) rfl (hb hby at_167) rfl (flt (show ¬ ((2 : Int32) < (1 : Int32)) from by decide)).2.2.2 (by decide) (by decide) ?_
              exact kg_
            exact J51 (1 : Int32) b188 b192 b198 1 gf206 gf214 gf222 T222 _ _ (own_mono X222 (by decide) (by decide)) e222 N227 Zs226 K228 F223 F224 F225 (by decide) (by decide) ⟨fun _ => ⟨(by rw [hgf206, if_pos rfl]), (by rw [hgf214, if_pos rfl]), (congrArg Int32.toInt (by rw [hgf222, if_pos rfl])).trans (own_narB hk0)⟩, fun q => absurd q (by decide), fun q => absurd q (by decide)⟩ r229
          · have r230 : own_R p.tables e below F0 (s₁.setTop (mkF m 99 #[.val (.int p0s), .val (.long p1s), .second, .val (.long p2s), .second, .val (.long p3s), .second, .val (.int (2 : Int32)), .val (.int k0), .val (.int k1), .val (.int k2), .val (.int z44), .val (.int z45), .val (.int z46), .val (.int z47), .val (.int z48), .val (.int z49), .unset, .unset, .unset, .unset, .unset, .unset, .unset, .unset, .unset, .unset, .unset, .unset] [])) := by rw [← hn4]; exact r50
            have r231 : own_R p.tables e below F0 (s₁.setTop (mkF m 101 #[.val (.int p0s), .val (.long p1s), .second, .val (.long p2s), .second, .val (.long p3s), .second, .val (.int (2 : Int32)), .val (.int k0), .val (.int k1), .val (.int k2), .val (.int z44), .val (.int z45), .val (.int z46), .val (.int z47), .val (.int z48), .val (.int z49), .unset, .unset, .unset, .unset, .unset, .unset, .unset, .unset, .unset, .unset, .unset, .unset] [(.int (2 : Int32))])) := fun tg_ kg_ => by
              refine r230 tg_ ?_
              show Steps p.tables e below (s₁.setTop (mkF m 99 #[.val (.int p0s), .val (.long p1s), .second, .val (.long p2s), .second, .val (.long p3s), .second, .val (.int (2 : Int32)), .val (.int k0), .val (.int k1), .val (.int k2), .val (.int z44), .val (.int z45), .val (.int z46), .val (.int z47), .val (.int z48), .val (.int z49), .unset, .unset, .unset, .unset, .unset, .unset, .unset, .unset, .unset, .unset, .unset, .unset] [])) _
              refine XS.iload X0.here hx rfl (hb hby at_99) rfl ?_
              exact kg_
            obtain ⟨T232, h232, k232, X232, e232, E232, A232, st232⟩ := newP X0 hx hZ (hw _ (List.mem_of_getElem? (i := 1) rfl)) e0 (g := (mkF m 101 #[.val (.int p0s), .val (.long p1s), .second, .val (.long p2s), .second, .val (.long p3s), .second, .val (.int (2 : Int32)), .val (.int k0), .val (.int k1), .val (.int k2), .val (.int z44), .val (.int z45), .val (.int z46), .val (.int z47), .val (.int z48), .val (.int z49), .unset, .unset, .unset, .unset, .unset, .unset, .unset, .unset, .unset, .unset, .unset, .unset] [(.int (2 : Int32))])) rfl (hb hby at_101) rfl (by decide) (cap := 2) (by decide) (by decide) (by decide) (by decide)
            obtain ⟨b232, g232⟩ : ∃ z, z = h0.size := ⟨_, rfl⟩
            rw [← g232] at A232 st232
            have ge232 : n0 ≤ b232 := Nat.le_trans Z0 (Nat.le_of_eq g232.symm)
            have old232 : h0.size ≤ b232 := Nat.le_trans K0.1 (Nat.le_of_eq g232.symm)
            have K232 : Keep h0 h232 [] := K0.ext E232
            have Zs233 : n0 ≤ h232.size := Nat.le_trans Z0 E232.1
            have F234 : own_Arf Z h232 b232 .int 2 (fun i => (.int ((fun _ => (0 : Int32)) i))) := by
              have q := own_Arf.new A232 (by decide)
              rw [show ((2 : Int32)).toNatClampNeg = 2 from rfl] at q
              exact q
            have r232 : own_R p.tables e below F0 (T232.setTop (mkF m 103 #[.val (.int p0s), .val (.long p1s), .second, .val (.long p2s), .second, .val (.long p3s), .second, .val (.int (2 : Int32)), .val (.int k0), .val (.int k1), .val (.int k2), .val (.int z44), .val (.int z45), .val (.int z46), .val (.int z47), .val (.int z48), .val (.int z49), .unset, .unset, .unset, .unset, .unset, .unset, .unset, .unset, .unset, .unset, .unset, .unset] [(.ref b232)])) := fun tg_ kg_ => r231 tg_ (st232 tg_ kg_)
            have r235 : own_R p.tables e below F0 (T232.setTop (mkF m 107 #[.val (.int p0s), .val (.long p1s), .second, .val (.long p2s), .second, .val (.long p3s), .second, .val (.int (2 : Int32)), .val (.int k0), .val (.int k1), .val (.int k2), .val (.int z44), .val (.int z45), .val (.int z46), .val (.int z47), .val (.int z48), .val (.int z49), .val (.ref b232), .unset, .unset, .unset, .unset, .unset, .unset, .unset, .unset, .unset, .unset, .unset] [(.int (2 : Int32))])) := fun tg_ kg_ => by
              refine r232 tg_ ?_
              show Steps p.tables e below (T232.setTop (mkF m 103 #[.val (.int p0s), .val (.long p1s), .second, .val (.long p2s), .second, .val (.long p3s), .second, .val (.int (2 : Int32)), .val (.int k0), .val (.int k1), .val (.int k2), .val (.int z44), .val (.int z45), .val (.int z46), .val (.int z47), .val (.int z48), .val (.int z49), .unset, .unset, .unset, .unset, .unset, .unset, .unset, .unset, .unset, .unset, .unset, .unset] [(.ref b232)])) _
              refine XS.astore X232.here hx rfl (hb hby at_103) rfl rfl (l' := #[.val (.int p0s), .val (.long p1s), .second, .val (.long p2s), .second, .val (.long p3s), .second, .val (.int (2 : Int32)), .val (.int k0), .val (.int k1), .val (.int k2), .val (.int z44), .val (.int z45), .val (.int z46), .val (.int z47), .val (.int z48), .val (.int z49), .val (.ref b232), .unset, .unset, .unset, .unset, .unset, .unset, .unset, .unset, .unset, .unset, .unset]) rfl ?_
              show Steps p.tables e below (T232.setTop (mkF m 105 #[.val (.int p0s), .val (.long p1s), .second, .val (.long p2s), .second, .val (.long p3s), .second, .val (.int (2 : Int32)), .val (.int k0), .val (.int k1), .val (.int k2), .val (.int z44), .val (.int z45), .val (.int z46), .val (.int z47), .val (.int z48), .val (.int z49), .val (.ref b232), .unset, .unset, .unset, .unset, .unset, .unset, .unset, .unset, .unset, .unset, .unset] [])) _
              refine XS.iload X232.here hx rfl (hb hby at_105) rfl ?_
              exact kg_
            obtain ⟨T236, h236, k236, X236, e236, E236, A236, st236⟩ := newP X232 hx hZ (hw _ (List.mem_of_getElem? (i := 1) rfl)) e232 (g := (mkF m 107 #[.val (.int p0s), .val (.long p1s), .second, .val (.long p2s), .second, .val (.long p3s), .second, .val (.int (2 : Int32)), .val (.int k0), .val (.int k1), .val (.int k2), .val (.int z44), .val (.int z45), .val (.int z46), .val (.int z47), .val (.int z48), .val (.int z49), .val (.ref b232), .unset, .unset, .unset, .unset, .unset, .unset, .unset, .unset, .unset, .unset, .unset] [(.int (2 : Int32))])) rfl (hb hby at_107) rfl (by decide) (cap := 2) (by decide) (by decide) (by decide) (by decide)
            obtain ⟨b236, g236⟩ : ∃ z, z = h232.size := ⟨_, rfl⟩
            rw [← g236] at A236 st236
            have ne237 : b232 ≠ b236 := Nat.ne_of_lt (Nat.lt_of_lt_of_le F234.lt (Nat.le_of_eq g236.symm))
            have ge236 : n0 ≤ b236 := Nat.le_trans Zs233 (Nat.le_of_eq g236.symm)
            have old236 : h0.size ≤ b236 := Nat.le_trans K232.1 (Nat.le_of_eq g236.symm)
            have K236 : Keep h0 h236 [] := K232.ext E236
            have F238 : own_Arf Z h236 b232 .int 2 (fun i => (.int ((fun _ => (0 : Int32)) i))) := F234.ext E236
            have Zs239 : n0 ≤ h236.size := Nat.le_trans Zs233 E236.1
            have F240 : own_Arf Z h236 b236 .int 2 (fun i => (.int ((fun _ => (0 : Int32)) i))) := by
              have q := own_Arf.new A236 (by decide)
              rw [show ((2 : Int32)).toNatClampNeg = 2 from rfl] at q
              exact q
            have r236 : own_R p.tables e below F0 (T236.setTop (mkF m 109 #[.val (.int p0s), .val (.long p1s), .second, .val (.long p2s), .second, .val (.long p3s), .second, .val (.int (2 : Int32)), .val (.int k0), .val (.int k1), .val (.int k2), .val (.int z44), .val (.int z45), .val (.int z46), .val (.int z47), .val (.int z48), .val (.int z49), .val (.ref b232), .unset, .unset, .unset, .unset, .unset, .unset, .unset, .unset, .unset, .unset, .unset] [(.ref b236)])) := fun tg_ kg_ => r235 tg_ (st236 tg_ kg_)
            have r241 : own_R p.tables e below F0 (T236.setTop (mkF m 113 #[.val (.int p0s), .val (.long p1s), .second, .val (.long p2s), .second, .val (.long p3s), .second, .val (.int (2 : Int32)), .val (.int k0), .val (.int k1), .val (.int k2), .val (.int z44), .val (.int z45), .val (.int z46), .val (.int z47), .val (.int z48), .val (.int z49), .val (.ref b232), .val (.ref b236), .unset, .unset, .unset, .unset, .unset, .unset, .unset, .unset, .unset, .unset] [(.int (2 : Int32))])) := fun tg_ kg_ => by
              refine r236 tg_ ?_
              show Steps p.tables e below (T236.setTop (mkF m 109 #[.val (.int p0s), .val (.long p1s), .second, .val (.long p2s), .second, .val (.long p3s), .second, .val (.int (2 : Int32)), .val (.int k0), .val (.int k1), .val (.int k2), .val (.int z44), .val (.int z45), .val (.int z46), .val (.int z47), .val (.int z48), .val (.int z49), .val (.ref b232), .unset, .unset, .unset, .unset, .unset, .unset, .unset, .unset, .unset, .unset, .unset] [(.ref b236)])) _
              refine XS.astore X236.here hx rfl (hb hby at_109) rfl rfl (l' := #[.val (.int p0s), .val (.long p1s), .second, .val (.long p2s), .second, .val (.long p3s), .second, .val (.int (2 : Int32)), .val (.int k0), .val (.int k1), .val (.int k2), .val (.int z44), .val (.int z45), .val (.int z46), .val (.int z47), .val (.int z48), .val (.int z49), .val (.ref b232), .val (.ref b236), .unset, .unset, .unset, .unset, .unset, .unset, .unset, .unset, .unset, .unset]) rfl ?_
              show Steps p.tables e below (T236.setTop (mkF m 111 #[.val (.int p0s), .val (.long p1s), .second, .val (.long p2s), .second, .val (.long p3s), .second, .val (.int (2 : Int32)), .val (.int k0), .val (.int k1), .val (.int k2), .val (.int z44), .val (.int z45), .val (.int z46), .val (.int z47), .val (.int z48), .val (.int z49), .val (.ref b232), .val (.ref b236), .unset, .unset, .unset, .unset, .unset, .unset, .unset, .unset, .unset, .unset] [])) _
              refine XS.iload X236.here hx rfl (hb hby at_111) rfl ?_
              exact kg_
            obtain ⟨T242, h242, k242, X242, e242, E242, A242, st242⟩ := newP X236 hx hZ (hw _ (List.mem_of_getElem? (i := 2) rfl)) e236 (g := (mkF m 113 #[.val (.int p0s), .val (.long p1s), .second, .val (.long p2s), .second, .val (.long p3s), .second, .val (.int (2 : Int32)), .val (.int k0), .val (.int k1), .val (.int k2), .val (.int z44), .val (.int z45), .val (.int z46), .val (.int z47), .val (.int z48), .val (.int z49), .val (.ref b232), .val (.ref b236), .unset, .unset, .unset, .unset, .unset, .unset, .unset, .unset, .unset, .unset] [(.int (2 : Int32))])) rfl (hb hby at_113) rfl (by decide) (cap := 2) (by decide) (by decide) (by decide) (by decide)
            obtain ⟨b242, g242⟩ : ∃ z, z = h236.size := ⟨_, rfl⟩
            rw [← g242] at A242 st242
            have ne243 : b232 ≠ b242 := Nat.ne_of_lt (Nat.lt_of_lt_of_le F238.lt (Nat.le_of_eq g242.symm))
            have ne244 : b236 ≠ b242 := Nat.ne_of_lt (Nat.lt_of_lt_of_le F240.lt (Nat.le_of_eq g242.symm))
            have ge242 : n0 ≤ b242 := Nat.le_trans Zs239 (Nat.le_of_eq g242.symm)
            have old242 : h0.size ≤ b242 := Nat.le_trans K236.1 (Nat.le_of_eq g242.symm)
            have K242 : Keep h0 h242 [] := K236.ext E242
            have F245 : own_Arf Z h242 b232 .int 2 (fun i => (.int ((fun _ => (0 : Int32)) i))) := F238.ext E242
            have F246 : own_Arf Z h242 b236 .int 2 (fun i => (.int ((fun _ => (0 : Int32)) i))) := F240.ext E242
            have Zs247 : n0 ≤ h242.size := Nat.le_trans Zs239 E242.1
            have F248 : own_Arf Z h242 b242 .boolean 2 (fun i => (.int ((fun _ => (0 : Int32)) i))) := by
              have q := own_Arf.new A242 (by decide)
              rw [show ((2 : Int32)).toNatClampNeg = 2 from rfl] at q
              exact q
            have r242 : own_R p.tables e below F0 (T242.setTop (mkF m 115 #[.val (.int p0s), .val (.long p1s), .second, .val (.long p2s), .second, .val (.long p3s), .second, .val (.int (2 : Int32)), .val (.int k0), .val (.int k1), .val (.int k2), .val (.int z44), .val (.int z45), .val (.int z46), .val (.int z47), .val (.int z48), .val (.int z49), .val (.ref b232), .val (.ref b236), .unset, .unset, .unset, .unset, .unset, .unset, .unset, .unset, .unset, .unset] [(.ref b242)])) := fun tg_ kg_ => r241 tg_ (st242 tg_ kg_)
            have r249 : own_R p.tables e below F0 (T242.setTop (mkF m 127 #[.val (.int p0s), .val (.long p1s), .second, .val (.long p2s), .second, .val (.long p3s), .second, .val (.int (2 : Int32)), .val (.int k0), .val (.int k1), .val (.int k2), .val (.int z44), .val (.int z45), .val (.int z46), .val (.int z47), .val (.int z48), .val (.int z49), .val (.ref b232), .val (.ref b236), .val (.ref b242), .unset, .unset, .unset, .unset, .unset, .unset, .unset, .unset, .unset] [(.int z44), (.int (0 : Int32)), (.ref b232)])) := fun tg_ kg_ => by
              refine r242 tg_ ?_
              show Steps p.tables e below (T242.setTop (mkF m 115 #[.val (.int p0s), .val (.long p1s), .second, .val (.long p2s), .second, .val (.long p3s), .second, .val (.int (2 : Int32)), .val (.int k0), .val (.int k1), .val (.int k2), .val (.int z44), .val (.int z45), .val (.int z46), .val (.int z47), .val (.int z48), .val (.int z49), .val (.ref b232), .val (.ref b236), .unset, .unset, .unset, .unset, .unset, .unset, .unset, .unset, .unset, .unset] [(.ref b242)])) _
              refine XS.astore X242.here hx rfl (hb hby at_115) rfl rfl (l' := #[.val (.int p0s), .val (.long p1s), .second, .val (.long p2s), .second, .val (.long p3s), .second, .val (.int (2 : Int32)), .val (.int k0), .val (.int k1), .val (.int k2), .val (.int z44), .val (.int z45), .val (.int z46), .val (.int z47), .val (.int z48), .val (.int z49), .val (.ref b232), .val (.ref b236), .val (.ref b242), .unset, .unset, .unset, .unset, .unset, .unset, .unset, .unset, .unset]) rfl ?_
              show Steps p.tables e below (T242.setTop (mkF m 117 #[.val (.int p0s), .val (.long p1s), .second, .val (.long p2s), .second, .val (.long p3s), .second, .val (.int (2 : Int32)), .val (.int k0), .val (.int k1), .val (.int k2), .val (.int z44), .val (.int z45), .val (.int z46), .val (.int z47), .val (.int z48), .val (.int z49), .val (.ref b232), .val (.ref b236), .val (.ref b242), .unset, .unset, .unset, .unset, .unset, .unset, .unset, .unset, .unset] [])) _
              refine XS.iload X242.here hx rfl (hb hby at_117) rfl ?_
              show Steps p.tables e below (T242.setTop (mkF m 119 #[.val (.int p0s), .val (.long p1s), .second, .val (.long p2s), .second, .val (.long p3s), .second, .val (.int (2 : Int32)), .val (.int k0), .val (.int k1), .val (.int k2), .val (.int z44), .val (.int z45), .val (.int z46), .val (.int z47), .val (.int z48), .val (.int z49), .val (.ref b232), .val (.ref b236), .val (.ref b242), .unset, .unset, .unset, .unset, .unset, .unset, .unset, .unset, .unset] [(.int (2 : Int32))])) _
              refine XS.ifNo X242.here hx rfl (hb hby at_119) rfl ((if0 _ _).trans (tlt (show (0 : Int32) < (2 : Int32) from by decide)).2.2.2) ?_
              show Steps p.tables e below (T242.setTop (mkF m 122 #[.val (.int p0s), .val (.long p1s), .second, .val (.long p2s), .second, .val (.long p3s), .second, .val (.int (2 : Int32)), .val (.int k0), .val (.int k1), .val (.int k2), .val (.int z44), .val (.int z45), .val (.int z46), .val (.int z47), .val (.int z48), .val (.int z49), .val (.ref b232), .val (.ref b236), .val (.ref b242), .unset, .unset, .unset, .unset, .unset, .unset, .unset, .unset, .unset] [])) _
              refine XS.aload X242.here hx rfl (hb hby at_122) rfl rfl ?_
              show Steps p.tables e below (T242.setTop (mkF m 124 #[.val (.int p0s), .val (.long p1s), .second, .val (.long p2s), .second, .val (.long p3s), .second, .val (.int (2 : Int32)), .val (.int k0), .val (.int k1), .val (.int k2), .val (.int z44), .val (.int z45), .val (.int z46), .val (.int z47), .val (.int z48), .val (.int z49), .val (.ref b232), .val (.ref b236), .val (.ref b242), .unset, .unset, .unset, .unset, .unset, .unset, .unset, .unset, .unset] [(.ref b232)])) _
              refine XS.iconst X242.here hx rfl (hb hby at_124) ?_
              show Steps p.tables e below (T242.setTop (mkF m 125 #[.val (.int p0s), .val (.long p1s), .second, .val (.long p2s), .second, .val (.long p3s), .second, .val (.int (2 : Int32)), .val (.int k0), .val (.int k1), .val (.int k2), .val (.int z44), .val (.int z45), .val (.int z46), .val (.int z47), .val (.int z48), .val (.int z49), .val (.ref b232), .val (.ref b236), .val (.ref b242), .unset, .unset, .unset, .unset, .unset, .unset, .unset, .unset, .unset] [(.int (0 : Int32)), (.ref b232)])) _
              refine XS.iload X242.here hx rfl (hb hby at_125) rfl ?_
              exact kg_
            obtain ⟨T250, h250, X250, e250, W250, V250, st250⟩ := own_stI X242 hx hZ e242 (j := (0 : Int32)) F245 (by decide) (by decide) (g := (mkF m 127 #[.val (.int p0s), .val (.long p1s), .second, .val (.long p2s), .second, .val (.long p3s), .second, .val (.int (2 : Int32)), .val (.int k0), .val (.int k1), .val (.int k2), .val (.int z44), .val (.int z45), .val (.int z46), .val (.int z47), .val (.int z48), .val (.int z49), .val (.ref b232), .val (.ref b236), .val (.ref b242), .unset, .unset, .unset, .unset, .unset, .unset, .unset, .unset, .unset] [(.int z44), (.int (0 : Int32)), (.ref b232)])) rfl rfl (hb hby at_127)
            have V250 : own_Arf Z h250 b232 .int 2 (fun i => if i = 0 then (.int z44) else (.int ((fun _ => (0 : Int32)) i))) := V250
            obtain ⟨gf250, hgf250, V250'⟩ := own_nameI (g := (fun _ => (0 : Int32))) V250
            have F251 : own_Arf Z h250 b232 .int 2 (fun i => (.int (gf250 i))) := V250'
            have F252 : own_Arf Z h250 b236 .int 2 (fun i => (.int ((fun _ => (0 : Int32)) i))) := F246.other W250 (Ne.symm ne237)
            have F253 : own_Arf Z h250 b242 .boolean 2 (fun i => (.int ((fun _ => (0 : Int32)) i))) := F248.other W250 (Ne.symm ne243)
            have Zs254 : n0 ≤ h250.size := by rw [W250.size]; exact Zs247
            have N255 := Fr.snoc X250 N0 ge232
            have K256 : Keep h0 h250 [] := K242.wr W250 (Or.inr old232)
            have r250 : own_R p.tables e below F0 (T250.setTop (mkF m 128 #[.val (.int p0s), .val (.long p1s), .second, .val (.long p2s), .second, .val (.long p3s), .second, .val (.int (2 : Int32)), .val (.int k0), .val (.int k1), .val (.int k2), .val (.int z44), .val (.int z45), .val (.int z46), .val (.int z47), .val (.int z48), .val (.int z49), .val (.ref b232), .val (.ref b236), .val (.ref b242), .unset, .unset, .unset, .unset, .unset, .unset, .unset, .unset, .unset] [])) := fun tg_ kg_ => r249 tg_ (st250 tg_ kg_)
            have r257 : own_R p.tables e below F0 (T250.setTop (mkF m 133 #[.val (.int p0s), .val (.long p1s), .second, .val (.long p2s), .second, .val (.long p3s), .second, .val (.int (2 : Int32)), .val (.int k0), .val (.int k1), .val (.int k2), .val (.int z44), .val (.int z45), .val (.int z46), .val (.int z47), .val (.int z48), .val (.int z49), .val (.ref b232), .val (.ref b236), .val (.ref b242), .unset, .unset, .unset, .unset, .unset, .unset, .unset, .unset, .unset] [(.int z45), (.int (0 : Int32)), (.ref b236)])) := fun tg_ kg_ => by
              refine r250 tg_ ?_
              show Steps p.tables e below (T250.setTop (mkF m 128 #[.val (.int p0s), .val (.long p1s), .second, .val (.long p2s), .second, .val (.long p3s), .second, .val (.int (2 : Int32)), .val (.int k0), .val (.int k1), .val (.int k2), .val (.int z44), .val (.int z45), .val (.int z46), .val (.int z47), .val (.int z48), .val (.int z49), .val (.ref b232), .val (.ref b236), .val (.ref b242), .unset, .unset, .unset, .unset, .unset, .unset, .unset, .unset, .unset] [])) _
              refine XS.aload X250.here hx rfl (hb hby at_128) rfl rfl ?_
              show Steps p.tables e below (T250.setTop (mkF m 130 #[.val (.int p0s), .val (.long p1s), .second, .val (.long p2s), .second, .val (.long p3s), .second, .val (.int (2 : Int32)), .val (.int k0), .val (.int k1), .val (.int k2), .val (.int z44), .val (.int z45), .val (.int z46), .val (.int z47), .val (.int z48), .val (.int z49), .val (.ref b232), .val (.ref b236), .val (.ref b242), .unset, .unset, .unset, .unset, .unset, .unset, .unset, .unset, .unset] [(.ref b236)])) _
              refine XS.iconst X250.here hx rfl (hb hby at_130) ?_
              show Steps p.tables e below (T250.setTop (mkF m 131 #[.val (.int p0s), .val (.long p1s), .second, .val (.long p2s), .second, .val (.long p3s), .second, .val (.int (2 : Int32)), .val (.int k0), .val (.int k1), .val (.int k2), .val (.int z44), .val (.int z45), .val (.int z46), .val (.int z47), .val (.int z48), .val (.int z49), .val (.ref b232), .val (.ref b236), .val (.ref b242), .unset, .unset, .unset, .unset, .unset, .unset, .unset, .unset, .unset] [(.int (0 : Int32)), (.ref b236)])) _
              refine XS.iload X250.here hx rfl (hb hby at_131) rfl ?_
              exact kg_
            obtain ⟨T258, h258, X258, e258, W258, V258, st258⟩ := own_stI X250 hx hZ e250 (j := (0 : Int32)) F252 (by decide) (by decide) (g := (mkF m 133 #[.val (.int p0s), .val (.long p1s), .second, .val (.long p2s), .second, .val (.long p3s), .second, .val (.int (2 : Int32)), .val (.int k0), .val (.int k1), .val (.int k2), .val (.int z44), .val (.int z45), .val (.int z46), .val (.int z47), .val (.int z48), .val (.int z49), .val (.ref b232), .val (.ref b236), .val (.ref b242), .unset, .unset, .unset, .unset, .unset, .unset, .unset, .unset, .unset] [(.int z45), (.int (0 : Int32)), (.ref b236)])) rfl rfl (hb hby at_133)
            have V258 : own_Arf Z h258 b236 .int 2 (fun i => if i = 0 then (.int z45) else (.int ((fun _ => (0 : Int32)) i))) := V258
            obtain ⟨gf258, hgf258, V258'⟩ := own_nameI (g := (fun _ => (0 : Int32))) V258
            have F259 : own_Arf Z h258 b232 .int 2 (fun i => (.int (gf250 i))) := F251.other W258 ne237
            have F260 : own_Arf Z h258 b236 .int 2 (fun i => (.int (gf258 i))) := V258'
            have F261 : own_Arf Z h258 b242 .boolean 2 (fun i => (.int ((fun _ => (0 : Int32)) i))) := F253.other W258 (Ne.symm ne244)
            have Zs262 : n0 ≤ h258.size := by rw [W258.size]; exact Zs254
            have N263 := Fr.snoc X258 N255 ge236
            have K264 : Keep h0 h258 [] := K256.wr W258 (Or.inr old236)
            have r258 : own_R p.tables e below F0 (T258.setTop (mkF m 134 #[.val (.int p0s), .val (.long p1s), .second, .val (.long p2s), .second, .val (.long p3s), .second, .val (.int (2 : Int32)), .val (.int k0), .val (.int k1), .val (.int k2), .val (.int z44), .val (.int z45), .val (.int z46), .val (.int z47), .val (.int z48), .val (.int z49), .val (.ref b232), .val (.ref b236), .val (.ref b242), .unset, .unset, .unset, .unset, .unset, .unset, .unset, .unset, .unset] [])) := fun tg_ kg_ => r257 tg_ (st258 tg_ kg_)
            have r265 : own_R p.tables e below F0 (T258.setTop (mkF m 139 #[.val (.int p0s), .val (.long p1s), .second, .val (.long p2s), .second, .val (.long p3s), .second, .val (.int (2 : Int32)), .val (.int k0), .val (.int k1), .val (.int k2), .val (.int z44), .val (.int z45), .val (.int z46), .val (.int z47), .val (.int z48), .val (.int z49), .val (.ref b232), .val (.ref b236), .val (.ref b242), .unset, .unset, .unset, .unset, .unset, .unset, .unset, .unset, .unset] [(.int k0), (.int (0 : Int32)), (.ref b242)])) := fun tg_ kg_ => by
              refine r258 tg_ ?_
              show Steps p.tables e below (T258.setTop (mkF m 134 #[.val (.int p0s), .val (.long p1s), .second, .val (.long p2s), .second, .val (.long p3s), .second, .val (.int (2 : Int32)), .val (.int k0), .val (.int k1), .val (.int k2), .val (.int z44), .val (.int z45), .val (.int z46), .val (.int z47), .val (.int z48), .val (.int z49), .val (.ref b232), .val (.ref b236), .val (.ref b242), .unset, .unset, .unset, .unset, .unset, .unset, .unset, .unset, .unset] [])) _
              refine XS.aload X258.here hx rfl (hb hby at_134) rfl rfl ?_
              show Steps p.tables e below (T258.setTop (mkF m 136 #[.val (.int p0s), .val (.long p1s), .second, .val (.long p2s), .second, .val (.long p3s), .second, .val (.int (2 : Int32)), .val (.int k0), .val (.int k1), .val (.int k2), .val (.int z44), .val (.int z45), .val (.int z46), .val (.int z47), .val (.int z48), .val (.int z49), .val (.ref b232), .val (.ref b236), .val (.ref b242), .unset, .unset, .unset, .unset, .unset, .unset, .unset, .unset, .unset] [(.ref b242)])) _
              refine XS.iconst X258.here hx rfl (hb hby at_136) ?_
              show Steps p.tables e below (T258.setTop (mkF m 137 #[.val (.int p0s), .val (.long p1s), .second, .val (.long p2s), .second, .val (.long p3s), .second, .val (.int (2 : Int32)), .val (.int k0), .val (.int k1), .val (.int k2), .val (.int z44), .val (.int z45), .val (.int z46), .val (.int z47), .val (.int z48), .val (.int z49), .val (.ref b232), .val (.ref b236), .val (.ref b242), .unset, .unset, .unset, .unset, .unset, .unset, .unset, .unset, .unset] [(.int (0 : Int32)), (.ref b242)])) _
              refine XS.iload X258.here hx rfl (hb hby at_137) rfl ?_
              exact kg_
            obtain ⟨T266, h266, X266, e266, W266, V266, st266⟩ := own_stZ X258 hx hZ e258 (j := (0 : Int32)) F261 (by decide) (by decide) (g := (mkF m 139 #[.val (.int p0s), .val (.long p1s), .second, .val (.long p2s), .second, .val (.long p3s), .second, .val (.int (2 : Int32)), .val (.int k0), .val (.int k1), .val (.int k2), .val (.int z44), .val (.int z45), .val (.int z46), .val (.int z47), .val (.int z48), .val (.int z49), .val (.ref b232), .val (.ref b236), .val (.ref b242), .unset, .unset, .unset, .unset, .unset, .unset, .unset, .unset, .unset] [(.int k0), (.int (0 : Int32)), (.ref b242)])) rfl rfl (hb hby at_139)
            have V266 : own_Arf Z h266 b242 .boolean 2 (fun i => if i = 0 then (.int (nar .boolean k0)) else (.int ((fun _ => (0 : Int32)) i))) := V266
            obtain ⟨gf266, hgf266, V266'⟩ := own_nameI (g := (fun _ => (0 : Int32))) V266
            have F267 : own_Arf Z h266 b232 .int 2 (fun i => (.int (gf250 i))) := F259.other W266 ne243
            have F268 : own_Arf Z h266 b236 .int 2 (fun i => (.int (gf258 i))) := F260.other W266 ne244
            have F269 : own_Arf Z h266 b242 .boolean 2 (fun i => (.int (gf266 i))) := V266'
            have Zs270 : n0 ≤ h266.size := by rw [W266.size]; exact Zs262
            have N271 := Fr.snoc X266 N263 ge242
            have K272 : Keep h0 h266 [] := K264.wr W266 (Or.inr old242)
            have r266 : own_R p.tables e below F0 (T266.setTop (mkF m 140 #[.val (.int p0s), .val (.long p1s), .second, .val (.long p2s), .second, .val (.long p3s), .second, .val (.int (2 : Int32)), .val (.int k0), .val (.int k1), .val (.int k2), .val (.int z44), .val (.int z45), .val (.int z46), .val (.int z47), .val (.int z48), .val (.int z49), .val (.ref b232), .val (.ref b236), .val (.ref b242), .unset, .unset, .unset, .unset, .unset, .unset, .unset, .unset, .unset] [])) := fun tg_ kg_ => r265 tg_ (st266 tg_ kg_)
            have r273 : own_R p.tables e below F0 (T266.setTop (mkF m 151 #[.val (.int p0s), .val (.long p1s), .second, .val (.long p2s), .second, .val (.long p3s), .second, .val (.int (2 : Int32)), .val (.int k0), .val (.int k1), .val (.int k2), .val (.int z44), .val (.int z45), .val (.int z46), .val (.int z47), .val (.int z48), .val (.int z49), .val (.ref b232), .val (.ref b236), .val (.ref b242), .unset, .unset, .unset, .unset, .unset, .unset, .unset, .unset, .unset] [(.int z46), (.int (1 : Int32)), (.ref b232)])) := fun tg_ kg_ => by
              refine r266 tg_ ?_
              show Steps p.tables e below (T266.setTop (mkF m 140 #[.val (.int p0s), .val (.long p1s), .second, .val (.long p2s), .second, .val (.long p3s), .second, .val (.int (2 : Int32)), .val (.int k0), .val (.int k1), .val (.int k2), .val (.int z44), .val (.int z45), .val (.int z46), .val (.int z47), .val (.int z48), .val (.int z49), .val (.ref b232), .val (.ref b236), .val (.ref b242), .unset, .unset, .unset, .unset, .unset, .unset, .unset, .unset, .unset] [])) _
              refine XS.iload X266.here hx rfl (hb hby at_140) rfl ?_
              show Steps p.tables e below (T266.setTop (mkF m 142 #[.val (.int p0s), .val (.long p1s), .second, .val (.long p2s), .second, .val (.long p3s), .second, .val (.int (2 : Int32)), .val (.int k0), .val (.int k1), .val (.int k2), .val (.int z44), .val (.int z45), .val (.int z46), .val (.int z47), .val (.int z48), .val (.int z49), .val (.ref b232), .val (.ref b236), .val (.ref b242), .unset, .unset, .unset, .unset, .unset, .unset, .unset, .unset, .unset] [(.int (2 : Int32))])) _
              refine XS.iconst X266.here hx rfl (hb hby at_142) ?_
              show Steps p.tables e below (T266.setTop (mkF m 143 #[.val (.int p0s), .val (.long p1s), .second, .val (.long p2s), .second, .val (.long p3s), .second, .val (.int (2 : Int32)), .val (.int k0), .val (.int k1), .val (.int k2), .val (.int z44), .val (.int z45), .val (.int z46), .val (.int z47), .val (.int z48), .val (.int z49), .val (.ref b232), .val (.ref b236), .val (.ref b242), .unset, .unset, .unset, .unset, .unset, .unset, .unset, .unset, .unset] [(.int (1 : Int32)), (.int (2 : Int32))])) _
              refine XS.icmpNo X266.here hx rfl (hb hby at_143) rfl (tlt (show (1 : Int32) < (2 : Int32) from by decide)).2.2.2 ?_
              show Steps p.tables e below (T266.setTop (mkF m 146 #[.val (.int p0s), .val (.long p1s), .second, .val (.long p2s), .second, .val (.long p3s), .second, .val (.int (2 : Int32)), .val (.int k0), .val (.int k1), .val (.int k2), .val (.int z44), .val (.int z45), .val (.int z46), .val (.int z47), .val (.int z48), .val (.int z49), .val (.ref b232), .val (.ref b236), .val (.ref b242), .unset, .unset, .unset, .unset, .unset, .unset, .unset, .unset, .unset] [])) _
              refine XS.aload X266.here hx rfl (hb hby at_146) rfl rfl ?_
              show Steps p.tables e below (T266.setTop (mkF m 148 #[.val (.int p0s), .val (.long p1s), .second, .val (.long p2s), .second, .val (.long p3s), .second, .val (.int (2 : Int32)), .val (.int k0), .val (.int k1), .val (.int k2), .val (.int z44), .val (.int z45), .val (.int z46), .val (.int z47), .val (.int z48), .val (.int z49), .val (.ref b232), .val (.ref b236), .val (.ref b242), .unset, .unset, .unset, .unset, .unset, .unset, .unset, .unset, .unset] [(.ref b232)])) _
              refine XS.iconst X266.here hx rfl (hb hby at_148) ?_
              show Steps p.tables e below (T266.setTop (mkF m 149 #[.val (.int p0s), .val (.long p1s), .second, .val (.long p2s), .second, .val (.long p3s), .second, .val (.int (2 : Int32)), .val (.int k0), .val (.int k1), .val (.int k2), .val (.int z44), .val (.int z45), .val (.int z46), .val (.int z47), .val (.int z48), .val (.int z49), .val (.ref b232), .val (.ref b236), .val (.ref b242), .unset, .unset, .unset, .unset, .unset, .unset, .unset, .unset, .unset] [(.int (1 : Int32)), (.ref b232)])) _
              refine XS.iload X266.here hx rfl (hb hby at_149) rfl ?_
              exact kg_
            obtain ⟨T274, h274, X274, e274, W274, V274, st274⟩ := own_stI X266 hx hZ e266 (j := (1 : Int32)) F267 (by decide) (by decide) (g := (mkF m 151 #[.val (.int p0s), .val (.long p1s), .second, .val (.long p2s), .second, .val (.long p3s), .second, .val (.int (2 : Int32)), .val (.int k0), .val (.int k1), .val (.int k2), .val (.int z44), .val (.int z45), .val (.int z46), .val (.int z47), .val (.int z48), .val (.int z49), .val (.ref b232), .val (.ref b236), .val (.ref b242), .unset, .unset, .unset, .unset, .unset, .unset, .unset, .unset, .unset] [(.int z46), (.int (1 : Int32)), (.ref b232)])) rfl rfl (hb hby at_151)
            have V274 : own_Arf Z h274 b232 .int 2 (fun i => if i = 1 then (.int z46) else (.int (gf250 i))) := V274
            obtain ⟨gf274, hgf274, V274'⟩ := own_nameI (g := gf250) V274
            have F275 : own_Arf Z h274 b232 .int 2 (fun i => (.int (gf274 i))) := V274'
            have F276 : own_Arf Z h274 b236 .int 2 (fun i => (.int (gf258 i))) := F268.other W274 (Ne.symm ne237)
            have F277 : own_Arf Z h274 b242 .boolean 2 (fun i => (.int (gf266 i))) := F269.other W274 (Ne.symm ne243)
            have Zs278 : n0 ≤ h274.size := by rw [W274.size]; exact Zs270
            have N279 := Fr.snoc X274 N271 ge232
            have K280 : Keep h0 h274 [] := K272.wr W274 (Or.inr old232)
            have r274 : own_R p.tables e below F0 (T274.setTop (mkF m 152 #[.val (.int p0s), .val (.long p1s), .second, .val (.long p2s), .second, .val (.long p3s), .second, .val (.int (2 : Int32)), .val (.int k0), .val (.int k1), .val (.int k2), .val (.int z44), .val (.int z45), .val (.int z46), .val (.int z47), .val (.int z48), .val (.int z49), .val (.ref b232), .val (.ref b236), .val (.ref b242), .unset, .unset, .unset, .unset, .unset, .unset, .unset, .unset, .unset] [])) := fun tg_ kg_ => r273 tg_ (st274 tg_ kg_)
            have r281 : own_R p.tables e below F0 (T274.setTop (mkF m 157 #[.val (.int p0s), .val (.long p1s), .second, .val (.long p2s), .second, .val (.long p3s), .second, .val (.int (2 : Int32)), .val (.int k0), .val (.int k1), .val (.int k2), .val (.int z44), .val (.int z45), .val (.int z46), .val (.int z47), .val (.int z48), .val (.int z49), .val (.ref b232), .val (.ref b236), .val (.ref b242), .unset, .unset, .unset, .unset, .unset, .unset, .unset, .unset, .unset] [(.int z47), (.int (1 : Int32)), (.ref b236)])) := fun tg_ kg_ => by
              refine r274 tg_ ?_
              show Steps p.tables e below (T274.setTop (mkF m 152 #[.val (.int p0s), .val (.long p1s), .second, .val (.long p2s), .second, .val (.long p3s), .second, .val (.int (2 : Int32)), .val (.int k0), .val (.int k1), .val (.int k2), .val (.int z44), .val (.int z45), .val (.int z46), .val (.int z47), .val (.int z48), .val (.int z49), .val (.ref b232), .val (.ref b236), .val (.ref b242), .unset, .unset, .unset, .unset, .unset, .unset, .unset, .unset, .unset] [])) _
              refine XS.aload X274.here hx rfl (hb hby at_152) rfl rfl ?_
              show Steps p.tables e below (T274.setTop (mkF m 154 #[.val (.int p0s), .val (.long p1s), .second, .val (.long p2s), .second, .val (.long p3s), .second, .val (.int (2 : Int32)), .val (.int k0), .val (.int k1), .val (.int k2), .val (.int z44), .val (.int z45), .val (.int z46), .val (.int z47), .val (.int z48), .val (.int z49), .val (.ref b232), .val (.ref b236), .val (.ref b242), .unset, .unset, .unset, .unset, .unset, .unset, .unset, .unset, .unset] [(.ref b236)])) _
              refine XS.iconst X274.here hx rfl (hb hby at_154) ?_
              show Steps p.tables e below (T274.setTop (mkF m 155 #[.val (.int p0s), .val (.long p1s), .second, .val (.long p2s), .second, .val (.long p3s), .second, .val (.int (2 : Int32)), .val (.int k0), .val (.int k1), .val (.int k2), .val (.int z44), .val (.int z45), .val (.int z46), .val (.int z47), .val (.int z48), .val (.int z49), .val (.ref b232), .val (.ref b236), .val (.ref b242), .unset, .unset, .unset, .unset, .unset, .unset, .unset, .unset, .unset] [(.int (1 : Int32)), (.ref b236)])) _
              refine XS.iload X274.here hx rfl (hb hby at_155) rfl ?_
              exact kg_
            obtain ⟨T282, h282, X282, e282, W282, V282, st282⟩ := own_stI X274 hx hZ e274 (j := (1 : Int32)) F276 (by decide) (by decide) (g := (mkF m 157 #[.val (.int p0s), .val (.long p1s), .second, .val (.long p2s), .second, .val (.long p3s), .second, .val (.int (2 : Int32)), .val (.int k0), .val (.int k1), .val (.int k2), .val (.int z44), .val (.int z45), .val (.int z46), .val (.int z47), .val (.int z48), .val (.int z49), .val (.ref b232), .val (.ref b236), .val (.ref b242), .unset, .unset, .unset, .unset, .unset, .unset, .unset, .unset, .unset] [(.int z47), (.int (1 : Int32)), (.ref b236)])) rfl rfl (hb hby at_157)
            have V282 : own_Arf Z h282 b236 .int 2 (fun i => if i = 1 then (.int z47) else (.int (gf258 i))) := V282
            obtain ⟨gf282, hgf282, V282'⟩ := own_nameI (g := gf258) V282
            have F283 : own_Arf Z h282 b232 .int 2 (fun i => (.int (gf274 i))) := F275.other W282 ne237
            have F284 : own_Arf Z h282 b236 .int 2 (fun i => (.int (gf282 i))) := V282'
            have F285 : own_Arf Z h282 b242 .boolean 2 (fun i => (.int (gf266 i))) := F277.other W282 (Ne.symm ne244)
            have Zs286 : n0 ≤ h282.size := by rw [W282.size]; exact Zs278
            have N287 := Fr.snoc X282 N279 ge236
            have K288 : Keep h0 h282 [] := K280.wr W282 (Or.inr old236)
            have r282 : own_R p.tables e below F0 (T282.setTop (mkF m 158 #[.val (.int p0s), .val (.long p1s), .second, .val (.long p2s), .second, .val (.long p3s), .second, .val (.int (2 : Int32)), .val (.int k0), .val (.int k1), .val (.int k2), .val (.int z44), .val (.int z45), .val (.int z46), .val (.int z47), .val (.int z48), .val (.int z49), .val (.ref b232), .val (.ref b236), .val (.ref b242), .unset, .unset, .unset, .unset, .unset, .unset, .unset, .unset, .unset] [])) := fun tg_ kg_ => r281 tg_ (st282 tg_ kg_)
            have r289 : own_R p.tables e below F0 (T282.setTop (mkF m 163 #[.val (.int p0s), .val (.long p1s), .second, .val (.long p2s), .second, .val (.long p3s), .second, .val (.int (2 : Int32)), .val (.int k0), .val (.int k1), .val (.int k2), .val (.int z44), .val (.int z45), .val (.int z46), .val (.int z47), .val (.int z48), .val (.int z49), .val (.ref b232), .val (.ref b236), .val (.ref b242), .unset, .unset, .unset, .unset, .unset, .unset, .unset, .unset, .unset] [(.int k1), (.int (1 : Int32)), (.ref b242)])) := fun tg_ kg_ => by
              refine r282 tg_ ?_
              show Steps p.tables e below (T282.setTop (mkF m 158 #[.val (.int p0s), .val (.long p1s), .second, .val (.long p2s), .second, .val (.long p3s), .second, .val (.int (2 : Int32)), .val (.int k0), .val (.int k1), .val (.int k2), .val (.int z44), .val (.int z45), .val (.int z46), .val (.int z47), .val (.int z48), .val (.int z49), .val (.ref b232), .val (.ref b236), .val (.ref b242), .unset, .unset, .unset, .unset, .unset, .unset, .unset, .unset, .unset] [])) _
              refine XS.aload X282.here hx rfl (hb hby at_158) rfl rfl ?_
              show Steps p.tables e below (T282.setTop (mkF m 160 #[.val (.int p0s), .val (.long p1s), .second, .val (.long p2s), .second, .val (.long p3s), .second, .val (.int (2 : Int32)), .val (.int k0), .val (.int k1), .val (.int k2), .val (.int z44), .val (.int z45), .val (.int z46), .val (.int z47), .val (.int z48), .val (.int z49), .val (.ref b232), .val (.ref b236), .val (.ref b242), .unset, .unset, .unset, .unset, .unset, .unset, .unset, .unset, .unset] [(.ref b242)])) _
              refine XS.iconst X282.here hx rfl (hb hby at_160) ?_
              show Steps p.tables e below (T282.setTop (mkF m 161 #[.val (.int p0s), .val (.long p1s), .second, .val (.long p2s), .second, .val (.long p3s), .second, .val (.int (2 : Int32)), .val (.int k0), .val (.int k1), .val (.int k2), .val (.int z44), .val (.int z45), .val (.int z46), .val (.int z47), .val (.int z48), .val (.int z49), .val (.ref b232), .val (.ref b236), .val (.ref b242), .unset, .unset, .unset, .unset, .unset, .unset, .unset, .unset, .unset] [(.int (1 : Int32)), (.ref b242)])) _
              refine XS.iload X282.here hx rfl (hb hby at_161) rfl ?_
              exact kg_
            obtain ⟨T290, h290, X290, e290, W290, V290, st290⟩ := own_stZ X282 hx hZ e282 (j := (1 : Int32)) F285 (by decide) (by decide) (g := (mkF m 163 #[.val (.int p0s), .val (.long p1s), .second, .val (.long p2s), .second, .val (.long p3s), .second, .val (.int (2 : Int32)), .val (.int k0), .val (.int k1), .val (.int k2), .val (.int z44), .val (.int z45), .val (.int z46), .val (.int z47), .val (.int z48), .val (.int z49), .val (.ref b232), .val (.ref b236), .val (.ref b242), .unset, .unset, .unset, .unset, .unset, .unset, .unset, .unset, .unset] [(.int k1), (.int (1 : Int32)), (.ref b242)])) rfl rfl (hb hby at_163)
            have V290 : own_Arf Z h290 b242 .boolean 2 (fun i => if i = 1 then (.int (nar .boolean k1)) else (.int (gf266 i))) := V290
            obtain ⟨gf290, hgf290, V290'⟩ := own_nameI (g := gf266) V290
            have F291 : own_Arf Z h290 b232 .int 2 (fun i => (.int (gf274 i))) := F283.other W290 ne243
            have F292 : own_Arf Z h290 b236 .int 2 (fun i => (.int (gf282 i))) := F284.other W290 ne244
            have F293 : own_Arf Z h290 b242 .boolean 2 (fun i => (.int (gf290 i))) := V290'
            have Zs294 : n0 ≤ h290.size := by rw [W290.size]; exact Zs286
            have N295 := Fr.snoc X290 N287 ge242
            have K296 : Keep h0 h290 [] := K288.wr W290 (Or.inr old242)
            have r290 : own_R p.tables e below F0 (T290.setTop (mkF m 164 #[.val (.int p0s), .val (.long p1s), .second, .val (.long p2s), .second, .val (.long p3s), .second, .val (.int (2 : Int32)), .val (.int k0), .val (.int k1), .val (.int k2), .val (.int z44), .val (.int z45), .val (.int z46), .val (.int z47), .val (.int z48), .val (.int z49), .val (.ref b232), .val (.ref b236), .val (.ref b242), .unset, .unset, .unset, .unset, .unset, .unset, .unset, .unset, .unset] [])) := fun tg_ kg_ => r289 tg_ (st290 tg_ kg_)
            have r297 : own_R p.tables e below F0 (T290.setTop (mkF m 188 #[.val (.int p0s), .val (.long p1s), .second, .val (.long p2s), .second, .val (.long p3s), .second, .val (.int (2 : Int32)), .val (.int k0), .val (.int k1), .val (.int k2), .val (.int z44), .val (.int z45), .val (.int z46), .val (.int z47), .val (.int z48), .val (.int z49), .val (.ref b232), .val (.ref b236), .val (.ref b242), .unset, .unset, .unset, .unset, .unset, .unset, .unset, .unset, .unset] [])) := fun tg_ kg_ => by
              refine r290 tg_ ?_
              show Steps p.tables e below (T290.setTop (mkF m 164 #[.val (.int p0s), .val (.long p1s), .second, .val (.long p2s), .second, .val (.long p3s), .second, .val (.int (2 : Int32)), .val (.int k0), .val (.int k1), .val (.int k2), .val (.int z44), .val (.int z45), .val (.int z46), .val (.int z47), .val (.int z48), .val (.int z49), .val (.ref b232), .val (.ref b236), .val (.ref b242), .unset, .unset, .unset, .unset, .unset, .unset, .unset, .unset, .unset] [])) _
              refine XS.iload X290.here hx rfl (hb hby at_164) rfl ?_
              show Steps p.tables e below (T290.setTop (mkF m 166 #[.val (.int p0s), .val (.long p1s), .second, .val (.long p2s), .second, .val (.long p3s), .second, .val (.int (2 : Int32)), .val (.int k0), .val (.int k1), .val (.int k2), .val (.int z44), .val (.int z45), .val (.int z46), .val (.int z47), .val (.int z48), .val (.int z49), .val (.ref b232), .val (.ref b236), .val (.ref b242), .unset, .unset, .unset, .unset, .unset, .unset, .unset, .unset, .unset] [(.int (2 : Int32))])) _
              refine XS.iconst X290.here hx rfl (hb hby at_166) ?_
              show Steps p.tables e below (T290.setTop (mkF m 167 #[.val (.int p0s), .val (.long p1s), .second, .val (.long p2s), .second, .val (.long p3s), .second, .val (.int (2 : Int32)), .val (.int k0), .val (.int k1), .val (.int k2), .val (.int z44), .val (.int z45), .val (.int z46), .val (.int z47), .val (.int z48), .val (.int z49), .val (.ref b232), .val (.ref b236), .val (.ref b242), .unset, .unset, .unset, .unset, .unset, .unset, .unset, .unset, .unset] [(.int (2 : Int32)), (.int (2 : Int32))])) _
              refine XS.icmpYes X290.here hx rfl (pc0 := 167) (pc' := 188) rfl (hb hby at_167) rfl (flt (show ¬ ((2 : Int32) < (2 : Int32)) from by decide)).2.2.2 (by decide) (by decide) ?_
              exact kg_
            exact J51 (2 : Int32) b232 b236 b242 2 gf274 gf282 gf290 T290 _ _ (own_mono X290 (by decide) (by decide)) e290 N295 Zs294 K296 F291 F292 F293 (by decide) (by decide) ⟨fun _ => ⟨(by rw [hgf274, if_neg (by decide), hgf250, if_pos rfl]), (by rw [hgf282, if_neg (by decide), hgf258, if_pos rfl]), (congrArg Int32.toInt (by rw [hgf290, if_neg (by decide), hgf266, if_pos rfl])).trans (own_narB hk0)⟩, fun _ => ⟨(by rw [hgf274, if_pos rfl]), (by rw [hgf282, if_pos rfl]), (congrArg Int32.toInt (by rw [hgf290, if_pos rfl])).trans (own_narB hk1)⟩, fun q => absurd q (by decide)⟩ r297
          · have r298 : own_R p.tables e below F0 (s₁.setTop (mkF m 99 #[.val (.int p0s), .val (.long p1s), .second, .val (.long p2s), .second, .val (.long p3s), .second, .val (.int (3 : Int32)), .val (.int k0), .val (.int k1), .val (.int k2), .val (.int z44), .val (.int z45), .val (.int z46), .val (.int z47), .val (.int z48), .val (.int z49), .unset, .unset, .unset, .unset, .unset, .unset, .unset, .unset, .unset, .unset, .unset, .unset] [])) := by rw [← hn4]; exact r50
            have r299 : own_R p.tables e below F0 (s₁.setTop (mkF m 101 #[.val (.int p0s), .val (.long p1s), .second, .val (.long p2s), .second, .val (.long p3s), .second, .val (.int (3 : Int32)), .val (.int k0), .val (.int k1), .val (.int k2), .val (.int z44), .val (.int z45), .val (.int z46), .val (.int z47), .val (.int z48), .val (.int z49), .unset, .unset, .unset, .unset, .unset, .unset, .unset, .unset, .unset, .unset, .unset, .unset] [(.int (3 : Int32))])) := fun tg_ kg_ => by
              refine r298 tg_ ?_
              show Steps p.tables e below (s₁.setTop (mkF m 99 #[.val (.int p0s), .val (.long p1s), .second, .val (.long p2s), .second, .val (.long p3s), .second, .val (.int (3 : Int32)), .val (.int k0), .val (.int k1), .val (.int k2), .val (.int z44), .val (.int z45), .val (.int z46), .val (.int z47), .val (.int z48), .val (.int z49), .unset, .unset, .unset, .unset, .unset, .unset, .unset, .unset, .unset, .unset, .unset, .unset] [])) _
              refine XS.iload X0.here hx rfl (hb hby at_99) rfl ?_
              exact kg_
            obtain ⟨T300, h300, k300, X300, e300, E300, A300, st300⟩ := newP X0 hx hZ (hw _ (List.mem_of_getElem? (i := 1) rfl)) e0 (g := (mkF m 101 #[.val (.int p0s), .val (.long p1s), .second, .val (.long p2s), .second, .val (.long p3s), .second, .val (.int (3 : Int32)), .val (.int k0), .val (.int k1), .val (.int k2), .val (.int z44), .val (.int z45), .val (.int z46), .val (.int z47), .val (.int z48), .val (.int z49), .unset, .unset, .unset, .unset, .unset, .unset, .unset, .unset, .unset, .unset, .unset, .unset] [(.int (3 : Int32))])) rfl (hb hby at_101) rfl (by decide) (cap := 3) (by decide) (by decide) (by decide) (by decide)
            obtain ⟨b300, g300⟩ : ∃ z, z = h0.size := ⟨_, rfl⟩
            rw [← g300] at A300 st300
            have ge300 : n0 ≤ b300 := Nat.le_trans Z0 (Nat.le_of_eq g300.symm)
            have old300 : h0.size ≤ b300 := Nat.le_trans K0.1 (Nat.le_of_eq g300.symm)
            have K300 : Keep h0 h300 [] := K0.ext E300
            have Zs301 : n0 ≤ h300.size := Nat.le_trans Z0 E300.1
            have F302 : own_Arf Z h300 b300 .int 3 (fun i => (.int ((fun _ => (0 : Int32)) i))) := by
              have q := own_Arf.new A300 (by decide)
              rw [show ((3 : Int32)).toNatClampNeg = 3 from rfl] at q
              exact q
            have r300 : own_R p.tables e below F0 (T300.setTop (mkF m 103 #[.val (.int p0s), .val (.long p1s), .second, .val (.long p2s), .second, .val (.long p3s), .second, .val (.int (3 : Int32)), .val (.int k0), .val (.int k1), .val (.int k2), .val (.int z44), .val (.int z45), .val (.int z46), .val (.int z47), .val (.int z48), .val (.int z49), .unset, .unset, .unset, .unset, .unset, .unset, .unset, .unset, .unset, .unset, .unset, .unset] [(.ref b300)])) := fun tg_ kg_ => r299 tg_ (st300 tg_ kg_)
            have r303 : own_R p.tables e below F0 (T300.setTop (mkF m 107 #[.val (.int p0s), .val (.long p1s), .second, .val (.long p2s), .second, .val (.long p3s), .second, .val (.int (3 : Int32)), .val (.int k0), .val (.int k1), .val (.int k2), .val (.int z44), .val (.int z45), .val (.int z46), .val (.int z47), .val (.int z48), .val (.int z49), .val (.ref b300), .unset, .unset, .unset, .unset, .unset, .unset, .unset, .unset, .unset, .unset, .unset] [(.int (3 : Int32))])) := fun tg_ kg_ => by
              refine r300 tg_ ?_
              show Steps p.tables e below (T300.setTop (mkF m 103 #[.val (.int p0s), .val (.long p1s), .second, .val (.long p2s), .second, .val (.long p3s), .second, .val (.int (3 : Int32)), .val (.int k0), .val (.int k1), .val (.int k2), .val (.int z44), .val (.int z45), .val (.int z46), .val (.int z47), .val (.int z48), .val (.int z49), .unset, .unset, .unset, .unset, .unset, .unset, .unset, .unset, .unset, .unset, .unset, .unset] [(.ref b300)])) _
              refine XS.astore X300.here hx rfl (hb hby at_103) rfl rfl (l' := #[.val (.int p0s), .val (.long p1s), .second, .val (.long p2s), .second, .val (.long p3s), .second, .val (.int (3 : Int32)), .val (.int k0), .val (.int k1), .val (.int k2), .val (.int z44), .val (.int z45), .val (.int z46), .val (.int z47), .val (.int z48), .val (.int z49), .val (.ref b300), .unset, .unset, .unset, .unset, .unset, .unset, .unset, .unset, .unset, .unset, .unset]) rfl ?_
              show Steps p.tables e below (T300.setTop (mkF m 105 #[.val (.int p0s), .val (.long p1s), .second, .val (.long p2s), .second, .val (.long p3s), .second, .val (.int (3 : Int32)), .val (.int k0), .val (.int k1), .val (.int k2), .val (.int z44), .val (.int z45), .val (.int z46), .val (.int z47), .val (.int z48), .val (.int z49), .val (.ref b300), .unset, .unset, .unset, .unset, .unset, .unset, .unset, .unset, .unset, .unset, .unset] [])) _
              refine XS.iload X300.here hx rfl (hb hby at_105) rfl ?_
              exact kg_
            obtain ⟨T304, h304, k304, X304, e304, E304, A304, st304⟩ := newP X300 hx hZ (hw _ (List.mem_of_getElem? (i := 1) rfl)) e300 (g := (mkF m 107 #[.val (.int p0s), .val (.long p1s), .second, .val (.long p2s), .second, .val (.long p3s), .second, .val (.int (3 : Int32)), .val (.int k0), .val (.int k1), .val (.int k2), .val (.int z44), .val (.int z45), .val (.int z46), .val (.int z47), .val (.int z48), .val (.int z49), .val (.ref b300), .unset, .unset, .unset, .unset, .unset, .unset, .unset, .unset, .unset, .unset, .unset] [(.int (3 : Int32))])) rfl (hb hby at_107) rfl (by decide) (cap := 3) (by decide) (by decide) (by decide) (by decide)
            obtain ⟨b304, g304⟩ : ∃ z, z = h300.size := ⟨_, rfl⟩
            rw [← g304] at A304 st304
            have ne305 : b300 ≠ b304 := Nat.ne_of_lt (Nat.lt_of_lt_of_le F302.lt (Nat.le_of_eq g304.symm))
            have ge304 : n0 ≤ b304 := Nat.le_trans Zs301 (Nat.le_of_eq g304.symm)
            have old304 : h0.size ≤ b304 := Nat.le_trans K300.1 (Nat.le_of_eq g304.symm)
            have K304 : Keep h0 h304 [] := K300.ext E304
            have F306 : own_Arf Z h304 b300 .int 3 (fun i => (.int ((fun _ => (0 : Int32)) i))) := F302.ext E304
            have Zs307 : n0 ≤ h304.size := Nat.le_trans Zs301 E304.1
            have F308 : own_Arf Z h304 b304 .int 3 (fun i => (.int ((fun _ => (0 : Int32)) i))) := by
              have q := own_Arf.new A304 (by decide)
              rw [show ((3 : Int32)).toNatClampNeg = 3 from rfl] at q
              exact q
            have r304 : own_R p.tables e below F0 (T304.setTop (mkF m 109 #[.val (.int p0s), .val (.long p1s), .second, .val (.long p2s), .second, .val (.long p3s), .second, .val (.int (3 : Int32)), .val (.int k0), .val (.int k1), .val (.int k2), .val (.int z44), .val (.int z45), .val (.int z46), .val (.int z47), .val (.int z48), .val (.int z49), .val (.ref b300), .unset, .unset, .unset, .unset, .unset, .unset, .unset, .unset, .unset, .unset, .unset] [(.ref b304)])) := fun tg_ kg_ => r303 tg_ (st304 tg_ kg_)
            have r309 : own_R p.tables e below F0 (T304.setTop (mkF m 113 #[.val (.int p0s), .val (.long p1s), .second, .val (.long p2s), .second, .val (.long p3s), .second, .val (.int (3 : Int32)), .val (.int k0), .val (.int k1), .val (.int k2), .val (.int z44), .val (.int z45), .val (.int z46), .val (.int z47), .val (.int z48), .val (.int z49), .val (.ref b300), .val (.ref b304), .unset, .unset, .unset, .unset, .unset, .unset, .unset, .unset, .unset, .unset] [(.int (3 : Int32))])) := fun tg_ kg_ => by
              refine r304 tg_ ?_
              show Steps p.tables e below (T304.setTop (mkF m 109 #[.val (.int p0s), .val (.long p1s), .second, .val (.long p2s), .second, .val (.long p3s), .second, .val (.int (3 : Int32)), .val (.int k0), .val (.int k1), .val (.int k2), .val (.int z44), .val (.int z45), .val (.int z46), .val (.int z47), .val (.int z48), .val (.int z49), .val (.ref b300), .unset, .unset, .unset, .unset, .unset, .unset, .unset, .unset, .unset, .unset, .unset] [(.ref b304)])) _
              refine XS.astore X304.here hx rfl (hb hby at_109) rfl rfl (l' := #[.val (.int p0s), .val (.long p1s), .second, .val (.long p2s), .second, .val (.long p3s), .second, .val (.int (3 : Int32)), .val (.int k0), .val (.int k1), .val (.int k2), .val (.int z44), .val (.int z45), .val (.int z46), .val (.int z47), .val (.int z48), .val (.int z49), .val (.ref b300), .val (.ref b304), .unset, .unset, .unset, .unset, .unset, .unset, .unset, .unset, .unset, .unset]) rfl ?_
              show Steps p.tables e below (T304.setTop (mkF m 111 #[.val (.int p0s), .val (.long p1s), .second, .val (.long p2s), .second, .val (.long p3s), .second, .val (.int (3 : Int32)), .val (.int k0), .val (.int k1), .val (.int k2), .val (.int z44), .val (.int z45), .val (.int z46), .val (.int z47), .val (.int z48), .val (.int z49), .val (.ref b300), .val (.ref b304), .unset, .unset, .unset, .unset, .unset, .unset, .unset, .unset, .unset, .unset] [])) _
              refine XS.iload X304.here hx rfl (hb hby at_111) rfl ?_
              exact kg_
            obtain ⟨T310, h310, k310, X310, e310, E310, A310, st310⟩ := newP X304 hx hZ (hw _ (List.mem_of_getElem? (i := 2) rfl)) e304 (g := (mkF m 113 #[.val (.int p0s), .val (.long p1s), .second, .val (.long p2s), .second, .val (.long p3s), .second, .val (.int (3 : Int32)), .val (.int k0), .val (.int k1), .val (.int k2), .val (.int z44), .val (.int z45), .val (.int z46), .val (.int z47), .val (.int z48), .val (.int z49), .val (.ref b300), .val (.ref b304), .unset, .unset, .unset, .unset, .unset, .unset, .unset, .unset, .unset, .unset] [(.int (3 : Int32))])) rfl (hb hby at_113) rfl (by decide) (cap := 3) (by decide) (by decide) (by decide) (by decide)
            obtain ⟨b310, g310⟩ : ∃ z, z = h304.size := ⟨_, rfl⟩
            rw [← g310] at A310 st310
            have ne311 : b300 ≠ b310 := Nat.ne_of_lt (Nat.lt_of_lt_of_le F306.lt (Nat.le_of_eq g310.symm))
            have ne312 : b304 ≠ b310 := Nat.ne_of_lt (Nat.lt_of_lt_of_le F308.lt (Nat.le_of_eq g310.symm))
            have ge310 : n0 ≤ b310 := Nat.le_trans Zs307 (Nat.le_of_eq g310.symm)
            have old310 : h0.size ≤ b310 := Nat.le_trans K304.1 (Nat.le_of_eq g310.symm)
            have K310 : Keep h0 h310 [] := K304.ext E310
            have F313 : own_Arf Z h310 b300 .int 3 (fun i => (.int ((fun _ => (0 : Int32)) i))) := F306.ext E310
            have F314 : own_Arf Z h310 b304 .int 3 (fun i => (.int ((fun _ => (0 : Int32)) i))) := F308.ext E310
            have Zs315 : n0 ≤ h310.size := Nat.le_trans Zs307 E310.1
            have F316 : own_Arf Z h310 b310 .boolean 3 (fun i => (.int ((fun _ => (0 : Int32)) i))) := by
              have q := own_Arf.new A310 (by decide)
              rw [show ((3 : Int32)).toNatClampNeg = 3 from rfl] at q
              exact q
            have r310 : own_R p.tables e below F0 (T310.setTop (mkF m 115 #[.val (.int p0s), .val (.long p1s), .second, .val (.long p2s), .second, .val (.long p3s), .second, .val (.int (3 : Int32)), .val (.int k0), .val (.int k1), .val (.int k2), .val (.int z44), .val (.int z45), .val (.int z46), .val (.int z47), .val (.int z48), .val (.int z49), .val (.ref b300), .val (.ref b304), .unset, .unset, .unset, .unset, .unset, .unset, .unset, .unset, .unset, .unset] [(.ref b310)])) := fun tg_ kg_ => r309 tg_ (st310 tg_ kg_)
            have r317 : own_R p.tables e below F0 (T310.setTop (mkF m 127 #[.val (.int p0s), .val (.long p1s), .second, .val (.long p2s), .second, .val (.long p3s), .second, .val (.int (3 : Int32)), .val (.int k0), .val (.int k1), .val (.int k2), .val (.int z44), .val (.int z45), .val (.int z46), .val (.int z47), .val (.int z48), .val (.int z49), .val (.ref b300), .val (.ref b304), .val (.ref b310), .unset, .unset, .unset, .unset, .unset, .unset, .unset, .unset, .unset] [(.int z44), (.int (0 : Int32)), (.ref b300)])) := fun tg_ kg_ => by
              refine r310 tg_ ?_
              show Steps p.tables e below (T310.setTop (mkF m 115 #[.val (.int p0s), .val (.long p1s), .second, .val (.long p2s), .second, .val (.long p3s), .second, .val (.int (3 : Int32)), .val (.int k0), .val (.int k1), .val (.int k2), .val (.int z44), .val (.int z45), .val (.int z46), .val (.int z47), .val (.int z48), .val (.int z49), .val (.ref b300), .val (.ref b304), .unset, .unset, .unset, .unset, .unset, .unset, .unset, .unset, .unset, .unset] [(.ref b310)])) _
              refine XS.astore X310.here hx rfl (hb hby at_115) rfl rfl (l' := #[.val (.int p0s), .val (.long p1s), .second, .val (.long p2s), .second, .val (.long p3s), .second, .val (.int (3 : Int32)), .val (.int k0), .val (.int k1), .val (.int k2), .val (.int z44), .val (.int z45), .val (.int z46), .val (.int z47), .val (.int z48), .val (.int z49), .val (.ref b300), .val (.ref b304), .val (.ref b310), .unset, .unset, .unset, .unset, .unset, .unset, .unset, .unset, .unset]) rfl ?_
              show Steps p.tables e below (T310.setTop (mkF m 117 #[.val (.int p0s), .val (.long p1s), .second, .val (.long p2s), .second, .val (.long p3s), .second, .val (.int (3 : Int32)), .val (.int k0), .val (.int k1), .val (.int k2), .val (.int z44), .val (.int z45), .val (.int z46), .val (.int z47), .val (.int z48), .val (.int z49), .val (.ref b300), .val (.ref b304), .val (.ref b310), .unset, .unset, .unset, .unset, .unset, .unset, .unset, .unset, .unset] [])) _
              refine XS.iload X310.here hx rfl (hb hby at_117) rfl ?_
              show Steps p.tables e below (T310.setTop (mkF m 119 #[.val (.int p0s), .val (.long p1s), .second, .val (.long p2s), .second, .val (.long p3s), .second, .val (.int (3 : Int32)), .val (.int k0), .val (.int k1), .val (.int k2), .val (.int z44), .val (.int z45), .val (.int z46), .val (.int z47), .val (.int z48), .val (.int z49), .val (.ref b300), .val (.ref b304), .val (.ref b310), .unset, .unset, .unset, .unset, .unset, .unset, .unset, .unset, .unset] [(.int (3 : Int32))])) _
              refine XS.ifNo X310.here hx rfl (hb hby at_119) rfl ((if0 _ _).trans (tlt (show (0 : Int32) < (3 : Int32) from by decide)).2.2.2) ?_
              show Steps p.tables e below (T310.setTop (mkF m 122 #[.val (.int p0s), .val (.long p1s), .second, .val (.long p2s), .second, .val (.long p3s), .second, .val (.int (3 : Int32)), .val (.int k0), .val (.int k1), .val (.int k2), .val (.int z44), .val (.int z45), .val (.int z46), .val (.int z47), .val (.int z48), .val (.int z49), .val (.ref b300), .val (.ref b304), .val (.ref b310), .unset, .unset, .unset, .unset, .unset, .unset, .unset, .unset, .unset] [])) _
              refine XS.aload X310.here hx rfl (hb hby at_122) rfl rfl ?_
              show Steps p.tables e below (T310.setTop (mkF m 124 #[.val (.int p0s), .val (.long p1s), .second, .val (.long p2s), .second, .val (.long p3s), .second, .val (.int (3 : Int32)), .val (.int k0), .val (.int k1), .val (.int k2), .val (.int z44), .val (.int z45), .val (.int z46), .val (.int z47), .val (.int z48), .val (.int z49), .val (.ref b300), .val (.ref b304), .val (.ref b310), .unset, .unset, .unset, .unset, .unset, .unset, .unset, .unset, .unset] [(.ref b300)])) _
              refine XS.iconst X310.here hx rfl (hb hby at_124) ?_
              show Steps p.tables e below (T310.setTop (mkF m 125 #[.val (.int p0s), .val (.long p1s), .second, .val (.long p2s), .second, .val (.long p3s), .second, .val (.int (3 : Int32)), .val (.int k0), .val (.int k1), .val (.int k2), .val (.int z44), .val (.int z45), .val (.int z46), .val (.int z47), .val (.int z48), .val (.int z49), .val (.ref b300), .val (.ref b304), .val (.ref b310), .unset, .unset, .unset, .unset, .unset, .unset, .unset, .unset, .unset] [(.int (0 : Int32)), (.ref b300)])) _
              refine XS.iload X310.here hx rfl (hb hby at_125) rfl ?_
              exact kg_
            obtain ⟨T318, h318, X318, e318, W318, V318, st318⟩ := own_stI X310 hx hZ e310 (j := (0 : Int32)) F313 (by decide) (by decide) (g := (mkF m 127 #[.val (.int p0s), .val (.long p1s), .second, .val (.long p2s), .second, .val (.long p3s), .second, .val (.int (3 : Int32)), .val (.int k0), .val (.int k1), .val (.int k2), .val (.int z44), .val (.int z45), .val (.int z46), .val (.int z47), .val (.int z48), .val (.int z49), .val (.ref b300), .val (.ref b304), .val (.ref b310), .unset, .unset, .unset, .unset, .unset, .unset, .unset, .unset, .unset] [(.int z44), (.int (0 : Int32)), (.ref b300)])) rfl rfl (hb hby at_127)
            have V318 : own_Arf Z h318 b300 .int 3 (fun i => if i = 0 then (.int z44) else (.int ((fun _ => (0 : Int32)) i))) := V318
            obtain ⟨gf318, hgf318, V318'⟩ := own_nameI (g := (fun _ => (0 : Int32))) V318
            have F319 : own_Arf Z h318 b300 .int 3 (fun i => (.int (gf318 i))) := V318'
            have F320 : own_Arf Z h318 b304 .int 3 (fun i => (.int ((fun _ => (0 : Int32)) i))) := F314.other W318 (Ne.symm ne305)
            have F321 : own_Arf Z h318 b310 .boolean 3 (fun i => (.int ((fun _ => (0 : Int32)) i))) := F316.other W318 (Ne.symm ne311)
            have Zs322 : n0 ≤ h318.size := by rw [W318.size]; exact Zs315
            have N323 := Fr.snoc X318 N0 ge300
            have K324 : Keep h0 h318 [] := K310.wr W318 (Or.inr old300)
            have r318 : own_R p.tables e below F0 (T318.setTop (mkF m 128 #[.val (.int p0s), .val (.long p1s), .second, .val (.long p2s), .second, .val (.long p3s), .second, .val (.int (3 : Int32)), .val (.int k0), .val (.int k1), .val (.int k2), .val (.int z44), .val (.int z45), .val (.int z46), .val (.int z47), .val (.int z48), .val (.int z49), .val (.ref b300), .val (.ref b304), .val (.ref b310), .unset, .unset, .unset, .unset, .unset, .unset, .unset, .unset, .unset] [])) := fun tg_ kg_ => r317 tg_ (st318 tg_ kg_)
            have r325 : own_R p.tables e below F0 (T318.setTop (mkF m 133 #[.val (.int p0s), .val (.long p1s), .second, .val (.long p2s), .second, .val (.long p3s), .second, .val (.int (3 : Int32)), .val (.int k0), .val (.int k1), .val (.int k2), .val (.int z44), .val (.int z45), .val (.int z46), .val (.int z47), .val (.int z48), .val (.int z49), .val (.ref b300), .val (.ref b304), .val (.ref b310), .unset, .unset, .unset, .unset, .unset, .unset, .unset, .unset, .unset] [(.int z45), (.int (0 : Int32)), (.ref b304)])) := fun tg_ kg_ => by
              refine r318 tg_ ?_
              show Steps p.tables e below (T318.setTop (mkF m 128 #[.val (.int p0s), .val (.long p1s), .second, .val (.long p2s), .second, .val (.long p3s), .second, .val (.int (3 : Int32)), .val (.int k0), .val (.int k1), .val (.int k2), .val (.int z44), .val (.int z45), .val (.int z46), .val (.int z47), .val (.int z48), .val (.int z49), .val (.ref b300), .val (.ref b304), .val (.ref b310), .unset, .unset, .unset, .unset, .unset, .unset, .unset, .unset, .unset] [])) _
              refine XS.aload X318.here hx rfl (hb hby at_128) rfl rfl ?_
              show Steps p.tables e below (T318.setTop (mkF m 130 #[.val (.int p0s), .val (.long p1s), .second, .val (.long p2s), .second, .val (.long p3s), .second, .val (.int (3 : Int32)), .val (.int k0), .val (.int k1), .val (.int k2), .val (.int z44), .val (.int z45), .val (.int z46), .val (.int z47), .val (.int z48), .val (.int z49), .val (.ref b300), .val (.ref b304), .val (.ref b310), .unset, .unset, .unset, .unset, .unset, .unset, .unset, .unset, .unset] [(.ref b304)])) _
              refine XS.iconst X318.here hx rfl (hb hby at_130) ?_
              show Steps p.tables e below (T318.setTop (mkF m 131 #[.val (.int p0s), .val (.long p1s), .second, .val (.long p2s), .second, .val (.long p3s), .second, .val (.int (3 : Int32)), .val (.int k0), .val (.int k1), .val (.int k2), .val (.int z44), .val (.int z45), .val (.int z46), .val (.int z47), .val (.int z48), .val (.int z49), .val (.ref b300), .val (.ref b304), .val (.ref b310), .unset, .unset, .unset, .unset, .unset, .unset, .unset, .unset, .unset] [(.int (0 : Int32)), (.ref b304)])) _
              refine XS.iload X318.here hx rfl (hb hby at_131) rfl ?_
              exact kg_
            obtain ⟨T326, h326, X326, e326, W326, V326, st326⟩ := own_stI X318 hx hZ e318 (j := (0 : Int32)) F320 (by decide) (by decide) (g := (mkF m 133 #[.val (.int p0s), .val (.long p1s), .second, .val (.long p2s), .second, .val (.long p3s), .second, .val (.int (3 : Int32)), .val (.int k0), .val (.int k1), .val (.int k2), .val (.int z44), .val (.int z45), .val (.int z46), .val (.int z47), .val (.int z48), .val (.int z49), .val (.ref b300), .val (.ref b304), .val (.ref b310), .unset, .unset, .unset, .unset, .unset, .unset, .unset, .unset, .unset] [(.int z45), (.int (0 : Int32)), (.ref b304)])) rfl rfl (hb hby at_133)
            have V326 : own_Arf Z h326 b304 .int 3 (fun i => if i = 0 then (.int z45) else (.int ((fun _ => (0 : Int32)) i))) := V326
            obtain ⟨gf326, hgf326, V326'⟩ := own_nameI (g := (fun _ => (0 : Int32))) V326
            have F327 : own_Arf Z h326 b300 .int 3 (fun i => (.int (gf318 i))) := F319.other W326 ne305
            have F328 : own_Arf Z h326 b304 .int 3 (fun i => (.int (gf326 i))) := V326'
            have F329 : own_Arf Z h326 b310 .boolean 3 (fun i => (.int ((fun _ => (0 : Int32)) i))) := F321.other W326 (Ne.symm ne312)
            have Zs330 : n0 ≤ h326.size := by rw [W326.size]; exact Zs322
            have N331 := Fr.snoc X326 N323 ge304
            have K332 : Keep h0 h326 [] := K324.wr W326 (Or.inr old304)
            have r326 : own_R p.tables e below F0 (T326.setTop (mkF m 134 #[.val (.int p0s), .val (.long p1s), .second, .val (.long p2s), .second, .val (.long p3s), .second, .val (.int (3 : Int32)), .val (.int k0), .val (.int k1), .val (.int k2), .val (.int z44), .val (.int z45), .val (.int z46), .val (.int z47), .val (.int z48), .val (.int z49), .val (.ref b300), .val (.ref b304), .val (.ref b310), .unset, .unset, .unset, .unset, .unset, .unset, .unset, .unset, .unset] [])) := fun tg_ kg_ => r325 tg_ (st326 tg_ kg_)
            have r333 : own_R p.tables e below F0 (T326.setTop (mkF m 139 #[.val (.int p0s), .val (.long p1s), .second, .val (.long p2s), .second, .val (.long p3s), .second, .val (.int (3 : Int32)), .val (.int k0), .val (.int k1), .val (.int k2), .val (.int z44), .val (.int z45), .val (.int z46), .val (.int z47), .val (.int z48), .val (.int z49), .val (.ref b300), .val (.ref b304), .val (.ref b310), .unset, .unset, .unset, .unset, .unset, .unset, .unset, .unset, .unset] [(.int k0), (.int (0 : Int32)), (.ref b310)])) := fun tg_ kg_ => by
              refine r326 tg_ ?_
              show Steps p.tables e below (T326.setTop (mkF m 134 #[.val (.int p0s), .val (.long p1s), .second, .val (.long p2s), .second, .val (.long p3s), .second, .val (.int (3 : Int32)), .val (.int k0), .val (.int k1), .val (.int k2), .val (.int z44), .val (.int z45), .val (.int z46), .val (.int z47), .val (.int z48), .val (.int z49), .val (.ref b300), .val (.ref b304), .val (.ref b310), .unset, .unset, .unset, .unset, .unset, .unset, .unset, .unset, .unset] [])) _
              refine XS.aload X326.here hx rfl (hb hby at_134) rfl rfl ?_
              show Steps p.tables e below (T326.setTop (mkF m 136 #[.val (.int p0s), .val (.long p1s), .second, .val (.long p2s), .second, .val (.long p3s), .second, .val (.int (3 : Int32)), .val (.int k0), .val (.int k1), .val (.int k2), .val (.int z44), .val (.int z45), .val (.int z46), .val (.int z47), .val (.int z48), .val (.int z49), .val (.ref b300), .val (.ref b304), .val (.ref b310), .unset, .unset, .unset, .unset, .unset, .unset, .unset, .unset, .unset] [(.ref b310)])) _
              refine XS.iconst X326.here hx rfl (hb hby at_136) ?_
              show Steps p.tables e below (T326.setTop (mkF m 137 #[.val (.int p0s), .val (.long p1s), .second, .val (.long p2s), .second, .val (.long p3s), .second, .val (.int (3 : Int32)), .val (.int k0), .val (.int k1), .val (.int k2), .val (.int z44), .val (.int z45), .val (.int z46), .val (.int z47), .val (.int z48), .val (.int z49), .val (.ref b300), .val (.ref b304), .val (.ref b310), .unset, .unset, .unset, .unset, .unset, .unset, .unset, .unset, .unset] [(.int (0 : Int32)), (.ref b310)])) _
              refine XS.iload X326.here hx rfl (hb hby at_137) rfl ?_
              exact kg_
            obtain ⟨T334, h334, X334, e334, W334, V334, st334⟩ := own_stZ X326 hx hZ e326 (j := (0 : Int32)) F329 (by decide) (by decide) (g := (mkF m 139 #[.val (.int p0s), .val (.long p1s), .second, .val (.long p2s), .second, .val (.long p3s), .second, .val (.int (3 : Int32)), .val (.int k0), .val (.int k1), .val (.int k2), .val (.int z44), .val (.int z45), .val (.int z46), .val (.int z47), .val (.int z48), .val (.int z49), .val (.ref b300), .val (.ref b304), .val (.ref b310), .unset, .unset, .unset, .unset, .unset, .unset, .unset, .unset, .unset] [(.int k0), (.int (0 : Int32)), (.ref b310)])) rfl rfl (hb hby at_139)
            have V334 : own_Arf Z h334 b310 .boolean 3 (fun i => if i = 0 then (.int (nar .boolean k0)) else (.int ((fun _ => (0 : Int32)) i))) := V334
            obtain ⟨gf334, hgf334, V334'⟩ := own_nameI (g := (fun _ => (0 : Int32))) V334
            have F335 : own_Arf Z h334 b300 .int 3 (fun i => (.int (gf318 i))) := F327.other W334 ne311
            have F336 : own_Arf Z h334 b304 .int 3 (fun i => (.int (gf326 i))) := F328.other W334 ne312
            have F337 : own_Arf Z h334 b310 .boolean 3 (fun i => (.int (gf334 i))) := V334'
            have Zs338 : n0 ≤ h334.size := by rw [W334.size]; exact Zs330
            have N339 := Fr.snoc X334 N331 ge310
            have K340 : Keep h0 h334 [] := K332.wr W334 (Or.inr old310)
            have r334 : own_R p.tables e below F0 (T334.setTop (mkF m 140 #[.val (.int p0s), .val (.long p1s), .second, .val (.long p2s), .second, .val (.long p3s), .second, .val (.int (3 : Int32)), .val (.int k0), .val (.int k1), .val (.int k2), .val (.int z44), .val (.int z45), .val (.int z46), .val (.int z47), .val (.int z48), .val (.int z49), .val (.ref b300), .val (.ref b304), .val (.ref b310), .unset, .unset, .unset, .unset, .unset, .unset, .unset, .unset, .unset] [])) := fun tg_ kg_ => r333 tg_ (st334 tg_ kg_)
            have r341 : own_R p.tables e below F0 (T334.setTop (mkF m 151 #[.val (.int p0s), .val (.long p1s), .second, .val (.long p2s), .second, .val (.long p3s), .second, .val (.int (3 : Int32)), .val (.int k0), .val (.int k1), .val (.int k2), .val (.int z44), .val (.int z45), .val (.int z46), .val (.int z47), .val (.int z48), .val (.int z49), .val (.ref b300), .val (.ref b304), .val (.ref b310), .unset, .unset, .unset, .unset, .unset, .unset, .unset, .unset, .unset] [(.int z46), (.int (1 : Int32)), (.ref b300)])) := fun tg_ kg_ => by
              refine r334 tg_ ?_
              show Steps p.tables e below (T334.setTop (mkF m 140 #[.val (.int p0s), .val (.long p1s), .second, .val (.long p2s), .second, .val (.long p3s), .second, .val (.int (3 : Int32)), .val (.int k0), .val (.int k1), .val (.int k2), .val (.int z44), .val (.int z45), .val (.int z46), .val (.int z47), .val (.int z48), .val (.int z49), .val (.ref b300), .val (.ref b304), .val (.ref b310), .unset, .unset, .unset, .unset, .unset, .unset, .unset, .unset, .unset] [])) _
              refine XS.iload X334.here hx rfl (hb hby at_140) rfl ?_
              show Steps p.tables e below (T334.setTop (mkF m 142 #[.val (.int p0s), .val (.long p1s), .second, .val (.long p2s), .second, .val (.long p3s), .second, .val (.int (3 : Int32)), .val (.int k0), .val (.int k1), .val (.int k2), .val (.int z44), .val (.int z45), .val (.int z46), .val (.int z47), .val (.int z48), .val (.int z49), .val (.ref b300), .val (.ref b304), .val (.ref b310), .unset, .unset, .unset, .unset, .unset, .unset, .unset, .unset, .unset] [(.int (3 : Int32))])) _
              refine XS.iconst X334.here hx rfl (hb hby at_142) ?_
              show Steps p.tables e below (T334.setTop (mkF m 143 #[.val (.int p0s), .val (.long p1s), .second, .val (.long p2s), .second, .val (.long p3s), .second, .val (.int (3 : Int32)), .val (.int k0), .val (.int k1), .val (.int k2), .val (.int z44), .val (.int z45), .val (.int z46), .val (.int z47), .val (.int z48), .val (.int z49), .val (.ref b300), .val (.ref b304), .val (.ref b310), .unset, .unset, .unset, .unset, .unset, .unset, .unset, .unset, .unset] [(.int (1 : Int32)), (.int (3 : Int32))])) _
              refine XS.icmpNo X334.here hx rfl (hb hby at_143) rfl (tlt (show (1 : Int32) < (3 : Int32) from by decide)).2.2.2 ?_
              show Steps p.tables e below (T334.setTop (mkF m 146 #[.val (.int p0s), .val (.long p1s), .second, .val (.long p2s), .second, .val (.long p3s), .second, .val (.int (3 : Int32)), .val (.int k0), .val (.int k1), .val (.int k2), .val (.int z44), .val (.int z45), .val (.int z46), .val (.int z47), .val (.int z48), .val (.int z49), .val (.ref b300), .val (.ref b304), .val (.ref b310), .unset, .unset, .unset, .unset, .unset, .unset, .unset, .unset, .unset] [])) _
              refine XS.aload X334.here hx rfl (hb hby at_146) rfl rfl ?_
              show Steps p.tables e below (T334.setTop (mkF m 148 #[.val (.int p0s), .val (.long p1s), .second, .val (.long p2s), .second, .val (.long p3s), .second, .val (.int (3 : Int32)), .val (.int k0), .val (.int k1), .val (.int k2), .val (.int z44), .val (.int z45), .val (.int z46), .val (.int z47), .val (.int z48), .val (.int z49), .val (.ref b300), .val (.ref b304), .val (.ref b310), .unset, .unset, .unset, .unset, .unset, .unset, .unset, .unset, .unset] [(.ref b300)])) _
              refine XS.iconst X334.here hx rfl (hb hby at_148) ?_
              show Steps p.tables e below (T334.setTop (mkF m 149 #[.val (.int p0s), .val (.long p1s), .second, .val (.long p2s), .second, .val (.long p3s), .second, .val (.int (3 : Int32)), .val (.int k0), .val (.int k1), .val (.int k2), .val (.int z44), .val (.int z45), .val (.int z46), .val (.int z47), .val (.int z48), .val (.int z49), .val (.ref b300), .val (.ref b304), .val (.ref b310), .unset, .unset, .unset, .unset, .unset, .unset, .unset, .unset, .unset] [(.int (1 : Int32)), (.ref b300)])) _
              refine XS.iload X334.here hx rfl (hb hby at_149) rfl ?_
              exact kg_
            obtain ⟨T342, h342, X342, e342, W342, V342, st342⟩ := own_stI X334 hx hZ e334 (j := (1 : Int32)) F335 (by decide) (by decide) (g := (mkF m 151 #[.val (.int p0s), .val (.long p1s), .second, .val (.long p2s), .second, .val (.long p3s), .second, .val (.int (3 : Int32)), .val (.int k0), .val (.int k1), .val (.int k2), .val (.int z44), .val (.int z45), .val (.int z46), .val (.int z47), .val (.int z48), .val (.int z49), .val (.ref b300), .val (.ref b304), .val (.ref b310), .unset, .unset, .unset, .unset, .unset, .unset, .unset, .unset, .unset] [(.int z46), (.int (1 : Int32)), (.ref b300)])) rfl rfl (hb hby at_151)
            have V342 : own_Arf Z h342 b300 .int 3 (fun i => if i = 1 then (.int z46) else (.int (gf318 i))) := V342
            obtain ⟨gf342, hgf342, V342'⟩ := own_nameI (g := gf318) V342
            have F343 : own_Arf Z h342 b300 .int 3 (fun i => (.int (gf342 i))) := V342'
            have F344 : own_Arf Z h342 b304 .int 3 (fun i => (.int (gf326 i))) := F336.other W342 (Ne.symm ne305)
            have F345 : own_Arf Z h342 b310 .boolean 3 (fun i => (.int (gf334 i))) := F337.other W342 (Ne.symm ne311)
            have Zs346 : n0 ≤ h342.size := by rw [W342.size]; exact Zs338
            have N347 := Fr.snoc X342 N339 ge300
            have K348 : Keep h0 h342 [] := K340.wr W342 (Or.inr old300)
            have r342 : own_R p.tables e below F0 (T342.setTop (mkF m 152 #[.val (.int p0s), .val (.long p1s), .second, .val (.long p2s), .second, .val (.long p3s), .second, .val (.int (3 : Int32)), .val (.int k0), .val (.int k1), .val (.int k2), .val (.int z44), .val (.int z45), .val (.int z46), .val (.int z47), .val (.int z48), .val (.int z49), .val (.ref b300), .val (.ref b304), .val (.ref b310), .unset, .unset, .unset, .unset, .unset, .unset, .unset, .unset, .unset] [])) := fun tg_ kg_ => r341 tg_ (st342 tg_ kg_)
            have r349 : own_R p.tables e below F0 (T342.setTop (mkF m 157 #[.val (.int p0s), .val (.long p1s), .second, .val (.long p2s), .second, .val (.long p3s), .second, .val (.int (3 : Int32)), .val (.int k0), .val (.int k1), .val (.int k2), .val (.int z44), .val (.int z45), .val (.int z46), .val (.int z47), .val (.int z48), .val (.int z49), .val (.ref b300), .val (.ref b304), .val (.ref b310), .unset, .unset, .unset, .unset, .unset, .unset, .unset, .unset, .unset] [(.int z47), (.int (1 : Int32)), (.ref b304)])) := fun tg_ kg_ => by
              refine r342 tg_ ?_
              show Steps p.tables e below (T342.setTop (mkF m 152 #[.val (.int p0s), .val (.long p1s), .second, .val (.long p2s), .second, .val (.long p3s), .second, .val (.int (3 : Int32)), .val (.int k0), .val (.int k1), .val (.int k2), .val (.int z44), .val (.int z45), .val (.int z46), .val (.int z47), .val (.int z48), .val (.int z49), .val (.ref b300), .val (.ref b304), .val (.ref b310), .unset, .unset, .unset, .unset, .unset, .unset, .unset, .unset, .unset] [])) _
              refine XS.aload X342.here hx rfl (hb hby at_152) rfl rfl ?_
              show Steps p.tables e below (T342.setTop (mkF m 154 #[.val (.int p0s), .val (.long p1s), .second, .val (.long p2s), .second, .val (.long p3s), .second, .val (.int (3 : Int32)), .val (.int k0), .val (.int k1), .val (.int k2), .val (.int z44), .val (.int z45), .val (.int z46), .val (.int z47), .val (.int z48), .val (.int z49), .val (.ref b300), .val (.ref b304), .val (.ref b310), .unset, .unset, .unset, .unset, .unset, .unset, .unset, .unset, .unset] [(.ref b304)])) _
              refine XS.iconst X342.here hx rfl (hb hby at_154) ?_
              show Steps p.tables e below (T342.setTop (mkF m 155 #[.val (.int p0s), .val (.long p1s), .second, .val (.long p2s), .second, .val (.long p3s), .second, .val (.int (3 : Int32)), .val (.int k0), .val (.int k1), .val (.int k2), .val (.int z44), .val (.int z45), .val (.int z46), .val (.int z47), .val (.int z48), .val (.int z49), .val (.ref b300), .val (.ref b304), .val (.ref b310), .unset, .unset, .unset, .unset, .unset, .unset, .unset, .unset, .unset] [(.int (1 : Int32)), (.ref b304)])) _
              refine XS.iload X342.here hx rfl (hb hby at_155) rfl ?_
              exact kg_
            obtain ⟨T350, h350, X350, e350, W350, V350, st350⟩ := own_stI X342 hx hZ e342 (j := (1 : Int32)) F344 (by decide) (by decide) (g := (mkF m 157 #[.val (.int p0s), .val (.long p1s), .second, .val (.long p2s), .second, .val (.long p3s), .second, .val (.int (3 : Int32)), .val (.int k0), .val (.int k1), .val (.int k2), .val (.int z44), .val (.int z45), .val (.int z46), .val (.int z47), .val (.int z48), .val (.int z49), .val (.ref b300), .val (.ref b304), .val (.ref b310), .unset, .unset, .unset, .unset, .unset, .unset, .unset, .unset, .unset] [(.int z47), (.int (1 : Int32)), (.ref b304)])) rfl rfl (hb hby at_157)
            have V350 : own_Arf Z h350 b304 .int 3 (fun i => if i = 1 then (.int z47) else (.int (gf326 i))) := V350
            obtain ⟨gf350, hgf350, V350'⟩ := own_nameI (g := gf326) V350
            have F351 : own_Arf Z h350 b300 .int 3 (fun i => (.int (gf342 i))) := F343.other W350 ne305
            have F352 : own_Arf Z h350 b304 .int 3 (fun i => (.int (gf350 i))) := V350'
            have F353 : own_Arf Z h350 b310 .boolean 3 (fun i => (.int (gf334 i))) := F345.other W350 (Ne.symm ne312)
            have Zs354 : n0 ≤ h350.size := by rw [W350.size]; exact Zs346
            have N355 := Fr.snoc X350 N347 ge304
            have K356 : Keep h0 h350 [] := K348.wr W350 (Or.inr old304)
            have r350 : own_R p.tables e below F0 (T350.setTop (mkF m 158 #[.val (.int p0s), .val (.long p1s), .second, .val (.long p2s), .second, .val (.long p3s), .second, .val (.int (3 : Int32)), .val (.int k0), .val (.int k1), .val (.int k2), .val (.int z44), .val (.int z45), .val (.int z46), .val (.int z47), .val (.int z48), .val (.int z49), .val (.ref b300), .val (.ref b304), .val (.ref b310), .unset, .unset, .unset, .unset, .unset, .unset, .unset, .unset, .unset] [])) := fun tg_ kg_ => r349 tg_ (st350 tg_ kg_)
            have r357 : own_R p.tables e below F0 (T350.setTop (mkF m 163 #[.val (.int p0s), .val (.long p1s), .second, .val (.long p2s), .second, .val (.long p3s), .second, .val (.int (3 : Int32)), .val (.int k0), .val (.int k1), .val (.int k2), .val (.int z44), .val (.int z45), .val (.int z46), .val (.int z47), .val (.int z48), .val (.int z49), .val (.ref b300), .val (.ref b304), .val (.ref b310), .unset, .unset, .unset, .unset, .unset, .unset, .unset, .unset, .unset] [(.int k1), (.int (1 : Int32)), (.ref b310)])) := fun tg_ kg_ => by
              refine r350 tg_ ?_
              show Steps p.tables e below (T350.setTop (mkF m 158 #[.val (.int p0s), .val (.long p1s), .second, .val (.long p2s), .second, .val (.long p3s), .second, .val (.int (3 : Int32)), .val (.int k0), .val (.int k1), .val (.int k2), .val (.int z44), .val (.int z45), .val (.int z46), .val (.int z47), .val (.int z48), .val (.int z49), .val (.ref b300), .val (.ref b304), .val (.ref b310), .unset, .unset, .unset, .unset, .unset, .unset, .unset, .unset, .unset] [])) _
              refine XS.aload X350.here hx rfl (hb hby at_158) rfl rfl ?_
              show Steps p.tables e below (T350.setTop (mkF m 160 #[.val (.int p0s), .val (.long p1s), .second, .val (.long p2s), .second, .val (.long p3s), .second, .val (.int (3 : Int32)), .val (.int k0), .val (.int k1), .val (.int k2), .val (.int z44), .val (.int z45), .val (.int z46), .val (.int z47), .val (.int z48), .val (.int z49), .val (.ref b300), .val (.ref b304), .val (.ref b310), .unset, .unset, .unset, .unset, .unset, .unset, .unset, .unset, .unset] [(.ref b310)])) _
              refine XS.iconst X350.here hx rfl (hb hby at_160) ?_
              show Steps p.tables e below (T350.setTop (mkF m 161 #[.val (.int p0s), .val (.long p1s), .second, .val (.long p2s), .second, .val (.long p3s), .second, .val (.int (3 : Int32)), .val (.int k0), .val (.int k1), .val (.int k2), .val (.int z44), .val (.int z45), .val (.int z46), .val (.int z47), .val (.int z48), .val (.int z49), .val (.ref b300), .val (.ref b304), .val (.ref b310), .unset, .unset, .unset, .unset, .unset, .unset, .unset, .unset, .unset] [(.int (1 : Int32)), (.ref b310)])) _
              refine XS.iload X350.here hx rfl (hb hby at_161) rfl ?_
              exact kg_
            obtain ⟨T358, h358, X358, e358, W358, V358, st358⟩ := own_stZ X350 hx hZ e350 (j := (1 : Int32)) F353 (by decide) (by decide) (g := (mkF m 163 #[.val (.int p0s), .val (.long p1s), .second, .val (.long p2s), .second, .val (.long p3s), .second, .val (.int (3 : Int32)), .val (.int k0), .val (.int k1), .val (.int k2), .val (.int z44), .val (.int z45), .val (.int z46), .val (.int z47), .val (.int z48), .val (.int z49), .val (.ref b300), .val (.ref b304), .val (.ref b310), .unset, .unset, .unset, .unset, .unset, .unset, .unset, .unset, .unset] [(.int k1), (.int (1 : Int32)), (.ref b310)])) rfl rfl (hb hby at_163)
            have V358 : own_Arf Z h358 b310 .boolean 3 (fun i => if i = 1 then (.int (nar .boolean k1)) else (.int (gf334 i))) := V358
            obtain ⟨gf358, hgf358, V358'⟩ := own_nameI (g := gf334) V358
            have F359 : own_Arf Z h358 b300 .int 3 (fun i => (.int (gf342 i))) := F351.other W358 ne311
            have F360 : own_Arf Z h358 b304 .int 3 (fun i => (.int (gf350 i))) := F352.other W358 ne312
            have F361 : own_Arf Z h358 b310 .boolean 3 (fun i => (.int (gf358 i))) := V358'
            have Zs362 : n0 ≤ h358.size := by rw [W358.size]; exact Zs354
            have N363 := Fr.snoc X358 N355 ge310
            have K364 : Keep h0 h358 [] := K356.wr W358 (Or.inr old310)
            have r358 : own_R p.tables e below F0 (T358.setTop (mkF m 164 #[.val (.int p0s), .val (.long p1s), .second, .val (.long p2s), .second, .val (.long p3s), .second, .val (.int (3 : Int32)), .val (.int k0), .val (.int k1), .val (.int k2), .val (.int z44), .val (.int z45), .val (.int z46), .val (.int z47), .val (.int z48), .val (.int z49), .val (.ref b300), .val (.ref b304), .val (.ref b310), .unset, .unset, .unset, .unset, .unset, .unset, .unset, .unset, .unset] [])) := fun tg_ kg_ => r357 tg_ (st358 tg_ kg_)
            have r365 : own_R p.tables e below F0 (T358.setTop (mkF m 175 #[.val (.int p0s), .val (.long p1s), .second, .val (.long p2s), .second, .val (.long p3s), .second, .val (.int (3 : Int32)), .val (.int k0), .val (.int k1), .val (.int k2), .val (.int z44), .val (.int z45), .val (.int z46), .val (.int z47), .val (.int z48), .val (.int z49), .val (.ref b300), .val (.ref b304), .val (.ref b310), .unset, .unset, .unset, .unset, .unset, .unset, .unset, .unset, .unset] [(.int z48), (.int (2 : Int32)), (.ref b300)])) := fun tg_ kg_ => by
              refine r358 tg_ ?_
              show Steps p.tables e below (T358.setTop (mkF m 164 #[.val (.int p0s), .val (.long p1s), .second, .val (.long p2s), .second, .val (.long p3s), .second, .val (.int (3 : Int32)), .val (.int k0), .val (.int k1), .val (.int k2), .val (.int z44), .val (.int z45), .val (.int z46), .val (.int z47), .val (.int z48), .val (.int z49), .val (.ref b300), .val (.ref b304), .val (.ref b310), .unset, .unset, .unset, .unset, .unset, .unset, .unset, .unset, .unset] [])) _
              refine XS.iload X358.here hx rfl (hb hby at_164) rfl ?_
              show Steps p.tables e below (T358.setTop (mkF m 166 #[.val (.int p0s), .val (.long p1s), .second, .val (.long p2s), .second, .val (.long p3s), .second, .val (.int (3 : Int32)), .val (.int k0), .val (.int k1), .val (.int k2), .val (.int z44), .val (.int z45), .val (.int z46), .val (.int z47), .val (.int z48), .val (.int z49), .val (.ref b300), .val (.ref b304), .val (.ref b310), .unset, .unset, .unset, .unset, .unset, .unset, .unset, .unset, .unset] [(.int (3 : Int32))])) _
              refine XS.iconst X358.here hx rfl (hb hby at_166) ?_
              show Steps p.tables e below (T358.setTop (mkF m 167 #[.val (.int p0s), .val (.long p1s), .second, .val (.long p2s), .second, .val (.long p3s), .second, .val (.int (3 : Int32)), .val (.int k0), .val (.int k1), .val (.int k2), .val (.int z44), .val (.int z45), .val (.int z46), .val (.int z47), .val (.int z48), .val (.int z49), .val (.ref b300), .val (.ref b304), .val (.ref b310), .unset, .unset, .unset, .unset, .unset, .unset, .unset, .unset, .unset] [(.int (2 : Int32)), (.int (3 : Int32))])) _
              refine XS.icmpNo X358.here hx rfl (hb hby at_167) rfl (tlt (show (2 : Int32) < (3 : Int32) from by decide)).2.2.2 ?_
              show Steps p.tables e below (T358.setTop (mkF m 170 #[.val (.int p0s), .val (.long p1s), .second, .val (.long p2s), .second, .val (.long p3s), .second, .val (.int (3 : Int32)), .val (.int k0), .val (.int k1), .val (.int k2), .val (.int z44), .val (.int z45), .val (.int z46), .val (.int z47), .val (.int z48), .val (.int z49), .val (.ref b300), .val (.ref b304), .val (.ref b310), .unset, .unset, .unset, .unset, .unset, .unset, .unset, .unset, .unset] [])) _
              refine XS.aload X358.here hx rfl (hb hby at_170) rfl rfl ?_
              show Steps p.tables e below (T358.setTop (mkF m 172 #[.val (.int p0s), .val (.long p1s), .second, .val (.long p2s), .second, .val (.long p3s), .second, .val (.int (3 : Int32)), .val (.int k0), .val (.int k1), .val (.int k2), .val (.int z44), .val (.int z45), .val (.int z46), .val (.int z47), .val (.int z48), .val (.int z49), .val (.ref b300), .val (.ref b304), .val (.ref b310), .unset, .unset, .unset, .unset, .unset, .unset, .unset, .unset, .unset] [(.ref b300)])) _
              refine XS.iconst X358.here hx rfl (hb hby at_172) ?_
              show Steps p.tables e below (T358.setTop (mkF m 173 #[.val (.int p0s), .val (.long p1s), .second, .val (.long p2s), .second, .val (.long p3s), .second, .val (.int (3 : Int32)), .val (.int k0), .val (.int k1), .val (.int k2), .val (.int z44), .val (.int z45), .val (.int z46), .val (.int z47), .val (.int z48), .val (.int z49), .val (.ref b300), .val (.ref b304), .val (.ref b310), .unset, .unset, .unset, .unset, .unset, .unset, .unset, .unset, .unset] [(.int (2 : Int32)), (.ref b300)])) _
              refine XS.iload X358.here hx rfl (hb hby at_173) rfl ?_
              exact kg_
            obtain ⟨T366, h366, X366, e366, W366, V366, st366⟩ := own_stI X358 hx hZ e358 (j := (2 : Int32)) F359 (by decide) (by decide) (g := (mkF m 175 #[.val (.int p0s), .val (.long p1s), .second, .val (.long p2s), .second, .val (.long p3s), .second, .val (.int (3 : Int32)), .val (.int k0), .val (.int k1), .val (.int k2), .val (.int z44), .val (.int z45), .val (.int z46), .val (.int z47), .val (.int z48), .val (.int z49), .val (.ref b300), .val (.ref b304), .val (.ref b310), .unset, .unset, .unset, .unset, .unset, .unset, .unset, .unset, .unset] [(.int z48), (.int (2 : Int32)), (.ref b300)])) rfl rfl (hb hby at_175)
            have V366 : own_Arf Z h366 b300 .int 3 (fun i => if i = 2 then (.int z48) else (.int (gf342 i))) := V366
            obtain ⟨gf366, hgf366, V366'⟩ := own_nameI (g := gf342) V366
            have F367 : own_Arf Z h366 b300 .int 3 (fun i => (.int (gf366 i))) := V366'
            have F368 : own_Arf Z h366 b304 .int 3 (fun i => (.int (gf350 i))) := F360.other W366 (Ne.symm ne305)
            have F369 : own_Arf Z h366 b310 .boolean 3 (fun i => (.int (gf358 i))) := F361.other W366 (Ne.symm ne311)
            have Zs370 : n0 ≤ h366.size := by rw [W366.size]; exact Zs362
            have N371 := Fr.snoc X366 N363 ge300
            have K372 : Keep h0 h366 [] := K364.wr W366 (Or.inr old300)
            have r366 : own_R p.tables e below F0 (T366.setTop (mkF m 176 #[.val (.int p0s), .val (.long p1s), .second, .val (.long p2s), .second, .val (.long p3s), .second, .val (.int (3 : Int32)), .val (.int k0), .val (.int k1), .val (.int k2), .val (.int z44), .val (.int z45), .val (.int z46), .val (.int z47), .val (.int z48), .val (.int z49), .val (.ref b300), .val (.ref b304), .val (.ref b310), .unset, .unset, .unset, .unset, .unset, .unset, .unset, .unset, .unset] [])) := fun tg_ kg_ => r365 tg_ (st366 tg_ kg_)
            have r373 : own_R p.tables e below F0 (T366.setTop (mkF m 181 #[.val (.int p0s), .val (.long p1s), .second, .val (.long p2s), .second, .val (.long p3s), .second, .val (.int (3 : Int32)), .val (.int k0), .val (.int k1), .val (.int k2), .val (.int z44), .val (.int z45), .val (.int z46), .val (.int z47), .val (.int z48), .val (.int z49), .val (.ref b300), .val (.ref b304), .val (.ref b310), .unset, .unset, .unset, .unset, .unset, .unset, .unset, .unset, .unset] [(.int z49), (.int (2 : Int32)), (.ref b304)])) := fun tg_ kg_ => by
              refine r366 tg_ ?_
              show Steps p.tables e below (T366.setTop (mkF m 176 #[.val (.int p0s), .val (.long p1s), .second, .val (.long p2s), .second, .val (.long p3s), .second, .val (.int (3 : Int32)), .val (.int k0), .val (.int k1), .val (.int k2), .val (.int z44), .val (.int z45), .val (.int z46), .val (.int z47), .val (.int z48), .val (.int z49), .val (.ref b300), .val (.ref b304), .val (.ref b310), .unset, .unset, .unset, .unset, .unset, .unset, .unset, .unset, .unset] [])) _
              refine XS.aload X366.here hx rfl (hb hby at_176) rfl rfl ?_
              show Steps p.tables e below (T366.setTop (mkF m 178 #[.val (.int p0s), .val (.long p1s), .second, .val (.long p2s), .second, .val (.long p3s), .second, .val (.int (3 : Int32)), .val (.int k0), .val (.int k1), .val (.int k2), .val (.int z44), .val (.int z45), .val (.int z46), .val (.int z47), .val (.int z48), .val (.int z49), .val (.ref b300), .val (.ref b304), .val (.ref b310), .unset, .unset, .unset, .unset, .unset, .unset, .unset, .unset, .unset] [(.ref b304)])) _
              refine XS.iconst X366.here hx rfl (hb hby at_178) ?_
              show Steps p.tables e below (T366.setTop (mkF m 179 #[.val (.int p0s), .val (.long p1s), .second, .val (.long p2s), .second, .val (.long p3s), .second, .val (.int (3 : Int32)), .val (.int k0), .val (.int k1), .val (.int k2), .val (.int z44), .val (.int z45), .val (.int z46), .val (.int z47), .val (.int z48), .val (.int z49), .val (.ref b300), .val (.ref b304), .val (.ref b310), .unset, .unset, .unset, .unset, .unset, .unset, .unset, .unset, .unset] [(.int (2 : Int32)), (.ref b304)])) _
              refine XS.iload X366.here hx rfl (hb hby at_179) rfl ?_
              exact kg_
            obtain ⟨T374, h374, X374, e374, W374, V374, st374⟩ := own_stI X366 hx hZ e366 (j := (2 : Int32)) F368 (by decide) (by decide) (g := (mkF m 181 #[.val (.int p0s), .val (.long p1s), .second, .val (.long p2s), .second, .val (.long p3s), .second, .val (.int (3 : Int32)), .val (.int k0), .val (.int k1), .val (.int k2), .val (.int z44), .val (.int z45), .val (.int z46), .val (.int z47), .val (.int z48), .val (.int z49), .val (.ref b300), .val (.ref b304), .val (.ref b310), .unset, .unset, .unset, .unset, .unset, .unset, .unset, .unset, .unset] [(.int z49), (.int (2 : Int32)), (.ref b304)])) rfl rfl (hb hby at_181)
            have V374 : own_Arf Z h374 b304 .int 3 (fun i => if i = 2 then (.int z49) else (.int (gf350 i))) := V374
            obtain ⟨gf374, hgf374, V374'⟩ := own_nameI (g := gf350) V374
            have F375 : own_Arf Z h374 b300 .int 3 (fun i => (.int (gf366 i))) := F367.other W374 ne305
            have F376 : own_Arf Z h374 b304 .int 3 (fun i => (.int (gf374 i))) := V374'
            have F377 : own_Arf Z h374 b310 .boolean 3 (fun i => (.int (gf358 i))) := F369.other W374 (Ne.symm ne312)
            have Zs378 : n0 ≤ h374.size := by rw [W374.size]; exact Zs370
            have N379 := Fr.snoc X374 N371 ge304
            have K380 : Keep h0 h374 [] := K372.wr W374 (Or.inr old304)
            have r374 : own_R p.tables e below F0 (T374.setTop (mkF m 182 #[.val (.int p0s), .val (.long p1s), .second, .val (.long p2s), .second, .val (.long p3s), .second, .val (.int (3 : Int32)), .val (.int k0), .val (.int k1), .val (.int k2), .val (.int z44), .val (.int z45), .val (.int z46), .val (.int z47), .val (.int z48), .val (.int z49), .val (.ref b300), .val (.ref b304), .val (.ref b310), .unset, .unset, .unset, .unset, .unset, .unset, .unset, .unset, .unset] [])) := fun tg_ kg_ => r373 tg_ (st374 tg_ kg_)
            have r381 : own_R p.tables e below F0 (T374.setTop (mkF m 187 #[.val (.int p0s), .val (.long p1s), .second, .val (.long p2s), .second, .val (.long p3s), .second, .val (.int (3 : Int32)), .val (.int k0), .val (.int k1), .val (.int k2), .val (.int z44), .val (.int z45), .val (.int z46), .val (.int z47), .val (.int z48), .val (.int z49), .val (.ref b300), .val (.ref b304), .val (.ref b310), .unset, .unset, .unset, .unset, .unset, .unset, .unset, .unset, .unset] [(.int k2), (.int (2 : Int32)), (.ref b310)])) := fun tg_ kg_ => by
              refine r374 tg_ ?_
              show Steps p.tables e below (T374.setTop (mkF m 182 #[.val (.int p0s), .val (.long p1s), .second, .val (.long p2s), .second, .val (.long p3s), .second, .val (.int (3 : Int32)), .val (.int k0), .val (.int k1), .val (.int k2), .val (.int z44), .val (.int z45), .val (.int z46), .val (.int z47), .val (.int z48), .val (.int z49), .val (.ref b300), .val (.ref b304), .val (.ref b310), .unset, .unset, .unset, .unset, .unset, .unset, .unset, .unset, .unset] [])) _
              refine XS.aload X374.here hx rfl (hb hby at_182) rfl rfl ?_
              show Steps p.tables e below (T374.setTop (mkF m 184 #[.val (.int p0s), .val (.long p1s), .second, .val (.long p2s), .second, .val (.long p3s), .second, .val (.int (3 : Int32)), .val (.int k0), .val (.int k1), .val (.int k2), .val (.int z44), .val (.int z45), .val (.int z46), .val (.int z47), .val (.int z48), .val (.int z49), .val (.ref b300), .val (.ref b304), .val (.ref b310), .unset, .unset, .unset, .unset, .unset, .unset, .unset, .unset, .unset] [(.ref b310)])) _
              refine XS.iconst X374.here hx rfl (hb hby at_184) ?_
              show Steps p.tables e below (T374.setTop (mkF m 185 #[.val (.int p0s), .val (.long p1s), .second, .val (.long p2s), .second, .val (.long p3s), .second, .val (.int (3 : Int32)), .val (.int k0), .val (.int k1), .val (.int k2), .val (.int z44), .val (.int z45), .val (.int z46), .val (.int z47), .val (.int z48), .val (.int z49), .val (.ref b300), .val (.ref b304), .val (.ref b310), .unset, .unset, .unset, .unset, .unset, .unset, .unset, .unset, .unset] [(.int (2 : Int32)), (.ref b310)])) _
              refine XS.iload X374.here hx rfl (hb hby at_185) rfl ?_
              exact kg_
            obtain ⟨T382, h382, X382, e382, W382, V382, st382⟩ := own_stZ X374 hx hZ e374 (j := (2 : Int32)) F377 (by decide) (by decide) (g := (mkF m 187 #[.val (.int p0s), .val (.long p1s), .second, .val (.long p2s), .second, .val (.long p3s), .second, .val (.int (3 : Int32)), .val (.int k0), .val (.int k1), .val (.int k2), .val (.int z44), .val (.int z45), .val (.int z46), .val (.int z47), .val (.int z48), .val (.int z49), .val (.ref b300), .val (.ref b304), .val (.ref b310), .unset, .unset, .unset, .unset, .unset, .unset, .unset, .unset, .unset] [(.int k2), (.int (2 : Int32)), (.ref b310)])) rfl rfl (hb hby at_187)
            have V382 : own_Arf Z h382 b310 .boolean 3 (fun i => if i = 2 then (.int (nar .boolean k2)) else (.int (gf358 i))) := V382
            obtain ⟨gf382, hgf382, V382'⟩ := own_nameI (g := gf358) V382
            have F383 : own_Arf Z h382 b300 .int 3 (fun i => (.int (gf366 i))) := F375.other W382 ne311
            have F384 : own_Arf Z h382 b304 .int 3 (fun i => (.int (gf374 i))) := F376.other W382 ne312
            have F385 : own_Arf Z h382 b310 .boolean 3 (fun i => (.int (gf382 i))) := V382'
            have Zs386 : n0 ≤ h382.size := by rw [W382.size]; exact Zs378
            have N387 := Fr.snoc X382 N379 ge310
            have K388 : Keep h0 h382 [] := K380.wr W382 (Or.inr old310)
            have r382 : own_R p.tables e below F0 (T382.setTop (mkF m 188 #[.val (.int p0s), .val (.long p1s), .second, .val (.long p2s), .second, .val (.long p3s), .second, .val (.int (3 : Int32)), .val (.int k0), .val (.int k1), .val (.int k2), .val (.int z44), .val (.int z45), .val (.int z46), .val (.int z47), .val (.int z48), .val (.int z49), .val (.ref b300), .val (.ref b304), .val (.ref b310), .unset, .unset, .unset, .unset, .unset, .unset, .unset, .unset, .unset] [])) := fun tg_ kg_ => r381 tg_ (st382 tg_ kg_)
            exact J51 (3 : Int32) b300 b304 b310 3 gf366 gf374 gf382 T382 _ _ X382 e382 N387 Zs386 K388 F383 F384 F385 (by decide) (by decide) ⟨fun _ => ⟨(by rw [hgf366, if_neg (by decide), hgf342, if_neg (by decide), hgf318, if_pos rfl]), (by rw [hgf374, if_neg (by decide), hgf350, if_neg (by decide), hgf326, if_pos rfl]), (congrArg Int32.toInt (by rw [hgf382, if_neg (by decide), hgf358, if_neg (by decide), hgf334, if_pos rfl])).trans (own_narB hk0)⟩, fun _ => ⟨(by rw [hgf366, if_neg (by decide), hgf342, if_pos rfl]), (by rw [hgf374, if_neg (by decide), hgf350, if_pos rfl]), (congrArg Int32.toInt (by rw [hgf382, if_neg (by decide), hgf358, if_pos rfl])).trans (own_narB hk1)⟩, fun _ => ⟨(by rw [hgf366, if_pos rfl]), (by rw [hgf374, if_pos rfl]), (congrArg Int32.toInt (by rw [hgf382, if_pos rfl])).trans (own_narB hk2)⟩⟩ r382
        by_cases hc389 : (p0s &&& (16 : Int32)) = (0 : Int32)
        · have r390 : own_R p.tables e below F0 (s₁.setTop (mkF m 44 #[.val (.int p0s), .val (.long p1s), .second, .val (.long p2s), .second, .val (.long p3s), .second, .val (.int z34), .val (.int k0), .val (.int k1), .unset, .unset, .unset, .unset, .unset, .unset, .unset, .unset, .unset, .unset, .unset, .unset, .unset, .unset, .unset, .unset, .unset, .unset, .unset] [(.int (0 : Int32))])) := fun tg_ kg_ => by
            refine r41 tg_ ?_
            show Steps p.tables e below (s₁.setTop (mkF m 36 #[.val (.int p0s), .val (.long p1s), .second, .val (.long p2s), .second, .val (.long p3s), .second, .val (.int z34), .val (.int k0), .val (.int k1), .unset, .unset, .unset, .unset, .unset, .unset, .unset, .unset, .unset, .unset, .unset, .unset, .unset, .unset, .unset, .unset, .unset, .unset, .unset] [(.int (p0s &&& (16 : Int32)))])) _
            refine XS.ifYes X0.here hx rfl (pc0 := 36) (pc' := 43) rfl (hb hby at_36) rfl ((if0 _ _).trans (teq hc389).1) (by decide) (by decide) ?_
            show Steps p.tables e below (s₁.setTop (mkF m 43 #[.val (.int p0s), .val (.long p1s), .second, .val (.long p2s), .second, .val (.long p3s), .second, .val (.int z34), .val (.int k0), .val (.int k1), .unset, .unset, .unset, .unset, .unset, .unset, .unset, .unset, .unset, .unset, .unset, .unset, .unset, .unset, .unset, .unset, .unset, .unset, .unset] [])) _
            refine XS.iconst X0.here hx rfl (hb hby at_43) ?_
            exact kg_
          exact J42 (0 : Int32) (by decide) r390
        · have r391 : own_R p.tables e below F0 (s₁.setTop (mkF m 44 #[.val (.int p0s), .val (.long p1s), .second, .val (.long p2s), .second, .val (.long p3s), .second, .val (.int z34), .val (.int k0), .val (.int k1), .unset, .unset, .unset, .unset, .unset, .unset, .unset, .unset, .unset, .unset, .unset, .unset, .unset, .unset, .unset, .unset, .unset, .unset, .unset] [(.int (1 : Int32))])) := fun tg_ kg_ => by
            refine r41 tg_ ?_
            show Steps p.tables e below (s₁.setTop (mkF m 36 #[.val (.int p0s), .val (.long p1s), .second, .val (.long p2s), .second, .val (.long p3s), .second, .val (.int z34), .val (.int k0), .val (.int k1), .unset, .unset, .unset, .unset, .unset, .unset, .unset, .unset, .unset, .unset, .unset, .unset, .unset, .unset, .unset, .unset, .unset, .unset, .unset] [(.int (p0s &&& (16 : Int32)))])) _
            refine XS.ifNo X0.here hx rfl (hb hby at_36) rfl ((if0 _ _).trans (feq hc389).1) ?_
            show Steps p.tables e below (s₁.setTop (mkF m 39 #[.val (.int p0s), .val (.long p1s), .second, .val (.long p2s), .second, .val (.long p3s), .second, .val (.int z34), .val (.int k0), .val (.int k1), .unset, .unset, .unset, .unset, .unset, .unset, .unset, .unset, .unset, .unset, .unset, .unset, .unset, .unset, .unset, .unset, .unset, .unset, .unset] [])) _
            refine XS.iconst X0.here hx rfl (hb hby at_39) ?_
            show Steps p.tables e below (s₁.setTop (mkF m 40 #[.val (.int p0s), .val (.long p1s), .second, .val (.long p2s), .second, .val (.long p3s), .second, .val (.int z34), .val (.int k0), .val (.int k1), .unset, .unset, .unset, .unset, .unset, .unset, .unset, .unset, .unset, .unset, .unset, .unset, .unset, .unset, .unset, .unset, .unset, .unset, .unset] [(.int (1 : Int32))])) _
            refine XS.goto X0.here hx rfl (pc0 := 40) (pc' := 44) rfl (hb hby at_40) (by decide) (by decide) ?_
            exact kg_
          exact J42 (1 : Int32) (by decide) r391
      by_cases hc392 : (p0s &&& (8 : Int32)) = (0 : Int32)
      · have r393 : own_R p.tables e below F0 (s₁.setTop (mkF m 30 #[.val (.int p0s), .val (.long p1s), .second, .val (.long p2s), .second, .val (.long p3s), .second, .val (.int z34), .val (.int k0), .unset, .unset, .unset, .unset, .unset, .unset, .unset, .unset, .unset, .unset, .unset, .unset, .unset, .unset, .unset, .unset, .unset, .unset, .unset, .unset] [(.int (0 : Int32))])) := fun tg_ kg_ => by
          refine r38 tg_ ?_
          show Steps p.tables e below (s₁.setTop (mkF m 22 #[.val (.int p0s), .val (.long p1s), .second, .val (.long p2s), .second, .val (.long p3s), .second, .val (.int z34), .val (.int k0), .unset, .unset, .unset, .unset, .unset, .unset, .unset, .unset, .unset, .unset, .unset, .unset, .unset, .unset, .unset, .unset, .unset, .unset, .unset, .unset] [(.int (p0s &&& (8 : Int32)))])) _
          refine XS.ifYes X0.here hx rfl (pc0 := 22) (pc' := 29) rfl (hb hby at_22) rfl ((if0 _ _).trans (teq hc392).1) (by decide) (by decide) ?_
          show Steps p.tables e below (s₁.setTop (mkF m 29 #[.val (.int p0s), .val (.long p1s), .second, .val (.long p2s), .second, .val (.long p3s), .second, .val (.int z34), .val (.int k0), .unset, .unset, .unset, .unset, .unset, .unset, .unset, .unset, .unset, .unset, .unset, .unset, .unset, .unset, .unset, .unset, .unset, .unset, .unset, .unset] [])) _
          refine XS.iconst X0.here hx rfl (hb hby at_29) ?_
          exact kg_
        exact J39 (0 : Int32) (by decide) r393
      · have r394 : own_R p.tables e below F0 (s₁.setTop (mkF m 30 #[.val (.int p0s), .val (.long p1s), .second, .val (.long p2s), .second, .val (.long p3s), .second, .val (.int z34), .val (.int k0), .unset, .unset, .unset, .unset, .unset, .unset, .unset, .unset, .unset, .unset, .unset, .unset, .unset, .unset, .unset, .unset, .unset, .unset, .unset, .unset] [(.int (1 : Int32))])) := fun tg_ kg_ => by
          refine r38 tg_ ?_
          show Steps p.tables e below (s₁.setTop (mkF m 22 #[.val (.int p0s), .val (.long p1s), .second, .val (.long p2s), .second, .val (.long p3s), .second, .val (.int z34), .val (.int k0), .unset, .unset, .unset, .unset, .unset, .unset, .unset, .unset, .unset, .unset, .unset, .unset, .unset, .unset, .unset, .unset, .unset, .unset, .unset, .unset] [(.int (p0s &&& (8 : Int32)))])) _
          refine XS.ifNo X0.here hx rfl (hb hby at_22) rfl ((if0 _ _).trans (feq hc392).1) ?_
          show Steps p.tables e below (s₁.setTop (mkF m 25 #[.val (.int p0s), .val (.long p1s), .second, .val (.long p2s), .second, .val (.long p3s), .second, .val (.int z34), .val (.int k0), .unset, .unset, .unset, .unset, .unset, .unset, .unset, .unset, .unset, .unset, .unset, .unset, .unset, .unset, .unset, .unset, .unset, .unset, .unset, .unset] [])) _
          refine XS.iconst X0.here hx rfl (hb hby at_25) ?_
          show Steps p.tables e below (s₁.setTop (mkF m 26 #[.val (.int p0s), .val (.long p1s), .second, .val (.long p2s), .second, .val (.long p3s), .second, .val (.int z34), .val (.int k0), .unset, .unset, .unset, .unset, .unset, .unset, .unset, .unset, .unset, .unset, .unset, .unset, .unset, .unset, .unset, .unset, .unset, .unset, .unset, .unset] [(.int (1 : Int32))])) _
          refine XS.goto X0.here hx rfl (pc0 := 26) (pc' := 30) rfl (hb hby at_26) (by decide) (by decide) ?_
          exact kg_
        exact J39 (1 : Int32) (by decide) r394
    by_cases hc395 : (p0s &&& (4 : Int32)) = (0 : Int32)
    · have r396 : own_R p.tables e below F0 (s₁.setTop (mkF m 16 #[.val (.int p0s), .val (.long p1s), .second, .val (.long p2s), .second, .val (.long p3s), .second, .val (.int z34), .unset, .unset, .unset, .unset, .unset, .unset, .unset, .unset, .unset, .unset, .unset, .unset, .unset, .unset, .unset, .unset, .unset, .unset, .unset, .unset, .unset] [(.int (0 : Int32))])) := fun tg_ kg_ => by
        refine r35 tg_ ?_
        show Steps p.tables e below (s₁.setTop (mkF m 8 #[.val (.int p0s), .val (.long p1s), .second, .val (.long p2s), .second, .val (.long p3s), .second, .val (.int z34), .unset, .unset, .unset, .unset, .unset, .unset, .unset, .unset, .unset, .unset, .unset, .unset, .unset, .unset, .unset, .unset, .unset, .unset, .unset, .unset, .unset] [(.int (p0s &&& (4 : Int32)))])) _
        refine XS.ifYes X0.here hx rfl (pc0 := 8) (pc' := 15) rfl (hb hby at_8) rfl ((if0 _ _).trans (teq hc395).1) (by decide) (by decide) ?_
        show Steps p.tables e below (s₁.setTop (mkF m 15 #[.val (.int p0s), .val (.long p1s), .second, .val (.long p2s), .second, .val (.long p3s), .second, .val (.int z34), .unset, .unset, .unset, .unset, .unset, .unset, .unset, .unset, .unset, .unset, .unset, .unset, .unset, .unset, .unset, .unset, .unset, .unset, .unset, .unset, .unset] [])) _
        refine XS.iconst X0.here hx rfl (hb hby at_15) ?_
        exact kg_
      exact J36 (0 : Int32) (by decide) r396
    · have r397 : own_R p.tables e below F0 (s₁.setTop (mkF m 16 #[.val (.int p0s), .val (.long p1s), .second, .val (.long p2s), .second, .val (.long p3s), .second, .val (.int z34), .unset, .unset, .unset, .unset, .unset, .unset, .unset, .unset, .unset, .unset, .unset, .unset, .unset, .unset, .unset, .unset, .unset, .unset, .unset, .unset, .unset] [(.int (1 : Int32))])) := fun tg_ kg_ => by
        refine r35 tg_ ?_
        show Steps p.tables e below (s₁.setTop (mkF m 8 #[.val (.int p0s), .val (.long p1s), .second, .val (.long p2s), .second, .val (.long p3s), .second, .val (.int z34), .unset, .unset, .unset, .unset, .unset, .unset, .unset, .unset, .unset, .unset, .unset, .unset, .unset, .unset, .unset, .unset, .unset, .unset, .unset, .unset, .unset] [(.int (p0s &&& (4 : Int32)))])) _
        refine XS.ifNo X0.here hx rfl (hb hby at_8) rfl ((if0 _ _).trans (feq hc395).1) ?_
        show Steps p.tables e below (s₁.setTop (mkF m 11 #[.val (.int p0s), .val (.long p1s), .second, .val (.long p2s), .second, .val (.long p3s), .second, .val (.int z34), .unset, .unset, .unset, .unset, .unset, .unset, .unset, .unset, .unset, .unset, .unset, .unset, .unset, .unset, .unset, .unset, .unset, .unset, .unset, .unset, .unset] [])) _
        refine XS.iconst X0.here hx rfl (hb hby at_11) ?_
        show Steps p.tables e below (s₁.setTop (mkF m 12 #[.val (.int p0s), .val (.long p1s), .second, .val (.long p2s), .second, .val (.long p3s), .second, .val (.int z34), .unset, .unset, .unset, .unset, .unset, .unset, .unset, .unset, .unset, .unset, .unset, .unset, .unset, .unset, .unset, .unset, .unset, .unset, .unset, .unset, .unset] [(.int (1 : Int32))])) _
        refine XS.goto X0.here hx rfl (pc0 := 12) (pc' := 16) rfl (hb hby at_12) (by decide) (by decide) ?_
        exact kg_
      exact J36 (1 : Int32) (by decide) r397
  exact key _ _ id (fun t k => castTop (ef_0 m p0s p1s p2s p3s) k)
set_option maxRecDepth 65536 in
set_option maxHeartbeats 40000000 in
theorem comes_1 {Post : Tables → Env → Array Value → State → Outcome → State → Prop} (hpost : ∀ tb e args s v u, (limb_1_1.after args s (.returned v) u = true ∧ limb_1_2.after args s (.returned v) u = true ∧ True) → FrameEnd s (.returned v) u (Jvm.fieldLocs frame_1_writes args s ++ Jvm.arrayLocs frame_1_arrays args s ++ Jvm.staticLocs frame_1_statics s) 16 128 → Post tb e args s (.returned v) u) :
    ArmFor flags0 classFile x code maxLocals ret World_1 tables_1 room_1 Calls_1 rest_1 Pre_1 Post := by
  intro l hfl _ _ p e ha hc hk s m args below hf hA hF happ hP
  obtain ⟨hcalls, hrest, hpre⟩ := hP
  obtain ⟨-, -, -, hnamed, -, -, -, hat⟩ := (Spec.applies_iff hf).mp happ
  obtain ⟨hg, hn⟩ := and_e (Cond.before_iff.mp (show (Jvm.Cond.and given_1 narrow_1).before args s = true from hpre))
  obtain ⟨gw1, gw2⟩ := and_e hg
  obtain ⟨gw3, gw4⟩ := and_e gw2
  obtain ⟨gw5, gw6⟩ := and_e gw4
  obtain ⟨gw7, gw8⟩ := and_e gw6
  obtain ⟨w0, w1, w2, w3, rfl⟩ : ∃ w0 w1 w2 w3 : Value, args = #[w0, w1, w2, w3] := by
    have hs : args.size = 4 := by simpa [Cond.value, given_1] using gw1
    obtain ⟨L⟩ := args
    match L, hs with
    | [w0, w1, w2, w3], _ => exact ⟨w0, w1, w2, w3, rfl⟩
  have hw := fun d (hd : d ∈ tables_1) => atoms_spec (ws := Jvm.Cond.code x code maxLocals ret :: tables_1) hat d (List.mem_cons_of_mem _ hd)
  have hfit : Fit s := fun {y c} hc i hi => by
    obtain ⟨ha, rfl⟩ := Array.getElem?_eq_some_iff.mp hc
    have q := List.all_eq_true.mp ((Array.all_eq_true_iff_forall_mem.mp hF) _ (Array.getElem_mem ha)) i (List.mem_range.mpr hi)
    simpa [Array.getElem?_eq_getElem hi] using q
  obtain ⟨i0, ei0⟩ := is_v gw3
  obtain rfl : w0 = (.int i0) := Option.some.inj ei0
  obtain ⟨i1, ei1⟩ := isL_v gw5
  obtain rfl : w1 = (.long i1) := Option.some.inj ei1
  obtain ⟨i2, ei2⟩ := isL_v gw7
  obtain rfl : w2 = (.long i2) := Option.some.inj ei2
  obtain ⟨i3, ei3⟩ := isL_v gw8
  obtain rfl : w3 = (.long i3) := Option.some.inj ei3
  obtain ⟨n, o, h1, h2, h3, _, L, rfl, ⟨rfl, N⟩, hq⟩ := rm0 l s _ hw tables_1 i0 i1 i2 i3  s.heap s.heap.size (Nat.le_refl _)  p e ha hc hk s m _ below hf ((Spec.applies_iff_loose hf).mp happ).1 ⟨rfl, State.Warmed39.refl s, rfl⟩ trivial
  refine ⟨n, _, h1, h2, h3, hpost _ _ _ _ _ _ ⟨Cond.after_iff.mpr rfl, Cond.after_iff.mpr (eq_i res_at (Term.int_eval (1)) rfl), trivial⟩ ⟨hq.1, hq.2.1, (hq.2.2.sift fun y hy => Or.inr (N y hy)).mono (by decide) (by decide)⟩⟩
theorem main_1_1 : Claimed_1_1 := comes_1 fun _ _ _ _ _ _ h hF => ⟨h.1, hF⟩
theorem main_1_2 : Claimed_1_2 := comes_1 fun _ _ _ _ _ _ h hF => ⟨h.2.1, hF⟩
end Jvm.Pilot.@@N@@
namespace Jvm.Pilot.@@N@@
open Jvm Jvm.ClassFile Sem Op Lib Jvm.Free Jvm.Stand Jvm.Pilot.@@N@@.Jvm.D
/-! MADE BY PROGRAM (witnessworld.py) out of the Statement's table words and the real class files: 11 classes; the members and pool entries that the words name. The judged class is class 1, her method 2. -/
namespace start1
open Jvm.ClassFile
def u (s : String) : CpInfo := .utf8 (stringToUtf16 s)
/-- a pool by its gaps: so many unusable entries, then the entry; so many at the end -/
def gap : Nat → List CpInfo → List CpInfo
  | 0, r => r
  | n + 1, r => .unusable :: gap n r
def poolList (es : List (Nat × CpInfo)) (last : Nat) : List CpInfo := es.foldr (fun e r => gap e.1 (e.2 :: r)) (gap last [])
def pool (es : List (Nat × CpInfo)) (last : Nat) : Array CpInfo := ⟨poolList es last⟩
def fileOf (pool : Array CpInfo) (this : Nat) (attrs : Array Attribute := #[]) (ms : Array MethodInfo := #[]) (fl : Nat := 33) (sup : Nat := 0) (ifs : Array Nat := #[]) (fds : Array FieldInfo := #[]) : ClassFile where
  minorVersion := 0
  majorVersion := 65
  constantPool := pool
  accessFlags := fl
  thisClass := this
  superClass := sup
  interfaces := ifs
  fields := fds
  methods := ms
  attributes := attrs
def plain (name : String) (sup : Option ClassId) : Class where
  name := name
  kind := .ordinary
  loader := none
  accessFlags := 33
  super := sup
  interfaces := #[]
  cf := none
  fields := #[]
  methods := #[]
  instanceTypes := #[]
  staticTypes := #[]
  resolved := #[]
  callSites := []
  init := .initialized
  statics := none
  mirror := none

def pool0 : Array CpInfo := pool [(5, u "<init>"), (0, u "()V"), (1, .class_ 10), (1, u "java/lang/Object")] 113

def k0m0 : Method := { name := "<init>", desc := "()V", sig := { parameters := [], returnType := none }, accessFlags := 1, code := none }
/-- java/lang/Object -/
def k0 : Class := { plain "java/lang/Object" none with
  accessFlags := 33
  interfaces := #[]
  cf := some (fileOf pool0 8 #[] #[{ accessFlags := 1, nameIndex := 5, descriptorIndex := 6, attributes := #[] }] 33 0 #[] #[])
  fields := #[]
  methods := #[k0m0]
  instanceTypes := #[]
  staticTypes := #[]
  resolved := Array.replicate 124 none
  statics := none }

def pool1 : Array CpInfo := pool [(2, .class_ 4), (1, u "java/lang/Object"), (0, u "<init>"), (0, u "()V"), (0, .integer 2147483647), (0, .methodref 9 10), (0, .class_ 11), (0, .nameAndType 12 13), (0, u "org/fractile/core/RefinementMostAbovePinLaw"), (0, u "excess"), (0, u "(IIZII)J"), (0, .methodref 15 16), (0, .class_ 17), (0, .nameAndType 18 19), (0, u "org/fractile/core/Refinement"), (0, u "mostAbove"), (0, u "([I[I[Z)I"), (3, u "law"), (0, u "(IJJJ)Z")] 6

def k1m0 : Method := { name := "<init>", desc := "()V", sig := { parameters := [], returnType := none }, accessFlags := 1, code := none }
def k1c1 : Code := { maxStack := 4, maxLocals := 5, code := method_2_code, exceptionTable := #[], attributes := #[] }
def k1m1 : Method := { name := "excess", desc := "(IIZII)J", sig := { parameters := [.int, .int, .boolean, .int, .int], returnType := some .long }, accessFlags := 10, code := some k1c1 }
def k1c2 : Code := { maxStack := 5, maxLocals := 29, code := code, exceptionTable := #[], attributes := #[] }
def k1m2 : Method := { name := "law", desc := "(IJJJ)Z", sig := { parameters := [.int, .long, .long, .long], returnType := some .boolean }, accessFlags := 9, code := some k1c2 }
/-- org/fractile/core/RefinementMostAbovePinLaw -/
def k1 : Class := { plain "org/fractile/core/RefinementMostAbovePinLaw" (some 0) with
  accessFlags := 49
  interfaces := #[]
  cf := some (fileOf pool1 9 #[] #[{ accessFlags := 1, nameIndex := 5, descriptorIndex := 6, attributes := #[] }, { accessFlags := 10, nameIndex := 12, descriptorIndex := 13, attributes := #[] }, { accessFlags := 9, nameIndex := 23, descriptorIndex := 24, attributes := #[] }] 49 2 #[] #[])
  fields := #[]
  methods := #[k1m0, k1m1, k1m2]
  instanceTypes := #[]
  staticTypes := #[]
  resolved := Array.replicate 31 none
  statics := none }

def pool2 : Array CpInfo := pool [(2, .class_ 4), (1, u "java/lang/Object"), (3, .class_ 10), (1, u "org/fractile/core/Refinement"), (0, u "region"), (0, u "Lorg/fractile/graph/Graph;"), (2, u "weight"), (0, u "[I"), (2, u "part"), (2, u "capacity"), (2, u "size"), (2, u "count"), (0, .class_ 30), (0, u "org/fractile/core/Refinement$Connectivity"), (5, u "connectivity"), (0, u "Lorg/fractile/core/Refinement$Connectivity;"), (2, u "floor"), (3, u "D"), (2, u "arcsTo"), (0, u "[D"), (2, u "touched"), (35, u "mostAbove"), (0, u "([I[I[Z)I"), (0, .class_ 90), (0, u "org/fractile/core/Refinement$Chains"), (52, u "MAX_PASSES"), (0, u "I"), (2, u "SEARCH_LIMIT")] 16

def k2c0 : Code := { maxStack := 4, maxLocals := 5, code := prog_37_method_5_code, exceptionTable := #[], attributes := #[] }
def k2m0 : Method := { name := "mostAbove", desc := "([I[I[Z)I", sig := { parameters := [(.array .int), (.array .int), (.array .boolean)], returnType := some .int }, accessFlags := 8, code := some k2c0 }
/-- org/fractile/core/Refinement -/
def k2 : Class := { plain "org/fractile/core/Refinement" (some 0) with
  accessFlags := 48
  interfaces := #[]
  cf := some (fileOf pool2 8 #[.nestMembers #[29, 89]] #[{ accessFlags := 8, nameIndex := 87, descriptorIndex := 88, attributes := #[] }] 48 2 #[] #[{ accessFlags := 26, nameIndex := 143, descriptorIndex := 144, attributes := #[] }, { accessFlags := 26, nameIndex := 147, descriptorIndex := 144, attributes := #[] }, { accessFlags := 18, nameIndex := 11, descriptorIndex := 12, attributes := #[] }, { accessFlags := 18, nameIndex := 19, descriptorIndex := 16, attributes := #[] }, { accessFlags := 18, nameIndex := 15, descriptorIndex := 16, attributes := #[] }, { accessFlags := 18, nameIndex := 25, descriptorIndex := 16, attributes := #[] }, { accessFlags := 18, nameIndex := 22, descriptorIndex := 16, attributes := #[] }, { accessFlags := 18, nameIndex := 28, descriptorIndex := 16, attributes := #[] }, { accessFlags := 18, nameIndex := 36, descriptorIndex := 37, attributes := #[] }, { accessFlags := 18, nameIndex := 40, descriptorIndex := 44, attributes := #[] }, { accessFlags := 18, nameIndex := 47, descriptorIndex := 48, attributes := #[] }, { accessFlags := 18, nameIndex := 51, descriptorIndex := 16, attributes := #[] }])
  fields := #[{ name := "MAX_PASSES", type := .int, accessFlags := 26, slot := 0, constantValue := 0 }, { name := "SEARCH_LIMIT", type := .int, accessFlags := 26, slot := 1, constantValue := 0 }, { name := "region", type := (.object "org/fractile/graph/Graph"), accessFlags := 18, slot := 0, constantValue := 0 }, { name := "part", type := (.array .int), accessFlags := 18, slot := 1, constantValue := 0 }, { name := "weight", type := (.array .int), accessFlags := 18, slot := 2, constantValue := 0 }, { name := "size", type := (.array .int), accessFlags := 18, slot := 3, constantValue := 0 }, { name := "capacity", type := (.array .int), accessFlags := 18, slot := 4, constantValue := 0 }, { name := "count", type := (.array .int), accessFlags := 18, slot := 5, constantValue := 0 }, { name := "connectivity", type := (.object "org/fractile/core/Refinement$Connectivity"), accessFlags := 18, slot := 6, constantValue := 0 }, { name := "floor", type := .double, accessFlags := 18, slot := 7, constantValue := 0 }, { name := "arcsTo", type := (.array .double), accessFlags := 18, slot := 8, constantValue := 0 }, { name := "touched", type := (.array .int), accessFlags := 18, slot := 9, constantValue := 0 }]
  methods := #[k2m0]
  instanceTypes := #[(.object "org/fractile/graph/Graph"), (.array .int), (.array .int), (.array .int), (.array .int), (.array .int), (.object "org/fractile/core/Refinement$Connectivity"), .double, (.array .double), (.array .int)]
  staticTypes := #[.int, .int]
  resolved := Array.replicate 164 none
  statics := none }

def pool3 : Array CpInfo := pool [(1, u "java/lang/Cloneable"), (0, .class_ 1), (0, u "java/lang/Object"), (0, .class_ 3)] 3

/-- java/lang/Cloneable -/
def k3 : Class := { plain "java/lang/Cloneable" (some 0) with
  accessFlags := 1537
  interfaces := #[]
  cf := some (fileOf pool3 2 #[] #[] 1537 4 #[] #[])
  fields := #[]
  methods := #[]
  instanceTypes := #[]
  staticTypes := #[]
  resolved := Array.replicate 8 none
  statics := none }

def pool4 : Array CpInfo := pool [(1, u "java/io/Serializable"), (0, .class_ 1), (0, u "java/lang/Object"), (0, .class_ 3)] 3

/-- java/io/Serializable -/
def k4 : Class := { plain "java/io/Serializable" (some 0) with
  accessFlags := 1537
  interfaces := #[]
  cf := some (fileOf pool4 2 #[] #[] 1537 4 #[] #[])
  fields := #[]
  methods := #[]
  instanceTypes := #[]
  staticTypes := #[]
  resolved := Array.replicate 8 none
  statics := none }

/-- the primitive boolean -/
def k5 : Class := { plain "boolean" none with kind := .primitive 'Z', accessFlags := 0x411 }
/-- [Z -/
def k6 : Class := { plain "[Z" (some 0) with kind := .array 5 .boolean, interfaces := #[3, 4], accessFlags := 1041 }

/-- the primitive byte -/
def k7 : Class := { plain "byte" none with kind := .primitive 'B', accessFlags := 0x411 }
/-- [B -/
def k8 : Class := { plain "[B" (some 0) with kind := .array 7 .byte, interfaces := #[3, 4], accessFlags := 1041 }

/-- the primitive int -/
def k9 : Class := { plain "int" none with kind := .primitive 'I', accessFlags := 0x411 }
/-- [I -/
def k10 : Class := { plain "[I" (some 0) with kind := .array 9 .int, interfaces := #[3, 4], accessFlags := 1041 }

def heap : Heap := #[]
def classes : Array Class := #[k0, k1, k2, k3, k4, k5, k6, k7, k8, k9, k10]
def interned : List (Array UInt16 × Addr) := []
def slotsUsed : Nat := 0
def theMethod : MethodId := ⟨1, 2⟩
def args0 : Array Value := #[.int 5, .long 3, .long 9, .long 8]
def aboutOver (below : List Frame) : State where
  vm := { classes := classes, interned := interned.toArray }
  heap := heap
  slotsUsed := slotsUsed
  threads := #[{ frames := .invoking theMethod args0 :: below }]
def below0 : List Frame := [.native { method := ⟨0, 0⟩, args := #[] }]
def about1 : State := aboutOver below0
def p0 : Program := .bare "" "" ""
def e0 : Env := launch0.env 0 0 0
theorem w_frames : about1.frames = Frame.invoking theMethod args0 :: below0 := rfl
set_option maxRecDepth 65536 in
theorem w_args : argsFit about1.vm theMethod args0 = true := by decide +kernel
set_option maxRecDepth 65536 in
theorem w_heap : heapFits about1 = true := by decide +kernel
set_option maxRecDepth 65536 in
theorem w_runnable : about1.curStatus? = some .runnable := by decide +kernel
set_option maxRecDepth 65536 in
theorem w_alone : about1.alone = true := by decide +kernel
set_option maxRecDepth 65536 in
theorem w_named : about1.methodNamed? x = some theMethod := by decide +kernel
set_option maxRecDepth 65536 in
theorem w_hears : about1.hears theMethod below0 = true := by decide +kernel
set_option maxRecDepth 65536 in
theorem w_ripe : about1.ripe theMethod args0 below0 = true := by decide +kernel
theorem w_running : about1.status = .running := rfl
set_option maxRecDepth 65536 in
theorem w_room : about1.hasRoom e0.platform room_1 = true :=
  launch0.hasRoom_least _ room_1 (by decide +kernel) (by decide +kernel) (by decide +kernel) (by decide +kernel) (by decide +kernel) (by decide +kernel)
theorem allAtoms_all (ts : List Jvm.Cond) (a : Array Jvm.Value) (st : Jvm.State) : (allAtoms ts).before a st = ts.all (fun c => c.before a st) := by
  induction ts with
  | nil => rfl
  | cons c t ih =>
    show (Jvm.Cond.and c (allAtoms t)).before a st = _
    rw [Jvm.Cond.before_and, ih, List.all_cons]
def words1 : List Jvm.Cond := Jvm.Cond.code x code maxLocals ret :: tables_1
/-- a 'code' word, met by the world's own term for the bytes: nothing is compared byte by byte -/
theorem code_word {y : MethodName} {bytes : ByteArray} {mx : Nat} {rt : Option FieldType} {a : Array Value} {s : State} {m : MethodId} {meth : Method} {c : Code} (h1 : s.methodNamed? y = some m) (h2 : s.vm.method? m = some meth) (h3 : meth.code = some c) (h4 : c.code = bytes)
    (h5 : (c.maxLocals == mx && c.exceptionTable.isEmpty && decide (c.maxStack ≤ mostOperands) && decide (meth.sig.returnType = rt) && !meth.locks && decide (parseMethodDescriptor y.desc = some meth.sig)) = true) : (Jvm.Cond.code y bytes mx rt).before a s = true := by
  simp only [Bool.and_eq_true, beq_iff_eq, Bool.not_eq_true', decide_eq_true_eq] at h5
  obtain ⟨⟨⟨⟨⟨g1, g2⟩, g3⟩, g4⟩, g5⟩, g6⟩ := h5
  simp [Cond.before, Cond.holds, Cond.value, h1, h2, h3, h4, g1, g2, g3, g4, g5, g6]
def isCode : Jvm.Cond → Bool
  | .code _ _ _ _ => true
  | _ => false
theorem all_split {L : List Jvm.Cond} {P : Jvm.Cond → Bool} (h1 : L.all (fun c => isCode c || P c) = true) (h2 : ∀ c ∈ L.filter isCode, P c = true) : L.all P = true := by
  refine List.all_eq_true.mpr fun c hc => ?_
  have h := List.all_eq_true.mp h1 c hc
  rcases Bool.eq_false_or_eq_true (isCode c) with hi | hi
  · exact h2 c (List.mem_filter.mpr ⟨hc, hi⟩)
  · simpa [hi] using h
set_option maxRecDepth 65536 in
theorem w_c0 : (Jvm.Cond.code x code maxLocals ret).before args0 about1 = true := code_word (m := ⟨1, 2⟩) (meth := k1m2) (c := k1c2) (by decide +kernel) rfl rfl rfl (by decide +kernel)
set_option maxRecDepth 65536 in
theorem w_c1 : (Jvm.Cond.code ({ cls := "org/fractile/core/RefinementMostAbovePinLaw", name := "excess", desc := "(IIZII)J" } : Jvm.MethodName) method_2_code (5 : Nat) (Option.some Jvm.ClassFile.FieldType.long)).before args0 about1 = true := code_word (m := ⟨1, 1⟩) (meth := k1m1) (c := k1c1) (by decide +kernel) rfl rfl rfl (by decide +kernel)
set_option maxRecDepth 65536 in
theorem w_c2 : (Jvm.Cond.code ({ cls := "org/fractile/core/Refinement", name := "mostAbove", desc := "([I[I[Z)I" } : Jvm.MethodName) prog_37_method_5_code (5 : Nat) (Option.some Jvm.ClassFile.FieldType.int)).before args0 about1 = true := code_word (m := ⟨2, 0⟩) (meth := k2m0) (c := k2c0) (by decide +kernel) rfl rfl rfl (by decide +kernel)
def codes1 : List Jvm.Cond := [Jvm.Cond.code x code maxLocals ret, Jvm.Cond.code ({ cls := "org/fractile/core/RefinementMostAbovePinLaw", name := "excess", desc := "(IIZII)J" } : Jvm.MethodName) method_2_code (5 : Nat) (Option.some Jvm.ClassFile.FieldType.long), Jvm.Cond.code ({ cls := "org/fractile/core/Refinement", name := "mostAbove", desc := "([I[I[Z)I" } : Jvm.MethodName) prog_37_method_5_code (5 : Nat) (Option.some Jvm.ClassFile.FieldType.int)]
set_option maxRecDepth 65536 in
theorem codes_eq : words1.filter isCode = codes1 := rfl
theorem w_codes : ∀ c ∈ words1.filter isCode, c.before args0 about1 = true := by
  rw [codes_eq]
  intro c hc
  simp only [codes1, List.mem_cons, List.not_mem_nil, or_false] at hc
  rcases hc with rfl | rfl | rfl
  · exact w_c0
  · exact w_c1
  · exact w_c2
set_option maxRecDepth 65536 in
theorem w_t1 : words1.all (fun c => isCode c || c.before args0 about1) = true := by decide +kernel
theorem w_tables : (allAtoms (Jvm.Cond.code x code maxLocals ret :: tables_1)).before args0 about1 = true := by
  rw [allAtoms_all]
  show words1.all (fun c => c.before args0 about1) = true
  refine all_split ?_ w_codes
  rw [w_t1]
set_option maxRecDepth 65536 in
theorem w_case : (Jvm.Cond.and given_1 narrow_1).before args0 about1 = true := by decide +kernel
theorem w_applies : (headSpec (Jvm.Cond.code x code maxLocals ret :: tables_1) room_1).applies x e0.platform about1 = true :=
  (Spec.applies_iff w_frames).mpr ⟨w_running, w_runnable, w_alone, w_named, w_hears, w_ripe, w_room, w_tables⟩
theorem atStart : AtStart classFile x code maxLocals ret World_1 tables_1 room_1 Calls_1 rest_1 Pre_1 launch0 p0 e0 about1 theMethod args0 below0 :=
  ⟨lists_1, trivial, launch0.admits_env _ _ _, launch0.least_env, fairChoices_fair.cas, fairChoices_fair.clock, w_frames, w_args, w_heap, w_applies, trivial, trivial, w_case⟩
end start1
theorem witness_1 : WitnessClaimed_1 := ⟨start1.p0, start1.e0, start1.about1, start1.theMethod, start1.args0, start1.below0, start1.atStart⟩
end Jvm.Pilot.@@N@@
