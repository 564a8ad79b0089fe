import JvmDerived
import JvmDerived.Pilot.@@N@@Statement
import JvmDerived.Pilot.@@N@@Code
set_option linter.unusedVariables false
set_option linter.unusedSimpArgs false
namespace Jvm.Pilot.@@N@@
open Jvm Jvm.ClassFile Sem Op Lib Jvm.Free Jvm.Stand Jvm.LawKit Jvm.RoadKit Bundle Jvm.Pilot.@@N@@.Jvm.D
-- OWN KIT (mine): reach, finish, weakening of the counters, arrays by a function, arithmetic in omega's form
abbrev own_R (tb : Tables) (e : Env) (below : List Frame) (F0 F : State) : Prop := ∀ t, Steps tb e below F t → Steps tb e below F0 t
abbrev own_G (p : Program) (e : Env) (below : List Frame) (s F0 : State) (Q : Option Value → Heap → List Loc → Prop) (kc ks : Nat) : Prop :=
  ∃ s₂ o, Steps p.tables e below F0 s₂ ∧ s₂.status = .running ∧ Ended s₂ below o ∧ ∃ v L, o = .returned v ∧ Q v s₂.heap L ∧ FrameEnd s o s₂ L kc ks
section OwnKit
variable {p : Program} {l : Launch} {e : Env} {R : Room} {s : State} {m : MethodId} {args : Array Value} {below : List Frame} {meth : Method} {c : Code} {T : State} {locs : List Loc} {cells slots : Nat}
theorem own_fin (X : Stand p l e R s m args below meth c T locs cells slots) (hl : meth.locks = false) {F0 : State} {Q : Option Value → Heap → List Loc → Prop} {kc ks : Nat} (v : Option Value) (hv : meth.sig.returnType = none → v = none) (hq : Q v T.heap locs) (hc : cells ≤ kc) (hs : slots ≤ ks)
    (st : ∀ fs, (∀ (f : JFrame) (acts : List Action), f.method = m → f.locked = none → f.entered = [] → (doReturn e (T.setTop f) acts v).1 = T.setFrames fs) → Steps p.tables e below F0 (T.setFrames fs)) : own_G p e below s F0 Q kc ks := by
  obtain ⟨fs, hr, hrun, hended, hW, hsame⟩ := X.leave hv hl
  exact ⟨_, _, st fs hr, hrun, hended, _, _, rfl, hq, ⟨_, rfl⟩, hW, hsame.mono hc hs⟩
theorem own_mono (X : Stand p l e R s m args below meth c T locs cells slots) {c' s' : Nat} (hc : cells ≤ c') (hs : slots ≤ s') : Stand p l e R s m args below meth c T locs c' s' := { X with same := X.same.mono hc hs }
end OwnKit
theorem own_hv {meth : Method} {t : FieldType} {v : Option Value} (h : meth.sig.returnType = some t) : meth.sig.returnType = none → v = none := fun q => by rw [h] at q; cases q
theorem own_lt32 {a b : Int32} (h : a < b) : a.toInt < b.toInt := Int32.lt_iff_toInt_lt.mp h
theorem own_nlt32 {a b : Int32} (h : ¬ a < b) : b.toInt ≤ a.toInt := Int.not_lt.mp fun q => h (Int32.lt_iff_toInt_lt.mpr q)
theorem own_eq32 {a b : Int32} (h : a = b) : a.toInt = b.toInt := congrArg Int32.toInt h
theorem own_ne32 {a b : Int32} (h : ¬ a = b) : a.toInt ≠ b.toInt := fun q => h (Int32.toInt_inj.mp q)
theorem own_lt64 {a b : Int64} (h : a < b) : a.toInt < b.toInt := Int64.lt_iff_toInt_lt.mp h
theorem own_nlt64 {a b : Int64} (h : ¬ a < b) : b.toInt ≤ a.toInt := Int.not_lt.mp fun q => h (Int64.lt_iff_toInt_lt.mpr q)
theorem own_eq64 {a b : Int64} (h : a = b) : a.toInt = b.toInt := congrArg Int64.toInt h
theorem own_ne64 {a b : Int64} (h : ¬ a = b) : a.toInt ≠ b.toInt := fun q => h (Int64.toInt_inj.mp q)
theorem own_imulc (x y : Int32) (d : Int) (h : y.toInt = d) : ((x * y).toInt - x.toInt * d) % 4294967296 = 0 := by rw [← h]; exact c_imul x y
theorem own_imulc' (x y : Int32) (d : Int) (h : x.toInt = d) : ((x * y).toInt - d * y.toInt) % 4294967296 = 0 := by rw [← h]; exact c_imul x y
theorem own_lmulc (x y : Int64) (d : Int) (h : y.toInt = d) : ((x * y).toInt - x.toInt * d) % 18446744073709551616 = 0 := by rw [← h]; exact c_lmul x y
theorem own_lmulc' (x y : Int64) (d : Int) (h : x.toInt = d) : ((x * y).toInt - d * y.toInt) % 18446744073709551616 = 0 := by rw [← h]; exact c_lmul x y
theorem own_mask (x m : Int32) (k : Nat) (P : Int) (hk : k ≤ 31) (hm : m.toBitVec.toNat = 2 ^ k - 1) (hP : P = ((2 ^ k : Nat) : Int)) : (x &&& m).toInt = x.toInt % P := by rw [hP]; exact c_mask x m k hk hm
theorem own_maskL (x m : Int64) (k : Nat) (P : Int) (hk : k ≤ 63) (hm : m.toBitVec.toNat = 2 ^ k - 1) (hP : P = ((2 ^ k : Nat) : Int)) : (x &&& m).toInt = x.toInt % P := by rw [hP]; exact c_maskL x m k hk hm
theorem own_ishr (x q : Int32) (k : Nat) (P : Int) (hk : q.toBitVec.toNat % 32 = k) (hP : P = ((2 ^ k : Nat) : Int)) : (x >>> (q &&& 31)).toInt = x.toInt / P := by rw [hP]; exact c_ishr x q k hk
theorem own_ishl (x q : Int32) (k : Nat) (P : Int) (hk : q.toBitVec.toNat % 32 = k) (hP : P = ((2 ^ k : Nat) : Int)) : ((x <<< (q &&& 31)).toInt - x.toInt * P) % 4294967296 = 0 := by rw [hP]; exact c_ishl x q k hk
theorem own_iushr (x q : Int32) (k : Nat) (P : Int) (hk : q.toBitVec.toNat % 32 = k) (h0 : 0 < k) (hP : P = ((2 ^ k : Nat) : Int)) : ((x.toUInt32 >>> (q &&& 31).toUInt32).toInt32).toInt = (x.toInt % 4294967296) / P := by rw [hP]; exact c_iushr x q k hk h0
theorem own_lshr (x : Int64) (q : Int32) (k : Nat) (P : Int) (hk : q.toBitVec.toNat % 64 = k) (hP : P = ((2 ^ k : Nat) : Int)) : (x >>> (q &&& 0x3f).toInt64).toInt = x.toInt / P := by rw [hP]; exact c_lshr x q k hk
theorem own_lshl (x : Int64) (q : Int32) (k : Nat) (P : Int) (hk : q.toBitVec.toNat % 64 = k) (hP : P = ((2 ^ k : Nat) : Int)) : ((x <<< (q &&& 0x3f).toInt64).toInt - x.toInt * P) % 18446744073709551616 = 0 := by rw [hP]; exact c_lshl x q k hk
theorem own_lushr (x : Int64) (q : Int32) (k : Nat) (P : Int) (hk : q.toBitVec.toNat % 64 = k) (h0 : 0 < k) (hP : P = ((2 ^ k : Nat) : Int)) : ((x.toUInt64 >>> (q &&& 0x3f).toInt64.toUInt64).toInt64).toInt = (x.toInt % 18446744073709551616) / P := by rw [hP]; exact c_lushr x q k hk h0
theorem own_lc_lt {x y : Int64} {cd : ClassFile.Cond} {b : Bool} (h : if_icmp.holds cd (lcmpW x y) 0 = b) : ifCond.holds cd (lcmpW x y) = b := (if0 _ _).trans h
theorem own_l_lt {x y : Int64} (h : x < y) : ifCond.holds .lt (lcmpW x y) = true ∧ ifCond.holds .ge (lcmpW x y) = false := ⟨(if0 _ _).trans (tlt ((lw_lt x y).mpr h)).1, (if0 _ _).trans (tlt ((lw_lt x y).mpr h)).2.1⟩
theorem own_l_nlt {x y : Int64} (h : ¬ x < y) : ifCond.holds .lt (lcmpW x y) = false ∧ ifCond.holds .ge (lcmpW x y) = true := ⟨(if0 _ _).trans (flt (fun q => h ((lw_lt x y).mp q))).1, (if0 _ _).trans (flt (fun q => h ((lw_lt x y).mp q))).2.1⟩
theorem own_l_gt {x y : Int64} (h : y < x) : ifCond.holds .gt (lcmpW x y) = true ∧ ifCond.holds .le (lcmpW x y) = false := ⟨(if0 _ _).trans (tlt ((lw_gt x y).mpr h)).2.2.1, (if0 _ _).trans (tlt ((lw_gt x y).mpr h)).2.2.2⟩
theorem own_l_ngt {x y : Int64} (h : ¬ y < x) : ifCond.holds .gt (lcmpW x y) = false ∧ ifCond.holds .le (lcmpW x y) = true := ⟨(if0 _ _).trans (flt (fun q => h ((lw_gt x y).mp q))).2.2.1, (if0 _ _).trans (flt (fun q => h ((lw_gt x y).mp q))).2.2.2⟩
theorem own_l_eq {x y : Int64} (h : x = y) : ifCond.holds .eq (lcmpW x y) = true ∧ ifCond.holds .ne (lcmpW x y) = false := ⟨(if0 _ _).trans (teq ((lw_eq x y).mpr h)).1, (if0 _ _).trans (teq ((lw_eq x y).mpr h)).2⟩
theorem own_l_neq {x y : Int64} (h : ¬ x = y) : ifCond.holds .eq (lcmpW x y) = false ∧ ifCond.holds .ne (lcmpW x y) = true := ⟨(if0 _ _).trans (feq (fun q => h ((lw_eq x y).mp q))).1, (if0 _ _).trans (feq (fun q => h ((lw_eq x y).mp q))).2⟩
theorem own_lrem {x y : Int64} {d : Int} (hy : y.toInt = d) : (0 ≤ x.toInt → (x - (x / y) * y).toInt = x.toInt % d) ∧ (x.toInt < 0 → (x - (x / y) * y).toInt = -((-x.toInt) % d)) := c_lrem x y d hy
theorem own_lremf (x y : Int64) (d : Int) (hy : y.toInt = d) : (0 ≤ x.toInt → (x % y).toInt = x.toInt % d) ∧ (x.toInt < 0 → (x % y).toInt = -((-x.toInt) % d)) := by rw [Int64.toInt_mod, hy]; exact tr _ _
theorem own_lremM {p : Program} {l : Launch} {e : Env} {R : Room} {s : State} {m : MethodId} {args : Array Value} {below : List Frame} {meth : Method} {c : Code} {T : State} {locs : List Loc} {cells slots : Nat} {g : JFrame} {target : State} (X : Stand p l e R s m args below meth c T locs cells slots) (hx : p.tables.exec = Jvm.exec) (hg : g.method = m) {x y : Int64} {rest : List Value} (hd : decode c.code g.pc = .ok (.lrem, 1)) (hs : g.stack = .long y :: .long x :: rest) (hy : y ≠ 0)
    (hr : Steps p.tables e below (T.setTop { g with pc := g.pc + 1, stack := .long (x % y) :: rest }) target) : Steps p.tables e below (T.setTop g) target :=
  XS.lrem X.here hx hg hd hs hy (by rw [lrem_mod]; exact hr)
theorem own_R32 (x : Int32) : -2147483648 ≤ x.toInt ∧ x.toInt ≤ 2147483647 := by have := rng32 x; omega
theorem own_R64 (x : Int64) : -9223372036854775808 ≤ x.toInt ∧ x.toInt ≤ 9223372036854775807 := by have := rng64 x; omega
theorem own_iaddR {x y : Int32} {a b c d : Int} (lo hi : Int) (hx : a ≤ x.toInt ∧ x.toInt ≤ b) (hy : c ≤ y.toInt ∧ y.toInt ≤ d) (h1 : -2147483648 ≤ a + c ∧ b + d ≤ 2147483647) (h2 : lo ≤ a + c ∧ b + d ≤ hi) : (x + y).toInt = x.toInt + y.toInt ∧ lo ≤ (x + y).toInt ∧ (x + y).toInt ≤ hi := by have := c_iadd x y; have := rng32 (x + y); omega
theorem own_isubR {x y : Int32} {a b c d : Int} (lo hi : Int) (hx : a ≤ x.toInt ∧ x.toInt ≤ b) (hy : c ≤ y.toInt ∧ y.toInt ≤ d) (h1 : -2147483648 ≤ a - d ∧ b - c ≤ 2147483647) (h2 : lo ≤ a - d ∧ b - c ≤ hi) : (x - y).toInt = x.toInt - y.toInt ∧ lo ≤ (x - y).toInt ∧ (x - y).toInt ≤ hi := by have := c_isub x y; have := rng32 (x - y); omega
theorem own_laddR {x y : Int64} {a b c d : Int} (lo hi : Int) (hx : a ≤ x.toInt ∧ x.toInt ≤ b) (hy : c ≤ y.toInt ∧ y.toInt ≤ d) (h1 : -9223372036854775808 ≤ a + c ∧ b + d ≤ 9223372036854775807) (h2 : lo ≤ a + c ∧ b + d ≤ hi) : (x + y).toInt = x.toInt + y.toInt ∧ lo ≤ (x + y).toInt ∧ (x + y).toInt ≤ hi := by have := c_ladd x y; have := rng64 (x + y); omega
theorem own_lsubR {x y : Int64} {a b c d : Int} (lo hi : Int) (hx : a ≤ x.toInt ∧ x.toInt ≤ b) (hy : c ≤ y.toInt ∧ y.toInt ≤ d) (h1 : -9223372036854775808 ≤ a - d ∧ b - c ≤ 9223372036854775807) (h2 : lo ≤ a - d ∧ b - c ≤ hi) : (x - y).toInt = x.toInt - y.toInt ∧ lo ≤ (x - y).toInt ∧ (x - y).toInt ≤ hi := by have := c_lsub x y; have := rng64 (x - y); omega
theorem own_imulR {x y : Int32} {a b k : Int} (lo hi : Int) (hx : a ≤ x.toInt ∧ x.toInt ≤ b) (hy : y.toInt = k) (hk : 0 ≤ k) (h1 : -2147483648 ≤ a * k ∧ b * k ≤ 2147483647) (h2 : lo ≤ a * k ∧ b * k ≤ hi) : (x * y).toInt = x.toInt * k ∧ lo ≤ (x * y).toInt ∧ (x * y).toInt ≤ hi := by
  have h := c_imul x y; have := rng32 (x * y); rw [hy] at h
  have p1 := Int.mul_le_mul_of_nonneg_right hx.1 hk; have p2 := Int.mul_le_mul_of_nonneg_right hx.2 hk
  generalize x.toInt * k = z at *; generalize a * k = z1 at *; generalize b * k = z2 at *; omega
theorem own_lmulR {x y : Int64} {a b k : Int} (lo hi : Int) (hx : a ≤ x.toInt ∧ x.toInt ≤ b) (hy : y.toInt = k) (hk : 0 ≤ k) (h1 : -9223372036854775808 ≤ a * k ∧ b * k ≤ 9223372036854775807) (h2 : lo ≤ a * k ∧ b * k ≤ hi) : (x * y).toInt = x.toInt * k ∧ lo ≤ (x * y).toInt ∧ (x * y).toInt ≤ hi := by
  have h := c_lmul x y; have := rng64 (x * y); rw [hy] at h
  have p1 := Int.mul_le_mul_of_nonneg_right hx.1 hk; have p2 := Int.mul_le_mul_of_nonneg_right hx.2 hk
  generalize x.toInt * k = z at *; generalize a * k = z1 at *; generalize b * k = z2 at *; omega
theorem own_imulR' {x y : Int32} {a b k : Int} (lo hi : Int) (hx : a ≤ y.toInt ∧ y.toInt ≤ b) (hy : x.toInt = k) (hk : 0 ≤ k) (h1 : -2147483648 ≤ a * k ∧ b * k ≤ 2147483647) (h2 : lo ≤ a * k ∧ b * k ≤ hi) : (x * y).toInt = y.toInt * k ∧ lo ≤ (x * y).toInt ∧ (x * y).toInt ≤ hi := by rw [Int32.mul_comm]; exact own_imulR lo hi hx hy hk h1 h2
theorem own_lmulR' {x y : Int64} {a b k : Int} (lo hi : Int) (hx : a ≤ y.toInt ∧ y.toInt ≤ b) (hy : x.toInt = k) (hk : 0 ≤ k) (h1 : -9223372036854775808 ≤ a * k ∧ b * k ≤ 9223372036854775807) (h2 : lo ≤ a * k ∧ b * k ≤ hi) : (x * y).toInt = y.toInt * k ∧ lo ≤ (x * y).toInt ∧ (x * y).toInt ≤ hi := by rw [Int64.mul_comm]; exact own_lmulR lo hi hx hy hk h1 h2
theorem own_maskR (x m : Int32) (k : Nat) (P : Int) (hk : k ≤ 31) (hm : m.toBitVec.toNat = 2 ^ k - 1) (hP : P = ((2 ^ k : Nat) : Int)) (hi : Int) (h0 : 0 < P) (h : P ≤ hi + 1) : (x &&& m).toInt = x.toInt % P ∧ 0 ≤ (x &&& m).toInt ∧ (x &&& m).toInt ≤ hi := by
  have e := own_mask x m k P hk hm hP; have h1 := Int.emod_nonneg x.toInt (show P ≠ 0 by omega); have h2 := Int.emod_lt_of_pos x.toInt h0; omega
theorem own_maskLR (x m : Int64) (k : Nat) (P : Int) (hk : k ≤ 63) (hm : m.toBitVec.toNat = 2 ^ k - 1) (hP : P = ((2 ^ k : Nat) : Int)) (hi : Int) (h0 : 0 < P) (h : P ≤ hi + 1) : (x &&& m).toInt = x.toInt % P ∧ 0 ≤ (x &&& m).toInt ∧ (x &&& m).toInt ≤ hi := by
  have e := own_maskL x m k P hk hm hP; have h1 := Int.emod_nonneg x.toInt (show P ≠ 0 by omega); have h2 := Int.emod_lt_of_pos x.toInt h0; omega
theorem own_iremR {x y : Int32} {a b d : Int} (hi : Int) (hx : a ≤ x.toInt ∧ x.toInt ≤ b) (hy : y.toInt = d) (ha : 0 ≤ a) (hd : 0 < d) (h : d ≤ hi + 1) : (x % y).toInt = x.toInt % d ∧ 0 ≤ (x % y).toInt ∧ (x % y).toInt ≤ hi := by
  have e := (c_irem x y d hy).1 (by omega); have h1 := Int.emod_nonneg x.toInt (show d ≠ 0 by omega); have h2 := Int.emod_lt_of_pos x.toInt hd; omega
theorem own_lremR {x y : Int64} {a b d : Int} (hi : Int) (hx : a ≤ x.toInt ∧ x.toInt ≤ b) (hy : y.toInt = d) (ha : 0 ≤ a) (hd : 0 < d) (h : d ≤ hi + 1) : (x % y).toInt = x.toInt % d ∧ 0 ≤ (x % y).toInt ∧ (x % y).toInt ≤ hi := by
  have e := (own_lremf x y d hy).1 (by omega); have h1 := Int.emod_nonneg x.toInt (show d ≠ 0 by omega); have h2 := Int.emod_lt_of_pos x.toInt hd; omega
theorem own_idivR {x y : Int32} {a b d : Int} (lo hi : Int) (hx : a ≤ x.toInt ∧ x.toInt ≤ b) (hy : y.toInt = d) (hy1 : y ≠ -1) (ha : 0 ≤ a) (hd : 0 < d) (h : lo ≤ a / d ∧ b / d ≤ hi) : (x / y).toInt = x.toInt / d ∧ lo ≤ (x / y).toInt ∧ (x / y).toInt ≤ hi := by
  have e := (c_idiv x y d hy hy1).1 (by omega); have h1 := Int.ediv_le_ediv hd hx.1; have h2 := Int.ediv_le_ediv hd hx.2; omega
theorem own_ldivR {x y : Int64} {a b d : Int} (lo hi : Int) (hx : a ≤ x.toInt ∧ x.toInt ≤ b) (hy : y.toInt = d) (hy1 : y ≠ -1) (ha : 0 ≤ a) (hd : 0 < d) (h : lo ≤ a / d ∧ b / d ≤ hi) : (x / y).toInt = x.toInt / d ∧ lo ≤ (x / y).toInt ∧ (x / y).toInt ≤ hi := by
  have e := (c_ldiv x y d hy hy1).1 (by omega); have h1 := Int.ediv_le_ediv hd hx.1; have h2 := Int.ediv_le_ediv hd hx.2; omega
theorem own_l2iR {x : Int64} {a b : Int} (hx : a ≤ x.toInt ∧ x.toInt ≤ b) (h1 : -2147483648 ≤ a ∧ b ≤ 2147483647) : x.toInt32.toInt = x.toInt ∧ a ≤ x.toInt32.toInt ∧ x.toInt32.toInt ≤ b := by have := c_l2i x; have := rng32 x.toInt32; omega
theorem own_i2lR {x : Int32} {a b : Int} (hx : a ≤ x.toInt ∧ x.toInt ≤ b) : x.toInt64.toInt = x.toInt ∧ a ≤ x.toInt64.toInt ∧ x.toInt64.toInt ≤ b := by have := c_i2l x; omega
theorem own_eqR32 {x y : Int32} {a b : Int} (h : x = y) (hy : a ≤ y.toInt ∧ y.toInt ≤ b) : x.toInt = y.toInt ∧ a ≤ x.toInt ∧ x.toInt ≤ b := by subst h; exact ⟨rfl, hy⟩
theorem own_eqR64 {x y : Int64} {a b : Int} (h : x = y) (hy : a ≤ y.toInt ∧ y.toInt ≤ b) : x.toInt = y.toInt ∧ a ≤ x.toInt ∧ x.toInt ≤ b := by subst h; exact ⟨rfl, hy⟩
theorem own_lushrR {x : Int64} {a b : Int} (q : Int32) (k : Nat) (P lo hi : Int) (hx : a ≤ x.toInt ∧ x.toInt ≤ b) (ha : 0 ≤ a) (hk : q.toBitVec.toNat % 64 = k) (h0 : 0 < k) (hP : P = ((2 ^ k : Nat) : Int)) (hPp : 0 < P) (h : lo ≤ a / P ∧ b / P ≤ hi) : ((x.toUInt64 >>> (q &&& 0x3f).toInt64.toUInt64).toInt64).toInt = x.toInt / P ∧ lo ≤ ((x.toUInt64 >>> (q &&& 0x3f).toInt64.toUInt64).toInt64).toInt ∧ ((x.toUInt64 >>> (q &&& 0x3f).toInt64.toUInt64).toInt64).toInt ≤ hi := by
  have e := own_lushr x q k P hk h0 hP; have := rng64 x; rw [Int.emod_eq_of_lt (by omega) (by omega)] at e; have h1 := Int.ediv_le_ediv hPp hx.1; have h2 := Int.ediv_le_ediv hPp hx.2; omega
theorem own_iushrR {x : Int32} {a b : Int} (q : Int32) (k : Nat) (P lo hi : Int) (hx : a ≤ x.toInt ∧ x.toInt ≤ b) (ha : 0 ≤ a) (hk : q.toBitVec.toNat % 32 = k) (h0 : 0 < k) (hP : P = ((2 ^ k : Nat) : Int)) (hPp : 0 < P) (h : lo ≤ a / P ∧ b / P ≤ hi) : ((x.toUInt32 >>> (q &&& 31).toUInt32).toInt32).toInt = x.toInt / P ∧ lo ≤ ((x.toUInt32 >>> (q &&& 31).toUInt32).toInt32).toInt ∧ ((x.toUInt32 >>> (q &&& 31).toUInt32).toInt32).toInt ≤ hi := by
  have e := own_iushr x q k P hk h0 hP; have := rng32 x; rw [Int.emod_eq_of_lt (by omega) (by omega)] at e; have h1 := Int.ediv_le_ediv hPp hx.1; have h2 := Int.ediv_le_ediv hPp hx.2; omega
-- OWN KIT 1 (mine): an array by a function of its places
def own_Arf (Z : State) (h : Heap) (a : Addr) (ty : FieldType) (n : Nat) (f : Nat → Value) : Prop := ∃ c : Cell, Arr Z h a c ty ∧ c.slots.size = n ∧ n < 2 ^ 31 ∧ ∀ j, j < n → c.slots[j]? = some (f j)
section OwnArf
variable {Z : State} {h h' : Heap} {a b : Addr} {ty : FieldType} {n : Nat} {f f' : Nat → Value} {sl : Nat} {v : Value} {ws : List Addr}
theorem own_Arf.lt (F : own_Arf Z h a ty n f) : a < h.size := by obtain ⟨c, A, -⟩ := F; exact A.lt
theorem own_Arf.ext (F : own_Arf Z h a ty n f) (E : Ext h h') : own_Arf Z h' a ty n f := by obtain ⟨c, A, r⟩ := F; exact ⟨c, A.ext E, r⟩
theorem own_Arf.other (F : own_Arf Z h b ty n f) (W : Wr h h' a sl v) (q : b ≠ a) : own_Arf Z h' b ty n f := by obtain ⟨c, A, r⟩ := F; exact ⟨c, A.other W q, r⟩
theorem own_Arf.keep (F : own_Arf Z h a ty n f) (K : Keep h h' ws) (q : a ∉ ws) : own_Arf Z h' a ty n f := by obtain ⟨c, A, r⟩ := F; exact ⟨c, ⟨K.2.1 a c A.1 q, A.2⟩, r⟩
theorem own_Arf.cong (F : own_Arf Z h a ty n f) (q : ∀ j, j < n → f j = f' j) : own_Arf Z h a ty n f' := by obtain ⟨c, A, r1, r2, r3⟩ := F; exact ⟨c, A, r1, r2, fun j hj => (q j hj) ▸ r3 j hj⟩
theorem own_Arf.new {k : ClassId} {z : Int32} (A : Arr Z h a (newA k ty z) ty) (q : ¬ z < 0) : own_Arf Z h a ty z.toNatClampNeg (fun _ => defaultValue ty) :=
  ⟨_, A, sz_new _ _ _, (back32 q).2, fun j hj => by simp [newA, hj]⟩
theorem own_inb {j : Int32} {n : Nat} (h1 : 0 ≤ j.toInt) (h2 : j.toInt < n) : ¬ (j < 0 ∨ n ≤ j.toNatClampNeg) := by
  have q : j.toNatClampNeg = j.toInt.toNat := rfl
  rintro (p | p)
  · have := Int32.lt_iff_toInt_lt.mp p; rw [show (0 : Int32).toInt = 0 from rfl] at this; omega
  · rw [q] at p; omega
theorem own_set {c : Cell} {k : Nat} (A : Arr Z h a c ty) (S : c.slots.size = n) (hn : n < 2 ^ 31) (H : ∀ j, j < n → c.slots[j]? = some (f j)) (W : Wr h h' a k v) (hk : k < n) : own_Arf Z h' a ty n (fun i => if i = k then v else f i) := by
  refine ⟨_, A.same W, by rw [sz_set]; exact S, hn, fun j hj => ?_⟩
  by_cases q : j = k
  · subst q; simp [Cell.setSlot, S, hj]
  · show _ = some (if j = k then v else f j)
    rw [if_neg q, ← H j hj]; exact Array.getElem?_setIfInBounds_ne (Ne.symm q)
variable {p : Program} {l : Launch} {e : Env} {R : Room} {s : State} {m : MethodId} {args : Array Value} {below : List Frame} {meth : Method} {c : Code} {T : State} {locs : List Loc} {cells slots : Nat}
theorem own_ld {A : Prop} {j : Int32} (F : own_Arf Z h a ty n f) (h1 : 0 ≤ j.toInt) (h2 : j.toInt < n) (k : ∀ c : Cell, Arr Z h a c ty → ¬ (j < 0 ∨ c.slots.size ≤ j.toNatClampNeg) → c.slots[j.toNatClampNeg]? = some (f j.toNatClampNeg) → A) : A := by
  obtain ⟨c, Ar, S, hn, H⟩ := F
  exact k c Ar (by rw [S]; exact own_inb h1 h2) (H _ (by have q : j.toNatClampNeg = j.toInt.toNat := rfl; omega))
theorem own_iaload (X : Stand p l e R s m args below meth c T locs cells slots) (hx : p.tables.exec = Jvm.exec) (hZ : Z.Warmed39 s.vm) (eT : T.heap = h) {j : Int32} (F : own_Arf Z h a .int n f) (h1 : 0 ≤ j.toInt) (h2 : j.toInt < n) {w : Value} (hv : f j.toNatClampNeg = w) {g : JFrame} (hg : g.method = m) {rest : List Value} (hs : g.stack = .int j :: .ref a :: rest) (hd : decode c.code g.pc = .ok (.iaload, 1)) :
    ∀ target, Steps p.tables e below (T.setTop { g with pc := g.pc + 1, stack := w :: rest }) target → Steps p.tables e below (T.setTop g) target := by
  subst hv
  exact own_ld F h1 h2 fun cl Ar hin hat => X.iaload hx (j := j) (by rw [eT]; exact Ar.1) (State.isArrayOf_alike hZ.alike Ar.2.1) Ar.2.2 hin hat hg hs hd
theorem own_baloadB (X : Stand p l e R s m args below meth c T locs cells slots) (hx : p.tables.exec = Jvm.exec) (hZ : Z.Warmed39 s.vm) (eT : T.heap = h) {j : Int32} (F : own_Arf Z h a .byte n f) (h1 : 0 ≤ j.toInt) (h2 : j.toInt < n) {w : Value} (hv : f j.toNatClampNeg = w) {g : JFrame} (hg : g.method = m) {rest : List Value} (hs : g.stack = .int j :: .ref a :: rest) (hd : decode c.code g.pc = .ok (.baload, 1)) :
    ∀ target, Steps p.tables e below (T.setTop { g with pc := g.pc + 1, stack := w :: rest }) target → Steps p.tables e below (T.setTop g) target := by
  subst hv
  exact own_ld F h1 h2 fun cl Ar hin hat => X.baloadBytes hx (j := j) (by rw [eT]; exact Ar.1) (State.isArrayOf_alike hZ.alike Ar.2.1) Ar.2.2 hin hat hg hs hd
theorem own_baloadZ (X : Stand p l e R s m args below meth c T locs cells slots) (hx : p.tables.exec = Jvm.exec) (hZ : Z.Warmed39 s.vm) (eT : T.heap = h) {j : Int32} (F : own_Arf Z h a .boolean n f) (h1 : 0 ≤ j.toInt) (h2 : j.toInt < n) {w : Value} (hv : f j.toNatClampNeg = w) {g : JFrame} (hg : g.method = m) {rest : List Value} (hs : g.stack = .int j :: .ref a :: rest) (hd : decode c.code g.pc = .ok (.baload, 1)) :
    ∀ target, Steps p.tables e below (T.setTop { g with pc := g.pc + 1, stack := w :: rest }) target → Steps p.tables e below (T.setTop g) target := by
  subst hv
  exact own_ld F h1 h2 fun cl Ar hin hat => X.baloadBooleans hx (j := j) (by rw [eT]; exact Ar.1) (State.isArrayOf_alike hZ.alike Ar.2.1) Ar.2.2 hin hat hg hs hd
theorem own_len32 {c : Cell} {n : Nat} (S : c.slots.size = n) {z : Int32} (hz : z = Int32.ofNat n) : c.slots.size.toInt32 = z := by rw [S, hz]
theorem own_alen (X : Stand p l e R s m args below meth c T locs cells slots) (hx : p.tables.exec = Jvm.exec) (hZ : Z.Warmed39 s.vm) (eT : T.heap = h) (F : own_Arf Z h a ty n f) (z : Int32) (hz : z = Int32.ofNat n) {g : JFrame} (hg : g.method = m) {rest : List Value} (hs : g.stack = .ref a :: rest) (hd : decode c.code g.pc = .ok (.arraylength, 1)) :
    ∀ target, Steps p.tables e below (T.setTop { g with pc := g.pc + 1, stack := .int z :: rest }) target → Steps p.tables e below (T.setTop g) target := by
  obtain ⟨cl, Ar, S, hn, H⟩ := F
  intro t k
  refine X.arraylength hx (cell := cl) (by rw [eT]; exact Ar.1) (State.isArrayOf_alike hZ.alike Ar.2.1) hg hs hd t ?_
  rw [own_len32 S hz]; exact k
theorem own_stI (X : Stand p l e R s m args below meth c T locs cells slots) (hx : p.tables.exec = Jvm.exec) (hZ : Z.Warmed39 s.vm) (eT : T.heap = h) {j x : Int32} (F : own_Arf Z h a .int n f) (h1 : 0 ≤ j.toInt) (h2 : j.toInt < n) {g : JFrame} (hg : g.method = m) {rest : List Value} (hs : g.stack = .int x :: .int j :: .ref a :: rest) (hd : decode c.code g.pc = .ok (.iastore, 1)) :
    ∃ T' h', Stand p l e R s m args below meth c T' (locs ++ [⟨a, j.toNatClampNeg⟩]) cells slots ∧ T'.heap = h' ∧ Wr h h' a j.toNatClampNeg (.int x) ∧ own_Arf Z h' a .int n (fun i => if i = j.toNatClampNeg then .int x else f i) ∧ ∀ target, Steps p.tables e below (T'.setTop { g with pc := g.pc + 1, stack := rest }) target → Steps p.tables e below (T.setTop g) target := by
  obtain ⟨cl, Ar, S, hn, H⟩ := F
  have hin : ¬ (j < 0 ∨ cl.slots.size ≤ j.toNatClampNeg) := by rw [S]; exact own_inb h1 h2
  obtain ⟨T', h', X', e', W, st⟩ := stI X hx hZ eT Ar (j := j) hin hg hs hd
  exact ⟨T', h', X', e', W, own_set Ar S hn H W (by have q : j.toNatClampNeg = j.toInt.toNat := rfl; omega), st⟩
theorem own_stB (X : Stand p l e R s m args below meth c T locs cells slots) (hx : p.tables.exec = Jvm.exec) (hZ : Z.Warmed39 s.vm) (eT : T.heap = h) {j x : Int32} (F : own_Arf Z h a .byte n f) (h1 : 0 ≤ j.toInt) (h2 : j.toInt < n) {g : JFrame} (hg : g.method = m) {rest : List Value} (hs : g.stack = .int x :: .int j :: .ref a :: rest) (hd : decode c.code g.pc = .ok (.bastore, 1)) :
    ∃ T' h', Stand p l e R s m args below meth c T' (locs ++ [⟨a, j.toNatClampNeg⟩]) cells slots ∧ T'.heap = h' ∧ Wr h h' a j.toNatClampNeg (.int (nar .byte x)) ∧ own_Arf Z h' a .byte n (fun i => if i = j.toNatClampNeg then .int (nar .byte x) else f i) ∧ ∀ target, Steps p.tables e below (T'.setTop { g with pc := g.pc + 1, stack := rest }) target → Steps p.tables e below (T.setTop g) target := by
  obtain ⟨cl, Ar, S, hn, H⟩ := F
  have hin : ¬ (j < 0 ∨ cl.slots.size ≤ j.toNatClampNeg) := by rw [S]; exact own_inb h1 h2
  obtain ⟨T', h', X', e', W, st⟩ := stB X hx hZ eT Ar (j := j) hin hg hs hd
  exact ⟨T', h', X', e', W, own_set Ar S hn H W (by have q : j.toNatClampNeg = j.toInt.toNat := rfl; omega), st⟩
theorem own_stZ (X : Stand p l e R s m args below meth c T locs cells slots) (hx : p.tables.exec = Jvm.exec) (hZ : Z.Warmed39 s.vm) (eT : T.heap = h) {j x : Int32} (F : own_Arf Z h a .boolean n f) (h1 : 0 ≤ j.toInt) (h2 : j.toInt < n) {g : JFrame} (hg : g.method = m) {rest : List Value} (hs : g.stack = .int x :: .int j :: .ref a :: rest) (hd : decode c.code g.pc = .ok (.bastore, 1)) :
    ∃ T' h', Stand p l e R s m args below meth c T' (locs ++ [⟨a, j.toNatClampNeg⟩]) cells slots ∧ T'.heap = h' ∧ Wr h h' a j.toNatClampNeg (.int (nar .boolean x)) ∧ own_Arf Z h' a .boolean n (fun i => if i = j.toNatClampNeg then .int (nar .boolean x) else f i) ∧ ∀ target, Steps p.tables e below (T'.setTop { g with pc := g.pc + 1, stack := rest }) target → Steps p.tables e below (T.setTop g) target := by
  obtain ⟨cl, Ar, S, hn, H⟩ := F
  have hin : ¬ (j < 0 ∨ cl.slots.size ≤ j.toNatClampNeg) := by rw [S]; exact own_inb h1 h2
  obtain ⟨T', h', X', e', W, st⟩ := stZ X hx hZ eT Ar (j := j) hin hg hs hd
  exact ⟨T', h', X', e', W, own_set Ar S hn H W (by have q : j.toNatClampNeg = j.toInt.toNat := rfl; omega), st⟩
end OwnArf
theorem own_clamp {i : Int32} {k : Nat} (h : i.toInt = k) : i.toNatClampNeg = k := by show i.toInt.toNat = k; omega
theorem own_tabArf {s : State} {a : Addr} {cl : Cell} {ty : FieldType} {n : Nat} (hf : Fit s) (A : Arr s s.heap a cl ty) (ht : ty = .int ∨ ty = .boolean ∨ ty = .byte ∨ ty = .char ∨ ty = .short) (S : cl.slots.size = n) (hn : n < 2 ^ 31) : ∃ g : Nat → Int32, own_Arf s s.heap a ty n (fun i => .int (g i)) := by
  refine ⟨fun i => atv cl (Int32.ofNat i), cl, A, S, hn, fun j hj => ?_⟩
  have e1 : (Int32.ofNat j).toInt = j := Int32.toInt_ofNat_of_lt (by omega)
  have e2 : (Int32.ofNat j).toNatClampNeg = j := by show (Int32.ofNat j).toInt.toNat = j; omega
  have hin : ¬ (Int32.ofNat j < 0 ∨ cl.slots.size ≤ (Int32.ofNat j).toNatClampNeg) := by rw [S]; exact own_inb (by omega) (by omega)
  obtain ⟨v, h1, h2⟩ := elem_fit hf A hin
  obtain ⟨x, rfl⟩ := fit_I h2 ht
  show cl.slots[j]? = some (.int (atv cl (Int32.ofNat j)))
  rw [atv_of h1, ← e2]; exact h1
theorem own_lenOf {args : Array Value} {s : State} {t : Term} {a : Addr} {cl : Cell} {ty : FieldType} {k : Int32} (ev : t.eval args s none [] s = some (.ref a)) (A : Arr s s.heap a cl ty) (h : (Cond.eq (.length t) (.int k)).value args s none s [] = some true) (hk : 0 ≤ k.toInt) : cl.slots.size = k.toInt.toNat ∧ cl.slots.size < 2 ^ 31 := by
  have ha := A.fin (Vm.Alike.refl _)
  by_cases q : cl.slots.size < 2 ^ 31
  · have e1 : (Term.length t).eval args s none [] s = some (.int cl.slots.size.toInt32) := len_f ev ha q
    have e2 : cl.slots.size.toInt32 = k := by
      have hh := h
      simp only [Cond.value] at hh
      rw [e1] at hh
      simpa [Term.eval] using hh
    have e3 := len_toInt q
    rw [e2] at e3
    exact ⟨by omega, q⟩
  · exfalso
    have e1 : (Term.length t).eval args s none [] s = none := by simp [Term.eval, ev, ha, q]
    simp [Cond.value, e1] at h
theorem own_nameI {Z : State} {h : Heap} {a : Addr} {ty : FieldType} {n k : Nat} {g : Nat → Int32} {x : Int32} (V : own_Arf Z h a ty n (fun i => if i = k then .int x else .int (g i))) : ∃ g' : Nat → Int32, (∀ i, g' i = if i = k then x else g i) ∧ own_Arf Z h a ty n (fun i => .int (g' i)) :=
  ⟨fun i => if i = k then x else g i, fun _ => rfl, V.cong (fun i _ => by by_cases q : i = k <;> simp [q])⟩
theorem own_nameD {Z : State} {h : Heap} {a : Addr} {ty : FieldType} {n k : Nat} {g : Nat → UInt64} {x : UInt64} (V : own_Arf Z h a ty n (fun i => if i = k then .double x else .double (g i))) : ∃ g' : Nat → UInt64, (∀ i, g' i = if i = k then x else g i) ∧ own_Arf Z h a ty n (fun i => .double (g' i)) :=
  ⟨fun i => if i = k then x else g i, fun _ => rfl, V.cong (fun i _ => by by_cases q : i = k <;> simp [q])⟩
theorem own_natOf {i : Int32} {lo hi : Int} (h1 : 0 ≤ i.toInt) : ∃ k : Nat, i.toInt = k := ⟨i.toInt.toNat, by omega⟩
theorem own_tn {i : Int32} {k : Nat} (h : i.toInt = k) : i.toBitVec.toNat = k := by
  have h1 : i.toBitVec.toInt = k := h
  have h2 := BitVec.toInt_eq_toNat_cond i.toBitVec
  have h3 := i.toBitVec.isLt
  rw [h1] at h2
  split at h2 <;> omega
def own_U (ga : Nat → Int32) (N p : Nat) : Prop := ∃ j, j < N ∧ (ga j).toInt = p
def own_fe (ga : Nat → Int32) (n kn : Nat) (r : Int32) : Prop := (r.toInt = -1 ∧ ∀ p, p < kn → own_U ga n p) ∨ ∃ p : Nat, r.toInt = p ∧ p < kn ∧ ¬ own_U ga n p ∧ ∀ p', p' < p → own_U ga n p'
def own_sn (ga : Nat → Int32) (q kn : Nat) (sn : Nat → Int32) : Prop := ∀ p, p < kn → ((sn p).toInt = 1 ∧ own_U ga q p) ∨ ((sn p).toInt = 0 ∧ ¬ own_U ga q p)
theorem own_sn0 (ga : Nat → Int32) (kn : Nat) : own_sn ga 0 kn (fun _ => (0 : Int32)) := fun p _ => Or.inr ⟨rfl, fun ⟨j, h, _⟩ => absurd h (Nat.not_lt_zero _)⟩
theorem own_U_succ {ga : Nat → Int32} {q p : Nat} : own_U ga (q + 1) p ↔ own_U ga q p ∨ (ga q).toInt = p := by
  constructor
  · rintro ⟨j, h1, h2⟩
    rcases Nat.lt_succ_iff_lt_or_eq.mp h1 with z | z
    · exact Or.inl ⟨j, z, h2⟩
    · exact Or.inr (z ▸ h2)
  · rintro (⟨j, h1, h2⟩ | h)
    · exact ⟨j, by omega, h2⟩
    · exact ⟨q, by omega, h⟩
theorem own_snup {ga sn sn' : Nat → Int32} {q kn : Nat} (h : own_sn ga q kn sn) (h0 : 0 ≤ (ga q).toInt) (hs : ∀ i, sn' i = if i = (ga q).toNatClampNeg then (1 : Int32) else sn i) : own_sn ga (q + 1) kn sn' := by
  intro p hp
  have e : (ga q).toNatClampNeg = (ga q).toInt.toNat := rfl
  rw [hs p]
  by_cases z : p = (ga q).toNatClampNeg
  · rw [if_pos z]; exact Or.inl ⟨rfl, own_U_succ.mpr (Or.inr (by rw [z, e]; omega))⟩
  · rw [if_neg z]
    rcases h p hp with ⟨a, b⟩ | ⟨a, b⟩
    · exact Or.inl ⟨a, own_U_succ.mpr (Or.inl b)⟩
    · exact Or.inr ⟨a, fun y => (own_U_succ.mp y).elim b (fun t => z (by rw [e]; omega))⟩
def own_part (p0 : Int32) (p1 : Int32) : Int32 := (if p1 = (0 : Int32) then (0 : Int32) else ((p0 &&& (2147483647 : Int32)) % p1))
theorem pn_0 : plainName "org/fractile/core/PartitionFirstEmptyPartPinLaw" = true := by first | (simp [plainName, overriddenIn]; done) | decide +kernel
theorem d1_0 : decode method_3_code 0 = .ok (.iload_n 1, 1) := by decide +kernel
theorem d1_1 : decode method_3_code 1 = .ok (.ifCond .ne 5, 3) := by decide +kernel
theorem d1_4 : decode method_3_code 4 = .ok (.iconst 0, 1) := by decide +kernel
theorem d1_5 : decode method_3_code 5 = .ok (.ireturn, 1) := by decide +kernel
theorem d1_6 : decode method_3_code 6 = .ok (.iload_n 0, 1) := by decide +kernel
theorem d1_7 : decode method_3_code 7 = .ok (.ldc 7, 2) := by decide +kernel
theorem d1_9 : decode method_3_code 9 = .ok (.iand, 1) := by decide +kernel
theorem d1_10 : decode method_3_code 10 = .ok (.iload_n 1, 1) := by decide +kernel
theorem d1_11 : decode method_3_code 11 = .ok (.irem, 1) := by decide +kernel
theorem d1_12 : decode method_3_code 12 = .ok (.ireturn, 1) := by decide +kernel
theorem ef_1 (m : MethodId) (x0 : Int32) (x1 : Int32) : entryFrame m #[(.int x0), (.int x1)] 2 = mkF m 0 #[.val (.int x0), .val (.int x1)] [] := by first | (simp [entryFrame, mkF, argsToLocals, Value.category]; done) | rfl
def Q1 (Z : State) (p0 : Int32) (p1 : Int32) (h0 : Heap) (n0 : Nat) (v : Option Value) (h : Heap) (L : List Loc) : Prop := v = some (.int (own_part p0 p1)) ∧ Fr n0 L ∧ h = h0
set_option maxRecDepth 65536 in
set_option maxHeartbeats 40000000 in
theorem rm1 (l : Launch) (Z : State) (a0 : Array Value) (hw : ∀ d ∈ tables_1, d.before a0 Z = true) (ws : List Jvm.Cond) (p0 : Int32) (p1 : Int32) (h0 : Heap) (n0 : Nat) (Z0 : n0 ≤ h0.size) :
    MetFree l (⟨"org/fractile/core/PartitionFirstEmptyPartPinLaw", "part", "(II)I"⟩ : MethodName) (head1 (Jvm.Cond.code (⟨"org/fractile/core/PartitionFirstEmptyPartPinLaw", "part", "(II)I"⟩ : MethodName) method_3_code 2 (some .int) :: ws) ({ frames := 0, cells := 0, slots := 0, locals := 0 } : Room)) (fun a U => a = #[(.int p0), (.int p1)] ∧ Z.Warmed39 U.vm ∧ U.heap = h0) (fun _ _ _ _ _ => True) (fun _ U o U' => ∃ v L, o = .returned v ∧ Q1 Z p0 p1 h0 n0 v U'.heap L ∧ FrameEnd U o U' L ({ frames := 0, cells := 0, slots := 0, locals := 0 } : Room).cells ({ frames := 0, cells := 0, slots := 0, locals := 0 } : Room).slots) := by
  refine MetFree.of_bodySF (plainFor_of_name pn_0) hisR ?_
  intro p e s m args below meth c s₁ Bd hml0 hP hK
  obtain ⟨rfl, hZ, hh⟩ := hP
  have hx := Bd.exec
  have hby := Bd.bytes
  have hml : c.maxLocals = 2 := hml0
  have hown : s.vm.findClass "org/fractile/core/PartitionFirstEmptyPartPinLaw" = some m.cls := findClass_of_methodNamed Bd.named
  have hnm := (name_of_methodNamed Bd.named Bd.method).1
  have hlk : meth.locks = false := BodyLoose.notSynchronized Bd
  have X0 : Stand p l e ({ frames := 0, cells := 0, slots := 0, locals := 0 } : Room) s m #[(.int p0), (.int p1)] below meth c s₁ [] 0 0 := Stand.of_body Bd
  have e0 : s₁.heap = h0 := by rw [← hh, Bd.state]; rfl
  have N0 := Fr.nil n0
  have K0 : Keep h0 h0 [] := Keep.refl h0 _
  have key : ∀ (F0 : State) (G : Prop), (own_G p e below s F0 (Q1 Z p0 p1 h0 n0) ({ frames := 0, cells := 0, slots := 0, locals := 0 } : Room).cells ({ frames := 0, cells := 0, slots := 0, locals := 0 } : Room).slots → G) → own_R p.tables e below F0 (s₁.setTop (mkF m 0 #[.val (.int p0), .val (.int p1)] [])) → G := by
    intro F0 G hG r0
    have r1 : own_R p.tables e below F0 (s₁.setTop (mkF m 1 #[.val (.int p0), .val (.int p1)] [(.int p1)])) := fun tg_ kg_ => by
      refine r0 tg_ ?_
      show Steps p.tables e below (s₁.setTop (mkF m 0 #[.val (.int p0), .val (.int p1)] [])) _
      refine XS.iloadN X0.here hx rfl (hb hby d1_0) rfl ?_
      exact kg_
    by_cases hc2 : p1 = (0 : Int32)
    · have r3 : own_R p.tables e below F0 (s₁.setTop (mkF m 5 #[.val (.int p0), .val (.int p1)] [(.int (0 : Int32))])) := fun tg_ kg_ => by
        refine r1 tg_ ?_
        show Steps p.tables e below (s₁.setTop (mkF m 1 #[.val (.int p0), .val (.int p1)] [(.int p1)])) _
        refine XS.ifNo X0.here hx rfl (hb hby d1_1) rfl ((if0 _ _).trans (teq hc2).2) ?_
        show Steps p.tables e below (s₁.setTop (mkF m 4 #[.val (.int p0), .val (.int p1)] [])) _
        refine XS.iconst X0.here hx rfl (hb hby d1_4) ?_
        exact kg_
      refine hG (own_fin X0 hlk (some (.int (0 : Int32))) (own_hv Bd.returns) ?_ (by decide) (by decide) (fun fs hr => r3 _ (retOut X0 hx Bd.returns rfl (Or.inl ⟨rfl, Or.inl rfl, _, rfl⟩) (hb hby d1_5) hr)))
      rw [e0]
      refine ⟨?_, N0, rfl⟩
      have ev : (own_part p0 p1) = (0 : Int32) := by unfold own_part; rw [if_pos hc2]
      rw [ev]
    · have r4 : own_R p.tables e below F0 (s₁.setTop (mkF m 12 #[.val (.int p0), .val (.int p1)] [(.int ((p0 &&& (2147483647 : Int32)) % p1))])) := fun tg_ kg_ => by
        refine r1 tg_ ?_
        show Steps p.tables e below (s₁.setTop (mkF m 1 #[.val (.int p0), .val (.int p1)] [(.int p1)])) _
        refine XS.ifYes X0.here hx rfl (pc0 := 1) (pc' := 6) rfl (hb hby d1_1) rfl ((if0 _ _).trans (feq hc2).2) (by decide) (by decide) ?_
        show Steps p.tables e below (s₁.setTop (mkF m 6 #[.val (.int p0), .val (.int p1)] [])) _
        refine XS.iloadN X0.here hx rfl (hb hby d1_6) rfl ?_
        show Steps p.tables e below (s₁.setTop (mkF m 7 #[.val (.int p0), .val (.int p1)] [(.int p0)])) _
        refine X0.ldcI hx hown (mvT hZ (hw _ (List.mem_of_getElem? (i := 10) rfl))) rfl (hb hby d1_7) ?_
        show Steps p.tables e below (s₁.setTop (mkF m 9 #[.val (.int p0), .val (.int p1)] [(.int (2147483647 : Int32)), (.int p0)])) _
        refine XS.iand X0.here hx rfl (hb hby d1_9) rfl ?_
        show Steps p.tables e below (s₁.setTop (mkF m 10 #[.val (.int p0), .val (.int p1)] [(.int (p0 &&& (2147483647 : Int32)))])) _
        refine XS.iloadN X0.here hx rfl (hb hby d1_10) rfl ?_
        show Steps p.tables e below (s₁.setTop (mkF m 11 #[.val (.int p0), .val (.int p1)] [(.int p1), (.int (p0 &&& (2147483647 : Int32)))])) _
        refine iremM X0 hx rfl (hb hby d1_11) rfl hc2 ?_
        exact kg_
      refine hG (own_fin X0 hlk (some (.int ((p0 &&& (2147483647 : Int32)) % p1))) (own_hv Bd.returns) ?_ (by decide) (by decide) (fun fs hr => r4 _ (retOut X0 hx Bd.returns rfl (Or.inl ⟨rfl, Or.inl rfl, _, rfl⟩) (hb hby d1_12) hr)))
      rw [e0]
      refine ⟨?_, N0, rfl⟩
      have ev : (own_part p0 p1) = ((p0 &&& (2147483647 : Int32)) % p1) := by unfold own_part; rw [if_neg hc2]
      rw [ev]
  exact key _ _ id (fun t k => castTop (ef_1 m p0 p1) k)
def own_used (p0 : Int32) (p1 : Int32) (p2 : Int32) (p3 : Int32) (p4 : Int32) (p5 : Int32) : Int32 := (if (0 : Int32) < p0 then (if p1 = p5 then (1 : Int32) else (if (1 : Int32) < p0 then (if p2 = p5 then (1 : Int32) else (if (2 : Int32) < p0 then (if p3 = p5 then (1 : Int32) else (if (3 : Int32) < p0 then (if p4 = p5 then (1 : Int32) else (0 : Int32)) else (0 : Int32))) else (if (3 : Int32) < p0 then (if p4 = p5 then (1 : Int32) else (0 : Int32)) else (0 : Int32)))) else (if (2 : Int32) < p0 then (if p3 = p5 then (1 : Int32) else (if (3 : Int32) < p0 then (if p4 = p5 then (1 : Int32) else (0 : Int32)) else (0 : Int32))) else (if (3 : Int32) < p0 then (if p4 = p5 then (1 : Int32) else (0 : Int32)) else (0 : Int32))))) else (if (1 : Int32) < p0 then (if p2 = p5 then (1 : Int32) else (if (2 : Int32) < p0 then (if p3 = p5 then (1 : Int32) else (if (3 : Int32) < p0 then (if p4 = p5 then (1 : Int32) else (0 : Int32)) else (0 : Int32))) else (if (3 : Int32) < p0 then (if p4 = p5 then (1 : Int32) else (0 : Int32)) else (0 : Int32)))) else (if (2 : Int32) < p0 then (if p3 = p5 then (1 : Int32) else (if (3 : Int32) < p0 then (if p4 = p5 then (1 : Int32) else (0 : Int32)) else (0 : Int32))) else (if (3 : Int32) < p0 then (if p4 = p5 then (1 : Int32) else (0 : Int32)) else (0 : Int32)))))
theorem d3_0 : decode method_2_code 0 = .ok (.iload_n 0, 1) := by decide +kernel
theorem d3_1 : decode method_2_code 1 = .ok (.ifCond .le 11, 3) := by decide +kernel
theorem d3_4 : decode method_2_code 4 = .ok (.iload_n 1, 1) := by decide +kernel
theorem d3_5 : decode method_2_code 5 = .ok (.iload 5, 2) := by decide +kernel
theorem d3_7 : decode method_2_code 7 = .ok (.if_icmp .ne 5, 3) := by decide +kernel
theorem d3_10 : decode method_2_code 10 = .ok (.iconst 1, 1) := by decide +kernel
theorem d3_11 : decode method_2_code 11 = .ok (.ireturn, 1) := by decide +kernel
theorem d3_12 : decode method_2_code 12 = .ok (.iload_n 0, 1) := by decide +kernel
theorem d3_13 : decode method_2_code 13 = .ok (.iconst 1, 1) := by decide +kernel
theorem d3_14 : decode method_2_code 14 = .ok (.if_icmp .le 11, 3) := by decide +kernel
theorem d3_17 : decode method_2_code 17 = .ok (.iload_n 2, 1) := by decide +kernel
theorem d3_18 : decode method_2_code 18 = .ok (.iload 5, 2) := by decide +kernel
theorem d3_20 : decode method_2_code 20 = .ok (.if_icmp .ne 5, 3) := by decide +kernel
theorem d3_23 : decode method_2_code 23 = .ok (.iconst 1, 1) := by decide +kernel
theorem d3_24 : decode method_2_code 24 = .ok (.ireturn, 1) := by decide +kernel
theorem d3_25 : decode method_2_code 25 = .ok (.iload_n 0, 1) := by decide +kernel
theorem d3_26 : decode method_2_code 26 = .ok (.iconst 2, 1) := by decide +kernel
theorem d3_27 : decode method_2_code 27 = .ok (.if_icmp .le 11, 3) := by decide +kernel
theorem d3_30 : decode method_2_code 30 = .ok (.iload_n 3, 1) := by decide +kernel
theorem d3_31 : decode method_2_code 31 = .ok (.iload 5, 2) := by decide +kernel
theorem d3_33 : decode method_2_code 33 = .ok (.if_icmp .ne 5, 3) := by decide +kernel
theorem d3_36 : decode method_2_code 36 = .ok (.iconst 1, 1) := by decide +kernel
theorem d3_37 : decode method_2_code 37 = .ok (.ireturn, 1) := by decide +kernel
theorem d3_38 : decode method_2_code 38 = .ok (.iload_n 0, 1) := by decide +kernel
theorem d3_39 : decode method_2_code 39 = .ok (.iconst 3, 1) := by decide +kernel
theorem d3_40 : decode method_2_code 40 = .ok (.if_icmp .le 12, 3) := by decide +kernel
theorem d3_43 : decode method_2_code 43 = .ok (.iload 4, 2) := by decide +kernel
theorem d3_45 : decode method_2_code 45 = .ok (.iload 5, 2) := by decide +kernel
theorem d3_47 : decode method_2_code 47 = .ok (.if_icmp .ne 5, 3) := by decide +kernel
theorem d3_50 : decode method_2_code 50 = .ok (.iconst 1, 1) := by decide +kernel
theorem d3_51 : decode method_2_code 51 = .ok (.ireturn, 1) := by decide +kernel
theorem d3_52 : decode method_2_code 52 = .ok (.iconst 0, 1) := by decide +kernel
theorem d3_53 : decode method_2_code 53 = .ok (.ireturn, 1) := by decide +kernel
theorem ef_3 (m : MethodId) (x0 : Int32) (x1 : Int32) (x2 : Int32) (x3 : Int32) (x4 : Int32) (x5 : Int32) : entryFrame m #[(.int x0), (.int x1), (.int x2), (.int x3), (.int x4), (.int x5)] 6 = mkF m 0 #[.val (.int x0), .val (.int x1), .val (.int x2), .val (.int x3), .val (.int x4), .val (.int x5)] [] := by first | (simp [entryFrame, mkF, argsToLocals, Value.category]; done) | rfl
def Q3 (Z : State) (p0 : Int32) (p1 : Int32) (p2 : Int32) (p3 : Int32) (p4 : Int32) (p5 : Int32) (h0 : Heap) (n0 : Nat) (v : Option Value) (h : Heap) (L : List Loc) : Prop := v = some (.int (own_used p0 p1 p2 p3 p4 p5)) ∧ Fr n0 L ∧ h = h0
set_option maxRecDepth 65536 in
set_option maxHeartbeats 40000000 in
theorem rm3 (l : Launch) (Z : State) (a0 : Array Value) (hw : ∀ d ∈ tables_1, d.before a0 Z = true) (ws : List Jvm.Cond) (p0 : Int32) (p1 : Int32) (p2 : Int32) (p3 : Int32) (p4 : Int32) (p5 : Int32) (h0 : Heap) (n0 : Nat) (Z0 : n0 ≤ h0.size) :
    MetFree l (⟨"org/fractile/core/PartitionFirstEmptyPartPinLaw", "used", "(IIIIII)Z"⟩ : MethodName) (head1 (Jvm.Cond.code (⟨"org/fractile/core/PartitionFirstEmptyPartPinLaw", "used", "(IIIIII)Z"⟩ : MethodName) method_2_code 6 (some .boolean) :: ws) ({ frames := 0, cells := 0, slots := 0, locals := 0 } : Room)) (fun a U => a = #[(.int p0), (.int p1), (.int p2), (.int p3), (.int p4), (.int p5)] ∧ Z.Warmed39 U.vm ∧ U.heap = h0) (fun _ _ _ _ _ => True) (fun _ U o U' => ∃ v L, o = .returned v ∧ Q3 Z p0 p1 p2 p3 p4 p5 h0 n0 v U'.heap L ∧ FrameEnd U o U' L ({ frames := 0, cells := 0, slots := 0, locals := 0 } : Room).cells ({ frames := 0, cells := 0, slots := 0, locals := 0 } : Room).slots) := by
  refine MetFree.of_bodySF (plainFor_of_name pn_0) hisR ?_
  intro p e s m args below meth c s₁ Bd hml0 hP hK
  obtain ⟨rfl, hZ, hh⟩ := hP
  have hx := Bd.exec
  have hby := Bd.bytes
  have hml : c.maxLocals = 6 := hml0
  have hown : s.vm.findClass "org/fractile/core/PartitionFirstEmptyPartPinLaw" = some m.cls := findClass_of_methodNamed Bd.named
  have hnm := (name_of_methodNamed Bd.named Bd.method).1
  have hlk : meth.locks = false := BodyLoose.notSynchronized Bd
  have X0 : Stand p l e ({ frames := 0, cells := 0, slots := 0, locals := 0 } : Room) s m #[(.int p0), (.int p1), (.int p2), (.int p3), (.int p4), (.int p5)] below meth c s₁ [] 0 0 := Stand.of_body Bd
  have e0 : s₁.heap = h0 := by rw [← hh, Bd.state]; rfl
  have N0 := Fr.nil n0
  have K0 : Keep h0 h0 [] := Keep.refl h0 _
  have key : ∀ (F0 : State) (G : Prop), (own_G p e below s F0 (Q3 Z p0 p1 p2 p3 p4 p5 h0 n0) ({ frames := 0, cells := 0, slots := 0, locals := 0 } : Room).cells ({ frames := 0, cells := 0, slots := 0, locals := 0 } : Room).slots → G) → own_R p.tables e below F0 (s₁.setTop (mkF m 0 #[.val (.int p0), .val (.int p1), .val (.int p2), .val (.int p3), .val (.int p4), .val (.int p5)] [])) → G := by
    intro F0 G hG r0
    have r5 : own_R p.tables e below F0 (s₁.setTop (mkF m 1 #[.val (.int p0), .val (.int p1), .val (.int p2), .val (.int p3), .val (.int p4), .val (.int p5)] [(.int p0)])) := fun tg_ kg_ => by
      refine r0 tg_ ?_
      show Steps p.tables e below (s₁.setTop (mkF m 0 #[.val (.int p0), .val (.int p1), .val (.int p2), .val (.int p3), .val (.int p4), .val (.int p5)] [])) _
      refine XS.iloadN X0.here hx rfl (hb hby d3_0) rfl ?_
      exact kg_
    by_cases hc6 : (0 : Int32) < p0
    · have r7 : own_R p.tables e below F0 (s₁.setTop (mkF m 7 #[.val (.int p0), .val (.int p1), .val (.int p2), .val (.int p3), .val (.int p4), .val (.int p5)] [(.int p5), (.int p1)])) := fun tg_ kg_ => by
        refine r5 tg_ ?_
        show Steps p.tables e below (s₁.setTop (mkF m 1 #[.val (.int p0), .val (.int p1), .val (.int p2), .val (.int p3), .val (.int p4), .val (.int p5)] [(.int p0)])) _
        refine XS.ifNo X0.here hx rfl (hb hby d3_1) rfl ((if0 _ _).trans (tlt hc6).2.2.2) ?_
        show Steps p.tables e below (s₁.setTop (mkF m 4 #[.val (.int p0), .val (.int p1), .val (.int p2), .val (.int p3), .val (.int p4), .val (.int p5)] [])) _
        refine XS.iloadN X0.here hx rfl (hb hby d3_4) rfl ?_
        show Steps p.tables e below (s₁.setTop (mkF m 5 #[.val (.int p0), .val (.int p1), .val (.int p2), .val (.int p3), .val (.int p4), .val (.int p5)] [(.int p1)])) _
        refine XS.iload X0.here hx rfl (hb hby d3_5) rfl ?_
        exact kg_
      by_cases hc8 : p1 = p5
      · have r9 : own_R p.tables e below F0 (s₁.setTop (mkF m 11 #[.val (.int p0), .val (.int p1), .val (.int p2), .val (.int p3), .val (.int p4), .val (.int p5)] [(.int (1 : Int32))])) := fun tg_ kg_ => by
          refine r7 tg_ ?_
          show Steps p.tables e below (s₁.setTop (mkF m 7 #[.val (.int p0), .val (.int p1), .val (.int p2), .val (.int p3), .val (.int p4), .val (.int p5)] [(.int p5), (.int p1)])) _
          refine XS.icmpNo X0.here hx rfl (hb hby d3_7) rfl (teq hc8).2 ?_
          show Steps p.tables e below (s₁.setTop (mkF m 10 #[.val (.int p0), .val (.int p1), .val (.int p2), .val (.int p3), .val (.int p4), .val (.int p5)] [])) _
          refine XS.iconst X0.here hx rfl (hb hby d3_10) ?_
          exact kg_
        refine hG (own_fin X0 hlk (some (.int (nar .boolean (1 : Int32)))) (own_hv Bd.returns) ?_ (by decide) (by decide) (fun fs hr => r9 _ (retN X0 hx (t := .boolean) Bd.returns (by simp) (hb hby d3_11) hr)))
        rw [e0]
        refine ⟨?_, N0, rfl⟩
        have ev : (own_used p0 p1 p2 p3 p4 p5) = (1 : Int32) := by unfold own_used; rw [if_pos hc6, if_pos hc8]
        rw [ev]
        rfl
      · have r10 : own_R p.tables e below F0 (s₁.setTop (mkF m 14 #[.val (.int p0), .val (.int p1), .val (.int p2), .val (.int p3), .val (.int p4), .val (.int p5)] [(.int (1 : Int32)), (.int p0)])) := fun tg_ kg_ => by
          refine r7 tg_ ?_
          show Steps p.tables e below (s₁.setTop (mkF m 7 #[.val (.int p0), .val (.int p1), .val (.int p2), .val (.int p3), .val (.int p4), .val (.int p5)] [(.int p5), (.int p1)])) _
          refine XS.icmpYes X0.here hx rfl (pc0 := 7) (pc' := 12) rfl (hb hby d3_7) rfl (feq hc8).2 (by decide) (by decide) ?_
          show Steps p.tables e below (s₁.setTop (mkF m 12 #[.val (.int p0), .val (.int p1), .val (.int p2), .val (.int p3), .val (.int p4), .val (.int p5)] [])) _
          refine XS.iloadN X0.here hx rfl (hb hby d3_12) rfl ?_
          show Steps p.tables e below (s₁.setTop (mkF m 13 #[.val (.int p0), .val (.int p1), .val (.int p2), .val (.int p3), .val (.int p4), .val (.int p5)] [(.int p0)])) _
          refine XS.iconst X0.here hx rfl (hb hby d3_13) ?_
          exact kg_
        by_cases hc11 : (1 : Int32) < p0
        · have r12 : own_R p.tables e below F0 (s₁.setTop (mkF m 20 #[.val (.int p0), .val (.int p1), .val (.int p2), .val (.int p3), .val (.int p4), .val (.int p5)] [(.int p5), (.int p2)])) := fun tg_ kg_ => by
            refine r10 tg_ ?_
            show Steps p.tables e below (s₁.setTop (mkF m 14 #[.val (.int p0), .val (.int p1), .val (.int p2), .val (.int p3), .val (.int p4), .val (.int p5)] [(.int (1 : Int32)), (.int p0)])) _
            refine XS.icmpNo X0.here hx rfl (hb hby d3_14) rfl (tlt hc11).2.2.2 ?_
            show Steps p.tables e below (s₁.setTop (mkF m 17 #[.val (.int p0), .val (.int p1), .val (.int p2), .val (.int p3), .val (.int p4), .val (.int p5)] [])) _
            refine XS.iloadN X0.here hx rfl (hb hby d3_17) rfl ?_
            show Steps p.tables e below (s₁.setTop (mkF m 18 #[.val (.int p0), .val (.int p1), .val (.int p2), .val (.int p3), .val (.int p4), .val (.int p5)] [(.int p2)])) _
            refine XS.iload X0.here hx rfl (hb hby d3_18) rfl ?_
            exact kg_
          by_cases hc13 : p2 = p5
          · have r14 : own_R p.tables e below F0 (s₁.setTop (mkF m 24 #[.val (.int p0), .val (.int p1), .val (.int p2), .val (.int p3), .val (.int p4), .val (.int p5)] [(.int (1 : Int32))])) := fun tg_ kg_ => by
              refine r12 tg_ ?_
              show Steps p.tables e below (s₁.setTop (mkF m 20 #[.val (.int p0), .val (.int p1), .val (.int p2), .val (.int p3), .val (.int p4), .val (.int p5)] [(.int p5), (.int p2)])) _
              refine XS.icmpNo X0.here hx rfl (hb hby d3_20) rfl (teq hc13).2 ?_
              show Steps p.tables e below (s₁.setTop (mkF m 23 #[.val (.int p0), .val (.int p1), .val (.int p2), .val (.int p3), .val (.int p4), .val (.int p5)] [])) _
              refine XS.iconst X0.here hx rfl (hb hby d3_23) ?_
              exact kg_
            refine hG (own_fin X0 hlk (some (.int (nar .boolean (1 : Int32)))) (own_hv Bd.returns) ?_ (by decide) (by decide) (fun fs hr => r14 _ (retN X0 hx (t := .boolean) Bd.returns (by simp) (hb hby d3_24) hr)))
            rw [e0]
            refine ⟨?_, N0, rfl⟩
            have ev : (own_used p0 p1 p2 p3 p4 p5) = (1 : Int32) := by unfold own_used; rw [if_pos hc6, if_neg hc8, if_pos hc11, if_pos hc13]
            rw [ev]
            rfl
          · have r15 : own_R p.tables e below F0 (s₁.setTop (mkF m 27 #[.val (.int p0), .val (.int p1), .val (.int p2), .val (.int p3), .val (.int p4), .val (.int p5)] [(.int (2 : Int32)), (.int p0)])) := fun tg_ kg_ => by
              refine r12 tg_ ?_
              show Steps p.tables e below (s₁.setTop (mkF m 20 #[.val (.int p0), .val (.int p1), .val (.int p2), .val (.int p3), .val (.int p4), .val (.int p5)] [(.int p5), (.int p2)])) _
              refine XS.icmpYes X0.here hx rfl (pc0 := 20) (pc' := 25) rfl (hb hby d3_20) rfl (feq hc13).2 (by decide) (by decide) ?_
              show Steps p.tables e below (s₁.setTop (mkF m 25 #[.val (.int p0), .val (.int p1), .val (.int p2), .val (.int p3), .val (.int p4), .val (.int p5)] [])) _
              refine XS.iloadN X0.here hx rfl (hb hby d3_25) rfl ?_
              show Steps p.tables e below (s₁.setTop (mkF m 26 #[.val (.int p0), .val (.int p1), .val (.int p2), .val (.int p3), .val (.int p4), .val (.int p5)] [(.int p0)])) _
              refine XS.iconst X0.here hx rfl (hb hby d3_26) ?_
              exact kg_
            by_cases hc16 : (2 : Int32) < p0
            · have r17 : own_R p.tables e below F0 (s₁.setTop (mkF m 33 #[.val (.int p0), .val (.int p1), .val (.int p2), .val (.int p3), .val (.int p4), .val (.int p5)] [(.int p5), (.int p3)])) := fun tg_ kg_ => by
                refine r15 tg_ ?_
                show Steps p.tables e below (s₁.setTop (mkF m 27 #[.val (.int p0), .val (.int p1), .val (.int p2), .val (.int p3), .val (.int p4), .val (.int p5)] [(.int (2 : Int32)), (.int p0)])) _
                refine XS.icmpNo X0.here hx rfl (hb hby d3_27) rfl (tlt hc16).2.2.2 ?_
                show Steps p.tables e below (s₁.setTop (mkF m 30 #[.val (.int p0), .val (.int p1), .val (.int p2), .val (.int p3), .val (.int p4), .val (.int p5)] [])) _
                refine XS.iloadN X0.here hx rfl (hb hby d3_30) rfl ?_
                show Steps p.tables e below (s₁.setTop (mkF m 31 #[.val (.int p0), .val (.int p1), .val (.int p2), .val (.int p3), .val (.int p4), .val (.int p5)] [(.int p3)])) _
                refine XS.iload X0.here hx rfl (hb hby d3_31) rfl ?_
                exact kg_
              by_cases hc18 : p3 = p5
              · have r19 : own_R p.tables e below F0 (s₁.setTop (mkF m 37 #[.val (.int p0), .val (.int p1), .val (.int p2), .val (.int p3), .val (.int p4), .val (.int p5)] [(.int (1 : Int32))])) := fun tg_ kg_ => by
                  refine r17 tg_ ?_
                  show Steps p.tables e below (s₁.setTop (mkF m 33 #[.val (.int p0), .val (.int p1), .val (.int p2), .val (.int p3), .val (.int p4), .val (.int p5)] [(.int p5), (.int p3)])) _
                  refine XS.icmpNo X0.here hx rfl (hb hby d3_33) rfl (teq hc18).2 ?_
                  show Steps p.tables e below (s₁.setTop (mkF m 36 #[.val (.int p0), .val (.int p1), .val (.int p2), .val (.int p3), .val (.int p4), .val (.int p5)] [])) _
                  refine XS.iconst X0.here hx rfl (hb hby d3_36) ?_
                  exact kg_
                refine hG (own_fin X0 hlk (some (.int (nar .boolean (1 : Int32)))) (own_hv Bd.returns) ?_ (by decide) (by decide) (fun fs hr => r19 _ (retN X0 hx (t := .boolean) Bd.returns (by simp) (hb hby d3_37) hr)))
                rw [e0]
                refine ⟨?_, N0, rfl⟩
                have ev : (own_used p0 p1 p2 p3 p4 p5) = (1 : Int32) := by unfold own_used; rw [if_pos hc6, if_neg hc8, if_pos hc11, if_neg hc13, if_pos hc16, if_pos hc18]
                rw [ev]
                rfl
              · have r20 : own_R p.tables e below F0 (s₁.setTop (mkF m 40 #[.val (.int p0), .val (.int p1), .val (.int p2), .val (.int p3), .val (.int p4), .val (.int p5)] [(.int (3 : Int32)), (.int p0)])) := fun tg_ kg_ => by
                  refine r17 tg_ ?_
                  show Steps p.tables e below (s₁.setTop (mkF m 33 #[.val (.int p0), .val (.int p1), .val (.int p2), .val (.int p3), .val (.int p4), .val (.int p5)] [(.int p5), (.int p3)])) _
                  refine XS.icmpYes X0.here hx rfl (pc0 := 33) (pc' := 38) rfl (hb hby d3_33) rfl (feq hc18).2 (by decide) (by decide) ?_
                  show Steps p.tables e below (s₁.setTop (mkF m 38 #[.val (.int p0), .val (.int p1), .val (.int p2), .val (.int p3), .val (.int p4), .val (.int p5)] [])) _
                  refine XS.iloadN X0.here hx rfl (hb hby d3_38) rfl ?_
                  show Steps p.tables e below (s₁.setTop (mkF m 39 #[.val (.int p0), .val (.int p1), .val (.int p2), .val (.int p3), .val (.int p4), .val (.int p5)] [(.int p0)])) _
                  refine XS.iconst X0.here hx rfl (hb hby d3_39) ?_
                  exact kg_
                by_cases hc21 : (3 : Int32) < p0
                · have r22 : own_R p.tables e below F0 (s₁.setTop (mkF m 47 #[.val (.int p0), .val (.int p1), .val (.int p2), .val (.int p3), .val (.int p4), .val (.int p5)] [(.int p5), (.int p4)])) := fun tg_ kg_ => by
                    refine r20 tg_ ?_
                    show Steps p.tables e below (s₁.setTop (mkF m 40 #[.val (.int p0), .val (.int p1), .val (.int p2), .val (.int p3), .val (.int p4), .val (.int p5)] [(.int (3 : Int32)), (.int p0)])) _
                    refine XS.icmpNo X0.here hx rfl (hb hby d3_40) rfl (tlt hc21).2.2.2 ?_
                    show Steps p.tables e below (s₁.setTop (mkF m 43 #[.val (.int p0), .val (.int p1), .val (.int p2), .val (.int p3), .val (.int p4), .val (.int p5)] [])) _
                    refine XS.iload X0.here hx rfl (hb hby d3_43) rfl ?_
                    show Steps p.tables e below (s₁.setTop (mkF m 45 #[.val (.int p0), .val (.int p1), .val (.int p2), .val (.int p3), .val (.int p4), .val (.int p5)] [(.int p4)])) _
                    refine XS.iload X0.here hx rfl (hb hby d3_45) rfl ?_
                    exact kg_
                  by_cases hc23 : p4 = p5
                  · have r24 : own_R p.tables e below F0 (s₁.setTop (mkF m 51 #[.val (.int p0), .val (.int p1), .val (.int p2), .val (.int p3), .val (.int p4), .val (.int p5)] [(.int (1 : Int32))])) := fun tg_ kg_ => by
                      refine r22 tg_ ?_
                      show Steps p.tables e below (s₁.setTop (mkF m 47 #[.val (.int p0), .val (.int p1), .val (.int p2), .val (.int p3), .val (.int p4), .val (.int p5)] [(.int p5), (.int p4)])) _
                      refine XS.icmpNo X0.here hx rfl (hb hby d3_47) rfl (teq hc23).2 ?_
                      show Steps p.tables e below (s₁.setTop (mkF m 50 #[.val (.int p0), .val (.int p1), .val (.int p2), .val (.int p3), .val (.int p4), .val (.int p5)] [])) _
                      refine XS.iconst X0.here hx rfl (hb hby d3_50) ?_
                      exact kg_
                    refine hG (own_fin X0 hlk (some (.int (nar .boolean (1 : Int32)))) (own_hv Bd.returns) ?_ (by decide) (by decide) (fun fs hr => r24 _ (retN X0 hx (t := .boolean) Bd.returns (by simp) (hb hby d3_51) hr)))
                    rw [e0]
                    refine ⟨?_, N0, rfl⟩
                    have ev : (own_used p0 p1 p2 p3 p4 p5) = (1 : Int32) := by unfold own_used; rw [if_pos hc6, if_neg hc8, if_pos hc11, if_neg hc13, if_pos hc16, if_neg hc18, if_pos hc21, if_pos hc23]
                    rw [ev]
                    rfl
                  · have r25 : own_R p.tables e below F0 (s₁.setTop (mkF m 53 #[.val (.int p0), .val (.int p1), .val (.int p2), .val (.int p3), .val (.int p4), .val (.int p5)] [(.int (0 : Int32))])) := fun tg_ kg_ => by
                      refine r22 tg_ ?_
                      show Steps p.tables e below (s₁.setTop (mkF m 47 #[.val (.int p0), .val (.int p1), .val (.int p2), .val (.int p3), .val (.int p4), .val (.int p5)] [(.int p5), (.int p4)])) _
                      refine XS.icmpYes X0.here hx rfl (pc0 := 47) (pc' := 52) rfl (hb hby d3_47) rfl (feq hc23).2 (by decide) (by decide) ?_
                      show Steps p.tables e below (s₁.setTop (mkF m 52 #[.val (.int p0), .val (.int p1), .val (.int p2), .val (.int p3), .val (.int p4), .val (.int p5)] [])) _
                      refine XS.iconst X0.here hx rfl (hb hby d3_52) ?_
                      exact kg_
                    refine hG (own_fin X0 hlk (some (.int (nar .boolean (0 : Int32)))) (own_hv Bd.returns) ?_ (by decide) (by decide) (fun fs hr => r25 _ (retN X0 hx (t := .boolean) Bd.returns (by simp) (hb hby d3_53) hr)))
                    rw [e0]
                    refine ⟨?_, N0, rfl⟩
                    have ev : (own_used p0 p1 p2 p3 p4 p5) = (0 : Int32) := by unfold own_used; rw [if_pos hc6, if_neg hc8, if_pos hc11, if_neg hc13, if_pos hc16, if_neg hc18, if_pos hc21, if_neg hc23]
                    rw [ev]
                    rfl
                · have r26 : own_R p.tables e below F0 (s₁.setTop (mkF m 53 #[.val (.int p0), .val (.int p1), .val (.int p2), .val (.int p3), .val (.int p4), .val (.int p5)] [(.int (0 : Int32))])) := fun tg_ kg_ => by
                    refine r20 tg_ ?_
                    show Steps p.tables e below (s₁.setTop (mkF m 40 #[.val (.int p0), .val (.int p1), .val (.int p2), .val (.int p3), .val (.int p4), .val (.int p5)] [(.int (3 : Int32)), (.int p0)])) _
                    refine XS.icmpYes X0.here hx rfl (pc0 := 40) (pc' := 52) rfl (hb hby d3_40) rfl (flt hc21).2.2.2 (by decide) (by decide) ?_
                    show Steps p.tables e below (s₁.setTop (mkF m 52 #[.val (.int p0), .val (.int p1), .val (.int p2), .val (.int p3), .val (.int p4), .val (.int p5)] [])) _
                    refine XS.iconst X0.here hx rfl (hb hby d3_52) ?_
                    exact kg_
                  refine hG (own_fin X0 hlk (some (.int (nar .boolean (0 : Int32)))) (own_hv Bd.returns) ?_ (by decide) (by decide) (fun fs hr => r26 _ (retN X0 hx (t := .boolean) Bd.returns (by simp) (hb hby d3_53) hr)))
                  rw [e0]
                  refine ⟨?_, N0, rfl⟩
                  have ev : (own_used p0 p1 p2 p3 p4 p5) = (0 : Int32) := by unfold own_used; rw [if_pos hc6, if_neg hc8, if_pos hc11, if_neg hc13, if_pos hc16, if_neg hc18, if_neg hc21]
                  rw [ev]
                  rfl
            · have r27 : own_R p.tables e below F0 (s₁.setTop (mkF m 40 #[.val (.int p0), .val (.int p1), .val (.int p2), .val (.int p3), .val (.int p4), .val (.int p5)] [(.int (3 : Int32)), (.int p0)])) := fun tg_ kg_ => by
                refine r15 tg_ ?_
                show Steps p.tables e below (s₁.setTop (mkF m 27 #[.val (.int p0), .val (.int p1), .val (.int p2), .val (.int p3), .val (.int p4), .val (.int p5)] [(.int (2 : Int32)), (.int p0)])) _
                refine XS.icmpYes X0.here hx rfl (pc0 := 27) (pc' := 38) rfl (hb hby d3_27) rfl (flt hc16).2.2.2 (by decide) (by decide) ?_
                show Steps p.tables e below (s₁.setTop (mkF m 38 #[.val (.int p0), .val (.int p1), .val (.int p2), .val (.int p3), .val (.int p4), .val (.int p5)] [])) _
                refine XS.iloadN X0.here hx rfl (hb hby d3_38) rfl ?_
                show Steps p.tables e below (s₁.setTop (mkF m 39 #[.val (.int p0), .val (.int p1), .val (.int p2), .val (.int p3), .val (.int p4), .val (.int p5)] [(.int p0)])) _
                refine XS.iconst X0.here hx rfl (hb hby d3_39) ?_
                exact kg_
              by_cases hc28 : (3 : Int32) < p0
              · have r29 : own_R p.tables e below F0 (s₁.setTop (mkF m 47 #[.val (.int p0), .val (.int p1), .val (.int p2), .val (.int p3), .val (.int p4), .val (.int p5)] [(.int p5), (.int p4)])) := fun tg_ kg_ => by
                  refine r27 tg_ ?_
                  show Steps p.tables e below (s₁.setTop (mkF m 40 #[.val (.int p0), .val (.int p1), .val (.int p2), .val (.int p3), .val (.int p4), .val (.int p5)] [(.int (3 : Int32)), (.int p0)])) _
                  refine XS.icmpNo X0.here hx rfl (hb hby d3_40) rfl (tlt hc28).2.2.2 ?_
                  show Steps p.tables e below (s₁.setTop (mkF m 43 #[.val (.int p0), .val (.int p1), .val (.int p2), .val (.int p3), .val (.int p4), .val (.int p5)] [])) _
                  refine XS.iload X0.here hx rfl (hb hby d3_43) rfl ?_
                  show Steps p.tables e below (s₁.setTop (mkF m 45 #[.val (.int p0), .val (.int p1), .val (.int p2), .val (.int p3), .val (.int p4), .val (.int p5)] [(.int p4)])) _
                  refine XS.iload X0.here hx rfl (hb hby d3_45) rfl ?_
                  exact kg_
                by_cases hc30 : p4 = p5
                · have r31 : own_R p.tables e below F0 (s₁.setTop (mkF m 51 #[.val (.int p0), .val (.int p1), .val (.int p2), .val (.int p3), .val (.int p4), .val (.int p5)] [(.int (1 : Int32))])) := fun tg_ kg_ => by
                    refine r29 tg_ ?_
                    show Steps p.tables e below (s₁.setTop (mkF m 47 #[.val (.int p0), .val (.int p1), .val (.int p2), .val (.int p3), .val (.int p4), .val (.int p5)] [(.int p5), (.int p4)])) _
                    refine XS.icmpNo X0.here hx rfl (hb hby d3_47) rfl (teq hc30).2 ?_
                    show Steps p.tables e below (s₁.setTop (mkF m 50 #[.val (.int p0), .val (.int p1), .val (.int p2), .val (.int p3), .val (.int p4), .val (.int p5)] [])) _
                    refine XS.iconst X0.here hx rfl (hb hby d3_50) ?_
                    exact kg_
                  refine hG (own_fin X0 hlk (some (.int (nar .boolean (1 : Int32)))) (own_hv Bd.returns) ?_ (by decide) (by decide) (fun fs hr => r31 _ (retN X0 hx (t := .boolean) Bd.returns (by simp) (hb hby d3_51) hr)))
                  rw [e0]
                  refine ⟨?_, N0, rfl⟩
                  have ev : (own_used p0 p1 p2 p3 p4 p5) = (1 : Int32) := by unfold own_used; rw [if_pos hc6, if_neg hc8, if_pos hc11, if_neg hc13, if_neg hc16, if_pos hc28, if_pos hc30]
                  rw [ev]
                  rfl
                · have r32 : own_R p.tables e below F0 (s₁.setTop (mkF m 53 #[.val (.int p0), .val (.int p1), .val (.int p2), .val (.int p3), .val (.int p4), .val (.int p5)] [(.int (0 : Int32))])) := fun tg_ kg_ => by
                    refine r29 tg_ ?_
                    show Steps p.tables e below (s₁.setTop (mkF m 47 #[.val (.int p0), .val (.int p1), .val (.int p2), .val (.int p3), .val (.int p4), .val (.int p5)] [(.int p5), (.int p4)])) _
                    refine XS.icmpYes X0.here hx rfl (pc0 := 47) (pc' := 52) rfl (hb hby d3_47) rfl (feq hc30).2 (by decide) (by decide) ?_
                    show Steps p.tables e below (s₁.setTop (mkF m 52 #[.val (.int p0), .val (.int p1), .val (.int p2), .val (.int p3), .val (.int p4), .val (.int p5)] [])) _
                    refine XS.iconst X0.here hx rfl (hb hby d3_52) ?_
                    exact kg_
                  refine hG (own_fin X0 hlk (some (.int (nar .boolean (0 : Int32)))) (own_hv Bd.returns) ?_ (by decide) (by decide) (fun fs hr => r32 _ (retN X0 hx (t := .boolean) Bd.returns (by simp) (hb hby d3_53) hr)))
                  rw [e0]
                  refine ⟨?_, N0, rfl⟩
                  have ev : (own_used p0 p1 p2 p3 p4 p5) = (0 : Int32) := by unfold own_used; rw [if_pos hc6, if_neg hc8, if_pos hc11, if_neg hc13, if_neg hc16, if_pos hc28, if_neg hc30]
                  rw [ev]
                  rfl
              · have r33 : own_R p.tables e below F0 (s₁.setTop (mkF m 53 #[.val (.int p0), .val (.int p1), .val (.int p2), .val (.int p3), .val (.int p4), .val (.int p5)] [(.int (0 : Int32))])) := fun tg_ kg_ => by
                  refine r27 tg_ ?_
                  show Steps p.tables e below (s₁.setTop (mkF m 40 #[.val (.int p0), .val (.int p1), .val (.int p2), .val (.int p3), .val (.int p4), .val (.int p5)] [(.int (3 : Int32)), (.int p0)])) _
                  refine XS.icmpYes X0.here hx rfl (pc0 := 40) (pc' := 52) rfl (hb hby d3_40) rfl (flt hc28).2.2.2 (by decide) (by decide) ?_
                  show Steps p.tables e below (s₁.setTop (mkF m 52 #[.val (.int p0), .val (.int p1), .val (.int p2), .val (.int p3), .val (.int p4), .val (.int p5)] [])) _
                  refine XS.iconst X0.here hx rfl (hb hby d3_52) ?_
                  exact kg_
                refine hG (own_fin X0 hlk (some (.int (nar .boolean (0 : Int32)))) (own_hv Bd.returns) ?_ (by decide) (by decide) (fun fs hr => r33 _ (retN X0 hx (t := .boolean) Bd.returns (by simp) (hb hby d3_53) hr)))
                rw [e0]
                refine ⟨?_, N0, rfl⟩
                have ev : (own_used p0 p1 p2 p3 p4 p5) = (0 : Int32) := by unfold own_used; rw [if_pos hc6, if_neg hc8, if_pos hc11, if_neg hc13, if_neg hc16, if_neg hc28]
                rw [ev]
                rfl
        · have r34 : own_R p.tables e below F0 (s₁.setTop (mkF m 27 #[.val (.int p0), .val (.int p1), .val (.int p2), .val (.int p3), .val (.int p4), .val (.int p5)] [(.int (2 : Int32)), (.int p0)])) := fun tg_ kg_ => by
            refine r10 tg_ ?_
            show Steps p.tables e below (s₁.setTop (mkF m 14 #[.val (.int p0), .val (.int p1), .val (.int p2), .val (.int p3), .val (.int p4), .val (.int p5)] [(.int (1 : Int32)), (.int p0)])) _
            refine XS.icmpYes X0.here hx rfl (pc0 := 14) (pc' := 25) rfl (hb hby d3_14) rfl (flt hc11).2.2.2 (by decide) (by decide) ?_
            show Steps p.tables e below (s₁.setTop (mkF m 25 #[.val (.int p0), .val (.int p1), .val (.int p2), .val (.int p3), .val (.int p4), .val (.int p5)] [])) _
            refine XS.iloadN X0.here hx rfl (hb hby d3_25) rfl ?_
            show Steps p.tables e below (s₁.setTop (mkF m 26 #[.val (.int p0), .val (.int p1), .val (.int p2), .val (.int p3), .val (.int p4), .val (.int p5)] [(.int p0)])) _
            refine XS.iconst X0.here hx rfl (hb hby d3_26) ?_
            exact kg_
          by_cases hc35 : (2 : Int32) < p0
          · have r36 : own_R p.tables e below F0 (s₁.setTop (mkF m 33 #[.val (.int p0), .val (.int p1), .val (.int p2), .val (.int p3), .val (.int p4), .val (.int p5)] [(.int p5), (.int p3)])) := fun tg_ kg_ => by
              refine r34 tg_ ?_
              show Steps p.tables e below (s₁.setTop (mkF m 27 #[.val (.int p0), .val (.int p1), .val (.int p2), .val (.int p3), .val (.int p4), .val (.int p5)] [(.int (2 : Int32)), (.int p0)])) _
              refine XS.icmpNo X0.here hx rfl (hb hby d3_27) rfl (tlt hc35).2.2.2 ?_
              show Steps p.tables e below (s₁.setTop (mkF m 30 #[.val (.int p0), .val (.int p1), .val (.int p2), .val (.int p3), .val (.int p4), .val (.int p5)] [])) _
              refine XS.iloadN X0.here hx rfl (hb hby d3_30) rfl ?_
              show Steps p.tables e below (s₁.setTop (mkF m 31 #[.val (.int p0), .val (.int p1), .val (.int p2), .val (.int p3), .val (.int p4), .val (.int p5)] [(.int p3)])) _
              refine XS.iload X0.here hx rfl (hb hby d3_31) rfl ?_
              exact kg_
            by_cases hc37 : p3 = p5
            · have r38 : own_R p.tables e below F0 (s₁.setTop (mkF m 37 #[.val (.int p0), .val (.int p1), .val (.int p2), .val (.int p3), .val (.int p4), .val (.int p5)] [(.int (1 : Int32))])) := fun tg_ kg_ => by
                refine r36 tg_ ?_
                show Steps p.tables e below (s₁.setTop (mkF m 33 #[.val (.int p0), .val (.int p1), .val (.int p2), .val (.int p3), .val (.int p4), .val (.int p5)] [(.int p5), (.int p3)])) _
                refine XS.icmpNo X0.here hx rfl (hb hby d3_33) rfl (teq hc37).2 ?_
                show Steps p.tables e below (s₁.setTop (mkF m 36 #[.val (.int p0), .val (.int p1), .val (.int p2), .val (.int p3), .val (.int p4), .val (.int p5)] [])) _
                refine XS.iconst X0.here hx rfl (hb hby d3_36) ?_
                exact kg_
              refine hG (own_fin X0 hlk (some (.int (nar .boolean (1 : Int32)))) (own_hv Bd.returns) ?_ (by decide) (by decide) (fun fs hr => r38 _ (retN X0 hx (t := .boolean) Bd.returns (by simp) (hb hby d3_37) hr)))
              rw [e0]
              refine ⟨?_, N0, rfl⟩
              have ev : (own_used p0 p1 p2 p3 p4 p5) = (1 : Int32) := by unfold own_used; rw [if_pos hc6, if_neg hc8, if_neg hc11, if_pos hc35, if_pos hc37]
              rw [ev]
              rfl
            · have r39 : own_R p.tables e below F0 (s₁.setTop (mkF m 40 #[.val (.int p0), .val (.int p1), .val (.int p2), .val (.int p3), .val (.int p4), .val (.int p5)] [(.int (3 : Int32)), (.int p0)])) := fun tg_ kg_ => by
                refine r36 tg_ ?_
                show Steps p.tables e below (s₁.setTop (mkF m 33 #[.val (.int p0), .val (.int p1), .val (.int p2), .val (.int p3), .val (.int p4), .val (.int p5)] [(.int p5), (.int p3)])) _
                refine XS.icmpYes X0.here hx rfl (pc0 := 33) (pc' := 38) rfl (hb hby d3_33) rfl (feq hc37).2 (by decide) (by decide) ?_
                show Steps p.tables e below (s₁.setTop (mkF m 38 #[.val (.int p0), .val (.int p1), .val (.int p2), .val (.int p3), .val (.int p4), .val (.int p5)] [])) _
                refine XS.iloadN X0.here hx rfl (hb hby d3_38) rfl ?_
                show Steps p.tables e below (s₁.setTop (mkF m 39 #[.val (.int p0), .val (.int p1), .val (.int p2), .val (.int p3), .val (.int p4), .val (.int p5)] [(.int p0)])) _
                refine XS.iconst X0.here hx rfl (hb hby d3_39) ?_
                exact kg_
              by_cases hc40 : (3 : Int32) < p0
              · have r41 : own_R p.tables e below F0 (s₁.setTop (mkF m 47 #[.val (.int p0), .val (.int p1), .val (.int p2), .val (.int p3), .val (.int p4), .val (.int p5)] [(.int p5), (.int p4)])) := fun tg_ kg_ => by
                  refine r39 tg_ ?_
                  show Steps p.tables e below (s₁.setTop (mkF m 40 #[.val (.int p0), .val (.int p1), .val (.int p2), .val (.int p3), .val (.int p4), .val (.int p5)] [(.int (3 : Int32)), (.int p0)])) _
                  refine XS.icmpNo X0.here hx rfl (hb hby d3_40) rfl (tlt hc40).2.2.2 ?_
                  show Steps p.tables e below (s₁.setTop (mkF m 43 #[.val (.int p0), .val (.int p1), .val (.int p2), .val (.int p3), .val (.int p4), .val (.int p5)] [])) _
                  refine XS.iload X0.here hx rfl (hb hby d3_43) rfl ?_
                  show Steps p.tables e below (s₁.setTop (mkF m 45 #[.val (.int p0), .val (.int p1), .val (.int p2), .val (.int p3), .val (.int p4), .val (.int p5)] [(.int p4)])) _
                  refine XS.iload X0.here hx rfl (hb hby d3_45) rfl ?_
                  exact kg_
                by_cases hc42 : p4 = p5
                · have r43 : own_R p.tables e below F0 (s₁.setTop (mkF m 51 #[.val (.int p0), .val (.int p1), .val (.int p2), .val (.int p3), .val (.int p4), .val (.int p5)] [(.int (1 : Int32))])) := fun tg_ kg_ => by
                    refine r41 tg_ ?_
                    show Steps p.tables e below (s₁.setTop (mkF m 47 #[.val (.int p0), .val (.int p1), .val (.int p2), .val (.int p3), .val (.int p4), .val (.int p5)] [(.int p5), (.int p4)])) _
                    refine XS.icmpNo X0.here hx rfl (hb hby d3_47) rfl (teq hc42).2 ?_
                    show Steps p.tables e below (s₁.setTop (mkF m 50 #[.val (.int p0), .val (.int p1), .val (.int p2), .val (.int p3), .val (.int p4), .val (.int p5)] [])) _
                    refine XS.iconst X0.here hx rfl (hb hby d3_50) ?_
                    exact kg_
                  refine hG (own_fin X0 hlk (some (.int (nar .boolean (1 : Int32)))) (own_hv Bd.returns) ?_ (by decide) (by decide) (fun fs hr => r43 _ (retN X0 hx (t := .boolean) Bd.returns (by simp) (hb hby d3_51) hr)))
                  rw [e0]
                  refine ⟨?_, N0, rfl⟩
                  have ev : (own_used p0 p1 p2 p3 p4 p5) = (1 : Int32) := by unfold own_used; rw [if_pos hc6, if_neg hc8, if_neg hc11, if_pos hc35, if_neg hc37, if_pos hc40, if_pos hc42]
                  rw [ev]
                  rfl
                · have r44 : own_R p.tables e below F0 (s₁.setTop (mkF m 53 #[.val (.int p0), .val (.int p1), .val (.int p2), .val (.int p3), .val (.int p4), .val (.int p5)] [(.int (0 : Int32))])) := fun tg_ kg_ => by
                    refine r41 tg_ ?_
                    show Steps p.tables e below (s₁.setTop (mkF m 47 #[.val (.int p0), .val (.int p1), .val (.int p2), .val (.int p3), .val (.int p4), .val (.int p5)] [(.int p5), (.int p4)])) _
                    refine XS.icmpYes X0.here hx rfl (pc0 := 47) (pc' := 52) rfl (hb hby d3_47) rfl (feq hc42).2 (by decide) (by decide) ?_
                    show Steps p.tables e below (s₁.setTop (mkF m 52 #[.val (.int p0), .val (.int p1), .val (.int p2), .val (.int p3), .val (.int p4), .val (.int p5)] [])) _
                    refine XS.iconst X0.here hx rfl (hb hby d3_52) ?_
                    exact kg_
                  refine hG (own_fin X0 hlk (some (.int (nar .boolean (0 : Int32)))) (own_hv Bd.returns) ?_ (by decide) (by decide) (fun fs hr => r44 _ (retN X0 hx (t := .boolean) Bd.returns (by simp) (hb hby d3_53) hr)))
                  rw [e0]
                  refine ⟨?_, N0, rfl⟩
                  have ev : (own_used p0 p1 p2 p3 p4 p5) = (0 : Int32) := by unfold own_used; rw [if_pos hc6, if_neg hc8, if_neg hc11, if_pos hc35, if_neg hc37, if_pos hc40, if_neg hc42]
                  rw [ev]
                  rfl
              · have r45 : own_R p.tables e below F0 (s₁.setTop (mkF m 53 #[.val (.int p0), .val (.int p1), .val (.int p2), .val (.int p3), .val (.int p4), .val (.int p5)] [(.int (0 : Int32))])) := fun tg_ kg_ => by
                  refine r39 tg_ ?_
                  show Steps p.tables e below (s₁.setTop (mkF m 40 #[.val (.int p0), .val (.int p1), .val (.int p2), .val (.int p3), .val (.int p4), .val (.int p5)] [(.int (3 : Int32)), (.int p0)])) _
                  refine XS.icmpYes X0.here hx rfl (pc0 := 40) (pc' := 52) rfl (hb hby d3_40) rfl (flt hc40).2.2.2 (by decide) (by decide) ?_
                  show Steps p.tables e below (s₁.setTop (mkF m 52 #[.val (.int p0), .val (.int p1), .val (.int p2), .val (.int p3), .val (.int p4), .val (.int p5)] [])) _
                  refine XS.iconst X0.here hx rfl (hb hby d3_52) ?_
                  exact kg_
                refine hG (own_fin X0 hlk (some (.int (nar .boolean (0 : Int32)))) (own_hv Bd.returns) ?_ (by decide) (by decide) (fun fs hr => r45 _ (retN X0 hx (t := .boolean) Bd.returns (by simp) (hb hby d3_53) hr)))
                rw [e0]
                refine ⟨?_, N0, rfl⟩
                have ev : (own_used p0 p1 p2 p3 p4 p5) = (0 : Int32) := by unfold own_used; rw [if_pos hc6, if_neg hc8, if_neg hc11, if_pos hc35, if_neg hc37, if_neg hc40]
                rw [ev]
                rfl
          · have r46 : own_R p.tables e below F0 (s₁.setTop (mkF m 40 #[.val (.int p0), .val (.int p1), .val (.int p2), .val (.int p3), .val (.int p4), .val (.int p5)] [(.int (3 : Int32)), (.int p0)])) := fun tg_ kg_ => by
              refine r34 tg_ ?_
              show Steps p.tables e below (s₁.setTop (mkF m 27 #[.val (.int p0), .val (.int p1), .val (.int p2), .val (.int p3), .val (.int p4), .val (.int p5)] [(.int (2 : Int32)), (.int p0)])) _
              refine XS.icmpYes X0.here hx rfl (pc0 := 27) (pc' := 38) rfl (hb hby d3_27) rfl (flt hc35).2.2.2 (by decide) (by decide) ?_
              show Steps p.tables e below (s₁.setTop (mkF m 38 #[.val (.int p0), .val (.int p1), .val (.int p2), .val (.int p3), .val (.int p4), .val (.int p5)] [])) _
              refine XS.iloadN X0.here hx rfl (hb hby d3_38) rfl ?_
              show Steps p.tables e below (s₁.setTop (mkF m 39 #[.val (.int p0), .val (.int p1), .val (.int p2), .val (.int p3), .val (.int p4), .val (.int p5)] [(.int p0)])) _
              refine XS.iconst X0.here hx rfl (hb hby d3_39) ?_
              exact kg_
            by_cases hc47 : (3 : Int32) < p0
            · have r48 : own_R p.tables e below F0 (s₁.setTop (mkF m 47 #[.val (.int p0), .val (.int p1), .val (.int p2), .val (.int p3), .val (.int p4), .val (.int p5)] [(.int p5), (.int p4)])) := fun tg_ kg_ => by
                refine r46 tg_ ?_
                show Steps p.tables e below (s₁.setTop (mkF m 40 #[.val (.int p0), .val (.int p1), .val (.int p2), .val (.int p3), .val (.int p4), .val (.int p5)] [(.int (3 : Int32)), (.int p0)])) _
                refine XS.icmpNo X0.here hx rfl (hb hby d3_40) rfl (tlt hc47).2.2.2 ?_
                show Steps p.tables e below (s₁.setTop (mkF m 43 #[.val (.int p0), .val (.int p1), .val (.int p2), .val (.int p3), .val (.int p4), .val (.int p5)] [])) _
                refine XS.iload X0.here hx rfl (hb hby d3_43) rfl ?_
                show Steps p.tables e below (s₁.setTop (mkF m 45 #[.val (.int p0), .val (.int p1), .val (.int p2), .val (.int p3), .val (.int p4), .val (.int p5)] [(.int p4)])) _
                refine XS.iload X0.here hx rfl (hb hby d3_45) rfl ?_
                exact kg_
              by_cases hc49 : p4 = p5
              · have r50 : own_R p.tables e below F0 (s₁.setTop (mkF m 51 #[.val (.int p0), .val (.int p1), .val (.int p2), .val (.int p3), .val (.int p4), .val (.int p5)] [(.int (1 : Int32))])) := fun tg_ kg_ => by
                  refine r48 tg_ ?_
                  show Steps p.tables e below (s₁.setTop (mkF m 47 #[.val (.int p0), .val (.int p1), .val (.int p2), .val (.int p3), .val (.int p4), .val (.int p5)] [(.int p5), (.int p4)])) _
                  refine XS.icmpNo X0.here hx rfl (hb hby d3_47) rfl (teq hc49).2 ?_
                  show Steps p.tables e below (s₁.setTop (mkF m 50 #[.val (.int p0), .val (.int p1), .val (.int p2), .val (.int p3), .val (.int p4), .val (.int p5)] [])) _
                  refine XS.iconst X0.here hx rfl (hb hby d3_50) ?_
                  exact kg_
                refine hG (own_fin X0 hlk (some (.int (nar .boolean (1 : Int32)))) (own_hv Bd.returns) ?_ (by decide) (by decide) (fun fs hr => r50 _ (retN X0 hx (t := .boolean) Bd.returns (by simp) (hb hby d3_51) hr)))
                rw [e0]
                refine ⟨?_, N0, rfl⟩
                have ev : (own_used p0 p1 p2 p3 p4 p5) = (1 : Int32) := by unfold own_used; rw [if_pos hc6, if_neg hc8, if_neg hc11, if_neg hc35, if_pos hc47, if_pos hc49]
                rw [ev]
                rfl
              · have r51 : own_R p.tables e below F0 (s₁.setTop (mkF m 53 #[.val (.int p0), .val (.int p1), .val (.int p2), .val (.int p3), .val (.int p4), .val (.int p5)] [(.int (0 : Int32))])) := fun tg_ kg_ => by
                  refine r48 tg_ ?_
                  show Steps p.tables e below (s₁.setTop (mkF m 47 #[.val (.int p0), .val (.int p1), .val (.int p2), .val (.int p3), .val (.int p4), .val (.int p5)] [(.int p5), (.int p4)])) _
                  refine XS.icmpYes X0.here hx rfl (pc0 := 47) (pc' := 52) rfl (hb hby d3_47) rfl (feq hc49).2 (by decide) (by decide) ?_
                  show Steps p.tables e below (s₁.setTop (mkF m 52 #[.val (.int p0), .val (.int p1), .val (.int p2), .val (.int p3), .val (.int p4), .val (.int p5)] [])) _
                  refine XS.iconst X0.here hx rfl (hb hby d3_52) ?_
                  exact kg_
                refine hG (own_fin X0 hlk (some (.int (nar .boolean (0 : Int32)))) (own_hv Bd.returns) ?_ (by decide) (by decide) (fun fs hr => r51 _ (retN X0 hx (t := .boolean) Bd.returns (by simp) (hb hby d3_53) hr)))
                rw [e0]
                refine ⟨?_, N0, rfl⟩
                have ev : (own_used p0 p1 p2 p3 p4 p5) = (0 : Int32) := by unfold own_used; rw [if_pos hc6, if_neg hc8, if_neg hc11, if_neg hc35, if_pos hc47, if_neg hc49]
                rw [ev]
                rfl
            · have r52 : own_R p.tables e below F0 (s₁.setTop (mkF m 53 #[.val (.int p0), .val (.int p1), .val (.int p2), .val (.int p3), .val (.int p4), .val (.int p5)] [(.int (0 : Int32))])) := fun tg_ kg_ => by
                refine r46 tg_ ?_
                show Steps p.tables e below (s₁.setTop (mkF m 40 #[.val (.int p0), .val (.int p1), .val (.int p2), .val (.int p3), .val (.int p4), .val (.int p5)] [(.int (3 : Int32)), (.int p0)])) _
                refine XS.icmpYes X0.here hx rfl (pc0 := 40) (pc' := 52) rfl (hb hby d3_40) rfl (flt hc47).2.2.2 (by decide) (by decide) ?_
                show Steps p.tables e below (s₁.setTop (mkF m 52 #[.val (.int p0), .val (.int p1), .val (.int p2), .val (.int p3), .val (.int p4), .val (.int p5)] [])) _
                refine XS.iconst X0.here hx rfl (hb hby d3_52) ?_
                exact kg_
              refine hG (own_fin X0 hlk (some (.int (nar .boolean (0 : Int32)))) (own_hv Bd.returns) ?_ (by decide) (by decide) (fun fs hr => r52 _ (retN X0 hx (t := .boolean) Bd.returns (by simp) (hb hby d3_53) hr)))
              rw [e0]
              refine ⟨?_, N0, rfl⟩
              have ev : (own_used p0 p1 p2 p3 p4 p5) = (0 : Int32) := by unfold own_used; rw [if_pos hc6, if_neg hc8, if_neg hc11, if_neg hc35, if_neg hc47]
              rw [ev]
              rfl
    · have r53 : own_R p.tables e below F0 (s₁.setTop (mkF m 14 #[.val (.int p0), .val (.int p1), .val (.int p2), .val (.int p3), .val (.int p4), .val (.int p5)] [(.int (1 : Int32)), (.int p0)])) := fun tg_ kg_ => by
        refine r5 tg_ ?_
        show Steps p.tables e below (s₁.setTop (mkF m 1 #[.val (.int p0), .val (.int p1), .val (.int p2), .val (.int p3), .val (.int p4), .val (.int p5)] [(.int p0)])) _
        refine XS.ifYes X0.here hx rfl (pc0 := 1) (pc' := 12) rfl (hb hby d3_1) rfl ((if0 _ _).trans (flt hc6).2.2.2) (by decide) (by decide) ?_
        show Steps p.tables e below (s₁.setTop (mkF m 12 #[.val (.int p0), .val (.int p1), .val (.int p2), .val (.int p3), .val (.int p4), .val (.int p5)] [])) _
        refine XS.iloadN X0.here hx rfl (hb hby d3_12) rfl ?_
        show Steps p.tables e below (s₁.setTop (mkF m 13 #[.val (.int p0), .val (.int p1), .val (.int p2), .val (.int p3), .val (.int p4), .val (.int p5)] [(.int p0)])) _
        refine XS.iconst X0.here hx rfl (hb hby d3_13) ?_
        exact kg_
      by_cases hc54 : (1 : Int32) < p0
      · have r55 : own_R p.tables e below F0 (s₁.setTop (mkF m 20 #[.val (.int p0), .val (.int p1), .val (.int p2), .val (.int p3), .val (.int p4), .val (.int p5)] [(.int p5), (.int p2)])) := fun tg_ kg_ => by
          refine r53 tg_ ?_
          show Steps p.tables e below (s₁.setTop (mkF m 14 #[.val (.int p0), .val (.int p1), .val (.int p2), .val (.int p3), .val (.int p4), .val (.int p5)] [(.int (1 : Int32)), (.int p0)])) _
          refine XS.icmpNo X0.here hx rfl (hb hby d3_14) rfl (tlt hc54).2.2.2 ?_
          show Steps p.tables e below (s₁.setTop (mkF m 17 #[.val (.int p0), .val (.int p1), .val (.int p2), .val (.int p3), .val (.int p4), .val (.int p5)] [])) _
          refine XS.iloadN X0.here hx rfl (hb hby d3_17) rfl ?_
          show Steps p.tables e below (s₁.setTop (mkF m 18 #[.val (.int p0), .val (.int p1), .val (.int p2), .val (.int p3), .val (.int p4), .val (.int p5)] [(.int p2)])) _
          refine XS.iload X0.here hx rfl (hb hby d3_18) rfl ?_
          exact kg_
        by_cases hc56 : p2 = p5
        · have r57 : own_R p.tables e below F0 (s₁.setTop (mkF m 24 #[.val (.int p0), .val (.int p1), .val (.int p2), .val (.int p3), .val (.int p4), .val (.int p5)] [(.int (1 : Int32))])) := fun tg_ kg_ => by
            refine r55 tg_ ?_
            show Steps p.tables e below (s₁.setTop (mkF m 20 #[.val (.int p0), .val (.int p1), .val (.int p2), .val (.int p3), .val (.int p4), .val (.int p5)] [(.int p5), (.int p2)])) _
            refine XS.icmpNo X0.here hx rfl (hb hby d3_20) rfl (teq hc56).2 ?_
            show Steps p.tables e below (s₁.setTop (mkF m 23 #[.val (.int p0), .val (.int p1), .val (.int p2), .val (.int p3), .val (.int p4), .val (.int p5)] [])) _
            refine XS.iconst X0.here hx rfl (hb hby d3_23) ?_
            exact kg_
          refine hG (own_fin X0 hlk (some (.int (nar .boolean (1 : Int32)))) (own_hv Bd.returns) ?_ (by decide) (by decide) (fun fs hr => r57 _ (retN X0 hx (t := .boolean) Bd.returns (by simp) (hb hby d3_24) hr)))
          rw [e0]
          refine ⟨?_, N0, rfl⟩
          have ev : (own_used p0 p1 p2 p3 p4 p5) = (1 : Int32) := by unfold own_used; rw [if_neg hc6, if_pos hc54, if_pos hc56]
          rw [ev]
          rfl
        · have r58 : own_R p.tables e below F0 (s₁.setTop (mkF m 27 #[.val (.int p0), .val (.int p1), .val (.int p2), .val (.int p3), .val (.int p4), .val (.int p5)] [(.int (2 : Int32)), (.int p0)])) := fun tg_ kg_ => by
            refine r55 tg_ ?_
            show Steps p.tables e below (s₁.setTop (mkF m 20 #[.val (.int p0), .val (.int p1), .val (.int p2), .val (.int p3), .val (.int p4), .val (.int p5)] [(.int p5), (.int p2)])) _
            refine XS.icmpYes X0.here hx rfl (pc0 := 20) (pc' := 25) rfl (hb hby d3_20) rfl (feq hc56).2 (by decide) (by decide) ?_
            show Steps p.tables e below (s₁.setTop (mkF m 25 #[.val (.int p0), .val (.int p1), .val (.int p2), .val (.int p3), .val (.int p4), .val (.int p5)] [])) _
            refine XS.iloadN X0.here hx rfl (hb hby d3_25) rfl ?_
            show Steps p.tables e below (s₁.setTop (mkF m 26 #[.val (.int p0), .val (.int p1), .val (.int p2), .val (.int p3), .val (.int p4), .val (.int p5)] [(.int p0)])) _
            refine XS.iconst X0.here hx rfl (hb hby d3_26) ?_
            exact kg_
          by_cases hc59 : (2 : Int32) < p0
          · have r60 : own_R p.tables e below F0 (s₁.setTop (mkF m 33 #[.val (.int p0), .val (.int p1), .val (.int p2), .val (.int p3), .val (.int p4), .val (.int p5)] [(.int p5), (.int p3)])) := fun tg_ kg_ => by
              refine r58 tg_ ?_
              show Steps p.tables e below (s₁.setTop (mkF m 27 #[.val (.int p0), .val (.int p1), .val (.int p2), .val (.int p3), .val (.int p4), .val (.int p5)] [(.int (2 : Int32)), (.int p0)])) _
              refine XS.icmpNo X0.here hx rfl (hb hby d3_27) rfl (tlt hc59).2.2.2 ?_
              show Steps p.tables e below (s₁.setTop (mkF m 30 #[.val (.int p0), .val (.int p1), .val (.int p2), .val (.int p3), .val (.int p4), .val (.int p5)] [])) _
              refine XS.iloadN X0.here hx rfl (hb hby d3_30) rfl ?_
              show Steps p.tables e below (s₁.setTop (mkF m 31 #[.val (.int p0), .val (.int p1), .val (.int p2), .val (.int p3), .val (.int p4), .val (.int p5)] [(.int p3)])) _
              refine XS.iload X0.here hx rfl (hb hby d3_31) rfl ?_
              exact kg_
            by_cases hc61 : p3 = p5
            · have r62 : own_R p.tables e below F0 (s₁.setTop (mkF m 37 #[.val (.int p0), .val (.int p1), .val (.int p2), .val (.int p3), .val (.int p4), .val (.int p5)] [(.int (1 : Int32))])) := fun tg_ kg_ => by
                refine r60 tg_ ?_
                show Steps p.tables e below (s₁.setTop (mkF m 33 #[.val (.int p0), .val (.int p1), .val (.int p2), .val (.int p3), .val (.int p4), .val (.int p5)] [(.int p5), (.int p3)])) _
                refine XS.icmpNo X0.here hx rfl (hb hby d3_33) rfl (teq hc61).2 ?_
                show Steps p.tables e below (s₁.setTop (mkF m 36 #[.val (.int p0), .val (.int p1), .val (.int p2), .val (.int p3), .val (.int p4), .val (.int p5)] [])) _
                refine XS.iconst X0.here hx rfl (hb hby d3_36) ?_
                exact kg_
              refine hG (own_fin X0 hlk (some (.int (nar .boolean (1 : Int32)))) (own_hv Bd.returns) ?_ (by decide) (by decide) (fun fs hr => r62 _ (retN X0 hx (t := .boolean) Bd.returns (by simp) (hb hby d3_37) hr)))
              rw [e0]
              refine ⟨?_, N0, rfl⟩
              have ev : (own_used p0 p1 p2 p3 p4 p5) = (1 : Int32) := by unfold own_used; rw [if_neg hc6, if_pos hc54, if_neg hc56, if_pos hc59, if_pos hc61]
              rw [ev]
              rfl
            · have r63 : own_R p.tables e below F0 (s₁.setTop (mkF m 40 #[.val (.int p0), .val (.int p1), .val (.int p2), .val (.int p3), .val (.int p4), .val (.int p5)] [(.int (3 : Int32)), (.int p0)])) := fun tg_ kg_ => by
                refine r60 tg_ ?_
                show Steps p.tables e below (s₁.setTop (mkF m 33 #[.val (.int p0), .val (.int p1), .val (.int p2), .val (.int p3), .val (.int p4), .val (.int p5)] [(.int p5), (.int p3)])) _
                refine XS.icmpYes X0.here hx rfl (pc0 := 33) (pc' := 38) rfl (hb hby d3_33) rfl (feq hc61).2 (by decide) (by decide) ?_
                show Steps p.tables e below (s₁.setTop (mkF m 38 #[.val (.int p0), .val (.int p1), .val (.int p2), .val (.int p3), .val (.int p4), .val (.int p5)] [])) _
                refine XS.iloadN X0.here hx rfl (hb hby d3_38) rfl ?_
                show Steps p.tables e below (s₁.setTop (mkF m 39 #[.val (.int p0), .val (.int p1), .val (.int p2), .val (.int p3), .val (.int p4), .val (.int p5)] [(.int p0)])) _
                refine XS.iconst X0.here hx rfl (hb hby d3_39) ?_
                exact kg_
              by_cases hc64 : (3 : Int32) < p0
              · have r65 : own_R p.tables e below F0 (s₁.setTop (mkF m 47 #[.val (.int p0), .val (.int p1), .val (.int p2), .val (.int p3), .val (.int p4), .val (.int p5)] [(.int p5), (.int p4)])) := fun tg_ kg_ => by
                  refine r63 tg_ ?_
                  show Steps p.tables e below (s₁.setTop (mkF m 40 #[.val (.int p0), .val (.int p1), .val (.int p2), .val (.int p3), .val (.int p4), .val (.int p5)] [(.int (3 : Int32)), (.int p0)])) _
                  refine XS.icmpNo X0.here hx rfl (hb hby d3_40) rfl (tlt hc64).2.2.2 ?_
                  show Steps p.tables e below (s₁.setTop (mkF m 43 #[.val (.int p0), .val (.int p1), .val (.int p2), .val (.int p3), .val (.int p4), .val (.int p5)] [])) _
                  refine XS.iload X0.here hx rfl (hb hby d3_43) rfl ?_
                  show Steps p.tables e below (s₁.setTop (mkF m 45 #[.val (.int p0), .val (.int p1), .val (.int p2), .val (.int p3), .val (.int p4), .val (.int p5)] [(.int p4)])) _
                  refine XS.iload X0.here hx rfl (hb hby d3_45) rfl ?_
                  exact kg_
                by_cases hc66 : p4 = p5
                · have r67 : own_R p.tables e below F0 (s₁.setTop (mkF m 51 #[.val (.int p0), .val (.int p1), .val (.int p2), .val (.int p3), .val (.int p4), .val (.int p5)] [(.int (1 : Int32))])) := fun tg_ kg_ => by
                    refine r65 tg_ ?_
                    show Steps p.tables e below (s₁.setTop (mkF m 47 #[.val (.int p0), .val (.int p1), .val (.int p2), .val (.int p3), .val (.int p4), .val (.int p5)] [(.int p5), (.int p4)])) _
                    refine XS.icmpNo X0.here hx rfl (hb hby d3_47) rfl (teq hc66).2 ?_
                    show Steps p.tables e below (s₁.setTop (mkF m 50 #[.val (.int p0), .val (.int p1), .val (.int p2), .val (.int p3), .val (.int p4), .val (.int p5)] [])) _
                    refine XS.iconst X0.here hx rfl (hb hby d3_50) ?_
                    exact kg_
                  refine hG (own_fin X0 hlk (some (.int (nar .boolean (1 : Int32)))) (own_hv Bd.returns) ?_ (by decide) (by decide) (fun fs hr => r67 _ (retN X0 hx (t := .boolean) Bd.returns (by simp) (hb hby d3_51) hr)))
                  rw [e0]
                  refine ⟨?_, N0, rfl⟩
                  have ev : (own_used p0 p1 p2 p3 p4 p5) = (1 : Int32) := by unfold own_used; rw [if_neg hc6, if_pos hc54, if_neg hc56, if_pos hc59, if_neg hc61, if_pos hc64, if_pos hc66]
                  rw [ev]
                  rfl
                · have r68 : own_R p.tables e below F0 (s₁.setTop (mkF m 53 #[.val (.int p0), .val (.int p1), .val (.int p2), .val (.int p3), .val (.int p4), .val (.int p5)] [(.int (0 : Int32))])) := fun tg_ kg_ => by
                    refine r65 tg_ ?_
                    show Steps p.tables e below (s₁.setTop (mkF m 47 #[.val (.int p0), .val (.int p1), .val (.int p2), .val (.int p3), .val (.int p4), .val (.int p5)] [(.int p5), (.int p4)])) _
                    refine XS.icmpYes X0.here hx rfl (pc0 := 47) (pc' := 52) rfl (hb hby d3_47) rfl (feq hc66).2 (by decide) (by decide) ?_
                    show Steps p.tables e below (s₁.setTop (mkF m 52 #[.val (.int p0), .val (.int p1), .val (.int p2), .val (.int p3), .val (.int p4), .val (.int p5)] [])) _
                    refine XS.iconst X0.here hx rfl (hb hby d3_52) ?_
                    exact kg_
                  refine hG (own_fin X0 hlk (some (.int (nar .boolean (0 : Int32)))) (own_hv Bd.returns) ?_ (by decide) (by decide) (fun fs hr => r68 _ (retN X0 hx (t := .boolean) Bd.returns (by simp) (hb hby d3_53) hr)))
                  rw [e0]
                  refine ⟨?_, N0, rfl⟩
                  have ev : (own_used p0 p1 p2 p3 p4 p5) = (0 : Int32) := by unfold own_used; rw [if_neg hc6, if_pos hc54, if_neg hc56, if_pos hc59, if_neg hc61, if_pos hc64, if_neg hc66]
                  rw [ev]
                  rfl
              · have r69 : own_R p.tables e below F0 (s₁.setTop (mkF m 53 #[.val (.int p0), .val (.int p1), .val (.int p2), .val (.int p3), .val (.int p4), .val (.int p5)] [(.int (0 : Int32))])) := fun tg_ kg_ => by
                  refine r63 tg_ ?_
                  show Steps p.tables e below (s₁.setTop (mkF m 40 #[.val (.int p0), .val (.int p1), .val (.int p2), .val (.int p3), .val (.int p4), .val (.int p5)] [(.int (3 : Int32)), (.int p0)])) _
                  refine XS.icmpYes X0.here hx rfl (pc0 := 40) (pc' := 52) rfl (hb hby d3_40) rfl (flt hc64).2.2.2 (by decide) (by decide) ?_
                  show Steps p.tables e below (s₁.setTop (mkF m 52 #[.val (.int p0), .val (.int p1), .val (.int p2), .val (.int p3), .val (.int p4), .val (.int p5)] [])) _
                  refine XS.iconst X0.here hx rfl (hb hby d3_52) ?_
                  exact kg_
                refine hG (own_fin X0 hlk (some (.int (nar .boolean (0 : Int32)))) (own_hv Bd.returns) ?_ (by decide) (by decide) (fun fs hr => r69 _ (retN X0 hx (t := .boolean) Bd.returns (by simp) (hb hby d3_53) hr)))
                rw [e0]
                refine ⟨?_, N0, rfl⟩
                have ev : (own_used p0 p1 p2 p3 p4 p5) = (0 : Int32) := by unfold own_used; rw [if_neg hc6, if_pos hc54, if_neg hc56, if_pos hc59, if_neg hc61, if_neg hc64]
                rw [ev]
                rfl
          · have r70 : own_R p.tables e below F0 (s₁.setTop (mkF m 40 #[.val (.int p0), .val (.int p1), .val (.int p2), .val (.int p3), .val (.int p4), .val (.int p5)] [(.int (3 : Int32)), (.int p0)])) := fun tg_ kg_ => by
              refine r58 tg_ ?_
              show Steps p.tables e below (s₁.setTop (mkF m 27 #[.val (.int p0), .val (.int p1), .val (.int p2), .val (.int p3), .val (.int p4), .val (.int p5)] [(.int (2 : Int32)), (.int p0)])) _
              refine XS.icmpYes X0.here hx rfl (pc0 := 27) (pc' := 38) rfl (hb hby d3_27) rfl (flt hc59).2.2.2 (by decide) (by decide) ?_
              show Steps p.tables e below (s₁.setTop (mkF m 38 #[.val (.int p0), .val (.int p1), .val (.int p2), .val (.int p3), .val (.int p4), .val (.int p5)] [])) _
              refine XS.iloadN X0.here hx rfl (hb hby d3_38) rfl ?_
              show Steps p.tables e below (s₁.setTop (mkF m 39 #[.val (.int p0), .val (.int p1), .val (.int p2), .val (.int p3), .val (.int p4), .val (.int p5)] [(.int p0)])) _
              refine XS.iconst X0.here hx rfl (hb hby d3_39) ?_
              exact kg_
            by_cases hc71 : (3 : Int32) < p0
            · have r72 : own_R p.tables e below F0 (s₁.setTop (mkF m 47 #[.val (.int p0), .val (.int p1), .val (.int p2), .val (.int p3), .val (.int p4), .val (.int p5)] [(.int p5), (.int p4)])) := fun tg_ kg_ => by
                refine r70 tg_ ?_
                show Steps p.tables e below (s₁.setTop (mkF m 40 #[.val (.int p0), .val (.int p1), .val (.int p2), .val (.int p3), .val (.int p4), .val (.int p5)] [(.int (3 : Int32)), (.int p0)])) _
                refine XS.icmpNo X0.here hx rfl (hb hby d3_40) rfl (tlt hc71).2.2.2 ?_
                show Steps p.tables e below (s₁.setTop (mkF m 43 #[.val (.int p0), .val (.int p1), .val (.int p2), .val (.int p3), .val (.int p4), .val (.int p5)] [])) _
                refine XS.iload X0.here hx rfl (hb hby d3_43) rfl ?_
                show Steps p.tables e below (s₁.setTop (mkF m 45 #[.val (.int p0), .val (.int p1), .val (.int p2), .val (.int p3), .val (.int p4), .val (.int p5)] [(.int p4)])) _
                refine XS.iload X0.here hx rfl (hb hby d3_45) rfl ?_
                exact kg_
              by_cases hc73 : p4 = p5
              · have r74 : own_R p.tables e below F0 (s₁.setTop (mkF m 51 #[.val (.int p0), .val (.int p1), .val (.int p2), .val (.int p3), .val (.int p4), .val (.int p5)] [(.int (1 : Int32))])) := fun tg_ kg_ => by
                  refine r72 tg_ ?_
                  show Steps p.tables e below (s₁.setTop (mkF m 47 #[.val (.int p0), .val (.int p1), .val (.int p2), .val (.int p3), .val (.int p4), .val (.int p5)] [(.int p5), (.int p4)])) _
                  refine XS.icmpNo X0.here hx rfl (hb hby d3_47) rfl (teq hc73).2 ?_
                  show Steps p.tables e below (s₁.setTop (mkF m 50 #[.val (.int p0), .val (.int p1), .val (.int p2), .val (.int p3), .val (.int p4), .val (.int p5)] [])) _
                  refine XS.iconst X0.here hx rfl (hb hby d3_50) ?_
                  exact kg_
                refine hG (own_fin X0 hlk (some (.int (nar .boolean (1 : Int32)))) (own_hv Bd.returns) ?_ (by decide) (by decide) (fun fs hr => r74 _ (retN X0 hx (t := .boolean) Bd.returns (by simp) (hb hby d3_51) hr)))
                rw [e0]
                refine ⟨?_, N0, rfl⟩
                have ev : (own_used p0 p1 p2 p3 p4 p5) = (1 : Int32) := by unfold own_used; rw [if_neg hc6, if_pos hc54, if_neg hc56, if_neg hc59, if_pos hc71, if_pos hc73]
                rw [ev]
                rfl
              · have r75 : own_R p.tables e below F0 (s₁.setTop (mkF m 53 #[.val (.int p0), .val (.int p1), .val (.int p2), .val (.int p3), .val (.int p4), .val (.int p5)] [(.int (0 : Int32))])) := fun tg_ kg_ => by
                  refine r72 tg_ ?_
                  show Steps p.tables e below (s₁.setTop (mkF m 47 #[.val (.int p0), .val (.int p1), .val (.int p2), .val (.int p3), .val (.int p4), .val (.int p5)] [(.int p5), (.int p4)])) _
                  refine XS.icmpYes X0.here hx rfl (pc0 := 47) (pc' := 52) rfl (hb hby d3_47) rfl (feq hc73).2 (by decide) (by decide) ?_
                  show Steps p.tables e below (s₁.setTop (mkF m 52 #[.val (.int p0), .val (.int p1), .val (.int p2), .val (.int p3), .val (.int p4), .val (.int p5)] [])) _
                  refine XS.iconst X0.here hx rfl (hb hby d3_52) ?_
                  exact kg_
                refine hG (own_fin X0 hlk (some (.int (nar .boolean (0 : Int32)))) (own_hv Bd.returns) ?_ (by decide) (by decide) (fun fs hr => r75 _ (retN X0 hx (t := .boolean) Bd.returns (by simp) (hb hby d3_53) hr)))
                rw [e0]
                refine ⟨?_, N0, rfl⟩
                have ev : (own_used p0 p1 p2 p3 p4 p5) = (0 : Int32) := by unfold own_used; rw [if_neg hc6, if_pos hc54, if_neg hc56, if_neg hc59, if_pos hc71, if_neg hc73]
                rw [ev]
                rfl
            · have r76 : own_R p.tables e below F0 (s₁.setTop (mkF m 53 #[.val (.int p0), .val (.int p1), .val (.int p2), .val (.int p3), .val (.int p4), .val (.int p5)] [(.int (0 : Int32))])) := fun tg_ kg_ => by
                refine r70 tg_ ?_
                show Steps p.tables e below (s₁.setTop (mkF m 40 #[.val (.int p0), .val (.int p1), .val (.int p2), .val (.int p3), .val (.int p4), .val (.int p5)] [(.int (3 : Int32)), (.int p0)])) _
                refine XS.icmpYes X0.here hx rfl (pc0 := 40) (pc' := 52) rfl (hb hby d3_40) rfl (flt hc71).2.2.2 (by decide) (by decide) ?_
                show Steps p.tables e below (s₁.setTop (mkF m 52 #[.val (.int p0), .val (.int p1), .val (.int p2), .val (.int p3), .val (.int p4), .val (.int p5)] [])) _
                refine XS.iconst X0.here hx rfl (hb hby d3_52) ?_
                exact kg_
              refine hG (own_fin X0 hlk (some (.int (nar .boolean (0 : Int32)))) (own_hv Bd.returns) ?_ (by decide) (by decide) (fun fs hr => r76 _ (retN X0 hx (t := .boolean) Bd.returns (by simp) (hb hby d3_53) hr)))
              rw [e0]
              refine ⟨?_, N0, rfl⟩
              have ev : (own_used p0 p1 p2 p3 p4 p5) = (0 : Int32) := by unfold own_used; rw [if_neg hc6, if_pos hc54, if_neg hc56, if_neg hc59, if_neg hc71]
              rw [ev]
              rfl
      · have r77 : own_R p.tables e below F0 (s₁.setTop (mkF m 27 #[.val (.int p0), .val (.int p1), .val (.int p2), .val (.int p3), .val (.int p4), .val (.int p5)] [(.int (2 : Int32)), (.int p0)])) := fun tg_ kg_ => by
          refine r53 tg_ ?_
          show Steps p.tables e below (s₁.setTop (mkF m 14 #[.val (.int p0), .val (.int p1), .val (.int p2), .val (.int p3), .val (.int p4), .val (.int p5)] [(.int (1 : Int32)), (.int p0)])) _
          refine XS.icmpYes X0.here hx rfl (pc0 := 14) (pc' := 25) rfl (hb hby d3_14) rfl (flt hc54).2.2.2 (by decide) (by decide) ?_
          show Steps p.tables e below (s₁.setTop (mkF m 25 #[.val (.int p0), .val (.int p1), .val (.int p2), .val (.int p3), .val (.int p4), .val (.int p5)] [])) _
          refine XS.iloadN X0.here hx rfl (hb hby d3_25) rfl ?_
          show Steps p.tables e below (s₁.setTop (mkF m 26 #[.val (.int p0), .val (.int p1), .val (.int p2), .val (.int p3), .val (.int p4), .val (.int p5)] [(.int p0)])) _
          refine XS.iconst X0.here hx rfl (hb hby d3_26) ?_
          exact kg_
        by_cases hc78 : (2 : Int32) < p0
        · have r79 : own_R p.tables e below F0 (s₁.setTop (mkF m 33 #[.val (.int p0), .val (.int p1), .val (.int p2), .val (.int p3), .val (.int p4), .val (.int p5)] [(.int p5), (.int p3)])) := fun tg_ kg_ => by
            refine r77 tg_ ?_
            show Steps p.tables e below (s₁.setTop (mkF m 27 #[.val (.int p0), .val (.int p1), .val (.int p2), .val (.int p3), .val (.int p4), .val (.int p5)] [(.int (2 : Int32)), (.int p0)])) _
            refine XS.icmpNo X0.here hx rfl (hb hby d3_27) rfl (tlt hc78).2.2.2 ?_
            show Steps p.tables e below (s₁.setTop (mkF m 30 #[.val (.int p0), .val (.int p1), .val (.int p2), .val (.int p3), .val (.int p4), .val (.int p5)] [])) _
            refine XS.iloadN X0.here hx rfl (hb hby d3_30) rfl ?_
            show Steps p.tables e below (s₁.setTop (mkF m 31 #[.val (.int p0), .val (.int p1), .val (.int p2), .val (.int p3), .val (.int p4), .val (.int p5)] [(.int p3)])) _
            refine XS.iload X0.here hx rfl (hb hby d3_31) rfl ?_
            exact kg_
          by_cases hc80 : p3 = p5
          · have r81 : own_R p.tables e below F0 (s₁.setTop (mkF m 37 #[.val (.int p0), .val (.int p1), .val (.int p2), .val (.int p3), .val (.int p4), .val (.int p5)] [(.int (1 : Int32))])) := fun tg_ kg_ => by
              refine r79 tg_ ?_
              show Steps p.tables e below (s₁.setTop (mkF m 33 #[.val (.int p0), .val (.int p1), .val (.int p2), .val (.int p3), .val (.int p4), .val (.int p5)] [(.int p5), (.int p3)])) _
              refine XS.icmpNo X0.here hx rfl (hb hby d3_33) rfl (teq hc80).2 ?_
              show Steps p.tables e below (s₁.setTop (mkF m 36 #[.val (.int p0), .val (.int p1), .val (.int p2), .val (.int p3), .val (.int p4), .val (.int p5)] [])) _
              refine XS.iconst X0.here hx rfl (hb hby d3_36) ?_
              exact kg_
            refine hG (own_fin X0 hlk (some (.int (nar .boolean (1 : Int32)))) (own_hv Bd.returns) ?_ (by decide) (by decide) (fun fs hr => r81 _ (retN X0 hx (t := .boolean) Bd.returns (by simp) (hb hby d3_37) hr)))
            rw [e0]
            refine ⟨?_, N0, rfl⟩
            have ev : (own_used p0 p1 p2 p3 p4 p5) = (1 : Int32) := by unfold own_used; rw [if_neg hc6, if_neg hc54, if_pos hc78, if_pos hc80]
            rw [ev]
            rfl
          · have r82 : own_R p.tables e below F0 (s₁.setTop (mkF m 40 #[.val (.int p0), .val (.int p1), .val (.int p2), .val (.int p3), .val (.int p4), .val (.int p5)] [(.int (3 : Int32)), (.int p0)])) := fun tg_ kg_ => by
              refine r79 tg_ ?_
              show Steps p.tables e below (s₁.setTop (mkF m 33 #[.val (.int p0), .val (.int p1), .val (.int p2), .val (.int p3), .val (.int p4), .val (.int p5)] [(.int p5), (.int p3)])) _
              refine XS.icmpYes X0.here hx rfl (pc0 := 33) (pc' := 38) rfl (hb hby d3_33) rfl (feq hc80).2 (by decide) (by decide) ?_
              show Steps p.tables e below (s₁.setTop (mkF m 38 #[.val (.int p0), .val (.int p1), .val (.int p2), .val (.int p3), .val (.int p4), .val (.int p5)] [])) _
              refine XS.iloadN X0.here hx rfl (hb hby d3_38) rfl ?_
              show Steps p.tables e below (s₁.setTop (mkF m 39 #[.val (.int p0), .val (.int p1), .val (.int p2), .val (.int p3), .val (.int p4), .val (.int p5)] [(.int p0)])) _
              refine XS.iconst X0.here hx rfl (hb hby d3_39) ?_
              exact kg_
            by_cases hc83 : (3 : Int32) < p0
            · have r84 : own_R p.tables e below F0 (s₁.setTop (mkF m 47 #[.val (.int p0), .val (.int p1), .val (.int p2), .val (.int p3), .val (.int p4), .val (.int p5)] [(.int p5), (.int p4)])) := fun tg_ kg_ => by
                refine r82 tg_ ?_
                show Steps p.tables e below (s₁.setTop (mkF m 40 #[.val (.int p0), .val (.int p1), .val (.int p2), .val (.int p3), .val (.int p4), .val (.int p5)] [(.int (3 : Int32)), (.int p0)])) _
                refine XS.icmpNo X0.here hx rfl (hb hby d3_40) rfl (tlt hc83).2.2.2 ?_
                show Steps p.tables e below (s₁.setTop (mkF m 43 #[.val (.int p0), .val (.int p1), .val (.int p2), .val (.int p3), .val (.int p4), .val (.int p5)] [])) _
                refine XS.iload X0.here hx rfl (hb hby d3_43) rfl ?_
                show Steps p.tables e below (s₁.setTop (mkF m 45 #[.val (.int p0), .val (.int p1), .val (.int p2), .val (.int p3), .val (.int p4), .val (.int p5)] [(.int p4)])) _
                refine XS.iload X0.here hx rfl (hb hby d3_45) rfl ?_
                exact kg_
              by_cases hc85 : p4 = p5
              · have r86 : own_R p.tables e below F0 (s₁.setTop (mkF m 51 #[.val (.int p0), .val (.int p1), .val (.int p2), .val (.int p3), .val (.int p4), .val (.int p5)] [(.int (1 : Int32))])) := fun tg_ kg_ => by
                  refine r84 tg_ ?_
                  show Steps p.tables e below (s₁.setTop (mkF m 47 #[.val (.int p0), .val (.int p1), .val (.int p2), .val (.int p3), .val (.int p4), .val (.int p5)] [(.int p5), (.int p4)])) _
                  refine XS.icmpNo X0.here hx rfl (hb hby d3_47) rfl (teq hc85).2 ?_
                  show Steps p.tables e below (s₁.setTop (mkF m 50 #[.val (.int p0), .val (.int p1), .val (.int p2), .val (.int p3), .val (.int p4), .val (.int p5)] [])) _
                  refine XS.iconst X0.here hx rfl (hb hby d3_50) ?_
                  exact kg_
                refine hG (own_fin X0 hlk (some (.int (nar .boolean (1 : Int32)))) (own_hv Bd.returns) ?_ (by decide) (by decide) (fun fs hr => r86 _ (retN X0 hx (t := .boolean) Bd.returns (by simp) (hb hby d3_51) hr)))
                rw [e0]
                refine ⟨?_, N0, rfl⟩
                have ev : (own_used p0 p1 p2 p3 p4 p5) = (1 : Int32) := by unfold own_used; rw [if_neg hc6, if_neg hc54, if_pos hc78, if_neg hc80, if_pos hc83, if_pos hc85]
                rw [ev]
                rfl
              · have r87 : own_R p.tables e below F0 (s₁.setTop (mkF m 53 #[.val (.int p0), .val (.int p1), .val (.int p2), .val (.int p3), .val (.int p4), .val (.int p5)] [(.int (0 : Int32))])) := fun tg_ kg_ => by
                  refine r84 tg_ ?_
                  show Steps p.tables e below (s₁.setTop (mkF m 47 #[.val (.int p0), .val (.int p1), .val (.int p2), .val (.int p3), .val (.int p4), .val (.int p5)] [(.int p5), (.int p4)])) _
                  refine XS.icmpYes X0.here hx rfl (pc0 := 47) (pc' := 52) rfl (hb hby d3_47) rfl (feq hc85).2 (by decide) (by decide) ?_
                  show Steps p.tables e below (s₁.setTop (mkF m 52 #[.val (.int p0), .val (.int p1), .val (.int p2), .val (.int p3), .val (.int p4), .val (.int p5)] [])) _
                  refine XS.iconst X0.here hx rfl (hb hby d3_52) ?_
                  exact kg_
                refine hG (own_fin X0 hlk (some (.int (nar .boolean (0 : Int32)))) (own_hv Bd.returns) ?_ (by decide) (by decide) (fun fs hr => r87 _ (retN X0 hx (t := .boolean) Bd.returns (by simp) (hb hby d3_53) hr)))
                rw [e0]
                refine ⟨?_, N0, rfl⟩
                have ev : (own_used p0 p1 p2 p3 p4 p5) = (0 : Int32) := by unfold own_used; rw [if_neg hc6, if_neg hc54, if_pos hc78, if_neg hc80, if_pos hc83, if_neg hc85]
                rw [ev]
                rfl
            · have r88 : own_R p.tables e below F0 (s₁.setTop (mkF m 53 #[.val (.int p0), .val (.int p1), .val (.int p2), .val (.int p3), .val (.int p4), .val (.int p5)] [(.int (0 : Int32))])) := fun tg_ kg_ => by
                refine r82 tg_ ?_
                show Steps p.tables e below (s₁.setTop (mkF m 40 #[.val (.int p0), .val (.int p1), .val (.int p2), .val (.int p3), .val (.int p4), .val (.int p5)] [(.int (3 : Int32)), (.int p0)])) _
                refine XS.icmpYes X0.here hx rfl (pc0 := 40) (pc' := 52) rfl (hb hby d3_40) rfl (flt hc83).2.2.2 (by decide) (by decide) ?_
                show Steps p.tables e below (s₁.setTop (mkF m 52 #[.val (.int p0), .val (.int p1), .val (.int p2), .val (.int p3), .val (.int p4), .val (.int p5)] [])) _
                refine XS.iconst X0.here hx rfl (hb hby d3_52) ?_
                exact kg_
              refine hG (own_fin X0 hlk (some (.int (nar .boolean (0 : Int32)))) (own_hv Bd.returns) ?_ (by decide) (by decide) (fun fs hr => r88 _ (retN X0 hx (t := .boolean) Bd.returns (by simp) (hb hby d3_53) hr)))
              rw [e0]
              refine ⟨?_, N0, rfl⟩
              have ev : (own_used p0 p1 p2 p3 p4 p5) = (0 : Int32) := by unfold own_used; rw [if_neg hc6, if_neg hc54, if_pos hc78, if_neg hc80, if_neg hc83]
              rw [ev]
              rfl
        · have r89 : own_R p.tables e below F0 (s₁.setTop (mkF m 40 #[.val (.int p0), .val (.int p1), .val (.int p2), .val (.int p3), .val (.int p4), .val (.int p5)] [(.int (3 : Int32)), (.int p0)])) := fun tg_ kg_ => by
            refine r77 tg_ ?_
            show Steps p.tables e below (s₁.setTop (mkF m 27 #[.val (.int p0), .val (.int p1), .val (.int p2), .val (.int p3), .val (.int p4), .val (.int p5)] [(.int (2 : Int32)), (.int p0)])) _
            refine XS.icmpYes X0.here hx rfl (pc0 := 27) (pc' := 38) rfl (hb hby d3_27) rfl (flt hc78).2.2.2 (by decide) (by decide) ?_
            show Steps p.tables e below (s₁.setTop (mkF m 38 #[.val (.int p0), .val (.int p1), .val (.int p2), .val (.int p3), .val (.int p4), .val (.int p5)] [])) _
            refine XS.iloadN X0.here hx rfl (hb hby d3_38) rfl ?_
            show Steps p.tables e below (s₁.setTop (mkF m 39 #[.val (.int p0), .val (.int p1), .val (.int p2), .val (.int p3), .val (.int p4), .val (.int p5)] [(.int p0)])) _
            refine XS.iconst X0.here hx rfl (hb hby d3_39) ?_
            exact kg_
          by_cases hc90 : (3 : Int32) < p0
          · have r91 : own_R p.tables e below F0 (s₁.setTop (mkF m 47 #[.val (.int p0), .val (.int p1), .val (.int p2), .val (.int p3), .val (.int p4), .val (.int p5)] [(.int p5), (.int p4)])) := fun tg_ kg_ => by
              refine r89 tg_ ?_
              show Steps p.tables e below (s₁.setTop (mkF m 40 #[.val (.int p0), .val (.int p1), .val (.int p2), .val (.int p3), .val (.int p4), .val (.int p5)] [(.int (3 : Int32)), (.int p0)])) _
              refine XS.icmpNo X0.here hx rfl (hb hby d3_40) rfl (tlt hc90).2.2.2 ?_
              show Steps p.tables e below (s₁.setTop (mkF m 43 #[.val (.int p0), .val (.int p1), .val (.int p2), .val (.int p3), .val (.int p4), .val (.int p5)] [])) _
              refine XS.iload X0.here hx rfl (hb hby d3_43) rfl ?_
              show Steps p.tables e below (s₁.setTop (mkF m 45 #[.val (.int p0), .val (.int p1), .val (.int p2), .val (.int p3), .val (.int p4), .val (.int p5)] [(.int p4)])) _
              refine XS.iload X0.here hx rfl (hb hby d3_45) rfl ?_
              exact kg_
            by_cases hc92 : p4 = p5
            · have r93 : own_R p.tables e below F0 (s₁.setTop (mkF m 51 #[.val (.int p0), .val (.int p1), .val (.int p2), .val (.int p3), .val (.int p4), .val (.int p5)] [(.int (1 : Int32))])) := fun tg_ kg_ => by
                refine r91 tg_ ?_
                show Steps p.tables e below (s₁.setTop (mkF m 47 #[.val (.int p0), .val (.int p1), .val (.int p2), .val (.int p3), .val (.int p4), .val (.int p5)] [(.int p5), (.int p4)])) _
                refine XS.icmpNo X0.here hx rfl (hb hby d3_47) rfl (teq hc92).2 ?_
                show Steps p.tables e below (s₁.setTop (mkF m 50 #[.val (.int p0), .val (.int p1), .val (.int p2), .val (.int p3), .val (.int p4), .val (.int p5)] [])) _
                refine XS.iconst X0.here hx rfl (hb hby d3_50) ?_
                exact kg_
              refine hG (own_fin X0 hlk (some (.int (nar .boolean (1 : Int32)))) (own_hv Bd.returns) ?_ (by decide) (by decide) (fun fs hr => r93 _ (retN X0 hx (t := .boolean) Bd.returns (by simp) (hb hby d3_51) hr)))
              rw [e0]
              refine ⟨?_, N0, rfl⟩
              have ev : (own_used p0 p1 p2 p3 p4 p5) = (1 : Int32) := by unfold own_used; rw [if_neg hc6, if_neg hc54, if_neg hc78, if_pos hc90, if_pos hc92]
              rw [ev]
              rfl
            · have r94 : own_R p.tables e below F0 (s₁.setTop (mkF m 53 #[.val (.int p0), .val (.int p1), .val (.int p2), .val (.int p3), .val (.int p4), .val (.int p5)] [(.int (0 : Int32))])) := fun tg_ kg_ => by
                refine r91 tg_ ?_
                show Steps p.tables e below (s₁.setTop (mkF m 47 #[.val (.int p0), .val (.int p1), .val (.int p2), .val (.int p3), .val (.int p4), .val (.int p5)] [(.int p5), (.int p4)])) _
                refine XS.icmpYes X0.here hx rfl (pc0 := 47) (pc' := 52) rfl (hb hby d3_47) rfl (feq hc92).2 (by decide) (by decide) ?_
                show Steps p.tables e below (s₁.setTop (mkF m 52 #[.val (.int p0), .val (.int p1), .val (.int p2), .val (.int p3), .val (.int p4), .val (.int p5)] [])) _
                refine XS.iconst X0.here hx rfl (hb hby d3_52) ?_
                exact kg_
              refine hG (own_fin X0 hlk (some (.int (nar .boolean (0 : Int32)))) (own_hv Bd.returns) ?_ (by decide) (by decide) (fun fs hr => r94 _ (retN X0 hx (t := .boolean) Bd.returns (by simp) (hb hby d3_53) hr)))
              rw [e0]
              refine ⟨?_, N0, rfl⟩
              have ev : (own_used p0 p1 p2 p3 p4 p5) = (0 : Int32) := by unfold own_used; rw [if_neg hc6, if_neg hc54, if_neg hc78, if_pos hc90, if_neg hc92]
              rw [ev]
              rfl
          · have r95 : own_R p.tables e below F0 (s₁.setTop (mkF m 53 #[.val (.int p0), .val (.int p1), .val (.int p2), .val (.int p3), .val (.int p4), .val (.int p5)] [(.int (0 : Int32))])) := fun tg_ kg_ => by
              refine r89 tg_ ?_
              show Steps p.tables e below (s₁.setTop (mkF m 40 #[.val (.int p0), .val (.int p1), .val (.int p2), .val (.int p3), .val (.int p4), .val (.int p5)] [(.int (3 : Int32)), (.int p0)])) _
              refine XS.icmpYes X0.here hx rfl (pc0 := 40) (pc' := 52) rfl (hb hby d3_40) rfl (flt hc90).2.2.2 (by decide) (by decide) ?_
              show Steps p.tables e below (s₁.setTop (mkF m 52 #[.val (.int p0), .val (.int p1), .val (.int p2), .val (.int p3), .val (.int p4), .val (.int p5)] [])) _
              refine XS.iconst X0.here hx rfl (hb hby d3_52) ?_
              exact kg_
            refine hG (own_fin X0 hlk (some (.int (nar .boolean (0 : Int32)))) (own_hv Bd.returns) ?_ (by decide) (by decide) (fun fs hr => r95 _ (retN X0 hx (t := .boolean) Bd.returns (by simp) (hb hby d3_53) hr)))
            rw [e0]
            refine ⟨?_, N0, rfl⟩
            have ev : (own_used p0 p1 p2 p3 p4 p5) = (0 : Int32) := by unfold own_used; rw [if_neg hc6, if_neg hc54, if_neg hc78, if_neg hc90]
            rw [ev]
            rfl
  exact key _ _ id (fun t k => castTop (ef_3 m p0 p1 p2 p3 p4 p5) k)
theorem pn_1 : plainName "org/fractile/core/Partition" = true := by first | (simp [plainName, overriddenIn]; done) | decide +kernel
theorem d2_0 : decode prog_36_method_21_code 0 = .ok (.iload_n 1, 1) := by decide +kernel
theorem d2_1 : decode prog_36_method_21_code 1 = .ok (.newarray .boolean, 2) := by decide +kernel
theorem d2_3 : decode prog_36_method_21_code 3 = .ok (.astore_n 2, 1) := by decide +kernel
theorem d2_4 : decode prog_36_method_21_code 4 = .ok (.aload_n 0, 1) := by decide +kernel
theorem d2_5 : decode prog_36_method_21_code 5 = .ok (.astore_n 3, 1) := by decide +kernel
theorem d2_6 : decode prog_36_method_21_code 6 = .ok (.aload_n 3, 1) := by decide +kernel
theorem d2_7 : decode prog_36_method_21_code 7 = .ok (.arraylength, 1) := by decide +kernel
theorem d2_8 : decode prog_36_method_21_code 8 = .ok (.istore 4, 2) := by decide +kernel
theorem d2_10 : decode prog_36_method_21_code 10 = .ok (.iconst 0, 1) := by decide +kernel
theorem d2_11 : decode prog_36_method_21_code 11 = .ok (.istore 5, 2) := by decide +kernel
theorem d2_13 : decode prog_36_method_21_code 13 = .ok (.iload 5, 2) := by decide +kernel
theorem d2_15 : decode prog_36_method_21_code 15 = .ok (.iload 4, 2) := by decide +kernel
theorem d2_17 : decode prog_36_method_21_code 17 = .ok (.if_icmp .ge 20, 3) := by decide +kernel
theorem d2_20 : decode prog_36_method_21_code 20 = .ok (.aload_n 3, 1) := by decide +kernel
theorem d2_21 : decode prog_36_method_21_code 21 = .ok (.iload 5, 2) := by decide +kernel
theorem d2_23 : decode prog_36_method_21_code 23 = .ok (.iaload, 1) := by decide +kernel
theorem d2_24 : decode prog_36_method_21_code 24 = .ok (.istore 6, 2) := by decide +kernel
theorem d2_26 : decode prog_36_method_21_code 26 = .ok (.aload_n 2, 1) := by decide +kernel
theorem d2_27 : decode prog_36_method_21_code 27 = .ok (.iload 6, 2) := by decide +kernel
theorem d2_29 : decode prog_36_method_21_code 29 = .ok (.iconst 1, 1) := by decide +kernel
theorem d2_30 : decode prog_36_method_21_code 30 = .ok (.bastore, 1) := by decide +kernel
theorem d2_31 : decode prog_36_method_21_code 31 = .ok (.iinc 5 1, 3) := by decide +kernel
theorem d2_34 : decode prog_36_method_21_code 34 = .ok (.goto (-21), 3) := by decide +kernel
theorem d2_37 : decode prog_36_method_21_code 37 = .ok (.iconst 0, 1) := by decide +kernel
theorem d2_38 : decode prog_36_method_21_code 38 = .ok (.istore_n 3, 1) := by decide +kernel
theorem d2_39 : decode prog_36_method_21_code 39 = .ok (.iload_n 3, 1) := by decide +kernel
theorem d2_40 : decode prog_36_method_21_code 40 = .ok (.iload_n 1, 1) := by decide +kernel
theorem d2_41 : decode prog_36_method_21_code 41 = .ok (.if_icmp .ge 17, 3) := by decide +kernel
theorem d2_44 : decode prog_36_method_21_code 44 = .ok (.aload_n 2, 1) := by decide +kernel
theorem d2_45 : decode prog_36_method_21_code 45 = .ok (.iload_n 3, 1) := by decide +kernel
theorem d2_46 : decode prog_36_method_21_code 46 = .ok (.baload, 1) := by decide +kernel
theorem d2_47 : decode prog_36_method_21_code 47 = .ok (.ifCond .ne 5, 3) := by decide +kernel
theorem d2_50 : decode prog_36_method_21_code 50 = .ok (.iload_n 3, 1) := by decide +kernel
theorem d2_51 : decode prog_36_method_21_code 51 = .ok (.ireturn, 1) := by decide +kernel
theorem d2_52 : decode prog_36_method_21_code 52 = .ok (.iinc 3 1, 3) := by decide +kernel
theorem d2_55 : decode prog_36_method_21_code 55 = .ok (.goto (-16), 3) := by decide +kernel
theorem d2_58 : decode prog_36_method_21_code 58 = .ok (.iconst (-1), 1) := by decide +kernel
theorem d2_59 : decode prog_36_method_21_code 59 = .ok (.ireturn, 1) := by decide +kernel
theorem ef_2 (m : MethodId) (x0 : Addr) (x1 : Int32) : entryFrame m #[(.ref x0), (.int x1)] 7 = mkF m 0 #[.val (.ref x0), .val (.int x1), .unset, .unset, .unset, .unset, .unset] [] := by first | (simp [entryFrame, mkF, argsToLocals, Value.category]; done) | rfl
def Q2 (Z : State) (a0 : Addr) (p1 : Int32) (n : Nat) (ga : Nat → Int32) (kn : Nat) (h0 : Heap) (n0 : Nat) (v : Option Value) (h : Heap) (L : List Loc) : Prop := ∃ (r : Int32), v = some (.int r) ∧ Fr n0 L ∧ Keep h0 h [] ∧ own_fe ga n kn r
set_option maxRecDepth 65536 in
set_option maxHeartbeats 40000000 in
theorem rm2 (l : Launch) (Z : State) (a0 : Array Value) (hw : ∀ d ∈ tables_1, d.before a0 Z = true) (ws : List Jvm.Cond) (a0 : Addr) (p1 : Int32) (n : Nat) (ga : Nat → Int32) (kn : Nat) (h0 : Heap) (n0 : Nat) (Z0 : n0 ≤ h0.size) (A0 : own_Arf Z h0 a0 .int n (fun i => (.int (ga i)))) (hk : p1.toInt = kn) (hk5 : kn ≤ 5) (hn : n ≤ 4) (hg : ∀ j, j < n → 0 ≤ (ga j).toInt ∧ (ga j).toInt < kn) :
    MetFree l (⟨"org/fractile/core/Partition", "firstEmptyPart", "([II)I"⟩ : MethodName) (head1 (Jvm.Cond.code (⟨"org/fractile/core/Partition", "firstEmptyPart", "([II)I"⟩ : MethodName) prog_36_method_21_code 7 (some .int) :: ws) ({ frames := 0, cells := 1, slots := 5, locals := 0 } : Room)) (fun a U => a = #[(.ref a0), (.int p1)] ∧ Z.Warmed39 U.vm ∧ U.heap = h0) (fun _ _ _ _ _ => True) (fun _ U o U' => ∃ v L, o = .returned v ∧ Q2 Z a0 p1 n ga kn h0 n0 v U'.heap L ∧ FrameEnd U o U' L ({ frames := 0, cells := 1, slots := 5, locals := 0 } : Room).cells ({ frames := 0, cells := 1, slots := 5, locals := 0 } : Room).slots) := by
  refine MetFree.of_bodySF (plainFor_of_name pn_1) hisR ?_
  intro p e s m args below meth c s₁ Bd hml0 hP hK
  obtain ⟨rfl, hZ, hh⟩ := hP
  have hx := Bd.exec
  have hby := Bd.bytes
  have hml : c.maxLocals = 7 := hml0
  have hown : s.vm.findClass "org/fractile/core/Partition" = some m.cls := findClass_of_methodNamed Bd.named
  have hnm := (name_of_methodNamed Bd.named Bd.method).1
  have hlk : meth.locks = false := BodyLoose.notSynchronized Bd
  have X0 : Stand p l e ({ frames := 0, cells := 1, slots := 5, locals := 0 } : Room) s m #[(.ref a0), (.int p1)] below meth c s₁ [] 0 0 := Stand.of_body Bd
  have e0 : s₁.heap = h0 := by rw [← hh, Bd.state]; rfl
  have N0 := Fr.nil n0
  have K0 : Keep h0 h0 [] := Keep.refl h0 _
  have key : ∀ (F0 : State) (G : Prop), (own_G p e below s F0 (Q2 Z a0 p1 n ga kn h0 n0) ({ frames := 0, cells := 1, slots := 5, locals := 0 } : Room).cells ({ frames := 0, cells := 1, slots := 5, locals := 0 } : Room).slots → G) → own_R p.tables e below F0 (s₁.setTop (mkF m 0 #[.val (.ref a0), .val (.int p1), .unset, .unset, .unset, .unset, .unset] [])) → G := by
    intro F0 G hG r0
    have hN : (Int32.ofNat n).toInt = n := Int32.toInt_ofNat_of_lt (by omega)
    have r96 : own_R p.tables e below F0 (s₁.setTop (mkF m 1 #[.val (.ref a0), .val (.int p1), .unset, .unset, .unset, .unset, .unset] [(.int p1)])) := fun tg_ kg_ => by
      refine r0 tg_ ?_
      show Steps p.tables e below (s₁.setTop (mkF m 0 #[.val (.ref a0), .val (.int p1), .unset, .unset, .unset, .unset, .unset] [])) _
      refine XS.iloadN X0.here hx rfl (hb hby d2_0) rfl ?_
      exact kg_
    obtain ⟨T97, h97, k97, X97, e97, E97, A97, st97⟩ := newP X0 hx hZ (hw _ (List.mem_of_getElem? (i := 9) rfl)) e0 (g := (mkF m 1 #[.val (.ref a0), .val (.int p1), .unset, .unset, .unset, .unset, .unset] [(.int p1)])) rfl (hb hby d2_1) rfl (fun q => by have := own_lt32 q; have : (0 : Int32).toInt = 0 := rfl; omega) (cap := 5) (by rw [own_clamp hk]; exact hk5) (by decide) (by decide) (by decide)
    obtain ⟨b97, g97⟩ : ∃ z, z = h0.size := ⟨_, rfl⟩
    rw [← g97] at A97 st97
    have ne98 : a0 ≠ b97 := Nat.ne_of_lt (Nat.lt_of_lt_of_le A0.lt (Nat.le_of_eq g97.symm))
    have ge97 : n0 ≤ b97 := Nat.le_trans Z0 (Nat.le_of_eq g97.symm)
    have old97 : h0.size ≤ b97 := Nat.le_trans K0.1 (Nat.le_of_eq g97.symm)
    have K97 : Keep h0 h97 [] := K0.ext E97
    have F99 : own_Arf Z h97 a0 .int n (fun i => (.int (ga i))) := A0.ext E97
    have Zs100 : n0 ≤ h97.size := Nat.le_trans Z0 E97.1
    have F101 : own_Arf Z h97 b97 .boolean kn (fun i => (.int ((fun _ => (0 : Int32)) i))) := by
      have q := own_Arf.new A97 (fun q => by have := own_lt32 q; have : (0 : Int32).toInt = 0 := rfl; omega)
      rw [show (p1).toNatClampNeg = kn from own_clamp hk] at q
      exact q
    have r97 : own_R p.tables e below F0 (T97.setTop (mkF m 3 #[.val (.ref a0), .val (.int p1), .unset, .unset, .unset, .unset, .unset] [(.ref b97)])) := fun tg_ kg_ => r96 tg_ (st97 tg_ kg_)
    have r102 : own_R p.tables e below F0 (T97.setTop (mkF m 13 #[.val (.ref a0), .val (.int p1), .val (.ref b97), .val (.ref a0), .val (.int (Int32.ofNat n)), .val (.int (0 : Int32)), .unset] [])) := fun tg_ kg_ => by
      refine r97 tg_ ?_
      show Steps p.tables e below (T97.setTop (mkF m 3 #[.val (.ref a0), .val (.int p1), .unset, .unset, .unset, .unset, .unset] [(.ref b97)])) _
      refine XS.astoreN X97.here hx rfl (hb hby d2_3) rfl rfl (l' := #[.val (.ref a0), .val (.int p1), .val (.ref b97), .unset, .unset, .unset, .unset]) rfl ?_
      show Steps p.tables e below (T97.setTop (mkF m 4 #[.val (.ref a0), .val (.int p1), .val (.ref b97), .unset, .unset, .unset, .unset] [])) _
      refine XS.aloadN X97.here hx rfl (hb hby d2_4) rfl rfl ?_
      show Steps p.tables e below (T97.setTop (mkF m 5 #[.val (.ref a0), .val (.int p1), .val (.ref b97), .unset, .unset, .unset, .unset] [(.ref a0)])) _
      refine XS.astoreN X97.here hx rfl (hb hby d2_5) rfl rfl (l' := #[.val (.ref a0), .val (.int p1), .val (.ref b97), .val (.ref a0), .unset, .unset, .unset]) rfl ?_
      show Steps p.tables e below (T97.setTop (mkF m 6 #[.val (.ref a0), .val (.int p1), .val (.ref b97), .val (.ref a0), .unset, .unset, .unset] [])) _
      refine XS.aloadN X97.here hx rfl (hb hby d2_6) rfl rfl ?_
      show Steps p.tables e below (T97.setTop (mkF m 7 #[.val (.ref a0), .val (.int p1), .val (.ref b97), .val (.ref a0), .unset, .unset, .unset] [(.ref a0)])) _
      refine own_alen X97 hx hZ e97 F99 (Int32.ofNat n) rfl (g := (mkF m 7 #[.val (.ref a0), .val (.int p1), .val (.ref b97), .val (.ref a0), .unset, .unset, .unset] [(.ref a0)])) rfl rfl (hb hby d2_7) _ ?_
      show Steps p.tables e below (T97.setTop (mkF m 8 #[.val (.ref a0), .val (.int p1), .val (.ref b97), .val (.ref a0), .unset, .unset, .unset] [(.int (Int32.ofNat n))])) _
      refine XS.istore X97.here hx rfl (hb hby d2_8) rfl (l' := #[.val (.ref a0), .val (.int p1), .val (.ref b97), .val (.ref a0), .val (.int (Int32.ofNat n)), .unset, .unset]) rfl ?_
      show Steps p.tables e below (T97.setTop (mkF m 10 #[.val (.ref a0), .val (.int p1), .val (.ref b97), .val (.ref a0), .val (.int (Int32.ofNat n)), .unset, .unset] [])) _
      refine XS.iconst X97.here hx rfl (hb hby d2_10) ?_
      show Steps p.tables e below (T97.setTop (mkF m 11 #[.val (.ref a0), .val (.int p1), .val (.ref b97), .val (.ref a0), .val (.int (Int32.ofNat n)), .unset, .unset] [(.int (0 : Int32))])) _
      refine XS.istore X97.here hx rfl (hb hby d2_11) rfl (l' := #[.val (.ref a0), .val (.int p1), .val (.ref b97), .val (.ref a0), .val (.int (Int32.ofNat n)), .val (.int (0 : Int32)), .unset]) rfl ?_
      exact kg_
    have J103 : ∀ (k116 : Nat) (i : Int32) (s6 : Slot) (q : Nat) (sn : Nat → Int32) (T104 : State) (lo111 : List Loc) (h106 : Heap) (X105 : Stand p l e ({ frames := 0, cells := 1, slots := 5, locals := 0 } : Room) s m #[(.ref a0), (.int p1)] below meth c T104 lo111 1 5) (e107 : T104.heap = h106) (N108 : Fr n0 lo111) (Zs109 : n0 ≤ h106.size) (K110 : Keep h0 h106 []) (F112 : own_Arf Z h106 a0 .int n (fun i => (.int (ga i)))) (F113 : own_Arf Z h106 b97 .boolean kn (fun i => (.int (sn i)))) (hs6 : One s6) (hi : i.toInt = q) (hq : q ≤ n) (hsn : own_sn ga q kn sn) (_ : n - q = k116) (r114 : own_R p.tables e below F0 (T104.setTop (mkF m 13 #[.val (.ref a0), .val (.int p1), .val (.ref b97), .val (.ref a0), .val (.int (Int32.ofNat n)), .val (.int i), s6] []))), G := by
      intro k116
      induction k116 using Nat.strongRecOn with
      | ind k116 ih115 =>
        intro i s6 q sn T104 lo111 h106 X105 e107 N108 Zs109 K110 F112 F113 hs6 hi hq hsn hm117 r114
        have r118 : own_R p.tables e below F0 (T104.setTop (mkF m 17 #[.val (.ref a0), .val (.int p1), .val (.ref b97), .val (.ref a0), .val (.int (Int32.ofNat n)), .val (.int i), s6] [(.int (Int32.ofNat n)), (.int i)])) := fun tg_ kg_ => by
          refine r114 tg_ ?_
          show Steps p.tables e below (T104.setTop (mkF m 13 #[.val (.ref a0), .val (.int p1), .val (.ref b97), .val (.ref a0), .val (.int (Int32.ofNat n)), .val (.int i), s6] [])) _
          refine XS.iload X105.here hx rfl (hb hby d2_13) rfl ?_
          show Steps p.tables e below (T104.setTop (mkF m 15 #[.val (.ref a0), .val (.int p1), .val (.ref b97), .val (.ref a0), .val (.int (Int32.ofNat n)), .val (.int i), s6] [(.int i)])) _
          refine XS.iload X105.here hx rfl (hb hby d2_15) rfl ?_
          exact kg_
        by_cases hc119 : i < (Int32.ofNat n)
        · have r120 : own_R p.tables e below F0 (T104.setTop (mkF m 30 #[.val (.ref a0), .val (.int p1), .val (.ref b97), .val (.ref a0), .val (.int (Int32.ofNat n)), .val (.int i), .val (.int (ga q))] [(.int (1 : Int32)), (.int (ga q)), (.ref b97)])) := fun tg_ kg_ => by
            refine r118 tg_ ?_
            show Steps p.tables e below (T104.setTop (mkF m 17 #[.val (.ref a0), .val (.int p1), .val (.ref b97), .val (.ref a0), .val (.int (Int32.ofNat n)), .val (.int i), s6] [(.int (Int32.ofNat n)), (.int i)])) _
            refine XS.icmpNo X105.here hx rfl (hb hby d2_17) rfl (tlt hc119).2.1 ?_
            show Steps p.tables e below (T104.setTop (mkF m 20 #[.val (.ref a0), .val (.int p1), .val (.ref b97), .val (.ref a0), .val (.int (Int32.ofNat n)), .val (.int i), s6] [])) _
            refine XS.aloadN X105.here hx rfl (hb hby d2_20) rfl rfl ?_
            show Steps p.tables e below (T104.setTop (mkF m 21 #[.val (.ref a0), .val (.int p1), .val (.ref b97), .val (.ref a0), .val (.int (Int32.ofNat n)), .val (.int i), s6] [(.ref a0)])) _
            refine XS.iload X105.here hx rfl (hb hby d2_21) rfl ?_
            show Steps p.tables e below (T104.setTop (mkF m 23 #[.val (.ref a0), .val (.int p1), .val (.ref b97), .val (.ref a0), .val (.int (Int32.ofNat n)), .val (.int i), s6] [(.int i), (.ref a0)])) _
            refine own_iaload X105 hx hZ e107 (j := i) F112 (by
                        have q58_r := own_R32 i
                        have q59_r := own_R32 (Int32.ofNat n)
                        have q60_c := own_lt32 hc119
                        omega) (by
                        have q61_r := own_R32 i
                        have q62_r := own_R32 (Int32.ofNat n)
                        have q63_c := own_lt32 hc119
                        omega) (w := (.int (ga q))) (congrArg (fun j => Value.int (ga j)) (own_clamp hi)) (g := (mkF m 23 #[.val (.ref a0), .val (.int p1), .val (.ref b97), .val (.ref a0), .val (.int (Int32.ofNat n)), .val (.int i), s6] [(.int i), (.ref a0)])) rfl rfl (hb hby d2_23) _ ?_
            show Steps p.tables e below (T104.setTop (mkF m 24 #[.val (.ref a0), .val (.int p1), .val (.ref b97), .val (.ref a0), .val (.int (Int32.ofNat n)), .val (.int i), s6] [(.int (ga q))])) _
            refine XS.istore X105.here hx rfl (hb hby d2_24) rfl (l' := #[.val (.ref a0), .val (.int p1), .val (.ref b97), .val (.ref a0), .val (.int (Int32.ofNat n)), .val (.int i), .val (.int (ga q))]) (by
                      rcases hs6 with rfl | ⟨w, rfl, hw⟩
                      · rfl
                      · cases w <;> first | rfl | (simp [Value.category] at hw)) ?_
            show Steps p.tables e below (T104.setTop (mkF m 26 #[.val (.ref a0), .val (.int p1), .val (.ref b97), .val (.ref a0), .val (.int (Int32.ofNat n)), .val (.int i), .val (.int (ga q))] [])) _
            refine XS.aloadN X105.here hx rfl (hb hby d2_26) rfl rfl ?_
            show Steps p.tables e below (T104.setTop (mkF m 27 #[.val (.ref a0), .val (.int p1), .val (.ref b97), .val (.ref a0), .val (.int (Int32.ofNat n)), .val (.int i), .val (.int (ga q))] [(.ref b97)])) _
            refine XS.iload X105.here hx rfl (hb hby d2_27) rfl ?_
            show Steps p.tables e below (T104.setTop (mkF m 29 #[.val (.ref a0), .val (.int p1), .val (.ref b97), .val (.ref a0), .val (.int (Int32.ofNat n)), .val (.int i), .val (.int (ga q))] [(.int (ga q)), (.ref b97)])) _
            refine XS.iconst X105.here hx rfl (hb hby d2_29) ?_
            exact kg_
          obtain ⟨T121, h121, X121, e121, W121, V121, st121⟩ := own_stZ X105 hx hZ e107 (j := (ga q)) F113 (hg q (by
                        have q64_r := own_R32 i
                        have q65_r := own_R32 (Int32.ofNat n)
                        have q66_c := own_lt32 hc119
                        omega)).1 (hg q (by
                        have q67_r := own_R32 i
                        have q68_r := own_R32 (Int32.ofNat n)
                        have q69_c := own_lt32 hc119
                        omega)).2 (g := (mkF m 30 #[.val (.ref a0), .val (.int p1), .val (.ref b97), .val (.ref a0), .val (.int (Int32.ofNat n)), .val (.int i), .val (.int (ga q))] [(.int (1 : Int32)), (.int (ga q)), (.ref b97)])) rfl rfl (hb hby d2_30)
          obtain ⟨gf121, hgf121, V121'⟩ := own_nameI (g := sn) V121
          have F122 : own_Arf Z h121 a0 .int n (fun i => (.int (ga i))) := F112.other W121 ne98
          have F123 : own_Arf Z h121 b97 .boolean kn (fun i => (.int (gf121 i))) := V121'
          have Zs124 : n0 ≤ h121.size := by rw [W121.size]; exact Zs109
          have N125 := Fr.snoc X121 N108 ge97
          have K126 : Keep h0 h121 [] := K110.wr W121 (Or.inr old97)
          have r121 : own_R p.tables e below F0 (T121.setTop (mkF m 31 #[.val (.ref a0), .val (.int p1), .val (.ref b97), .val (.ref a0), .val (.int (Int32.ofNat n)), .val (.int i), .val (.int (ga q))] [])) := fun tg_ kg_ => r120 tg_ (st121 tg_ kg_)
          have r127 : own_R p.tables e below F0 (T121.setTop (mkF m 13 #[.val (.ref a0), .val (.int p1), .val (.ref b97), .val (.ref a0), .val (.int (Int32.ofNat n)), .val (.int (i + (1 : Int32))), .val (.int (ga q))] [])) := fun tg_ kg_ => by
            refine r121 tg_ ?_
            show Steps p.tables e below (T121.setTop (mkF m 31 #[.val (.ref a0), .val (.int p1), .val (.ref b97), .val (.ref a0), .val (.int (Int32.ofNat n)), .val (.int i), .val (.int (ga q))] [])) _
            refine XS.iinc X121.here hx rfl (hb hby d2_31) rfl (l' := #[.val (.ref a0), .val (.int p1), .val (.ref b97), .val (.ref a0), .val (.int (Int32.ofNat n)), .val (.int (i + (1 : Int32))), .val (.int (ga q))]) rfl ?_
            show Steps p.tables e below (T121.setTop (mkF m 34 #[.val (.ref a0), .val (.int p1), .val (.ref b97), .val (.ref a0), .val (.int (Int32.ofNat n)), .val (.int (i + (1 : Int32))), .val (.int (ga q))] [])) _
            refine XS.goto X121.here hx rfl (pc0 := 34) (pc' := 13) rfl (hb hby d2_34) (by decide) (by decide) ?_
            exact kg_
          have q70_r := own_R32 i
          have q71_r := own_R32 (Int32.ofNat n)
          have q72_e : (1 : Int32).toInt = 1 := (by decide)
          have q72_r : (1 : Int) ≤ (1 : Int32).toInt ∧ (1 : Int32).toInt ≤ 1 := ⟨Int.le_of_eq q72_e.symm, Int.le_of_eq q72_e⟩
          have q73_r := own_R32 (i + (1 : Int32))
          have q74_ := c_iadd i (1 : Int32)
          have q75_c := own_lt32 hc119
          have hqn : q < n := by omega
          exact ih115 _ (by omega) (i + (1 : Int32)) (.val (.int (ga q))) (q + 1) gf121 T121 _ _ X121 e121 N125 Zs124 K126 F122 F123 (One.val rfl) (by omega) (by omega) (own_snup hsn (hg q hqn).1 hgf121) rfl r127
        · have r128 : own_R p.tables e below F0 (T104.setTop (mkF m 39 #[.val (.ref a0), .val (.int p1), .val (.ref b97), .val (.int (0 : Int32)), .val (.int (Int32.ofNat n)), .val (.int i), s6] [])) := fun tg_ kg_ => by
            refine r118 tg_ ?_
            show Steps p.tables e below (T104.setTop (mkF m 17 #[.val (.ref a0), .val (.int p1), .val (.ref b97), .val (.ref a0), .val (.int (Int32.ofNat n)), .val (.int i), s6] [(.int (Int32.ofNat n)), (.int i)])) _
            refine XS.icmpYes X105.here hx rfl (pc0 := 17) (pc' := 37) rfl (hb hby d2_17) rfl (flt hc119).2.1 (by decide) (by decide) ?_
            show Steps p.tables e below (T104.setTop (mkF m 37 #[.val (.ref a0), .val (.int p1), .val (.ref b97), .val (.ref a0), .val (.int (Int32.ofNat n)), .val (.int i), s6] [])) _
            refine XS.iconst X105.here hx rfl (hb hby d2_37) ?_
            show Steps p.tables e below (T104.setTop (mkF m 38 #[.val (.ref a0), .val (.int p1), .val (.ref b97), .val (.ref a0), .val (.int (Int32.ofNat n)), .val (.int i), s6] [(.int (0 : Int32))])) _
            refine XS.istoreN X105.here hx rfl (hb hby d2_38) rfl (l' := #[.val (.ref a0), .val (.int p1), .val (.ref b97), .val (.int (0 : Int32)), .val (.int (Int32.ofNat n)), .val (.int i), s6]) rfl ?_
            exact kg_
          have J129 : ∀ (k132 : Nat) (pp : Int32) (u : Nat) (hu : pp.toInt = u) (hul : u ≤ kn) (hsu : ∀ p, p < u → (sn p).toInt ≠ 0) (_ : kn - u = k132) (r130 : own_R p.tables e below F0 (T104.setTop (mkF m 39 #[.val (.ref a0), .val (.int p1), .val (.ref b97), .val (.int pp), .val (.int (Int32.ofNat n)), .val (.int i), s6] []))), G := by
            intro k132
            induction k132 using Nat.strongRecOn with
            | ind k132 ih131 =>
              intro pp u hu hul hsu hm133 r130
              have r134 : own_R p.tables e below F0 (T104.setTop (mkF m 41 #[.val (.ref a0), .val (.int p1), .val (.ref b97), .val (.int pp), .val (.int (Int32.ofNat n)), .val (.int i), s6] [(.int p1), (.int pp)])) := fun tg_ kg_ => by
                refine r130 tg_ ?_
                show Steps p.tables e below (T104.setTop (mkF m 39 #[.val (.ref a0), .val (.int p1), .val (.ref b97), .val (.int pp), .val (.int (Int32.ofNat n)), .val (.int i), s6] [])) _
                refine XS.iloadN X105.here hx rfl (hb hby d2_39) rfl ?_
                show Steps p.tables e below (T104.setTop (mkF m 40 #[.val (.ref a0), .val (.int p1), .val (.ref b97), .val (.int pp), .val (.int (Int32.ofNat n)), .val (.int i), s6] [(.int pp)])) _
                refine XS.iloadN X105.here hx rfl (hb hby d2_40) rfl ?_
                exact kg_
              by_cases hc135 : pp < p1
              · have r136 : own_R p.tables e below F0 (T104.setTop (mkF m 47 #[.val (.ref a0), .val (.int p1), .val (.ref b97), .val (.int pp), .val (.int (Int32.ofNat n)), .val (.int i), s6] [(.int (sn u))])) := fun tg_ kg_ => by
                  refine r134 tg_ ?_
                  show Steps p.tables e below (T104.setTop (mkF m 41 #[.val (.ref a0), .val (.int p1), .val (.ref b97), .val (.int pp), .val (.int (Int32.ofNat n)), .val (.int i), s6] [(.int p1), (.int pp)])) _
                  refine XS.icmpNo X105.here hx rfl (hb hby d2_41) rfl (tlt hc135).2.1 ?_
                  show Steps p.tables e below (T104.setTop (mkF m 44 #[.val (.ref a0), .val (.int p1), .val (.ref b97), .val (.int pp), .val (.int (Int32.ofNat n)), .val (.int i), s6] [])) _
                  refine XS.aloadN X105.here hx rfl (hb hby d2_44) rfl rfl ?_
                  show Steps p.tables e below (T104.setTop (mkF m 45 #[.val (.ref a0), .val (.int p1), .val (.ref b97), .val (.int pp), .val (.int (Int32.ofNat n)), .val (.int i), s6] [(.ref b97)])) _
                  refine XS.iloadN X105.here hx rfl (hb hby d2_45) rfl ?_
                  show Steps p.tables e below (T104.setTop (mkF m 46 #[.val (.ref a0), .val (.int p1), .val (.ref b97), .val (.int pp), .val (.int (Int32.ofNat n)), .val (.int i), s6] [(.int pp), (.ref b97)])) _
                  refine own_baloadZ X105 hx hZ e107 (j := pp) F113 (by
                                    have q76_r := own_R32 i
                                    have q77_r := own_R32 (Int32.ofNat n)
                                    have q78_r := own_R32 pp
                                    have q79_r := own_R32 p1
                                    have q80_c := own_nlt32 hc119
                                    have q81_c := own_lt32 hc135
                                    omega) (by
                                    have q82_r := own_R32 i
                                    have q83_r := own_R32 (Int32.ofNat n)
                                    have q84_r := own_R32 pp
                                    have q85_r := own_R32 p1
                                    have q86_c := own_nlt32 hc119
                                    have q87_c := own_lt32 hc135
                                    omega) (w := (.int (sn u))) (congrArg (fun j => Value.int (sn j)) (own_clamp hu)) (g := (mkF m 46 #[.val (.ref a0), .val (.int p1), .val (.ref b97), .val (.int pp), .val (.int (Int32.ofNat n)), .val (.int i), s6] [(.int pp), (.ref b97)])) rfl rfl (hb hby d2_46) _ ?_
                  exact kg_
                by_cases hc137 : (sn u) = (0 : Int32)
                · have r138 : own_R p.tables e below F0 (T104.setTop (mkF m 51 #[.val (.ref a0), .val (.int p1), .val (.ref b97), .val (.int pp), .val (.int (Int32.ofNat n)), .val (.int i), s6] [(.int pp)])) := fun tg_ kg_ => by
                    refine r136 tg_ ?_
                    show Steps p.tables e below (T104.setTop (mkF m 47 #[.val (.ref a0), .val (.int p1), .val (.ref b97), .val (.int pp), .val (.int (Int32.ofNat n)), .val (.int i), s6] [(.int (sn u))])) _
                    refine XS.ifNo X105.here hx rfl (hb hby d2_47) rfl ((if0 _ _).trans (teq hc137).2) ?_
                    show Steps p.tables e below (T104.setTop (mkF m 50 #[.val (.ref a0), .val (.int p1), .val (.ref b97), .val (.int pp), .val (.int (Int32.ofNat n)), .val (.int i), s6] [])) _
                    refine XS.iloadN X105.here hx rfl (hb hby d2_50) rfl ?_
                    exact kg_
                  refine hG (own_fin X105 hlk (some (.int pp)) (own_hv Bd.returns) ?_ (by decide) (by decide) (fun fs hr => r138 _ (retOut X105 hx Bd.returns rfl (Or.inl ⟨rfl, Or.inl rfl, _, rfl⟩) (hb hby d2_51) hr)))
                  rw [e107]
                  refine ⟨pp, ?_, N108, K110, (by
                        have q88_r := own_R32 i
                        have q89_r := own_R32 (Int32.ofNat n)
                        have q90_r := own_R32 pp
                        have q91_r := own_R32 p1
                        have q92_r := own_R32 (sn u)
                        have q93_e : (0 : Int32).toInt = 0 := (by decide)
                        have q93_r : (0 : Int) ≤ (0 : Int32).toInt ∧ (0 : Int32).toInt ≤ 0 := ⟨Int.le_of_eq q93_e.symm, Int.le_of_eq q93_e⟩
                        have q94_c := own_nlt32 hc119
                        have q95_c := own_lt32 hc135
                        have q96_c := own_eq32 hc137
                        have hq_ : q = n := by omega
                        have hu_ : u < kn := by omega
                        subst hq_
                        exact Or.inr ⟨u, hu, hu_, (hsn u hu_).elim (fun z => absurd (own_eq32 hc137) (by rw [z.1]; decide)) (fun z => z.2), fun p hp => (hsn p (by omega)).elim (fun z => z.2) (fun z => absurd z.1 (hsu p hp))⟩)⟩
                  rfl
                · have r139 : own_R p.tables e below F0 (T104.setTop (mkF m 39 #[.val (.ref a0), .val (.int p1), .val (.ref b97), .val (.int (pp + (1 : Int32))), .val (.int (Int32.ofNat n)), .val (.int i), s6] [])) := fun tg_ kg_ => by
                    refine r136 tg_ ?_
                    show Steps p.tables e below (T104.setTop (mkF m 47 #[.val (.ref a0), .val (.int p1), .val (.ref b97), .val (.int pp), .val (.int (Int32.ofNat n)), .val (.int i), s6] [(.int (sn u))])) _
                    refine XS.ifYes X105.here hx rfl (pc0 := 47) (pc' := 52) rfl (hb hby d2_47) rfl ((if0 _ _).trans (feq hc137).2) (by decide) (by decide) ?_
                    show Steps p.tables e below (T104.setTop (mkF m 52 #[.val (.ref a0), .val (.int p1), .val (.ref b97), .val (.int pp), .val (.int (Int32.ofNat n)), .val (.int i), s6] [])) _
                    refine XS.iinc X105.here hx rfl (hb hby d2_52) rfl (l' := #[.val (.ref a0), .val (.int p1), .val (.ref b97), .val (.int (pp + (1 : Int32))), .val (.int (Int32.ofNat n)), .val (.int i), s6]) rfl ?_
                    show Steps p.tables e below (T104.setTop (mkF m 55 #[.val (.ref a0), .val (.int p1), .val (.ref b97), .val (.int (pp + (1 : Int32))), .val (.int (Int32.ofNat n)), .val (.int i), s6] [])) _
                    refine XS.goto X105.here hx rfl (pc0 := 55) (pc' := 39) rfl (hb hby d2_55) (by decide) (by decide) ?_
                    exact kg_
                  have q97_r := own_R32 i
                  have q98_r := own_R32 (Int32.ofNat n)
                  have q99_r := own_R32 pp
                  have q100_r := own_R32 p1
                  have q101_r := own_R32 (sn u)
                  have q102_e : (0 : Int32).toInt = 0 := (by decide)
                  have q102_r : (0 : Int) ≤ (0 : Int32).toInt ∧ (0 : Int32).toInt ≤ 0 := ⟨Int.le_of_eq q102_e.symm, Int.le_of_eq q102_e⟩
                  have q103_e : (1 : Int32).toInt = 1 := (by decide)
                  have q103_r : (1 : Int) ≤ (1 : Int32).toInt ∧ (1 : Int32).toInt ≤ 1 := ⟨Int.le_of_eq q103_e.symm, Int.le_of_eq q103_e⟩
                  have q104_r := own_R32 (pp + (1 : Int32))
                  have q105_ := c_iadd pp (1 : Int32)
                  have q106_c := own_nlt32 hc119
                  have q107_c := own_lt32 hc135
                  have q108_c := own_ne32 hc137
                  exact ih131 _ (by omega) (pp + (1 : Int32)) (u + 1) (by omega) (by omega) (fun p hp => by
                    rcases Nat.lt_succ_iff_lt_or_eq.mp hp with z | z
                    · exact hsu p z
                    · rw [z]; exact own_ne32 hc137) rfl r139
              · have r140 : own_R p.tables e below F0 (T104.setTop (mkF m 59 #[.val (.ref a0), .val (.int p1), .val (.ref b97), .val (.int pp), .val (.int (Int32.ofNat n)), .val (.int i), s6] [(.int (-1 : Int32))])) := fun tg_ kg_ => by
                  refine r134 tg_ ?_
                  show Steps p.tables e below (T104.setTop (mkF m 41 #[.val (.ref a0), .val (.int p1), .val (.ref b97), .val (.int pp), .val (.int (Int32.ofNat n)), .val (.int i), s6] [(.int p1), (.int pp)])) _
                  refine XS.icmpYes X105.here hx rfl (pc0 := 41) (pc' := 58) rfl (hb hby d2_41) rfl (flt hc135).2.1 (by decide) (by decide) ?_
                  show Steps p.tables e below (T104.setTop (mkF m 58 #[.val (.ref a0), .val (.int p1), .val (.ref b97), .val (.int pp), .val (.int (Int32.ofNat n)), .val (.int i), s6] [])) _
                  refine XS.iconst X105.here hx rfl (hb hby d2_58) ?_
                  exact kg_
                refine hG (own_fin X105 hlk (some (.int (-1 : Int32))) (own_hv Bd.returns) ?_ (by decide) (by decide) (fun fs hr => r140 _ (retOut X105 hx Bd.returns rfl (Or.inl ⟨rfl, Or.inl rfl, _, rfl⟩) (hb hby d2_59) hr)))
                rw [e107]
                refine ⟨(-1 : Int32), ?_, N108, K110, (by
                      have q109_r := own_R32 i
                      have q110_r := own_R32 (Int32.ofNat n)
                      have q111_r := own_R32 pp
                      have q112_r := own_R32 p1
                      have q113_c := own_nlt32 hc119
                      have q114_c := own_nlt32 hc135
                      have hq_ : q = n := by omega
                      have hu_ : u = kn := by omega
                      subst hq_ hu_
                      exact Or.inl ⟨by decide, fun p hp => (hsn p hp).elim (fun z => z.2) (fun z => absurd z.1 (hsu p hp))⟩)⟩
                rfl
          exact J129 _ (0 : Int32) 0 (by decide) (Nat.zero_le _) (fun p hp => absurd hp (Nat.not_lt_zero _)) rfl r128
    exact J103 _ (0 : Int32) (.unset) 0 (fun _ => (0 : Int32)) T97 _ _ X97 e97 N0 Zs100 K97 F99 F101 One.u (by decide) (Nat.zero_le _) (own_sn0 ga kn) rfl r102
  exact key _ _ id (fun t k => castTop (ef_2 m a0 p1) k)
theorem own_partI (e k : Int32) (hk : 0 ≤ k.toInt) : 0 ≤ (own_part e k).toInt ∧ (0 < k.toInt → (own_part e k).toInt < k.toInt) := by
  unfold own_part
  have h0 : (0 : Int32).toInt = 0 := rfl
  by_cases q : k = (0 : Int32)
  · rw [if_pos q]; exact ⟨by omega, fun z => by rw [h0]; exact z⟩
  · rw [if_neg q]
    have h1 := own_ne32 q
    have h2 := own_mask e 2147483647 31 2147483648 (by decide) (by decide) (by decide)
    have h3 := c_iremV (e &&& (2147483647 : Int32)) k
    have h4 := rng32 e
    omega
theorem own_usedI (n v0 v1 v2 v3 p : Int32) (ga : Nat → Int32) (N P : Nat) (hn : n.toInt = N) (hN : N ≤ 4) (hp : p.toInt = P) (hv : (0 < N → ga 0 = v0) ∧ (1 < N → ga 1 = v1) ∧ (2 < N → ga 2 = v2) ∧ (3 < N → ga 3 = v3)) : own_used n v0 v1 v2 v3 p = (0 : Int32) ↔ ¬ own_U ga N P := by
  have key : own_U ga N P ↔ (0 < N ∧ v0.toInt = p.toInt) ∨ (1 < N ∧ v1.toInt = p.toInt) ∨ (2 < N ∧ v2.toInt = p.toInt) ∨ (3 < N ∧ v3.toInt = p.toInt) := by
    rw [hp]
    constructor
    · rintro ⟨j, h1, h2⟩
      have : j = 0 ∨ j = 1 ∨ j = 2 ∨ j = 3 := by omega
      rcases this with rfl | rfl | rfl | rfl
      · exact Or.inl ⟨h1, hv.1 h1 ▸ h2⟩
      · exact Or.inr (Or.inl ⟨h1, hv.2.1 h1 ▸ h2⟩)
      · exact Or.inr (Or.inr (Or.inl ⟨h1, hv.2.2.1 h1 ▸ h2⟩))
      · exact Or.inr (Or.inr (Or.inr ⟨h1, hv.2.2.2 h1 ▸ h2⟩))
    · rintro (⟨h1, h2⟩ | ⟨h1, h2⟩ | ⟨h1, h2⟩ | ⟨h1, h2⟩)
      · exact ⟨0, h1, by rw [hv.1 h1]; exact h2⟩
      · exact ⟨1, h1, by rw [hv.2.1 h1]; exact h2⟩
      · exact ⟨2, h1, by rw [hv.2.2.1 h1]; exact h2⟩
      · exact ⟨3, h1, by rw [hv.2.2.2 h1]; exact h2⟩
  rw [key]
  unfold own_used
  have h0 : (0 : Int32).toInt = 0 := rfl
  have h1 : (1 : Int32).toInt = 1 := rfl
  have h2 : (2 : Int32).toInt = 2 := rfl
  have h3 : (3 : Int32).toInt = 3 := rfl
  simp only [Int32.lt_iff_toInt_lt, ← Int32.toInt_inj, h0, h1, h2, h3]
  repeat' split
  all_goals first | (rw [h1]; omega) | (rw [h0]; omega)
theorem own_end {ga : Nat → Int32} {N kn : Nat} {r ex k : Int32} (hk : k.toInt = kn) (hk5 : kn ≤ 5) (hr : own_fe ga N kn r)
    (hE : (ex.toInt = -1 ∧ ∀ p, p < 5 → p < kn → own_U ga N p) ∨ ∃ p : Nat, ex.toInt = p ∧ p < kn ∧ ¬ own_U ga N p ∧ ∀ p', p' < p → own_U ga N p') : r = ex := by
  apply Int32.toInt_inj.mp
  rcases hr with ⟨a1, a2⟩ | ⟨p, a1, a2, a3, a4⟩ <;> rcases hE with ⟨b1, b2⟩ | ⟨q, b1, b2, b3, b4⟩
  · omega
  · exact absurd (a2 q b2) b3
  · exact absurd (b2 p (by omega) a2) a3
  · rcases Nat.lt_trichotomy p q with z | z | z
    · exact absurd (b4 p z) a3
    · omega
    · exact absurd (a4 q z) b3
theorem pd_0 : parseMethodDescriptor "(II)I" = some ⟨[.int, .int], some .int⟩ := by decide +kernel
theorem pd_1 : parseMethodDescriptor "([II)I" = some ⟨[(.array .int), .int], some .int⟩ := by decide +kernel
theorem pd_2 : parseMethodDescriptor "(IIIIII)Z" = some ⟨[.int, .int, .int, .int, .int, .int], some .boolean⟩ := by decide +kernel
theorem ef_0 (m : MethodId) (x0 : Int32) (x1 : Int32) (x2 : Int32) (x3 : Int32) (x4 : Int32) : entryFrame m #[(.int x0), (.int x1), (.int x2), (.int x3), (.int x4)] maxLocals = mkF m 0 #[.val (.int x0), .val (.int x1), .val (.int x2), .val (.int x3), .val (.int x4), .unset, .unset, .unset, .unset, .unset, .unset, .unset, .unset, .unset, .unset] [] := by first | (simp [entryFrame, mkF, argsToLocals, Value.category, maxLocals]; done) | rfl
def Q0 (Z : State) (p0s : Int32) (p1s : Int32) (p2s : Int32) (p3s : Int32) (p4s : Int32) (h0 : Heap) (n0 : Nat) (v : Option Value) (h : Heap) (L : List Loc) : Prop := v = some (.int (1 : Int32)) ∧ Fr n0 L
set_option maxRecDepth 65536 in
set_option maxHeartbeats 40000000 in
theorem rm0 (l : Launch) (Z : State) (a0 : Array Value) (hw : ∀ d ∈ tables_1, d.before a0 Z = true) (ws : List Jvm.Cond) (p0s : Int32) (p1s : Int32) (p2s : Int32) (p3s : Int32) (p4s : Int32) (h0 : Heap) (n0 : Nat) (Z0 : n0 ≤ h0.size) :
    MetFree l x (head1 (Jvm.Cond.code x code maxLocals ret :: ws) room_1) (fun a U => a = #[(.int p0s), (.int p1s), (.int p2s), (.int p3s), (.int p4s)] ∧ Z.Warmed39 U.vm ∧ U.heap = h0) (fun _ _ _ _ _ => True) (fun _ U o U' => ∃ v L, o = .returned v ∧ Q0 Z p0s p1s p2s p3s p4s h0 n0 v U'.heap L ∧ FrameEnd U o U' L 16 128) := by
  refine MetFree.of_bodySF (plainFor_of_name pn_0) hisR ?_
  intro p e s m args below meth c s₁ Bd hml0 hP hK
  obtain ⟨rfl, hZ, hh⟩ := hP
  have hx := Bd.exec
  have hby := Bd.bytes
  have hml : c.maxLocals = 15 := hml0
  have hown : s.vm.findClass "org/fractile/core/PartitionFirstEmptyPartPinLaw" = some m.cls := findClass_of_methodNamed Bd.named
  have hnm := (name_of_methodNamed Bd.named Bd.method).1
  have hlk : meth.locks = false := BodyLoose.notSynchronized Bd
  have X0 : Stand p l e room_1 s m #[(.int p0s), (.int p1s), (.int p2s), (.int p3s), (.int p4s)] below meth c s₁ [] 0 0 := Stand.of_body Bd
  have e0 : s₁.heap = h0 := by rw [← hh, Bd.state]; rfl
  have N0 := Fr.nil n0
  have K0 : Keep h0 h0 [] := Keep.refl h0 _
  have key : ∀ (F0 : State) (G : Prop), (own_G p e below s F0 (Q0 Z p0s p1s p2s p3s p4s h0 n0) 16 128 → G) → own_R p.tables e below F0 (s₁.setTop (mkF m 0 #[.val (.int p0s), .val (.int p1s), .val (.int p2s), .val (.int p3s), .val (.int p4s), .unset, .unset, .unset, .unset, .unset, .unset, .unset, .unset, .unset, .unset] [])) → G := by
    intro F0 G hG r0
    obtain ⟨z141, hz141⟩ : ∃ z : Int32, z = ((p0s &&& (7 : Int32)) % (5 : Int32)) := ⟨_, rfl⟩
    obtain ⟨z142, hz142⟩ : ∃ z : Int32, z = ((((p0s.toUInt32 >>> ((3 : Int32) &&& 31).toUInt32).toInt32) &&& (7 : Int32)) % (6 : Int32)) := ⟨_, rfl⟩
    have r143 : own_R p.tables e below F0 (s₁.setTop (mkF m 21 #[.val (.int p0s), .val (.int p1s), .val (.int p2s), .val (.int p3s), .val (.int p4s), .val (.int z141), .val (.int z142), .unset, .unset, .unset, .unset, .unset, .unset, .unset, .unset] [(.int z142)])) := fun tg_ kg_ => by
      refine r0 tg_ ?_
      show Steps p.tables e below (s₁.setTop (mkF m 0 #[.val (.int p0s), .val (.int p1s), .val (.int p2s), .val (.int p3s), .val (.int p4s), .unset, .unset, .unset, .unset, .unset, .unset, .unset, .unset, .unset, .unset] [])) _
      refine XS.iloadN X0.here hx rfl (hb hby at_0) rfl ?_
      show Steps p.tables e below (s₁.setTop (mkF m 1 #[.val (.int p0s), .val (.int p1s), .val (.int p2s), .val (.int p3s), .val (.int p4s), .unset, .unset, .unset, .unset, .unset, .unset, .unset, .unset, .unset, .unset] [(.int p0s)])) _
      refine XS.bipush X0.here hx rfl (hb hby at_1) ?_
      show Steps p.tables e below (s₁.setTop (mkF m 3 #[.val (.int p0s), .val (.int p1s), .val (.int p2s), .val (.int p3s), .val (.int p4s), .unset, .unset, .unset, .unset, .unset, .unset, .unset, .unset, .unset, .unset] [(.int (7 : Int32)), (.int p0s)])) _
      refine XS.iand X0.here hx rfl (hb hby at_3) rfl ?_
      show Steps p.tables e below (s₁.setTop (mkF m 4 #[.val (.int p0s), .val (.int p1s), .val (.int p2s), .val (.int p3s), .val (.int p4s), .unset, .unset, .unset, .unset, .unset, .unset, .unset, .unset, .unset, .unset] [(.int (p0s &&& (7 : Int32)))])) _
      refine XS.iconst X0.here hx rfl (hb hby at_4) ?_
      show Steps p.tables e below (s₁.setTop (mkF m 5 #[.val (.int p0s), .val (.int p1s), .val (.int p2s), .val (.int p3s), .val (.int p4s), .unset, .unset, .unset, .unset, .unset, .unset, .unset, .unset, .unset, .unset] [(.int (5 : Int32)), (.int (p0s &&& (7 : Int32)))])) _
      refine iremM X0 hx rfl (hb hby at_5) rfl (by decide) ?_
      show Steps p.tables e below (s₁.setTop (mkF m 6 #[.val (.int p0s), .val (.int p1s), .val (.int p2s), .val (.int p3s), .val (.int p4s), .unset, .unset, .unset, .unset, .unset, .unset, .unset, .unset, .unset, .unset] [(.int ((p0s &&& (7 : Int32)) % (5 : Int32)))])) _
      refine XS.istore X0.here hx rfl (hb hby at_6) (x := z141) (rest := []) (by subst hz141; rfl) (l' := #[.val (.int p0s), .val (.int p1s), .val (.int p2s), .val (.int p3s), .val (.int p4s), .val (.int z141), .unset, .unset, .unset, .unset, .unset, .unset, .unset, .unset, .unset]) rfl ?_
      show Steps p.tables e below (s₁.setTop (mkF m 8 #[.val (.int p0s), .val (.int p1s), .val (.int p2s), .val (.int p3s), .val (.int p4s), .val (.int z141), .unset, .unset, .unset, .unset, .unset, .unset, .unset, .unset, .unset] [])) _
      refine XS.iloadN X0.here hx rfl (hb hby at_8) rfl ?_
      show Steps p.tables e below (s₁.setTop (mkF m 9 #[.val (.int p0s), .val (.int p1s), .val (.int p2s), .val (.int p3s), .val (.int p4s), .val (.int z141), .unset, .unset, .unset, .unset, .unset, .unset, .unset, .unset, .unset] [(.int p0s)])) _
      refine XS.iconst X0.here hx rfl (hb hby at_9) ?_
      show Steps p.tables e below (s₁.setTop (mkF m 10 #[.val (.int p0s), .val (.int p1s), .val (.int p2s), .val (.int p3s), .val (.int p4s), .val (.int z141), .unset, .unset, .unset, .unset, .unset, .unset, .unset, .unset, .unset] [(.int (3 : Int32)), (.int p0s)])) _
      refine XS.iushr X0.here hx rfl (hb hby at_10) rfl ?_
      show Steps p.tables e below (s₁.setTop (mkF m 11 #[.val (.int p0s), .val (.int p1s), .val (.int p2s), .val (.int p3s), .val (.int p4s), .val (.int z141), .unset, .unset, .unset, .unset, .unset, .unset, .unset, .unset, .unset] [(.int ((p0s.toUInt32 >>> ((3 : Int32) &&& 31).toUInt32).toInt32))])) _
      refine XS.bipush X0.here hx rfl (hb hby at_11) ?_
      show Steps p.tables e below (s₁.setTop (mkF m 13 #[.val (.int p0s), .val (.int p1s), .val (.int p2s), .val (.int p3s), .val (.int p4s), .val (.int z141), .unset, .unset, .unset, .unset, .unset, .unset, .unset, .unset, .unset] [(.int (7 : Int32)), (.int ((p0s.toUInt32 >>> ((3 : Int32) &&& 31).toUInt32).toInt32))])) _
      refine XS.iand X0.here hx rfl (hb hby at_13) rfl ?_
      show Steps p.tables e below (s₁.setTop (mkF m 14 #[.val (.int p0s), .val (.int p1s), .val (.int p2s), .val (.int p3s), .val (.int p4s), .val (.int z141), .unset, .unset, .unset, .unset, .unset, .unset, .unset, .unset, .unset] [(.int (((p0s.toUInt32 >>> ((3 : Int32) &&& 31).toUInt32).toInt32) &&& (7 : Int32)))])) _
      refine XS.bipush X0.here hx rfl (hb hby at_14) ?_
      show Steps p.tables e below (s₁.setTop (mkF m 16 #[.val (.int p0s), .val (.int p1s), .val (.int p2s), .val (.int p3s), .val (.int p4s), .val (.int z141), .unset, .unset, .unset, .unset, .unset, .unset, .unset, .unset, .unset] [(.int (6 : Int32)), (.int (((p0s.toUInt32 >>> ((3 : Int32) &&& 31).toUInt32).toInt32) &&& (7 : Int32)))])) _
      refine iremM X0 hx rfl (hb hby at_16) rfl (by decide) ?_
      show Steps p.tables e below (s₁.setTop (mkF m 17 #[.val (.int p0s), .val (.int p1s), .val (.int p2s), .val (.int p3s), .val (.int p4s), .val (.int z141), .unset, .unset, .unset, .unset, .unset, .unset, .unset, .unset, .unset] [(.int ((((p0s.toUInt32 >>> ((3 : Int32) &&& 31).toUInt32).toInt32) &&& (7 : Int32)) % (6 : Int32)))])) _
      refine XS.istore X0.here hx rfl (hb hby at_17) (x := z142) (rest := []) (by subst hz142; rfl) (l' := #[.val (.int p0s), .val (.int p1s), .val (.int p2s), .val (.int p3s), .val (.int p4s), .val (.int z141), .val (.int z142), .unset, .unset, .unset, .unset, .unset, .unset, .unset, .unset]) rfl ?_
      show Steps p.tables e below (s₁.setTop (mkF m 19 #[.val (.int p0s), .val (.int p1s), .val (.int p2s), .val (.int p3s), .val (.int p4s), .val (.int z141), .val (.int z142), .unset, .unset, .unset, .unset, .unset, .unset, .unset, .unset] [])) _
      refine XS.iload X0.here hx rfl (hb hby at_19) rfl ?_
      exact kg_
    have J144 : ∀ (nn : Int32) (hnn : 0 ≤ nn.toInt ∧ nn.toInt ≤ 4 ∧ (z142.toInt = 0 → nn.toInt = 0)) (r145 : own_R p.tables e below F0 (s₁.setTop (mkF m 27 #[.val (.int p0s), .val (.int p1s), .val (.int p2s), .val (.int p3s), .val (.int p4s), .val (.int nn), .val (.int z142), .unset, .unset, .unset, .unset, .unset, .unset, .unset, .unset] []))), G := by
      intro nn hnn r145
      have r146 : own_R p.tables e below F0 (s₁.setTop (mkF m 30 #[.val (.int p0s), .val (.int p1s), .val (.int p2s), .val (.int p3s), .val (.int p4s), .val (.int nn), .val (.int z142), .unset, .unset, .unset, .unset, .unset, .unset, .unset, .unset] [(.int z142), (.int p1s)])) := fun tg_ kg_ => by
        refine r145 tg_ ?_
        show Steps p.tables e below (s₁.setTop (mkF m 27 #[.val (.int p0s), .val (.int p1s), .val (.int p2s), .val (.int p3s), .val (.int p4s), .val (.int nn), .val (.int z142), .unset, .unset, .unset, .unset, .unset, .unset, .unset, .unset] [])) _
        refine XS.iloadN X0.here hx rfl (hb hby at_27) rfl ?_
        show Steps p.tables e below (s₁.setTop (mkF m 28 #[.val (.int p0s), .val (.int p1s), .val (.int p2s), .val (.int p3s), .val (.int p4s), .val (.int nn), .val (.int z142), .unset, .unset, .unset, .unset, .unset, .unset, .unset, .unset] [(.int p1s)])) _
        refine XS.iload X0.here hx rfl (hb hby at_28) rfl ?_
        exact kg_
      obtain ⟨_, _, ⟨T147, L147, k147, n147⟩, -, X147, ⟨Lc147, hQ147, l147, y147, z147⟩, st147⟩ := Jvm.LawKit.callS X0 hx (y := (⟨"org/fractile/core/PartitionFirstEmptyPartPinLaw", "part", "(II)I"⟩ : MethodName)) hown (mvT hZ (hw _ (List.mem_of_getElem? (i := 0) rfl))) (mvT hZ (hw _ (List.mem_of_getElem? (i := 1) rfl))) (mvT hZ (hw _ (List.mem_of_getElem? (i := 2) rfl))) (mvT hZ (hw _ (List.mem_of_getElem? (i := 3) rfl))) (by decide) (backOf (W := 0) (rm1 l Z a0 hw [] p1s z142 h0 n0 Z0 ) hZ (hw _ (List.mem_of_getElem? (i := 3) rfl)) (hw _ (List.mem_of_getElem? (i := 2) rfl)) (by decide) (by decide)) (g := (mkF m 30 #[.val (.int p0s), .val (.int p1s), .val (.int p2s), .val (.int p3s), .val (.int p4s), .val (.int nn), .val (.int z142), .unset, .unset, .unset, .unset, .unset, .unset, .unset, .unset] [(.int z142), (.int p1s)])) rfl (by rw [hml]; rfl) (argsL := [(.int p1s), (.int z142)]) (rest := []) (lenOf pd_0 rfl) rfl (by show 2 * 0 + _ ≤ _; exact Nat.le_of_eq rfl) (hb hby at_30) (fun _ _ => ⟨rfl, e0, (by decide : 0 + 0 ≤ _), (by decide : 0 + 0 ≤ _)⟩)
      dsimp only [Pt.U, Pt.locs, Pt.cells, Pt.slots] at X147 l147 y147 z147 st147 hQ147
      subst l147 y147 z147
      obtain ⟨rfl, N147q, I147_0⟩ := hQ147
      have N147 := Fr.app N0 N147q
      have r147 : own_R p.tables e below F0 (T147.setTop (mkF m 33 #[.val (.int p0s), .val (.int p1s), .val (.int p2s), .val (.int p3s), .val (.int p4s), .val (.int nn), .val (.int z142), .unset, .unset, .unset, .unset, .unset, .unset, .unset, .unset] [(.int (own_part p1s z142))])) := fun tg_ kg_ => r146 tg_ (st147 tg_ kg_)
      obtain ⟨z148, hz148⟩ : ∃ z : Int32, z = (own_part p1s z142) := ⟨_, rfl⟩
      have r149 : own_R p.tables e below F0 (T147.setTop (mkF m 38 #[.val (.int p0s), .val (.int p1s), .val (.int p2s), .val (.int p3s), .val (.int p4s), .val (.int nn), .val (.int z142), .val (.int z148), .unset, .unset, .unset, .unset, .unset, .unset, .unset] [(.int z142), (.int p2s)])) := fun tg_ kg_ => by
        refine r147 tg_ ?_
        show Steps p.tables e below (T147.setTop (mkF m 33 #[.val (.int p0s), .val (.int p1s), .val (.int p2s), .val (.int p3s), .val (.int p4s), .val (.int nn), .val (.int z142), .unset, .unset, .unset, .unset, .unset, .unset, .unset, .unset] [(.int (own_part p1s z142))])) _
        refine XS.istore X147.here hx rfl (hb hby at_33) (x := z148) (rest := []) (by subst hz148; rfl) (l' := #[.val (.int p0s), .val (.int p1s), .val (.int p2s), .val (.int p3s), .val (.int p4s), .val (.int nn), .val (.int z142), .val (.int z148), .unset, .unset, .unset, .unset, .unset, .unset, .unset]) rfl ?_
        show Steps p.tables e below (T147.setTop (mkF m 35 #[.val (.int p0s), .val (.int p1s), .val (.int p2s), .val (.int p3s), .val (.int p4s), .val (.int nn), .val (.int z142), .val (.int z148), .unset, .unset, .unset, .unset, .unset, .unset, .unset] [])) _
        refine XS.iloadN X147.here hx rfl (hb hby at_35) rfl ?_
        show Steps p.tables e below (T147.setTop (mkF m 36 #[.val (.int p0s), .val (.int p1s), .val (.int p2s), .val (.int p3s), .val (.int p4s), .val (.int nn), .val (.int z142), .val (.int z148), .unset, .unset, .unset, .unset, .unset, .unset, .unset] [(.int p2s)])) _
        refine XS.iload X147.here hx rfl (hb hby at_36) rfl ?_
        exact kg_
      obtain ⟨_, _, ⟨T150, L150, k150, n150⟩, -, X150, ⟨Lc150, hQ150, l150, y150, z150⟩, st150⟩ := Jvm.LawKit.callS X147 hx (y := (⟨"org/fractile/core/PartitionFirstEmptyPartPinLaw", "part", "(II)I"⟩ : MethodName)) hown (mvT hZ (hw _ (List.mem_of_getElem? (i := 0) rfl))) (mvT hZ (hw _ (List.mem_of_getElem? (i := 1) rfl))) (mvT hZ (hw _ (List.mem_of_getElem? (i := 2) rfl))) (mvT hZ (hw _ (List.mem_of_getElem? (i := 3) rfl))) (by decide) (backOf (W := 0) (rm1 l Z a0 hw [] p2s z142 h0 n0 Z0 ) hZ (hw _ (List.mem_of_getElem? (i := 3) rfl)) (hw _ (List.mem_of_getElem? (i := 2) rfl)) (by decide) (by decide)) (g := (mkF m 38 #[.val (.int p0s), .val (.int p1s), .val (.int p2s), .val (.int p3s), .val (.int p4s), .val (.int nn), .val (.int z142), .val (.int z148), .unset, .unset, .unset, .unset, .unset, .unset, .unset] [(.int z142), (.int p2s)])) rfl (by rw [hml]; rfl) (argsL := [(.int p2s), (.int z142)]) (rest := []) (lenOf pd_0 rfl) rfl (by show 2 * 0 + _ ≤ _; exact Nat.le_of_eq rfl) (hb hby at_38) (fun _ _ => ⟨rfl, I147_0, (by decide : 0 + 0 ≤ _), (by decide : 0 + 0 ≤ _)⟩)
      dsimp only [Pt.U, Pt.locs, Pt.cells, Pt.slots] at X150 l150 y150 z150 st150 hQ150
      subst l150 y150 z150
      obtain ⟨rfl, N150q, I150_0⟩ := hQ150
      have N150 := Fr.app N147 N150q
      have r150 : own_R p.tables e below F0 (T150.setTop (mkF m 41 #[.val (.int p0s), .val (.int p1s), .val (.int p2s), .val (.int p3s), .val (.int p4s), .val (.int nn), .val (.int z142), .val (.int z148), .unset, .unset, .unset, .unset, .unset, .unset, .unset] [(.int (own_part p2s z142))])) := fun tg_ kg_ => r149 tg_ (st150 tg_ kg_)
      obtain ⟨z151, hz151⟩ : ∃ z : Int32, z = (own_part p2s z142) := ⟨_, rfl⟩
      have r152 : own_R p.tables e below F0 (T150.setTop (mkF m 46 #[.val (.int p0s), .val (.int p1s), .val (.int p2s), .val (.int p3s), .val (.int p4s), .val (.int nn), .val (.int z142), .val (.int z148), .val (.int z151), .unset, .unset, .unset, .unset, .unset, .unset] [(.int z142), (.int p3s)])) := fun tg_ kg_ => by
        refine r150 tg_ ?_
        show Steps p.tables e below (T150.setTop (mkF m 41 #[.val (.int p0s), .val (.int p1s), .val (.int p2s), .val (.int p3s), .val (.int p4s), .val (.int nn), .val (.int z142), .val (.int z148), .unset, .unset, .unset, .unset, .unset, .unset, .unset] [(.int (own_part p2s z142))])) _
        refine XS.istore X150.here hx rfl (hb hby at_41) (x := z151) (rest := []) (by subst hz151; rfl) (l' := #[.val (.int p0s), .val (.int p1s), .val (.int p2s), .val (.int p3s), .val (.int p4s), .val (.int nn), .val (.int z142), .val (.int z148), .val (.int z151), .unset, .unset, .unset, .unset, .unset, .unset]) rfl ?_
        show Steps p.tables e below (T150.setTop (mkF m 43 #[.val (.int p0s), .val (.int p1s), .val (.int p2s), .val (.int p3s), .val (.int p4s), .val (.int nn), .val (.int z142), .val (.int z148), .val (.int z151), .unset, .unset, .unset, .unset, .unset, .unset] [])) _
        refine XS.iloadN X150.here hx rfl (hb hby at_43) rfl ?_
        show Steps p.tables e below (T150.setTop (mkF m 44 #[.val (.int p0s), .val (.int p1s), .val (.int p2s), .val (.int p3s), .val (.int p4s), .val (.int nn), .val (.int z142), .val (.int z148), .val (.int z151), .unset, .unset, .unset, .unset, .unset, .unset] [(.int p3s)])) _
        refine XS.iload X150.here hx rfl (hb hby at_44) rfl ?_
        exact kg_
      obtain ⟨_, _, ⟨T153, L153, k153, n153⟩, -, X153, ⟨Lc153, hQ153, l153, y153, z153⟩, st153⟩ := Jvm.LawKit.callS X150 hx (y := (⟨"org/fractile/core/PartitionFirstEmptyPartPinLaw", "part", "(II)I"⟩ : MethodName)) hown (mvT hZ (hw _ (List.mem_of_getElem? (i := 0) rfl))) (mvT hZ (hw _ (List.mem_of_getElem? (i := 1) rfl))) (mvT hZ (hw _ (List.mem_of_getElem? (i := 2) rfl))) (mvT hZ (hw _ (List.mem_of_getElem? (i := 3) rfl))) (by decide) (backOf (W := 0) (rm1 l Z a0 hw [] p3s z142 h0 n0 Z0 ) hZ (hw _ (List.mem_of_getElem? (i := 3) rfl)) (hw _ (List.mem_of_getElem? (i := 2) rfl)) (by decide) (by decide)) (g := (mkF m 46 #[.val (.int p0s), .val (.int p1s), .val (.int p2s), .val (.int p3s), .val (.int p4s), .val (.int nn), .val (.int z142), .val (.int z148), .val (.int z151), .unset, .unset, .unset, .unset, .unset, .unset] [(.int z142), (.int p3s)])) rfl (by rw [hml]; rfl) (argsL := [(.int p3s), (.int z142)]) (rest := []) (lenOf pd_0 rfl) rfl (by show 2 * 0 + _ ≤ _; exact Nat.le_of_eq rfl) (hb hby at_46) (fun _ _ => ⟨rfl, I150_0, (by decide : 0 + 0 ≤ _), (by decide : 0 + 0 ≤ _)⟩)
      dsimp only [Pt.U, Pt.locs, Pt.cells, Pt.slots] at X153 l153 y153 z153 st153 hQ153
      subst l153 y153 z153
      obtain ⟨rfl, N153q, I153_0⟩ := hQ153
      have N153 := Fr.app N150 N153q
      have r153 : own_R p.tables e below F0 (T153.setTop (mkF m 49 #[.val (.int p0s), .val (.int p1s), .val (.int p2s), .val (.int p3s), .val (.int p4s), .val (.int nn), .val (.int z142), .val (.int z148), .val (.int z151), .unset, .unset, .unset, .unset, .unset, .unset] [(.int (own_part p3s z142))])) := fun tg_ kg_ => r152 tg_ (st153 tg_ kg_)
      obtain ⟨z154, hz154⟩ : ∃ z : Int32, z = (own_part p3s z142) := ⟨_, rfl⟩
      have r155 : own_R p.tables e below F0 (T153.setTop (mkF m 55 #[.val (.int p0s), .val (.int p1s), .val (.int p2s), .val (.int p3s), .val (.int p4s), .val (.int nn), .val (.int z142), .val (.int z148), .val (.int z151), .val (.int z154), .unset, .unset, .unset, .unset, .unset] [(.int z142), (.int p4s)])) := fun tg_ kg_ => by
        refine r153 tg_ ?_
        show Steps p.tables e below (T153.setTop (mkF m 49 #[.val (.int p0s), .val (.int p1s), .val (.int p2s), .val (.int p3s), .val (.int p4s), .val (.int nn), .val (.int z142), .val (.int z148), .val (.int z151), .unset, .unset, .unset, .unset, .unset, .unset] [(.int (own_part p3s z142))])) _
        refine XS.istore X153.here hx rfl (hb hby at_49) (x := z154) (rest := []) (by subst hz154; rfl) (l' := #[.val (.int p0s), .val (.int p1s), .val (.int p2s), .val (.int p3s), .val (.int p4s), .val (.int nn), .val (.int z142), .val (.int z148), .val (.int z151), .val (.int z154), .unset, .unset, .unset, .unset, .unset]) rfl ?_
        show Steps p.tables e below (T153.setTop (mkF m 51 #[.val (.int p0s), .val (.int p1s), .val (.int p2s), .val (.int p3s), .val (.int p4s), .val (.int nn), .val (.int z142), .val (.int z148), .val (.int z151), .val (.int z154), .unset, .unset, .unset, .unset, .unset] [])) _
        refine XS.iload X153.here hx rfl (hb hby at_51) rfl ?_
        show Steps p.tables e below (T153.setTop (mkF m 53 #[.val (.int p0s), .val (.int p1s), .val (.int p2s), .val (.int p3s), .val (.int p4s), .val (.int nn), .val (.int z142), .val (.int z148), .val (.int z151), .val (.int z154), .unset, .unset, .unset, .unset, .unset] [(.int p4s)])) _
        refine XS.iload X153.here hx rfl (hb hby at_53) rfl ?_
        exact kg_
      obtain ⟨_, _, ⟨T156, L156, k156, n156⟩, -, X156, ⟨Lc156, hQ156, l156, y156, z156⟩, st156⟩ := Jvm.LawKit.callS X153 hx (y := (⟨"org/fractile/core/PartitionFirstEmptyPartPinLaw", "part", "(II)I"⟩ : MethodName)) hown (mvT hZ (hw _ (List.mem_of_getElem? (i := 0) rfl))) (mvT hZ (hw _ (List.mem_of_getElem? (i := 1) rfl))) (mvT hZ (hw _ (List.mem_of_getElem? (i := 2) rfl))) (mvT hZ (hw _ (List.mem_of_getElem? (i := 3) rfl))) (by decide) (backOf (W := 0) (rm1 l Z a0 hw [] p4s z142 h0 n0 Z0 ) hZ (hw _ (List.mem_of_getElem? (i := 3) rfl)) (hw _ (List.mem_of_getElem? (i := 2) rfl)) (by decide) (by decide)) (g := (mkF m 55 #[.val (.int p0s), .val (.int p1s), .val (.int p2s), .val (.int p3s), .val (.int p4s), .val (.int nn), .val (.int z142), .val (.int z148), .val (.int z151), .val (.int z154), .unset, .unset, .unset, .unset, .unset] [(.int z142), (.int p4s)])) rfl (by rw [hml]; rfl) (argsL := [(.int p4s), (.int z142)]) (rest := []) (lenOf pd_0 rfl) rfl (by show 2 * 0 + _ ≤ _; exact Nat.le_of_eq rfl) (hb hby at_55) (fun _ _ => ⟨rfl, I153_0, (by decide : 0 + 0 ≤ _), (by decide : 0 + 0 ≤ _)⟩)
      dsimp only [Pt.U, Pt.locs, Pt.cells, Pt.slots] at X156 l156 y156 z156 st156 hQ156
      subst l156 y156 z156
      obtain ⟨rfl, N156q, I156_0⟩ := hQ156
      have N156 := Fr.app N153 N156q
      have r156 : own_R p.tables e below F0 (T156.setTop (mkF m 58 #[.val (.int p0s), .val (.int p1s), .val (.int p2s), .val (.int p3s), .val (.int p4s), .val (.int nn), .val (.int z142), .val (.int z148), .val (.int z151), .val (.int z154), .unset, .unset, .unset, .unset, .unset] [(.int (own_part p4s z142))])) := fun tg_ kg_ => r155 tg_ (st156 tg_ kg_)
      obtain ⟨z157, hz157⟩ : ∃ z : Int32, z = (own_part p4s z142) := ⟨_, rfl⟩
      have r158 : own_R p.tables e below F0 (T156.setTop (mkF m 60 #[.val (.int p0s), .val (.int p1s), .val (.int p2s), .val (.int p3s), .val (.int p4s), .val (.int nn), .val (.int z142), .val (.int z148), .val (.int z151), .val (.int z154), .val (.int z157), .unset, .unset, .unset, .unset] [])) := fun tg_ kg_ => by
        refine r156 tg_ ?_
        show Steps p.tables e below (T156.setTop (mkF m 58 #[.val (.int p0s), .val (.int p1s), .val (.int p2s), .val (.int p3s), .val (.int p4s), .val (.int nn), .val (.int z142), .val (.int z148), .val (.int z151), .val (.int z154), .unset, .unset, .unset, .unset, .unset] [(.int (own_part p4s z142))])) _
        refine XS.istore X156.here hx rfl (hb hby at_58) (x := z157) (rest := []) (by subst hz157; rfl) (l' := #[.val (.int p0s), .val (.int p1s), .val (.int p2s), .val (.int p3s), .val (.int p4s), .val (.int nn), .val (.int z142), .val (.int z148), .val (.int z151), .val (.int z154), .val (.int z157), .unset, .unset, .unset, .unset]) rfl ?_
        exact kg_
      have q150_r := own_R32 p0s
      have q151_e : (3 : Int32).toInt = 3 := (by decide)
      have q151_r : (3 : Int) ≤ (3 : Int32).toInt ∧ (3 : Int32).toInt ≤ 3 := ⟨Int.le_of_eq q151_e.symm, Int.le_of_eq q151_e⟩
      have q152_r := own_R32 ((p0s.toUInt32 >>> ((3 : Int32) &&& 31).toUInt32).toInt32)
      have q153_ := own_iushr p0s (3 : Int32) 3 8 (by decide) (by decide) (by decide)
      have q154_e : (7 : Int32).toInt = 7 := (by decide)
      have q154_r : (7 : Int) ≤ (7 : Int32).toInt ∧ (7 : Int32).toInt ≤ 7 := ⟨Int.le_of_eq q154_e.symm, Int.le_of_eq q154_e⟩
      have q155_ := own_maskR ((p0s.toUInt32 >>> ((3 : Int32) &&& 31).toUInt32).toInt32) (7 : Int32) 3 8 (by decide) (by decide) (by decide) 7 (by decide) (by decide)
      have q155_e := q155_.1
      have q155_r := q155_.2
      have q156_e : (6 : Int32).toInt = 6 := (by decide)
      have q156_r : (6 : Int) ≤ (6 : Int32).toInt ∧ (6 : Int32).toInt ≤ 6 := ⟨Int.le_of_eq q156_e.symm, Int.le_of_eq q156_e⟩
      have q157_ := own_iremR 5 q155_r (show (6 : Int32).toInt = 6 from by decide) (by decide) (by decide) (by decide)
      have q157_e := q157_.1
      have q157_r := q157_.2
      have q158_ := own_eqR32 hz142 q157_r
      have q158_e := q158_.1
      have q158_r := q158_.2
      obtain ⟨kn, hk⟩ : ∃ A : Nat, z142.toInt = A := ⟨z142.toInt.toNat, by omega⟩
      have hk5 : kn ≤ 5 := by omega
      have hp7 : 0 ≤ z148.toInt ∧ (0 < kn → z148.toInt < kn) := by
        have q := own_partI p1s z142 (by omega)
        rw [← hz148] at q
        omega
      have hp8 : 0 ≤ z151.toInt ∧ (0 < kn → z151.toInt < kn) := by
        have q := own_partI p2s z142 (by omega)
        rw [← hz151] at q
        omega
      have hp9 : 0 ≤ z154.toInt ∧ (0 < kn → z154.toInt < kn) := by
        have q := own_partI p3s z142 (by omega)
        rw [← hz154] at q
        omega
      have hp10 : 0 ≤ z157.toInt ∧ (0 < kn → z157.toInt < kn) := by
        have q := own_partI p4s z142 (by omega)
        rw [← hz157] at q
        omega
      have hn5 : nn = 0 ∨ nn = 1 ∨ nn = 2 ∨ nn = 3 ∨ nn = 4 := by
        have h0 : (0 : Int32).toInt = 0 := rfl
        have h1 : (1 : Int32).toInt = 1 := rfl
        have h2 : (2 : Int32).toInt = 2 := rfl
        have h3 : (3 : Int32).toInt = 3 := rfl
        have h4 : (4 : Int32).toInt = 4 := rfl
        simp only [← Int32.toInt_inj, h0, h1, h2, h3, h4]
        omega
      have J159 : ∀ (n2 : Int32) (aA : Addr) (N : Nat) (ga : Nat → Int32) (T160 : State) (lo167 : List Loc) (h162 : Heap) (X161 : Stand p l e room_1 s m #[(.int p0s), (.int p1s), (.int p2s), (.int p3s), (.int p4s)] below meth c T160 lo167 1 4) (e163 : T160.heap = h162) (N164 : Fr n0 lo167) (Zs165 : n0 ≤ h162.size) (K166 : Keep h0 h162 []) (F168 : own_Arf Z h162 aA .int N (fun i => (.int (ga i)))) (hn2 : n2.toInt = N) (hN4 : N ≤ 4) (hkN : z142.toInt = 0 → N = 0) (hv : (0 < N → ga 0 = z148) ∧ (1 < N → ga 1 = z151) ∧ (2 < N → ga 2 = z154) ∧ (3 < N → ga 3 = z157)) (r169 : own_R p.tables e below F0 (T160.setTop (mkF m 113 #[.val (.int p0s), .val (.int p1s), .val (.int p2s), .val (.int p3s), .val (.int p4s), .val (.int n2), .val (.int z142), .val (.int z148), .val (.int z151), .val (.int z154), .val (.int z157), .val (.ref aA), .unset, .unset, .unset] []))), G := by
        intro n2 aA N ga T160 lo167 h162 X161 e163 N164 Zs165 K166 F168 hn2 hN4 hkN hv r169
        have r170 : own_R p.tables e below F0 (T160.setTop (mkF m 116 #[.val (.int p0s), .val (.int p1s), .val (.int p2s), .val (.int p3s), .val (.int p4s), .val (.int n2), .val (.int z142), .val (.int z148), .val (.int z151), .val (.int z154), .val (.int z157), .val (.ref aA), .val (.int (-1 : Int32)), .unset, .unset] [])) := fun tg_ kg_ => by
          refine r169 tg_ ?_
          show Steps p.tables e below (T160.setTop (mkF m 113 #[.val (.int p0s), .val (.int p1s), .val (.int p2s), .val (.int p3s), .val (.int p4s), .val (.int n2), .val (.int z142), .val (.int z148), .val (.int z151), .val (.int z154), .val (.int z157), .val (.ref aA), .unset, .unset, .unset] [])) _
          refine XS.iconst X161.here hx rfl (hb hby at_113) ?_
          show Steps p.tables e below (T160.setTop (mkF m 114 #[.val (.int p0s), .val (.int p1s), .val (.int p2s), .val (.int p3s), .val (.int p4s), .val (.int n2), .val (.int z142), .val (.int z148), .val (.int z151), .val (.int z154), .val (.int z157), .val (.ref aA), .unset, .unset, .unset] [(.int (-1 : Int32))])) _
          refine XS.istore X161.here hx rfl (hb hby at_114) rfl (l' := #[.val (.int p0s), .val (.int p1s), .val (.int p2s), .val (.int p3s), .val (.int p4s), .val (.int n2), .val (.int z142), .val (.int z148), .val (.int z151), .val (.int z154), .val (.int z157), .val (.ref aA), .val (.int (-1 : Int32)), .unset, .unset]) rfl ?_
          exact kg_
        have J171 : ∀ (ex : Int32) (T172 : State) (lo179 : List Loc) (h174 : Heap) (X173 : Stand p l e room_1 s m #[(.int p0s), (.int p1s), (.int p2s), (.int p3s), (.int p4s)] below meth c T172 lo179 1 4) (e175 : T172.heap = h174) (N176 : Fr n0 lo179) (Zs177 : n0 ≤ h174.size) (K178 : Keep h0 h174 []) (F180 : own_Arf Z h174 aA .int N (fun i => (.int (ga i)))) (hE : (ex.toInt = -1 ∧ ∀ p, p < 5 → p < kn → own_U ga N p) ∨ ∃ p : Nat, ex.toInt = p ∧ p < kn ∧ ¬ own_U ga N p ∧ ∀ p', p' < p → own_U ga N p') (r181 : own_R p.tables e below F0 (T172.setTop (mkF m 257 #[.val (.int p0s), .val (.int p1s), .val (.int p2s), .val (.int p3s), .val (.int p4s), .val (.int n2), .val (.int z142), .val (.int z148), .val (.int z151), .val (.int z154), .val (.int z157), .val (.ref aA), .val (.int ex), .unset, .unset] []))), G := by
          intro ex T172 lo179 h174 X173 e175 N176 Zs177 K178 F180 hE r181
          have r182 : own_R p.tables e below F0 (T172.setTop (mkF m 261 #[.val (.int p0s), .val (.int p1s), .val (.int p2s), .val (.int p3s), .val (.int p4s), .val (.int n2), .val (.int z142), .val (.int z148), .val (.int z151), .val (.int z154), .val (.int z157), .val (.ref aA), .val (.int ex), .unset, .unset] [(.int z142), (.ref aA)])) := fun tg_ kg_ => by
            refine r181 tg_ ?_
            show Steps p.tables e below (T172.setTop (mkF m 257 #[.val (.int p0s), .val (.int p1s), .val (.int p2s), .val (.int p3s), .val (.int p4s), .val (.int n2), .val (.int z142), .val (.int z148), .val (.int z151), .val (.int z154), .val (.int z157), .val (.ref aA), .val (.int ex), .unset, .unset] [])) _
            refine XS.aload X173.here hx rfl (hb hby at_257) rfl rfl ?_
            show Steps p.tables e below (T172.setTop (mkF m 259 #[.val (.int p0s), .val (.int p1s), .val (.int p2s), .val (.int p3s), .val (.int p4s), .val (.int n2), .val (.int z142), .val (.int z148), .val (.int z151), .val (.int z154), .val (.int z157), .val (.ref aA), .val (.int ex), .unset, .unset] [(.ref aA)])) _
            refine XS.iload X173.here hx rfl (hb hby at_259) rfl ?_
            exact kg_
          obtain ⟨_, _, ⟨T183, L183, k183, n183⟩, -, X183, ⟨Lc183, hQ183, l183, y183, z183⟩, st183⟩ := Jvm.LawKit.callS X173 hx (y := (⟨"org/fractile/core/Partition", "firstEmptyPart", "([II)I"⟩ : MethodName)) hown (mvT hZ (hw _ (List.mem_of_getElem? (i := 5) rfl))) (mvT hZ (hw _ (List.mem_of_getElem? (i := 6) rfl))) (mvT hZ (hw _ (List.mem_of_getElem? (i := 7) rfl))) (mvT hZ (hw _ (List.mem_of_getElem? (i := 8) rfl))) (by decide) (backOf (W := 0) (rm2 l Z a0 hw [] aA z142 (N) (ga) (kn) h174 n0 Zs177 F180 hk hk5 hN4 (fun j hj => by
                have hk0 : 0 < kn := by omega
                have z : j = 0 ∨ j = 1 ∨ j = 2 ∨ j = 3 := by omega
                rcases z with rfl | rfl | rfl | rfl
                · rw [hv.1 hj]; exact ⟨hp7.1, hp7.2 hk0⟩
                · rw [hv.2.1 hj]; exact ⟨hp8.1, hp8.2 hk0⟩
                · rw [hv.2.2.1 hj]; exact ⟨hp9.1, hp9.2 hk0⟩
                · rw [hv.2.2.2 hj]; exact ⟨hp10.1, hp10.2 hk0⟩)) hZ (hw _ (List.mem_of_getElem? (i := 8) rfl)) (hw _ (List.mem_of_getElem? (i := 7) rfl)) (by decide) (by decide)) (g := (mkF m 261 #[.val (.int p0s), .val (.int p1s), .val (.int p2s), .val (.int p3s), .val (.int p4s), .val (.int n2), .val (.int z142), .val (.int z148), .val (.int z151), .val (.int z154), .val (.int z157), .val (.ref aA), .val (.int ex), .unset, .unset] [(.int z142), (.ref aA)])) rfl (by rw [hml]; rfl) (argsL := [(.ref aA), (.int z142)]) (rest := []) (lenOf pd_1 rfl) rfl (by show 2 * 0 + _ ≤ _; exact Nat.le_of_eq rfl) (hb hby at_261) (fun _ _ => ⟨rfl, e175, (by decide : 1 + 1 ≤ _), (by decide : 4 + 5 ≤ _)⟩)
          dsimp only [Pt.U, Pt.locs, Pt.cells, Pt.slots] at X183 l183 y183 z183 st183 hQ183
          subst l183 y183 z183
          obtain ⟨r_183, rfl, N183q, I183_0, I183_1⟩ := hQ183
          have N183 := Fr.app N176 N183q
          obtain ⟨h183, e183⟩ : ∃ z, T183.heap = z := ⟨_, rfl⟩
          rw [e183] at I183_0
          have F184 : own_Arf Z h183 aA .int N (fun i => (.int (ga i))) := F180.keep I183_0 nin0
          have K185 : Keep h0 h183 [] := K178.trans I183_0 all0
          have Zs186 : n0 ≤ h183.size := Nat.le_trans Zs177 I183_0.1
          have r183 : own_R p.tables e below F0 (T183.setTop (mkF m 264 #[.val (.int p0s), .val (.int p1s), .val (.int p2s), .val (.int p3s), .val (.int p4s), .val (.int n2), .val (.int z142), .val (.int z148), .val (.int z151), .val (.int z154), .val (.int z157), .val (.ref aA), .val (.int ex), .unset, .unset] [(.int r_183)])) := fun tg_ kg_ => r182 tg_ (st183 tg_ kg_)
          have r187 : own_R p.tables e below F0 (T183.setTop (mkF m 271 #[.val (.int p0s), .val (.int p1s), .val (.int p2s), .val (.int p3s), .val (.int p4s), .val (.int n2), .val (.int z142), .val (.int z148), .val (.int z151), .val (.int z154), .val (.int z157), .val (.ref aA), .val (.int ex), .val (.int r_183), .val (.int (1 : Int32))] [(.int n2)])) := fun tg_ kg_ => by
            refine r183 tg_ ?_
            show Steps p.tables e below (T183.setTop (mkF m 264 #[.val (.int p0s), .val (.int p1s), .val (.int p2s), .val (.int p3s), .val (.int p4s), .val (.int n2), .val (.int z142), .val (.int z148), .val (.int z151), .val (.int z154), .val (.int z157), .val (.ref aA), .val (.int ex), .unset, .unset] [(.int r_183)])) _
            refine XS.istore X183.here hx rfl (hb hby at_264) rfl (l' := #[.val (.int p0s), .val (.int p1s), .val (.int p2s), .val (.int p3s), .val (.int p4s), .val (.int n2), .val (.int z142), .val (.int z148), .val (.int z151), .val (.int z154), .val (.int z157), .val (.ref aA), .val (.int ex), .val (.int r_183), .unset]) rfl ?_
            show Steps p.tables e below (T183.setTop (mkF m 266 #[.val (.int p0s), .val (.int p1s), .val (.int p2s), .val (.int p3s), .val (.int p4s), .val (.int n2), .val (.int z142), .val (.int z148), .val (.int z151), .val (.int z154), .val (.int z157), .val (.ref aA), .val (.int ex), .val (.int r_183), .unset] [])) _
            refine XS.iconst X183.here hx rfl (hb hby at_266) ?_
            show Steps p.tables e below (T183.setTop (mkF m 267 #[.val (.int p0s), .val (.int p1s), .val (.int p2s), .val (.int p3s), .val (.int p4s), .val (.int n2), .val (.int z142), .val (.int z148), .val (.int z151), .val (.int z154), .val (.int z157), .val (.ref aA), .val (.int ex), .val (.int r_183), .unset] [(.int (1 : Int32))])) _
            refine XS.istore X183.here hx rfl (hb hby at_267) rfl (l' := #[.val (.int p0s), .val (.int p1s), .val (.int p2s), .val (.int p3s), .val (.int p4s), .val (.int n2), .val (.int z142), .val (.int z148), .val (.int z151), .val (.int z154), .val (.int z157), .val (.ref aA), .val (.int ex), .val (.int r_183), .val (.int (1 : Int32))]) rfl ?_
            show Steps p.tables e below (T183.setTop (mkF m 269 #[.val (.int p0s), .val (.int p1s), .val (.int p2s), .val (.int p3s), .val (.int p4s), .val (.int n2), .val (.int z142), .val (.int z148), .val (.int z151), .val (.int z154), .val (.int z157), .val (.ref aA), .val (.int ex), .val (.int r_183), .val (.int (1 : Int32))] [])) _
            refine XS.iload X183.here hx rfl (hb hby at_269) rfl ?_
            exact kg_
          have J188 : ∀   (r189 : own_R p.tables e below F0 (T183.setTop (mkF m 286 #[.val (.int p0s), .val (.int p1s), .val (.int p2s), .val (.int p3s), .val (.int p4s), .val (.int n2), .val (.int z142), .val (.int z148), .val (.int z151), .val (.int z154), .val (.int z157), .val (.ref aA), .val (.int ex), .val (.int r_183), .val (.int (1 : Int32))] []))), G := by
            intro  r189
            have r190 : own_R p.tables e below F0 (T183.setTop (mkF m 289 #[.val (.int p0s), .val (.int p1s), .val (.int p2s), .val (.int p3s), .val (.int p4s), .val (.int n2), .val (.int z142), .val (.int z148), .val (.int z151), .val (.int z154), .val (.int z157), .val (.ref aA), .val (.int ex), .val (.int r_183), .val (.int (1 : Int32))] [(.int (1 : Int32)), (.int n2)])) := fun tg_ kg_ => by
              refine r189 tg_ ?_
              show Steps p.tables e below (T183.setTop (mkF m 286 #[.val (.int p0s), .val (.int p1s), .val (.int p2s), .val (.int p3s), .val (.int p4s), .val (.int n2), .val (.int z142), .val (.int z148), .val (.int z151), .val (.int z154), .val (.int z157), .val (.ref aA), .val (.int ex), .val (.int r_183), .val (.int (1 : Int32))] [])) _
              refine XS.iload X183.here hx rfl (hb hby at_286) rfl ?_
              show Steps p.tables e below (T183.setTop (mkF m 288 #[.val (.int p0s), .val (.int p1s), .val (.int p2s), .val (.int p3s), .val (.int p4s), .val (.int n2), .val (.int z142), .val (.int z148), .val (.int z151), .val (.int z154), .val (.int z157), .val (.ref aA), .val (.int ex), .val (.int r_183), .val (.int (1 : Int32))] [(.int n2)])) _
              refine XS.iconst X183.here hx rfl (hb hby at_288) ?_
              exact kg_
            have J191 : ∀   (r192 : own_R p.tables e below F0 (T183.setTop (mkF m 304 #[.val (.int p0s), .val (.int p1s), .val (.int p2s), .val (.int p3s), .val (.int p4s), .val (.int n2), .val (.int z142), .val (.int z148), .val (.int z151), .val (.int z154), .val (.int z157), .val (.ref aA), .val (.int ex), .val (.int r_183), .val (.int (1 : Int32))] []))), G := by
              intro  r192
              have r193 : own_R p.tables e below F0 (T183.setTop (mkF m 307 #[.val (.int p0s), .val (.int p1s), .val (.int p2s), .val (.int p3s), .val (.int p4s), .val (.int n2), .val (.int z142), .val (.int z148), .val (.int z151), .val (.int z154), .val (.int z157), .val (.ref aA), .val (.int ex), .val (.int r_183), .val (.int (1 : Int32))] [(.int (2 : Int32)), (.int n2)])) := fun tg_ kg_ => by
                refine r192 tg_ ?_
                show Steps p.tables e below (T183.setTop (mkF m 304 #[.val (.int p0s), .val (.int p1s), .val (.int p2s), .val (.int p3s), .val (.int p4s), .val (.int n2), .val (.int z142), .val (.int z148), .val (.int z151), .val (.int z154), .val (.int z157), .val (.ref aA), .val (.int ex), .val (.int r_183), .val (.int (1 : Int32))] [])) _
                refine XS.iload X183.here hx rfl (hb hby at_304) rfl ?_
                show Steps p.tables e below (T183.setTop (mkF m 306 #[.val (.int p0s), .val (.int p1s), .val (.int p2s), .val (.int p3s), .val (.int p4s), .val (.int n2), .val (.int z142), .val (.int z148), .val (.int z151), .val (.int z154), .val (.int z157), .val (.ref aA), .val (.int ex), .val (.int r_183), .val (.int (1 : Int32))] [(.int n2)])) _
                refine XS.iconst X183.here hx rfl (hb hby at_306) ?_
                exact kg_
              have J194 : ∀   (r195 : own_R p.tables e below F0 (T183.setTop (mkF m 322 #[.val (.int p0s), .val (.int p1s), .val (.int p2s), .val (.int p3s), .val (.int p4s), .val (.int n2), .val (.int z142), .val (.int z148), .val (.int z151), .val (.int z154), .val (.int z157), .val (.ref aA), .val (.int ex), .val (.int r_183), .val (.int (1 : Int32))] []))), G := by
                intro  r195
                have r196 : own_R p.tables e below F0 (T183.setTop (mkF m 325 #[.val (.int p0s), .val (.int p1s), .val (.int p2s), .val (.int p3s), .val (.int p4s), .val (.int n2), .val (.int z142), .val (.int z148), .val (.int z151), .val (.int z154), .val (.int z157), .val (.ref aA), .val (.int ex), .val (.int r_183), .val (.int (1 : Int32))] [(.int (3 : Int32)), (.int n2)])) := fun tg_ kg_ => by
                  refine r195 tg_ ?_
                  show Steps p.tables e below (T183.setTop (mkF m 322 #[.val (.int p0s), .val (.int p1s), .val (.int p2s), .val (.int p3s), .val (.int p4s), .val (.int n2), .val (.int z142), .val (.int z148), .val (.int z151), .val (.int z154), .val (.int z157), .val (.ref aA), .val (.int ex), .val (.int r_183), .val (.int (1 : Int32))] [])) _
                  refine XS.iload X183.here hx rfl (hb hby at_322) rfl ?_
                  show Steps p.tables e below (T183.setTop (mkF m 324 #[.val (.int p0s), .val (.int p1s), .val (.int p2s), .val (.int p3s), .val (.int p4s), .val (.int n2), .val (.int z142), .val (.int z148), .val (.int z151), .val (.int z154), .val (.int z157), .val (.ref aA), .val (.int ex), .val (.int r_183), .val (.int (1 : Int32))] [(.int n2)])) _
                  refine XS.iconst X183.here hx rfl (hb hby at_324) ?_
                  exact kg_
                have J197 : ∀   (r198 : own_R p.tables e below F0 (T183.setTop (mkF m 340 #[.val (.int p0s), .val (.int p1s), .val (.int p2s), .val (.int p3s), .val (.int p4s), .val (.int n2), .val (.int z142), .val (.int z148), .val (.int z151), .val (.int z154), .val (.int z157), .val (.ref aA), .val (.int ex), .val (.int r_183), .val (.int (1 : Int32))] []))), G := by
                  intro  r198
                  have r200 : own_R p.tables e below F0 (T183.setTop (mkF m 344 #[.val (.int p0s), .val (.int p1s), .val (.int p2s), .val (.int p3s), .val (.int p4s), .val (.int n2), .val (.int z142), .val (.int z148), .val (.int z151), .val (.int z154), .val (.int z157), .val (.ref aA), .val (.int ex), .val (.int r_183), .val (.int (1 : Int32))] [(.int ex), (.int r_183)])) := fun tg_ kg_ => by
                    refine r198 tg_ ?_
                    show Steps p.tables e below (T183.setTop (mkF m 340 #[.val (.int p0s), .val (.int p1s), .val (.int p2s), .val (.int p3s), .val (.int p4s), .val (.int n2), .val (.int z142), .val (.int z148), .val (.int z151), .val (.int z154), .val (.int z157), .val (.ref aA), .val (.int ex), .val (.int r_183), .val (.int (1 : Int32))] [])) _
                    refine XS.iload X183.here hx rfl (hb hby at_340) rfl ?_
                    show Steps p.tables e below (T183.setTop (mkF m 342 #[.val (.int p0s), .val (.int p1s), .val (.int p2s), .val (.int p3s), .val (.int p4s), .val (.int n2), .val (.int z142), .val (.int z148), .val (.int z151), .val (.int z154), .val (.int z157), .val (.ref aA), .val (.int ex), .val (.int r_183), .val (.int (1 : Int32))] [(.int r_183)])) _
                    refine XS.iload X183.here hx rfl (hb hby at_342) rfl ?_
                    exact kg_
                  have hc199 : r_183 = ex := own_end hk hk5 I183_1 hE
                  have r201 : own_R p.tables e below F0 (T183.setTop (mkF m 357 #[.val (.int p0s), .val (.int p1s), .val (.int p2s), .val (.int p3s), .val (.int p4s), .val (.int n2), .val (.int z142), .val (.int z148), .val (.int z151), .val (.int z154), .val (.int z157), .val (.ref aA), .val (.int ex), .val (.int r_183), .val (.int (1 : Int32))] [(.int (1 : Int32))])) := fun tg_ kg_ => by
                    refine r200 tg_ ?_
                    show Steps p.tables e below (T183.setTop (mkF m 344 #[.val (.int p0s), .val (.int p1s), .val (.int p2s), .val (.int p3s), .val (.int p4s), .val (.int n2), .val (.int z142), .val (.int z148), .val (.int z151), .val (.int z154), .val (.int z157), .val (.ref aA), .val (.int ex), .val (.int r_183), .val (.int (1 : Int32))] [(.int ex), (.int r_183)])) _
                    refine XS.icmpNo X183.here hx rfl (hb hby at_344) rfl (teq hc199).2 ?_
                    show Steps p.tables e below (T183.setTop (mkF m 347 #[.val (.int p0s), .val (.int p1s), .val (.int p2s), .val (.int p3s), .val (.int p4s), .val (.int n2), .val (.int z142), .val (.int z148), .val (.int z151), .val (.int z154), .val (.int z157), .val (.ref aA), .val (.int ex), .val (.int r_183), .val (.int (1 : Int32))] [])) _
                    refine XS.iload X183.here hx rfl (hb hby at_347) rfl ?_
                    show Steps p.tables e below (T183.setTop (mkF m 349 #[.val (.int p0s), .val (.int p1s), .val (.int p2s), .val (.int p3s), .val (.int p4s), .val (.int n2), .val (.int z142), .val (.int z148), .val (.int z151), .val (.int z154), .val (.int z157), .val (.ref aA), .val (.int ex), .val (.int r_183), .val (.int (1 : Int32))] [(.int (1 : Int32))])) _
                    refine XS.ifNo X183.here hx rfl (hb hby at_349) rfl ((if0 _ _).trans (feq (show ¬ ((1 : Int32) = (0 : Int32)) from by decide)).1) ?_
                    show Steps p.tables e below (T183.setTop (mkF m 352 #[.val (.int p0s), .val (.int p1s), .val (.int p2s), .val (.int p3s), .val (.int p4s), .val (.int n2), .val (.int z142), .val (.int z148), .val (.int z151), .val (.int z154), .val (.int z157), .val (.ref aA), .val (.int ex), .val (.int r_183), .val (.int (1 : Int32))] [])) _
                    refine XS.iconst X183.here hx rfl (hb hby at_352) ?_
                    show Steps p.tables e below (T183.setTop (mkF m 353 #[.val (.int p0s), .val (.int p1s), .val (.int p2s), .val (.int p3s), .val (.int p4s), .val (.int n2), .val (.int z142), .val (.int z148), .val (.int z151), .val (.int z154), .val (.int z157), .val (.ref aA), .val (.int ex), .val (.int r_183), .val (.int (1 : Int32))] [(.int (1 : Int32))])) _
                    refine XS.goto X183.here hx rfl (pc0 := 353) (pc' := 357) rfl (hb hby at_353) (by decide) (by decide) ?_
                    exact kg_
                  refine hG (own_fin X183 hlk (some (.int (nar .boolean (1 : Int32)))) (own_hv Bd.returns) ?_ (by decide) (by decide) (fun fs hr => r201 _ (retN X183 hx (t := .boolean) Bd.returns (by simp) (hb hby at_357) hr)))
                  rw [e183]
                  exact ⟨rfl, N183⟩
                by_cases hc202 : (3 : Int32) < n2
                · have r203 : own_R p.tables e below F0 (T183.setTop (mkF m 340 #[.val (.int p0s), .val (.int p1s), .val (.int p2s), .val (.int p3s), .val (.int p4s), .val (.int n2), .val (.int z142), .val (.int z148), .val (.int z151), .val (.int z154), .val (.int z157), .val (.ref aA), .val (.int ex), .val (.int r_183), .val (.int (1 : Int32))] [])) := fun tg_ kg_ => by
                    refine r196 tg_ ?_
                    show Steps p.tables e below (T183.setTop (mkF m 325 #[.val (.int p0s), .val (.int p1s), .val (.int p2s), .val (.int p3s), .val (.int p4s), .val (.int n2), .val (.int z142), .val (.int z148), .val (.int z151), .val (.int z154), .val (.int z157), .val (.ref aA), .val (.int ex), .val (.int r_183), .val (.int (1 : Int32))] [(.int (3 : Int32)), (.int n2)])) _
                    refine XS.icmpNo X183.here hx rfl (hb hby at_325) rfl (tlt hc202).2.2.2 ?_
                    show Steps p.tables e below (T183.setTop (mkF m 328 #[.val (.int p0s), .val (.int p1s), .val (.int p2s), .val (.int p3s), .val (.int p4s), .val (.int n2), .val (.int z142), .val (.int z148), .val (.int z151), .val (.int z154), .val (.int z157), .val (.ref aA), .val (.int ex), .val (.int r_183), .val (.int (1 : Int32))] [])) _
                    refine XS.aload X183.here hx rfl (hb hby at_328) rfl rfl ?_
                    show Steps p.tables e below (T183.setTop (mkF m 330 #[.val (.int p0s), .val (.int p1s), .val (.int p2s), .val (.int p3s), .val (.int p4s), .val (.int n2), .val (.int z142), .val (.int z148), .val (.int z151), .val (.int z154), .val (.int z157), .val (.ref aA), .val (.int ex), .val (.int r_183), .val (.int (1 : Int32))] [(.ref aA)])) _
                    refine XS.iconst X183.here hx rfl (hb hby at_330) ?_
                    show Steps p.tables e below (T183.setTop (mkF m 331 #[.val (.int p0s), .val (.int p1s), .val (.int p2s), .val (.int p3s), .val (.int p4s), .val (.int n2), .val (.int z142), .val (.int z148), .val (.int z151), .val (.int z154), .val (.int z157), .val (.ref aA), .val (.int ex), .val (.int r_183), .val (.int (1 : Int32))] [(.int (3 : Int32)), (.ref aA)])) _
                    refine own_iaload X183 hx hZ e183 (j := (3 : Int32)) F184 (by decide) (by have := own_lt32 hc202; rw [hn2] at this; exact this) (w := (.int z157)) (congrArg Value.int (hv.2.2.2 (by have := own_lt32 hc202; rw [hn2] at this; have t : (3 : Int) < N := this; omega))) (g := (mkF m 331 #[.val (.int p0s), .val (.int p1s), .val (.int p2s), .val (.int p3s), .val (.int p4s), .val (.int n2), .val (.int z142), .val (.int z148), .val (.int z151), .val (.int z154), .val (.int z157), .val (.ref aA), .val (.int ex), .val (.int r_183), .val (.int (1 : Int32))] [(.int (3 : Int32)), (.ref aA)])) rfl rfl (hb hby at_331) _ ?_
                    show Steps p.tables e below (T183.setTop (mkF m 332 #[.val (.int p0s), .val (.int p1s), .val (.int p2s), .val (.int p3s), .val (.int p4s), .val (.int n2), .val (.int z142), .val (.int z148), .val (.int z151), .val (.int z154), .val (.int z157), .val (.ref aA), .val (.int ex), .val (.int r_183), .val (.int (1 : Int32))] [(.int z157)])) _
                    refine XS.iload X183.here hx rfl (hb hby at_332) rfl ?_
                    show Steps p.tables e below (T183.setTop (mkF m 334 #[.val (.int p0s), .val (.int p1s), .val (.int p2s), .val (.int p3s), .val (.int p4s), .val (.int n2), .val (.int z142), .val (.int z148), .val (.int z151), .val (.int z154), .val (.int z157), .val (.ref aA), .val (.int ex), .val (.int r_183), .val (.int (1 : Int32))] [(.int z157), (.int z157)])) _
                    refine XS.icmpYes X183.here hx rfl (pc0 := 334) (pc' := 340) rfl (hb hby at_334) rfl (teq rfl).1 (by decide) (by decide) ?_
                    exact kg_
                  exact J197 r203
                · have r204 : own_R p.tables e below F0 (T183.setTop (mkF m 340 #[.val (.int p0s), .val (.int p1s), .val (.int p2s), .val (.int p3s), .val (.int p4s), .val (.int n2), .val (.int z142), .val (.int z148), .val (.int z151), .val (.int z154), .val (.int z157), .val (.ref aA), .val (.int ex), .val (.int r_183), .val (.int (1 : Int32))] [])) := fun tg_ kg_ => by
                    refine r196 tg_ ?_
                    show Steps p.tables e below (T183.setTop (mkF m 325 #[.val (.int p0s), .val (.int p1s), .val (.int p2s), .val (.int p3s), .val (.int p4s), .val (.int n2), .val (.int z142), .val (.int z148), .val (.int z151), .val (.int z154), .val (.int z157), .val (.ref aA), .val (.int ex), .val (.int r_183), .val (.int (1 : Int32))] [(.int (3 : Int32)), (.int n2)])) _
                    refine XS.icmpYes X183.here hx rfl (pc0 := 325) (pc' := 340) rfl (hb hby at_325) rfl (flt hc202).2.2.2 (by decide) (by decide) ?_
                    exact kg_
                  exact J197 r204
              by_cases hc205 : (2 : Int32) < n2
              · have r206 : own_R p.tables e below F0 (T183.setTop (mkF m 322 #[.val (.int p0s), .val (.int p1s), .val (.int p2s), .val (.int p3s), .val (.int p4s), .val (.int n2), .val (.int z142), .val (.int z148), .val (.int z151), .val (.int z154), .val (.int z157), .val (.ref aA), .val (.int ex), .val (.int r_183), .val (.int (1 : Int32))] [])) := fun tg_ kg_ => by
                  refine r193 tg_ ?_
                  show Steps p.tables e below (T183.setTop (mkF m 307 #[.val (.int p0s), .val (.int p1s), .val (.int p2s), .val (.int p3s), .val (.int p4s), .val (.int n2), .val (.int z142), .val (.int z148), .val (.int z151), .val (.int z154), .val (.int z157), .val (.ref aA), .val (.int ex), .val (.int r_183), .val (.int (1 : Int32))] [(.int (2 : Int32)), (.int n2)])) _
                  refine XS.icmpNo X183.here hx rfl (hb hby at_307) rfl (tlt hc205).2.2.2 ?_
                  show Steps p.tables e below (T183.setTop (mkF m 310 #[.val (.int p0s), .val (.int p1s), .val (.int p2s), .val (.int p3s), .val (.int p4s), .val (.int n2), .val (.int z142), .val (.int z148), .val (.int z151), .val (.int z154), .val (.int z157), .val (.ref aA), .val (.int ex), .val (.int r_183), .val (.int (1 : Int32))] [])) _
                  refine XS.aload X183.here hx rfl (hb hby at_310) rfl rfl ?_
                  show Steps p.tables e below (T183.setTop (mkF m 312 #[.val (.int p0s), .val (.int p1s), .val (.int p2s), .val (.int p3s), .val (.int p4s), .val (.int n2), .val (.int z142), .val (.int z148), .val (.int z151), .val (.int z154), .val (.int z157), .val (.ref aA), .val (.int ex), .val (.int r_183), .val (.int (1 : Int32))] [(.ref aA)])) _
                  refine XS.iconst X183.here hx rfl (hb hby at_312) ?_
                  show Steps p.tables e below (T183.setTop (mkF m 313 #[.val (.int p0s), .val (.int p1s), .val (.int p2s), .val (.int p3s), .val (.int p4s), .val (.int n2), .val (.int z142), .val (.int z148), .val (.int z151), .val (.int z154), .val (.int z157), .val (.ref aA), .val (.int ex), .val (.int r_183), .val (.int (1 : Int32))] [(.int (2 : Int32)), (.ref aA)])) _
                  refine own_iaload X183 hx hZ e183 (j := (2 : Int32)) F184 (by decide) (by have := own_lt32 hc205; rw [hn2] at this; exact this) (w := (.int z154)) (congrArg Value.int (hv.2.2.1 (by have := own_lt32 hc205; rw [hn2] at this; have t : (2 : Int) < N := this; omega))) (g := (mkF m 313 #[.val (.int p0s), .val (.int p1s), .val (.int p2s), .val (.int p3s), .val (.int p4s), .val (.int n2), .val (.int z142), .val (.int z148), .val (.int z151), .val (.int z154), .val (.int z157), .val (.ref aA), .val (.int ex), .val (.int r_183), .val (.int (1 : Int32))] [(.int (2 : Int32)), (.ref aA)])) rfl rfl (hb hby at_313) _ ?_
                  show Steps p.tables e below (T183.setTop (mkF m 314 #[.val (.int p0s), .val (.int p1s), .val (.int p2s), .val (.int p3s), .val (.int p4s), .val (.int n2), .val (.int z142), .val (.int z148), .val (.int z151), .val (.int z154), .val (.int z157), .val (.ref aA), .val (.int ex), .val (.int r_183), .val (.int (1 : Int32))] [(.int z154)])) _
                  refine XS.iload X183.here hx rfl (hb hby at_314) rfl ?_
                  show Steps p.tables e below (T183.setTop (mkF m 316 #[.val (.int p0s), .val (.int p1s), .val (.int p2s), .val (.int p3s), .val (.int p4s), .val (.int n2), .val (.int z142), .val (.int z148), .val (.int z151), .val (.int z154), .val (.int z157), .val (.ref aA), .val (.int ex), .val (.int r_183), .val (.int (1 : Int32))] [(.int z154), (.int z154)])) _
                  refine XS.icmpYes X183.here hx rfl (pc0 := 316) (pc' := 322) rfl (hb hby at_316) rfl (teq rfl).1 (by decide) (by decide) ?_
                  exact kg_
                exact J194 r206
              · have r207 : own_R p.tables e below F0 (T183.setTop (mkF m 322 #[.val (.int p0s), .val (.int p1s), .val (.int p2s), .val (.int p3s), .val (.int p4s), .val (.int n2), .val (.int z142), .val (.int z148), .val (.int z151), .val (.int z154), .val (.int z157), .val (.ref aA), .val (.int ex), .val (.int r_183), .val (.int (1 : Int32))] [])) := fun tg_ kg_ => by
                  refine r193 tg_ ?_
                  show Steps p.tables e below (T183.setTop (mkF m 307 #[.val (.int p0s), .val (.int p1s), .val (.int p2s), .val (.int p3s), .val (.int p4s), .val (.int n2), .val (.int z142), .val (.int z148), .val (.int z151), .val (.int z154), .val (.int z157), .val (.ref aA), .val (.int ex), .val (.int r_183), .val (.int (1 : Int32))] [(.int (2 : Int32)), (.int n2)])) _
                  refine XS.icmpYes X183.here hx rfl (pc0 := 307) (pc' := 322) rfl (hb hby at_307) rfl (flt hc205).2.2.2 (by decide) (by decide) ?_
                  exact kg_
                exact J194 r207
            by_cases hc208 : (1 : Int32) < n2
            · have r209 : own_R p.tables e below F0 (T183.setTop (mkF m 304 #[.val (.int p0s), .val (.int p1s), .val (.int p2s), .val (.int p3s), .val (.int p4s), .val (.int n2), .val (.int z142), .val (.int z148), .val (.int z151), .val (.int z154), .val (.int z157), .val (.ref aA), .val (.int ex), .val (.int r_183), .val (.int (1 : Int32))] [])) := fun tg_ kg_ => by
                refine r190 tg_ ?_
                show Steps p.tables e below (T183.setTop (mkF m 289 #[.val (.int p0s), .val (.int p1s), .val (.int p2s), .val (.int p3s), .val (.int p4s), .val (.int n2), .val (.int z142), .val (.int z148), .val (.int z151), .val (.int z154), .val (.int z157), .val (.ref aA), .val (.int ex), .val (.int r_183), .val (.int (1 : Int32))] [(.int (1 : Int32)), (.int n2)])) _
                refine XS.icmpNo X183.here hx rfl (hb hby at_289) rfl (tlt hc208).2.2.2 ?_
                show Steps p.tables e below (T183.setTop (mkF m 292 #[.val (.int p0s), .val (.int p1s), .val (.int p2s), .val (.int p3s), .val (.int p4s), .val (.int n2), .val (.int z142), .val (.int z148), .val (.int z151), .val (.int z154), .val (.int z157), .val (.ref aA), .val (.int ex), .val (.int r_183), .val (.int (1 : Int32))] [])) _
                refine XS.aload X183.here hx rfl (hb hby at_292) rfl rfl ?_
                show Steps p.tables e below (T183.setTop (mkF m 294 #[.val (.int p0s), .val (.int p1s), .val (.int p2s), .val (.int p3s), .val (.int p4s), .val (.int n2), .val (.int z142), .val (.int z148), .val (.int z151), .val (.int z154), .val (.int z157), .val (.ref aA), .val (.int ex), .val (.int r_183), .val (.int (1 : Int32))] [(.ref aA)])) _
                refine XS.iconst X183.here hx rfl (hb hby at_294) ?_
                show Steps p.tables e below (T183.setTop (mkF m 295 #[.val (.int p0s), .val (.int p1s), .val (.int p2s), .val (.int p3s), .val (.int p4s), .val (.int n2), .val (.int z142), .val (.int z148), .val (.int z151), .val (.int z154), .val (.int z157), .val (.ref aA), .val (.int ex), .val (.int r_183), .val (.int (1 : Int32))] [(.int (1 : Int32)), (.ref aA)])) _
                refine own_iaload X183 hx hZ e183 (j := (1 : Int32)) F184 (by decide) (by have := own_lt32 hc208; rw [hn2] at this; exact this) (w := (.int z151)) (congrArg Value.int (hv.2.1 (by have := own_lt32 hc208; rw [hn2] at this; have t : (1 : Int) < N := this; omega))) (g := (mkF m 295 #[.val (.int p0s), .val (.int p1s), .val (.int p2s), .val (.int p3s), .val (.int p4s), .val (.int n2), .val (.int z142), .val (.int z148), .val (.int z151), .val (.int z154), .val (.int z157), .val (.ref aA), .val (.int ex), .val (.int r_183), .val (.int (1 : Int32))] [(.int (1 : Int32)), (.ref aA)])) rfl rfl (hb hby at_295) _ ?_
                show Steps p.tables e below (T183.setTop (mkF m 296 #[.val (.int p0s), .val (.int p1s), .val (.int p2s), .val (.int p3s), .val (.int p4s), .val (.int n2), .val (.int z142), .val (.int z148), .val (.int z151), .val (.int z154), .val (.int z157), .val (.ref aA), .val (.int ex), .val (.int r_183), .val (.int (1 : Int32))] [(.int z151)])) _
                refine XS.iload X183.here hx rfl (hb hby at_296) rfl ?_
                show Steps p.tables e below (T183.setTop (mkF m 298 #[.val (.int p0s), .val (.int p1s), .val (.int p2s), .val (.int p3s), .val (.int p4s), .val (.int n2), .val (.int z142), .val (.int z148), .val (.int z151), .val (.int z154), .val (.int z157), .val (.ref aA), .val (.int ex), .val (.int r_183), .val (.int (1 : Int32))] [(.int z151), (.int z151)])) _
                refine XS.icmpYes X183.here hx rfl (pc0 := 298) (pc' := 304) rfl (hb hby at_298) rfl (teq rfl).1 (by decide) (by decide) ?_
                exact kg_
              exact J191 r209
            · have r210 : own_R p.tables e below F0 (T183.setTop (mkF m 304 #[.val (.int p0s), .val (.int p1s), .val (.int p2s), .val (.int p3s), .val (.int p4s), .val (.int n2), .val (.int z142), .val (.int z148), .val (.int z151), .val (.int z154), .val (.int z157), .val (.ref aA), .val (.int ex), .val (.int r_183), .val (.int (1 : Int32))] [])) := fun tg_ kg_ => by
                refine r190 tg_ ?_
                show Steps p.tables e below (T183.setTop (mkF m 289 #[.val (.int p0s), .val (.int p1s), .val (.int p2s), .val (.int p3s), .val (.int p4s), .val (.int n2), .val (.int z142), .val (.int z148), .val (.int z151), .val (.int z154), .val (.int z157), .val (.ref aA), .val (.int ex), .val (.int r_183), .val (.int (1 : Int32))] [(.int (1 : Int32)), (.int n2)])) _
                refine XS.icmpYes X183.here hx rfl (pc0 := 289) (pc' := 304) rfl (hb hby at_289) rfl (flt hc208).2.2.2 (by decide) (by decide) ?_
                exact kg_
              exact J191 r210
          by_cases hc211 : (0 : Int32) < n2
          · have r212 : own_R p.tables e below F0 (T183.setTop (mkF m 286 #[.val (.int p0s), .val (.int p1s), .val (.int p2s), .val (.int p3s), .val (.int p4s), .val (.int n2), .val (.int z142), .val (.int z148), .val (.int z151), .val (.int z154), .val (.int z157), .val (.ref aA), .val (.int ex), .val (.int r_183), .val (.int (1 : Int32))] [])) := fun tg_ kg_ => by
              refine r187 tg_ ?_
              show Steps p.tables e below (T183.setTop (mkF m 271 #[.val (.int p0s), .val (.int p1s), .val (.int p2s), .val (.int p3s), .val (.int p4s), .val (.int n2), .val (.int z142), .val (.int z148), .val (.int z151), .val (.int z154), .val (.int z157), .val (.ref aA), .val (.int ex), .val (.int r_183), .val (.int (1 : Int32))] [(.int n2)])) _
              refine XS.ifNo X183.here hx rfl (hb hby at_271) rfl ((if0 _ _).trans (tlt hc211).2.2.2) ?_
              show Steps p.tables e below (T183.setTop (mkF m 274 #[.val (.int p0s), .val (.int p1s), .val (.int p2s), .val (.int p3s), .val (.int p4s), .val (.int n2), .val (.int z142), .val (.int z148), .val (.int z151), .val (.int z154), .val (.int z157), .val (.ref aA), .val (.int ex), .val (.int r_183), .val (.int (1 : Int32))] [])) _
              refine XS.aload X183.here hx rfl (hb hby at_274) rfl rfl ?_
              show Steps p.tables e below (T183.setTop (mkF m 276 #[.val (.int p0s), .val (.int p1s), .val (.int p2s), .val (.int p3s), .val (.int p4s), .val (.int n2), .val (.int z142), .val (.int z148), .val (.int z151), .val (.int z154), .val (.int z157), .val (.ref aA), .val (.int ex), .val (.int r_183), .val (.int (1 : Int32))] [(.ref aA)])) _
              refine XS.iconst X183.here hx rfl (hb hby at_276) ?_
              show Steps p.tables e below (T183.setTop (mkF m 277 #[.val (.int p0s), .val (.int p1s), .val (.int p2s), .val (.int p3s), .val (.int p4s), .val (.int n2), .val (.int z142), .val (.int z148), .val (.int z151), .val (.int z154), .val (.int z157), .val (.ref aA), .val (.int ex), .val (.int r_183), .val (.int (1 : Int32))] [(.int (0 : Int32)), (.ref aA)])) _
              refine own_iaload X183 hx hZ e183 (j := (0 : Int32)) F184 (by decide) (by have := own_lt32 hc211; rw [hn2] at this; exact this) (w := (.int z148)) (congrArg Value.int (hv.1 (by have := own_lt32 hc211; rw [hn2] at this; have t : (0 : Int) < N := this; omega))) (g := (mkF m 277 #[.val (.int p0s), .val (.int p1s), .val (.int p2s), .val (.int p3s), .val (.int p4s), .val (.int n2), .val (.int z142), .val (.int z148), .val (.int z151), .val (.int z154), .val (.int z157), .val (.ref aA), .val (.int ex), .val (.int r_183), .val (.int (1 : Int32))] [(.int (0 : Int32)), (.ref aA)])) rfl rfl (hb hby at_277) _ ?_
              show Steps p.tables e below (T183.setTop (mkF m 278 #[.val (.int p0s), .val (.int p1s), .val (.int p2s), .val (.int p3s), .val (.int p4s), .val (.int n2), .val (.int z142), .val (.int z148), .val (.int z151), .val (.int z154), .val (.int z157), .val (.ref aA), .val (.int ex), .val (.int r_183), .val (.int (1 : Int32))] [(.int z148)])) _
              refine XS.iload X183.here hx rfl (hb hby at_278) rfl ?_
              show Steps p.tables e below (T183.setTop (mkF m 280 #[.val (.int p0s), .val (.int p1s), .val (.int p2s), .val (.int p3s), .val (.int p4s), .val (.int n2), .val (.int z142), .val (.int z148), .val (.int z151), .val (.int z154), .val (.int z157), .val (.ref aA), .val (.int ex), .val (.int r_183), .val (.int (1 : Int32))] [(.int z148), (.int z148)])) _
              refine XS.icmpYes X183.here hx rfl (pc0 := 280) (pc' := 286) rfl (hb hby at_280) rfl (teq rfl).1 (by decide) (by decide) ?_
              exact kg_
            exact J188 r212
          · have r213 : own_R p.tables e below F0 (T183.setTop (mkF m 286 #[.val (.int p0s), .val (.int p1s), .val (.int p2s), .val (.int p3s), .val (.int p4s), .val (.int n2), .val (.int z142), .val (.int z148), .val (.int z151), .val (.int z154), .val (.int z157), .val (.ref aA), .val (.int ex), .val (.int r_183), .val (.int (1 : Int32))] [])) := fun tg_ kg_ => by
              refine r187 tg_ ?_
              show Steps p.tables e below (T183.setTop (mkF m 271 #[.val (.int p0s), .val (.int p1s), .val (.int p2s), .val (.int p3s), .val (.int p4s), .val (.int n2), .val (.int z142), .val (.int z148), .val (.int z151), .val (.int z154), .val (.int z157), .val (.ref aA), .val (.int ex), .val (.int r_183), .val (.int (1 : Int32))] [(.int n2)])) _
              refine XS.ifYes X183.here hx rfl (pc0 := 271) (pc' := 286) rfl (hb hby at_271) rfl ((if0 _ _).trans (flt hc211).2.2.2) (by decide) (by decide) ?_
              exact kg_
            exact J188 r213
        have r214 : own_R p.tables e below F0 (T160.setTop (mkF m 118 #[.val (.int p0s), .val (.int p1s), .val (.int p2s), .val (.int p3s), .val (.int p4s), .val (.int n2), .val (.int z142), .val (.int z148), .val (.int z151), .val (.int z154), .val (.int z157), .val (.ref aA), .val (.int (-1 : Int32)), .unset, .unset] [(.int z142)])) := fun tg_ kg_ => by
          refine r170 tg_ ?_
          show Steps p.tables e below (T160.setTop (mkF m 116 #[.val (.int p0s), .val (.int p1s), .val (.int p2s), .val (.int p3s), .val (.int p4s), .val (.int n2), .val (.int z142), .val (.int z148), .val (.int z151), .val (.int z154), .val (.int z157), .val (.ref aA), .val (.int (-1 : Int32)), .unset, .unset] [])) _
          refine XS.iload X161.here hx rfl (hb hby at_116) rfl ?_
          exact kg_
        have J215 : ∀ (T216 : State) (lo223 : List Loc) (h218 : Heap) (X217 : Stand p l e room_1 s m #[(.int p0s), (.int p1s), (.int p2s), (.int p3s), (.int p4s)] below meth c T216 lo223 1 4) (e219 : T216.heap = h218) (N220 : Fr n0 lo223) (Zs221 : n0 ≤ h218.size) (K222 : Keep h0 h218 []) (F224 : own_Arf Z h218 aA .int N (fun i => (.int (ga i)))) (hl0 : (0 : Int32) < z142 → ¬ (own_used n2 z148 z151 z154 z157 (0 : Int32)) = (0 : Int32)) (r225 : own_R p.tables e below F0 (T216.setTop (mkF m 144 #[.val (.int p0s), .val (.int p1s), .val (.int p2s), .val (.int p3s), .val (.int p4s), .val (.int n2), .val (.int z142), .val (.int z148), .val (.int z151), .val (.int z154), .val (.int z157), .val (.ref aA), .val (.int (-1 : Int32)), .unset, .unset] []))), G := by
          intro T216 lo223 h218 X217 e219 N220 Zs221 K222 F224 hl0 r225
          have r226 : own_R p.tables e below F0 (T216.setTop (mkF m 147 #[.val (.int p0s), .val (.int p1s), .val (.int p2s), .val (.int p3s), .val (.int p4s), .val (.int n2), .val (.int z142), .val (.int z148), .val (.int z151), .val (.int z154), .val (.int z157), .val (.ref aA), .val (.int (-1 : Int32)), .unset, .unset] [(.int (1 : Int32)), (.int z142)])) := fun tg_ kg_ => by
            refine r225 tg_ ?_
            show Steps p.tables e below (T216.setTop (mkF m 144 #[.val (.int p0s), .val (.int p1s), .val (.int p2s), .val (.int p3s), .val (.int p4s), .val (.int n2), .val (.int z142), .val (.int z148), .val (.int z151), .val (.int z154), .val (.int z157), .val (.ref aA), .val (.int (-1 : Int32)), .unset, .unset] [])) _
            refine XS.iload X217.here hx rfl (hb hby at_144) rfl ?_
            show Steps p.tables e below (T216.setTop (mkF m 146 #[.val (.int p0s), .val (.int p1s), .val (.int p2s), .val (.int p3s), .val (.int p4s), .val (.int n2), .val (.int z142), .val (.int z148), .val (.int z151), .val (.int z154), .val (.int z157), .val (.ref aA), .val (.int (-1 : Int32)), .unset, .unset] [(.int z142)])) _
            refine XS.iconst X217.here hx rfl (hb hby at_146) ?_
            exact kg_
          have J227 : ∀ (T228 : State) (lo235 : List Loc) (h230 : Heap) (X229 : Stand p l e room_1 s m #[(.int p0s), (.int p1s), (.int p2s), (.int p3s), (.int p4s)] below meth c T228 lo235 1 4) (e231 : T228.heap = h230) (N232 : Fr n0 lo235) (Zs233 : n0 ≤ h230.size) (K234 : Keep h0 h230 []) (F236 : own_Arf Z h230 aA .int N (fun i => (.int (ga i)))) (hl1 : (1 : Int32) < z142 → ¬ (own_used n2 z148 z151 z154 z157 (1 : Int32)) = (0 : Int32)) (r237 : own_R p.tables e below F0 (T228.setTop (mkF m 173 #[.val (.int p0s), .val (.int p1s), .val (.int p2s), .val (.int p3s), .val (.int p4s), .val (.int n2), .val (.int z142), .val (.int z148), .val (.int z151), .val (.int z154), .val (.int z157), .val (.ref aA), .val (.int (-1 : Int32)), .unset, .unset] []))), G := by
            intro T228 lo235 h230 X229 e231 N232 Zs233 K234 F236 hl1 r237
            have r238 : own_R p.tables e below F0 (T228.setTop (mkF m 176 #[.val (.int p0s), .val (.int p1s), .val (.int p2s), .val (.int p3s), .val (.int p4s), .val (.int n2), .val (.int z142), .val (.int z148), .val (.int z151), .val (.int z154), .val (.int z157), .val (.ref aA), .val (.int (-1 : Int32)), .unset, .unset] [(.int (2 : Int32)), (.int z142)])) := fun tg_ kg_ => by
              refine r237 tg_ ?_
              show Steps p.tables e below (T228.setTop (mkF m 173 #[.val (.int p0s), .val (.int p1s), .val (.int p2s), .val (.int p3s), .val (.int p4s), .val (.int n2), .val (.int z142), .val (.int z148), .val (.int z151), .val (.int z154), .val (.int z157), .val (.ref aA), .val (.int (-1 : Int32)), .unset, .unset] [])) _
              refine XS.iload X229.here hx rfl (hb hby at_173) rfl ?_
              show Steps p.tables e below (T228.setTop (mkF m 175 #[.val (.int p0s), .val (.int p1s), .val (.int p2s), .val (.int p3s), .val (.int p4s), .val (.int n2), .val (.int z142), .val (.int z148), .val (.int z151), .val (.int z154), .val (.int z157), .val (.ref aA), .val (.int (-1 : Int32)), .unset, .unset] [(.int z142)])) _
              refine XS.iconst X229.here hx rfl (hb hby at_175) ?_
              exact kg_
            have J239 : ∀ (T240 : State) (lo247 : List Loc) (h242 : Heap) (X241 : Stand p l e room_1 s m #[(.int p0s), (.int p1s), (.int p2s), (.int p3s), (.int p4s)] below meth c T240 lo247 1 4) (e243 : T240.heap = h242) (N244 : Fr n0 lo247) (Zs245 : n0 ≤ h242.size) (K246 : Keep h0 h242 []) (F248 : own_Arf Z h242 aA .int N (fun i => (.int (ga i)))) (hl2 : (2 : Int32) < z142 → ¬ (own_used n2 z148 z151 z154 z157 (2 : Int32)) = (0 : Int32)) (r249 : own_R p.tables e below F0 (T240.setTop (mkF m 202 #[.val (.int p0s), .val (.int p1s), .val (.int p2s), .val (.int p3s), .val (.int p4s), .val (.int n2), .val (.int z142), .val (.int z148), .val (.int z151), .val (.int z154), .val (.int z157), .val (.ref aA), .val (.int (-1 : Int32)), .unset, .unset] []))), G := by
              intro T240 lo247 h242 X241 e243 N244 Zs245 K246 F248 hl2 r249
              have r250 : own_R p.tables e below F0 (T240.setTop (mkF m 205 #[.val (.int p0s), .val (.int p1s), .val (.int p2s), .val (.int p3s), .val (.int p4s), .val (.int n2), .val (.int z142), .val (.int z148), .val (.int z151), .val (.int z154), .val (.int z157), .val (.ref aA), .val (.int (-1 : Int32)), .unset, .unset] [(.int (3 : Int32)), (.int z142)])) := fun tg_ kg_ => by
                refine r249 tg_ ?_
                show Steps p.tables e below (T240.setTop (mkF m 202 #[.val (.int p0s), .val (.int p1s), .val (.int p2s), .val (.int p3s), .val (.int p4s), .val (.int n2), .val (.int z142), .val (.int z148), .val (.int z151), .val (.int z154), .val (.int z157), .val (.ref aA), .val (.int (-1 : Int32)), .unset, .unset] [])) _
                refine XS.iload X241.here hx rfl (hb hby at_202) rfl ?_
                show Steps p.tables e below (T240.setTop (mkF m 204 #[.val (.int p0s), .val (.int p1s), .val (.int p2s), .val (.int p3s), .val (.int p4s), .val (.int n2), .val (.int z142), .val (.int z148), .val (.int z151), .val (.int z154), .val (.int z157), .val (.ref aA), .val (.int (-1 : Int32)), .unset, .unset] [(.int z142)])) _
                refine XS.iconst X241.here hx rfl (hb hby at_204) ?_
                exact kg_
              have J251 : ∀ (T252 : State) (lo259 : List Loc) (h254 : Heap) (X253 : Stand p l e room_1 s m #[(.int p0s), (.int p1s), (.int p2s), (.int p3s), (.int p4s)] below meth c T252 lo259 1 4) (e255 : T252.heap = h254) (N256 : Fr n0 lo259) (Zs257 : n0 ≤ h254.size) (K258 : Keep h0 h254 []) (F260 : own_Arf Z h254 aA .int N (fun i => (.int (ga i)))) (hl3 : (3 : Int32) < z142 → ¬ (own_used n2 z148 z151 z154 z157 (3 : Int32)) = (0 : Int32)) (r261 : own_R p.tables e below F0 (T252.setTop (mkF m 231 #[.val (.int p0s), .val (.int p1s), .val (.int p2s), .val (.int p3s), .val (.int p4s), .val (.int n2), .val (.int z142), .val (.int z148), .val (.int z151), .val (.int z154), .val (.int z157), .val (.ref aA), .val (.int (-1 : Int32)), .unset, .unset] []))), G := by
                intro T252 lo259 h254 X253 e255 N256 Zs257 K258 F260 hl3 r261
                have r262 : own_R p.tables e below F0 (T252.setTop (mkF m 234 #[.val (.int p0s), .val (.int p1s), .val (.int p2s), .val (.int p3s), .val (.int p4s), .val (.int n2), .val (.int z142), .val (.int z148), .val (.int z151), .val (.int z154), .val (.int z157), .val (.ref aA), .val (.int (-1 : Int32)), .unset, .unset] [(.int (4 : Int32)), (.int z142)])) := fun tg_ kg_ => by
                  refine r261 tg_ ?_
                  show Steps p.tables e below (T252.setTop (mkF m 231 #[.val (.int p0s), .val (.int p1s), .val (.int p2s), .val (.int p3s), .val (.int p4s), .val (.int n2), .val (.int z142), .val (.int z148), .val (.int z151), .val (.int z154), .val (.int z157), .val (.ref aA), .val (.int (-1 : Int32)), .unset, .unset] [])) _
                  refine XS.iload X253.here hx rfl (hb hby at_231) rfl ?_
                  show Steps p.tables e below (T252.setTop (mkF m 233 #[.val (.int p0s), .val (.int p1s), .val (.int p2s), .val (.int p3s), .val (.int p4s), .val (.int n2), .val (.int z142), .val (.int z148), .val (.int z151), .val (.int z154), .val (.int z157), .val (.ref aA), .val (.int (-1 : Int32)), .unset, .unset] [(.int z142)])) _
                  refine XS.iconst X253.here hx rfl (hb hby at_233) ?_
                  exact kg_
                by_cases hc263 : (4 : Int32) < z142
                · have r264 : own_R p.tables e below F0 (T252.setTop (mkF m 248 #[.val (.int p0s), .val (.int p1s), .val (.int p2s), .val (.int p3s), .val (.int p4s), .val (.int n2), .val (.int z142), .val (.int z148), .val (.int z151), .val (.int z154), .val (.int z157), .val (.ref aA), .val (.int (-1 : Int32)), .unset, .unset] [(.int (4 : Int32)), (.int z157), (.int z154), (.int z151), (.int z148), (.int n2)])) := fun tg_ kg_ => by
                    refine r262 tg_ ?_
                    show Steps p.tables e below (T252.setTop (mkF m 234 #[.val (.int p0s), .val (.int p1s), .val (.int p2s), .val (.int p3s), .val (.int p4s), .val (.int n2), .val (.int z142), .val (.int z148), .val (.int z151), .val (.int z154), .val (.int z157), .val (.ref aA), .val (.int (-1 : Int32)), .unset, .unset] [(.int (4 : Int32)), (.int z142)])) _
                    refine XS.icmpNo X253.here hx rfl (hb hby at_234) rfl (tlt hc263).2.2.2 ?_
                    show Steps p.tables e below (T252.setTop (mkF m 237 #[.val (.int p0s), .val (.int p1s), .val (.int p2s), .val (.int p3s), .val (.int p4s), .val (.int n2), .val (.int z142), .val (.int z148), .val (.int z151), .val (.int z154), .val (.int z157), .val (.ref aA), .val (.int (-1 : Int32)), .unset, .unset] [])) _
                    refine XS.iload X253.here hx rfl (hb hby at_237) rfl ?_
                    show Steps p.tables e below (T252.setTop (mkF m 239 #[.val (.int p0s), .val (.int p1s), .val (.int p2s), .val (.int p3s), .val (.int p4s), .val (.int n2), .val (.int z142), .val (.int z148), .val (.int z151), .val (.int z154), .val (.int z157), .val (.ref aA), .val (.int (-1 : Int32)), .unset, .unset] [(.int n2)])) _
                    refine XS.iload X253.here hx rfl (hb hby at_239) rfl ?_
                    show Steps p.tables e below (T252.setTop (mkF m 241 #[.val (.int p0s), .val (.int p1s), .val (.int p2s), .val (.int p3s), .val (.int p4s), .val (.int n2), .val (.int z142), .val (.int z148), .val (.int z151), .val (.int z154), .val (.int z157), .val (.ref aA), .val (.int (-1 : Int32)), .unset, .unset] [(.int z148), (.int n2)])) _
                    refine XS.iload X253.here hx rfl (hb hby at_241) rfl ?_
                    show Steps p.tables e below (T252.setTop (mkF m 243 #[.val (.int p0s), .val (.int p1s), .val (.int p2s), .val (.int p3s), .val (.int p4s), .val (.int n2), .val (.int z142), .val (.int z148), .val (.int z151), .val (.int z154), .val (.int z157), .val (.ref aA), .val (.int (-1 : Int32)), .unset, .unset] [(.int z151), (.int z148), (.int n2)])) _
                    refine XS.iload X253.here hx rfl (hb hby at_243) rfl ?_
                    show Steps p.tables e below (T252.setTop (mkF m 245 #[.val (.int p0s), .val (.int p1s), .val (.int p2s), .val (.int p3s), .val (.int p4s), .val (.int n2), .val (.int z142), .val (.int z148), .val (.int z151), .val (.int z154), .val (.int z157), .val (.ref aA), .val (.int (-1 : Int32)), .unset, .unset] [(.int z154), (.int z151), (.int z148), (.int n2)])) _
                    refine XS.iload X253.here hx rfl (hb hby at_245) rfl ?_
                    show Steps p.tables e below (T252.setTop (mkF m 247 #[.val (.int p0s), .val (.int p1s), .val (.int p2s), .val (.int p3s), .val (.int p4s), .val (.int n2), .val (.int z142), .val (.int z148), .val (.int z151), .val (.int z154), .val (.int z157), .val (.ref aA), .val (.int (-1 : Int32)), .unset, .unset] [(.int z157), (.int z154), (.int z151), (.int z148), (.int n2)])) _
                    refine XS.iconst X253.here hx rfl (hb hby at_247) ?_
                    exact kg_
                  obtain ⟨_, _, ⟨T265, L265, k265, n265⟩, -, X265, ⟨Lc265, hQ265, l265, y265, z265⟩, st265⟩ := Jvm.LawKit.callS X253 hx (y := (⟨"org/fractile/core/PartitionFirstEmptyPartPinLaw", "used", "(IIIIII)Z"⟩ : MethodName)) hown (mvT hZ (hw _ (List.mem_of_getElem? (i := 11) rfl))) (mvT hZ (hw _ (List.mem_of_getElem? (i := 12) rfl))) (mvT hZ (hw _ (List.mem_of_getElem? (i := 2) rfl))) (mvT hZ (hw _ (List.mem_of_getElem? (i := 13) rfl))) (by decide) (backOf (W := 0) (rm3 l Z a0 hw [] n2 z148 z151 z154 z157 (4 : Int32) h254 n0 Zs257 ) hZ (hw _ (List.mem_of_getElem? (i := 13) rfl)) (hw _ (List.mem_of_getElem? (i := 2) rfl)) (by decide) (by decide)) (g := (mkF m 248 #[.val (.int p0s), .val (.int p1s), .val (.int p2s), .val (.int p3s), .val (.int p4s), .val (.int n2), .val (.int z142), .val (.int z148), .val (.int z151), .val (.int z154), .val (.int z157), .val (.ref aA), .val (.int (-1 : Int32)), .unset, .unset] [(.int (4 : Int32)), (.int z157), (.int z154), (.int z151), (.int z148), (.int n2)])) rfl (by rw [hml]; rfl) (argsL := [(.int n2), (.int z148), (.int z151), (.int z154), (.int z157), (.int (4 : Int32))]) (rest := []) (lenOf pd_2 rfl) rfl (by show 2 * 0 + _ ≤ _; exact Nat.le_of_eq rfl) (hb hby at_248) (fun _ _ => ⟨rfl, e255, (by decide : 1 + 0 ≤ _), (by decide : 4 + 0 ≤ _)⟩)
                  dsimp only [Pt.U, Pt.locs, Pt.cells, Pt.slots] at X265 l265 y265 z265 st265 hQ265
                  subst l265 y265 z265
                  obtain ⟨rfl, N265q, I265_0⟩ := hQ265
                  have N265 := Fr.app N256 N265q
                  have r265 : own_R p.tables e below F0 (T265.setTop (mkF m 251 #[.val (.int p0s), .val (.int p1s), .val (.int p2s), .val (.int p3s), .val (.int p4s), .val (.int n2), .val (.int z142), .val (.int z148), .val (.int z151), .val (.int z154), .val (.int z157), .val (.ref aA), .val (.int (-1 : Int32)), .unset, .unset] [(.int (own_used n2 z148 z151 z154 z157 (4 : Int32)))])) := fun tg_ kg_ => r264 tg_ (st265 tg_ kg_)
                  by_cases hc266 : (own_used n2 z148 z151 z154 z157 (4 : Int32)) = (0 : Int32)
                  · have r267 : own_R p.tables e below F0 (T265.setTop (mkF m 257 #[.val (.int p0s), .val (.int p1s), .val (.int p2s), .val (.int p3s), .val (.int p4s), .val (.int n2), .val (.int z142), .val (.int z148), .val (.int z151), .val (.int z154), .val (.int z157), .val (.ref aA), .val (.int (4 : Int32)), .unset, .unset] [])) := fun tg_ kg_ => by
                      refine r265 tg_ ?_
                      show Steps p.tables e below (T265.setTop (mkF m 251 #[.val (.int p0s), .val (.int p1s), .val (.int p2s), .val (.int p3s), .val (.int p4s), .val (.int n2), .val (.int z142), .val (.int z148), .val (.int z151), .val (.int z154), .val (.int z157), .val (.ref aA), .val (.int (-1 : Int32)), .unset, .unset] [(.int (own_used n2 z148 z151 z154 z157 (4 : Int32)))])) _
                      refine XS.ifNo X265.here hx rfl (hb hby at_251) rfl ((if0 _ _).trans (teq hc266).2) ?_
                      show Steps p.tables e below (T265.setTop (mkF m 254 #[.val (.int p0s), .val (.int p1s), .val (.int p2s), .val (.int p3s), .val (.int p4s), .val (.int n2), .val (.int z142), .val (.int z148), .val (.int z151), .val (.int z154), .val (.int z157), .val (.ref aA), .val (.int (-1 : Int32)), .unset, .unset] [])) _
                      refine XS.iconst X265.here hx rfl (hb hby at_254) ?_
                      show Steps p.tables e below (T265.setTop (mkF m 255 #[.val (.int p0s), .val (.int p1s), .val (.int p2s), .val (.int p3s), .val (.int p4s), .val (.int n2), .val (.int z142), .val (.int z148), .val (.int z151), .val (.int z154), .val (.int z157), .val (.ref aA), .val (.int (-1 : Int32)), .unset, .unset] [(.int (4 : Int32))])) _
                      refine XS.istore X265.here hx rfl (hb hby at_255) rfl (l' := #[.val (.int p0s), .val (.int p1s), .val (.int p2s), .val (.int p3s), .val (.int p4s), .val (.int n2), .val (.int z142), .val (.int z148), .val (.int z151), .val (.int z154), .val (.int z157), .val (.ref aA), .val (.int (4 : Int32)), .unset, .unset]) rfl ?_
                      exact kg_
                    exact J171 (4 : Int32) T265 _ _ X265 I265_0 N265 Zs257 K258 F260 (by
                            have hlt := own_lt32 hc263
                            rw [hk] at hlt
                            have hlt2 : (4 : Int) < kn := hlt
                            refine Or.inr ⟨4, by decide, by omega, (own_usedI n2 z148 z151 z154 z157 (4 : Int32) ga N 4 hn2 hN4 (by decide) hv).mp hc266, fun p hp => ?_⟩
                            have z : p = 0 ∨ p = 1 ∨ p = 2 ∨ p = 3 := by omega
                            rcases z with rfl | rfl | rfl | rfl
                            · exact Classical.byContradiction fun y => hl0 (Int32.lt_iff_toInt_lt.mpr (show (0 : Int32).toInt < z142.toInt by rw [hk]; show (0 : Int) < _; omega)) ((own_usedI n2 z148 z151 z154 z157 (0 : Int32) ga N 0 hn2 hN4 (by decide) hv).mpr y)
                            · exact Classical.byContradiction fun y => hl1 (Int32.lt_iff_toInt_lt.mpr (show (1 : Int32).toInt < z142.toInt by rw [hk]; show (1 : Int) < _; omega)) ((own_usedI n2 z148 z151 z154 z157 (1 : Int32) ga N 1 hn2 hN4 (by decide) hv).mpr y)
                            · exact Classical.byContradiction fun y => hl2 (Int32.lt_iff_toInt_lt.mpr (show (2 : Int32).toInt < z142.toInt by rw [hk]; show (2 : Int) < _; omega)) ((own_usedI n2 z148 z151 z154 z157 (2 : Int32) ga N 2 hn2 hN4 (by decide) hv).mpr y)
                            · exact Classical.byContradiction fun y => hl3 (Int32.lt_iff_toInt_lt.mpr (show (3 : Int32).toInt < z142.toInt by rw [hk]; show (3 : Int) < _; omega)) ((own_usedI n2 z148 z151 z154 z157 (3 : Int32) ga N 3 hn2 hN4 (by decide) hv).mpr y)) r267
                  · have r268 : own_R p.tables e below F0 (T265.setTop (mkF m 257 #[.val (.int p0s), .val (.int p1s), .val (.int p2s), .val (.int p3s), .val (.int p4s), .val (.int n2), .val (.int z142), .val (.int z148), .val (.int z151), .val (.int z154), .val (.int z157), .val (.ref aA), .val (.int (-1 : Int32)), .unset, .unset] [])) := fun tg_ kg_ => by
                      refine r265 tg_ ?_
                      show Steps p.tables e below (T265.setTop (mkF m 251 #[.val (.int p0s), .val (.int p1s), .val (.int p2s), .val (.int p3s), .val (.int p4s), .val (.int n2), .val (.int z142), .val (.int z148), .val (.int z151), .val (.int z154), .val (.int z157), .val (.ref aA), .val (.int (-1 : Int32)), .unset, .unset] [(.int (own_used n2 z148 z151 z154 z157 (4 : Int32)))])) _
                      refine XS.ifYes X265.here hx rfl (pc0 := 251) (pc' := 257) rfl (hb hby at_251) rfl ((if0 _ _).trans (feq hc266).2) (by decide) (by decide) ?_
                      exact kg_
                    exact J171 (-1 : Int32) T265 _ _ X265 I265_0 N265 Zs257 K258 F260 (by
                            refine Or.inl ⟨by decide, fun p h5 hp => ?_⟩
                            have z : p = 0 ∨ p = 1 ∨ p = 2 ∨ p = 3 ∨ p = 4 := by omega
                            rcases z with rfl | rfl | rfl | rfl | rfl
                            · exact Classical.byContradiction fun y => hl0 (Int32.lt_iff_toInt_lt.mpr (show (0 : Int32).toInt < z142.toInt by rw [hk]; show (0 : Int) < _; omega)) ((own_usedI n2 z148 z151 z154 z157 (0 : Int32) ga N 0 hn2 hN4 (by decide) hv).mpr y)
                            · exact Classical.byContradiction fun y => hl1 (Int32.lt_iff_toInt_lt.mpr (show (1 : Int32).toInt < z142.toInt by rw [hk]; show (1 : Int) < _; omega)) ((own_usedI n2 z148 z151 z154 z157 (1 : Int32) ga N 1 hn2 hN4 (by decide) hv).mpr y)
                            · exact Classical.byContradiction fun y => hl2 (Int32.lt_iff_toInt_lt.mpr (show (2 : Int32).toInt < z142.toInt by rw [hk]; show (2 : Int) < _; omega)) ((own_usedI n2 z148 z151 z154 z157 (2 : Int32) ga N 2 hn2 hN4 (by decide) hv).mpr y)
                            · exact Classical.byContradiction fun y => hl3 (Int32.lt_iff_toInt_lt.mpr (show (3 : Int32).toInt < z142.toInt by rw [hk]; show (3 : Int) < _; omega)) ((own_usedI n2 z148 z151 z154 z157 (3 : Int32) ga N 3 hn2 hN4 (by decide) hv).mpr y)
                            · exact Classical.byContradiction fun y => (show (4 : Int32) < z142 → ¬ (own_used n2 z148 z151 z154 z157 (4 : Int32)) = (0 : Int32) from fun _ => hc266) (Int32.lt_iff_toInt_lt.mpr (show (4 : Int32).toInt < z142.toInt by rw [hk]; show (4 : Int) < _; omega)) ((own_usedI n2 z148 z151 z154 z157 (4 : Int32) ga N 4 hn2 hN4 (by decide) hv).mpr y)) r268
                · have r269 : own_R p.tables e below F0 (T252.setTop (mkF m 257 #[.val (.int p0s), .val (.int p1s), .val (.int p2s), .val (.int p3s), .val (.int p4s), .val (.int n2), .val (.int z142), .val (.int z148), .val (.int z151), .val (.int z154), .val (.int z157), .val (.ref aA), .val (.int (-1 : Int32)), .unset, .unset] [])) := fun tg_ kg_ => by
                    refine r262 tg_ ?_
                    show Steps p.tables e below (T252.setTop (mkF m 234 #[.val (.int p0s), .val (.int p1s), .val (.int p2s), .val (.int p3s), .val (.int p4s), .val (.int n2), .val (.int z142), .val (.int z148), .val (.int z151), .val (.int z154), .val (.int z157), .val (.ref aA), .val (.int (-1 : Int32)), .unset, .unset] [(.int (4 : Int32)), (.int z142)])) _
                    refine XS.icmpYes X253.here hx rfl (pc0 := 234) (pc' := 257) rfl (hb hby at_234) rfl (flt hc263).2.2.2 (by decide) (by decide) ?_
                    exact kg_
                  exact J171 (-1 : Int32) T252 _ _ X253 e255 N256 Zs257 K258 F260 (by
                          refine Or.inl ⟨by decide, fun p h5 hp => ?_⟩
                          have z : p = 0 ∨ p = 1 ∨ p = 2 ∨ p = 3 ∨ p = 4 := by omega
                          rcases z with rfl | rfl | rfl | rfl | rfl
                          · exact Classical.byContradiction fun y => hl0 (Int32.lt_iff_toInt_lt.mpr (show (0 : Int32).toInt < z142.toInt by rw [hk]; show (0 : Int) < _; omega)) ((own_usedI n2 z148 z151 z154 z157 (0 : Int32) ga N 0 hn2 hN4 (by decide) hv).mpr y)
                          · exact Classical.byContradiction fun y => hl1 (Int32.lt_iff_toInt_lt.mpr (show (1 : Int32).toInt < z142.toInt by rw [hk]; show (1 : Int) < _; omega)) ((own_usedI n2 z148 z151 z154 z157 (1 : Int32) ga N 1 hn2 hN4 (by decide) hv).mpr y)
                          · exact Classical.byContradiction fun y => hl2 (Int32.lt_iff_toInt_lt.mpr (show (2 : Int32).toInt < z142.toInt by rw [hk]; show (2 : Int) < _; omega)) ((own_usedI n2 z148 z151 z154 z157 (2 : Int32) ga N 2 hn2 hN4 (by decide) hv).mpr y)
                          · exact Classical.byContradiction fun y => hl3 (Int32.lt_iff_toInt_lt.mpr (show (3 : Int32).toInt < z142.toInt by rw [hk]; show (3 : Int) < _; omega)) ((own_usedI n2 z148 z151 z154 z157 (3 : Int32) ga N 3 hn2 hN4 (by decide) hv).mpr y)
                          · exact Classical.byContradiction fun y => (show (4 : Int32) < z142 → ¬ (own_used n2 z148 z151 z154 z157 (4 : Int32)) = (0 : Int32) from fun q => absurd q hc263) (Int32.lt_iff_toInt_lt.mpr (show (4 : Int32).toInt < z142.toInt by rw [hk]; show (4 : Int) < _; omega)) ((own_usedI n2 z148 z151 z154 z157 (4 : Int32) ga N 4 hn2 hN4 (by decide) hv).mpr y)) r269
              by_cases hc270 : (3 : Int32) < z142
              · have r271 : own_R p.tables e below F0 (T240.setTop (mkF m 219 #[.val (.int p0s), .val (.int p1s), .val (.int p2s), .val (.int p3s), .val (.int p4s), .val (.int n2), .val (.int z142), .val (.int z148), .val (.int z151), .val (.int z154), .val (.int z157), .val (.ref aA), .val (.int (-1 : Int32)), .unset, .unset] [(.int (3 : Int32)), (.int z157), (.int z154), (.int z151), (.int z148), (.int n2)])) := fun tg_ kg_ => by
                  refine r250 tg_ ?_
                  show Steps p.tables e below (T240.setTop (mkF m 205 #[.val (.int p0s), .val (.int p1s), .val (.int p2s), .val (.int p3s), .val (.int p4s), .val (.int n2), .val (.int z142), .val (.int z148), .val (.int z151), .val (.int z154), .val (.int z157), .val (.ref aA), .val (.int (-1 : Int32)), .unset, .unset] [(.int (3 : Int32)), (.int z142)])) _
                  refine XS.icmpNo X241.here hx rfl (hb hby at_205) rfl (tlt hc270).2.2.2 ?_
                  show Steps p.tables e below (T240.setTop (mkF m 208 #[.val (.int p0s), .val (.int p1s), .val (.int p2s), .val (.int p3s), .val (.int p4s), .val (.int n2), .val (.int z142), .val (.int z148), .val (.int z151), .val (.int z154), .val (.int z157), .val (.ref aA), .val (.int (-1 : Int32)), .unset, .unset] [])) _
                  refine XS.iload X241.here hx rfl (hb hby at_208) rfl ?_
                  show Steps p.tables e below (T240.setTop (mkF m 210 #[.val (.int p0s), .val (.int p1s), .val (.int p2s), .val (.int p3s), .val (.int p4s), .val (.int n2), .val (.int z142), .val (.int z148), .val (.int z151), .val (.int z154), .val (.int z157), .val (.ref aA), .val (.int (-1 : Int32)), .unset, .unset] [(.int n2)])) _
                  refine XS.iload X241.here hx rfl (hb hby at_210) rfl ?_
                  show Steps p.tables e below (T240.setTop (mkF m 212 #[.val (.int p0s), .val (.int p1s), .val (.int p2s), .val (.int p3s), .val (.int p4s), .val (.int n2), .val (.int z142), .val (.int z148), .val (.int z151), .val (.int z154), .val (.int z157), .val (.ref aA), .val (.int (-1 : Int32)), .unset, .unset] [(.int z148), (.int n2)])) _
                  refine XS.iload X241.here hx rfl (hb hby at_212) rfl ?_
                  show Steps p.tables e below (T240.setTop (mkF m 214 #[.val (.int p0s), .val (.int p1s), .val (.int p2s), .val (.int p3s), .val (.int p4s), .val (.int n2), .val (.int z142), .val (.int z148), .val (.int z151), .val (.int z154), .val (.int z157), .val (.ref aA), .val (.int (-1 : Int32)), .unset, .unset] [(.int z151), (.int z148), (.int n2)])) _
                  refine XS.iload X241.here hx rfl (hb hby at_214) rfl ?_
                  show Steps p.tables e below (T240.setTop (mkF m 216 #[.val (.int p0s), .val (.int p1s), .val (.int p2s), .val (.int p3s), .val (.int p4s), .val (.int n2), .val (.int z142), .val (.int z148), .val (.int z151), .val (.int z154), .val (.int z157), .val (.ref aA), .val (.int (-1 : Int32)), .unset, .unset] [(.int z154), (.int z151), (.int z148), (.int n2)])) _
                  refine XS.iload X241.here hx rfl (hb hby at_216) rfl ?_
                  show Steps p.tables e below (T240.setTop (mkF m 218 #[.val (.int p0s), .val (.int p1s), .val (.int p2s), .val (.int p3s), .val (.int p4s), .val (.int n2), .val (.int z142), .val (.int z148), .val (.int z151), .val (.int z154), .val (.int z157), .val (.ref aA), .val (.int (-1 : Int32)), .unset, .unset] [(.int z157), (.int z154), (.int z151), (.int z148), (.int n2)])) _
                  refine XS.iconst X241.here hx rfl (hb hby at_218) ?_
                  exact kg_
                obtain ⟨_, _, ⟨T272, L272, k272, n272⟩, -, X272, ⟨Lc272, hQ272, l272, y272, z272⟩, st272⟩ := Jvm.LawKit.callS X241 hx (y := (⟨"org/fractile/core/PartitionFirstEmptyPartPinLaw", "used", "(IIIIII)Z"⟩ : MethodName)) hown (mvT hZ (hw _ (List.mem_of_getElem? (i := 11) rfl))) (mvT hZ (hw _ (List.mem_of_getElem? (i := 12) rfl))) (mvT hZ (hw _ (List.mem_of_getElem? (i := 2) rfl))) (mvT hZ (hw _ (List.mem_of_getElem? (i := 13) rfl))) (by decide) (backOf (W := 0) (rm3 l Z a0 hw [] n2 z148 z151 z154 z157 (3 : Int32) h242 n0 Zs245 ) hZ (hw _ (List.mem_of_getElem? (i := 13) rfl)) (hw _ (List.mem_of_getElem? (i := 2) rfl)) (by decide) (by decide)) (g := (mkF m 219 #[.val (.int p0s), .val (.int p1s), .val (.int p2s), .val (.int p3s), .val (.int p4s), .val (.int n2), .val (.int z142), .val (.int z148), .val (.int z151), .val (.int z154), .val (.int z157), .val (.ref aA), .val (.int (-1 : Int32)), .unset, .unset] [(.int (3 : Int32)), (.int z157), (.int z154), (.int z151), (.int z148), (.int n2)])) rfl (by rw [hml]; rfl) (argsL := [(.int n2), (.int z148), (.int z151), (.int z154), (.int z157), (.int (3 : Int32))]) (rest := []) (lenOf pd_2 rfl) rfl (by show 2 * 0 + _ ≤ _; exact Nat.le_of_eq rfl) (hb hby at_219) (fun _ _ => ⟨rfl, e243, (by decide : 1 + 0 ≤ _), (by decide : 4 + 0 ≤ _)⟩)
                dsimp only [Pt.U, Pt.locs, Pt.cells, Pt.slots] at X272 l272 y272 z272 st272 hQ272
                subst l272 y272 z272
                obtain ⟨rfl, N272q, I272_0⟩ := hQ272
                have N272 := Fr.app N244 N272q
                have r272 : own_R p.tables e below F0 (T272.setTop (mkF m 222 #[.val (.int p0s), .val (.int p1s), .val (.int p2s), .val (.int p3s), .val (.int p4s), .val (.int n2), .val (.int z142), .val (.int z148), .val (.int z151), .val (.int z154), .val (.int z157), .val (.ref aA), .val (.int (-1 : Int32)), .unset, .unset] [(.int (own_used n2 z148 z151 z154 z157 (3 : Int32)))])) := fun tg_ kg_ => r271 tg_ (st272 tg_ kg_)
                by_cases hc273 : (own_used n2 z148 z151 z154 z157 (3 : Int32)) = (0 : Int32)
                · have r274 : own_R p.tables e below F0 (T272.setTop (mkF m 257 #[.val (.int p0s), .val (.int p1s), .val (.int p2s), .val (.int p3s), .val (.int p4s), .val (.int n2), .val (.int z142), .val (.int z148), .val (.int z151), .val (.int z154), .val (.int z157), .val (.ref aA), .val (.int (3 : Int32)), .unset, .unset] [])) := fun tg_ kg_ => by
                    refine r272 tg_ ?_
                    show Steps p.tables e below (T272.setTop (mkF m 222 #[.val (.int p0s), .val (.int p1s), .val (.int p2s), .val (.int p3s), .val (.int p4s), .val (.int n2), .val (.int z142), .val (.int z148), .val (.int z151), .val (.int z154), .val (.int z157), .val (.ref aA), .val (.int (-1 : Int32)), .unset, .unset] [(.int (own_used n2 z148 z151 z154 z157 (3 : Int32)))])) _
                    refine XS.ifNo X272.here hx rfl (hb hby at_222) rfl ((if0 _ _).trans (teq hc273).2) ?_
                    show Steps p.tables e below (T272.setTop (mkF m 225 #[.val (.int p0s), .val (.int p1s), .val (.int p2s), .val (.int p3s), .val (.int p4s), .val (.int n2), .val (.int z142), .val (.int z148), .val (.int z151), .val (.int z154), .val (.int z157), .val (.ref aA), .val (.int (-1 : Int32)), .unset, .unset] [])) _
                    refine XS.iconst X272.here hx rfl (hb hby at_225) ?_
                    show Steps p.tables e below (T272.setTop (mkF m 226 #[.val (.int p0s), .val (.int p1s), .val (.int p2s), .val (.int p3s), .val (.int p4s), .val (.int n2), .val (.int z142), .val (.int z148), .val (.int z151), .val (.int z154), .val (.int z157), .val (.ref aA), .val (.int (-1 : Int32)), .unset, .unset] [(.int (3 : Int32))])) _
                    refine XS.istore X272.here hx rfl (hb hby at_226) rfl (l' := #[.val (.int p0s), .val (.int p1s), .val (.int p2s), .val (.int p3s), .val (.int p4s), .val (.int n2), .val (.int z142), .val (.int z148), .val (.int z151), .val (.int z154), .val (.int z157), .val (.ref aA), .val (.int (3 : Int32)), .unset, .unset]) rfl ?_
                    show Steps p.tables e below (T272.setTop (mkF m 228 #[.val (.int p0s), .val (.int p1s), .val (.int p2s), .val (.int p3s), .val (.int p4s), .val (.int n2), .val (.int z142), .val (.int z148), .val (.int z151), .val (.int z154), .val (.int z157), .val (.ref aA), .val (.int (3 : Int32)), .unset, .unset] [])) _
                    refine XS.goto X272.here hx rfl (pc0 := 228) (pc' := 257) rfl (hb hby at_228) (by decide) (by decide) ?_
                    exact kg_
                  exact J171 (3 : Int32) T272 _ _ X272 I272_0 N272 Zs245 K246 F248 (by
                          have hlt := own_lt32 hc270
                          rw [hk] at hlt
                          have hlt2 : (3 : Int) < kn := hlt
                          refine Or.inr ⟨3, by decide, by omega, (own_usedI n2 z148 z151 z154 z157 (3 : Int32) ga N 3 hn2 hN4 (by decide) hv).mp hc273, fun p hp => ?_⟩
                          have z : p = 0 ∨ p = 1 ∨ p = 2 := by omega
                          rcases z with rfl | rfl | rfl
                          · exact Classical.byContradiction fun y => hl0 (Int32.lt_iff_toInt_lt.mpr (show (0 : Int32).toInt < z142.toInt by rw [hk]; show (0 : Int) < _; omega)) ((own_usedI n2 z148 z151 z154 z157 (0 : Int32) ga N 0 hn2 hN4 (by decide) hv).mpr y)
                          · exact Classical.byContradiction fun y => hl1 (Int32.lt_iff_toInt_lt.mpr (show (1 : Int32).toInt < z142.toInt by rw [hk]; show (1 : Int) < _; omega)) ((own_usedI n2 z148 z151 z154 z157 (1 : Int32) ga N 1 hn2 hN4 (by decide) hv).mpr y)
                          · exact Classical.byContradiction fun y => hl2 (Int32.lt_iff_toInt_lt.mpr (show (2 : Int32).toInt < z142.toInt by rw [hk]; show (2 : Int) < _; omega)) ((own_usedI n2 z148 z151 z154 z157 (2 : Int32) ga N 2 hn2 hN4 (by decide) hv).mpr y)) r274
                · have r275 : own_R p.tables e below F0 (T272.setTop (mkF m 231 #[.val (.int p0s), .val (.int p1s), .val (.int p2s), .val (.int p3s), .val (.int p4s), .val (.int n2), .val (.int z142), .val (.int z148), .val (.int z151), .val (.int z154), .val (.int z157), .val (.ref aA), .val (.int (-1 : Int32)), .unset, .unset] [])) := fun tg_ kg_ => by
                    refine r272 tg_ ?_
                    show Steps p.tables e below (T272.setTop (mkF m 222 #[.val (.int p0s), .val (.int p1s), .val (.int p2s), .val (.int p3s), .val (.int p4s), .val (.int n2), .val (.int z142), .val (.int z148), .val (.int z151), .val (.int z154), .val (.int z157), .val (.ref aA), .val (.int (-1 : Int32)), .unset, .unset] [(.int (own_used n2 z148 z151 z154 z157 (3 : Int32)))])) _
                    refine XS.ifYes X272.here hx rfl (pc0 := 222) (pc' := 231) rfl (hb hby at_222) rfl ((if0 _ _).trans (feq hc273).2) (by decide) (by decide) ?_
                    exact kg_
                  exact J251 T272 _ _ X272 I272_0 N272 Zs245 K246 F248 (fun _ => hc273) r275
              · have r276 : own_R p.tables e below F0 (T240.setTop (mkF m 231 #[.val (.int p0s), .val (.int p1s), .val (.int p2s), .val (.int p3s), .val (.int p4s), .val (.int n2), .val (.int z142), .val (.int z148), .val (.int z151), .val (.int z154), .val (.int z157), .val (.ref aA), .val (.int (-1 : Int32)), .unset, .unset] [])) := fun tg_ kg_ => by
                  refine r250 tg_ ?_
                  show Steps p.tables e below (T240.setTop (mkF m 205 #[.val (.int p0s), .val (.int p1s), .val (.int p2s), .val (.int p3s), .val (.int p4s), .val (.int n2), .val (.int z142), .val (.int z148), .val (.int z151), .val (.int z154), .val (.int z157), .val (.ref aA), .val (.int (-1 : Int32)), .unset, .unset] [(.int (3 : Int32)), (.int z142)])) _
                  refine XS.icmpYes X241.here hx rfl (pc0 := 205) (pc' := 231) rfl (hb hby at_205) rfl (flt hc270).2.2.2 (by decide) (by decide) ?_
                  exact kg_
                exact J251 T240 _ _ X241 e243 N244 Zs245 K246 F248 (fun q => absurd q hc270) r276
            by_cases hc277 : (2 : Int32) < z142
            · have r278 : own_R p.tables e below F0 (T228.setTop (mkF m 190 #[.val (.int p0s), .val (.int p1s), .val (.int p2s), .val (.int p3s), .val (.int p4s), .val (.int n2), .val (.int z142), .val (.int z148), .val (.int z151), .val (.int z154), .val (.int z157), .val (.ref aA), .val (.int (-1 : Int32)), .unset, .unset] [(.int (2 : Int32)), (.int z157), (.int z154), (.int z151), (.int z148), (.int n2)])) := fun tg_ kg_ => by
                refine r238 tg_ ?_
                show Steps p.tables e below (T228.setTop (mkF m 176 #[.val (.int p0s), .val (.int p1s), .val (.int p2s), .val (.int p3s), .val (.int p4s), .val (.int n2), .val (.int z142), .val (.int z148), .val (.int z151), .val (.int z154), .val (.int z157), .val (.ref aA), .val (.int (-1 : Int32)), .unset, .unset] [(.int (2 : Int32)), (.int z142)])) _
                refine XS.icmpNo X229.here hx rfl (hb hby at_176) rfl (tlt hc277).2.2.2 ?_
                show Steps p.tables e below (T228.setTop (mkF m 179 #[.val (.int p0s), .val (.int p1s), .val (.int p2s), .val (.int p3s), .val (.int p4s), .val (.int n2), .val (.int z142), .val (.int z148), .val (.int z151), .val (.int z154), .val (.int z157), .val (.ref aA), .val (.int (-1 : Int32)), .unset, .unset] [])) _
                refine XS.iload X229.here hx rfl (hb hby at_179) rfl ?_
                show Steps p.tables e below (T228.setTop (mkF m 181 #[.val (.int p0s), .val (.int p1s), .val (.int p2s), .val (.int p3s), .val (.int p4s), .val (.int n2), .val (.int z142), .val (.int z148), .val (.int z151), .val (.int z154), .val (.int z157), .val (.ref aA), .val (.int (-1 : Int32)), .unset, .unset] [(.int n2)])) _
                refine XS.iload X229.here hx rfl (hb hby at_181) rfl ?_
                show Steps p.tables e below (T228.setTop (mkF m 183 #[.val (.int p0s), .val (.int p1s), .val (.int p2s), .val (.int p3s), .val (.int p4s), .val (.int n2), .val (.int z142), .val (.int z148), .val (.int z151), .val (.int z154), .val (.int z157), .val (.ref aA), .val (.int (-1 : Int32)), .unset, .unset] [(.int z148), (.int n2)])) _
                refine XS.iload X229.here hx rfl (hb hby at_183) rfl ?_
                show Steps p.tables e below (T228.setTop (mkF m 185 #[.val (.int p0s), .val (.int p1s), .val (.int p2s), .val (.int p3s), .val (.int p4s), .val (.int n2), .val (.int z142), .val (.int z148), .val (.int z151), .val (.int z154), .val (.int z157), .val (.ref aA), .val (.int (-1 : Int32)), .unset, .unset] [(.int z151), (.int z148), (.int n2)])) _
                refine XS.iload X229.here hx rfl (hb hby at_185) rfl ?_
                show Steps p.tables e below (T228.setTop (mkF m 187 #[.val (.int p0s), .val (.int p1s), .val (.int p2s), .val (.int p3s), .val (.int p4s), .val (.int n2), .val (.int z142), .val (.int z148), .val (.int z151), .val (.int z154), .val (.int z157), .val (.ref aA), .val (.int (-1 : Int32)), .unset, .unset] [(.int z154), (.int z151), (.int z148), (.int n2)])) _
                refine XS.iload X229.here hx rfl (hb hby at_187) rfl ?_
                show Steps p.tables e below (T228.setTop (mkF m 189 #[.val (.int p0s), .val (.int p1s), .val (.int p2s), .val (.int p3s), .val (.int p4s), .val (.int n2), .val (.int z142), .val (.int z148), .val (.int z151), .val (.int z154), .val (.int z157), .val (.ref aA), .val (.int (-1 : Int32)), .unset, .unset] [(.int z157), (.int z154), (.int z151), (.int z148), (.int n2)])) _
                refine XS.iconst X229.here hx rfl (hb hby at_189) ?_
                exact kg_
              obtain ⟨_, _, ⟨T279, L279, k279, n279⟩, -, X279, ⟨Lc279, hQ279, l279, y279, z279⟩, st279⟩ := Jvm.LawKit.callS X229 hx (y := (⟨"org/fractile/core/PartitionFirstEmptyPartPinLaw", "used", "(IIIIII)Z"⟩ : MethodName)) hown (mvT hZ (hw _ (List.mem_of_getElem? (i := 11) rfl))) (mvT hZ (hw _ (List.mem_of_getElem? (i := 12) rfl))) (mvT hZ (hw _ (List.mem_of_getElem? (i := 2) rfl))) (mvT hZ (hw _ (List.mem_of_getElem? (i := 13) rfl))) (by decide) (backOf (W := 0) (rm3 l Z a0 hw [] n2 z148 z151 z154 z157 (2 : Int32) h230 n0 Zs233 ) hZ (hw _ (List.mem_of_getElem? (i := 13) rfl)) (hw _ (List.mem_of_getElem? (i := 2) rfl)) (by decide) (by decide)) (g := (mkF m 190 #[.val (.int p0s), .val (.int p1s), .val (.int p2s), .val (.int p3s), .val (.int p4s), .val (.int n2), .val (.int z142), .val (.int z148), .val (.int z151), .val (.int z154), .val (.int z157), .val (.ref aA), .val (.int (-1 : Int32)), .unset, .unset] [(.int (2 : Int32)), (.int z157), (.int z154), (.int z151), (.int z148), (.int n2)])) rfl (by rw [hml]; rfl) (argsL := [(.int n2), (.int z148), (.int z151), (.int z154), (.int z157), (.int (2 : Int32))]) (rest := []) (lenOf pd_2 rfl) rfl (by show 2 * 0 + _ ≤ _; exact Nat.le_of_eq rfl) (hb hby at_190) (fun _ _ => ⟨rfl, e231, (by decide : 1 + 0 ≤ _), (by decide : 4 + 0 ≤ _)⟩)
              dsimp only [Pt.U, Pt.locs, Pt.cells, Pt.slots] at X279 l279 y279 z279 st279 hQ279
              subst l279 y279 z279
              obtain ⟨rfl, N279q, I279_0⟩ := hQ279
              have N279 := Fr.app N232 N279q
              have r279 : own_R p.tables e below F0 (T279.setTop (mkF m 193 #[.val (.int p0s), .val (.int p1s), .val (.int p2s), .val (.int p3s), .val (.int p4s), .val (.int n2), .val (.int z142), .val (.int z148), .val (.int z151), .val (.int z154), .val (.int z157), .val (.ref aA), .val (.int (-1 : Int32)), .unset, .unset] [(.int (own_used n2 z148 z151 z154 z157 (2 : Int32)))])) := fun tg_ kg_ => r278 tg_ (st279 tg_ kg_)
              by_cases hc280 : (own_used n2 z148 z151 z154 z157 (2 : Int32)) = (0 : Int32)
              · have r281 : own_R p.tables e below F0 (T279.setTop (mkF m 257 #[.val (.int p0s), .val (.int p1s), .val (.int p2s), .val (.int p3s), .val (.int p4s), .val (.int n2), .val (.int z142), .val (.int z148), .val (.int z151), .val (.int z154), .val (.int z157), .val (.ref aA), .val (.int (2 : Int32)), .unset, .unset] [])) := fun tg_ kg_ => by
                  refine r279 tg_ ?_
                  show Steps p.tables e below (T279.setTop (mkF m 193 #[.val (.int p0s), .val (.int p1s), .val (.int p2s), .val (.int p3s), .val (.int p4s), .val (.int n2), .val (.int z142), .val (.int z148), .val (.int z151), .val (.int z154), .val (.int z157), .val (.ref aA), .val (.int (-1 : Int32)), .unset, .unset] [(.int (own_used n2 z148 z151 z154 z157 (2 : Int32)))])) _
                  refine XS.ifNo X279.here hx rfl (hb hby at_193) rfl ((if0 _ _).trans (teq hc280).2) ?_
                  show Steps p.tables e below (T279.setTop (mkF m 196 #[.val (.int p0s), .val (.int p1s), .val (.int p2s), .val (.int p3s), .val (.int p4s), .val (.int n2), .val (.int z142), .val (.int z148), .val (.int z151), .val (.int z154), .val (.int z157), .val (.ref aA), .val (.int (-1 : Int32)), .unset, .unset] [])) _
                  refine XS.iconst X279.here hx rfl (hb hby at_196) ?_
                  show Steps p.tables e below (T279.setTop (mkF m 197 #[.val (.int p0s), .val (.int p1s), .val (.int p2s), .val (.int p3s), .val (.int p4s), .val (.int n2), .val (.int z142), .val (.int z148), .val (.int z151), .val (.int z154), .val (.int z157), .val (.ref aA), .val (.int (-1 : Int32)), .unset, .unset] [(.int (2 : Int32))])) _
                  refine XS.istore X279.here hx rfl (hb hby at_197) rfl (l' := #[.val (.int p0s), .val (.int p1s), .val (.int p2s), .val (.int p3s), .val (.int p4s), .val (.int n2), .val (.int z142), .val (.int z148), .val (.int z151), .val (.int z154), .val (.int z157), .val (.ref aA), .val (.int (2 : Int32)), .unset, .unset]) rfl ?_
                  show Steps p.tables e below (T279.setTop (mkF m 199 #[.val (.int p0s), .val (.int p1s), .val (.int p2s), .val (.int p3s), .val (.int p4s), .val (.int n2), .val (.int z142), .val (.int z148), .val (.int z151), .val (.int z154), .val (.int z157), .val (.ref aA), .val (.int (2 : Int32)), .unset, .unset] [])) _
                  refine XS.goto X279.here hx rfl (pc0 := 199) (pc' := 257) rfl (hb hby at_199) (by decide) (by decide) ?_
                  exact kg_
                exact J171 (2 : Int32) T279 _ _ X279 I279_0 N279 Zs233 K234 F236 (by
                        have hlt := own_lt32 hc277
                        rw [hk] at hlt
                        have hlt2 : (2 : Int) < kn := hlt
                        refine Or.inr ⟨2, by decide, by omega, (own_usedI n2 z148 z151 z154 z157 (2 : Int32) ga N 2 hn2 hN4 (by decide) hv).mp hc280, fun p hp => ?_⟩
                        have z : p = 0 ∨ p = 1 := by omega
                        rcases z with rfl | rfl
                        · exact Classical.byContradiction fun y => hl0 (Int32.lt_iff_toInt_lt.mpr (show (0 : Int32).toInt < z142.toInt by rw [hk]; show (0 : Int) < _; omega)) ((own_usedI n2 z148 z151 z154 z157 (0 : Int32) ga N 0 hn2 hN4 (by decide) hv).mpr y)
                        · exact Classical.byContradiction fun y => hl1 (Int32.lt_iff_toInt_lt.mpr (show (1 : Int32).toInt < z142.toInt by rw [hk]; show (1 : Int) < _; omega)) ((own_usedI n2 z148 z151 z154 z157 (1 : Int32) ga N 1 hn2 hN4 (by decide) hv).mpr y)) r281
              · have r282 : own_R p.tables e below F0 (T279.setTop (mkF m 202 #[.val (.int p0s), .val (.int p1s), .val (.int p2s), .val (.int p3s), .val (.int p4s), .val (.int n2), .val (.int z142), .val (.int z148), .val (.int z151), .val (.int z154), .val (.int z157), .val (.ref aA), .val (.int (-1 : Int32)), .unset, .unset] [])) := fun tg_ kg_ => by
                  refine r279 tg_ ?_
                  show Steps p.tables e below (T279.setTop (mkF m 193 #[.val (.int p0s), .val (.int p1s), .val (.int p2s), .val (.int p3s), .val (.int p4s), .val (.int n2), .val (.int z142), .val (.int z148), .val (.int z151), .val (.int z154), .val (.int z157), .val (.ref aA), .val (.int (-1 : Int32)), .unset, .unset] [(.int (own_used n2 z148 z151 z154 z157 (2 : Int32)))])) _
                  refine XS.ifYes X279.here hx rfl (pc0 := 193) (pc' := 202) rfl (hb hby at_193) rfl ((if0 _ _).trans (feq hc280).2) (by decide) (by decide) ?_
                  exact kg_
                exact J239 T279 _ _ X279 I279_0 N279 Zs233 K234 F236 (fun _ => hc280) r282
            · have r283 : own_R p.tables e below F0 (T228.setTop (mkF m 202 #[.val (.int p0s), .val (.int p1s), .val (.int p2s), .val (.int p3s), .val (.int p4s), .val (.int n2), .val (.int z142), .val (.int z148), .val (.int z151), .val (.int z154), .val (.int z157), .val (.ref aA), .val (.int (-1 : Int32)), .unset, .unset] [])) := fun tg_ kg_ => by
                refine r238 tg_ ?_
                show Steps p.tables e below (T228.setTop (mkF m 176 #[.val (.int p0s), .val (.int p1s), .val (.int p2s), .val (.int p3s), .val (.int p4s), .val (.int n2), .val (.int z142), .val (.int z148), .val (.int z151), .val (.int z154), .val (.int z157), .val (.ref aA), .val (.int (-1 : Int32)), .unset, .unset] [(.int (2 : Int32)), (.int z142)])) _
                refine XS.icmpYes X229.here hx rfl (pc0 := 176) (pc' := 202) rfl (hb hby at_176) rfl (flt hc277).2.2.2 (by decide) (by decide) ?_
                exact kg_
              exact J239 T228 _ _ X229 e231 N232 Zs233 K234 F236 (fun q => absurd q hc277) r283
          by_cases hc284 : (1 : Int32) < z142
          · have r285 : own_R p.tables e below F0 (T216.setTop (mkF m 161 #[.val (.int p0s), .val (.int p1s), .val (.int p2s), .val (.int p3s), .val (.int p4s), .val (.int n2), .val (.int z142), .val (.int z148), .val (.int z151), .val (.int z154), .val (.int z157), .val (.ref aA), .val (.int (-1 : Int32)), .unset, .unset] [(.int (1 : Int32)), (.int z157), (.int z154), (.int z151), (.int z148), (.int n2)])) := fun tg_ kg_ => by
              refine r226 tg_ ?_
              show Steps p.tables e below (T216.setTop (mkF m 147 #[.val (.int p0s), .val (.int p1s), .val (.int p2s), .val (.int p3s), .val (.int p4s), .val (.int n2), .val (.int z142), .val (.int z148), .val (.int z151), .val (.int z154), .val (.int z157), .val (.ref aA), .val (.int (-1 : Int32)), .unset, .unset] [(.int (1 : Int32)), (.int z142)])) _
              refine XS.icmpNo X217.here hx rfl (hb hby at_147) rfl (tlt hc284).2.2.2 ?_
              show Steps p.tables e below (T216.setTop (mkF m 150 #[.val (.int p0s), .val (.int p1s), .val (.int p2s), .val (.int p3s), .val (.int p4s), .val (.int n2), .val (.int z142), .val (.int z148), .val (.int z151), .val (.int z154), .val (.int z157), .val (.ref aA), .val (.int (-1 : Int32)), .unset, .unset] [])) _
              refine XS.iload X217.here hx rfl (hb hby at_150) rfl ?_
              show Steps p.tables e below (T216.setTop (mkF m 152 #[.val (.int p0s), .val (.int p1s), .val (.int p2s), .val (.int p3s), .val (.int p4s), .val (.int n2), .val (.int z142), .val (.int z148), .val (.int z151), .val (.int z154), .val (.int z157), .val (.ref aA), .val (.int (-1 : Int32)), .unset, .unset] [(.int n2)])) _
              refine XS.iload X217.here hx rfl (hb hby at_152) rfl ?_
              show Steps p.tables e below (T216.setTop (mkF m 154 #[.val (.int p0s), .val (.int p1s), .val (.int p2s), .val (.int p3s), .val (.int p4s), .val (.int n2), .val (.int z142), .val (.int z148), .val (.int z151), .val (.int z154), .val (.int z157), .val (.ref aA), .val (.int (-1 : Int32)), .unset, .unset] [(.int z148), (.int n2)])) _
              refine XS.iload X217.here hx rfl (hb hby at_154) rfl ?_
              show Steps p.tables e below (T216.setTop (mkF m 156 #[.val (.int p0s), .val (.int p1s), .val (.int p2s), .val (.int p3s), .val (.int p4s), .val (.int n2), .val (.int z142), .val (.int z148), .val (.int z151), .val (.int z154), .val (.int z157), .val (.ref aA), .val (.int (-1 : Int32)), .unset, .unset] [(.int z151), (.int z148), (.int n2)])) _
              refine XS.iload X217.here hx rfl (hb hby at_156) rfl ?_
              show Steps p.tables e below (T216.setTop (mkF m 158 #[.val (.int p0s), .val (.int p1s), .val (.int p2s), .val (.int p3s), .val (.int p4s), .val (.int n2), .val (.int z142), .val (.int z148), .val (.int z151), .val (.int z154), .val (.int z157), .val (.ref aA), .val (.int (-1 : Int32)), .unset, .unset] [(.int z154), (.int z151), (.int z148), (.int n2)])) _
              refine XS.iload X217.here hx rfl (hb hby at_158) rfl ?_
              show Steps p.tables e below (T216.setTop (mkF m 160 #[.val (.int p0s), .val (.int p1s), .val (.int p2s), .val (.int p3s), .val (.int p4s), .val (.int n2), .val (.int z142), .val (.int z148), .val (.int z151), .val (.int z154), .val (.int z157), .val (.ref aA), .val (.int (-1 : Int32)), .unset, .unset] [(.int z157), (.int z154), (.int z151), (.int z148), (.int n2)])) _
              refine XS.iconst X217.here hx rfl (hb hby at_160) ?_
              exact kg_
            obtain ⟨_, _, ⟨T286, L286, k286, n286⟩, -, X286, ⟨Lc286, hQ286, l286, y286, z286⟩, st286⟩ := Jvm.LawKit.callS X217 hx (y := (⟨"org/fractile/core/PartitionFirstEmptyPartPinLaw", "used", "(IIIIII)Z"⟩ : MethodName)) hown (mvT hZ (hw _ (List.mem_of_getElem? (i := 11) rfl))) (mvT hZ (hw _ (List.mem_of_getElem? (i := 12) rfl))) (mvT hZ (hw _ (List.mem_of_getElem? (i := 2) rfl))) (mvT hZ (hw _ (List.mem_of_getElem? (i := 13) rfl))) (by decide) (backOf (W := 0) (rm3 l Z a0 hw [] n2 z148 z151 z154 z157 (1 : Int32) h218 n0 Zs221 ) hZ (hw _ (List.mem_of_getElem? (i := 13) rfl)) (hw _ (List.mem_of_getElem? (i := 2) rfl)) (by decide) (by decide)) (g := (mkF m 161 #[.val (.int p0s), .val (.int p1s), .val (.int p2s), .val (.int p3s), .val (.int p4s), .val (.int n2), .val (.int z142), .val (.int z148), .val (.int z151), .val (.int z154), .val (.int z157), .val (.ref aA), .val (.int (-1 : Int32)), .unset, .unset] [(.int (1 : Int32)), (.int z157), (.int z154), (.int z151), (.int z148), (.int n2)])) rfl (by rw [hml]; rfl) (argsL := [(.int n2), (.int z148), (.int z151), (.int z154), (.int z157), (.int (1 : Int32))]) (rest := []) (lenOf pd_2 rfl) rfl (by show 2 * 0 + _ ≤ _; exact Nat.le_of_eq rfl) (hb hby at_161) (fun _ _ => ⟨rfl, e219, (by decide : 1 + 0 ≤ _), (by decide : 4 + 0 ≤ _)⟩)
            dsimp only [Pt.U, Pt.locs, Pt.cells, Pt.slots] at X286 l286 y286 z286 st286 hQ286
            subst l286 y286 z286
            obtain ⟨rfl, N286q, I286_0⟩ := hQ286
            have N286 := Fr.app N220 N286q
            have r286 : own_R p.tables e below F0 (T286.setTop (mkF m 164 #[.val (.int p0s), .val (.int p1s), .val (.int p2s), .val (.int p3s), .val (.int p4s), .val (.int n2), .val (.int z142), .val (.int z148), .val (.int z151), .val (.int z154), .val (.int z157), .val (.ref aA), .val (.int (-1 : Int32)), .unset, .unset] [(.int (own_used n2 z148 z151 z154 z157 (1 : Int32)))])) := fun tg_ kg_ => r285 tg_ (st286 tg_ kg_)
            by_cases hc287 : (own_used n2 z148 z151 z154 z157 (1 : Int32)) = (0 : Int32)
            · have r288 : own_R p.tables e below F0 (T286.setTop (mkF m 257 #[.val (.int p0s), .val (.int p1s), .val (.int p2s), .val (.int p3s), .val (.int p4s), .val (.int n2), .val (.int z142), .val (.int z148), .val (.int z151), .val (.int z154), .val (.int z157), .val (.ref aA), .val (.int (1 : Int32)), .unset, .unset] [])) := fun tg_ kg_ => by
                refine r286 tg_ ?_
                show Steps p.tables e below (T286.setTop (mkF m 164 #[.val (.int p0s), .val (.int p1s), .val (.int p2s), .val (.int p3s), .val (.int p4s), .val (.int n2), .val (.int z142), .val (.int z148), .val (.int z151), .val (.int z154), .val (.int z157), .val (.ref aA), .val (.int (-1 : Int32)), .unset, .unset] [(.int (own_used n2 z148 z151 z154 z157 (1 : Int32)))])) _
                refine XS.ifNo X286.here hx rfl (hb hby at_164) rfl ((if0 _ _).trans (teq hc287).2) ?_
                show Steps p.tables e below (T286.setTop (mkF m 167 #[.val (.int p0s), .val (.int p1s), .val (.int p2s), .val (.int p3s), .val (.int p4s), .val (.int n2), .val (.int z142), .val (.int z148), .val (.int z151), .val (.int z154), .val (.int z157), .val (.ref aA), .val (.int (-1 : Int32)), .unset, .unset] [])) _
                refine XS.iconst X286.here hx rfl (hb hby at_167) ?_
                show Steps p.tables e below (T286.setTop (mkF m 168 #[.val (.int p0s), .val (.int p1s), .val (.int p2s), .val (.int p3s), .val (.int p4s), .val (.int n2), .val (.int z142), .val (.int z148), .val (.int z151), .val (.int z154), .val (.int z157), .val (.ref aA), .val (.int (-1 : Int32)), .unset, .unset] [(.int (1 : Int32))])) _
                refine XS.istore X286.here hx rfl (hb hby at_168) rfl (l' := #[.val (.int p0s), .val (.int p1s), .val (.int p2s), .val (.int p3s), .val (.int p4s), .val (.int n2), .val (.int z142), .val (.int z148), .val (.int z151), .val (.int z154), .val (.int z157), .val (.ref aA), .val (.int (1 : Int32)), .unset, .unset]) rfl ?_
                show Steps p.tables e below (T286.setTop (mkF m 170 #[.val (.int p0s), .val (.int p1s), .val (.int p2s), .val (.int p3s), .val (.int p4s), .val (.int n2), .val (.int z142), .val (.int z148), .val (.int z151), .val (.int z154), .val (.int z157), .val (.ref aA), .val (.int (1 : Int32)), .unset, .unset] [])) _
                refine XS.goto X286.here hx rfl (pc0 := 170) (pc' := 257) rfl (hb hby at_170) (by decide) (by decide) ?_
                exact kg_
              exact J171 (1 : Int32) T286 _ _ X286 I286_0 N286 Zs221 K222 F224 (by
                      have hlt := own_lt32 hc284
                      rw [hk] at hlt
                      have hlt2 : (1 : Int) < kn := hlt
                      refine Or.inr ⟨1, by decide, by omega, (own_usedI n2 z148 z151 z154 z157 (1 : Int32) ga N 1 hn2 hN4 (by decide) hv).mp hc287, fun p hp => ?_⟩
                      have z : p = 0 := by omega
                      rcases z with rfl
                      · exact Classical.byContradiction fun y => hl0 (Int32.lt_iff_toInt_lt.mpr (show (0 : Int32).toInt < z142.toInt by rw [hk]; show (0 : Int) < _; omega)) ((own_usedI n2 z148 z151 z154 z157 (0 : Int32) ga N 0 hn2 hN4 (by decide) hv).mpr y)) r288
            · have r289 : own_R p.tables e below F0 (T286.setTop (mkF m 173 #[.val (.int p0s), .val (.int p1s), .val (.int p2s), .val (.int p3s), .val (.int p4s), .val (.int n2), .val (.int z142), .val (.int z148), .val (.int z151), .val (.int z154), .val (.int z157), .val (.ref aA), .val (.int (-1 : Int32)), .unset, .unset] [])) := fun tg_ kg_ => by
                refine r286 tg_ ?_
                show Steps p.tables e below (T286.setTop (mkF m 164 #[.val (.int p0s), .val (.int p1s), .val (.int p2s), .val (.int p3s), .val (.int p4s), .val (.int n2), .val (.int z142), .val (.int z148), .val (.int z151), .val (.int z154), .val (.int z157), .val (.ref aA), .val (.int (-1 : Int32)), .unset, .unset] [(.int (own_used n2 z148 z151 z154 z157 (1 : Int32)))])) _
                refine XS.ifYes X286.here hx rfl (pc0 := 164) (pc' := 173) rfl (hb hby at_164) rfl ((if0 _ _).trans (feq hc287).2) (by decide) (by decide) ?_
                exact kg_
              exact J227 T286 _ _ X286 I286_0 N286 Zs221 K222 F224 (fun _ => hc287) r289
          · have r290 : own_R p.tables e below F0 (T216.setTop (mkF m 173 #[.val (.int p0s), .val (.int p1s), .val (.int p2s), .val (.int p3s), .val (.int p4s), .val (.int n2), .val (.int z142), .val (.int z148), .val (.int z151), .val (.int z154), .val (.int z157), .val (.ref aA), .val (.int (-1 : Int32)), .unset, .unset] [])) := fun tg_ kg_ => by
              refine r226 tg_ ?_
              show Steps p.tables e below (T216.setTop (mkF m 147 #[.val (.int p0s), .val (.int p1s), .val (.int p2s), .val (.int p3s), .val (.int p4s), .val (.int n2), .val (.int z142), .val (.int z148), .val (.int z151), .val (.int z154), .val (.int z157), .val (.ref aA), .val (.int (-1 : Int32)), .unset, .unset] [(.int (1 : Int32)), (.int z142)])) _
              refine XS.icmpYes X217.here hx rfl (pc0 := 147) (pc' := 173) rfl (hb hby at_147) rfl (flt hc284).2.2.2 (by decide) (by decide) ?_
              exact kg_
            exact J227 T216 _ _ X217 e219 N220 Zs221 K222 F224 (fun q => absurd q hc284) r290
        by_cases hc291 : (0 : Int32) < z142
        · have r292 : own_R p.tables e below F0 (T160.setTop (mkF m 132 #[.val (.int p0s), .val (.int p1s), .val (.int p2s), .val (.int p3s), .val (.int p4s), .val (.int n2), .val (.int z142), .val (.int z148), .val (.int z151), .val (.int z154), .val (.int z157), .val (.ref aA), .val (.int (-1 : Int32)), .unset, .unset] [(.int (0 : Int32)), (.int z157), (.int z154), (.int z151), (.int z148), (.int n2)])) := fun tg_ kg_ => by
            refine r214 tg_ ?_
            show Steps p.tables e below (T160.setTop (mkF m 118 #[.val (.int p0s), .val (.int p1s), .val (.int p2s), .val (.int p3s), .val (.int p4s), .val (.int n2), .val (.int z142), .val (.int z148), .val (.int z151), .val (.int z154), .val (.int z157), .val (.ref aA), .val (.int (-1 : Int32)), .unset, .unset] [(.int z142)])) _
            refine XS.ifNo X161.here hx rfl (hb hby at_118) rfl ((if0 _ _).trans (tlt hc291).2.2.2) ?_
            show Steps p.tables e below (T160.setTop (mkF m 121 #[.val (.int p0s), .val (.int p1s), .val (.int p2s), .val (.int p3s), .val (.int p4s), .val (.int n2), .val (.int z142), .val (.int z148), .val (.int z151), .val (.int z154), .val (.int z157), .val (.ref aA), .val (.int (-1 : Int32)), .unset, .unset] [])) _
            refine XS.iload X161.here hx rfl (hb hby at_121) rfl ?_
            show Steps p.tables e below (T160.setTop (mkF m 123 #[.val (.int p0s), .val (.int p1s), .val (.int p2s), .val (.int p3s), .val (.int p4s), .val (.int n2), .val (.int z142), .val (.int z148), .val (.int z151), .val (.int z154), .val (.int z157), .val (.ref aA), .val (.int (-1 : Int32)), .unset, .unset] [(.int n2)])) _
            refine XS.iload X161.here hx rfl (hb hby at_123) rfl ?_
            show Steps p.tables e below (T160.setTop (mkF m 125 #[.val (.int p0s), .val (.int p1s), .val (.int p2s), .val (.int p3s), .val (.int p4s), .val (.int n2), .val (.int z142), .val (.int z148), .val (.int z151), .val (.int z154), .val (.int z157), .val (.ref aA), .val (.int (-1 : Int32)), .unset, .unset] [(.int z148), (.int n2)])) _
            refine XS.iload X161.here hx rfl (hb hby at_125) rfl ?_
            show Steps p.tables e below (T160.setTop (mkF m 127 #[.val (.int p0s), .val (.int p1s), .val (.int p2s), .val (.int p3s), .val (.int p4s), .val (.int n2), .val (.int z142), .val (.int z148), .val (.int z151), .val (.int z154), .val (.int z157), .val (.ref aA), .val (.int (-1 : Int32)), .unset, .unset] [(.int z151), (.int z148), (.int n2)])) _
            refine XS.iload X161.here hx rfl (hb hby at_127) rfl ?_
            show Steps p.tables e below (T160.setTop (mkF m 129 #[.val (.int p0s), .val (.int p1s), .val (.int p2s), .val (.int p3s), .val (.int p4s), .val (.int n2), .val (.int z142), .val (.int z148), .val (.int z151), .val (.int z154), .val (.int z157), .val (.ref aA), .val (.int (-1 : Int32)), .unset, .unset] [(.int z154), (.int z151), (.int z148), (.int n2)])) _
            refine XS.iload X161.here hx rfl (hb hby at_129) rfl ?_
            show Steps p.tables e below (T160.setTop (mkF m 131 #[.val (.int p0s), .val (.int p1s), .val (.int p2s), .val (.int p3s), .val (.int p4s), .val (.int n2), .val (.int z142), .val (.int z148), .val (.int z151), .val (.int z154), .val (.int z157), .val (.ref aA), .val (.int (-1 : Int32)), .unset, .unset] [(.int z157), (.int z154), (.int z151), (.int z148), (.int n2)])) _
            refine XS.iconst X161.here hx rfl (hb hby at_131) ?_
            exact kg_
          obtain ⟨_, _, ⟨T293, L293, k293, n293⟩, -, X293, ⟨Lc293, hQ293, l293, y293, z293⟩, st293⟩ := Jvm.LawKit.callS X161 hx (y := (⟨"org/fractile/core/PartitionFirstEmptyPartPinLaw", "used", "(IIIIII)Z"⟩ : MethodName)) hown (mvT hZ (hw _ (List.mem_of_getElem? (i := 11) rfl))) (mvT hZ (hw _ (List.mem_of_getElem? (i := 12) rfl))) (mvT hZ (hw _ (List.mem_of_getElem? (i := 2) rfl))) (mvT hZ (hw _ (List.mem_of_getElem? (i := 13) rfl))) (by decide) (backOf (W := 0) (rm3 l Z a0 hw [] n2 z148 z151 z154 z157 (0 : Int32) h162 n0 Zs165 ) hZ (hw _ (List.mem_of_getElem? (i := 13) rfl)) (hw _ (List.mem_of_getElem? (i := 2) rfl)) (by decide) (by decide)) (g := (mkF m 132 #[.val (.int p0s), .val (.int p1s), .val (.int p2s), .val (.int p3s), .val (.int p4s), .val (.int n2), .val (.int z142), .val (.int z148), .val (.int z151), .val (.int z154), .val (.int z157), .val (.ref aA), .val (.int (-1 : Int32)), .unset, .unset] [(.int (0 : Int32)), (.int z157), (.int z154), (.int z151), (.int z148), (.int n2)])) rfl (by rw [hml]; rfl) (argsL := [(.int n2), (.int z148), (.int z151), (.int z154), (.int z157), (.int (0 : Int32))]) (rest := []) (lenOf pd_2 rfl) rfl (by show 2 * 0 + _ ≤ _; exact Nat.le_of_eq rfl) (hb hby at_132) (fun _ _ => ⟨rfl, e163, (by decide : 1 + 0 ≤ _), (by decide : 4 + 0 ≤ _)⟩)
          dsimp only [Pt.U, Pt.locs, Pt.cells, Pt.slots] at X293 l293 y293 z293 st293 hQ293
          subst l293 y293 z293
          obtain ⟨rfl, N293q, I293_0⟩ := hQ293
          have N293 := Fr.app N164 N293q
          have r293 : own_R p.tables e below F0 (T293.setTop (mkF m 135 #[.val (.int p0s), .val (.int p1s), .val (.int p2s), .val (.int p3s), .val (.int p4s), .val (.int n2), .val (.int z142), .val (.int z148), .val (.int z151), .val (.int z154), .val (.int z157), .val (.ref aA), .val (.int (-1 : Int32)), .unset, .unset] [(.int (own_used n2 z148 z151 z154 z157 (0 : Int32)))])) := fun tg_ kg_ => r292 tg_ (st293 tg_ kg_)
          by_cases hc294 : (own_used n2 z148 z151 z154 z157 (0 : Int32)) = (0 : Int32)
          · have r295 : own_R p.tables e below F0 (T293.setTop (mkF m 257 #[.val (.int p0s), .val (.int p1s), .val (.int p2s), .val (.int p3s), .val (.int p4s), .val (.int n2), .val (.int z142), .val (.int z148), .val (.int z151), .val (.int z154), .val (.int z157), .val (.ref aA), .val (.int (0 : Int32)), .unset, .unset] [])) := fun tg_ kg_ => by
              refine r293 tg_ ?_
              show Steps p.tables e below (T293.setTop (mkF m 135 #[.val (.int p0s), .val (.int p1s), .val (.int p2s), .val (.int p3s), .val (.int p4s), .val (.int n2), .val (.int z142), .val (.int z148), .val (.int z151), .val (.int z154), .val (.int z157), .val (.ref aA), .val (.int (-1 : Int32)), .unset, .unset] [(.int (own_used n2 z148 z151 z154 z157 (0 : Int32)))])) _
              refine XS.ifNo X293.here hx rfl (hb hby at_135) rfl ((if0 _ _).trans (teq hc294).2) ?_
              show Steps p.tables e below (T293.setTop (mkF m 138 #[.val (.int p0s), .val (.int p1s), .val (.int p2s), .val (.int p3s), .val (.int p4s), .val (.int n2), .val (.int z142), .val (.int z148), .val (.int z151), .val (.int z154), .val (.int z157), .val (.ref aA), .val (.int (-1 : Int32)), .unset, .unset] [])) _
              refine XS.iconst X293.here hx rfl (hb hby at_138) ?_
              show Steps p.tables e below (T293.setTop (mkF m 139 #[.val (.int p0s), .val (.int p1s), .val (.int p2s), .val (.int p3s), .val (.int p4s), .val (.int n2), .val (.int z142), .val (.int z148), .val (.int z151), .val (.int z154), .val (.int z157), .val (.ref aA), .val (.int (-1 : Int32)), .unset, .unset] [(.int (0 : Int32))])) _
              refine XS.istore X293.here hx rfl (hb hby at_139) rfl (l' := #[.val (.int p0s), .val (.int p1s), .val (.int p2s), .val (.int p3s), .val (.int p4s), .val (.int n2), .val (.int z142), .val (.int z148), .val (.int z151), .val (.int z154), .val (.int z157), .val (.ref aA), .val (.int (0 : Int32)), .unset, .unset]) rfl ?_
              show Steps p.tables e below (T293.setTop (mkF m 141 #[.val (.int p0s), .val (.int p1s), .val (.int p2s), .val (.int p3s), .val (.int p4s), .val (.int n2), .val (.int z142), .val (.int z148), .val (.int z151), .val (.int z154), .val (.int z157), .val (.ref aA), .val (.int (0 : Int32)), .unset, .unset] [])) _
              refine XS.goto X293.here hx rfl (pc0 := 141) (pc' := 257) rfl (hb hby at_141) (by decide) (by decide) ?_
              exact kg_
            exact J171 (0 : Int32) T293 _ _ X293 I293_0 N293 Zs165 K166 F168 (by
                    have hlt := own_lt32 hc291
                    rw [hk] at hlt
                    have hlt2 : (0 : Int) < kn := hlt
                    refine Or.inr ⟨0, by decide, by omega, (own_usedI n2 z148 z151 z154 z157 (0 : Int32) ga N 0 hn2 hN4 (by decide) hv).mp hc294, fun p hp => ?_⟩
                    exact absurd hp (by omega)) r295
          · have r296 : own_R p.tables e below F0 (T293.setTop (mkF m 144 #[.val (.int p0s), .val (.int p1s), .val (.int p2s), .val (.int p3s), .val (.int p4s), .val (.int n2), .val (.int z142), .val (.int z148), .val (.int z151), .val (.int z154), .val (.int z157), .val (.ref aA), .val (.int (-1 : Int32)), .unset, .unset] [])) := fun tg_ kg_ => by
              refine r293 tg_ ?_
              show Steps p.tables e below (T293.setTop (mkF m 135 #[.val (.int p0s), .val (.int p1s), .val (.int p2s), .val (.int p3s), .val (.int p4s), .val (.int n2), .val (.int z142), .val (.int z148), .val (.int z151), .val (.int z154), .val (.int z157), .val (.ref aA), .val (.int (-1 : Int32)), .unset, .unset] [(.int (own_used n2 z148 z151 z154 z157 (0 : Int32)))])) _
              refine XS.ifYes X293.here hx rfl (pc0 := 135) (pc' := 144) rfl (hb hby at_135) rfl ((if0 _ _).trans (feq hc294).2) (by decide) (by decide) ?_
              exact kg_
            exact J215 T293 _ _ X293 I293_0 N293 Zs165 K166 F168 (fun _ => hc294) r296
        · have r297 : own_R p.tables e below F0 (T160.setTop (mkF m 144 #[.val (.int p0s), .val (.int p1s), .val (.int p2s), .val (.int p3s), .val (.int p4s), .val (.int n2), .val (.int z142), .val (.int z148), .val (.int z151), .val (.int z154), .val (.int z157), .val (.ref aA), .val (.int (-1 : Int32)), .unset, .unset] [])) := fun tg_ kg_ => by
            refine r214 tg_ ?_
            show Steps p.tables e below (T160.setTop (mkF m 118 #[.val (.int p0s), .val (.int p1s), .val (.int p2s), .val (.int p3s), .val (.int p4s), .val (.int n2), .val (.int z142), .val (.int z148), .val (.int z151), .val (.int z154), .val (.int z157), .val (.ref aA), .val (.int (-1 : Int32)), .unset, .unset] [(.int z142)])) _
            refine XS.ifYes X161.here hx rfl (pc0 := 118) (pc' := 144) rfl (hb hby at_118) rfl ((if0 _ _).trans (flt hc291).2.2.2) (by decide) (by decide) ?_
            exact kg_
          exact J215 T160 _ _ X161 e163 N164 Zs165 K166 F168 (fun q => absurd q hc291) r297
      rcases hn5 with hn5 | hn5 | hn5 | hn5 | hn5
      · have r298 : own_R p.tables e below F0 (T156.setTop (mkF m 60 #[.val (.int p0s), .val (.int p1s), .val (.int p2s), .val (.int p3s), .val (.int p4s), .val (.int (0 : Int32)), .val (.int z142), .val (.int z148), .val (.int z151), .val (.int z154), .val (.int z157), .unset, .unset, .unset, .unset] [])) := by rw [← hn5]; exact r158
        have r299 : own_R p.tables e below F0 (T156.setTop (mkF m 62 #[.val (.int p0s), .val (.int p1s), .val (.int p2s), .val (.int p3s), .val (.int p4s), .val (.int (0 : Int32)), .val (.int z142), .val (.int z148), .val (.int z151), .val (.int z154), .val (.int z157), .unset, .unset, .unset, .unset] [(.int (0 : Int32))])) := fun tg_ kg_ => by
          refine r298 tg_ ?_
          show Steps p.tables e below (T156.setTop (mkF m 60 #[.val (.int p0s), .val (.int p1s), .val (.int p2s), .val (.int p3s), .val (.int p4s), .val (.int (0 : Int32)), .val (.int z142), .val (.int z148), .val (.int z151), .val (.int z154), .val (.int z157), .unset, .unset, .unset, .unset] [])) _
          refine XS.iload X156.here hx rfl (hb hby at_60) rfl ?_
          exact kg_
        obtain ⟨T300, h300, k300, X300, e300, E300, A300, st300⟩ := newP X156 hx hZ (hw _ (List.mem_of_getElem? (i := 4) rfl)) I156_0 (g := (mkF m 62 #[.val (.int p0s), .val (.int p1s), .val (.int p2s), .val (.int p3s), .val (.int p4s), .val (.int (0 : Int32)), .val (.int z142), .val (.int z148), .val (.int z151), .val (.int z154), .val (.int z157), .unset, .unset, .unset, .unset] [(.int (0 : Int32))])) rfl (hb hby at_62) rfl (by decide) (cap := 0) (by decide) (by decide) (by decide) (by decide)
        obtain ⟨b300, g300⟩ : ∃ z, z = h0.size := ⟨_, rfl⟩
        rw [← g300] at A300 st300
        have ge300 : n0 ≤ b300 := Nat.le_trans Z0 (Nat.le_of_eq g300.symm)
        have old300 : h0.size ≤ b300 := Nat.le_trans K0.1 (Nat.le_of_eq g300.symm)
        have K300 : Keep h0 h300 [] := K0.ext E300
        have Zs301 : n0 ≤ h300.size := Nat.le_trans Z0 E300.1
        have F302 : own_Arf Z h300 b300 .int 0 (fun i => (.int ((fun _ => (0 : Int32)) i))) := by
          have q := own_Arf.new A300 (by decide)
          rw [show ((0 : Int32)).toNatClampNeg = 0 from rfl] at q
          exact q
        have r300 : own_R p.tables e below F0 (T300.setTop (mkF m 64 #[.val (.int p0s), .val (.int p1s), .val (.int p2s), .val (.int p3s), .val (.int p4s), .val (.int (0 : Int32)), .val (.int z142), .val (.int z148), .val (.int z151), .val (.int z154), .val (.int z157), .unset, .unset, .unset, .unset] [(.ref b300)])) := fun tg_ kg_ => r299 tg_ (st300 tg_ kg_)
        have r303 : own_R p.tables e below F0 (T300.setTop (mkF m 113 #[.val (.int p0s), .val (.int p1s), .val (.int p2s), .val (.int p3s), .val (.int p4s), .val (.int (0 : Int32)), .val (.int z142), .val (.int z148), .val (.int z151), .val (.int z154), .val (.int z157), .val (.ref b300), .unset, .unset, .unset] [])) := fun tg_ kg_ => by
          refine r300 tg_ ?_
          show Steps p.tables e below (T300.setTop (mkF m 64 #[.val (.int p0s), .val (.int p1s), .val (.int p2s), .val (.int p3s), .val (.int p4s), .val (.int (0 : Int32)), .val (.int z142), .val (.int z148), .val (.int z151), .val (.int z154), .val (.int z157), .unset, .unset, .unset, .unset] [(.ref b300)])) _
          refine XS.astore X300.here hx rfl (hb hby at_64) rfl rfl (l' := #[.val (.int p0s), .val (.int p1s), .val (.int p2s), .val (.int p3s), .val (.int p4s), .val (.int (0 : Int32)), .val (.int z142), .val (.int z148), .val (.int z151), .val (.int z154), .val (.int z157), .val (.ref b300), .unset, .unset, .unset]) rfl ?_
          show Steps p.tables e below (T300.setTop (mkF m 66 #[.val (.int p0s), .val (.int p1s), .val (.int p2s), .val (.int p3s), .val (.int p4s), .val (.int (0 : Int32)), .val (.int z142), .val (.int z148), .val (.int z151), .val (.int z154), .val (.int z157), .val (.ref b300), .unset, .unset, .unset] [])) _
          refine XS.iload X300.here hx rfl (hb hby at_66) rfl ?_
          show Steps p.tables e below (T300.setTop (mkF m 68 #[.val (.int p0s), .val (.int p1s), .val (.int p2s), .val (.int p3s), .val (.int p4s), .val (.int (0 : Int32)), .val (.int z142), .val (.int z148), .val (.int z151), .val (.int z154), .val (.int z157), .val (.ref b300), .unset, .unset, .unset] [(.int (0 : Int32))])) _
          refine XS.ifYes X300.here hx rfl (pc0 := 68) (pc' := 77) rfl (hb hby at_68) rfl ((if0 _ _).trans (flt (show ¬ ((0 : Int32) < (0 : Int32)) from by decide)).2.2.2) (by decide) (by decide) ?_
          show Steps p.tables e below (T300.setTop (mkF m 77 #[.val (.int p0s), .val (.int p1s), .val (.int p2s), .val (.int p3s), .val (.int p4s), .val (.int (0 : Int32)), .val (.int z142), .val (.int z148), .val (.int z151), .val (.int z154), .val (.int z157), .val (.ref b300), .unset, .unset, .unset] [])) _
          refine XS.iload X300.here hx rfl (hb hby at_77) rfl ?_
          show Steps p.tables e below (T300.setTop (mkF m 79 #[.val (.int p0s), .val (.int p1s), .val (.int p2s), .val (.int p3s), .val (.int p4s), .val (.int (0 : Int32)), .val (.int z142), .val (.int z148), .val (.int z151), .val (.int z154), .val (.int z157), .val (.ref b300), .unset, .unset, .unset] [(.int (0 : Int32))])) _
          refine XS.iconst X300.here hx rfl (hb hby at_79) ?_
          show Steps p.tables e below (T300.setTop (mkF m 80 #[.val (.int p0s), .val (.int p1s), .val (.int p2s), .val (.int p3s), .val (.int p4s), .val (.int (0 : Int32)), .val (.int z142), .val (.int z148), .val (.int z151), .val (.int z154), .val (.int z157), .val (.ref b300), .unset, .unset, .unset] [(.int (1 : Int32)), (.int (0 : Int32))])) _
          refine XS.icmpYes X300.here hx rfl (pc0 := 80) (pc' := 89) rfl (hb hby at_80) rfl (flt (show ¬ ((1 : Int32) < (0 : Int32)) from by decide)).2.2.2 (by decide) (by decide) ?_
          show Steps p.tables e below (T300.setTop (mkF m 89 #[.val (.int p0s), .val (.int p1s), .val (.int p2s), .val (.int p3s), .val (.int p4s), .val (.int (0 : Int32)), .val (.int z142), .val (.int z148), .val (.int z151), .val (.int z154), .val (.int z157), .val (.ref b300), .unset, .unset, .unset] [])) _
          refine XS.iload X300.here hx rfl (hb hby at_89) rfl ?_
          show Steps p.tables e below (T300.setTop (mkF m 91 #[.val (.int p0s), .val (.int p1s), .val (.int p2s), .val (.int p3s), .val (.int p4s), .val (.int (0 : Int32)), .val (.int z142), .val (.int z148), .val (.int z151), .val (.int z154), .val (.int z157), .val (.ref b300), .unset, .unset, .unset] [(.int (0 : Int32))])) _
          refine XS.iconst X300.here hx rfl (hb hby at_91) ?_
          show Steps p.tables e below (T300.setTop (mkF m 92 #[.val (.int p0s), .val (.int p1s), .val (.int p2s), .val (.int p3s), .val (.int p4s), .val (.int (0 : Int32)), .val (.int z142), .val (.int z148), .val (.int z151), .val (.int z154), .val (.int z157), .val (.ref b300), .unset, .unset, .unset] [(.int (2 : Int32)), (.int (0 : Int32))])) _
          refine XS.icmpYes X300.here hx rfl (pc0 := 92) (pc' := 101) rfl (hb hby at_92) rfl (flt (show ¬ ((2 : Int32) < (0 : Int32)) from by decide)).2.2.2 (by decide) (by decide) ?_
          show Steps p.tables e below (T300.setTop (mkF m 101 #[.val (.int p0s), .val (.int p1s), .val (.int p2s), .val (.int p3s), .val (.int p4s), .val (.int (0 : Int32)), .val (.int z142), .val (.int z148), .val (.int z151), .val (.int z154), .val (.int z157), .val (.ref b300), .unset, .unset, .unset] [])) _
          refine XS.iload X300.here hx rfl (hb hby at_101) rfl ?_
          show Steps p.tables e below (T300.setTop (mkF m 103 #[.val (.int p0s), .val (.int p1s), .val (.int p2s), .val (.int p3s), .val (.int p4s), .val (.int (0 : Int32)), .val (.int z142), .val (.int z148), .val (.int z151), .val (.int z154), .val (.int z157), .val (.ref b300), .unset, .unset, .unset] [(.int (0 : Int32))])) _
          refine XS.iconst X300.here hx rfl (hb hby at_103) ?_
          show Steps p.tables e below (T300.setTop (mkF m 104 #[.val (.int p0s), .val (.int p1s), .val (.int p2s), .val (.int p3s), .val (.int p4s), .val (.int (0 : Int32)), .val (.int z142), .val (.int z148), .val (.int z151), .val (.int z154), .val (.int z157), .val (.ref b300), .unset, .unset, .unset] [(.int (3 : Int32)), (.int (0 : Int32))])) _
          refine XS.icmpYes X300.here hx rfl (pc0 := 104) (pc' := 113) rfl (hb hby at_104) rfl (flt (show ¬ ((3 : Int32) < (0 : Int32)) from by decide)).2.2.2 (by decide) (by decide) ?_
          exact kg_
        exact J159 (0 : Int32) b300 0 (fun _ => (0 : Int32)) T300 _ _ (own_mono X300 (by decide) (by decide)) e300 N156 Zs301 K300 F302 (by decide) (by decide) (fun _ => rfl) ⟨fun q => absurd q (by decide), fun q => absurd q (by decide), fun q => absurd q (by decide), fun q => absurd q (by decide)⟩ r303
      · have r304 : own_R p.tables e below F0 (T156.setTop (mkF m 60 #[.val (.int p0s), .val (.int p1s), .val (.int p2s), .val (.int p3s), .val (.int p4s), .val (.int (1 : Int32)), .val (.int z142), .val (.int z148), .val (.int z151), .val (.int z154), .val (.int z157), .unset, .unset, .unset, .unset] [])) := by rw [← hn5]; exact r158
        have r305 : own_R p.tables e below F0 (T156.setTop (mkF m 62 #[.val (.int p0s), .val (.int p1s), .val (.int p2s), .val (.int p3s), .val (.int p4s), .val (.int (1 : Int32)), .val (.int z142), .val (.int z148), .val (.int z151), .val (.int z154), .val (.int z157), .unset, .unset, .unset, .unset] [(.int (1 : Int32))])) := fun tg_ kg_ => by
          refine r304 tg_ ?_
          show Steps p.tables e below (T156.setTop (mkF m 60 #[.val (.int p0s), .val (.int p1s), .val (.int p2s), .val (.int p3s), .val (.int p4s), .val (.int (1 : Int32)), .val (.int z142), .val (.int z148), .val (.int z151), .val (.int z154), .val (.int z157), .unset, .unset, .unset, .unset] [])) _
          refine XS.iload X156.here hx rfl (hb hby at_60) rfl ?_
          exact kg_
        obtain ⟨T306, h306, k306, X306, e306, E306, A306, st306⟩ := newP X156 hx hZ (hw _ (List.mem_of_getElem? (i := 4) rfl)) I156_0 (g := (mkF m 62 #[.val (.int p0s), .val (.int p1s), .val (.int p2s), .val (.int p3s), .val (.int p4s), .val (.int (1 : Int32)), .val (.int z142), .val (.int z148), .val (.int z151), .val (.int z154), .val (.int z157), .unset, .unset, .unset, .unset] [(.int (1 : Int32))])) rfl (hb hby at_62) rfl (by decide) (cap := 1) (by decide) (by decide) (by decide) (by decide)
        obtain ⟨b306, g306⟩ : ∃ z, z = h0.size := ⟨_, rfl⟩
        rw [← g306] at A306 st306
        have ge306 : n0 ≤ b306 := Nat.le_trans Z0 (Nat.le_of_eq g306.symm)
        have old306 : h0.size ≤ b306 := Nat.le_trans K0.1 (Nat.le_of_eq g306.symm)
        have K306 : Keep h0 h306 [] := K0.ext E306
        have Zs307 : n0 ≤ h306.size := Nat.le_trans Z0 E306.1
        have F308 : own_Arf Z h306 b306 .int 1 (fun i => (.int ((fun _ => (0 : Int32)) i))) := by
          have q := own_Arf.new A306 (by decide)
          rw [show ((1 : Int32)).toNatClampNeg = 1 from rfl] at q
          exact q
        have r306 : own_R p.tables e below F0 (T306.setTop (mkF m 64 #[.val (.int p0s), .val (.int p1s), .val (.int p2s), .val (.int p3s), .val (.int p4s), .val (.int (1 : Int32)), .val (.int z142), .val (.int z148), .val (.int z151), .val (.int z154), .val (.int z157), .unset, .unset, .unset, .unset] [(.ref b306)])) := fun tg_ kg_ => r305 tg_ (st306 tg_ kg_)
        have r309 : own_R p.tables e below F0 (T306.setTop (mkF m 76 #[.val (.int p0s), .val (.int p1s), .val (.int p2s), .val (.int p3s), .val (.int p4s), .val (.int (1 : Int32)), .val (.int z142), .val (.int z148), .val (.int z151), .val (.int z154), .val (.int z157), .val (.ref b306), .unset, .unset, .unset] [(.int z148), (.int (0 : Int32)), (.ref b306)])) := fun tg_ kg_ => by
          refine r306 tg_ ?_
          show Steps p.tables e below (T306.setTop (mkF m 64 #[.val (.int p0s), .val (.int p1s), .val (.int p2s), .val (.int p3s), .val (.int p4s), .val (.int (1 : Int32)), .val (.int z142), .val (.int z148), .val (.int z151), .val (.int z154), .val (.int z157), .unset, .unset, .unset, .unset] [(.ref b306)])) _
          refine XS.astore X306.here hx rfl (hb hby at_64) rfl rfl (l' := #[.val (.int p0s), .val (.int p1s), .val (.int p2s), .val (.int p3s), .val (.int p4s), .val (.int (1 : Int32)), .val (.int z142), .val (.int z148), .val (.int z151), .val (.int z154), .val (.int z157), .val (.ref b306), .unset, .unset, .unset]) rfl ?_
          show Steps p.tables e below (T306.setTop (mkF m 66 #[.val (.int p0s), .val (.int p1s), .val (.int p2s), .val (.int p3s), .val (.int p4s), .val (.int (1 : Int32)), .val (.int z142), .val (.int z148), .val (.int z151), .val (.int z154), .val (.int z157), .val (.ref b306), .unset, .unset, .unset] [])) _
          refine XS.iload X306.here hx rfl (hb hby at_66) rfl ?_
          show Steps p.tables e below (T306.setTop (mkF m 68 #[.val (.int p0s), .val (.int p1s), .val (.int p2s), .val (.int p3s), .val (.int p4s), .val (.int (1 : Int32)), .val (.int z142), .val (.int z148), .val (.int z151), .val (.int z154), .val (.int z157), .val (.ref b306), .unset, .unset, .unset] [(.int (1 : Int32))])) _
          refine XS.ifNo X306.here hx rfl (hb hby at_68) rfl ((if0 _ _).trans (tlt (show (0 : Int32) < (1 : Int32) from by decide)).2.2.2) ?_
          show Steps p.tables e below (T306.setTop (mkF m 71 #[.val (.int p0s), .val (.int p1s), .val (.int p2s), .val (.int p3s), .val (.int p4s), .val (.int (1 : Int32)), .val (.int z142), .val (.int z148), .val (.int z151), .val (.int z154), .val (.int z157), .val (.ref b306), .unset, .unset, .unset] [])) _
          refine XS.aload X306.here hx rfl (hb hby at_71) rfl rfl ?_
          show Steps p.tables e below (T306.setTop (mkF m 73 #[.val (.int p0s), .val (.int p1s), .val (.int p2s), .val (.int p3s), .val (.int p4s), .val (.int (1 : Int32)), .val (.int z142), .val (.int z148), .val (.int z151), .val (.int z154), .val (.int z157), .val (.ref b306), .unset, .unset, .unset] [(.ref b306)])) _
          refine XS.iconst X306.here hx rfl (hb hby at_73) ?_
          show Steps p.tables e below (T306.setTop (mkF m 74 #[.val (.int p0s), .val (.int p1s), .val (.int p2s), .val (.int p3s), .val (.int p4s), .val (.int (1 : Int32)), .val (.int z142), .val (.int z148), .val (.int z151), .val (.int z154), .val (.int z157), .val (.ref b306), .unset, .unset, .unset] [(.int (0 : Int32)), (.ref b306)])) _
          refine XS.iload X306.here hx rfl (hb hby at_74) rfl ?_
          exact kg_
        obtain ⟨T310, h310, X310, e310, W310, V310, st310⟩ := own_stI X306 hx hZ e306 (j := (0 : Int32)) F308 (by decide) (by decide) (g := (mkF m 76 #[.val (.int p0s), .val (.int p1s), .val (.int p2s), .val (.int p3s), .val (.int p4s), .val (.int (1 : Int32)), .val (.int z142), .val (.int z148), .val (.int z151), .val (.int z154), .val (.int z157), .val (.ref b306), .unset, .unset, .unset] [(.int z148), (.int (0 : Int32)), (.ref b306)])) rfl rfl (hb hby at_76)
        have V310 : own_Arf Z h310 b306 .int 1 (fun i => if i = 0 then (.int z148) else (.int ((fun _ => (0 : Int32)) i))) := V310
        obtain ⟨gf310, hgf310, V310'⟩ := own_nameI (g := (fun _ => (0 : Int32))) V310
        have F311 : own_Arf Z h310 b306 .int 1 (fun i => (.int (gf310 i))) := V310'
        have Zs312 : n0 ≤ h310.size := by rw [W310.size]; exact Zs307
        have N313 := Fr.snoc X310 N156 ge306
        have K314 : Keep h0 h310 [] := K306.wr W310 (Or.inr old306)
        have r310 : own_R p.tables e below F0 (T310.setTop (mkF m 77 #[.val (.int p0s), .val (.int p1s), .val (.int p2s), .val (.int p3s), .val (.int p4s), .val (.int (1 : Int32)), .val (.int z142), .val (.int z148), .val (.int z151), .val (.int z154), .val (.int z157), .val (.ref b306), .unset, .unset, .unset] [])) := fun tg_ kg_ => r309 tg_ (st310 tg_ kg_)
        have r315 : own_R p.tables e below F0 (T310.setTop (mkF m 113 #[.val (.int p0s), .val (.int p1s), .val (.int p2s), .val (.int p3s), .val (.int p4s), .val (.int (1 : Int32)), .val (.int z142), .val (.int z148), .val (.int z151), .val (.int z154), .val (.int z157), .val (.ref b306), .unset, .unset, .unset] [])) := fun tg_ kg_ => by
          refine r310 tg_ ?_
          show Steps p.tables e below (T310.setTop (mkF m 77 #[.val (.int p0s), .val (.int p1s), .val (.int p2s), .val (.int p3s), .val (.int p4s), .val (.int (1 : Int32)), .val (.int z142), .val (.int z148), .val (.int z151), .val (.int z154), .val (.int z157), .val (.ref b306), .unset, .unset, .unset] [])) _
          refine XS.iload X310.here hx rfl (hb hby at_77) rfl ?_
          show Steps p.tables e below (T310.setTop (mkF m 79 #[.val (.int p0s), .val (.int p1s), .val (.int p2s), .val (.int p3s), .val (.int p4s), .val (.int (1 : Int32)), .val (.int z142), .val (.int z148), .val (.int z151), .val (.int z154), .val (.int z157), .val (.ref b306), .unset, .unset, .unset] [(.int (1 : Int32))])) _
          refine XS.iconst X310.here hx rfl (hb hby at_79) ?_
          show Steps p.tables e below (T310.setTop (mkF m 80 #[.val (.int p0s), .val (.int p1s), .val (.int p2s), .val (.int p3s), .val (.int p4s), .val (.int (1 : Int32)), .val (.int z142), .val (.int z148), .val (.int z151), .val (.int z154), .val (.int z157), .val (.ref b306), .unset, .unset, .unset] [(.int (1 : Int32)), (.int (1 : Int32))])) _
          refine XS.icmpYes X310.here hx rfl (pc0 := 80) (pc' := 89) rfl (hb hby at_80) rfl (flt (show ¬ ((1 : Int32) < (1 : Int32)) from by decide)).2.2.2 (by decide) (by decide) ?_
          show Steps p.tables e below (T310.setTop (mkF m 89 #[.val (.int p0s), .val (.int p1s), .val (.int p2s), .val (.int p3s), .val (.int p4s), .val (.int (1 : Int32)), .val (.int z142), .val (.int z148), .val (.int z151), .val (.int z154), .val (.int z157), .val (.ref b306), .unset, .unset, .unset] [])) _
          refine XS.iload X310.here hx rfl (hb hby at_89) rfl ?_
          show Steps p.tables e below (T310.setTop (mkF m 91 #[.val (.int p0s), .val (.int p1s), .val (.int p2s), .val (.int p3s), .val (.int p4s), .val (.int (1 : Int32)), .val (.int z142), .val (.int z148), .val (.int z151), .val (.int z154), .val (.int z157), .val (.ref b306), .unset, .unset, .unset] [(.int (1 : Int32))])) _
          refine XS.iconst X310.here hx rfl (hb hby at_91) ?_
          show Steps p.tables e below (T310.setTop (mkF m 92 #[.val (.int p0s), .val (.int p1s), .val (.int p2s), .val (.int p3s), .val (.int p4s), .val (.int (1 : Int32)), .val (.int z142), .val (.int z148), .val (.int z151), .val (.int z154), .val (.int z157), .val (.ref b306), .unset, .unset, .unset] [(.int (2 : Int32)), (.int (1 : Int32))])) _
          refine XS.icmpYes X310.here hx rfl (pc0 := 92) (pc' := 101) rfl (hb hby at_92) rfl (flt (show ¬ ((2 : Int32) < (1 : Int32)) from by decide)).2.2.2 (by decide) (by decide) ?_
          show Steps p.tables e below (T310.setTop (mkF m 101 #[.val (.int p0s), .val (.int p1s), .val (.int p2s), .val (.int p3s), .val (.int p4s), .val (.int (1 : Int32)), .val (.int z142), .val (.int z148), .val (.int z151), .val (.int z154), .val (.int z157), .val (.ref b306), .unset, .unset, .unset] [])) _
          refine XS.iload X310.here hx rfl (hb hby at_101) rfl ?_
          show Steps p.tables e below (T310.setTop (mkF m 103 #[.val (.int p0s), .val (.int p1s), .val (.int p2s), .val (.int p3s), .val (.int p4s), .val (.int (1 : Int32)), .val (.int z142), .val (.int z148), .val (.int z151), .val (.int z154), .val (.int z157), .val (.ref b306), .unset, .unset, .unset] [(.int (1 : Int32))])) _
          refine XS.iconst X310.here hx rfl (hb hby at_103) ?_
          show Steps p.tables e below (T310.setTop (mkF m 104 #[.val (.int p0s), .val (.int p1s), .val (.int p2s), .val (.int p3s), .val (.int p4s), .val (.int (1 : Int32)), .val (.int z142), .val (.int z148), .val (.int z151), .val (.int z154), .val (.int z157), .val (.ref b306), .unset, .unset, .unset] [(.int (3 : Int32)), (.int (1 : Int32))])) _
          refine XS.icmpYes X310.here hx rfl (pc0 := 104) (pc' := 113) rfl (hb hby at_104) rfl (flt (show ¬ ((3 : Int32) < (1 : Int32)) from by decide)).2.2.2 (by decide) (by decide) ?_
          exact kg_
        exact J159 (1 : Int32) b306 1 gf310 T310 _ _ (own_mono X310 (by decide) (by decide)) e310 N313 Zs312 K314 F311 (by decide) (by decide) (fun q => by have := hnn.2.2 q; rw [hn5] at this; revert this; decide) ⟨fun _ => (by rw [hgf310, if_pos rfl]), fun q => absurd q (by decide), fun q => absurd q (by decide), fun q => absurd q (by decide)⟩ r315
      · have r316 : own_R p.tables e below F0 (T156.setTop (mkF m 60 #[.val (.int p0s), .val (.int p1s), .val (.int p2s), .val (.int p3s), .val (.int p4s), .val (.int (2 : Int32)), .val (.int z142), .val (.int z148), .val (.int z151), .val (.int z154), .val (.int z157), .unset, .unset, .unset, .unset] [])) := by rw [← hn5]; exact r158
        have r317 : own_R p.tables e below F0 (T156.setTop (mkF m 62 #[.val (.int p0s), .val (.int p1s), .val (.int p2s), .val (.int p3s), .val (.int p4s), .val (.int (2 : Int32)), .val (.int z142), .val (.int z148), .val (.int z151), .val (.int z154), .val (.int z157), .unset, .unset, .unset, .unset] [(.int (2 : Int32))])) := fun tg_ kg_ => by
          refine r316 tg_ ?_
          show Steps p.tables e below (T156.setTop (mkF m 60 #[.val (.int p0s), .val (.int p1s), .val (.int p2s), .val (.int p3s), .val (.int p4s), .val (.int (2 : Int32)), .val (.int z142), .val (.int z148), .val (.int z151), .val (.int z154), .val (.int z157), .unset, .unset, .unset, .unset] [])) _
          refine XS.iload X156.here hx rfl (hb hby at_60) rfl ?_
          exact kg_
        obtain ⟨T318, h318, k318, X318, e318, E318, A318, st318⟩ := newP X156 hx hZ (hw _ (List.mem_of_getElem? (i := 4) rfl)) I156_0 (g := (mkF m 62 #[.val (.int p0s), .val (.int p1s), .val (.int p2s), .val (.int p3s), .val (.int p4s), .val (.int (2 : Int32)), .val (.int z142), .val (.int z148), .val (.int z151), .val (.int z154), .val (.int z157), .unset, .unset, .unset, .unset] [(.int (2 : Int32))])) rfl (hb hby at_62) rfl (by decide) (cap := 2) (by decide) (by decide) (by decide) (by decide)
        obtain ⟨b318, g318⟩ : ∃ z, z = h0.size := ⟨_, rfl⟩
        rw [← g318] at A318 st318
        have ge318 : n0 ≤ b318 := Nat.le_trans Z0 (Nat.le_of_eq g318.symm)
        have old318 : h0.size ≤ b318 := Nat.le_trans K0.1 (Nat.le_of_eq g318.symm)
        have K318 : Keep h0 h318 [] := K0.ext E318
        have Zs319 : n0 ≤ h318.size := Nat.le_trans Z0 E318.1
        have F320 : own_Arf Z h318 b318 .int 2 (fun i => (.int ((fun _ => (0 : Int32)) i))) := by
          have q := own_Arf.new A318 (by decide)
          rw [show ((2 : Int32)).toNatClampNeg = 2 from rfl] at q
          exact q
        have r318 : own_R p.tables e below F0 (T318.setTop (mkF m 64 #[.val (.int p0s), .val (.int p1s), .val (.int p2s), .val (.int p3s), .val (.int p4s), .val (.int (2 : Int32)), .val (.int z142), .val (.int z148), .val (.int z151), .val (.int z154), .val (.int z157), .unset, .unset, .unset, .unset] [(.ref b318)])) := fun tg_ kg_ => r317 tg_ (st318 tg_ kg_)
        have r321 : own_R p.tables e below F0 (T318.setTop (mkF m 76 #[.val (.int p0s), .val (.int p1s), .val (.int p2s), .val (.int p3s), .val (.int p4s), .val (.int (2 : Int32)), .val (.int z142), .val (.int z148), .val (.int z151), .val (.int z154), .val (.int z157), .val (.ref b318), .unset, .unset, .unset] [(.int z148), (.int (0 : Int32)), (.ref b318)])) := fun tg_ kg_ => by
          refine r318 tg_ ?_
          show Steps p.tables e below (T318.setTop (mkF m 64 #[.val (.int p0s), .val (.int p1s), .val (.int p2s), .val (.int p3s), .val (.int p4s), .val (.int (2 : Int32)), .val (.int z142), .val (.int z148), .val (.int z151), .val (.int z154), .val (.int z157), .unset, .unset, .unset, .unset] [(.ref b318)])) _
          refine XS.astore X318.here hx rfl (hb hby at_64) rfl rfl (l' := #[.val (.int p0s), .val (.int p1s), .val (.int p2s), .val (.int p3s), .val (.int p4s), .val (.int (2 : Int32)), .val (.int z142), .val (.int z148), .val (.int z151), .val (.int z154), .val (.int z157), .val (.ref b318), .unset, .unset, .unset]) rfl ?_
          show Steps p.tables e below (T318.setTop (mkF m 66 #[.val (.int p0s), .val (.int p1s), .val (.int p2s), .val (.int p3s), .val (.int p4s), .val (.int (2 : Int32)), .val (.int z142), .val (.int z148), .val (.int z151), .val (.int z154), .val (.int z157), .val (.ref b318), .unset, .unset, .unset] [])) _
          refine XS.iload X318.here hx rfl (hb hby at_66) rfl ?_
          show Steps p.tables e below (T318.setTop (mkF m 68 #[.val (.int p0s), .val (.int p1s), .val (.int p2s), .val (.int p3s), .val (.int p4s), .val (.int (2 : Int32)), .val (.int z142), .val (.int z148), .val (.int z151), .val (.int z154), .val (.int z157), .val (.ref b318), .unset, .unset, .unset] [(.int (2 : Int32))])) _
          refine XS.ifNo X318.here hx rfl (hb hby at_68) rfl ((if0 _ _).trans (tlt (show (0 : Int32) < (2 : Int32) from by decide)).2.2.2) ?_
          show Steps p.tables e below (T318.setTop (mkF m 71 #[.val (.int p0s), .val (.int p1s), .val (.int p2s), .val (.int p3s), .val (.int p4s), .val (.int (2 : Int32)), .val (.int z142), .val (.int z148), .val (.int z151), .val (.int z154), .val (.int z157), .val (.ref b318), .unset, .unset, .unset] [])) _
          refine XS.aload X318.here hx rfl (hb hby at_71) rfl rfl ?_
          show Steps p.tables e below (T318.setTop (mkF m 73 #[.val (.int p0s), .val (.int p1s), .val (.int p2s), .val (.int p3s), .val (.int p4s), .val (.int (2 : Int32)), .val (.int z142), .val (.int z148), .val (.int z151), .val (.int z154), .val (.int z157), .val (.ref b318), .unset, .unset, .unset] [(.ref b318)])) _
          refine XS.iconst X318.here hx rfl (hb hby at_73) ?_
          show Steps p.tables e below (T318.setTop (mkF m 74 #[.val (.int p0s), .val (.int p1s), .val (.int p2s), .val (.int p3s), .val (.int p4s), .val (.int (2 : Int32)), .val (.int z142), .val (.int z148), .val (.int z151), .val (.int z154), .val (.int z157), .val (.ref b318), .unset, .unset, .unset] [(.int (0 : Int32)), (.ref b318)])) _
          refine XS.iload X318.here hx rfl (hb hby at_74) rfl ?_
          exact kg_
        obtain ⟨T322, h322, X322, e322, W322, V322, st322⟩ := own_stI X318 hx hZ e318 (j := (0 : Int32)) F320 (by decide) (by decide) (g := (mkF m 76 #[.val (.int p0s), .val (.int p1s), .val (.int p2s), .val (.int p3s), .val (.int p4s), .val (.int (2 : Int32)), .val (.int z142), .val (.int z148), .val (.int z151), .val (.int z154), .val (.int z157), .val (.ref b318), .unset, .unset, .unset] [(.int z148), (.int (0 : Int32)), (.ref b318)])) rfl rfl (hb hby at_76)
        have V322 : own_Arf Z h322 b318 .int 2 (fun i => if i = 0 then (.int z148) else (.int ((fun _ => (0 : Int32)) i))) := V322
        obtain ⟨gf322, hgf322, V322'⟩ := own_nameI (g := (fun _ => (0 : Int32))) V322
        have F323 : own_Arf Z h322 b318 .int 2 (fun i => (.int (gf322 i))) := V322'
        have Zs324 : n0 ≤ h322.size := by rw [W322.size]; exact Zs319
        have N325 := Fr.snoc X322 N156 ge318
        have K326 : Keep h0 h322 [] := K318.wr W322 (Or.inr old318)
        have r322 : own_R p.tables e below F0 (T322.setTop (mkF m 77 #[.val (.int p0s), .val (.int p1s), .val (.int p2s), .val (.int p3s), .val (.int p4s), .val (.int (2 : Int32)), .val (.int z142), .val (.int z148), .val (.int z151), .val (.int z154), .val (.int z157), .val (.ref b318), .unset, .unset, .unset] [])) := fun tg_ kg_ => r321 tg_ (st322 tg_ kg_)
        have r327 : own_R p.tables e below F0 (T322.setTop (mkF m 88 #[.val (.int p0s), .val (.int p1s), .val (.int p2s), .val (.int p3s), .val (.int p4s), .val (.int (2 : Int32)), .val (.int z142), .val (.int z148), .val (.int z151), .val (.int z154), .val (.int z157), .val (.ref b318), .unset, .unset, .unset] [(.int z151), (.int (1 : Int32)), (.ref b318)])) := fun tg_ kg_ => by
          refine r322 tg_ ?_
          show Steps p.tables e below (T322.setTop (mkF m 77 #[.val (.int p0s), .val (.int p1s), .val (.int p2s), .val (.int p3s), .val (.int p4s), .val (.int (2 : Int32)), .val (.int z142), .val (.int z148), .val (.int z151), .val (.int z154), .val (.int z157), .val (.ref b318), .unset, .unset, .unset] [])) _
          refine XS.iload X322.here hx rfl (hb hby at_77) rfl ?_
          show Steps p.tables e below (T322.setTop (mkF m 79 #[.val (.int p0s), .val (.int p1s), .val (.int p2s), .val (.int p3s), .val (.int p4s), .val (.int (2 : Int32)), .val (.int z142), .val (.int z148), .val (.int z151), .val (.int z154), .val (.int z157), .val (.ref b318), .unset, .unset, .unset] [(.int (2 : Int32))])) _
          refine XS.iconst X322.here hx rfl (hb hby at_79) ?_
          show Steps p.tables e below (T322.setTop (mkF m 80 #[.val (.int p0s), .val (.int p1s), .val (.int p2s), .val (.int p3s), .val (.int p4s), .val (.int (2 : Int32)), .val (.int z142), .val (.int z148), .val (.int z151), .val (.int z154), .val (.int z157), .val (.ref b318), .unset, .unset, .unset] [(.int (1 : Int32)), (.int (2 : Int32))])) _
          refine XS.icmpNo X322.here hx rfl (hb hby at_80) rfl (tlt (show (1 : Int32) < (2 : Int32) from by decide)).2.2.2 ?_
          show Steps p.tables e below (T322.setTop (mkF m 83 #[.val (.int p0s), .val (.int p1s), .val (.int p2s), .val (.int p3s), .val (.int p4s), .val (.int (2 : Int32)), .val (.int z142), .val (.int z148), .val (.int z151), .val (.int z154), .val (.int z157), .val (.ref b318), .unset, .unset, .unset] [])) _
          refine XS.aload X322.here hx rfl (hb hby at_83) rfl rfl ?_
          show Steps p.tables e below (T322.setTop (mkF m 85 #[.val (.int p0s), .val (.int p1s), .val (.int p2s), .val (.int p3s), .val (.int p4s), .val (.int (2 : Int32)), .val (.int z142), .val (.int z148), .val (.int z151), .val (.int z154), .val (.int z157), .val (.ref b318), .unset, .unset, .unset] [(.ref b318)])) _
          refine XS.iconst X322.here hx rfl (hb hby at_85) ?_
          show Steps p.tables e below (T322.setTop (mkF m 86 #[.val (.int p0s), .val (.int p1s), .val (.int p2s), .val (.int p3s), .val (.int p4s), .val (.int (2 : Int32)), .val (.int z142), .val (.int z148), .val (.int z151), .val (.int z154), .val (.int z157), .val (.ref b318), .unset, .unset, .unset] [(.int (1 : Int32)), (.ref b318)])) _
          refine XS.iload X322.here hx rfl (hb hby at_86) rfl ?_
          exact kg_
        obtain ⟨T328, h328, X328, e328, W328, V328, st328⟩ := own_stI X322 hx hZ e322 (j := (1 : Int32)) F323 (by decide) (by decide) (g := (mkF m 88 #[.val (.int p0s), .val (.int p1s), .val (.int p2s), .val (.int p3s), .val (.int p4s), .val (.int (2 : Int32)), .val (.int z142), .val (.int z148), .val (.int z151), .val (.int z154), .val (.int z157), .val (.ref b318), .unset, .unset, .unset] [(.int z151), (.int (1 : Int32)), (.ref b318)])) rfl rfl (hb hby at_88)
        have V328 : own_Arf Z h328 b318 .int 2 (fun i => if i = 1 then (.int z151) else (.int (gf322 i))) := V328
        obtain ⟨gf328, hgf328, V328'⟩ := own_nameI (g := gf322) V328
        have F329 : own_Arf Z h328 b318 .int 2 (fun i => (.int (gf328 i))) := V328'
        have Zs330 : n0 ≤ h328.size := by rw [W328.size]; exact Zs324
        have N331 := Fr.snoc X328 N325 ge318
        have K332 : Keep h0 h328 [] := K326.wr W328 (Or.inr old318)
        have r328 : own_R p.tables e below F0 (T328.setTop (mkF m 89 #[.val (.int p0s), .val (.int p1s), .val (.int p2s), .val (.int p3s), .val (.int p4s), .val (.int (2 : Int32)), .val (.int z142), .val (.int z148), .val (.int z151), .val (.int z154), .val (.int z157), .val (.ref b318), .unset, .unset, .unset] [])) := fun tg_ kg_ => r327 tg_ (st328 tg_ kg_)
        have r333 : own_R p.tables e below F0 (T328.setTop (mkF m 113 #[.val (.int p0s), .val (.int p1s), .val (.int p2s), .val (.int p3s), .val (.int p4s), .val (.int (2 : Int32)), .val (.int z142), .val (.int z148), .val (.int z151), .val (.int z154), .val (.int z157), .val (.ref b318), .unset, .unset, .unset] [])) := fun tg_ kg_ => by
          refine r328 tg_ ?_
          show Steps p.tables e below (T328.setTop (mkF m 89 #[.val (.int p0s), .val (.int p1s), .val (.int p2s), .val (.int p3s), .val (.int p4s), .val (.int (2 : Int32)), .val (.int z142), .val (.int z148), .val (.int z151), .val (.int z154), .val (.int z157), .val (.ref b318), .unset, .unset, .unset] [])) _
          refine XS.iload X328.here hx rfl (hb hby at_89) rfl ?_
          show Steps p.tables e below (T328.setTop (mkF m 91 #[.val (.int p0s), .val (.int p1s), .val (.int p2s), .val (.int p3s), .val (.int p4s), .val (.int (2 : Int32)), .val (.int z142), .val (.int z148), .val (.int z151), .val (.int z154), .val (.int z157), .val (.ref b318), .unset, .unset, .unset] [(.int (2 : Int32))])) _
          refine XS.iconst X328.here hx rfl (hb hby at_91) ?_
          show Steps p.tables e below (T328.setTop (mkF m 92 #[.val (.int p0s), .val (.int p1s), .val (.int p2s), .val (.int p3s), .val (.int p4s), .val (.int (2 : Int32)), .val (.int z142), .val (.int z148), .val (.int z151), .val (.int z154), .val (.int z157), .val (.ref b318), .unset, .unset, .unset] [(.int (2 : Int32)), (.int (2 : Int32))])) _
          refine XS.icmpYes X328.here hx rfl (pc0 := 92) (pc' := 101) rfl (hb hby at_92) rfl (flt (show ¬ ((2 : Int32) < (2 : Int32)) from by decide)).2.2.2 (by decide) (by decide) ?_
          show Steps p.tables e below (T328.setTop (mkF m 101 #[.val (.int p0s), .val (.int p1s), .val (.int p2s), .val (.int p3s), .val (.int p4s), .val (.int (2 : Int32)), .val (.int z142), .val (.int z148), .val (.int z151), .val (.int z154), .val (.int z157), .val (.ref b318), .unset, .unset, .unset] [])) _
          refine XS.iload X328.here hx rfl (hb hby at_101) rfl ?_
          show Steps p.tables e below (T328.setTop (mkF m 103 #[.val (.int p0s), .val (.int p1s), .val (.int p2s), .val (.int p3s), .val (.int p4s), .val (.int (2 : Int32)), .val (.int z142), .val (.int z148), .val (.int z151), .val (.int z154), .val (.int z157), .val (.ref b318), .unset, .unset, .unset] [(.int (2 : Int32))])) _
          refine XS.iconst X328.here hx rfl (hb hby at_103) ?_
          show Steps p.tables e below (T328.setTop (mkF m 104 #[.val (.int p0s), .val (.int p1s), .val (.int p2s), .val (.int p3s), .val (.int p4s), .val (.int (2 : Int32)), .val (.int z142), .val (.int z148), .val (.int z151), .val (.int z154), .val (.int z157), .val (.ref b318), .unset, .unset, .unset] [(.int (3 : Int32)), (.int (2 : Int32))])) _
          refine XS.icmpYes X328.here hx rfl (pc0 := 104) (pc' := 113) rfl (hb hby at_104) rfl (flt (show ¬ ((3 : Int32) < (2 : Int32)) from by decide)).2.2.2 (by decide) (by decide) ?_
          exact kg_
        exact J159 (2 : Int32) b318 2 gf328 T328 _ _ (own_mono X328 (by decide) (by decide)) e328 N331 Zs330 K332 F329 (by decide) (by decide) (fun q => by have := hnn.2.2 q; rw [hn5] at this; revert this; decide) ⟨fun _ => (by rw [hgf328, if_neg (by decide), hgf322, if_pos rfl]), fun _ => (by rw [hgf328, if_pos rfl]), fun q => absurd q (by decide), fun q => absurd q (by decide)⟩ r333
      · have r334 : own_R p.tables e below F0 (T156.setTop (mkF m 60 #[.val (.int p0s), .val (.int p1s), .val (.int p2s), .val (.int p3s), .val (.int p4s), .val (.int (3 : Int32)), .val (.int z142), .val (.int z148), .val (.int z151), .val (.int z154), .val (.int z157), .unset, .unset, .unset, .unset] [])) := by rw [← hn5]; exact r158
        have r335 : own_R p.tables e below F0 (T156.setTop (mkF m 62 #[.val (.int p0s), .val (.int p1s), .val (.int p2s), .val (.int p3s), .val (.int p4s), .val (.int (3 : Int32)), .val (.int z142), .val (.int z148), .val (.int z151), .val (.int z154), .val (.int z157), .unset, .unset, .unset, .unset] [(.int (3 : Int32))])) := fun tg_ kg_ => by
          refine r334 tg_ ?_
          show Steps p.tables e below (T156.setTop (mkF m 60 #[.val (.int p0s), .val (.int p1s), .val (.int p2s), .val (.int p3s), .val (.int p4s), .val (.int (3 : Int32)), .val (.int z142), .val (.int z148), .val (.int z151), .val (.int z154), .val (.int z157), .unset, .unset, .unset, .unset] [])) _
          refine XS.iload X156.here hx rfl (hb hby at_60) rfl ?_
          exact kg_
        obtain ⟨T336, h336, k336, X336, e336, E336, A336, st336⟩ := newP X156 hx hZ (hw _ (List.mem_of_getElem? (i := 4) rfl)) I156_0 (g := (mkF m 62 #[.val (.int p0s), .val (.int p1s), .val (.int p2s), .val (.int p3s), .val (.int p4s), .val (.int (3 : Int32)), .val (.int z142), .val (.int z148), .val (.int z151), .val (.int z154), .val (.int z157), .unset, .unset, .unset, .unset] [(.int (3 : Int32))])) rfl (hb hby at_62) rfl (by decide) (cap := 3) (by decide) (by decide) (by decide) (by decide)
        obtain ⟨b336, g336⟩ : ∃ z, z = h0.size := ⟨_, rfl⟩
        rw [← g336] at A336 st336
        have ge336 : n0 ≤ b336 := Nat.le_trans Z0 (Nat.le_of_eq g336.symm)
        have old336 : h0.size ≤ b336 := Nat.le_trans K0.1 (Nat.le_of_eq g336.symm)
        have K336 : Keep h0 h336 [] := K0.ext E336
        have Zs337 : n0 ≤ h336.size := Nat.le_trans Z0 E336.1
        have F338 : own_Arf Z h336 b336 .int 3 (fun i => (.int ((fun _ => (0 : Int32)) i))) := by
          have q := own_Arf.new A336 (by decide)
          rw [show ((3 : Int32)).toNatClampNeg = 3 from rfl] at q
          exact q
        have r336 : own_R p.tables e below F0 (T336.setTop (mkF m 64 #[.val (.int p0s), .val (.int p1s), .val (.int p2s), .val (.int p3s), .val (.int p4s), .val (.int (3 : Int32)), .val (.int z142), .val (.int z148), .val (.int z151), .val (.int z154), .val (.int z157), .unset, .unset, .unset, .unset] [(.ref b336)])) := fun tg_ kg_ => r335 tg_ (st336 tg_ kg_)
        have r339 : own_R p.tables e below F0 (T336.setTop (mkF m 76 #[.val (.int p0s), .val (.int p1s), .val (.int p2s), .val (.int p3s), .val (.int p4s), .val (.int (3 : Int32)), .val (.int z142), .val (.int z148), .val (.int z151), .val (.int z154), .val (.int z157), .val (.ref b336), .unset, .unset, .unset] [(.int z148), (.int (0 : Int32)), (.ref b336)])) := fun tg_ kg_ => by
          refine r336 tg_ ?_
          show Steps p.tables e below (T336.setTop (mkF m 64 #[.val (.int p0s), .val (.int p1s), .val (.int p2s), .val (.int p3s), .val (.int p4s), .val (.int (3 : Int32)), .val (.int z142), .val (.int z148), .val (.int z151), .val (.int z154), .val (.int z157), .unset, .unset, .unset, .unset] [(.ref b336)])) _
          refine XS.astore X336.here hx rfl (hb hby at_64) rfl rfl (l' := #[.val (.int p0s), .val (.int p1s), .val (.int p2s), .val (.int p3s), .val (.int p4s), .val (.int (3 : Int32)), .val (.int z142), .val (.int z148), .val (.int z151), .val (.int z154), .val (.int z157), .val (.ref b336), .unset, .unset, .unset]) rfl ?_
          show Steps p.tables e below (T336.setTop (mkF m 66 #[.val (.int p0s), .val (.int p1s), .val (.int p2s), .val (.int p3s), .val (.int p4s), .val (.int (3 : Int32)), .val (.int z142), .val (.int z148), .val (.int z151), .val (.int z154), .val (.int z157), .val (.ref b336), .unset, .unset, .unset] [])) _
          refine XS.iload X336.here hx rfl (hb hby at_66) rfl ?_
          show Steps p.tables e below (T336.setTop (mkF m 68 #[.val (.int p0s), .val (.int p1s), .val (.int p2s), .val (.int p3s), .val (.int p4s), .val (.int (3 : Int32)), .val (.int z142), .val (.int z148), .val (.int z151), .val (.int z154), .val (.int z157), .val (.ref b336), .unset, .unset, .unset] [(.int (3 : Int32))])) _
          refine XS.ifNo X336.here hx rfl (hb hby at_68) rfl ((if0 _ _).trans (tlt (show (0 : Int32) < (3 : Int32) from by decide)).2.2.2) ?_
          show Steps p.tables e below (T336.setTop (mkF m 71 #[.val (.int p0s), .val (.int p1s), .val (.int p2s), .val (.int p3s), .val (.int p4s), .val (.int (3 : Int32)), .val (.int z142), .val (.int z148), .val (.int z151), .val (.int z154), .val (.int z157), .val (.ref b336), .unset, .unset, .unset] [])) _
          refine XS.aload X336.here hx rfl (hb hby at_71) rfl rfl ?_
          show Steps p.tables e below (T336.setTop (mkF m 73 #[.val (.int p0s), .val (.int p1s), .val (.int p2s), .val (.int p3s), .val (.int p4s), .val (.int (3 : Int32)), .val (.int z142), .val (.int z148), .val (.int z151), .val (.int z154), .val (.int z157), .val (.ref b336), .unset, .unset, .unset] [(.ref b336)])) _
          refine XS.iconst X336.here hx rfl (hb hby at_73) ?_
          show Steps p.tables e below (T336.setTop (mkF m 74 #[.val (.int p0s), .val (.int p1s), .val (.int p2s), .val (.int p3s), .val (.int p4s), .val (.int (3 : Int32)), .val (.int z142), .val (.int z148), .val (.int z151), .val (.int z154), .val (.int z157), .val (.ref b336), .unset, .unset, .unset] [(.int (0 : Int32)), (.ref b336)])) _
          refine XS.iload X336.here hx rfl (hb hby at_74) rfl ?_
          exact kg_
        obtain ⟨T340, h340, X340, e340, W340, V340, st340⟩ := own_stI X336 hx hZ e336 (j := (0 : Int32)) F338 (by decide) (by decide) (g := (mkF m 76 #[.val (.int p0s), .val (.int p1s), .val (.int p2s), .val (.int p3s), .val (.int p4s), .val (.int (3 : Int32)), .val (.int z142), .val (.int z148), .val (.int z151), .val (.int z154), .val (.int z157), .val (.ref b336), .unset, .unset, .unset] [(.int z148), (.int (0 : Int32)), (.ref b336)])) rfl rfl (hb hby at_76)
        have V340 : own_Arf Z h340 b336 .int 3 (fun i => if i = 0 then (.int z148) else (.int ((fun _ => (0 : Int32)) i))) := V340
        obtain ⟨gf340, hgf340, V340'⟩ := own_nameI (g := (fun _ => (0 : Int32))) V340
        have F341 : own_Arf Z h340 b336 .int 3 (fun i => (.int (gf340 i))) := V340'
        have Zs342 : n0 ≤ h340.size := by rw [W340.size]; exact Zs337
        have N343 := Fr.snoc X340 N156 ge336
        have K344 : Keep h0 h340 [] := K336.wr W340 (Or.inr old336)
        have r340 : own_R p.tables e below F0 (T340.setTop (mkF m 77 #[.val (.int p0s), .val (.int p1s), .val (.int p2s), .val (.int p3s), .val (.int p4s), .val (.int (3 : Int32)), .val (.int z142), .val (.int z148), .val (.int z151), .val (.int z154), .val (.int z157), .val (.ref b336), .unset, .unset, .unset] [])) := fun tg_ kg_ => r339 tg_ (st340 tg_ kg_)
        have r345 : own_R p.tables e below F0 (T340.setTop (mkF m 88 #[.val (.int p0s), .val (.int p1s), .val (.int p2s), .val (.int p3s), .val (.int p4s), .val (.int (3 : Int32)), .val (.int z142), .val (.int z148), .val (.int z151), .val (.int z154), .val (.int z157), .val (.ref b336), .unset, .unset, .unset] [(.int z151), (.int (1 : Int32)), (.ref b336)])) := fun tg_ kg_ => by
          refine r340 tg_ ?_
          show Steps p.tables e below (T340.setTop (mkF m 77 #[.val (.int p0s), .val (.int p1s), .val (.int p2s), .val (.int p3s), .val (.int p4s), .val (.int (3 : Int32)), .val (.int z142), .val (.int z148), .val (.int z151), .val (.int z154), .val (.int z157), .val (.ref b336), .unset, .unset, .unset] [])) _
          refine XS.iload X340.here hx rfl (hb hby at_77) rfl ?_
          show Steps p.tables e below (T340.setTop (mkF m 79 #[.val (.int p0s), .val (.int p1s), .val (.int p2s), .val (.int p3s), .val (.int p4s), .val (.int (3 : Int32)), .val (.int z142), .val (.int z148), .val (.int z151), .val (.int z154), .val (.int z157), .val (.ref b336), .unset, .unset, .unset] [(.int (3 : Int32))])) _
          refine XS.iconst X340.here hx rfl (hb hby at_79) ?_
          show Steps p.tables e below (T340.setTop (mkF m 80 #[.val (.int p0s), .val (.int p1s), .val (.int p2s), .val (.int p3s), .val (.int p4s), .val (.int (3 : Int32)), .val (.int z142), .val (.int z148), .val (.int z151), .val (.int z154), .val (.int z157), .val (.ref b336), .unset, .unset, .unset] [(.int (1 : Int32)), (.int (3 : Int32))])) _
          refine XS.icmpNo X340.here hx rfl (hb hby at_80) rfl (tlt (show (1 : Int32) < (3 : Int32) from by decide)).2.2.2 ?_
          show Steps p.tables e below (T340.setTop (mkF m 83 #[.val (.int p0s), .val (.int p1s), .val (.int p2s), .val (.int p3s), .val (.int p4s), .val (.int (3 : Int32)), .val (.int z142), .val (.int z148), .val (.int z151), .val (.int z154), .val (.int z157), .val (.ref b336), .unset, .unset, .unset] [])) _
          refine XS.aload X340.here hx rfl (hb hby at_83) rfl rfl ?_
          show Steps p.tables e below (T340.setTop (mkF m 85 #[.val (.int p0s), .val (.int p1s), .val (.int p2s), .val (.int p3s), .val (.int p4s), .val (.int (3 : Int32)), .val (.int z142), .val (.int z148), .val (.int z151), .val (.int z154), .val (.int z157), .val (.ref b336), .unset, .unset, .unset] [(.ref b336)])) _
          refine XS.iconst X340.here hx rfl (hb hby at_85) ?_
          show Steps p.tables e below (T340.setTop (mkF m 86 #[.val (.int p0s), .val (.int p1s), .val (.int p2s), .val (.int p3s), .val (.int p4s), .val (.int (3 : Int32)), .val (.int z142), .val (.int z148), .val (.int z151), .val (.int z154), .val (.int z157), .val (.ref b336), .unset, .unset, .unset] [(.int (1 : Int32)), (.ref b336)])) _
          refine XS.iload X340.here hx rfl (hb hby at_86) rfl ?_
          exact kg_
        obtain ⟨T346, h346, X346, e346, W346, V346, st346⟩ := own_stI X340 hx hZ e340 (j := (1 : Int32)) F341 (by decide) (by decide) (g := (mkF m 88 #[.val (.int p0s), .val (.int p1s), .val (.int p2s), .val (.int p3s), .val (.int p4s), .val (.int (3 : Int32)), .val (.int z142), .val (.int z148), .val (.int z151), .val (.int z154), .val (.int z157), .val (.ref b336), .unset, .unset, .unset] [(.int z151), (.int (1 : Int32)), (.ref b336)])) rfl rfl (hb hby at_88)
        have V346 : own_Arf Z h346 b336 .int 3 (fun i => if i = 1 then (.int z151) else (.int (gf340 i))) := V346
        obtain ⟨gf346, hgf346, V346'⟩ := own_nameI (g := gf340) V346
        have F347 : own_Arf Z h346 b336 .int 3 (fun i => (.int (gf346 i))) := V346'
        have Zs348 : n0 ≤ h346.size := by rw [W346.size]; exact Zs342
        have N349 := Fr.snoc X346 N343 ge336
        have K350 : Keep h0 h346 [] := K344.wr W346 (Or.inr old336)
        have r346 : own_R p.tables e below F0 (T346.setTop (mkF m 89 #[.val (.int p0s), .val (.int p1s), .val (.int p2s), .val (.int p3s), .val (.int p4s), .val (.int (3 : Int32)), .val (.int z142), .val (.int z148), .val (.int z151), .val (.int z154), .val (.int z157), .val (.ref b336), .unset, .unset, .unset] [])) := fun tg_ kg_ => r345 tg_ (st346 tg_ kg_)
        have r351 : own_R p.tables e below F0 (T346.setTop (mkF m 100 #[.val (.int p0s), .val (.int p1s), .val (.int p2s), .val (.int p3s), .val (.int p4s), .val (.int (3 : Int32)), .val (.int z142), .val (.int z148), .val (.int z151), .val (.int z154), .val (.int z157), .val (.ref b336), .unset, .unset, .unset] [(.int z154), (.int (2 : Int32)), (.ref b336)])) := fun tg_ kg_ => by
          refine r346 tg_ ?_
          show Steps p.tables e below (T346.setTop (mkF m 89 #[.val (.int p0s), .val (.int p1s), .val (.int p2s), .val (.int p3s), .val (.int p4s), .val (.int (3 : Int32)), .val (.int z142), .val (.int z148), .val (.int z151), .val (.int z154), .val (.int z157), .val (.ref b336), .unset, .unset, .unset] [])) _
          refine XS.iload X346.here hx rfl (hb hby at_89) rfl ?_
          show Steps p.tables e below (T346.setTop (mkF m 91 #[.val (.int p0s), .val (.int p1s), .val (.int p2s), .val (.int p3s), .val (.int p4s), .val (.int (3 : Int32)), .val (.int z142), .val (.int z148), .val (.int z151), .val (.int z154), .val (.int z157), .val (.ref b336), .unset, .unset, .unset] [(.int (3 : Int32))])) _
          refine XS.iconst X346.here hx rfl (hb hby at_91) ?_
          show Steps p.tables e below (T346.setTop (mkF m 92 #[.val (.int p0s), .val (.int p1s), .val (.int p2s), .val (.int p3s), .val (.int p4s), .val (.int (3 : Int32)), .val (.int z142), .val (.int z148), .val (.int z151), .val (.int z154), .val (.int z157), .val (.ref b336), .unset, .unset, .unset] [(.int (2 : Int32)), (.int (3 : Int32))])) _
          refine XS.icmpNo X346.here hx rfl (hb hby at_92) rfl (tlt (show (2 : Int32) < (3 : Int32) from by decide)).2.2.2 ?_
          show Steps p.tables e below (T346.setTop (mkF m 95 #[.val (.int p0s), .val (.int p1s), .val (.int p2s), .val (.int p3s), .val (.int p4s), .val (.int (3 : Int32)), .val (.int z142), .val (.int z148), .val (.int z151), .val (.int z154), .val (.int z157), .val (.ref b336), .unset, .unset, .unset] [])) _
          refine XS.aload X346.here hx rfl (hb hby at_95) rfl rfl ?_
          show Steps p.tables e below (T346.setTop (mkF m 97 #[.val (.int p0s), .val (.int p1s), .val (.int p2s), .val (.int p3s), .val (.int p4s), .val (.int (3 : Int32)), .val (.int z142), .val (.int z148), .val (.int z151), .val (.int z154), .val (.int z157), .val (.ref b336), .unset, .unset, .unset] [(.ref b336)])) _
          refine XS.iconst X346.here hx rfl (hb hby at_97) ?_
          show Steps p.tables e below (T346.setTop (mkF m 98 #[.val (.int p0s), .val (.int p1s), .val (.int p2s), .val (.int p3s), .val (.int p4s), .val (.int (3 : Int32)), .val (.int z142), .val (.int z148), .val (.int z151), .val (.int z154), .val (.int z157), .val (.ref b336), .unset, .unset, .unset] [(.int (2 : Int32)), (.ref b336)])) _
          refine XS.iload X346.here hx rfl (hb hby at_98) rfl ?_
          exact kg_
        obtain ⟨T352, h352, X352, e352, W352, V352, st352⟩ := own_stI X346 hx hZ e346 (j := (2 : Int32)) F347 (by decide) (by decide) (g := (mkF m 100 #[.val (.int p0s), .val (.int p1s), .val (.int p2s), .val (.int p3s), .val (.int p4s), .val (.int (3 : Int32)), .val (.int z142), .val (.int z148), .val (.int z151), .val (.int z154), .val (.int z157), .val (.ref b336), .unset, .unset, .unset] [(.int z154), (.int (2 : Int32)), (.ref b336)])) rfl rfl (hb hby at_100)
        have V352 : own_Arf Z h352 b336 .int 3 (fun i => if i = 2 then (.int z154) else (.int (gf346 i))) := V352
        obtain ⟨gf352, hgf352, V352'⟩ := own_nameI (g := gf346) V352
        have F353 : own_Arf Z h352 b336 .int 3 (fun i => (.int (gf352 i))) := V352'
        have Zs354 : n0 ≤ h352.size := by rw [W352.size]; exact Zs348
        have N355 := Fr.snoc X352 N349 ge336
        have K356 : Keep h0 h352 [] := K350.wr W352 (Or.inr old336)
        have r352 : own_R p.tables e below F0 (T352.setTop (mkF m 101 #[.val (.int p0s), .val (.int p1s), .val (.int p2s), .val (.int p3s), .val (.int p4s), .val (.int (3 : Int32)), .val (.int z142), .val (.int z148), .val (.int z151), .val (.int z154), .val (.int z157), .val (.ref b336), .unset, .unset, .unset] [])) := fun tg_ kg_ => r351 tg_ (st352 tg_ kg_)
        have r357 : own_R p.tables e below F0 (T352.setTop (mkF m 113 #[.val (.int p0s), .val (.int p1s), .val (.int p2s), .val (.int p3s), .val (.int p4s), .val (.int (3 : Int32)), .val (.int z142), .val (.int z148), .val (.int z151), .val (.int z154), .val (.int z157), .val (.ref b336), .unset, .unset, .unset] [])) := fun tg_ kg_ => by
          refine r352 tg_ ?_
          show Steps p.tables e below (T352.setTop (mkF m 101 #[.val (.int p0s), .val (.int p1s), .val (.int p2s), .val (.int p3s), .val (.int p4s), .val (.int (3 : Int32)), .val (.int z142), .val (.int z148), .val (.int z151), .val (.int z154), .val (.int z157), .val (.ref b336), .unset, .unset, .unset] [])) _
          refine XS.iload X352.here hx rfl (hb hby at_101) rfl ?_
          show Steps p.tables e below (T352.setTop (mkF m 103 #[.val (.int p0s), .val (.int p1s), .val (.int p2s), .val (.int p3s), .val (.int p4s), .val (.int (3 : Int32)), .val (.int z142), .val (.int z148), .val (.int z151), .val (.int z154), .val (.int z157), .val (.ref b336), .unset, .unset, .unset] [(.int (3 : Int32))])) _
          refine XS.iconst X352.here hx rfl (hb hby at_103) ?_
          show Steps p.tables e below (T352.setTop (mkF m 104 #[.val (.int p0s), .val (.int p1s), .val (.int p2s), .val (.int p3s), .val (.int p4s), .val (.int (3 : Int32)), .val (.int z142), .val (.int z148), .val (.int z151), .val (.int z154), .val (.int z157), .val (.ref b336), .unset, .unset, .unset] [(.int (3 : Int32)), (.int (3 : Int32))])) _
          refine XS.icmpYes X352.here hx rfl (pc0 := 104) (pc' := 113) rfl (hb hby at_104) rfl (flt (show ¬ ((3 : Int32) < (3 : Int32)) from by decide)).2.2.2 (by decide) (by decide) ?_
          exact kg_
        exact J159 (3 : Int32) b336 3 gf352 T352 _ _ (own_mono X352 (by decide) (by decide)) e352 N355 Zs354 K356 F353 (by decide) (by decide) (fun q => by have := hnn.2.2 q; rw [hn5] at this; revert this; decide) ⟨fun _ => (by rw [hgf352, if_neg (by decide), hgf346, if_neg (by decide), hgf340, if_pos rfl]), fun _ => (by rw [hgf352, if_neg (by decide), hgf346, if_pos rfl]), fun _ => (by rw [hgf352, if_pos rfl]), fun q => absurd q (by decide)⟩ r357
      · have r358 : own_R p.tables e below F0 (T156.setTop (mkF m 60 #[.val (.int p0s), .val (.int p1s), .val (.int p2s), .val (.int p3s), .val (.int p4s), .val (.int (4 : Int32)), .val (.int z142), .val (.int z148), .val (.int z151), .val (.int z154), .val (.int z157), .unset, .unset, .unset, .unset] [])) := by rw [← hn5]; exact r158
        have r359 : own_R p.tables e below F0 (T156.setTop (mkF m 62 #[.val (.int p0s), .val (.int p1s), .val (.int p2s), .val (.int p3s), .val (.int p4s), .val (.int (4 : Int32)), .val (.int z142), .val (.int z148), .val (.int z151), .val (.int z154), .val (.int z157), .unset, .unset, .unset, .unset] [(.int (4 : Int32))])) := fun tg_ kg_ => by
          refine r358 tg_ ?_
          show Steps p.tables e below (T156.setTop (mkF m 60 #[.val (.int p0s), .val (.int p1s), .val (.int p2s), .val (.int p3s), .val (.int p4s), .val (.int (4 : Int32)), .val (.int z142), .val (.int z148), .val (.int z151), .val (.int z154), .val (.int z157), .unset, .unset, .unset, .unset] [])) _
          refine XS.iload X156.here hx rfl (hb hby at_60) rfl ?_
          exact kg_
        obtain ⟨T360, h360, k360, X360, e360, E360, A360, st360⟩ := newP X156 hx hZ (hw _ (List.mem_of_getElem? (i := 4) rfl)) I156_0 (g := (mkF m 62 #[.val (.int p0s), .val (.int p1s), .val (.int p2s), .val (.int p3s), .val (.int p4s), .val (.int (4 : Int32)), .val (.int z142), .val (.int z148), .val (.int z151), .val (.int z154), .val (.int z157), .unset, .unset, .unset, .unset] [(.int (4 : Int32))])) rfl (hb hby at_62) rfl (by decide) (cap := 4) (by decide) (by decide) (by decide) (by decide)
        obtain ⟨b360, g360⟩ : ∃ z, z = h0.size := ⟨_, rfl⟩
        rw [← g360] at A360 st360
        have ge360 : n0 ≤ b360 := Nat.le_trans Z0 (Nat.le_of_eq g360.symm)
        have old360 : h0.size ≤ b360 := Nat.le_trans K0.1 (Nat.le_of_eq g360.symm)
        have K360 : Keep h0 h360 [] := K0.ext E360
        have Zs361 : n0 ≤ h360.size := Nat.le_trans Z0 E360.1
        have F362 : own_Arf Z h360 b360 .int 4 (fun i => (.int ((fun _ => (0 : Int32)) i))) := by
          have q := own_Arf.new A360 (by decide)
          rw [show ((4 : Int32)).toNatClampNeg = 4 from rfl] at q
          exact q
        have r360 : own_R p.tables e below F0 (T360.setTop (mkF m 64 #[.val (.int p0s), .val (.int p1s), .val (.int p2s), .val (.int p3s), .val (.int p4s), .val (.int (4 : Int32)), .val (.int z142), .val (.int z148), .val (.int z151), .val (.int z154), .val (.int z157), .unset, .unset, .unset, .unset] [(.ref b360)])) := fun tg_ kg_ => r359 tg_ (st360 tg_ kg_)
        have r363 : own_R p.tables e below F0 (T360.setTop (mkF m 76 #[.val (.int p0s), .val (.int p1s), .val (.int p2s), .val (.int p3s), .val (.int p4s), .val (.int (4 : Int32)), .val (.int z142), .val (.int z148), .val (.int z151), .val (.int z154), .val (.int z157), .val (.ref b360), .unset, .unset, .unset] [(.int z148), (.int (0 : Int32)), (.ref b360)])) := fun tg_ kg_ => by
          refine r360 tg_ ?_
          show Steps p.tables e below (T360.setTop (mkF m 64 #[.val (.int p0s), .val (.int p1s), .val (.int p2s), .val (.int p3s), .val (.int p4s), .val (.int (4 : Int32)), .val (.int z142), .val (.int z148), .val (.int z151), .val (.int z154), .val (.int z157), .unset, .unset, .unset, .unset] [(.ref b360)])) _
          refine XS.astore X360.here hx rfl (hb hby at_64) rfl rfl (l' := #[.val (.int p0s), .val (.int p1s), .val (.int p2s), .val (.int p3s), .val (.int p4s), .val (.int (4 : Int32)), .val (.int z142), .val (.int z148), .val (.int z151), .val (.int z154), .val (.int z157), .val (.ref b360), .unset, .unset, .unset]) rfl ?_
          show Steps p.tables e below (T360.setTop (mkF m 66 #[.val (.int p0s), .val (.int p1s), .val (.int p2s), .val (.int p3s), .val (.int p4s), .val (.int (4 : Int32)), .val (.int z142), .val (.int z148), .val (.int z151), .val (.int z154), .val (.int z157), .val (.ref b360), .unset, .unset, .unset] [])) _
          refine XS.iload X360.here hx rfl (hb hby at_66) rfl ?_
          show Steps p.tables e below (T360.setTop (mkF m 68 #[.val (.int p0s), .val (.int p1s), .val (.int p2s), .val (.int p3s), .val (.int p4s), .val (.int (4 : Int32)), .val (.int z142), .val (.int z148), .val (.int z151), .val (.int z154), .val (.int z157), .val (.ref b360), .unset, .unset, .unset] [(.int (4 : Int32))])) _
          refine XS.ifNo X360.here hx rfl (hb hby at_68) rfl ((if0 _ _).trans (tlt (show (0 : Int32) < (4 : Int32) from by decide)).2.2.2) ?_
          show Steps p.tables e below (T360.setTop (mkF m 71 #[.val (.int p0s), .val (.int p1s), .val (.int p2s), .val (.int p3s), .val (.int p4s), .val (.int (4 : Int32)), .val (.int z142), .val (.int z148), .val (.int z151), .val (.int z154), .val (.int z157), .val (.ref b360), .unset, .unset, .unset] [])) _
          refine XS.aload X360.here hx rfl (hb hby at_71) rfl rfl ?_
          show Steps p.tables e below (T360.setTop (mkF m 73 #[.val (.int p0s), .val (.int p1s), .val (.int p2s), .val (.int p3s), .val (.int p4s), .val (.int (4 : Int32)), .val (.int z142), .val (.int z148), .val (.int z151), .val (.int z154), .val (.int z157), .val (.ref b360), .unset, .unset, .unset] [(.ref b360)])) _
          refine XS.iconst X360.here hx rfl (hb hby at_73) ?_
          show Steps p.tables e below (T360.setTop (mkF m 74 #[.val (.int p0s), .val (.int p1s), .val (.int p2s), .val (.int p3s), .val (.int p4s), .val (.int (4 : Int32)), .val (.int z142), .val (.int z148), .val (.int z151), .val (.int z154), .val (.int z157), .val (.ref b360), .unset, .unset, .unset] [(.int (0 : Int32)), (.ref b360)])) _
          refine XS.iload X360.here hx rfl (hb hby at_74) rfl ?_
          exact kg_
        obtain ⟨T364, h364, X364, e364, W364, V364, st364⟩ := own_stI X360 hx hZ e360 (j := (0 : Int32)) F362 (by decide) (by decide) (g := (mkF m 76 #[.val (.int p0s), .val (.int p1s), .val (.int p2s), .val (.int p3s), .val (.int p4s), .val (.int (4 : Int32)), .val (.int z142), .val (.int z148), .val (.int z151), .val (.int z154), .val (.int z157), .val (.ref b360), .unset, .unset, .unset] [(.int z148), (.int (0 : Int32)), (.ref b360)])) rfl rfl (hb hby at_76)
        have V364 : own_Arf Z h364 b360 .int 4 (fun i => if i = 0 then (.int z148) else (.int ((fun _ => (0 : Int32)) i))) := V364
        obtain ⟨gf364, hgf364, V364'⟩ := own_nameI (g := (fun _ => (0 : Int32))) V364
        have F365 : own_Arf Z h364 b360 .int 4 (fun i => (.int (gf364 i))) := V364'
        have Zs366 : n0 ≤ h364.size := by rw [W364.size]; exact Zs361
        have N367 := Fr.snoc X364 N156 ge360
        have K368 : Keep h0 h364 [] := K360.wr W364 (Or.inr old360)
        have r364 : own_R p.tables e below F0 (T364.setTop (mkF m 77 #[.val (.int p0s), .val (.int p1s), .val (.int p2s), .val (.int p3s), .val (.int p4s), .val (.int (4 : Int32)), .val (.int z142), .val (.int z148), .val (.int z151), .val (.int z154), .val (.int z157), .val (.ref b360), .unset, .unset, .unset] [])) := fun tg_ kg_ => r363 tg_ (st364 tg_ kg_)
        have r369 : own_R p.tables e below F0 (T364.setTop (mkF m 88 #[.val (.int p0s), .val (.int p1s), .val (.int p2s), .val (.int p3s), .val (.int p4s), .val (.int (4 : Int32)), .val (.int z142), .val (.int z148), .val (.int z151), .val (.int z154), .val (.int z157), .val (.ref b360), .unset, .unset, .unset] [(.int z151), (.int (1 : Int32)), (.ref b360)])) := fun tg_ kg_ => by
          refine r364 tg_ ?_
          show Steps p.tables e below (T364.setTop (mkF m 77 #[.val (.int p0s), .val (.int p1s), .val (.int p2s), .val (.int p3s), .val (.int p4s), .val (.int (4 : Int32)), .val (.int z142), .val (.int z148), .val (.int z151), .val (.int z154), .val (.int z157), .val (.ref b360), .unset, .unset, .unset] [])) _
          refine XS.iload X364.here hx rfl (hb hby at_77) rfl ?_
          show Steps p.tables e below (T364.setTop (mkF m 79 #[.val (.int p0s), .val (.int p1s), .val (.int p2s), .val (.int p3s), .val (.int p4s), .val (.int (4 : Int32)), .val (.int z142), .val (.int z148), .val (.int z151), .val (.int z154), .val (.int z157), .val (.ref b360), .unset, .unset, .unset] [(.int (4 : Int32))])) _
          refine XS.iconst X364.here hx rfl (hb hby at_79) ?_
          show Steps p.tables e below (T364.setTop (mkF m 80 #[.val (.int p0s), .val (.int p1s), .val (.int p2s), .val (.int p3s), .val (.int p4s), .val (.int (4 : Int32)), .val (.int z142), .val (.int z148), .val (.int z151), .val (.int z154), .val (.int z157), .val (.ref b360), .unset, .unset, .unset] [(.int (1 : Int32)), (.int (4 : Int32))])) _
          refine XS.icmpNo X364.here hx rfl (hb hby at_80) rfl (tlt (show (1 : Int32) < (4 : Int32) from by decide)).2.2.2 ?_
          show Steps p.tables e below (T364.setTop (mkF m 83 #[.val (.int p0s), .val (.int p1s), .val (.int p2s), .val (.int p3s), .val (.int p4s), .val (.int (4 : Int32)), .val (.int z142), .val (.int z148), .val (.int z151), .val (.int z154), .val (.int z157), .val (.ref b360), .unset, .unset, .unset] [])) _
          refine XS.aload X364.here hx rfl (hb hby at_83) rfl rfl ?_
          show Steps p.tables e below (T364.setTop (mkF m 85 #[.val (.int p0s), .val (.int p1s), .val (.int p2s), .val (.int p3s), .val (.int p4s), .val (.int (4 : Int32)), .val (.int z142), .val (.int z148), .val (.int z151), .val (.int z154), .val (.int z157), .val (.ref b360), .unset, .unset, .unset] [(.ref b360)])) _
          refine XS.iconst X364.here hx rfl (hb hby at_85) ?_
          show Steps p.tables e below (T364.setTop (mkF m 86 #[.val (.int p0s), .val (.int p1s), .val (.int p2s), .val (.int p3s), .val (.int p4s), .val (.int (4 : Int32)), .val (.int z142), .val (.int z148), .val (.int z151), .val (.int z154), .val (.int z157), .val (.ref b360), .unset, .unset, .unset] [(.int (1 : Int32)), (.ref b360)])) _
          refine XS.iload X364.here hx rfl (hb hby at_86) rfl ?_
          exact kg_
        obtain ⟨T370, h370, X370, e370, W370, V370, st370⟩ := own_stI X364 hx hZ e364 (j := (1 : Int32)) F365 (by decide) (by decide) (g := (mkF m 88 #[.val (.int p0s), .val (.int p1s), .val (.int p2s), .val (.int p3s), .val (.int p4s), .val (.int (4 : Int32)), .val (.int z142), .val (.int z148), .val (.int z151), .val (.int z154), .val (.int z157), .val (.ref b360), .unset, .unset, .unset] [(.int z151), (.int (1 : Int32)), (.ref b360)])) rfl rfl (hb hby at_88)
        have V370 : own_Arf Z h370 b360 .int 4 (fun i => if i = 1 then (.int z151) else (.int (gf364 i))) := V370
        obtain ⟨gf370, hgf370, V370'⟩ := own_nameI (g := gf364) V370
        have F371 : own_Arf Z h370 b360 .int 4 (fun i => (.int (gf370 i))) := V370'
        have Zs372 : n0 ≤ h370.size := by rw [W370.size]; exact Zs366
        have N373 := Fr.snoc X370 N367 ge360
        have K374 : Keep h0 h370 [] := K368.wr W370 (Or.inr old360)
        have r370 : own_R p.tables e below F0 (T370.setTop (mkF m 89 #[.val (.int p0s), .val (.int p1s), .val (.int p2s), .val (.int p3s), .val (.int p4s), .val (.int (4 : Int32)), .val (.int z142), .val (.int z148), .val (.int z151), .val (.int z154), .val (.int z157), .val (.ref b360), .unset, .unset, .unset] [])) := fun tg_ kg_ => r369 tg_ (st370 tg_ kg_)
        have r375 : own_R p.tables e below F0 (T370.setTop (mkF m 100 #[.val (.int p0s), .val (.int p1s), .val (.int p2s), .val (.int p3s), .val (.int p4s), .val (.int (4 : Int32)), .val (.int z142), .val (.int z148), .val (.int z151), .val (.int z154), .val (.int z157), .val (.ref b360), .unset, .unset, .unset] [(.int z154), (.int (2 : Int32)), (.ref b360)])) := fun tg_ kg_ => by
          refine r370 tg_ ?_
          show Steps p.tables e below (T370.setTop (mkF m 89 #[.val (.int p0s), .val (.int p1s), .val (.int p2s), .val (.int p3s), .val (.int p4s), .val (.int (4 : Int32)), .val (.int z142), .val (.int z148), .val (.int z151), .val (.int z154), .val (.int z157), .val (.ref b360), .unset, .unset, .unset] [])) _
          refine XS.iload X370.here hx rfl (hb hby at_89) rfl ?_
          show Steps p.tables e below (T370.setTop (mkF m 91 #[.val (.int p0s), .val (.int p1s), .val (.int p2s), .val (.int p3s), .val (.int p4s), .val (.int (4 : Int32)), .val (.int z142), .val (.int z148), .val (.int z151), .val (.int z154), .val (.int z157), .val (.ref b360), .unset, .unset, .unset] [(.int (4 : Int32))])) _
          refine XS.iconst X370.here hx rfl (hb hby at_91) ?_
          show Steps p.tables e below (T370.setTop (mkF m 92 #[.val (.int p0s), .val (.int p1s), .val (.int p2s), .val (.int p3s), .val (.int p4s), .val (.int (4 : Int32)), .val (.int z142), .val (.int z148), .val (.int z151), .val (.int z154), .val (.int z157), .val (.ref b360), .unset, .unset, .unset] [(.int (2 : Int32)), (.int (4 : Int32))])) _
          refine XS.icmpNo X370.here hx rfl (hb hby at_92) rfl (tlt (show (2 : Int32) < (4 : Int32) from by decide)).2.2.2 ?_
          show Steps p.tables e below (T370.setTop (mkF m 95 #[.val (.int p0s), .val (.int p1s), .val (.int p2s), .val (.int p3s), .val (.int p4s), .val (.int (4 : Int32)), .val (.int z142), .val (.int z148), .val (.int z151), .val (.int z154), .val (.int z157), .val (.ref b360), .unset, .unset, .unset] [])) _
          refine XS.aload X370.here hx rfl (hb hby at_95) rfl rfl ?_
          show Steps p.tables e below (T370.setTop (mkF m 97 #[.val (.int p0s), .val (.int p1s), .val (.int p2s), .val (.int p3s), .val (.int p4s), .val (.int (4 : Int32)), .val (.int z142), .val (.int z148), .val (.int z151), .val (.int z154), .val (.int z157), .val (.ref b360), .unset, .unset, .unset] [(.ref b360)])) _
          refine XS.iconst X370.here hx rfl (hb hby at_97) ?_
          show Steps p.tables e below (T370.setTop (mkF m 98 #[.val (.int p0s), .val (.int p1s), .val (.int p2s), .val (.int p3s), .val (.int p4s), .val (.int (4 : Int32)), .val (.int z142), .val (.int z148), .val (.int z151), .val (.int z154), .val (.int z157), .val (.ref b360), .unset, .unset, .unset] [(.int (2 : Int32)), (.ref b360)])) _
          refine XS.iload X370.here hx rfl (hb hby at_98) rfl ?_
          exact kg_
        obtain ⟨T376, h376, X376, e376, W376, V376, st376⟩ := own_stI X370 hx hZ e370 (j := (2 : Int32)) F371 (by decide) (by decide) (g := (mkF m 100 #[.val (.int p0s), .val (.int p1s), .val (.int p2s), .val (.int p3s), .val (.int p4s), .val (.int (4 : Int32)), .val (.int z142), .val (.int z148), .val (.int z151), .val (.int z154), .val (.int z157), .val (.ref b360), .unset, .unset, .unset] [(.int z154), (.int (2 : Int32)), (.ref b360)])) rfl rfl (hb hby at_100)
        have V376 : own_Arf Z h376 b360 .int 4 (fun i => if i = 2 then (.int z154) else (.int (gf370 i))) := V376
        obtain ⟨gf376, hgf376, V376'⟩ := own_nameI (g := gf370) V376
        have F377 : own_Arf Z h376 b360 .int 4 (fun i => (.int (gf376 i))) := V376'
        have Zs378 : n0 ≤ h376.size := by rw [W376.size]; exact Zs372
        have N379 := Fr.snoc X376 N373 ge360
        have K380 : Keep h0 h376 [] := K374.wr W376 (Or.inr old360)
        have r376 : own_R p.tables e below F0 (T376.setTop (mkF m 101 #[.val (.int p0s), .val (.int p1s), .val (.int p2s), .val (.int p3s), .val (.int p4s), .val (.int (4 : Int32)), .val (.int z142), .val (.int z148), .val (.int z151), .val (.int z154), .val (.int z157), .val (.ref b360), .unset, .unset, .unset] [])) := fun tg_ kg_ => r375 tg_ (st376 tg_ kg_)
        have r381 : own_R p.tables e below F0 (T376.setTop (mkF m 112 #[.val (.int p0s), .val (.int p1s), .val (.int p2s), .val (.int p3s), .val (.int p4s), .val (.int (4 : Int32)), .val (.int z142), .val (.int z148), .val (.int z151), .val (.int z154), .val (.int z157), .val (.ref b360), .unset, .unset, .unset] [(.int z157), (.int (3 : Int32)), (.ref b360)])) := fun tg_ kg_ => by
          refine r376 tg_ ?_
          show Steps p.tables e below (T376.setTop (mkF m 101 #[.val (.int p0s), .val (.int p1s), .val (.int p2s), .val (.int p3s), .val (.int p4s), .val (.int (4 : Int32)), .val (.int z142), .val (.int z148), .val (.int z151), .val (.int z154), .val (.int z157), .val (.ref b360), .unset, .unset, .unset] [])) _
          refine XS.iload X376.here hx rfl (hb hby at_101) rfl ?_
          show Steps p.tables e below (T376.setTop (mkF m 103 #[.val (.int p0s), .val (.int p1s), .val (.int p2s), .val (.int p3s), .val (.int p4s), .val (.int (4 : Int32)), .val (.int z142), .val (.int z148), .val (.int z151), .val (.int z154), .val (.int z157), .val (.ref b360), .unset, .unset, .unset] [(.int (4 : Int32))])) _
          refine XS.iconst X376.here hx rfl (hb hby at_103) ?_
          show Steps p.tables e below (T376.setTop (mkF m 104 #[.val (.int p0s), .val (.int p1s), .val (.int p2s), .val (.int p3s), .val (.int p4s), .val (.int (4 : Int32)), .val (.int z142), .val (.int z148), .val (.int z151), .val (.int z154), .val (.int z157), .val (.ref b360), .unset, .unset, .unset] [(.int (3 : Int32)), (.int (4 : Int32))])) _
          refine XS.icmpNo X376.here hx rfl (hb hby at_104) rfl (tlt (show (3 : Int32) < (4 : Int32) from by decide)).2.2.2 ?_
          show Steps p.tables e below (T376.setTop (mkF m 107 #[.val (.int p0s), .val (.int p1s), .val (.int p2s), .val (.int p3s), .val (.int p4s), .val (.int (4 : Int32)), .val (.int z142), .val (.int z148), .val (.int z151), .val (.int z154), .val (.int z157), .val (.ref b360), .unset, .unset, .unset] [])) _
          refine XS.aload X376.here hx rfl (hb hby at_107) rfl rfl ?_
          show Steps p.tables e below (T376.setTop (mkF m 109 #[.val (.int p0s), .val (.int p1s), .val (.int p2s), .val (.int p3s), .val (.int p4s), .val (.int (4 : Int32)), .val (.int z142), .val (.int z148), .val (.int z151), .val (.int z154), .val (.int z157), .val (.ref b360), .unset, .unset, .unset] [(.ref b360)])) _
          refine XS.iconst X376.here hx rfl (hb hby at_109) ?_
          show Steps p.tables e below (T376.setTop (mkF m 110 #[.val (.int p0s), .val (.int p1s), .val (.int p2s), .val (.int p3s), .val (.int p4s), .val (.int (4 : Int32)), .val (.int z142), .val (.int z148), .val (.int z151), .val (.int z154), .val (.int z157), .val (.ref b360), .unset, .unset, .unset] [(.int (3 : Int32)), (.ref b360)])) _
          refine XS.iload X376.here hx rfl (hb hby at_110) rfl ?_
          exact kg_
        obtain ⟨T382, h382, X382, e382, W382, V382, st382⟩ := own_stI X376 hx hZ e376 (j := (3 : Int32)) F377 (by decide) (by decide) (g := (mkF m 112 #[.val (.int p0s), .val (.int p1s), .val (.int p2s), .val (.int p3s), .val (.int p4s), .val (.int (4 : Int32)), .val (.int z142), .val (.int z148), .val (.int z151), .val (.int z154), .val (.int z157), .val (.ref b360), .unset, .unset, .unset] [(.int z157), (.int (3 : Int32)), (.ref b360)])) rfl rfl (hb hby at_112)
        have V382 : own_Arf Z h382 b360 .int 4 (fun i => if i = 3 then (.int z157) else (.int (gf376 i))) := V382
        obtain ⟨gf382, hgf382, V382'⟩ := own_nameI (g := gf376) V382
        have F383 : own_Arf Z h382 b360 .int 4 (fun i => (.int (gf382 i))) := V382'
        have Zs384 : n0 ≤ h382.size := by rw [W382.size]; exact Zs378
        have N385 := Fr.snoc X382 N379 ge360
        have K386 : Keep h0 h382 [] := K380.wr W382 (Or.inr old360)
        have r382 : own_R p.tables e below F0 (T382.setTop (mkF m 113 #[.val (.int p0s), .val (.int p1s), .val (.int p2s), .val (.int p3s), .val (.int p4s), .val (.int (4 : Int32)), .val (.int z142), .val (.int z148), .val (.int z151), .val (.int z154), .val (.int z157), .val (.ref b360), .unset, .unset, .unset] [])) := fun tg_ kg_ => r381 tg_ (st382 tg_ kg_)
        exact J159 (4 : Int32) b360 4 gf382 T382 _ _ X382 e382 N385 Zs384 K386 F383 (by decide) (by decide) (fun q => by have := hnn.2.2 q; rw [hn5] at this; revert this; decide) ⟨fun _ => (by rw [hgf382, if_neg (by decide), hgf376, if_neg (by decide), hgf370, if_neg (by decide), hgf364, if_pos rfl]), fun _ => (by rw [hgf382, if_neg (by decide), hgf376, if_neg (by decide), hgf370, if_pos rfl]), fun _ => (by rw [hgf382, if_neg (by decide), hgf376, if_pos rfl]), fun _ => (by rw [hgf382, if_pos rfl])⟩ r382
    by_cases hc387 : z142 = (0 : Int32)
    · have r388 : own_R p.tables e below F0 (s₁.setTop (mkF m 27 #[.val (.int p0s), .val (.int p1s), .val (.int p2s), .val (.int p3s), .val (.int p4s), .val (.int (0 : Int32)), .val (.int z142), .unset, .unset, .unset, .unset, .unset, .unset, .unset, .unset] [])) := fun tg_ kg_ => by
        refine r143 tg_ ?_
        show Steps p.tables e below (s₁.setTop (mkF m 21 #[.val (.int p0s), .val (.int p1s), .val (.int p2s), .val (.int p3s), .val (.int p4s), .val (.int z141), .val (.int z142), .unset, .unset, .unset, .unset, .unset, .unset, .unset, .unset] [(.int z142)])) _
        refine XS.ifNo X0.here hx rfl (hb hby at_21) rfl ((if0 _ _).trans (teq hc387).2) ?_
        show Steps p.tables e below (s₁.setTop (mkF m 24 #[.val (.int p0s), .val (.int p1s), .val (.int p2s), .val (.int p3s), .val (.int p4s), .val (.int z141), .val (.int z142), .unset, .unset, .unset, .unset, .unset, .unset, .unset, .unset] [])) _
        refine XS.iconst X0.here hx rfl (hb hby at_24) ?_
        show Steps p.tables e below (s₁.setTop (mkF m 25 #[.val (.int p0s), .val (.int p1s), .val (.int p2s), .val (.int p3s), .val (.int p4s), .val (.int z141), .val (.int z142), .unset, .unset, .unset, .unset, .unset, .unset, .unset, .unset] [(.int (0 : Int32))])) _
        refine XS.istore X0.here hx rfl (hb hby at_25) rfl (l' := #[.val (.int p0s), .val (.int p1s), .val (.int p2s), .val (.int p3s), .val (.int p4s), .val (.int (0 : Int32)), .val (.int z142), .unset, .unset, .unset, .unset, .unset, .unset, .unset, .unset]) rfl ?_
        exact kg_
      exact J144 (0 : Int32) (by
                have q159_r := own_R32 p0s
                have q160_e : (3 : Int32).toInt = 3 := (by decide)
                have q160_r : (3 : Int) ≤ (3 : Int32).toInt ∧ (3 : Int32).toInt ≤ 3 := ⟨Int.le_of_eq q160_e.symm, Int.le_of_eq q160_e⟩
                have q161_r := own_R32 ((p0s.toUInt32 >>> ((3 : Int32) &&& 31).toUInt32).toInt32)
                have q162_ := own_iushr p0s (3 : Int32) 3 8 (by decide) (by decide) (by decide)
                have q163_e : (7 : Int32).toInt = 7 := (by decide)
                have q163_r : (7 : Int) ≤ (7 : Int32).toInt ∧ (7 : Int32).toInt ≤ 7 := ⟨Int.le_of_eq q163_e.symm, Int.le_of_eq q163_e⟩
                have q164_ := own_maskR ((p0s.toUInt32 >>> ((3 : Int32) &&& 31).toUInt32).toInt32) (7 : Int32) 3 8 (by decide) (by decide) (by decide) 7 (by decide) (by decide)
                have q164_e := q164_.1
                have q164_r := q164_.2
                have q165_e : (6 : Int32).toInt = 6 := (by decide)
                have q165_r : (6 : Int) ≤ (6 : Int32).toInt ∧ (6 : Int32).toInt ≤ 6 := ⟨Int.le_of_eq q165_e.symm, Int.le_of_eq q165_e⟩
                have q166_ := own_iremR 5 q164_r (show (6 : Int32).toInt = 6 from by decide) (by decide) (by decide) (by decide)
                have q166_e := q166_.1
                have q166_r := q166_.2
                have q167_ := own_eqR32 hz142 q166_r
                have q167_e := q167_.1
                have q167_r := q167_.2
                have q168_e : (0 : Int32).toInt = 0 := (by decide)
                have q168_r : (0 : Int) ≤ (0 : Int32).toInt ∧ (0 : Int32).toInt ≤ 0 := ⟨Int.le_of_eq q168_e.symm, Int.le_of_eq q168_e⟩
                have q169_c := own_eq32 hc387
                omega) r388
    · have r389 : own_R p.tables e below F0 (s₁.setTop (mkF m 27 #[.val (.int p0s), .val (.int p1s), .val (.int p2s), .val (.int p3s), .val (.int p4s), .val (.int z141), .val (.int z142), .unset, .unset, .unset, .unset, .unset, .unset, .unset, .unset] [])) := fun tg_ kg_ => by
        refine r143 tg_ ?_
        show Steps p.tables e below (s₁.setTop (mkF m 21 #[.val (.int p0s), .val (.int p1s), .val (.int p2s), .val (.int p3s), .val (.int p4s), .val (.int z141), .val (.int z142), .unset, .unset, .unset, .unset, .unset, .unset, .unset, .unset] [(.int z142)])) _
        refine XS.ifYes X0.here hx rfl (pc0 := 21) (pc' := 27) rfl (hb hby at_21) rfl ((if0 _ _).trans (feq hc387).2) (by decide) (by decide) ?_
        exact kg_
      exact J144 z141 (by
                have q170_r := own_R32 p0s
                have q171_e : (3 : Int32).toInt = 3 := (by decide)
                have q171_r : (3 : Int) ≤ (3 : Int32).toInt ∧ (3 : Int32).toInt ≤ 3 := ⟨Int.le_of_eq q171_e.symm, Int.le_of_eq q171_e⟩
                have q172_r := own_R32 ((p0s.toUInt32 >>> ((3 : Int32) &&& 31).toUInt32).toInt32)
                have q173_ := own_iushr p0s (3 : Int32) 3 8 (by decide) (by decide) (by decide)
                have q174_e : (7 : Int32).toInt = 7 := (by decide)
                have q174_r : (7 : Int) ≤ (7 : Int32).toInt ∧ (7 : Int32).toInt ≤ 7 := ⟨Int.le_of_eq q174_e.symm, Int.le_of_eq q174_e⟩
                have q175_ := own_maskR ((p0s.toUInt32 >>> ((3 : Int32) &&& 31).toUInt32).toInt32) (7 : Int32) 3 8 (by decide) (by decide) (by decide) 7 (by decide) (by decide)
                have q175_e := q175_.1
                have q175_r := q175_.2
                have q176_e : (6 : Int32).toInt = 6 := (by decide)
                have q176_r : (6 : Int) ≤ (6 : Int32).toInt ∧ (6 : Int32).toInt ≤ 6 := ⟨Int.le_of_eq q176_e.symm, Int.le_of_eq q176_e⟩
                have q177_ := own_iremR 5 q175_r (show (6 : Int32).toInt = 6 from by decide) (by decide) (by decide) (by decide)
                have q177_e := q177_.1
                have q177_r := q177_.2
                have q178_ := own_eqR32 hz142 q177_r
                have q178_e := q178_.1
                have q178_r := q178_.2
                have q179_e : (0 : Int32).toInt = 0 := (by decide)
                have q179_r : (0 : Int) ≤ (0 : Int32).toInt ∧ (0 : Int32).toInt ≤ 0 := ⟨Int.le_of_eq q179_e.symm, Int.le_of_eq q179_e⟩
                have q180_ := own_maskR p0s (7 : Int32) 3 8 (by decide) (by decide) (by decide) 7 (by decide) (by decide)
                have q180_e := q180_.1
                have q180_r := q180_.2
                have q181_e : (5 : Int32).toInt = 5 := (by decide)
                have q181_r : (5 : Int) ≤ (5 : Int32).toInt ∧ (5 : Int32).toInt ≤ 5 := ⟨Int.le_of_eq q181_e.symm, Int.le_of_eq q181_e⟩
                have q182_ := own_iremR 4 q180_r (show (5 : Int32).toInt = 5 from by decide) (by decide) (by decide) (by decide)
                have q182_e := q182_.1
                have q182_r := q182_.2
                have q183_ := own_eqR32 hz141 q182_r
                have q183_e := q183_.1
                have q183_r := q183_.2
                have q184_c := own_ne32 hc387
                omega) r389
  exact key _ _ id (fun t k => castTop (ef_0 m p0s p1s p2s p3s p4s) k)
set_option maxRecDepth 65536 in
set_option maxHeartbeats 40000000 in
theorem comes_1 {Post : Tables → Env → Array Value → State → Outcome → State → Prop} (hpost : ∀ tb e args s v u, (limb_1_1.after args s (.returned v) u = true ∧ limb_1_2.after args s (.returned v) u = true ∧ True) → FrameEnd s (.returned v) u (Jvm.fieldLocs frame_1_writes args s ++ Jvm.arrayLocs frame_1_arrays args s ++ Jvm.staticLocs frame_1_statics s) 16 128 → Post tb e args s (.returned v) u) :
    ArmFor flags0 classFile x code maxLocals ret World_1 tables_1 room_1 Calls_1 rest_1 Pre_1 Post := by
  intro l hfl _ _ p e ha hc hk s m args below hf hA hF happ hP
  obtain ⟨hcalls, hrest, hpre⟩ := hP
  obtain ⟨-, -, -, hnamed, -, -, -, hat⟩ := (Spec.applies_iff hf).mp happ
  obtain ⟨hg, hn⟩ := and_e (Cond.before_iff.mp (show (Jvm.Cond.and given_1 narrow_1).before args s = true from hpre))
  obtain ⟨gw1, gw2⟩ := and_e hg
  obtain ⟨gw3, gw4⟩ := and_e gw2
  obtain ⟨gw5, gw6⟩ := and_e gw4
  obtain ⟨gw7, gw8⟩ := and_e gw6
  obtain ⟨gw9, gw10⟩ := and_e gw8
  obtain ⟨w0, w1, w2, w3, w4, rfl⟩ : ∃ w0 w1 w2 w3 w4 : Value, args = #[w0, w1, w2, w3, w4] := by
    have hs : args.size = 5 := by simpa [Cond.value, given_1] using gw1
    obtain ⟨L⟩ := args
    match L, hs with
    | [w0, w1, w2, w3, w4], _ => exact ⟨w0, w1, w2, w3, w4, rfl⟩
  have hw := fun d (hd : d ∈ tables_1) => atoms_spec (ws := Jvm.Cond.code x code maxLocals ret :: tables_1) hat d (List.mem_cons_of_mem _ hd)
  have hfit : Fit s := fun {y c} hc i hi => by
    obtain ⟨ha, rfl⟩ := Array.getElem?_eq_some_iff.mp hc
    have q := List.all_eq_true.mp ((Array.all_eq_true_iff_forall_mem.mp hF) _ (Array.getElem_mem ha)) i (List.mem_range.mpr hi)
    simpa [Array.getElem?_eq_getElem hi] using q
  obtain ⟨i0, ei0⟩ := is_v gw3
  obtain rfl : w0 = (.int i0) := Option.some.inj ei0
  obtain ⟨i1, ei1⟩ := is_v gw5
  obtain rfl : w1 = (.int i1) := Option.some.inj ei1
  obtain ⟨i2, ei2⟩ := is_v gw7
  obtain rfl : w2 = (.int i2) := Option.some.inj ei2
  obtain ⟨i3, ei3⟩ := is_v gw9
  obtain rfl : w3 = (.int i3) := Option.some.inj ei3
  obtain ⟨i4, ei4⟩ := is_v gw10
  obtain rfl : w4 = (.int i4) := Option.some.inj ei4
  obtain ⟨n, o, h1, h2, h3, _, L, rfl, ⟨rfl, N⟩, hq⟩ := rm0 l s _ hw tables_1 i0 i1 i2 i3 i4  s.heap s.heap.size (Nat.le_refl _)  p e ha hc hk s m _ below hf ((Spec.applies_iff_loose hf).mp happ).1 ⟨rfl, State.Warmed39.refl s, rfl⟩ trivial
  refine ⟨n, _, h1, h2, h3, hpost _ _ _ _ _ _ ⟨Cond.after_iff.mpr rfl, Cond.after_iff.mpr (eq_i res_at (Term.int_eval (1)) rfl), trivial⟩ ⟨hq.1, hq.2.1, (hq.2.2.sift fun y hy => Or.inr (N y hy)).mono (by decide) (by decide)⟩⟩
theorem main_1_1 : Claimed_1_1 := comes_1 fun _ _ _ _ _ _ h hF => ⟨h.1, hF⟩
theorem main_1_2 : Claimed_1_2 := comes_1 fun _ _ _ _ _ _ h hF => ⟨h.2.1, hF⟩
end Jvm.Pilot.@@N@@
namespace Jvm.Pilot.@@N@@
open Jvm Jvm.ClassFile Sem Op Lib Jvm.Free Jvm.Stand Jvm.Pilot.@@N@@.Jvm.D
/-! MADE BY PROGRAM (witnessworld.py) out of the Statement's table words and the real class files: 11 classes; the members and pool entries that the words name. The judged class is class 1, her method 3. -/
namespace start1
open Jvm.ClassFile
def u (s : String) : CpInfo := .utf8 (stringToUtf16 s)
/-- a pool by its gaps: so many unusable entries, then the entry; so many at the end -/
def gap : Nat → List CpInfo → List CpInfo
  | 0, r => r
  | n + 1, r => .unusable :: gap n r
def poolList (es : List (Nat × CpInfo)) (last : Nat) : List CpInfo := es.foldr (fun e r => gap e.1 (e.2 :: r)) (gap last [])
def pool (es : List (Nat × CpInfo)) (last : Nat) : Array CpInfo := ⟨poolList es last⟩
def fileOf (pool : Array CpInfo) (this : Nat) (attrs : Array Attribute := #[]) (ms : Array MethodInfo := #[]) (fl : Nat := 33) (sup : Nat := 0) (ifs : Array Nat := #[]) (fds : Array FieldInfo := #[]) : ClassFile where
  minorVersion := 0
  majorVersion := 65
  constantPool := pool
  accessFlags := fl
  thisClass := this
  superClass := sup
  interfaces := ifs
  fields := fds
  methods := ms
  attributes := attrs
def plain (name : String) (sup : Option ClassId) : Class where
  name := name
  kind := .ordinary
  loader := none
  accessFlags := 33
  super := sup
  interfaces := #[]
  cf := none
  fields := #[]
  methods := #[]
  instanceTypes := #[]
  staticTypes := #[]
  resolved := #[]
  callSites := []
  init := .initialized
  statics := none
  mirror := none

def pool0 : Array CpInfo := pool [(5, u "<init>"), (0, u "()V"), (1, .class_ 10), (1, u "java/lang/Object")] 113

def k0m0 : Method := { name := "<init>", desc := "()V", sig := { parameters := [], returnType := none }, accessFlags := 1, code := none }
/-- java/lang/Object -/
def k0 : Class := { plain "java/lang/Object" none with
  accessFlags := 33
  interfaces := #[]
  cf := some (fileOf pool0 8 #[] #[{ accessFlags := 1, nameIndex := 5, descriptorIndex := 6, attributes := #[] }] 33 0 #[] #[])
  fields := #[]
  methods := #[k0m0]
  instanceTypes := #[]
  staticTypes := #[]
  resolved := Array.replicate 124 none
  statics := none }

def pool1 : Array CpInfo := pool [(2, .class_ 4), (1, u "java/lang/Object"), (0, u "<init>"), (0, u "()V"), (0, .integer 2147483647), (0, .methodref 9 10), (0, .class_ 11), (0, .nameAndType 12 13), (0, u "org/fractile/core/PartitionFirstEmptyPartPinLaw"), (0, u "part"), (0, u "(II)I"), (0, .methodref 9 15), (0, .nameAndType 16 17), (0, u "used"), (0, u "(IIIIII)Z"), (0, .methodref 19 20), (0, .class_ 21), (0, .nameAndType 22 23), (0, u "org/fractile/core/Partition"), (0, u "firstEmptyPart"), (0, u "([II)I"), (3, u "law"), (0, u "(IIIII)Z")] 4

def k1m0 : Method := { name := "<init>", desc := "()V", sig := { parameters := [], returnType := none }, accessFlags := 1, code := none }
def k1c1 : Code := { maxStack := 2, maxLocals := 6, code := method_2_code, exceptionTable := #[], attributes := #[] }
def k1m1 : Method := { name := "used", desc := "(IIIIII)Z", sig := { parameters := [.int, .int, .int, .int, .int, .int], returnType := some .boolean }, accessFlags := 10, code := some k1c1 }
def k1c2 : Code := { maxStack := 2, maxLocals := 2, code := method_3_code, exceptionTable := #[], attributes := #[] }
def k1m2 : Method := { name := "part", desc := "(II)I", sig := { parameters := [.int, .int], returnType := some .int }, accessFlags := 10, code := some k1c2 }
def k1c3 : Code := { maxStack := 6, maxLocals := 15, code := code, exceptionTable := #[], attributes := #[] }
def k1m3 : Method := { name := "law", desc := "(IIIII)Z", sig := { parameters := [.int, .int, .int, .int, .int], returnType := some .boolean }, accessFlags := 9, code := some k1c3 }
/-- org/fractile/core/PartitionFirstEmptyPartPinLaw -/
def k1 : Class := { plain "org/fractile/core/PartitionFirstEmptyPartPinLaw" (some 0) with
  accessFlags := 49
  interfaces := #[]
  cf := some (fileOf pool1 9 #[] #[{ accessFlags := 1, nameIndex := 5, descriptorIndex := 6, attributes := #[] }, { accessFlags := 10, nameIndex := 16, descriptorIndex := 17, attributes := #[] }, { accessFlags := 10, nameIndex := 12, descriptorIndex := 13, attributes := #[] }, { accessFlags := 9, nameIndex := 27, descriptorIndex := 28, attributes := #[] }] 49 2 #[] #[])
  fields := #[]
  methods := #[k1m0, k1m1, k1m2, k1m3]
  instanceTypes := #[]
  staticTypes := #[]
  resolved := Array.replicate 33 none
  statics := none }

def pool2 : Array CpInfo := pool [(2, .class_ 4), (1, u "java/lang/Object"), (3, .class_ 10), (1, u "org/fractile/core/Partition"), (0, u "partOf"), (0, u "[I"), (2, u "firstMember"), (2, u "members"), (2, u "place"), (20, u "firstEmptyPart"), (0, u "([II)I")] 167

def k2c0 : Code := { maxStack := 3, maxLocals := 7, code := prog_36_method_21_code, exceptionTable := #[], attributes := #[] }
def k2m0 : Method := { name := "firstEmptyPart", desc := "([II)I", sig := { parameters := [(.array .int), .int], returnType := some .int }, accessFlags := 8, code := some k2c0 }
/-- org/fractile/core/Partition -/
def k2 : Class := { plain "org/fractile/core/Partition" (some 0) with
  accessFlags := 49
  interfaces := #[]
  cf := some (fileOf pool2 8 #[] #[{ accessFlags := 8, nameIndex := 42, descriptorIndex := 43, attributes := #[] }] 49 2 #[] #[{ accessFlags := 18, nameIndex := 11, descriptorIndex := 12, attributes := #[] }, { accessFlags := 18, nameIndex := 15, descriptorIndex := 12, attributes := #[] }, { accessFlags := 18, nameIndex := 18, descriptorIndex := 12, attributes := #[] }, { accessFlags := 18, nameIndex := 21, descriptorIndex := 12, attributes := #[] }])
  fields := #[{ name := "partOf", type := (.array .int), accessFlags := 18, slot := 0, constantValue := 0 }, { name := "firstMember", type := (.array .int), accessFlags := 18, slot := 1, constantValue := 0 }, { name := "members", type := (.array .int), accessFlags := 18, slot := 2, constantValue := 0 }, { name := "place", type := (.array .int), accessFlags := 18, slot := 3, constantValue := 0 }]
  methods := #[k2m0]
  instanceTypes := #[(.array .int), (.array .int), (.array .int), (.array .int)]
  staticTypes := #[]
  resolved := Array.replicate 211 none
  statics := none }

def pool3 : Array CpInfo := pool [(1, u "java/lang/Cloneable"), (0, .class_ 1), (0, u "java/lang/Object"), (0, .class_ 3)] 3

/-- java/lang/Cloneable -/
def k3 : Class := { plain "java/lang/Cloneable" (some 0) with
  accessFlags := 1537
  interfaces := #[]
  cf := some (fileOf pool3 2 #[] #[] 1537 4 #[] #[])
  fields := #[]
  methods := #[]
  instanceTypes := #[]
  staticTypes := #[]
  resolved := Array.replicate 8 none
  statics := none }

def pool4 : Array CpInfo := pool [(1, u "java/io/Serializable"), (0, .class_ 1), (0, u "java/lang/Object"), (0, .class_ 3)] 3

/-- java/io/Serializable -/
def k4 : Class := { plain "java/io/Serializable" (some 0) with
  accessFlags := 1537
  interfaces := #[]
  cf := some (fileOf pool4 2 #[] #[] 1537 4 #[] #[])
  fields := #[]
  methods := #[]
  instanceTypes := #[]
  staticTypes := #[]
  resolved := Array.replicate 8 none
  statics := none }

/-- the primitive boolean -/
def k5 : Class := { plain "boolean" none with kind := .primitive 'Z', accessFlags := 0x411 }
/-- [Z -/
def k6 : Class := { plain "[Z" (some 0) with kind := .array 5 .boolean, interfaces := #[3, 4], accessFlags := 1041 }

/-- the primitive byte -/
def k7 : Class := { plain "byte" none with kind := .primitive 'B', accessFlags := 0x411 }
/-- [B -/
def k8 : Class := { plain "[B" (some 0) with kind := .array 7 .byte, interfaces := #[3, 4], accessFlags := 1041 }

/-- the primitive int -/
def k9 : Class := { plain "int" none with kind := .primitive 'I', accessFlags := 0x411 }
/-- [I -/
def k10 : Class := { plain "[I" (some 0) with kind := .array 9 .int, interfaces := #[3, 4], accessFlags := 1041 }

def heap : Heap := #[]
def classes : Array Class := #[k0, k1, k2, k3, k4, k5, k6, k7, k8, k9, k10]
def interned : List (Array UInt16 × Addr) := []
def slotsUsed : Nat := 0
def theMethod : MethodId := ⟨1, 3⟩
def args0 : Array Value := #[.int 5, .int 3, .int 9, .int 8, .int 7]
def aboutOver (below : List Frame) : State where
  vm := { classes := classes, interned := interned.toArray }
  heap := heap
  slotsUsed := slotsUsed
  threads := #[{ frames := .invoking theMethod args0 :: below }]
def below0 : List Frame := [.native { method := ⟨0, 0⟩, args := #[] }]
def about1 : State := aboutOver below0
def p0 : Program := .bare "" "" ""
def e0 : Env := launch0.env 0 0 0
theorem w_frames : about1.frames = Frame.invoking theMethod args0 :: below0 := rfl
set_option maxRecDepth 65536 in
theorem w_args : argsFit about1.vm theMethod args0 = true := by decide +kernel
set_option maxRecDepth 65536 in
theorem w_heap : heapFits about1 = true := by decide +kernel
set_option maxRecDepth 65536 in
theorem w_runnable : about1.curStatus? = some .runnable := by decide +kernel
set_option maxRecDepth 65536 in
theorem w_alone : about1.alone = true := by decide +kernel
set_option maxRecDepth 65536 in
theorem w_named : about1.methodNamed? x = some theMethod := by decide +kernel
set_option maxRecDepth 65536 in
theorem w_hears : about1.hears theMethod below0 = true := by decide +kernel
set_option maxRecDepth 65536 in
theorem w_ripe : about1.ripe theMethod args0 below0 = true := by decide +kernel
theorem w_running : about1.status = .running := rfl
set_option maxRecDepth 65536 in
theorem w_room : about1.hasRoom e0.platform room_1 = true :=
  launch0.hasRoom_least _ room_1 (by decide +kernel) (by decide +kernel) (by decide +kernel) (by decide +kernel) (by decide +kernel) (by decide +kernel)
theorem allAtoms_all (ts : List Jvm.Cond) (a : Array Jvm.Value) (st : Jvm.State) : (allAtoms ts).before a st = ts.all (fun c => c.before a st) := by
  induction ts with
  | nil => rfl
  | cons c t ih =>
    show (Jvm.Cond.and c (allAtoms t)).before a st = _
    rw [Jvm.Cond.before_and, ih, List.all_cons]
def words1 : List Jvm.Cond := Jvm.Cond.code x code maxLocals ret :: tables_1
/-- a 'code' word, met by the world's own term for the bytes: nothing is compared byte by byte -/
theorem code_word {y : MethodName} {bytes : ByteArray} {mx : Nat} {rt : Option FieldType} {a : Array Value} {s : State} {m : MethodId} {meth : Method} {c : Code} (h1 : s.methodNamed? y = some m) (h2 : s.vm.method? m = some meth) (h3 : meth.code = some c) (h4 : c.code = bytes)
    (h5 : (c.maxLocals == mx && c.exceptionTable.isEmpty && decide (c.maxStack ≤ mostOperands) && decide (meth.sig.returnType = rt) && !meth.locks && decide (parseMethodDescriptor y.desc = some meth.sig)) = true) : (Jvm.Cond.code y bytes mx rt).before a s = true := by
  simp only [Bool.and_eq_true, beq_iff_eq, Bool.not_eq_true', decide_eq_true_eq] at h5
  obtain ⟨⟨⟨⟨⟨g1, g2⟩, g3⟩, g4⟩, g5⟩, g6⟩ := h5
  simp [Cond.before, Cond.holds, Cond.value, h1, h2, h3, h4, g1, g2, g3, g4, g5, g6]
def isCode : Jvm.Cond → Bool
  | .code _ _ _ _ => true
  | _ => false
theorem all_split {L : List Jvm.Cond} {P : Jvm.Cond → Bool} (h1 : L.all (fun c => isCode c || P c) = true) (h2 : ∀ c ∈ L.filter isCode, P c = true) : L.all P = true := by
  refine List.all_eq_true.mpr fun c hc => ?_
  have h := List.all_eq_true.mp h1 c hc
  rcases Bool.eq_false_or_eq_true (isCode c) with hi | hi
  · exact h2 c (List.mem_filter.mpr ⟨hc, hi⟩)
  · simpa [hi] using h
set_option maxRecDepth 65536 in
theorem w_c0 : (Jvm.Cond.code x code maxLocals ret).before args0 about1 = true := code_word (m := ⟨1, 3⟩) (meth := k1m3) (c := k1c3) (by decide +kernel) rfl rfl rfl (by decide +kernel)
set_option maxRecDepth 65536 in
theorem w_c1 : (Jvm.Cond.code ({ cls := "org/fractile/core/PartitionFirstEmptyPartPinLaw", name := "part", desc := "(II)I" } : Jvm.MethodName) method_3_code (2 : Nat) (Option.some Jvm.ClassFile.FieldType.int)).before args0 about1 = true := code_word (m := ⟨1, 2⟩) (meth := k1m2) (c := k1c2) (by decide +kernel) rfl rfl rfl (by decide +kernel)
set_option maxRecDepth 65536 in
theorem w_c2 : (Jvm.Cond.code ({ cls := "org/fractile/core/Partition", name := "firstEmptyPart", desc := "([II)I" } : Jvm.MethodName) prog_36_method_21_code (7 : Nat) (Option.some Jvm.ClassFile.FieldType.int)).before args0 about1 = true := code_word (m := ⟨2, 0⟩) (meth := k2m0) (c := k2c0) (by decide +kernel) rfl rfl rfl (by decide +kernel)
set_option maxRecDepth 65536 in
theorem w_c3 : (Jvm.Cond.code ({ cls := "org/fractile/core/PartitionFirstEmptyPartPinLaw", name := "used", desc := "(IIIIII)Z" } : Jvm.MethodName) method_2_code (6 : Nat) (Option.some Jvm.ClassFile.FieldType.boolean)).before args0 about1 = true := code_word (m := ⟨1, 1⟩) (meth := k1m1) (c := k1c1) (by decide +kernel) rfl rfl rfl (by decide +kernel)
def codes1 : List Jvm.Cond := [Jvm.Cond.code x code maxLocals ret, Jvm.Cond.code ({ cls := "org/fractile/core/PartitionFirstEmptyPartPinLaw", name := "part", desc := "(II)I" } : Jvm.MethodName) method_3_code (2 : Nat) (Option.some Jvm.ClassFile.FieldType.int), Jvm.Cond.code ({ cls := "org/fractile/core/Partition", name := "firstEmptyPart", desc := "([II)I" } : Jvm.MethodName) prog_36_method_21_code (7 : Nat) (Option.some Jvm.ClassFile.FieldType.int), Jvm.Cond.code ({ cls := "org/fractile/core/PartitionFirstEmptyPartPinLaw", name := "used", desc := "(IIIIII)Z" } : Jvm.MethodName) method_2_code (6 : Nat) (Option.some Jvm.ClassFile.FieldType.boolean)]
set_option maxRecDepth 65536 in
theorem codes_eq : words1.filter isCode = codes1 := rfl
theorem w_codes : ∀ c ∈ words1.filter isCode, c.before args0 about1 = true := by
  rw [codes_eq]
  intro c hc
  simp only [codes1, List.mem_cons, List.not_mem_nil, or_false] at hc
  rcases hc with rfl | rfl | rfl | rfl
  · exact w_c0
  · exact w_c1
  · exact w_c2
  · exact w_c3
set_option maxRecDepth 65536 in
theorem w_t1 : words1.all (fun c => isCode c || c.before args0 about1) = true := by decide +kernel
theorem w_tables : (allAtoms (Jvm.Cond.code x code maxLocals ret :: tables_1)).before args0 about1 = true := by
  rw [allAtoms_all]
  show words1.all (fun c => c.before args0 about1) = true
  refine all_split ?_ w_codes
  rw [w_t1]
set_option maxRecDepth 65536 in
theorem w_case : (Jvm.Cond.and given_1 narrow_1).before args0 about1 = true := by decide +kernel
theorem w_applies : (headSpec (Jvm.Cond.code x code maxLocals ret :: tables_1) room_1).applies x e0.platform about1 = true :=
  (Spec.applies_iff w_frames).mpr ⟨w_running, w_runnable, w_alone, w_named, w_hears, w_ripe, w_room, w_tables⟩
theorem atStart : AtStart classFile x code maxLocals ret World_1 tables_1 room_1 Calls_1 rest_1 Pre_1 launch0 p0 e0 about1 theMethod args0 below0 :=
  ⟨lists_1, trivial, launch0.admits_env _ _ _, launch0.least_env, fairChoices_fair.cas, fairChoices_fair.clock, w_frames, w_args, w_heap, w_applies, trivial, trivial, w_case⟩
end start1
theorem witness_1 : WitnessClaimed_1 := ⟨start1.p0, start1.e0, start1.about1, start1.theMethod, start1.args0, start1.below0, start1.atStart⟩
end Jvm.Pilot.@@N@@
