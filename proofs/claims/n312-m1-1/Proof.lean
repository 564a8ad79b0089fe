import JvmDerived
import JvmDerived.Pilot.@@N@@Statement
import JvmDerived.Pilot.@@N@@Code
set_option linter.unusedVariables false
set_option linter.unusedSimpArgs false
namespace Jvm.Pilot.@@N@@
open Jvm Jvm.ClassFile Sem Op Lib Jvm.Free Jvm.Stand Jvm.LawKit Jvm.RoadKit Bundle Jvm.Pilot.@@N@@.Jvm.D
-- OWN KIT (mine): reach, finish, weakening of the counters, arrays by a function, arithmetic in omega's form
abbrev own_R (tb : Tables) (e : Env) (below : List Frame) (F0 F : State) : Prop := ∀ t, Steps tb e below F t → Steps tb e below F0 t
abbrev own_G (p : Program) (e : Env) (below : List Frame) (s F0 : State) (Q : Option Value → Heap → List Loc → Prop) (kc ks : Nat) : Prop :=
  ∃ s₂ o, Steps p.tables e below F0 s₂ ∧ s₂.status = .running ∧ Ended s₂ below o ∧ ∃ v L, o = .returned v ∧ Q v s₂.heap L ∧ FrameEnd s o s₂ L kc ks
section OwnKit
variable {p : Program} {l : Launch} {e : Env} {R : Room} {s : State} {m : MethodId} {args : Array Value} {below : List Frame} {meth : Method} {c : Code} {T : State} {locs : List Loc} {cells slots : Nat}
theorem own_fin (X : Stand p l e R s m args below meth c T locs cells slots) (hl : meth.locks = false) {F0 : State} {Q : Option Value → Heap → List Loc → Prop} {kc ks : Nat} (v : Option Value) (hv : meth.sig.returnType = none → v = none) (hq : Q v T.heap locs) (hc : cells ≤ kc) (hs : slots ≤ ks)
    (st : ∀ fs, (∀ (f : JFrame) (acts : List Action), f.method = m → f.locked = none → f.entered = [] → (doReturn e (T.setTop f) acts v).1 = T.setFrames fs) → Steps p.tables e below F0 (T.setFrames fs)) : own_G p e below s F0 Q kc ks := by
  obtain ⟨fs, hr, hrun, hended, hW, hsame⟩ := X.leave hv hl
  exact ⟨_, _, st fs hr, hrun, hended, _, _, rfl, hq, ⟨_, rfl⟩, hW, hsame.mono hc hs⟩
theorem own_mono (X : Stand p l e R s m args below meth c T locs cells slots) {c' s' : Nat} (hc : cells ≤ c') (hs : slots ≤ s') : Stand p l e R s m args below meth c T locs c' s' := { X with same := X.same.mono hc hs }
end OwnKit
theorem own_hv {meth : Method} {t : FieldType} {v : Option Value} (h : meth.sig.returnType = some t) : meth.sig.returnType = none → v = none := fun q => by rw [h] at q; cases q
theorem own_lt32 {a b : Int32} (h : a < b) : a.toInt < b.toInt := Int32.lt_iff_toInt_lt.mp h
theorem own_nlt32 {a b : Int32} (h : ¬ a < b) : b.toInt ≤ a.toInt := Int.not_lt.mp fun q => h (Int32.lt_iff_toInt_lt.mpr q)
theorem own_eq32 {a b : Int32} (h : a = b) : a.toInt = b.toInt := congrArg Int32.toInt h
theorem own_ne32 {a b : Int32} (h : ¬ a = b) : a.toInt ≠ b.toInt := fun q => h (Int32.toInt_inj.mp q)
theorem own_lt64 {a b : Int64} (h : a < b) : a.toInt < b.toInt := Int64.lt_iff_toInt_lt.mp h
theorem own_nlt64 {a b : Int64} (h : ¬ a < b) : b.toInt ≤ a.toInt := Int.not_lt.mp fun q => h (Int64.lt_iff_toInt_lt.mpr q)
theorem own_eq64 {a b : Int64} (h : a = b) : a.toInt = b.toInt := congrArg Int64.toInt h
theorem own_ne64 {a b : Int64} (h : ¬ a = b) : a.toInt ≠ b.toInt := fun q => h (Int64.toInt_inj.mp q)
theorem own_imulc (x y : Int32) (d : Int) (h : y.toInt = d) : ((x * y).toInt - x.toInt * d) % 4294967296 = 0 := by rw [← h]; exact c_imul x y
theorem own_imulc' (x y : Int32) (d : Int) (h : x.toInt = d) : ((x * y).toInt - d * y.toInt) % 4294967296 = 0 := by rw [← h]; exact c_imul x y
theorem own_lmulc (x y : Int64) (d : Int) (h : y.toInt = d) : ((x * y).toInt - x.toInt * d) % 18446744073709551616 = 0 := by rw [← h]; exact c_lmul x y
theorem own_lmulc' (x y : Int64) (d : Int) (h : x.toInt = d) : ((x * y).toInt - d * y.toInt) % 18446744073709551616 = 0 := by rw [← h]; exact c_lmul x y
theorem own_mask (x m : Int32) (k : Nat) (P : Int) (hk : k ≤ 31) (hm : m.toBitVec.toNat = 2 ^ k - 1) (hP : P = ((2 ^ k : Nat) : Int)) : (x &&& m).toInt = x.toInt % P := by rw [hP]; exact c_mask x m k hk hm
theorem own_maskL (x m : Int64) (k : Nat) (P : Int) (hk : k ≤ 63) (hm : m.toBitVec.toNat = 2 ^ k - 1) (hP : P = ((2 ^ k : Nat) : Int)) : (x &&& m).toInt = x.toInt % P := by rw [hP]; exact c_maskL x m k hk hm
theorem own_ishr (x q : Int32) (k : Nat) (P : Int) (hk : q.toBitVec.toNat % 32 = k) (hP : P = ((2 ^ k : Nat) : Int)) : (x >>> (q &&& 31)).toInt = x.toInt / P := by rw [hP]; exact c_ishr x q k hk
theorem own_ishl (x q : Int32) (k : Nat) (P : Int) (hk : q.toBitVec.toNat % 32 = k) (hP : P = ((2 ^ k : Nat) : Int)) : ((x <<< (q &&& 31)).toInt - x.toInt * P) % 4294967296 = 0 := by rw [hP]; exact c_ishl x q k hk
theorem own_iushr (x q : Int32) (k : Nat) (P : Int) (hk : q.toBitVec.toNat % 32 = k) (h0 : 0 < k) (hP : P = ((2 ^ k : Nat) : Int)) : ((x.toUInt32 >>> (q &&& 31).toUInt32).toInt32).toInt = (x.toInt % 4294967296) / P := by rw [hP]; exact c_iushr x q k hk h0
theorem own_lshr (x : Int64) (q : Int32) (k : Nat) (P : Int) (hk : q.toBitVec.toNat % 64 = k) (hP : P = ((2 ^ k : Nat) : Int)) : (x >>> (q &&& 0x3f).toInt64).toInt = x.toInt / P := by rw [hP]; exact c_lshr x q k hk
theorem own_lshl (x : Int64) (q : Int32) (k : Nat) (P : Int) (hk : q.toBitVec.toNat % 64 = k) (hP : P = ((2 ^ k : Nat) : Int)) : ((x <<< (q &&& 0x3f).toInt64).toInt - x.toInt * P) % 18446744073709551616 = 0 := by rw [hP]; exact c_lshl x q k hk
theorem own_lushr (x : Int64) (q : Int32) (k : Nat) (P : Int) (hk : q.toBitVec.toNat % 64 = k) (h0 : 0 < k) (hP : P = ((2 ^ k : Nat) : Int)) : ((x.toUInt64 >>> (q &&& 0x3f).toInt64.toUInt64).toInt64).toInt = (x.toInt % 18446744073709551616) / P := by rw [hP]; exact c_lushr x q k hk h0
theorem own_lc_lt {x y : Int64} {cd : ClassFile.Cond} {b : Bool} (h : if_icmp.holds cd (lcmpW x y) 0 = b) : ifCond.holds cd (lcmpW x y) = b := (if0 _ _).trans h
theorem own_l_lt {x y : Int64} (h : x < y) : ifCond.holds .lt (lcmpW x y) = true ∧ ifCond.holds .ge (lcmpW x y) = false := ⟨(if0 _ _).trans (tlt ((lw_lt x y).mpr h)).1, (if0 _ _).trans (tlt ((lw_lt x y).mpr h)).2.1⟩
theorem own_l_nlt {x y : Int64} (h : ¬ x < y) : ifCond.holds .lt (lcmpW x y) = false ∧ ifCond.holds .ge (lcmpW x y) = true := ⟨(if0 _ _).trans (flt (fun q => h ((lw_lt x y).mp q))).1, (if0 _ _).trans (flt (fun q => h ((lw_lt x y).mp q))).2.1⟩
theorem own_l_gt {x y : Int64} (h : y < x) : ifCond.holds .gt (lcmpW x y) = true ∧ ifCond.holds .le (lcmpW x y) = false := ⟨(if0 _ _).trans (tlt ((lw_gt x y).mpr h)).2.2.1, (if0 _ _).trans (tlt ((lw_gt x y).mpr h)).2.2.2⟩
theorem own_l_ngt {x y : Int64} (h : ¬ y < x) : ifCond.holds .gt (lcmpW x y) = false ∧ ifCond.holds .le (lcmpW x y) = true := ⟨(if0 _ _).trans (flt (fun q => h ((lw_gt x y).mp q))).2.2.1, (if0 _ _).trans (flt (fun q => h ((lw_gt x y).mp q))).2.2.2⟩
theorem own_l_eq {x y : Int64} (h : x = y) : ifCond.holds .eq (lcmpW x y) = true ∧ ifCond.holds .ne (lcmpW x y) = false := ⟨(if0 _ _).trans (teq ((lw_eq x y).mpr h)).1, (if0 _ _).trans (teq ((lw_eq x y).mpr h)).2⟩
theorem own_l_neq {x y : Int64} (h : ¬ x = y) : ifCond.holds .eq (lcmpW x y) = false ∧ ifCond.holds .ne (lcmpW x y) = true := ⟨(if0 _ _).trans (feq (fun q => h ((lw_eq x y).mp q))).1, (if0 _ _).trans (feq (fun q => h ((lw_eq x y).mp q))).2⟩
theorem own_lrem {x y : Int64} {d : Int} (hy : y.toInt = d) : (0 ≤ x.toInt → (x - (x / y) * y).toInt = x.toInt % d) ∧ (x.toInt < 0 → (x - (x / y) * y).toInt = -((-x.toInt) % d)) := c_lrem x y d hy
theorem own_lremf (x y : Int64) (d : Int) (hy : y.toInt = d) : (0 ≤ x.toInt → (x % y).toInt = x.toInt % d) ∧ (x.toInt < 0 → (x % y).toInt = -((-x.toInt) % d)) := by rw [Int64.toInt_mod, hy]; exact tr _ _
theorem own_lremM {p : Program} {l : Launch} {e : Env} {R : Room} {s : State} {m : MethodId} {args : Array Value} {below : List Frame} {meth : Method} {c : Code} {T : State} {locs : List Loc} {cells slots : Nat} {g : JFrame} {target : State} (X : Stand p l e R s m args below meth c T locs cells slots) (hx : p.tables.exec = Jvm.exec) (hg : g.method = m) {x y : Int64} {rest : List Value} (hd : decode c.code g.pc = .ok (.lrem, 1)) (hs : g.stack = .long y :: .long x :: rest) (hy : y ≠ 0)
    (hr : Steps p.tables e below (T.setTop { g with pc := g.pc + 1, stack := .long (x % y) :: rest }) target) : Steps p.tables e below (T.setTop g) target :=
  XS.lrem X.here hx hg hd hs hy (by rw [lrem_mod]; exact hr)
theorem own_R32 (x : Int32) : -2147483648 ≤ x.toInt ∧ x.toInt ≤ 2147483647 := by have := rng32 x; omega
theorem own_R64 (x : Int64) : -9223372036854775808 ≤ x.toInt ∧ x.toInt ≤ 9223372036854775807 := by have := rng64 x; omega
theorem own_iaddR {x y : Int32} {a b c d : Int} (lo hi : Int) (hx : a ≤ x.toInt ∧ x.toInt ≤ b) (hy : c ≤ y.toInt ∧ y.toInt ≤ d) (h1 : -2147483648 ≤ a + c ∧ b + d ≤ 2147483647) (h2 : lo ≤ a + c ∧ b + d ≤ hi) : (x + y).toInt = x.toInt + y.toInt ∧ lo ≤ (x + y).toInt ∧ (x + y).toInt ≤ hi := by have := c_iadd x y; have := rng32 (x + y); omega
theorem own_isubR {x y : Int32} {a b c d : Int} (lo hi : Int) (hx : a ≤ x.toInt ∧ x.toInt ≤ b) (hy : c ≤ y.toInt ∧ y.toInt ≤ d) (h1 : -2147483648 ≤ a - d ∧ b - c ≤ 2147483647) (h2 : lo ≤ a - d ∧ b - c ≤ hi) : (x - y).toInt = x.toInt - y.toInt ∧ lo ≤ (x - y).toInt ∧ (x - y).toInt ≤ hi := by have := c_isub x y; have := rng32 (x - y); omega
theorem own_laddR {x y : Int64} {a b c d : Int} (lo hi : Int) (hx : a ≤ x.toInt ∧ x.toInt ≤ b) (hy : c ≤ y.toInt ∧ y.toInt ≤ d) (h1 : -9223372036854775808 ≤ a + c ∧ b + d ≤ 9223372036854775807) (h2 : lo ≤ a + c ∧ b + d ≤ hi) : (x + y).toInt = x.toInt + y.toInt ∧ lo ≤ (x + y).toInt ∧ (x + y).toInt ≤ hi := by have := c_ladd x y; have := rng64 (x + y); omega
theorem own_lsubR {x y : Int64} {a b c d : Int} (lo hi : Int) (hx : a ≤ x.toInt ∧ x.toInt ≤ b) (hy : c ≤ y.toInt ∧ y.toInt ≤ d) (h1 : -9223372036854775808 ≤ a - d ∧ b - c ≤ 9223372036854775807) (h2 : lo ≤ a - d ∧ b - c ≤ hi) : (x - y).toInt = x.toInt - y.toInt ∧ lo ≤ (x - y).toInt ∧ (x - y).toInt ≤ hi := by have := c_lsub x y; have := rng64 (x - y); omega
theorem own_imulR {x y : Int32} {a b k : Int} (lo hi : Int) (hx : a ≤ x.toInt ∧ x.toInt ≤ b) (hy : y.toInt = k) (hk : 0 ≤ k) (h1 : -2147483648 ≤ a * k ∧ b * k ≤ 2147483647) (h2 : lo ≤ a * k ∧ b * k ≤ hi) : (x * y).toInt = x.toInt * k ∧ lo ≤ (x * y).toInt ∧ (x * y).toInt ≤ hi := by
  have h := c_imul x y; have := rng32 (x * y); rw [hy] at h
  have p1 := Int.mul_le_mul_of_nonneg_right hx.1 hk; have p2 := Int.mul_le_mul_of_nonneg_right hx.2 hk
  generalize x.toInt * k = z at *; generalize a * k = z1 at *; generalize b * k = z2 at *; omega
theorem own_lmulR {x y : Int64} {a b k : Int} (lo hi : Int) (hx : a ≤ x.toInt ∧ x.toInt ≤ b) (hy : y.toInt = k) (hk : 0 ≤ k) (h1 : -9223372036854775808 ≤ a * k ∧ b * k ≤ 9223372036854775807) (h2 : lo ≤ a * k ∧ b * k ≤ hi) : (x * y).toInt = x.toInt * k ∧ lo ≤ (x * y).toInt ∧ (x * y).toInt ≤ hi := by
  have h := c_lmul x y; have := rng64 (x * y); rw [hy] at h
  have p1 := Int.mul_le_mul_of_nonneg_right hx.1 hk; have p2 := Int.mul_le_mul_of_nonneg_right hx.2 hk
  generalize x.toInt * k = z at *; generalize a * k = z1 at *; generalize b * k = z2 at *; omega
theorem own_imulR' {x y : Int32} {a b k : Int} (lo hi : Int) (hx : a ≤ y.toInt ∧ y.toInt ≤ b) (hy : x.toInt = k) (hk : 0 ≤ k) (h1 : -2147483648 ≤ a * k ∧ b * k ≤ 2147483647) (h2 : lo ≤ a * k ∧ b * k ≤ hi) : (x * y).toInt = y.toInt * k ∧ lo ≤ (x * y).toInt ∧ (x * y).toInt ≤ hi := by rw [Int32.mul_comm]; exact own_imulR lo hi hx hy hk h1 h2
theorem own_lmulR' {x y : Int64} {a b k : Int} (lo hi : Int) (hx : a ≤ y.toInt ∧ y.toInt ≤ b) (hy : x.toInt = k) (hk : 0 ≤ k) (h1 : -9223372036854775808 ≤ a * k ∧ b * k ≤ 9223372036854775807) (h2 : lo ≤ a * k ∧ b * k ≤ hi) : (x * y).toInt = y.toInt * k ∧ lo ≤ (x * y).toInt ∧ (x * y).toInt ≤ hi := by rw [Int64.mul_comm]; exact own_lmulR lo hi hx hy hk h1 h2
theorem own_maskR (x m : Int32) (k : Nat) (P : Int) (hk : k ≤ 31) (hm : m.toBitVec.toNat = 2 ^ k - 1) (hP : P = ((2 ^ k : Nat) : Int)) (hi : Int) (h0 : 0 < P) (h : P ≤ hi + 1) : (x &&& m).toInt = x.toInt % P ∧ 0 ≤ (x &&& m).toInt ∧ (x &&& m).toInt ≤ hi := by
  have e := own_mask x m k P hk hm hP; have h1 := Int.emod_nonneg x.toInt (show P ≠ 0 by omega); have h2 := Int.emod_lt_of_pos x.toInt h0; omega
theorem own_maskLR (x m : Int64) (k : Nat) (P : Int) (hk : k ≤ 63) (hm : m.toBitVec.toNat = 2 ^ k - 1) (hP : P = ((2 ^ k : Nat) : Int)) (hi : Int) (h0 : 0 < P) (h : P ≤ hi + 1) : (x &&& m).toInt = x.toInt % P ∧ 0 ≤ (x &&& m).toInt ∧ (x &&& m).toInt ≤ hi := by
  have e := own_maskL x m k P hk hm hP; have h1 := Int.emod_nonneg x.toInt (show P ≠ 0 by omega); have h2 := Int.emod_lt_of_pos x.toInt h0; omega
theorem own_iremR {x y : Int32} {a b d : Int} (hi : Int) (hx : a ≤ x.toInt ∧ x.toInt ≤ b) (hy : y.toInt = d) (ha : 0 ≤ a) (hd : 0 < d) (h : d ≤ hi + 1) : (x % y).toInt = x.toInt % d ∧ 0 ≤ (x % y).toInt ∧ (x % y).toInt ≤ hi := by
  have e := (c_irem x y d hy).1 (by omega); have h1 := Int.emod_nonneg x.toInt (show d ≠ 0 by omega); have h2 := Int.emod_lt_of_pos x.toInt hd; omega
theorem own_lremR {x y : Int64} {a b d : Int} (hi : Int) (hx : a ≤ x.toInt ∧ x.toInt ≤ b) (hy : y.toInt = d) (ha : 0 ≤ a) (hd : 0 < d) (h : d ≤ hi + 1) : (x % y).toInt = x.toInt % d ∧ 0 ≤ (x % y).toInt ∧ (x % y).toInt ≤ hi := by
  have e := (own_lremf x y d hy).1 (by omega); have h1 := Int.emod_nonneg x.toInt (show d ≠ 0 by omega); have h2 := Int.emod_lt_of_pos x.toInt hd; omega
theorem own_idivR {x y : Int32} {a b d : Int} (lo hi : Int) (hx : a ≤ x.toInt ∧ x.toInt ≤ b) (hy : y.toInt = d) (hy1 : y ≠ -1) (ha : 0 ≤ a) (hd : 0 < d) (h : lo ≤ a / d ∧ b / d ≤ hi) : (x / y).toInt = x.toInt / d ∧ lo ≤ (x / y).toInt ∧ (x / y).toInt ≤ hi := by
  have e := (c_idiv x y d hy hy1).1 (by omega); have h1 := Int.ediv_le_ediv hd hx.1; have h2 := Int.ediv_le_ediv hd hx.2; omega
theorem own_ldivR {x y : Int64} {a b d : Int} (lo hi : Int) (hx : a ≤ x.toInt ∧ x.toInt ≤ b) (hy : y.toInt = d) (hy1 : y ≠ -1) (ha : 0 ≤ a) (hd : 0 < d) (h : lo ≤ a / d ∧ b / d ≤ hi) : (x / y).toInt = x.toInt / d ∧ lo ≤ (x / y).toInt ∧ (x / y).toInt ≤ hi := by
  have e := (c_ldiv x y d hy hy1).1 (by omega); have h1 := Int.ediv_le_ediv hd hx.1; have h2 := Int.ediv_le_ediv hd hx.2; omega
theorem own_l2iR {x : Int64} {a b : Int} (hx : a ≤ x.toInt ∧ x.toInt ≤ b) (h1 : -2147483648 ≤ a ∧ b ≤ 2147483647) : x.toInt32.toInt = x.toInt ∧ a ≤ x.toInt32.toInt ∧ x.toInt32.toInt ≤ b := by have := c_l2i x; have := rng32 x.toInt32; omega
theorem own_i2lR {x : Int32} {a b : Int} (hx : a ≤ x.toInt ∧ x.toInt ≤ b) : x.toInt64.toInt = x.toInt ∧ a ≤ x.toInt64.toInt ∧ x.toInt64.toInt ≤ b := by have := c_i2l x; omega
theorem own_eqR32 {x y : Int32} {a b : Int} (h : x = y) (hy : a ≤ y.toInt ∧ y.toInt ≤ b) : x.toInt = y.toInt ∧ a ≤ x.toInt ∧ x.toInt ≤ b := by subst h; exact ⟨rfl, hy⟩
theorem own_eqR64 {x y : Int64} {a b : Int} (h : x = y) (hy : a ≤ y.toInt ∧ y.toInt ≤ b) : x.toInt = y.toInt ∧ a ≤ x.toInt ∧ x.toInt ≤ b := by subst h; exact ⟨rfl, hy⟩
theorem own_lushrR {x : Int64} {a b : Int} (q : Int32) (k : Nat) (P lo hi : Int) (hx : a ≤ x.toInt ∧ x.toInt ≤ b) (ha : 0 ≤ a) (hk : q.toBitVec.toNat % 64 = k) (h0 : 0 < k) (hP : P = ((2 ^ k : Nat) : Int)) (hPp : 0 < P) (h : lo ≤ a / P ∧ b / P ≤ hi) : ((x.toUInt64 >>> (q &&& 0x3f).toInt64.toUInt64).toInt64).toInt = x.toInt / P ∧ lo ≤ ((x.toUInt64 >>> (q &&& 0x3f).toInt64.toUInt64).toInt64).toInt ∧ ((x.toUInt64 >>> (q &&& 0x3f).toInt64.toUInt64).toInt64).toInt ≤ hi := by
  have e := own_lushr x q k P hk h0 hP; have := rng64 x; rw [Int.emod_eq_of_lt (by omega) (by omega)] at e; have h1 := Int.ediv_le_ediv hPp hx.1; have h2 := Int.ediv_le_ediv hPp hx.2; omega
theorem own_iushrR {x : Int32} {a b : Int} (q : Int32) (k : Nat) (P lo hi : Int) (hx : a ≤ x.toInt ∧ x.toInt ≤ b) (ha : 0 ≤ a) (hk : q.toBitVec.toNat % 32 = k) (h0 : 0 < k) (hP : P = ((2 ^ k : Nat) : Int)) (hPp : 0 < P) (h : lo ≤ a / P ∧ b / P ≤ hi) : ((x.toUInt32 >>> (q &&& 31).toUInt32).toInt32).toInt = x.toInt / P ∧ lo ≤ ((x.toUInt32 >>> (q &&& 31).toUInt32).toInt32).toInt ∧ ((x.toUInt32 >>> (q &&& 31).toUInt32).toInt32).toInt ≤ hi := by
  have e := own_iushr x q k P hk h0 hP; have := rng32 x; rw [Int.emod_eq_of_lt (by omega) (by omega)] at e; have h1 := Int.ediv_le_ediv hPp hx.1; have h2 := Int.ediv_le_ediv hPp hx.2; omega
-- OWN KIT 1 (mine): an array by a function of its places
def own_Arf (Z : State) (h : Heap) (a : Addr) (ty : FieldType) (n : Nat) (f : Nat → Value) : Prop := ∃ c : Cell, Arr Z h a c ty ∧ c.slots.size = n ∧ n < 2 ^ 31 ∧ ∀ j, j < n → c.slots[j]? = some (f j)
section OwnArf
variable {Z : State} {h h' : Heap} {a b : Addr} {ty : FieldType} {n : Nat} {f f' : Nat → Value} {sl : Nat} {v : Value} {ws : List Addr}
theorem own_Arf.lt (F : own_Arf Z h a ty n f) : a < h.size := by obtain ⟨c, A, -⟩ := F; exact A.lt
theorem own_Arf.ext (F : own_Arf Z h a ty n f) (E : Ext h h') : own_Arf Z h' a ty n f := by obtain ⟨c, A, r⟩ := F; exact ⟨c, A.ext E, r⟩
theorem own_Arf.other (F : own_Arf Z h b ty n f) (W : Wr h h' a sl v) (q : b ≠ a) : own_Arf Z h' b ty n f := by obtain ⟨c, A, r⟩ := F; exact ⟨c, A.other W q, r⟩
theorem own_Arf.keep (F : own_Arf Z h a ty n f) (K : Keep h h' ws) (q : a ∉ ws) : own_Arf Z h' a ty n f := by obtain ⟨c, A, r⟩ := F; exact ⟨c, ⟨K.2.1 a c A.1 q, A.2⟩, r⟩
theorem own_Arf.cong (F : own_Arf Z h a ty n f) (q : ∀ j, j < n → f j = f' j) : own_Arf Z h a ty n f' := by obtain ⟨c, A, r1, r2, r3⟩ := F; exact ⟨c, A, r1, r2, fun j hj => (q j hj) ▸ r3 j hj⟩
theorem own_Arf.new {k : ClassId} {z : Int32} (A : Arr Z h a (newA k ty z) ty) (q : ¬ z < 0) : own_Arf Z h a ty z.toNatClampNeg (fun _ => defaultValue ty) :=
  ⟨_, A, sz_new _ _ _, (back32 q).2, fun j hj => by simp [newA, hj]⟩
theorem own_inb {j : Int32} {n : Nat} (h1 : 0 ≤ j.toInt) (h2 : j.toInt < n) : ¬ (j < 0 ∨ n ≤ j.toNatClampNeg) := by
  have q : j.toNatClampNeg = j.toInt.toNat := rfl
  rintro (p | p)
  · have := Int32.lt_iff_toInt_lt.mp p; rw [show (0 : Int32).toInt = 0 from rfl] at this; omega
  · rw [q] at p; omega
theorem own_set {c : Cell} {k : Nat} (A : Arr Z h a c ty) (S : c.slots.size = n) (hn : n < 2 ^ 31) (H : ∀ j, j < n → c.slots[j]? = some (f j)) (W : Wr h h' a k v) (hk : k < n) : own_Arf Z h' a ty n (fun i => if i = k then v else f i) := by
  refine ⟨_, A.same W, by rw [sz_set]; exact S, hn, fun j hj => ?_⟩
  by_cases q : j = k
  · subst q; simp [Cell.setSlot, S, hj]
  · show _ = some (if j = k then v else f j)
    rw [if_neg q, ← H j hj]; exact Array.getElem?_setIfInBounds_ne (Ne.symm q)
variable {p : Program} {l : Launch} {e : Env} {R : Room} {s : State} {m : MethodId} {args : Array Value} {below : List Frame} {meth : Method} {c : Code} {T : State} {locs : List Loc} {cells slots : Nat}
theorem own_ld {A : Prop} {j : Int32} (F : own_Arf Z h a ty n f) (h1 : 0 ≤ j.toInt) (h2 : j.toInt < n) (k : ∀ c : Cell, Arr Z h a c ty → ¬ (j < 0 ∨ c.slots.size ≤ j.toNatClampNeg) → c.slots[j.toNatClampNeg]? = some (f j.toNatClampNeg) → A) : A := by
  obtain ⟨c, Ar, S, hn, H⟩ := F
  exact k c Ar (by rw [S]; exact own_inb h1 h2) (H _ (by have q : j.toNatClampNeg = j.toInt.toNat := rfl; omega))
theorem own_iaload (X : Stand p l e R s m args below meth c T locs cells slots) (hx : p.tables.exec = Jvm.exec) (hZ : Z.Warmed39 s.vm) (eT : T.heap = h) {j : Int32} (F : own_Arf Z h a .int n f) (h1 : 0 ≤ j.toInt) (h2 : j.toInt < n) {w : Value} (hv : f j.toNatClampNeg = w) {g : JFrame} (hg : g.method = m) {rest : List Value} (hs : g.stack = .int j :: .ref a :: rest) (hd : decode c.code g.pc = .ok (.iaload, 1)) :
    ∀ target, Steps p.tables e below (T.setTop { g with pc := g.pc + 1, stack := w :: rest }) target → Steps p.tables e below (T.setTop g) target := by
  subst hv
  exact own_ld F h1 h2 fun cl Ar hin hat => X.iaload hx (j := j) (by rw [eT]; exact Ar.1) (State.isArrayOf_alike hZ.alike Ar.2.1) Ar.2.2 hin hat hg hs hd
theorem own_baloadB (X : Stand p l e R s m args below meth c T locs cells slots) (hx : p.tables.exec = Jvm.exec) (hZ : Z.Warmed39 s.vm) (eT : T.heap = h) {j : Int32} (F : own_Arf Z h a .byte n f) (h1 : 0 ≤ j.toInt) (h2 : j.toInt < n) {w : Value} (hv : f j.toNatClampNeg = w) {g : JFrame} (hg : g.method = m) {rest : List Value} (hs : g.stack = .int j :: .ref a :: rest) (hd : decode c.code g.pc = .ok (.baload, 1)) :
    ∀ target, Steps p.tables e below (T.setTop { g with pc := g.pc + 1, stack := w :: rest }) target → Steps p.tables e below (T.setTop g) target := by
  subst hv
  exact own_ld F h1 h2 fun cl Ar hin hat => X.baloadBytes hx (j := j) (by rw [eT]; exact Ar.1) (State.isArrayOf_alike hZ.alike Ar.2.1) Ar.2.2 hin hat hg hs hd
theorem own_baloadZ (X : Stand p l e R s m args below meth c T locs cells slots) (hx : p.tables.exec = Jvm.exec) (hZ : Z.Warmed39 s.vm) (eT : T.heap = h) {j : Int32} (F : own_Arf Z h a .boolean n f) (h1 : 0 ≤ j.toInt) (h2 : j.toInt < n) {w : Value} (hv : f j.toNatClampNeg = w) {g : JFrame} (hg : g.method = m) {rest : List Value} (hs : g.stack = .int j :: .ref a :: rest) (hd : decode c.code g.pc = .ok (.baload, 1)) :
    ∀ target, Steps p.tables e below (T.setTop { g with pc := g.pc + 1, stack := w :: rest }) target → Steps p.tables e below (T.setTop g) target := by
  subst hv
  exact own_ld F h1 h2 fun cl Ar hin hat => X.baloadBooleans hx (j := j) (by rw [eT]; exact Ar.1) (State.isArrayOf_alike hZ.alike Ar.2.1) Ar.2.2 hin hat hg hs hd
theorem own_len32 {c : Cell} {n : Nat} (S : c.slots.size = n) {z : Int32} (hz : z = Int32.ofNat n) : c.slots.size.toInt32 = z := by rw [S, hz]
theorem own_alen (X : Stand p l e R s m args below meth c T locs cells slots) (hx : p.tables.exec = Jvm.exec) (hZ : Z.Warmed39 s.vm) (eT : T.heap = h) (F : own_Arf Z h a ty n f) (z : Int32) (hz : z = Int32.ofNat n) {g : JFrame} (hg : g.method = m) {rest : List Value} (hs : g.stack = .ref a :: rest) (hd : decode c.code g.pc = .ok (.arraylength, 1)) :
    ∀ target, Steps p.tables e below (T.setTop { g with pc := g.pc + 1, stack := .int z :: rest }) target → Steps p.tables e below (T.setTop g) target := by
  obtain ⟨cl, Ar, S, hn, H⟩ := F
  intro t k
  refine X.arraylength hx (cell := cl) (by rw [eT]; exact Ar.1) (State.isArrayOf_alike hZ.alike Ar.2.1) hg hs hd t ?_
  rw [own_len32 S hz]; exact k
theorem own_stI (X : Stand p l e R s m args below meth c T locs cells slots) (hx : p.tables.exec = Jvm.exec) (hZ : Z.Warmed39 s.vm) (eT : T.heap = h) {j x : Int32} (F : own_Arf Z h a .int n f) (h1 : 0 ≤ j.toInt) (h2 : j.toInt < n) {g : JFrame} (hg : g.method = m) {rest : List Value} (hs : g.stack = .int x :: .int j :: .ref a :: rest) (hd : decode c.code g.pc = .ok (.iastore, 1)) :
    ∃ T' h', Stand p l e R s m args below meth c T' (locs ++ [⟨a, j.toNatClampNeg⟩]) cells slots ∧ T'.heap = h' ∧ Wr h h' a j.toNatClampNeg (.int x) ∧ own_Arf Z h' a .int n (fun i => if i = j.toNatClampNeg then .int x else f i) ∧ ∀ target, Steps p.tables e below (T'.setTop { g with pc := g.pc + 1, stack := rest }) target → Steps p.tables e below (T.setTop g) target := by
  obtain ⟨cl, Ar, S, hn, H⟩ := F
  have hin : ¬ (j < 0 ∨ cl.slots.size ≤ j.toNatClampNeg) := by rw [S]; exact own_inb h1 h2
  obtain ⟨T', h', X', e', W, st⟩ := stI X hx hZ eT Ar (j := j) hin hg hs hd
  exact ⟨T', h', X', e', W, own_set Ar S hn H W (by have q : j.toNatClampNeg = j.toInt.toNat := rfl; omega), st⟩
theorem own_stB (X : Stand p l e R s m args below meth c T locs cells slots) (hx : p.tables.exec = Jvm.exec) (hZ : Z.Warmed39 s.vm) (eT : T.heap = h) {j x : Int32} (F : own_Arf Z h a .byte n f) (h1 : 0 ≤ j.toInt) (h2 : j.toInt < n) {g : JFrame} (hg : g.method = m) {rest : List Value} (hs : g.stack = .int x :: .int j :: .ref a :: rest) (hd : decode c.code g.pc = .ok (.bastore, 1)) :
    ∃ T' h', Stand p l e R s m args below meth c T' (locs ++ [⟨a, j.toNatClampNeg⟩]) cells slots ∧ T'.heap = h' ∧ Wr h h' a j.toNatClampNeg (.int (nar .byte x)) ∧ own_Arf Z h' a .byte n (fun i => if i = j.toNatClampNeg then .int (nar .byte x) else f i) ∧ ∀ target, Steps p.tables e below (T'.setTop { g with pc := g.pc + 1, stack := rest }) target → Steps p.tables e below (T.setTop g) target := by
  obtain ⟨cl, Ar, S, hn, H⟩ := F
  have hin : ¬ (j < 0 ∨ cl.slots.size ≤ j.toNatClampNeg) := by rw [S]; exact own_inb h1 h2
  obtain ⟨T', h', X', e', W, st⟩ := stB X hx hZ eT Ar (j := j) hin hg hs hd
  exact ⟨T', h', X', e', W, own_set Ar S hn H W (by have q : j.toNatClampNeg = j.toInt.toNat := rfl; omega), st⟩
theorem own_stZ (X : Stand p l e R s m args below meth c T locs cells slots) (hx : p.tables.exec = Jvm.exec) (hZ : Z.Warmed39 s.vm) (eT : T.heap = h) {j x : Int32} (F : own_Arf Z h a .boolean n f) (h1 : 0 ≤ j.toInt) (h2 : j.toInt < n) {g : JFrame} (hg : g.method = m) {rest : List Value} (hs : g.stack = .int x :: .int j :: .ref a :: rest) (hd : decode c.code g.pc = .ok (.bastore, 1)) :
    ∃ T' h', Stand p l e R s m args below meth c T' (locs ++ [⟨a, j.toNatClampNeg⟩]) cells slots ∧ T'.heap = h' ∧ Wr h h' a j.toNatClampNeg (.int (nar .boolean x)) ∧ own_Arf Z h' a .boolean n (fun i => if i = j.toNatClampNeg then .int (nar .boolean x) else f i) ∧ ∀ target, Steps p.tables e below (T'.setTop { g with pc := g.pc + 1, stack := rest }) target → Steps p.tables e below (T.setTop g) target := by
  obtain ⟨cl, Ar, S, hn, H⟩ := F
  have hin : ¬ (j < 0 ∨ cl.slots.size ≤ j.toNatClampNeg) := by rw [S]; exact own_inb h1 h2
  obtain ⟨T', h', X', e', W, st⟩ := stZ X hx hZ eT Ar (j := j) hin hg hs hd
  exact ⟨T', h', X', e', W, own_set Ar S hn H W (by have q : j.toNatClampNeg = j.toInt.toNat := rfl; omega), st⟩
end OwnArf
theorem own_clamp {i : Int32} {k : Nat} (h : i.toInt = k) : i.toNatClampNeg = k := by show i.toInt.toNat = k; omega
theorem own_tabArf {s : State} {a : Addr} {cl : Cell} {ty : FieldType} {n : Nat} (hf : Fit s) (A : Arr s s.heap a cl ty) (ht : ty = .int ∨ ty = .boolean ∨ ty = .byte ∨ ty = .char ∨ ty = .short) (S : cl.slots.size = n) (hn : n < 2 ^ 31) : ∃ g : Nat → Int32, own_Arf s s.heap a ty n (fun i => .int (g i)) := by
  refine ⟨fun i => atv cl (Int32.ofNat i), cl, A, S, hn, fun j hj => ?_⟩
  have e1 : (Int32.ofNat j).toInt = j := Int32.toInt_ofNat_of_lt (by omega)
  have e2 : (Int32.ofNat j).toNatClampNeg = j := by show (Int32.ofNat j).toInt.toNat = j; omega
  have hin : ¬ (Int32.ofNat j < 0 ∨ cl.slots.size ≤ (Int32.ofNat j).toNatClampNeg) := by rw [S]; exact own_inb (by omega) (by omega)
  obtain ⟨v, h1, h2⟩ := elem_fit hf A hin
  obtain ⟨x, rfl⟩ := fit_I h2 ht
  show cl.slots[j]? = some (.int (atv cl (Int32.ofNat j)))
  rw [atv_of h1, ← e2]; exact h1
theorem own_lenOf {args : Array Value} {s : State} {t : Term} {a : Addr} {cl : Cell} {ty : FieldType} {k : Int32} (ev : t.eval args s none [] s = some (.ref a)) (A : Arr s s.heap a cl ty) (h : (Cond.eq (.length t) (.int k)).value args s none s [] = some true) (hk : 0 ≤ k.toInt) : cl.slots.size = k.toInt.toNat ∧ cl.slots.size < 2 ^ 31 := by
  have ha := A.fin (Vm.Alike.refl _)
  by_cases q : cl.slots.size < 2 ^ 31
  · have e1 : (Term.length t).eval args s none [] s = some (.int cl.slots.size.toInt32) := len_f ev ha q
    have e2 : cl.slots.size.toInt32 = k := by
      have hh := h
      simp only [Cond.value] at hh
      rw [e1] at hh
      simpa [Term.eval] using hh
    have e3 := len_toInt q
    rw [e2] at e3
    exact ⟨by omega, q⟩
  · exfalso
    have e1 : (Term.length t).eval args s none [] s = none := by simp [Term.eval, ev, ha, q]
    simp [Cond.value, e1] at h
theorem own_nameI {Z : State} {h : Heap} {a : Addr} {ty : FieldType} {n k : Nat} {g : Nat → Int32} {x : Int32} (V : own_Arf Z h a ty n (fun i => if i = k then .int x else .int (g i))) : ∃ g' : Nat → Int32, (∀ i, g' i = if i = k then x else g i) ∧ own_Arf Z h a ty n (fun i => .int (g' i)) :=
  ⟨fun i => if i = k then x else g i, fun _ => rfl, V.cong (fun i _ => by by_cases q : i = k <;> simp [q])⟩
theorem own_nameD {Z : State} {h : Heap} {a : Addr} {ty : FieldType} {n k : Nat} {g : Nat → UInt64} {x : UInt64} (V : own_Arf Z h a ty n (fun i => if i = k then .double x else .double (g i))) : ∃ g' : Nat → UInt64, (∀ i, g' i = if i = k then x else g i) ∧ own_Arf Z h a ty n (fun i => .double (g' i)) :=
  ⟨fun i => if i = k then x else g i, fun _ => rfl, V.cong (fun i _ => by by_cases q : i = k <;> simp [q])⟩
theorem own_natOf {i : Int32} {lo hi : Int} (h1 : 0 ≤ i.toInt) : ∃ k : Nat, i.toInt = k := ⟨i.toInt.toNat, by omega⟩
theorem own_tn {i : Int32} {k : Nat} (h : i.toInt = k) : i.toBitVec.toNat = k := by
  have h1 : i.toBitVec.toInt = k := h
  have h2 := BitVec.toInt_eq_toNat_cond i.toBitVec
  have h3 := i.toBitVec.isLt
  rw [h1] at h2
  split at h2 <;> omega
theorem pn_0 : plainName "java/lang/Record" = true := by first | (simp [plainName, overriddenIn]; done) | decide +kernel
theorem d2_0 : decode jdk_30_method_1_code 0 = .ok (.aload_n 0, 1) := by decide +kernel
theorem d2_1 : decode jdk_30_method_1_code 1 = .ok (.invokespecial 1, 3) := by decide +kernel
theorem d2_4 : decode jdk_30_method_1_code 4 = .ok (.return_, 1) := by decide +kernel
theorem ef_2 (m : MethodId) (x0 : Addr) : entryFrame m #[(.ref x0)] 1 = mkF m 0 #[.val (.ref x0)] [] := by first | (simp [entryFrame, mkF, argsToLocals, Value.category]; done) | rfl
def Q2 (Z : State) (a1 : Addr) (h0 : Heap) (n0 : Nat) (v : Option Value) (h : Heap) (L : List Loc) : Prop := v = none ∧ Fr n0 L ∧ h = h0
set_option maxRecDepth 65536 in
set_option maxHeartbeats 40000000 in
theorem rm2 (l : Launch) (Z : State) (a0 : Array Value) (hw : ∀ d ∈ tables_1, d.before a0 Z = true) (ws : List Jvm.Cond) (a1 : Addr) (h0 : Heap) (n0 : Nat) (Z0 : n0 ≤ h0.size) :
    MetFree l (⟨"java/lang/Record", "<init>", "()V"⟩ : MethodName) (head1 (Jvm.Cond.code (⟨"java/lang/Record", "<init>", "()V"⟩ : MethodName) jdk_30_method_1_code 1 none :: ws) ({ frames := 1, cells := 0, slots := 0, locals := 12 } : Room)) (fun a U => a = #[(.ref a1)] ∧ Z.Warmed39 U.vm ∧ U.heap = h0) (fun _ _ _ _ _ => True) (fun _ U o U' => ∃ v L, o = .returned v ∧ Q2 Z a1 h0 n0 v U'.heap L ∧ FrameEnd U o U' L ({ frames := 1, cells := 0, slots := 0, locals := 12 } : Room).cells ({ frames := 1, cells := 0, slots := 0, locals := 12 } : Room).slots) := by
  refine MetFree.of_bodySF (plainFor_of_name pn_0) hisR ?_
  intro p e s m args below meth c s₁ Bd hml0 hP hK
  obtain ⟨rfl, hZ, hh⟩ := hP
  have hx := Bd.exec
  have hby := Bd.bytes
  have hml : c.maxLocals = 1 := hml0
  have hown : s.vm.findClass "java/lang/Record" = some m.cls := findClass_of_methodNamed Bd.named
  have hnm := (name_of_methodNamed Bd.named Bd.method).1
  have hlk : meth.locks = false := BodyLoose.notSynchronized Bd
  have X0 : Stand p l e ({ frames := 1, cells := 0, slots := 0, locals := 12 } : Room) s m #[(.ref a1)] below meth c s₁ [] 0 0 := Stand.of_body Bd
  have e0 : s₁.heap = h0 := by rw [← hh, Bd.state]; rfl
  have N0 := Fr.nil n0
  have K0 : Keep h0 h0 [] := Keep.refl h0 _
  have key : ∀ (F0 : State) (G : Prop), (own_G p e below s F0 (Q2 Z a1 h0 n0) ({ frames := 1, cells := 0, slots := 0, locals := 12 } : Room).cells ({ frames := 1, cells := 0, slots := 0, locals := 12 } : Room).slots → G) → own_R p.tables e below F0 (s₁.setTop (mkF m 0 #[.val (.ref a1)] [])) → G := by
    intro F0 G hG r0
    have r1 : own_R p.tables e below F0 (s₁.setTop (mkF m 1 #[.val (.ref a1)] [(.ref a1)])) := fun t k => by
      refine r0 t ?_
      show Steps p.tables e below (s₁.setTop (mkF m 0 #[.val (.ref a1)] [])) _
      refine XS.aloadN X0.here hx rfl (hb hby d2_0) rfl rfl ?_
      exact k
    obtain ⟨T2, X2, e2, st2⟩ := initO X0 hx hZ hown (hw _ (List.mem_of_getElem? (i := 11) rfl)) (hw _ (List.mem_of_getElem? (i := 12) rfl)) (hw _ (List.mem_of_getElem? (i := 13) rfl)) e0 (g := (mkF m 1 #[.val (.ref a1)] [(.ref a1)])) rfl (by rw [hml]; rfl) rfl (hb hby d2_1) (by decide) (W := 0) (by show 2 * 0 + _ ≤ _; exact Nat.le_of_eq rfl) (by decide)
    have r2 : own_R p.tables e below F0 (T2.setTop (mkF m 4 #[.val (.ref a1)] [])) := fun t k => r1 t (st2 t k)
    refine hG (own_fin X2 hlk (none) (fun _ => rfl) ?_ (by decide) (by decide) (fun fs hr => r2 _ (X2.returnOut hx Bd.returns (hb hby d2_4) hr)))
    rw [e2]
    refine ⟨?_, N0, rfl⟩
    rfl
  exact key _ _ id (fun t k => castTop (ef_2 m a1) k)
theorem pn_1 : plainName "com/example/ballast/ballast/coverage/LineCoverage" = true := by first | (simp [plainName, overriddenIn]; done) | decide +kernel
theorem pd_0 : parseMethodDescriptor "()V" = some ⟨[], none⟩ := by decide +kernel
theorem d1_0 : decode prog_5_method_1_code 0 = .ok (.aload_n 0, 1) := by decide +kernel
theorem d1_1 : decode prog_5_method_1_code 1 = .ok (.invokespecial 1, 3) := by decide +kernel
theorem d1_4 : decode prog_5_method_1_code 4 = .ok (.aload_n 0, 1) := by decide +kernel
theorem d1_5 : decode prog_5_method_1_code 5 = .ok (.lload_n 1, 1) := by decide +kernel
theorem d1_6 : decode prog_5_method_1_code 6 = .ok (.putfield 7, 3) := by decide +kernel
theorem d1_9 : decode prog_5_method_1_code 9 = .ok (.aload_n 0, 1) := by decide +kernel
theorem d1_10 : decode prog_5_method_1_code 10 = .ok (.lload_n 3, 1) := by decide +kernel
theorem d1_11 : decode prog_5_method_1_code 11 = .ok (.putfield 13, 3) := by decide +kernel
theorem d1_14 : decode prog_5_method_1_code 14 = .ok (.return_, 1) := by decide +kernel
theorem ef_1 (m : MethodId) (x0 : Addr) (x1 : Int64) (x2 : Int64) : entryFrame m #[(.ref x0), (.long x1), (.long x2)] 5 = mkF m 0 #[.val (.ref x0), .val (.long x1), .second, .val (.long x2), .second] [] := by first | (simp [entryFrame, mkF, argsToLocals, Value.category]; done) | rfl
def Q1 (Z : State) (a1 : Addr) (p2 : Int64) (p3 : Int64) (h0 : Heap) (n0 : Nat) (v : Option Value) (h : Heap) (L : List Loc) : Prop := v = none ∧ Fr n0 L ∧ Keep h0 h [a1] ∧ Exa Z h a1 "com/example/ballast/ballast/coverage/LineCoverage" ∧ Fld Z h a1 "com/example/ballast/ballast/coverage/LineCoverage" "covered" "J" (.long p2) ∧ Fld Z h a1 "com/example/ballast/ballast/coverage/LineCoverage" "missed" "J" (.long p3)
set_option maxRecDepth 65536 in
set_option maxHeartbeats 40000000 in
theorem rm1 (l : Launch) (Z : State) (a0 : Array Value) (hw : ∀ d ∈ tables_1, d.before a0 Z = true) (ws : List Jvm.Cond) (a1 : Addr) (p2 : Int64) (p3 : Int64) (h0 : Heap) (n0 : Nat) (Z0 : n0 ≤ h0.size) (E1 : Exa Z h0 a1 "com/example/ballast/ballast/coverage/LineCoverage") (Fp0 : Fld Z h0 a1 "com/example/ballast/ballast/coverage/LineCoverage" "covered" "J" (.long (0 : Int64))) (Fp1 : Fld Z h0 a1 "com/example/ballast/ballast/coverage/LineCoverage" "missed" "J" (.long (0 : Int64))) (ga1 : n0 ≤ a1) :
    MetFree l (⟨"com/example/ballast/ballast/coverage/LineCoverage", "<init>", "(JJ)V"⟩ : MethodName) (head1 (Jvm.Cond.code (⟨"com/example/ballast/ballast/coverage/LineCoverage", "<init>", "(JJ)V"⟩ : MethodName) prog_5_method_1_code 5 none :: ws) ({ frames := 2, cells := 0, slots := 0, locals := 24 } : Room)) (fun a U => a = #[(.ref a1), (.long p2), (.long p3)] ∧ Z.Warmed39 U.vm ∧ U.heap = h0) (fun _ _ _ _ _ => True) (fun _ U o U' => ∃ v L, o = .returned v ∧ Q1 Z a1 p2 p3 h0 n0 v U'.heap L ∧ FrameEnd U o U' L ({ frames := 2, cells := 0, slots := 0, locals := 24 } : Room).cells ({ frames := 2, cells := 0, slots := 0, locals := 24 } : Room).slots) := by
  refine MetFree.of_bodySF (plainFor_of_name pn_1) hisR ?_
  intro p e s m args below meth c s₁ Bd hml0 hP hK
  obtain ⟨rfl, hZ, hh⟩ := hP
  have hx := Bd.exec
  have hby := Bd.bytes
  have hml : c.maxLocals = 5 := hml0
  have hown : s.vm.findClass "com/example/ballast/ballast/coverage/LineCoverage" = some m.cls := findClass_of_methodNamed Bd.named
  have hnm := (name_of_methodNamed Bd.named Bd.method).1
  have hlk : meth.locks = false := BodyLoose.notSynchronized Bd
  have X0 : Stand p l e ({ frames := 2, cells := 0, slots := 0, locals := 24 } : Room) s m #[(.ref a1), (.long p2), (.long p3)] below meth c s₁ [] 0 0 := Stand.of_body Bd
  have e0 : s₁.heap = h0 := by rw [← hh, Bd.state]; rfl
  have N0 := Fr.nil n0
  have K0 : Keep h0 h0 [a1] := Keep.refl h0 _
  have key : ∀ (F0 : State) (G : Prop), (own_G p e below s F0 (Q1 Z a1 p2 p3 h0 n0) ({ frames := 2, cells := 0, slots := 0, locals := 24 } : Room).cells ({ frames := 2, cells := 0, slots := 0, locals := 24 } : Room).slots → G) → own_R p.tables e below F0 (s₁.setTop (mkF m 0 #[.val (.ref a1), .val (.long p2), .second, .val (.long p3), .second] [])) → G := by
    intro F0 G hG r0
    have r3 : own_R p.tables e below F0 (s₁.setTop (mkF m 1 #[.val (.ref a1), .val (.long p2), .second, .val (.long p3), .second] [(.ref a1)])) := fun t k => by
      refine r0 t ?_
      show Steps p.tables e below (s₁.setTop (mkF m 0 #[.val (.ref a1), .val (.long p2), .second, .val (.long p3), .second] [])) _
      refine XS.aloadN X0.here hx rfl (hb hby d1_0) rfl rfl ?_
      exact k
    obtain ⟨_, _, ⟨T4, L4, k4, n4⟩, -, X4, ⟨Lc4, hQ4, l4, y4, z4⟩, st4⟩ := X0.specialBack hx (y := (⟨"java/lang/Record", "<init>", "()V"⟩ : MethodName)) rfl hown (mvT hZ (hw _ (List.mem_of_getElem? (i := 6) rfl))) (mvT hZ (hw _ (List.mem_of_getElem? (i := 7) rfl))) (mvT hZ (hw _ (List.mem_of_getElem? (i := 10) rfl))) (by decide) (backOf (W := 0) (rm2 l Z a0 hw [] a1 h0 n0 Z0 ) hZ (hw _ (List.mem_of_getElem? (i := 10) rfl)) (hw _ (List.mem_of_getElem? (i := 9) rfl)) (by decide) (by decide)) (g := (mkF m 1 #[.val (.ref a1), .val (.long p2), .second, .val (.long p3), .second] [(.ref a1)])) rfl (by rw [hml]; rfl) (Steps.refl _) (a := a1) (argsL := []) (rest := []) (lenOf pd_0 rfl) rfl (by show 2 * 0 + _ ≤ _; exact Nat.le_of_eq rfl) (hb hby d1_1) (fun _ _ => ⟨rfl, e0, (by decide : 0 + 0 ≤ _), (by decide : 0 + 0 ≤ _)⟩)
    dsimp only [Pt.U, Pt.locs, Pt.cells, Pt.slots] at X4 l4 y4 z4 st4 hQ4
    subst l4 y4 z4
    obtain ⟨rfl, N4q, I4_0⟩ := hQ4
    have N4 := Fr.app N0 N4q
    have r4 : own_R p.tables e below F0 (T4.setTop (mkF m 4 #[.val (.ref a1), .val (.long p2), .second, .val (.long p3), .second] [])) := fun t k => r3 t (st4.trans k)
    have r5 : own_R p.tables e below F0 (T4.setTop (mkF m 6 #[.val (.ref a1), .val (.long p2), .second, .val (.long p3), .second] [(.long p2), (.ref a1)])) := fun t k => by
      refine r4 t ?_
      show Steps p.tables e below (T4.setTop (mkF m 4 #[.val (.ref a1), .val (.long p2), .second, .val (.long p3), .second] [])) _
      refine XS.aloadN X4.here hx rfl (hb hby d1_4) rfl rfl ?_
      show Steps p.tables e below (T4.setTop (mkF m 5 #[.val (.ref a1), .val (.long p2), .second, .val (.long p3), .second] [(.ref a1)])) _
      refine XS.lloadN X4.here hx rfl (hb hby d1_5) rfl ?_
      exact k
    obtain ⟨T6, h6, X6, e6, W6, st6⟩ := putF X4 hx hZ hown (host := "") (Or.inl (hw _ (List.mem_of_getElem? (i := 14) rfl))) Via.refl I4_0 Fp0 E1 (Or.inr ⟨(hw _ (List.mem_of_getElem? (i := 15) rfl)), rfl, hnm⟩) (hw _ (List.mem_of_getElem? (i := 1) rfl)) (ty := .long) (by decide) rfl rfl (g := (mkF m 6 #[.val (.ref a1), .val (.long p2), .second, .val (.long p3), .second] [(.long p2), (.ref a1)])) rfl rfl (hb hby d1_6)
    have F7 : Exa Z h6 a1 "com/example/ballast/ballast/coverage/LineCoverage" := E1.wr W6
    have F8 : Fld Z h6 a1 "com/example/ballast/ballast/coverage/LineCoverage" "covered" "J" (.long p2) := Fp0.same W6
    have F9 : Fld Z h6 a1 "com/example/ballast/ballast/coverage/LineCoverage" "missed" "J" (.long (0 : Int64)) := Fp1.other W6 (Or.inr (slot_ne (Or.inr (hw _ (List.mem_of_getElem? (i := 17) rfl))) (Or.inr (hw _ (List.mem_of_getElem? (i := 15) rfl))) (by decide) (t := .long) (t' := .long) (by decide) (by decide)))
    have Zs10 : n0 ≤ h6.size := by rw [W6.size]; exact Z0
    have N11 := Fr.snoc X6 N4 ga1
    have K12 : Keep h0 h6 [a1] := K0.wr W6 (Or.inl (List.mem_of_getElem? (i := 0) rfl))
    have r6 : own_R p.tables e below F0 (T6.setTop (mkF m 9 #[.val (.ref a1), .val (.long p2), .second, .val (.long p3), .second] [])) := fun t k => r5 t (st6 t k)
    have r13 : own_R p.tables e below F0 (T6.setTop (mkF m 11 #[.val (.ref a1), .val (.long p2), .second, .val (.long p3), .second] [(.long p3), (.ref a1)])) := fun t k => by
      refine r6 t ?_
      show Steps p.tables e below (T6.setTop (mkF m 9 #[.val (.ref a1), .val (.long p2), .second, .val (.long p3), .second] [])) _
      refine XS.aloadN X6.here hx rfl (hb hby d1_9) rfl rfl ?_
      show Steps p.tables e below (T6.setTop (mkF m 10 #[.val (.ref a1), .val (.long p2), .second, .val (.long p3), .second] [(.ref a1)])) _
      refine XS.lloadN X6.here hx rfl (hb hby d1_10) rfl ?_
      exact k
    obtain ⟨T14, h14, X14, e14, W14, st14⟩ := putF X6 hx hZ hown (host := "") (Or.inl (hw _ (List.mem_of_getElem? (i := 16) rfl))) Via.refl e6 F9 F7 (Or.inr ⟨(hw _ (List.mem_of_getElem? (i := 17) rfl)), rfl, hnm⟩) (hw _ (List.mem_of_getElem? (i := 1) rfl)) (ty := .long) (by decide) rfl rfl (g := (mkF m 11 #[.val (.ref a1), .val (.long p2), .second, .val (.long p3), .second] [(.long p3), (.ref a1)])) rfl rfl (hb hby d1_11)
    have F15 : Exa Z h14 a1 "com/example/ballast/ballast/coverage/LineCoverage" := F7.wr W14
    have F16 : Fld Z h14 a1 "com/example/ballast/ballast/coverage/LineCoverage" "covered" "J" (.long p2) := F8.other W14 (Or.inr (slot_ne (Or.inr (hw _ (List.mem_of_getElem? (i := 15) rfl))) (Or.inr (hw _ (List.mem_of_getElem? (i := 17) rfl))) (by decide) (t := .long) (t' := .long) (by decide) (by decide)))
    have F17 : Fld Z h14 a1 "com/example/ballast/ballast/coverage/LineCoverage" "missed" "J" (.long p3) := F9.same W14
    have Zs18 : n0 ≤ h14.size := by rw [W14.size]; exact Zs10
    have N19 := Fr.snoc X14 N11 ga1
    have K20 : Keep h0 h14 [a1] := K12.wr W14 (Or.inl (List.mem_of_getElem? (i := 0) rfl))
    have r14 : own_R p.tables e below F0 (T14.setTop (mkF m 14 #[.val (.ref a1), .val (.long p2), .second, .val (.long p3), .second] [])) := fun t k => r13 t (st14 t k)
    refine hG (own_fin X14 hlk (none) (fun _ => rfl) ?_ (by decide) (by decide) (fun fs hr => r14 _ (X14.returnOut hx Bd.returns (hb hby d1_14) hr)))
    rw [e14]
    refine ⟨?_, N19, K20, F15, F16, F17⟩
    rfl
  exact key _ _ id (fun t k => castTop (ef_1 m a1 p2 p3) k)
def own_max (p0 : Int64) (p1 : Int64) : Int64 := (if p0 < p1 then p1 else p0)
theorem d5_0 : decode jdk_29_method_66_code 0 = .ok (.lload_n 0, 1) := by decide +kernel
theorem d5_1 : decode jdk_29_method_66_code 1 = .ok (.lload_n 2, 1) := by decide +kernel
theorem d5_2 : decode jdk_29_method_66_code 2 = .ok (.lcmp, 1) := by decide +kernel
theorem d5_3 : decode jdk_29_method_66_code 3 = .ok (.ifCond .lt 7, 3) := by decide +kernel
theorem d5_6 : decode jdk_29_method_66_code 6 = .ok (.lload_n 0, 1) := by decide +kernel
theorem d5_7 : decode jdk_29_method_66_code 7 = .ok (.goto 4, 3) := by decide +kernel
theorem d5_10 : decode jdk_29_method_66_code 10 = .ok (.lload_n 2, 1) := by decide +kernel
theorem d5_11 : decode jdk_29_method_66_code 11 = .ok (.lreturn, 1) := by decide +kernel
theorem ef_5 (m : MethodId) (x0 : Int64) (x1 : Int64) : entryFrame m #[(.long x0), (.long x1)] 4 = mkF m 0 #[.val (.long x0), .second, .val (.long x1), .second] [] := by first | (simp [entryFrame, mkF, argsToLocals, Value.category]; done) | rfl
def Q5 (Z : State) (p0 : Int64) (p1 : Int64) (h0 : Heap) (n0 : Nat) (v : Option Value) (h : Heap) (L : List Loc) : Prop := v = some (.long (own_max p0 p1)) ∧ Fr n0 L ∧ h = h0
set_option maxRecDepth 65536 in
set_option maxHeartbeats 40000000 in
theorem rm5 (l : Launch) (Z : State) (a0 : Array Value) (hw : ∀ d ∈ tables_1, d.before a0 Z = true) (ws : List Jvm.Cond) (p0 : Int64) (p1 : Int64) (h0 : Heap) (n0 : Nat) (Z0 : n0 ≤ h0.size) :
    MetFree l (⟨"java/lang/Math", "max", "(JJ)J"⟩ : MethodName) (head1 (Jvm.Cond.code (⟨"java/lang/Math", "max", "(JJ)J"⟩ : MethodName) jdk_29_method_66_code 4 (some .long) :: ws) ({ frames := 0, cells := 0, slots := 0, locals := 0 } : Room)) (fun a U => a = #[(.long p0), (.long p1)] ∧ Z.Warmed39 U.vm ∧ U.heap = h0) (fun _ _ _ _ _ => True) (fun _ U o U' => ∃ v L, o = .returned v ∧ Q5 Z p0 p1 h0 n0 v U'.heap L ∧ FrameEnd U o U' L ({ frames := 0, cells := 0, slots := 0, locals := 0 } : Room).cells ({ frames := 0, cells := 0, slots := 0, locals := 0 } : Room).slots) := by
  refine MetFree.of_bodySF (Jvm.Free.JP.mathPlain rfl (by decide +kernel)) hisR ?_
  intro p e s m args below meth c s₁ Bd hml0 hP hK
  obtain ⟨rfl, hZ, hh⟩ := hP
  have hx := Bd.exec
  have hby := Bd.bytes
  have hml : c.maxLocals = 4 := hml0
  have hown : s.vm.findClass "java/lang/Math" = some m.cls := findClass_of_methodNamed Bd.named
  have hnm := (name_of_methodNamed Bd.named Bd.method).1
  have hlk : meth.locks = false := BodyLoose.notSynchronized Bd
  have X0 : Stand p l e ({ frames := 0, cells := 0, slots := 0, locals := 0 } : Room) s m #[(.long p0), (.long p1)] below meth c s₁ [] 0 0 := Stand.of_body Bd
  have e0 : s₁.heap = h0 := by rw [← hh, Bd.state]; rfl
  have N0 := Fr.nil n0
  have K0 : Keep h0 h0 [] := Keep.refl h0 _
  have key : ∀ (F0 : State) (G : Prop), (own_G p e below s F0 (Q5 Z p0 p1 h0 n0) ({ frames := 0, cells := 0, slots := 0, locals := 0 } : Room).cells ({ frames := 0, cells := 0, slots := 0, locals := 0 } : Room).slots → G) → own_R p.tables e below F0 (s₁.setTop (mkF m 0 #[.val (.long p0), .second, .val (.long p1), .second] [])) → G := by
    intro F0 G hG r0
    have r21 : own_R p.tables e below F0 (s₁.setTop (mkF m 3 #[.val (.long p0), .second, .val (.long p1), .second] [(.int (lcmpW p0 p1))])) := fun t k => by
      refine r0 t ?_
      show Steps p.tables e below (s₁.setTop (mkF m 0 #[.val (.long p0), .second, .val (.long p1), .second] [])) _
      refine XS.lloadN X0.here hx rfl (hb hby d5_0) rfl ?_
      show Steps p.tables e below (s₁.setTop (mkF m 1 #[.val (.long p0), .second, .val (.long p1), .second] [(.long p0)])) _
      refine XS.lloadN X0.here hx rfl (hb hby d5_1) rfl ?_
      show Steps p.tables e below (s₁.setTop (mkF m 2 #[.val (.long p0), .second, .val (.long p1), .second] [(.long p1), (.long p0)])) _
      refine XS.lcmp X0.here hx rfl (hb hby d5_2) rfl ?_
      exact k
    by_cases hc22 : p0 < p1
    · have r23 : own_R p.tables e below F0 (s₁.setTop (mkF m 11 #[.val (.long p0), .second, .val (.long p1), .second] [(.long p1)])) := fun t k => by
        refine r21 t ?_
        show Steps p.tables e below (s₁.setTop (mkF m 3 #[.val (.long p0), .second, .val (.long p1), .second] [(.int (lcmpW p0 p1))])) _
        refine XS.ifYes X0.here hx rfl (pc0 := 3) (pc' := 10) rfl (hb hby d5_3) rfl (own_l_lt hc22).1 (by decide) (by decide) ?_
        show Steps p.tables e below (s₁.setTop (mkF m 10 #[.val (.long p0), .second, .val (.long p1), .second] [])) _
        refine XS.lloadN X0.here hx rfl (hb hby d5_10) rfl ?_
        exact k
      refine hG (own_fin X0 hlk (some (.long p1)) (own_hv Bd.returns) ?_ (by decide) (by decide) (fun fs hr => r23 _ (retOut X0 hx Bd.returns rfl (Or.inr (Or.inl ⟨rfl, rfl, _, rfl⟩)) (hb hby d5_11) hr)))
      rw [e0]
      refine ⟨?_, N0, rfl⟩
      have ev : (own_max p0 p1) = p1 := by unfold own_max; rw [if_pos hc22]
      rw [ev]
    · have r24 : own_R p.tables e below F0 (s₁.setTop (mkF m 11 #[.val (.long p0), .second, .val (.long p1), .second] [(.long p0)])) := fun t k => by
        refine r21 t ?_
        show Steps p.tables e below (s₁.setTop (mkF m 3 #[.val (.long p0), .second, .val (.long p1), .second] [(.int (lcmpW p0 p1))])) _
        refine XS.ifNo X0.here hx rfl (hb hby d5_3) rfl (own_l_nlt hc22).1 ?_
        show Steps p.tables e below (s₁.setTop (mkF m 6 #[.val (.long p0), .second, .val (.long p1), .second] [])) _
        refine XS.lloadN X0.here hx rfl (hb hby d5_6) rfl ?_
        show Steps p.tables e below (s₁.setTop (mkF m 7 #[.val (.long p0), .second, .val (.long p1), .second] [(.long p0)])) _
        refine XS.goto X0.here hx rfl (pc0 := 7) (pc' := 11) rfl (hb hby d5_7) (by decide) (by decide) ?_
        exact k
      refine hG (own_fin X0 hlk (some (.long p0)) (own_hv Bd.returns) ?_ (by decide) (by decide) (fun fs hr => r24 _ (retOut X0 hx Bd.returns rfl (Or.inr (Or.inl ⟨rfl, rfl, _, rfl⟩)) (hb hby d5_11) hr)))
      rw [e0]
      refine ⟨?_, N0, rfl⟩
      have ev : (own_max p0 p1) = p0 := by unfold own_max; rw [if_neg hc22]
      rw [ev]
  exact key _ _ id (fun t k => castTop (ef_5 m p0 p1) k)
def own_whole (wc : Int64) (wm : Int64) : Int64 := (if (wc + wm) < (1 : Int64) then (1 : Int64) else (wc + wm))
theorem pd_1 : parseMethodDescriptor "(JJ)J" = some ⟨[.long, .long], some .long⟩ := by decide +kernel
theorem d4_0 : decode prog_5_method_3_code 0 = .ok (.aload_n 0, 1) := by decide +kernel
theorem d4_1 : decode prog_5_method_3_code 1 = .ok (.getfield 7, 3) := by decide +kernel
theorem d4_4 : decode prog_5_method_3_code 4 = .ok (.aload_n 0, 1) := by decide +kernel
theorem d4_5 : decode prog_5_method_3_code 5 = .ok (.getfield 13, 3) := by decide +kernel
theorem d4_8 : decode prog_5_method_3_code 8 = .ok (.ladd, 1) := by decide +kernel
theorem d4_9 : decode prog_5_method_3_code 9 = .ok (.lconst 1, 1) := by decide +kernel
theorem d4_10 : decode prog_5_method_3_code 10 = .ok (.invokestatic 19, 3) := by decide +kernel
theorem d4_13 : decode prog_5_method_3_code 13 = .ok (.lreturn, 1) := by decide +kernel
theorem ef_4 (m : MethodId) (x0 : Addr) : entryFrame m #[(.ref x0)] 1 = mkF m 0 #[.val (.ref x0)] [] := by first | (simp [entryFrame, mkF, argsToLocals, Value.category]; done) | rfl
def Q4 (Z : State) (a1 : Addr) (wc : Int64) (wm : Int64) (h0 : Heap) (n0 : Nat) (v : Option Value) (h : Heap) (L : List Loc) : Prop := v = some (.long (own_whole wc wm)) ∧ Fr n0 L ∧ h = h0
set_option maxRecDepth 65536 in
set_option maxHeartbeats 40000000 in
theorem rm4 (l : Launch) (Z : State) (a0 : Array Value) (hw : ∀ d ∈ tables_1, d.before a0 Z = true) (ws : List Jvm.Cond) (a1 : Addr) (wc : Int64) (wm : Int64) (h0 : Heap) (n0 : Nat) (Z0 : n0 ≤ h0.size) (F_wc : Fld Z h0 a1 "com/example/ballast/ballast/coverage/LineCoverage" "covered" "J" (.long wc)) (F_wm : Fld Z h0 a1 "com/example/ballast/ballast/coverage/LineCoverage" "missed" "J" (.long wm)) :
    MetFree l (⟨"com/example/ballast/ballast/coverage/LineCoverage", "whole", "()J"⟩ : MethodName) (head1 (Jvm.Cond.code (⟨"com/example/ballast/ballast/coverage/LineCoverage", "whole", "()J"⟩ : MethodName) prog_5_method_3_code 1 (some .long) :: ws) ({ frames := 1, cells := 0, slots := 0, locals := 15 } : Room)) (fun a U => a = #[(.ref a1)] ∧ Z.Warmed39 U.vm ∧ U.heap = h0) (fun _ _ _ _ _ => True) (fun _ U o U' => ∃ v L, o = .returned v ∧ Q4 Z a1 wc wm h0 n0 v U'.heap L ∧ FrameEnd U o U' L ({ frames := 1, cells := 0, slots := 0, locals := 15 } : Room).cells ({ frames := 1, cells := 0, slots := 0, locals := 15 } : Room).slots) := by
  refine MetFree.of_bodySF (plainFor_of_name pn_1) hisR ?_
  intro p e s m args below meth c s₁ Bd hml0 hP hK
  obtain ⟨rfl, hZ, hh⟩ := hP
  have hx := Bd.exec
  have hby := Bd.bytes
  have hml : c.maxLocals = 1 := hml0
  have hown : s.vm.findClass "com/example/ballast/ballast/coverage/LineCoverage" = some m.cls := findClass_of_methodNamed Bd.named
  have hnm := (name_of_methodNamed Bd.named Bd.method).1
  have hlk : meth.locks = false := BodyLoose.notSynchronized Bd
  have X0 : Stand p l e ({ frames := 1, cells := 0, slots := 0, locals := 15 } : Room) s m #[(.ref a1)] below meth c s₁ [] 0 0 := Stand.of_body Bd
  have e0 : s₁.heap = h0 := by rw [← hh, Bd.state]; rfl
  have N0 := Fr.nil n0
  have K0 : Keep h0 h0 [] := Keep.refl h0 _
  have key : ∀ (F0 : State) (G : Prop), (own_G p e below s F0 (Q4 Z a1 wc wm h0 n0) ({ frames := 1, cells := 0, slots := 0, locals := 15 } : Room).cells ({ frames := 1, cells := 0, slots := 0, locals := 15 } : Room).slots → G) → own_R p.tables e below F0 (s₁.setTop (mkF m 0 #[.val (.ref a1)] [])) → G := by
    intro F0 G hG r0
    have r25 : own_R p.tables e below F0 (s₁.setTop (mkF m 1 #[.val (.ref a1)] [(.ref a1)])) := fun t k => by
      refine r0 t ?_
      show Steps p.tables e below (s₁.setTop (mkF m 0 #[.val (.ref a1)] [])) _
      refine XS.aloadN X0.here hx rfl (hb hby d4_0) rfl rfl ?_
      exact k
    obtain ⟨T26, X26, e26, st26⟩ := getF X0 hx hZ hown (host := "") (Or.inl (hw _ (List.mem_of_getElem? (i := 14) rfl))) Via.refl e0 F_wc (g := (mkF m 1 #[.val (.ref a1)] [(.ref a1)])) rfl rfl (hb hby d4_1)
    have r26 : own_R p.tables e below F0 (T26.setTop (mkF m 4 #[.val (.ref a1)] [(.long wc)])) := fun t k => r25 t (st26 t k)
    have r27 : own_R p.tables e below F0 (T26.setTop (mkF m 5 #[.val (.ref a1)] [(.ref a1), (.long wc)])) := fun t k => by
      refine r26 t ?_
      show Steps p.tables e below (T26.setTop (mkF m 4 #[.val (.ref a1)] [(.long wc)])) _
      refine XS.aloadN X26.here hx rfl (hb hby d4_4) rfl rfl ?_
      exact k
    obtain ⟨T28, X28, e28, st28⟩ := getF X26 hx hZ hown (host := "") (Or.inl (hw _ (List.mem_of_getElem? (i := 16) rfl))) Via.refl e26 F_wm (g := (mkF m 5 #[.val (.ref a1)] [(.ref a1), (.long wc)])) rfl rfl (hb hby d4_5)
    have r28 : own_R p.tables e below F0 (T28.setTop (mkF m 8 #[.val (.ref a1)] [(.long wm), (.long wc)])) := fun t k => r27 t (st28 t k)
    have r29 : own_R p.tables e below F0 (T28.setTop (mkF m 10 #[.val (.ref a1)] [(.long (1 : Int64)), (.long (wc + wm))])) := fun t k => by
      refine r28 t ?_
      show Steps p.tables e below (T28.setTop (mkF m 8 #[.val (.ref a1)] [(.long wm), (.long wc)])) _
      refine XS.ladd X28.here hx rfl (hb hby d4_8) rfl ?_
      show Steps p.tables e below (T28.setTop (mkF m 9 #[.val (.ref a1)] [(.long (wc + wm))])) _
      refine XS.lconst X28.here hx rfl (hb hby d4_9) ?_
      exact k
    obtain ⟨_, _, ⟨T30, L30, k30, n30⟩, -, X30, ⟨Lc30, hQ30, l30, y30, z30⟩, st30⟩ := Jvm.LawKit.callS X28 hx (y := (⟨"java/lang/Math", "max", "(JJ)J"⟩ : MethodName)) hown (mvT hZ (hw _ (List.mem_of_getElem? (i := 23) rfl))) (mvT hZ (hw _ (List.mem_of_getElem? (i := 24) rfl))) (mvT hZ (hw _ (List.mem_of_getElem? (i := 25) rfl))) (mvT hZ (hw _ (List.mem_of_getElem? (i := 26) rfl))) (by decide) (backOf (W := 0) (rm5 l Z a0 hw [] (wc + wm) (1 : Int64) h0 n0 Z0 ) hZ (hw _ (List.mem_of_getElem? (i := 26) rfl)) (hw _ (List.mem_of_getElem? (i := 25) rfl)) (by decide) (by decide)) (g := (mkF m 10 #[.val (.ref a1)] [(.long (1 : Int64)), (.long (wc + wm))])) rfl (by rw [hml]; rfl) (argsL := [(.long (wc + wm)), (.long (1 : Int64))]) (rest := []) (lenOf pd_1 rfl) rfl (by show 2 * 0 + _ ≤ _; exact Nat.le_of_eq rfl) (hb hby d4_10) (fun _ _ => ⟨rfl, e28, (by decide : 0 + 0 ≤ _), (by decide : 0 + 0 ≤ _)⟩)
    dsimp only [Pt.U, Pt.locs, Pt.cells, Pt.slots] at X30 l30 y30 z30 st30 hQ30
    subst l30 y30 z30
    obtain ⟨rfl, N30q, I30_0⟩ := hQ30
    have N30 := Fr.app N0 N30q
    have r30 : own_R p.tables e below F0 (T30.setTop (mkF m 13 #[.val (.ref a1)] [(.long (own_max (wc + wm) (1 : Int64)))])) := fun t k => r29 t (st30 t k)
    by_cases hc31 : (wc + wm) < (1 : Int64)
    · have ev32 : (own_max (wc + wm) (1 : Int64)) = (1 : Int64) := by unfold own_max; rw [if_pos hc31]
      have r33 : own_R p.tables e below F0 (T30.setTop (mkF m 13 #[.val (.ref a1)] [(.long (1 : Int64))])) := by have q := r30; rw [ev32] at q; exact q
      refine hG (own_fin X30 hlk (some (.long (1 : Int64))) (own_hv Bd.returns) ?_ (by decide) (by decide) (fun fs hr => r33 _ (retOut X30 hx Bd.returns rfl (Or.inr (Or.inl ⟨rfl, rfl, _, rfl⟩)) (hb hby d4_13) hr)))
      rw [I30_0]
      refine ⟨?_, N30, rfl⟩
      have ev : (own_whole wc wm) = (1 : Int64) := by unfold own_whole; rw [if_pos hc31]
      rw [ev]
    · have ev34 : (own_max (wc + wm) (1 : Int64)) = (wc + wm) := by unfold own_max; rw [if_neg hc31]
      have r35 : own_R p.tables e below F0 (T30.setTop (mkF m 13 #[.val (.ref a1)] [(.long (wc + wm))])) := by have q := r30; rw [ev34] at q; exact q
      refine hG (own_fin X30 hlk (some (.long (wc + wm))) (own_hv Bd.returns) ?_ (by decide) (by decide) (fun fs hr => r35 _ (retOut X30 hx Bd.returns rfl (Or.inr (Or.inl ⟨rfl, rfl, _, rfl⟩)) (hb hby d4_13) hr)))
      rw [I30_0]
      refine ⟨?_, N30, rfl⟩
      have ev : (own_whole wc wm) = (wc + wm) := by unfold own_whole; rw [if_neg hc31]
      rw [ev]
  exact key _ _ id (fun t k => castTop (ef_4 m a1) k)
theorem pn_2 : plainName "com/example/ballast/ballast/coverage/LineCoverageWholePinLaw" = true := by first | (simp [plainName, overriddenIn]; done) | decide +kernel
theorem pd_2 : parseMethodDescriptor "(JJ)V" = some ⟨[.long, .long], none⟩ := by decide +kernel
theorem pd_3 : parseMethodDescriptor "()J" = some ⟨[], some .long⟩ := by decide +kernel
theorem ef_0 (m : MethodId) (x0 : Int64) (x1 : Int64) (x2 : Int32) : entryFrame m #[(.long x0), (.long x1), (.int x2)] maxLocals = mkF m 0 #[.val (.long x0), .second, .val (.long x1), .second, .val (.int x2), .unset, .unset, .unset, .unset, .unset, .unset, .unset, .unset] [] := by first | (simp [entryFrame, mkF, argsToLocals, Value.category, maxLocals]; done) | rfl
def Q0 (Z : State) (p0s : Int64) (p1s : Int64) (p2s : Int32) (h0 : Heap) (n0 : Nat) (v : Option Value) (h : Heap) (L : List Loc) : Prop := v = some (.int (1 : Int32)) ∧ Fr n0 L
set_option maxRecDepth 65536 in
set_option maxHeartbeats 40000000 in
theorem rm0 (l : Launch) (Z : State) (a0 : Array Value) (hw : ∀ d ∈ tables_1, d.before a0 Z = true) (ws : List Jvm.Cond) (p0s : Int64) (p1s : Int64) (p2s : Int32) (h0 : Heap) (n0 : Nat) (Z0 : n0 ≤ h0.size) :
    MetFree l x (head1 (Jvm.Cond.code x code maxLocals ret :: ws) room_1) (fun a U => a = #[(.long p0s), (.long p1s), (.int p2s)] ∧ Z.Warmed39 U.vm ∧ U.heap = h0) (fun _ _ _ _ _ => True) (fun _ U o U' => ∃ v L, o = .returned v ∧ Q0 Z p0s p1s p2s h0 n0 v U'.heap L ∧ FrameEnd U o U' L 16 128) := by
  refine MetFree.of_bodySF (plainFor_of_name pn_2) hisR ?_
  intro p e s m args below meth c s₁ Bd hml0 hP hK
  obtain ⟨rfl, hZ, hh⟩ := hP
  have hx := Bd.exec
  have hby := Bd.bytes
  have hml : c.maxLocals = 13 := hml0
  have hown : s.vm.findClass "com/example/ballast/ballast/coverage/LineCoverageWholePinLaw" = some m.cls := findClass_of_methodNamed Bd.named
  have hnm := (name_of_methodNamed Bd.named Bd.method).1
  have hlk : meth.locks = false := BodyLoose.notSynchronized Bd
  have X0 : Stand p l e room_1 s m #[(.long p0s), (.long p1s), (.int p2s)] below meth c s₁ [] 0 0 := Stand.of_body Bd
  have e0 : s₁.heap = h0 := by rw [← hh, Bd.state]; rfl
  have N0 := Fr.nil n0
  have K0 : Keep h0 h0 [] := Keep.refl h0 _
  have key : ∀ (F0 : State) (G : Prop), (own_G p e below s F0 (Q0 Z p0s p1s p2s h0 n0) 16 128 → G) → own_R p.tables e below F0 (s₁.setTop (mkF m 0 #[.val (.long p0s), .second, .val (.long p1s), .second, .val (.int p2s), .unset, .unset, .unset, .unset, .unset, .unset, .unset, .unset] [])) → G := by
    intro F0 G hG r0
    have r36 : own_R p.tables e below F0 (s₁.setTop (mkF m 4 #[.val (.long p0s), .second, .val (.long p1s), .second, .val (.int p2s), .unset, .unset, .unset, .unset, .unset, .unset, .unset, .unset] [(.int (p2s &&& (1 : Int32)))])) := fun t k => by
      refine r0 t ?_
      show Steps p.tables e below (s₁.setTop (mkF m 0 #[.val (.long p0s), .second, .val (.long p1s), .second, .val (.int p2s), .unset, .unset, .unset, .unset, .unset, .unset, .unset, .unset] [])) _
      refine XS.iload X0.here hx rfl (hb hby at_0) rfl ?_
      show Steps p.tables e below (s₁.setTop (mkF m 2 #[.val (.long p0s), .second, .val (.long p1s), .second, .val (.int p2s), .unset, .unset, .unset, .unset, .unset, .unset, .unset, .unset] [(.int p2s)])) _
      refine XS.iconst X0.here hx rfl (hb hby at_2) ?_
      show Steps p.tables e below (s₁.setTop (mkF m 3 #[.val (.long p0s), .second, .val (.long p1s), .second, .val (.int p2s), .unset, .unset, .unset, .unset, .unset, .unset, .unset, .unset] [(.int (1 : Int32)), (.int p2s)])) _
      refine XS.iand X0.here hx rfl (hb hby at_3) rfl ?_
      exact k
    have J37 : ∀ (zc : Int64) (hzc : 0 ≤ zc.toInt ∧ zc.toInt < 4611686018427387904) (r38 : own_R p.tables e below F0 (s₁.setTop (mkF m 18 #[.val (.long p0s), .second, .val (.long p1s), .second, .val (.int p2s), .unset, .unset, .unset, .unset, .unset, .unset, .unset, .unset] [(.long zc)]))), G := by
      intro zc hzc r38
      have r39 : own_R p.tables e below F0 (s₁.setTop (mkF m 24 #[.val (.long p0s), .second, .val (.long p1s), .second, .val (.int p2s), .val (.long zc), .second, .unset, .unset, .unset, .unset, .unset, .unset] [(.int (p2s &&& (2 : Int32)))])) := fun t k => by
        refine r38 t ?_
        show Steps p.tables e below (s₁.setTop (mkF m 18 #[.val (.long p0s), .second, .val (.long p1s), .second, .val (.int p2s), .unset, .unset, .unset, .unset, .unset, .unset, .unset, .unset] [(.long zc)])) _
        refine XS.lstore X0.here hx rfl (hb hby at_18) rfl (l' := #[.val (.long p0s), .second, .val (.long p1s), .second, .val (.int p2s), .val (.long zc), .second, .unset, .unset, .unset, .unset, .unset, .unset]) rfl ?_
        show Steps p.tables e below (s₁.setTop (mkF m 20 #[.val (.long p0s), .second, .val (.long p1s), .second, .val (.int p2s), .val (.long zc), .second, .unset, .unset, .unset, .unset, .unset, .unset] [])) _
        refine XS.iload X0.here hx rfl (hb hby at_20) rfl ?_
        show Steps p.tables e below (s₁.setTop (mkF m 22 #[.val (.long p0s), .second, .val (.long p1s), .second, .val (.int p2s), .val (.long zc), .second, .unset, .unset, .unset, .unset, .unset, .unset] [(.int p2s)])) _
        refine XS.iconst X0.here hx rfl (hb hby at_22) ?_
        show Steps p.tables e below (s₁.setTop (mkF m 23 #[.val (.long p0s), .second, .val (.long p1s), .second, .val (.int p2s), .val (.long zc), .second, .unset, .unset, .unset, .unset, .unset, .unset] [(.int (2 : Int32)), (.int p2s)])) _
        refine XS.iand X0.here hx rfl (hb hby at_23) rfl ?_
        exact k
      have J40 : ∀ (zm : Int64) (hzm : 0 ≤ zm.toInt ∧ zm.toInt < 4611686018427387904) (r41 : own_R p.tables e below F0 (s₁.setTop (mkF m 38 #[.val (.long p0s), .second, .val (.long p1s), .second, .val (.int p2s), .val (.long zc), .second, .unset, .unset, .unset, .unset, .unset, .unset] [(.long zm)]))), G := by
        intro zm hzm r41
        have r42 : own_R p.tables e below F0 (s₁.setTop (mkF m 40 #[.val (.long p0s), .second, .val (.long p1s), .second, .val (.int p2s), .val (.long zc), .second, .val (.long zm), .second, .unset, .unset, .unset, .unset] [])) := fun t k => by
          refine r41 t ?_
          show Steps p.tables e below (s₁.setTop (mkF m 38 #[.val (.long p0s), .second, .val (.long p1s), .second, .val (.int p2s), .val (.long zc), .second, .unset, .unset, .unset, .unset, .unset, .unset] [(.long zm)])) _
          refine XS.lstore X0.here hx rfl (hb hby at_38) rfl (l' := #[.val (.long p0s), .second, .val (.long p1s), .second, .val (.int p2s), .val (.long zc), .second, .val (.long zm), .second, .unset, .unset, .unset, .unset]) rfl ?_
          exact k
        obtain ⟨T43, h43, X43, e43, E43, A43, D43, -, st43⟩ := newO X0 hx hZ hown (hw _ (List.mem_of_getElem? (i := 0) rfl)) (hw _ (List.mem_of_getElem? (i := 1) rfl)) (hw _ (List.mem_of_getElem? (i := 2) rfl)) e0 (g := (mkF m 40 #[.val (.long p0s), .second, .val (.long p1s), .second, .val (.int p2s), .val (.long zc), .second, .val (.long zm), .second, .unset, .unset, .unset, .unset] [])) rfl (hb hby at_40) (by decide) (by decide)
        obtain ⟨b43, g43⟩ : ∃ z, z = h0.size := ⟨_, rfl⟩
        rw [← g43] at A43 D43 st43
        have ge43 : n0 ≤ b43 := Nat.le_trans Z0 (Nat.le_of_eq g43.symm)
        have old43 : h0.size ≤ b43 := Nat.le_trans K0.1 (Nat.le_of_eq g43.symm)
        have K43 : Keep h0 h43 [] := K0.ext E43
        have Zs44 : n0 ≤ h43.size := Nat.le_trans Z0 E43.1
        have F45 : Fld Z h43 b43 "com/example/ballast/ballast/coverage/LineCoverage" "covered" "J" (.long (0 : Int64)) := D43 (Or.inr (hw _ (List.mem_of_getElem? (i := 15) rfl))) (ty := .long) (by decide)
        have F46 : Fld Z h43 b43 "com/example/ballast/ballast/coverage/LineCoverage" "missed" "J" (.long (0 : Int64)) := D43 (Or.inr (hw _ (List.mem_of_getElem? (i := 17) rfl))) (ty := .long) (by decide)
        have r43 : own_R p.tables e below F0 (T43.setTop (mkF m 43 #[.val (.long p0s), .second, .val (.long p1s), .second, .val (.int p2s), .val (.long zc), .second, .val (.long zm), .second, .unset, .unset, .unset, .unset] [(.ref b43)])) := fun t k => r42 t (st43 t k)
        have r47 : own_R p.tables e below F0 (T43.setTop (mkF m 48 #[.val (.long p0s), .second, .val (.long p1s), .second, .val (.int p2s), .val (.long zc), .second, .val (.long zm), .second, .unset, .unset, .unset, .unset] [(.long zm), (.long zc), (.ref b43), (.ref b43)])) := fun t k => by
          refine r43 t ?_
          show Steps p.tables e below (T43.setTop (mkF m 43 #[.val (.long p0s), .second, .val (.long p1s), .second, .val (.int p2s), .val (.long zc), .second, .val (.long zm), .second, .unset, .unset, .unset, .unset] [(.ref b43)])) _
          refine XS.dup X43.here hx rfl (hb hby at_43) rfl rfl ?_
          show Steps p.tables e below (T43.setTop (mkF m 44 #[.val (.long p0s), .second, .val (.long p1s), .second, .val (.int p2s), .val (.long zc), .second, .val (.long zm), .second, .unset, .unset, .unset, .unset] [(.ref b43), (.ref b43)])) _
          refine XS.lload X43.here hx rfl (hb hby at_44) rfl ?_
          show Steps p.tables e below (T43.setTop (mkF m 46 #[.val (.long p0s), .second, .val (.long p1s), .second, .val (.int p2s), .val (.long zc), .second, .val (.long zm), .second, .unset, .unset, .unset, .unset] [(.long zc), (.ref b43), (.ref b43)])) _
          refine XS.lload X43.here hx rfl (hb hby at_46) rfl ?_
          exact k
        obtain ⟨_, _, ⟨T48, L48, k48, n48⟩, -, X48, ⟨Lc48, hQ48, l48, y48, z48⟩, st48⟩ := X43.specialBack hx (y := (⟨"com/example/ballast/ballast/coverage/LineCoverage", "<init>", "(JJ)V"⟩ : MethodName)) rfl hown (mvT hZ (hw _ (List.mem_of_getElem? (i := 3) rfl))) (mvT hZ (hw _ (List.mem_of_getElem? (i := 4) rfl))) (mvT hZ (hw _ (List.mem_of_getElem? (i := 5) rfl))) (by decide) (backOf (W := 1) (rm1 l Z a0 hw [] b43 zc zm h43 n0 Zs44 A43 F45 F46 ge43) hZ (hw _ (List.mem_of_getElem? (i := 5) rfl)) (hw _ (List.mem_of_getElem? (i := 2) rfl)) (by decide) (by decide)) (g := (mkF m 48 #[.val (.long p0s), .second, .val (.long p1s), .second, .val (.int p2s), .val (.long zc), .second, .val (.long zm), .second, .unset, .unset, .unset, .unset] [(.long zm), (.long zc), (.ref b43), (.ref b43)])) rfl (by rw [hml]; rfl) (Steps.refl _) (a := b43) (argsL := [(.long zc), (.long zm)]) (rest := [(.ref b43)]) (lenOf pd_2 rfl) rfl (by show 2 * 0 + _ ≤ _; exact Nat.le_of_eq rfl) (hb hby at_48) (fun _ _ => ⟨rfl, e43, (by decide : 1 + 0 ≤ _), (by decide : 2 + 0 ≤ _)⟩)
        dsimp only [Pt.U, Pt.locs, Pt.cells, Pt.slots] at X48 l48 y48 z48 st48 hQ48
        subst l48 y48 z48
        obtain ⟨rfl, N48q, I48_0, I48_1, I48_2, I48_3⟩ := hQ48
        have N48 := Fr.app N0 N48q
        obtain ⟨h48, e48⟩ : ∃ z, T48.heap = z := ⟨_, rfl⟩
        rw [e48] at I48_0 I48_1 I48_2 I48_3
        have K49 : Keep h0 h48 [] := K43.trans I48_0 (allS (Or.inr old43) all0)
        have Zs50 : n0 ≤ h48.size := Nat.le_trans Zs44 I48_0.1
        have r48 : own_R p.tables e below F0 (T48.setTop (mkF m 51 #[.val (.long p0s), .second, .val (.long p1s), .second, .val (.int p2s), .val (.long zc), .second, .val (.long zm), .second, .unset, .unset, .unset, .unset] [(.ref b43)])) := fun t k => r47 t (st48.trans k)
        obtain ⟨cq51, kq51, q51a, q51b, q51c⟩ := isOf hZ e48 I48_1
        obtain ⟨_, _, ⟨T51, L51, k51, n51⟩, -, X51, ⟨Lc51, hQ51, l51, y51, z51⟩, st51⟩ := X48.virtualBack hx (y := (⟨"com/example/ballast/ballast/coverage/LineCoverage", "whole", "()J"⟩ : MethodName)) (z := (⟨"com/example/ballast/ballast/coverage/LineCoverage", "whole", "()J"⟩ : MethodName)) hown (mvT hZ (hw _ (List.mem_of_getElem? (i := 18) rfl))) (mvT hZ (hw _ (List.mem_of_getElem? (i := 19) rfl))) (notFace_of_selects (args := #[]) (mvT hZ (hw _ (List.mem_of_getElem? (i := 21) rfl)))) (mvT hZ (hw _ (List.mem_of_getElem? (i := 21) rfl))) (mvT hZ (hw _ (List.mem_of_getElem? (i := 20) rfl))) (by decide) (backOf (W := 0) (rm4 l Z a0 hw [] b43 (zc) (zm) h48 n0 Zs50 I48_2 I48_3) hZ (hw _ (List.mem_of_getElem? (i := 22) rfl)) (hw _ (List.mem_of_getElem? (i := 2) rfl)) (by decide) (by decide)) q51a q51c (g := (mkF m 51 #[.val (.long p0s), .second, .val (.long p1s), .second, .val (.int p2s), .val (.long zc), .second, .val (.long zm), .second, .unset, .unset, .unset, .unset] [(.ref b43)])) rfl (by rw [hml]; rfl) (Steps.refl _) (argsL := []) (rest := []) (lenOf pd_3 rfl) rfl (by show 2 * 0 + _ ≤ _; exact Nat.le_of_eq rfl) (hb hby at_51) (fun _ _ => ⟨rfl, e48, (by decide : 1 + 0 ≤ _), (by decide : 2 + 0 ≤ _)⟩)
        dsimp only [Pt.U, Pt.locs, Pt.cells, Pt.slots] at X51 l51 y51 z51 st51 hQ51
        subst l51 y51 z51
        obtain ⟨rfl, N51q, I51_0⟩ := hQ51
        have N51 := Fr.app N48 N51q
        have r51 : own_R p.tables e below F0 (T51.setTop (mkF m 54 #[.val (.long p0s), .second, .val (.long p1s), .second, .val (.int p2s), .val (.long zc), .second, .val (.long zm), .second, .unset, .unset, .unset, .unset] [(.long (own_whole zc zm))])) := fun t k => r48 t (st51.trans k)
        by_cases hc52 : (zc + zm) < (1 : Int64)
        · have ev53 : (own_whole zc zm) = (1 : Int64) := by unfold own_whole; rw [if_pos hc52]
          have r54 : own_R p.tables e below F0 (T51.setTop (mkF m 54 #[.val (.long p0s), .second, .val (.long p1s), .second, .val (.int p2s), .val (.long zc), .second, .val (.long zm), .second, .unset, .unset, .unset, .unset] [(.long (1 : Int64))])) := by have q := r51; rw [ev53] at q; exact q
          have r55 : own_R p.tables e below F0 (T51.setTop (mkF m 60 #[.val (.long p0s), .second, .val (.long p1s), .second, .val (.int p2s), .val (.long zc), .second, .val (.long zm), .second, .val (.long (1 : Int64)), .second, .unset, .unset] [(.int (lcmpW zc (0 : Int64)))])) := fun t k => by
            refine r54 t ?_
            show Steps p.tables e below (T51.setTop (mkF m 54 #[.val (.long p0s), .second, .val (.long p1s), .second, .val (.int p2s), .val (.long zc), .second, .val (.long zm), .second, .unset, .unset, .unset, .unset] [(.long (1 : Int64))])) _
            refine XS.lstore X51.here hx rfl (hb hby at_54) rfl (l' := #[.val (.long p0s), .second, .val (.long p1s), .second, .val (.int p2s), .val (.long zc), .second, .val (.long zm), .second, .val (.long (1 : Int64)), .second, .unset, .unset]) rfl ?_
            show Steps p.tables e below (T51.setTop (mkF m 56 #[.val (.long p0s), .second, .val (.long p1s), .second, .val (.int p2s), .val (.long zc), .second, .val (.long zm), .second, .val (.long (1 : Int64)), .second, .unset, .unset] [])) _
            refine XS.lload X51.here hx rfl (hb hby at_56) rfl ?_
            show Steps p.tables e below (T51.setTop (mkF m 58 #[.val (.long p0s), .second, .val (.long p1s), .second, .val (.int p2s), .val (.long zc), .second, .val (.long zm), .second, .val (.long (1 : Int64)), .second, .unset, .unset] [(.long zc)])) _
            refine XS.lconst X51.here hx rfl (hb hby at_58) ?_
            show Steps p.tables e below (T51.setTop (mkF m 59 #[.val (.long p0s), .second, .val (.long p1s), .second, .val (.int p2s), .val (.long zc), .second, .val (.long zm), .second, .val (.long (1 : Int64)), .second, .unset, .unset] [(.long (0 : Int64)), (.long zc)])) _
            refine XS.lcmp X51.here hx rfl (hb hby at_59) rfl ?_
            exact k
          by_cases hc56 : zc = (0 : Int64)
          · have r57 : own_R p.tables e below F0 (T51.setTop (mkF m 67 #[.val (.long p0s), .second, .val (.long p1s), .second, .val (.int p2s), .val (.long zc), .second, .val (.long zm), .second, .val (.long (1 : Int64)), .second, .unset, .unset] [(.int (lcmpW zm (0 : Int64)))])) := fun t k => by
              refine r55 t ?_
              show Steps p.tables e below (T51.setTop (mkF m 60 #[.val (.long p0s), .second, .val (.long p1s), .second, .val (.int p2s), .val (.long zc), .second, .val (.long zm), .second, .val (.long (1 : Int64)), .second, .unset, .unset] [(.int (lcmpW zc (0 : Int64)))])) _
              refine XS.ifNo X51.here hx rfl (hb hby at_60) rfl (own_l_eq hc56).2 ?_
              show Steps p.tables e below (T51.setTop (mkF m 63 #[.val (.long p0s), .second, .val (.long p1s), .second, .val (.int p2s), .val (.long zc), .second, .val (.long zm), .second, .val (.long (1 : Int64)), .second, .unset, .unset] [])) _
              refine XS.lload X51.here hx rfl (hb hby at_63) rfl ?_
              show Steps p.tables e below (T51.setTop (mkF m 65 #[.val (.long p0s), .second, .val (.long p1s), .second, .val (.int p2s), .val (.long zc), .second, .val (.long zm), .second, .val (.long (1 : Int64)), .second, .unset, .unset] [(.long zm)])) _
              refine XS.lconst X51.here hx rfl (hb hby at_65) ?_
              show Steps p.tables e below (T51.setTop (mkF m 66 #[.val (.long p0s), .second, .val (.long p1s), .second, .val (.int p2s), .val (.long zc), .second, .val (.long zm), .second, .val (.long (1 : Int64)), .second, .unset, .unset] [(.long (0 : Int64)), (.long zm)])) _
              refine XS.lcmp X51.here hx rfl (hb hby at_66) rfl ?_
              exact k
            by_cases hc58 : zm = (0 : Int64)
            · have r59 : own_R p.tables e below F0 (T51.setTop (mkF m 110 #[.val (.long p0s), .second, .val (.long p1s), .second, .val (.int p2s), .val (.long zc), .second, .val (.long zm), .second, .val (.long (1 : Int64)), .second, .val (.long (1 : Int64)), .second] [(.int (lcmpW (1 : Int64) zc))])) := fun t k => by
                refine r57 t ?_
                show Steps p.tables e below (T51.setTop (mkF m 67 #[.val (.long p0s), .second, .val (.long p1s), .second, .val (.int p2s), .val (.long zc), .second, .val (.long zm), .second, .val (.long (1 : Int64)), .second, .unset, .unset] [(.int (lcmpW zm (0 : Int64)))])) _
                refine XS.ifNo X51.here hx rfl (hb hby at_67) rfl (own_l_eq hc58).2 ?_
                show Steps p.tables e below (T51.setTop (mkF m 70 #[.val (.long p0s), .second, .val (.long p1s), .second, .val (.int p2s), .val (.long zc), .second, .val (.long zm), .second, .val (.long (1 : Int64)), .second, .unset, .unset] [])) _
                refine XS.lconst X51.here hx rfl (hb hby at_70) ?_
                show Steps p.tables e below (T51.setTop (mkF m 71 #[.val (.long p0s), .second, .val (.long p1s), .second, .val (.int p2s), .val (.long zc), .second, .val (.long zm), .second, .val (.long (1 : Int64)), .second, .unset, .unset] [(.long (1 : Int64))])) _
                refine XS.lstore X51.here hx rfl (hb hby at_71) rfl (l' := #[.val (.long p0s), .second, .val (.long p1s), .second, .val (.int p2s), .val (.long zc), .second, .val (.long zm), .second, .val (.long (1 : Int64)), .second, .val (.long (1 : Int64)), .second]) rfl ?_
                show Steps p.tables e below (T51.setTop (mkF m 73 #[.val (.long p0s), .second, .val (.long p1s), .second, .val (.int p2s), .val (.long zc), .second, .val (.long zm), .second, .val (.long (1 : Int64)), .second, .val (.long (1 : Int64)), .second] [])) _
                refine XS.goto X51.here hx rfl (pc0 := 73) (pc' := 90) rfl (hb hby at_73) (by decide) (by decide) ?_
                show Steps p.tables e below (T51.setTop (mkF m 90 #[.val (.long p0s), .second, .val (.long p1s), .second, .val (.int p2s), .val (.long zc), .second, .val (.long zm), .second, .val (.long (1 : Int64)), .second, .val (.long (1 : Int64)), .second] [])) _
                refine XS.lload X51.here hx rfl (hb hby at_90) rfl ?_
                show Steps p.tables e below (T51.setTop (mkF m 92 #[.val (.long p0s), .second, .val (.long p1s), .second, .val (.int p2s), .val (.long zc), .second, .val (.long zm), .second, .val (.long (1 : Int64)), .second, .val (.long (1 : Int64)), .second] [(.long (1 : Int64))])) _
                refine XS.lload X51.here hx rfl (hb hby at_92) rfl ?_
                show Steps p.tables e below (T51.setTop (mkF m 94 #[.val (.long p0s), .second, .val (.long p1s), .second, .val (.int p2s), .val (.long zc), .second, .val (.long zm), .second, .val (.long (1 : Int64)), .second, .val (.long (1 : Int64)), .second] [(.long (1 : Int64)), (.long (1 : Int64))])) _
                refine XS.lcmp X51.here hx rfl (hb hby at_94) rfl ?_
                show Steps p.tables e below (T51.setTop (mkF m 95 #[.val (.long p0s), .second, .val (.long p1s), .second, .val (.int p2s), .val (.long zc), .second, .val (.long zm), .second, .val (.long (1 : Int64)), .second, .val (.long (1 : Int64)), .second] [(.int (lcmpW (1 : Int64) (1 : Int64)))])) _
                refine XS.ifNo X51.here hx rfl (hb hby at_95) rfl (own_l_eq (show (1 : Int64) = (1 : Int64) from by decide)).2 ?_
                show Steps p.tables e below (T51.setTop (mkF m 98 #[.val (.long p0s), .second, .val (.long p1s), .second, .val (.int p2s), .val (.long zc), .second, .val (.long zm), .second, .val (.long (1 : Int64)), .second, .val (.long (1 : Int64)), .second] [])) _
                refine XS.lload X51.here hx rfl (hb hby at_98) rfl ?_
                show Steps p.tables e below (T51.setTop (mkF m 100 #[.val (.long p0s), .second, .val (.long p1s), .second, .val (.int p2s), .val (.long zc), .second, .val (.long zm), .second, .val (.long (1 : Int64)), .second, .val (.long (1 : Int64)), .second] [(.long (1 : Int64))])) _
                refine XS.lconst X51.here hx rfl (hb hby at_100) ?_
                show Steps p.tables e below (T51.setTop (mkF m 101 #[.val (.long p0s), .second, .val (.long p1s), .second, .val (.int p2s), .val (.long zc), .second, .val (.long zm), .second, .val (.long (1 : Int64)), .second, .val (.long (1 : Int64)), .second] [(.long (1 : Int64)), (.long (1 : Int64))])) _
                refine XS.lcmp X51.here hx rfl (hb hby at_101) rfl ?_
                show Steps p.tables e below (T51.setTop (mkF m 102 #[.val (.long p0s), .second, .val (.long p1s), .second, .val (.int p2s), .val (.long zc), .second, .val (.long zm), .second, .val (.long (1 : Int64)), .second, .val (.long (1 : Int64)), .second] [(.int (lcmpW (1 : Int64) (1 : Int64)))])) _
                refine XS.ifNo X51.here hx rfl (hb hby at_102) rfl (own_l_nlt (show ¬ ((1 : Int64) < (1 : Int64)) from by decide)).1 ?_
                show Steps p.tables e below (T51.setTop (mkF m 105 #[.val (.long p0s), .second, .val (.long p1s), .second, .val (.int p2s), .val (.long zc), .second, .val (.long zm), .second, .val (.long (1 : Int64)), .second, .val (.long (1 : Int64)), .second] [])) _
                refine XS.lload X51.here hx rfl (hb hby at_105) rfl ?_
                show Steps p.tables e below (T51.setTop (mkF m 107 #[.val (.long p0s), .second, .val (.long p1s), .second, .val (.int p2s), .val (.long zc), .second, .val (.long zm), .second, .val (.long (1 : Int64)), .second, .val (.long (1 : Int64)), .second] [(.long (1 : Int64))])) _
                refine XS.lload X51.here hx rfl (hb hby at_107) rfl ?_
                show Steps p.tables e below (T51.setTop (mkF m 109 #[.val (.long p0s), .second, .val (.long p1s), .second, .val (.int p2s), .val (.long zc), .second, .val (.long zm), .second, .val (.long (1 : Int64)), .second, .val (.long (1 : Int64)), .second] [(.long zc), (.long (1 : Int64))])) _
                refine XS.lcmp X51.here hx rfl (hb hby at_109) rfl ?_
                exact k
              by_cases hc60 : (1 : Int64) < zc
              · have r61 : own_R p.tables e below F0 (T51.setTop (mkF m 126 #[.val (.long p0s), .second, .val (.long p1s), .second, .val (.int p2s), .val (.long zc), .second, .val (.long zm), .second, .val (.long (1 : Int64)), .second, .val (.long (1 : Int64)), .second] [(.int (0 : Int32))])) := fun t k => by
                  refine r59 t ?_
                  show Steps p.tables e below (T51.setTop (mkF m 110 #[.val (.long p0s), .second, .val (.long p1s), .second, .val (.int p2s), .val (.long zc), .second, .val (.long zm), .second, .val (.long (1 : Int64)), .second, .val (.long (1 : Int64)), .second] [(.int (lcmpW (1 : Int64) zc))])) _
                  refine XS.ifYes X51.here hx rfl (pc0 := 110) (pc' := 125) rfl (hb hby at_110) rfl (own_l_lt hc60).1 (by decide) (by decide) ?_
                  show Steps p.tables e below (T51.setTop (mkF m 125 #[.val (.long p0s), .second, .val (.long p1s), .second, .val (.int p2s), .val (.long zc), .second, .val (.long zm), .second, .val (.long (1 : Int64)), .second, .val (.long (1 : Int64)), .second] [])) _
                  refine XS.iconst X51.here hx rfl (hb hby at_125) ?_
                  exact k
                exfalso
                have q204_r := own_R64 zc
                have q205_r := own_R64 zm
                have q206_r := own_R64 (zc + zm)
                have q207_ := c_ladd zc zm
                have q208_e : (1 : Int64).toInt = 1 := (by decide)
                have q208_r : (1 : Int) ≤ (1 : Int64).toInt ∧ (1 : Int64).toInt ≤ 1 := ⟨Int.le_of_eq q208_e.symm, Int.le_of_eq q208_e⟩
                have q209_e : (0 : Int64).toInt = 0 := (by decide)
                have q209_r : (0 : Int) ≤ (0 : Int64).toInt ∧ (0 : Int64).toInt ≤ 0 := ⟨Int.le_of_eq q209_e.symm, Int.le_of_eq q209_e⟩
                have q210_c := own_lt64 hc52
                have q211_c := own_eq64 hc56
                have q212_c := own_eq64 hc58
                have q213_c := own_lt64 hc60
                omega
              · have r62 : own_R p.tables e below F0 (T51.setTop (mkF m 118 #[.val (.long p0s), .second, .val (.long p1s), .second, .val (.int p2s), .val (.long zc), .second, .val (.long zm), .second, .val (.long (1 : Int64)), .second, .val (.long (1 : Int64)), .second] [(.int (lcmpW (1 : Int64) zm))])) := fun t k => by
                  refine r59 t ?_
                  show Steps p.tables e below (T51.setTop (mkF m 110 #[.val (.long p0s), .second, .val (.long p1s), .second, .val (.int p2s), .val (.long zc), .second, .val (.long zm), .second, .val (.long (1 : Int64)), .second, .val (.long (1 : Int64)), .second] [(.int (lcmpW (1 : Int64) zc))])) _
                  refine XS.ifNo X51.here hx rfl (hb hby at_110) rfl (own_l_nlt hc60).1 ?_
                  show Steps p.tables e below (T51.setTop (mkF m 113 #[.val (.long p0s), .second, .val (.long p1s), .second, .val (.int p2s), .val (.long zc), .second, .val (.long zm), .second, .val (.long (1 : Int64)), .second, .val (.long (1 : Int64)), .second] [])) _
                  refine XS.lload X51.here hx rfl (hb hby at_113) rfl ?_
                  show Steps p.tables e below (T51.setTop (mkF m 115 #[.val (.long p0s), .second, .val (.long p1s), .second, .val (.int p2s), .val (.long zc), .second, .val (.long zm), .second, .val (.long (1 : Int64)), .second, .val (.long (1 : Int64)), .second] [(.long (1 : Int64))])) _
                  refine XS.lload X51.here hx rfl (hb hby at_115) rfl ?_
                  show Steps p.tables e below (T51.setTop (mkF m 117 #[.val (.long p0s), .second, .val (.long p1s), .second, .val (.int p2s), .val (.long zc), .second, .val (.long zm), .second, .val (.long (1 : Int64)), .second, .val (.long (1 : Int64)), .second] [(.long zm), (.long (1 : Int64))])) _
                  refine XS.lcmp X51.here hx rfl (hb hby at_117) rfl ?_
                  exact k
                by_cases hc63 : (1 : Int64) < zm
                · have r64 : own_R p.tables e below F0 (T51.setTop (mkF m 126 #[.val (.long p0s), .second, .val (.long p1s), .second, .val (.int p2s), .val (.long zc), .second, .val (.long zm), .second, .val (.long (1 : Int64)), .second, .val (.long (1 : Int64)), .second] [(.int (0 : Int32))])) := fun t k => by
                    refine r62 t ?_
                    show Steps p.tables e below (T51.setTop (mkF m 118 #[.val (.long p0s), .second, .val (.long p1s), .second, .val (.int p2s), .val (.long zc), .second, .val (.long zm), .second, .val (.long (1 : Int64)), .second, .val (.long (1 : Int64)), .second] [(.int (lcmpW (1 : Int64) zm))])) _
                    refine XS.ifYes X51.here hx rfl (pc0 := 118) (pc' := 125) rfl (hb hby at_118) rfl (own_l_lt hc63).1 (by decide) (by decide) ?_
                    show Steps p.tables e below (T51.setTop (mkF m 125 #[.val (.long p0s), .second, .val (.long p1s), .second, .val (.int p2s), .val (.long zc), .second, .val (.long zm), .second, .val (.long (1 : Int64)), .second, .val (.long (1 : Int64)), .second] [])) _
                    refine XS.iconst X51.here hx rfl (hb hby at_125) ?_
                    exact k
                  exfalso
                  have q214_r := own_R64 zc
                  have q215_r := own_R64 zm
                  have q216_r := own_R64 (zc + zm)
                  have q217_ := c_ladd zc zm
                  have q218_e : (1 : Int64).toInt = 1 := (by decide)
                  have q218_r : (1 : Int) ≤ (1 : Int64).toInt ∧ (1 : Int64).toInt ≤ 1 := ⟨Int.le_of_eq q218_e.symm, Int.le_of_eq q218_e⟩
                  have q219_e : (0 : Int64).toInt = 0 := (by decide)
                  have q219_r : (0 : Int) ≤ (0 : Int64).toInt ∧ (0 : Int64).toInt ≤ 0 := ⟨Int.le_of_eq q219_e.symm, Int.le_of_eq q219_e⟩
                  have q220_c := own_lt64 hc52
                  have q221_c := own_eq64 hc56
                  have q222_c := own_eq64 hc58
                  have q223_c := own_nlt64 hc60
                  have q224_c := own_lt64 hc63
                  omega
                · have r65 : own_R p.tables e below F0 (T51.setTop (mkF m 126 #[.val (.long p0s), .second, .val (.long p1s), .second, .val (.int p2s), .val (.long zc), .second, .val (.long zm), .second, .val (.long (1 : Int64)), .second, .val (.long (1 : Int64)), .second] [(.int (1 : Int32))])) := fun t k => by
                    refine r62 t ?_
                    show Steps p.tables e below (T51.setTop (mkF m 118 #[.val (.long p0s), .second, .val (.long p1s), .second, .val (.int p2s), .val (.long zc), .second, .val (.long zm), .second, .val (.long (1 : Int64)), .second, .val (.long (1 : Int64)), .second] [(.int (lcmpW (1 : Int64) zm))])) _
                    refine XS.ifNo X51.here hx rfl (hb hby at_118) rfl (own_l_nlt hc63).1 ?_
                    show Steps p.tables e below (T51.setTop (mkF m 121 #[.val (.long p0s), .second, .val (.long p1s), .second, .val (.int p2s), .val (.long zc), .second, .val (.long zm), .second, .val (.long (1 : Int64)), .second, .val (.long (1 : Int64)), .second] [])) _
                    refine XS.iconst X51.here hx rfl (hb hby at_121) ?_
                    show Steps p.tables e below (T51.setTop (mkF m 122 #[.val (.long p0s), .second, .val (.long p1s), .second, .val (.int p2s), .val (.long zc), .second, .val (.long zm), .second, .val (.long (1 : Int64)), .second, .val (.long (1 : Int64)), .second] [(.int (1 : Int32))])) _
                    refine XS.goto X51.here hx rfl (pc0 := 122) (pc' := 126) rfl (hb hby at_122) (by decide) (by decide) ?_
                    exact k
                  refine hG (own_fin X51 hlk (some (.int (nar .boolean (1 : Int32)))) (own_hv Bd.returns) ?_ (by decide) (by decide) (fun fs hr => r65 _ (retN X51 hx (t := .boolean) Bd.returns (by simp) (hb hby at_126) hr)))
                  rw [I51_0]
                  exact ⟨rfl, N51⟩
            · have r66 : own_R p.tables e below F0 (T51.setTop (mkF m 95 #[.val (.long p0s), .second, .val (.long p1s), .second, .val (.int p2s), .val (.long zc), .second, .val (.long zm), .second, .val (.long (1 : Int64)), .second, .val (.long zm), .second] [(.int (lcmpW (1 : Int64) zm))])) := fun t k => by
                refine r57 t ?_
                show Steps p.tables e below (T51.setTop (mkF m 67 #[.val (.long p0s), .second, .val (.long p1s), .second, .val (.int p2s), .val (.long zc), .second, .val (.long zm), .second, .val (.long (1 : Int64)), .second, .unset, .unset] [(.int (lcmpW zm (0 : Int64)))])) _
                refine XS.ifYes X51.here hx rfl (pc0 := 67) (pc' := 76) rfl (hb hby at_67) rfl (own_l_neq hc58).2 (by decide) (by decide) ?_
                show Steps p.tables e below (T51.setTop (mkF m 76 #[.val (.long p0s), .second, .val (.long p1s), .second, .val (.int p2s), .val (.long zc), .second, .val (.long zm), .second, .val (.long (1 : Int64)), .second, .unset, .unset] [])) _
                refine XS.lload X51.here hx rfl (hb hby at_76) rfl ?_
                show Steps p.tables e below (T51.setTop (mkF m 78 #[.val (.long p0s), .second, .val (.long p1s), .second, .val (.int p2s), .val (.long zc), .second, .val (.long zm), .second, .val (.long (1 : Int64)), .second, .unset, .unset] [(.long zm)])) _
                refine XS.lstore X51.here hx rfl (hb hby at_78) rfl (l' := #[.val (.long p0s), .second, .val (.long p1s), .second, .val (.int p2s), .val (.long zc), .second, .val (.long zm), .second, .val (.long (1 : Int64)), .second, .val (.long zm), .second]) rfl ?_
                show Steps p.tables e below (T51.setTop (mkF m 80 #[.val (.long p0s), .second, .val (.long p1s), .second, .val (.int p2s), .val (.long zc), .second, .val (.long zm), .second, .val (.long (1 : Int64)), .second, .val (.long zm), .second] [])) _
                refine XS.goto X51.here hx rfl (pc0 := 80) (pc' := 90) rfl (hb hby at_80) (by decide) (by decide) ?_
                show Steps p.tables e below (T51.setTop (mkF m 90 #[.val (.long p0s), .second, .val (.long p1s), .second, .val (.int p2s), .val (.long zc), .second, .val (.long zm), .second, .val (.long (1 : Int64)), .second, .val (.long zm), .second] [])) _
                refine XS.lload X51.here hx rfl (hb hby at_90) rfl ?_
                show Steps p.tables e below (T51.setTop (mkF m 92 #[.val (.long p0s), .second, .val (.long p1s), .second, .val (.int p2s), .val (.long zc), .second, .val (.long zm), .second, .val (.long (1 : Int64)), .second, .val (.long zm), .second] [(.long (1 : Int64))])) _
                refine XS.lload X51.here hx rfl (hb hby at_92) rfl ?_
                show Steps p.tables e below (T51.setTop (mkF m 94 #[.val (.long p0s), .second, .val (.long p1s), .second, .val (.int p2s), .val (.long zc), .second, .val (.long zm), .second, .val (.long (1 : Int64)), .second, .val (.long zm), .second] [(.long zm), (.long (1 : Int64))])) _
                refine XS.lcmp X51.here hx rfl (hb hby at_94) rfl ?_
                exact k
              by_cases hc67 : (1 : Int64) = zm
              · have r68 : own_R p.tables e below F0 (T51.setTop (mkF m 110 #[.val (.long p0s), .second, .val (.long p1s), .second, .val (.int p2s), .val (.long zc), .second, .val (.long zm), .second, .val (.long (1 : Int64)), .second, .val (.long zm), .second] [(.int (lcmpW (1 : Int64) zc))])) := fun t k => by
                  refine r66 t ?_
                  show Steps p.tables e below (T51.setTop (mkF m 95 #[.val (.long p0s), .second, .val (.long p1s), .second, .val (.int p2s), .val (.long zc), .second, .val (.long zm), .second, .val (.long (1 : Int64)), .second, .val (.long zm), .second] [(.int (lcmpW (1 : Int64) zm))])) _
                  refine XS.ifNo X51.here hx rfl (hb hby at_95) rfl (own_l_eq hc67).2 ?_
                  show Steps p.tables e below (T51.setTop (mkF m 98 #[.val (.long p0s), .second, .val (.long p1s), .second, .val (.int p2s), .val (.long zc), .second, .val (.long zm), .second, .val (.long (1 : Int64)), .second, .val (.long zm), .second] [])) _
                  refine XS.lload X51.here hx rfl (hb hby at_98) rfl ?_
                  show Steps p.tables e below (T51.setTop (mkF m 100 #[.val (.long p0s), .second, .val (.long p1s), .second, .val (.int p2s), .val (.long zc), .second, .val (.long zm), .second, .val (.long (1 : Int64)), .second, .val (.long zm), .second] [(.long (1 : Int64))])) _
                  refine XS.lconst X51.here hx rfl (hb hby at_100) ?_
                  show Steps p.tables e below (T51.setTop (mkF m 101 #[.val (.long p0s), .second, .val (.long p1s), .second, .val (.int p2s), .val (.long zc), .second, .val (.long zm), .second, .val (.long (1 : Int64)), .second, .val (.long zm), .second] [(.long (1 : Int64)), (.long (1 : Int64))])) _
                  refine XS.lcmp X51.here hx rfl (hb hby at_101) rfl ?_
                  show Steps p.tables e below (T51.setTop (mkF m 102 #[.val (.long p0s), .second, .val (.long p1s), .second, .val (.int p2s), .val (.long zc), .second, .val (.long zm), .second, .val (.long (1 : Int64)), .second, .val (.long zm), .second] [(.int (lcmpW (1 : Int64) (1 : Int64)))])) _
                  refine XS.ifNo X51.here hx rfl (hb hby at_102) rfl (own_l_nlt (show ¬ ((1 : Int64) < (1 : Int64)) from by decide)).1 ?_
                  show Steps p.tables e below (T51.setTop (mkF m 105 #[.val (.long p0s), .second, .val (.long p1s), .second, .val (.int p2s), .val (.long zc), .second, .val (.long zm), .second, .val (.long (1 : Int64)), .second, .val (.long zm), .second] [])) _
                  refine XS.lload X51.here hx rfl (hb hby at_105) rfl ?_
                  show Steps p.tables e below (T51.setTop (mkF m 107 #[.val (.long p0s), .second, .val (.long p1s), .second, .val (.int p2s), .val (.long zc), .second, .val (.long zm), .second, .val (.long (1 : Int64)), .second, .val (.long zm), .second] [(.long (1 : Int64))])) _
                  refine XS.lload X51.here hx rfl (hb hby at_107) rfl ?_
                  show Steps p.tables e below (T51.setTop (mkF m 109 #[.val (.long p0s), .second, .val (.long p1s), .second, .val (.int p2s), .val (.long zc), .second, .val (.long zm), .second, .val (.long (1 : Int64)), .second, .val (.long zm), .second] [(.long zc), (.long (1 : Int64))])) _
                  refine XS.lcmp X51.here hx rfl (hb hby at_109) rfl ?_
                  exact k
                by_cases hc69 : (1 : Int64) < zc
                · have r70 : own_R p.tables e below F0 (T51.setTop (mkF m 126 #[.val (.long p0s), .second, .val (.long p1s), .second, .val (.int p2s), .val (.long zc), .second, .val (.long zm), .second, .val (.long (1 : Int64)), .second, .val (.long zm), .second] [(.int (0 : Int32))])) := fun t k => by
                    refine r68 t ?_
                    show Steps p.tables e below (T51.setTop (mkF m 110 #[.val (.long p0s), .second, .val (.long p1s), .second, .val (.int p2s), .val (.long zc), .second, .val (.long zm), .second, .val (.long (1 : Int64)), .second, .val (.long zm), .second] [(.int (lcmpW (1 : Int64) zc))])) _
                    refine XS.ifYes X51.here hx rfl (pc0 := 110) (pc' := 125) rfl (hb hby at_110) rfl (own_l_lt hc69).1 (by decide) (by decide) ?_
                    show Steps p.tables e below (T51.setTop (mkF m 125 #[.val (.long p0s), .second, .val (.long p1s), .second, .val (.int p2s), .val (.long zc), .second, .val (.long zm), .second, .val (.long (1 : Int64)), .second, .val (.long zm), .second] [])) _
                    refine XS.iconst X51.here hx rfl (hb hby at_125) ?_
                    exact k
                  exfalso
                  have q225_r := own_R64 zc
                  have q226_r := own_R64 zm
                  have q227_r := own_R64 (zc + zm)
                  have q228_ := c_ladd zc zm
                  have q229_e : (1 : Int64).toInt = 1 := (by decide)
                  have q229_r : (1 : Int) ≤ (1 : Int64).toInt ∧ (1 : Int64).toInt ≤ 1 := ⟨Int.le_of_eq q229_e.symm, Int.le_of_eq q229_e⟩
                  have q230_e : (0 : Int64).toInt = 0 := (by decide)
                  have q230_r : (0 : Int) ≤ (0 : Int64).toInt ∧ (0 : Int64).toInt ≤ 0 := ⟨Int.le_of_eq q230_e.symm, Int.le_of_eq q230_e⟩
                  have q231_c := own_lt64 hc52
                  have q232_c := own_eq64 hc56
                  have q233_c := own_ne64 hc58
                  have q234_c := own_eq64 hc67
                  have q235_c := own_lt64 hc69
                  omega
                · have r71 : own_R p.tables e below F0 (T51.setTop (mkF m 118 #[.val (.long p0s), .second, .val (.long p1s), .second, .val (.int p2s), .val (.long zc), .second, .val (.long zm), .second, .val (.long (1 : Int64)), .second, .val (.long zm), .second] [(.int (lcmpW (1 : Int64) zm))])) := fun t k => by
                    refine r68 t ?_
                    show Steps p.tables e below (T51.setTop (mkF m 110 #[.val (.long p0s), .second, .val (.long p1s), .second, .val (.int p2s), .val (.long zc), .second, .val (.long zm), .second, .val (.long (1 : Int64)), .second, .val (.long zm), .second] [(.int (lcmpW (1 : Int64) zc))])) _
                    refine XS.ifNo X51.here hx rfl (hb hby at_110) rfl (own_l_nlt hc69).1 ?_
                    show Steps p.tables e below (T51.setTop (mkF m 113 #[.val (.long p0s), .second, .val (.long p1s), .second, .val (.int p2s), .val (.long zc), .second, .val (.long zm), .second, .val (.long (1 : Int64)), .second, .val (.long zm), .second] [])) _
                    refine XS.lload X51.here hx rfl (hb hby at_113) rfl ?_
                    show Steps p.tables e below (T51.setTop (mkF m 115 #[.val (.long p0s), .second, .val (.long p1s), .second, .val (.int p2s), .val (.long zc), .second, .val (.long zm), .second, .val (.long (1 : Int64)), .second, .val (.long zm), .second] [(.long (1 : Int64))])) _
                    refine XS.lload X51.here hx rfl (hb hby at_115) rfl ?_
                    show Steps p.tables e below (T51.setTop (mkF m 117 #[.val (.long p0s), .second, .val (.long p1s), .second, .val (.int p2s), .val (.long zc), .second, .val (.long zm), .second, .val (.long (1 : Int64)), .second, .val (.long zm), .second] [(.long zm), (.long (1 : Int64))])) _
                    refine XS.lcmp X51.here hx rfl (hb hby at_117) rfl ?_
                    exact k
                  by_cases hc72 : (1 : Int64) < zm
                  · have r73 : own_R p.tables e below F0 (T51.setTop (mkF m 126 #[.val (.long p0s), .second, .val (.long p1s), .second, .val (.int p2s), .val (.long zc), .second, .val (.long zm), .second, .val (.long (1 : Int64)), .second, .val (.long zm), .second] [(.int (0 : Int32))])) := fun t k => by
                      refine r71 t ?_
                      show Steps p.tables e below (T51.setTop (mkF m 118 #[.val (.long p0s), .second, .val (.long p1s), .second, .val (.int p2s), .val (.long zc), .second, .val (.long zm), .second, .val (.long (1 : Int64)), .second, .val (.long zm), .second] [(.int (lcmpW (1 : Int64) zm))])) _
                      refine XS.ifYes X51.here hx rfl (pc0 := 118) (pc' := 125) rfl (hb hby at_118) rfl (own_l_lt hc72).1 (by decide) (by decide) ?_
                      show Steps p.tables e below (T51.setTop (mkF m 125 #[.val (.long p0s), .second, .val (.long p1s), .second, .val (.int p2s), .val (.long zc), .second, .val (.long zm), .second, .val (.long (1 : Int64)), .second, .val (.long zm), .second] [])) _
                      refine XS.iconst X51.here hx rfl (hb hby at_125) ?_
                      exact k
                    exfalso
                    have q236_r := own_R64 zc
                    have q237_r := own_R64 zm
                    have q238_r := own_R64 (zc + zm)
                    have q239_ := c_ladd zc zm
                    have q240_e : (1 : Int64).toInt = 1 := (by decide)
                    have q240_r : (1 : Int) ≤ (1 : Int64).toInt ∧ (1 : Int64).toInt ≤ 1 := ⟨Int.le_of_eq q240_e.symm, Int.le_of_eq q240_e⟩
                    have q241_e : (0 : Int64).toInt = 0 := (by decide)
                    have q241_r : (0 : Int) ≤ (0 : Int64).toInt ∧ (0 : Int64).toInt ≤ 0 := ⟨Int.le_of_eq q241_e.symm, Int.le_of_eq q241_e⟩
                    have q242_c := own_lt64 hc52
                    have q243_c := own_eq64 hc56
                    have q244_c := own_ne64 hc58
                    have q245_c := own_eq64 hc67
                    have q246_c := own_nlt64 hc69
                    have q247_c := own_lt64 hc72
                    omega
                  · have r74 : own_R p.tables e below F0 (T51.setTop (mkF m 126 #[.val (.long p0s), .second, .val (.long p1s), .second, .val (.int p2s), .val (.long zc), .second, .val (.long zm), .second, .val (.long (1 : Int64)), .second, .val (.long zm), .second] [(.int (1 : Int32))])) := fun t k => by
                      refine r71 t ?_
                      show Steps p.tables e below (T51.setTop (mkF m 118 #[.val (.long p0s), .second, .val (.long p1s), .second, .val (.int p2s), .val (.long zc), .second, .val (.long zm), .second, .val (.long (1 : Int64)), .second, .val (.long zm), .second] [(.int (lcmpW (1 : Int64) zm))])) _
                      refine XS.ifNo X51.here hx rfl (hb hby at_118) rfl (own_l_nlt hc72).1 ?_
                      show Steps p.tables e below (T51.setTop (mkF m 121 #[.val (.long p0s), .second, .val (.long p1s), .second, .val (.int p2s), .val (.long zc), .second, .val (.long zm), .second, .val (.long (1 : Int64)), .second, .val (.long zm), .second] [])) _
                      refine XS.iconst X51.here hx rfl (hb hby at_121) ?_
                      show Steps p.tables e below (T51.setTop (mkF m 122 #[.val (.long p0s), .second, .val (.long p1s), .second, .val (.int p2s), .val (.long zc), .second, .val (.long zm), .second, .val (.long (1 : Int64)), .second, .val (.long zm), .second] [(.int (1 : Int32))])) _
                      refine XS.goto X51.here hx rfl (pc0 := 122) (pc' := 126) rfl (hb hby at_122) (by decide) (by decide) ?_
                      exact k
                    refine hG (own_fin X51 hlk (some (.int (nar .boolean (1 : Int32)))) (own_hv Bd.returns) ?_ (by decide) (by decide) (fun fs hr => r74 _ (retN X51 hx (t := .boolean) Bd.returns (by simp) (hb hby at_126) hr)))
                    rw [I51_0]
                    exact ⟨rfl, N51⟩
              · have r75 : own_R p.tables e below F0 (T51.setTop (mkF m 126 #[.val (.long p0s), .second, .val (.long p1s), .second, .val (.int p2s), .val (.long zc), .second, .val (.long zm), .second, .val (.long (1 : Int64)), .second, .val (.long zm), .second] [(.int (0 : Int32))])) := fun t k => by
                  refine r66 t ?_
                  show Steps p.tables e below (T51.setTop (mkF m 95 #[.val (.long p0s), .second, .val (.long p1s), .second, .val (.int p2s), .val (.long zc), .second, .val (.long zm), .second, .val (.long (1 : Int64)), .second, .val (.long zm), .second] [(.int (lcmpW (1 : Int64) zm))])) _
                  refine XS.ifYes X51.here hx rfl (pc0 := 95) (pc' := 125) rfl (hb hby at_95) rfl (own_l_neq hc67).2 (by decide) (by decide) ?_
                  show Steps p.tables e below (T51.setTop (mkF m 125 #[.val (.long p0s), .second, .val (.long p1s), .second, .val (.int p2s), .val (.long zc), .second, .val (.long zm), .second, .val (.long (1 : Int64)), .second, .val (.long zm), .second] [])) _
                  refine XS.iconst X51.here hx rfl (hb hby at_125) ?_
                  exact k
                exfalso
                have q248_r := own_R64 zc
                have q249_r := own_R64 zm
                have q250_r := own_R64 (zc + zm)
                have q251_ := c_ladd zc zm
                have q252_e : (1 : Int64).toInt = 1 := (by decide)
                have q252_r : (1 : Int) ≤ (1 : Int64).toInt ∧ (1 : Int64).toInt ≤ 1 := ⟨Int.le_of_eq q252_e.symm, Int.le_of_eq q252_e⟩
                have q253_e : (0 : Int64).toInt = 0 := (by decide)
                have q253_r : (0 : Int) ≤ (0 : Int64).toInt ∧ (0 : Int64).toInt ≤ 0 := ⟨Int.le_of_eq q253_e.symm, Int.le_of_eq q253_e⟩
                have q254_c := own_lt64 hc52
                have q255_c := own_eq64 hc56
                have q256_c := own_ne64 hc58
                have q257_c := own_ne64 hc67
                omega
          · have r76 : own_R p.tables e below F0 (T51.setTop (mkF m 95 #[.val (.long p0s), .second, .val (.long p1s), .second, .val (.int p2s), .val (.long zc), .second, .val (.long zm), .second, .val (.long (1 : Int64)), .second, .val (.long (zc + zm)), .second] [(.int (lcmpW (1 : Int64) (zc + zm)))])) := fun t k => by
              refine r55 t ?_
              show Steps p.tables e below (T51.setTop (mkF m 60 #[.val (.long p0s), .second, .val (.long p1s), .second, .val (.int p2s), .val (.long zc), .second, .val (.long zm), .second, .val (.long (1 : Int64)), .second, .unset, .unset] [(.int (lcmpW zc (0 : Int64)))])) _
              refine XS.ifYes X51.here hx rfl (pc0 := 60) (pc' := 83) rfl (hb hby at_60) rfl (own_l_neq hc56).2 (by decide) (by decide) ?_
              show Steps p.tables e below (T51.setTop (mkF m 83 #[.val (.long p0s), .second, .val (.long p1s), .second, .val (.int p2s), .val (.long zc), .second, .val (.long zm), .second, .val (.long (1 : Int64)), .second, .unset, .unset] [])) _
              refine XS.lload X51.here hx rfl (hb hby at_83) rfl ?_
              show Steps p.tables e below (T51.setTop (mkF m 85 #[.val (.long p0s), .second, .val (.long p1s), .second, .val (.int p2s), .val (.long zc), .second, .val (.long zm), .second, .val (.long (1 : Int64)), .second, .unset, .unset] [(.long zc)])) _
              refine XS.lload X51.here hx rfl (hb hby at_85) rfl ?_
              show Steps p.tables e below (T51.setTop (mkF m 87 #[.val (.long p0s), .second, .val (.long p1s), .second, .val (.int p2s), .val (.long zc), .second, .val (.long zm), .second, .val (.long (1 : Int64)), .second, .unset, .unset] [(.long zm), (.long zc)])) _
              refine XS.ladd X51.here hx rfl (hb hby at_87) rfl ?_
              show Steps p.tables e below (T51.setTop (mkF m 88 #[.val (.long p0s), .second, .val (.long p1s), .second, .val (.int p2s), .val (.long zc), .second, .val (.long zm), .second, .val (.long (1 : Int64)), .second, .unset, .unset] [(.long (zc + zm))])) _
              refine XS.lstore X51.here hx rfl (hb hby at_88) rfl (l' := #[.val (.long p0s), .second, .val (.long p1s), .second, .val (.int p2s), .val (.long zc), .second, .val (.long zm), .second, .val (.long (1 : Int64)), .second, .val (.long (zc + zm)), .second]) rfl ?_
              show Steps p.tables e below (T51.setTop (mkF m 90 #[.val (.long p0s), .second, .val (.long p1s), .second, .val (.int p2s), .val (.long zc), .second, .val (.long zm), .second, .val (.long (1 : Int64)), .second, .val (.long (zc + zm)), .second] [])) _
              refine XS.lload X51.here hx rfl (hb hby at_90) rfl ?_
              show Steps p.tables e below (T51.setTop (mkF m 92 #[.val (.long p0s), .second, .val (.long p1s), .second, .val (.int p2s), .val (.long zc), .second, .val (.long zm), .second, .val (.long (1 : Int64)), .second, .val (.long (zc + zm)), .second] [(.long (1 : Int64))])) _
              refine XS.lload X51.here hx rfl (hb hby at_92) rfl ?_
              show Steps p.tables e below (T51.setTop (mkF m 94 #[.val (.long p0s), .second, .val (.long p1s), .second, .val (.int p2s), .val (.long zc), .second, .val (.long zm), .second, .val (.long (1 : Int64)), .second, .val (.long (zc + zm)), .second] [(.long (zc + zm)), (.long (1 : Int64))])) _
              refine XS.lcmp X51.here hx rfl (hb hby at_94) rfl ?_
              exact k
            by_cases hc77 : (1 : Int64) = (zc + zm)
            · have r78 : own_R p.tables e below F0 (T51.setTop (mkF m 110 #[.val (.long p0s), .second, .val (.long p1s), .second, .val (.int p2s), .val (.long zc), .second, .val (.long zm), .second, .val (.long (1 : Int64)), .second, .val (.long (zc + zm)), .second] [(.int (lcmpW (1 : Int64) zc))])) := fun t k => by
                refine r76 t ?_
                show Steps p.tables e below (T51.setTop (mkF m 95 #[.val (.long p0s), .second, .val (.long p1s), .second, .val (.int p2s), .val (.long zc), .second, .val (.long zm), .second, .val (.long (1 : Int64)), .second, .val (.long (zc + zm)), .second] [(.int (lcmpW (1 : Int64) (zc + zm)))])) _
                refine XS.ifNo X51.here hx rfl (hb hby at_95) rfl (own_l_eq hc77).2 ?_
                show Steps p.tables e below (T51.setTop (mkF m 98 #[.val (.long p0s), .second, .val (.long p1s), .second, .val (.int p2s), .val (.long zc), .second, .val (.long zm), .second, .val (.long (1 : Int64)), .second, .val (.long (zc + zm)), .second] [])) _
                refine XS.lload X51.here hx rfl (hb hby at_98) rfl ?_
                show Steps p.tables e below (T51.setTop (mkF m 100 #[.val (.long p0s), .second, .val (.long p1s), .second, .val (.int p2s), .val (.long zc), .second, .val (.long zm), .second, .val (.long (1 : Int64)), .second, .val (.long (zc + zm)), .second] [(.long (1 : Int64))])) _
                refine XS.lconst X51.here hx rfl (hb hby at_100) ?_
                show Steps p.tables e below (T51.setTop (mkF m 101 #[.val (.long p0s), .second, .val (.long p1s), .second, .val (.int p2s), .val (.long zc), .second, .val (.long zm), .second, .val (.long (1 : Int64)), .second, .val (.long (zc + zm)), .second] [(.long (1 : Int64)), (.long (1 : Int64))])) _
                refine XS.lcmp X51.here hx rfl (hb hby at_101) rfl ?_
                show Steps p.tables e below (T51.setTop (mkF m 102 #[.val (.long p0s), .second, .val (.long p1s), .second, .val (.int p2s), .val (.long zc), .second, .val (.long zm), .second, .val (.long (1 : Int64)), .second, .val (.long (zc + zm)), .second] [(.int (lcmpW (1 : Int64) (1 : Int64)))])) _
                refine XS.ifNo X51.here hx rfl (hb hby at_102) rfl (own_l_nlt (show ¬ ((1 : Int64) < (1 : Int64)) from by decide)).1 ?_
                show Steps p.tables e below (T51.setTop (mkF m 105 #[.val (.long p0s), .second, .val (.long p1s), .second, .val (.int p2s), .val (.long zc), .second, .val (.long zm), .second, .val (.long (1 : Int64)), .second, .val (.long (zc + zm)), .second] [])) _
                refine XS.lload X51.here hx rfl (hb hby at_105) rfl ?_
                show Steps p.tables e below (T51.setTop (mkF m 107 #[.val (.long p0s), .second, .val (.long p1s), .second, .val (.int p2s), .val (.long zc), .second, .val (.long zm), .second, .val (.long (1 : Int64)), .second, .val (.long (zc + zm)), .second] [(.long (1 : Int64))])) _
                refine XS.lload X51.here hx rfl (hb hby at_107) rfl ?_
                show Steps p.tables e below (T51.setTop (mkF m 109 #[.val (.long p0s), .second, .val (.long p1s), .second, .val (.int p2s), .val (.long zc), .second, .val (.long zm), .second, .val (.long (1 : Int64)), .second, .val (.long (zc + zm)), .second] [(.long zc), (.long (1 : Int64))])) _
                refine XS.lcmp X51.here hx rfl (hb hby at_109) rfl ?_
                exact k
              by_cases hc79 : (1 : Int64) < zc
              · have r80 : own_R p.tables e below F0 (T51.setTop (mkF m 126 #[.val (.long p0s), .second, .val (.long p1s), .second, .val (.int p2s), .val (.long zc), .second, .val (.long zm), .second, .val (.long (1 : Int64)), .second, .val (.long (zc + zm)), .second] [(.int (0 : Int32))])) := fun t k => by
                  refine r78 t ?_
                  show Steps p.tables e below (T51.setTop (mkF m 110 #[.val (.long p0s), .second, .val (.long p1s), .second, .val (.int p2s), .val (.long zc), .second, .val (.long zm), .second, .val (.long (1 : Int64)), .second, .val (.long (zc + zm)), .second] [(.int (lcmpW (1 : Int64) zc))])) _
                  refine XS.ifYes X51.here hx rfl (pc0 := 110) (pc' := 125) rfl (hb hby at_110) rfl (own_l_lt hc79).1 (by decide) (by decide) ?_
                  show Steps p.tables e below (T51.setTop (mkF m 125 #[.val (.long p0s), .second, .val (.long p1s), .second, .val (.int p2s), .val (.long zc), .second, .val (.long zm), .second, .val (.long (1 : Int64)), .second, .val (.long (zc + zm)), .second] [])) _
                  refine XS.iconst X51.here hx rfl (hb hby at_125) ?_
                  exact k
                exfalso
                have q258_r := own_R64 zc
                have q259_r := own_R64 zm
                have q260_r := own_R64 (zc + zm)
                have q261_ := c_ladd zc zm
                have q262_e : (1 : Int64).toInt = 1 := (by decide)
                have q262_r : (1 : Int) ≤ (1 : Int64).toInt ∧ (1 : Int64).toInt ≤ 1 := ⟨Int.le_of_eq q262_e.symm, Int.le_of_eq q262_e⟩
                have q263_e : (0 : Int64).toInt = 0 := (by decide)
                have q263_r : (0 : Int) ≤ (0 : Int64).toInt ∧ (0 : Int64).toInt ≤ 0 := ⟨Int.le_of_eq q263_e.symm, Int.le_of_eq q263_e⟩
                have q264_c := own_lt64 hc52
                have q265_c := own_ne64 hc56
                have q266_c := own_eq64 hc77
                have q267_c := own_lt64 hc79
                omega
              · have r81 : own_R p.tables e below F0 (T51.setTop (mkF m 118 #[.val (.long p0s), .second, .val (.long p1s), .second, .val (.int p2s), .val (.long zc), .second, .val (.long zm), .second, .val (.long (1 : Int64)), .second, .val (.long (zc + zm)), .second] [(.int (lcmpW (1 : Int64) zm))])) := fun t k => by
                  refine r78 t ?_
                  show Steps p.tables e below (T51.setTop (mkF m 110 #[.val (.long p0s), .second, .val (.long p1s), .second, .val (.int p2s), .val (.long zc), .second, .val (.long zm), .second, .val (.long (1 : Int64)), .second, .val (.long (zc + zm)), .second] [(.int (lcmpW (1 : Int64) zc))])) _
                  refine XS.ifNo X51.here hx rfl (hb hby at_110) rfl (own_l_nlt hc79).1 ?_
                  show Steps p.tables e below (T51.setTop (mkF m 113 #[.val (.long p0s), .second, .val (.long p1s), .second, .val (.int p2s), .val (.long zc), .second, .val (.long zm), .second, .val (.long (1 : Int64)), .second, .val (.long (zc + zm)), .second] [])) _
                  refine XS.lload X51.here hx rfl (hb hby at_113) rfl ?_
                  show Steps p.tables e below (T51.setTop (mkF m 115 #[.val (.long p0s), .second, .val (.long p1s), .second, .val (.int p2s), .val (.long zc), .second, .val (.long zm), .second, .val (.long (1 : Int64)), .second, .val (.long (zc + zm)), .second] [(.long (1 : Int64))])) _
                  refine XS.lload X51.here hx rfl (hb hby at_115) rfl ?_
                  show Steps p.tables e below (T51.setTop (mkF m 117 #[.val (.long p0s), .second, .val (.long p1s), .second, .val (.int p2s), .val (.long zc), .second, .val (.long zm), .second, .val (.long (1 : Int64)), .second, .val (.long (zc + zm)), .second] [(.long zm), (.long (1 : Int64))])) _
                  refine XS.lcmp X51.here hx rfl (hb hby at_117) rfl ?_
                  exact k
                by_cases hc82 : (1 : Int64) < zm
                · have r83 : own_R p.tables e below F0 (T51.setTop (mkF m 126 #[.val (.long p0s), .second, .val (.long p1s), .second, .val (.int p2s), .val (.long zc), .second, .val (.long zm), .second, .val (.long (1 : Int64)), .second, .val (.long (zc + zm)), .second] [(.int (0 : Int32))])) := fun t k => by
                    refine r81 t ?_
                    show Steps p.tables e below (T51.setTop (mkF m 118 #[.val (.long p0s), .second, .val (.long p1s), .second, .val (.int p2s), .val (.long zc), .second, .val (.long zm), .second, .val (.long (1 : Int64)), .second, .val (.long (zc + zm)), .second] [(.int (lcmpW (1 : Int64) zm))])) _
                    refine XS.ifYes X51.here hx rfl (pc0 := 118) (pc' := 125) rfl (hb hby at_118) rfl (own_l_lt hc82).1 (by decide) (by decide) ?_
                    show Steps p.tables e below (T51.setTop (mkF m 125 #[.val (.long p0s), .second, .val (.long p1s), .second, .val (.int p2s), .val (.long zc), .second, .val (.long zm), .second, .val (.long (1 : Int64)), .second, .val (.long (zc + zm)), .second] [])) _
                    refine XS.iconst X51.here hx rfl (hb hby at_125) ?_
                    exact k
                  exfalso
                  have q268_r := own_R64 zc
                  have q269_r := own_R64 zm
                  have q270_r := own_R64 (zc + zm)
                  have q271_ := c_ladd zc zm
                  have q272_e : (1 : Int64).toInt = 1 := (by decide)
                  have q272_r : (1 : Int) ≤ (1 : Int64).toInt ∧ (1 : Int64).toInt ≤ 1 := ⟨Int.le_of_eq q272_e.symm, Int.le_of_eq q272_e⟩
                  have q273_e : (0 : Int64).toInt = 0 := (by decide)
                  have q273_r : (0 : Int) ≤ (0 : Int64).toInt ∧ (0 : Int64).toInt ≤ 0 := ⟨Int.le_of_eq q273_e.symm, Int.le_of_eq q273_e⟩
                  have q274_c := own_lt64 hc52
                  have q275_c := own_ne64 hc56
                  have q276_c := own_eq64 hc77
                  have q277_c := own_nlt64 hc79
                  have q278_c := own_lt64 hc82
                  omega
                · have r84 : own_R p.tables e below F0 (T51.setTop (mkF m 126 #[.val (.long p0s), .second, .val (.long p1s), .second, .val (.int p2s), .val (.long zc), .second, .val (.long zm), .second, .val (.long (1 : Int64)), .second, .val (.long (zc + zm)), .second] [(.int (1 : Int32))])) := fun t k => by
                    refine r81 t ?_
                    show Steps p.tables e below (T51.setTop (mkF m 118 #[.val (.long p0s), .second, .val (.long p1s), .second, .val (.int p2s), .val (.long zc), .second, .val (.long zm), .second, .val (.long (1 : Int64)), .second, .val (.long (zc + zm)), .second] [(.int (lcmpW (1 : Int64) zm))])) _
                    refine XS.ifNo X51.here hx rfl (hb hby at_118) rfl (own_l_nlt hc82).1 ?_
                    show Steps p.tables e below (T51.setTop (mkF m 121 #[.val (.long p0s), .second, .val (.long p1s), .second, .val (.int p2s), .val (.long zc), .second, .val (.long zm), .second, .val (.long (1 : Int64)), .second, .val (.long (zc + zm)), .second] [])) _
                    refine XS.iconst X51.here hx rfl (hb hby at_121) ?_
                    show Steps p.tables e below (T51.setTop (mkF m 122 #[.val (.long p0s), .second, .val (.long p1s), .second, .val (.int p2s), .val (.long zc), .second, .val (.long zm), .second, .val (.long (1 : Int64)), .second, .val (.long (zc + zm)), .second] [(.int (1 : Int32))])) _
                    refine XS.goto X51.here hx rfl (pc0 := 122) (pc' := 126) rfl (hb hby at_122) (by decide) (by decide) ?_
                    exact k
                  refine hG (own_fin X51 hlk (some (.int (nar .boolean (1 : Int32)))) (own_hv Bd.returns) ?_ (by decide) (by decide) (fun fs hr => r84 _ (retN X51 hx (t := .boolean) Bd.returns (by simp) (hb hby at_126) hr)))
                  rw [I51_0]
                  exact ⟨rfl, N51⟩
            · have r85 : own_R p.tables e below F0 (T51.setTop (mkF m 126 #[.val (.long p0s), .second, .val (.long p1s), .second, .val (.int p2s), .val (.long zc), .second, .val (.long zm), .second, .val (.long (1 : Int64)), .second, .val (.long (zc + zm)), .second] [(.int (0 : Int32))])) := fun t k => by
                refine r76 t ?_
                show Steps p.tables e below (T51.setTop (mkF m 95 #[.val (.long p0s), .second, .val (.long p1s), .second, .val (.int p2s), .val (.long zc), .second, .val (.long zm), .second, .val (.long (1 : Int64)), .second, .val (.long (zc + zm)), .second] [(.int (lcmpW (1 : Int64) (zc + zm)))])) _
                refine XS.ifYes X51.here hx rfl (pc0 := 95) (pc' := 125) rfl (hb hby at_95) rfl (own_l_neq hc77).2 (by decide) (by decide) ?_
                show Steps p.tables e below (T51.setTop (mkF m 125 #[.val (.long p0s), .second, .val (.long p1s), .second, .val (.int p2s), .val (.long zc), .second, .val (.long zm), .second, .val (.long (1 : Int64)), .second, .val (.long (zc + zm)), .second] [])) _
                refine XS.iconst X51.here hx rfl (hb hby at_125) ?_
                exact k
              exfalso
              have q279_r := own_R64 zc
              have q280_r := own_R64 zm
              have q281_r := own_R64 (zc + zm)
              have q282_ := c_ladd zc zm
              have q283_e : (1 : Int64).toInt = 1 := (by decide)
              have q283_r : (1 : Int) ≤ (1 : Int64).toInt ∧ (1 : Int64).toInt ≤ 1 := ⟨Int.le_of_eq q283_e.symm, Int.le_of_eq q283_e⟩
              have q284_e : (0 : Int64).toInt = 0 := (by decide)
              have q284_r : (0 : Int) ≤ (0 : Int64).toInt ∧ (0 : Int64).toInt ≤ 0 := ⟨Int.le_of_eq q284_e.symm, Int.le_of_eq q284_e⟩
              have q285_c := own_lt64 hc52
              have q286_c := own_ne64 hc56
              have q287_c := own_ne64 hc77
              omega
        · have ev86 : (own_whole zc zm) = (zc + zm) := by unfold own_whole; rw [if_neg hc52]
          have r87 : own_R p.tables e below F0 (T51.setTop (mkF m 54 #[.val (.long p0s), .second, .val (.long p1s), .second, .val (.int p2s), .val (.long zc), .second, .val (.long zm), .second, .unset, .unset, .unset, .unset] [(.long (zc + zm))])) := by have q := r51; rw [ev86] at q; exact q
          have r88 : own_R p.tables e below F0 (T51.setTop (mkF m 60 #[.val (.long p0s), .second, .val (.long p1s), .second, .val (.int p2s), .val (.long zc), .second, .val (.long zm), .second, .val (.long (zc + zm)), .second, .unset, .unset] [(.int (lcmpW zc (0 : Int64)))])) := fun t k => by
            refine r87 t ?_
            show Steps p.tables e below (T51.setTop (mkF m 54 #[.val (.long p0s), .second, .val (.long p1s), .second, .val (.int p2s), .val (.long zc), .second, .val (.long zm), .second, .unset, .unset, .unset, .unset] [(.long (zc + zm))])) _
            refine XS.lstore X51.here hx rfl (hb hby at_54) rfl (l' := #[.val (.long p0s), .second, .val (.long p1s), .second, .val (.int p2s), .val (.long zc), .second, .val (.long zm), .second, .val (.long (zc + zm)), .second, .unset, .unset]) rfl ?_
            show Steps p.tables e below (T51.setTop (mkF m 56 #[.val (.long p0s), .second, .val (.long p1s), .second, .val (.int p2s), .val (.long zc), .second, .val (.long zm), .second, .val (.long (zc + zm)), .second, .unset, .unset] [])) _
            refine XS.lload X51.here hx rfl (hb hby at_56) rfl ?_
            show Steps p.tables e below (T51.setTop (mkF m 58 #[.val (.long p0s), .second, .val (.long p1s), .second, .val (.int p2s), .val (.long zc), .second, .val (.long zm), .second, .val (.long (zc + zm)), .second, .unset, .unset] [(.long zc)])) _
            refine XS.lconst X51.here hx rfl (hb hby at_58) ?_
            show Steps p.tables e below (T51.setTop (mkF m 59 #[.val (.long p0s), .second, .val (.long p1s), .second, .val (.int p2s), .val (.long zc), .second, .val (.long zm), .second, .val (.long (zc + zm)), .second, .unset, .unset] [(.long (0 : Int64)), (.long zc)])) _
            refine XS.lcmp X51.here hx rfl (hb hby at_59) rfl ?_
            exact k
          by_cases hc89 : zc = (0 : Int64)
          · have r90 : own_R p.tables e below F0 (T51.setTop (mkF m 67 #[.val (.long p0s), .second, .val (.long p1s), .second, .val (.int p2s), .val (.long zc), .second, .val (.long zm), .second, .val (.long (zc + zm)), .second, .unset, .unset] [(.int (lcmpW zm (0 : Int64)))])) := fun t k => by
              refine r88 t ?_
              show Steps p.tables e below (T51.setTop (mkF m 60 #[.val (.long p0s), .second, .val (.long p1s), .second, .val (.int p2s), .val (.long zc), .second, .val (.long zm), .second, .val (.long (zc + zm)), .second, .unset, .unset] [(.int (lcmpW zc (0 : Int64)))])) _
              refine XS.ifNo X51.here hx rfl (hb hby at_60) rfl (own_l_eq hc89).2 ?_
              show Steps p.tables e below (T51.setTop (mkF m 63 #[.val (.long p0s), .second, .val (.long p1s), .second, .val (.int p2s), .val (.long zc), .second, .val (.long zm), .second, .val (.long (zc + zm)), .second, .unset, .unset] [])) _
              refine XS.lload X51.here hx rfl (hb hby at_63) rfl ?_
              show Steps p.tables e below (T51.setTop (mkF m 65 #[.val (.long p0s), .second, .val (.long p1s), .second, .val (.int p2s), .val (.long zc), .second, .val (.long zm), .second, .val (.long (zc + zm)), .second, .unset, .unset] [(.long zm)])) _
              refine XS.lconst X51.here hx rfl (hb hby at_65) ?_
              show Steps p.tables e below (T51.setTop (mkF m 66 #[.val (.long p0s), .second, .val (.long p1s), .second, .val (.int p2s), .val (.long zc), .second, .val (.long zm), .second, .val (.long (zc + zm)), .second, .unset, .unset] [(.long (0 : Int64)), (.long zm)])) _
              refine XS.lcmp X51.here hx rfl (hb hby at_66) rfl ?_
              exact k
            by_cases hc91 : zm = (0 : Int64)
            · have r92 : own_R p.tables e below F0 (T51.setTop (mkF m 95 #[.val (.long p0s), .second, .val (.long p1s), .second, .val (.int p2s), .val (.long zc), .second, .val (.long zm), .second, .val (.long (zc + zm)), .second, .val (.long (1 : Int64)), .second] [(.int (lcmpW (zc + zm) (1 : Int64)))])) := fun t k => by
                refine r90 t ?_
                show Steps p.tables e below (T51.setTop (mkF m 67 #[.val (.long p0s), .second, .val (.long p1s), .second, .val (.int p2s), .val (.long zc), .second, .val (.long zm), .second, .val (.long (zc + zm)), .second, .unset, .unset] [(.int (lcmpW zm (0 : Int64)))])) _
                refine XS.ifNo X51.here hx rfl (hb hby at_67) rfl (own_l_eq hc91).2 ?_
                show Steps p.tables e below (T51.setTop (mkF m 70 #[.val (.long p0s), .second, .val (.long p1s), .second, .val (.int p2s), .val (.long zc), .second, .val (.long zm), .second, .val (.long (zc + zm)), .second, .unset, .unset] [])) _
                refine XS.lconst X51.here hx rfl (hb hby at_70) ?_
                show Steps p.tables e below (T51.setTop (mkF m 71 #[.val (.long p0s), .second, .val (.long p1s), .second, .val (.int p2s), .val (.long zc), .second, .val (.long zm), .second, .val (.long (zc + zm)), .second, .unset, .unset] [(.long (1 : Int64))])) _
                refine XS.lstore X51.here hx rfl (hb hby at_71) rfl (l' := #[.val (.long p0s), .second, .val (.long p1s), .second, .val (.int p2s), .val (.long zc), .second, .val (.long zm), .second, .val (.long (zc + zm)), .second, .val (.long (1 : Int64)), .second]) rfl ?_
                show Steps p.tables e below (T51.setTop (mkF m 73 #[.val (.long p0s), .second, .val (.long p1s), .second, .val (.int p2s), .val (.long zc), .second, .val (.long zm), .second, .val (.long (zc + zm)), .second, .val (.long (1 : Int64)), .second] [])) _
                refine XS.goto X51.here hx rfl (pc0 := 73) (pc' := 90) rfl (hb hby at_73) (by decide) (by decide) ?_
                show Steps p.tables e below (T51.setTop (mkF m 90 #[.val (.long p0s), .second, .val (.long p1s), .second, .val (.int p2s), .val (.long zc), .second, .val (.long zm), .second, .val (.long (zc + zm)), .second, .val (.long (1 : Int64)), .second] [])) _
                refine XS.lload X51.here hx rfl (hb hby at_90) rfl ?_
                show Steps p.tables e below (T51.setTop (mkF m 92 #[.val (.long p0s), .second, .val (.long p1s), .second, .val (.int p2s), .val (.long zc), .second, .val (.long zm), .second, .val (.long (zc + zm)), .second, .val (.long (1 : Int64)), .second] [(.long (zc + zm))])) _
                refine XS.lload X51.here hx rfl (hb hby at_92) rfl ?_
                show Steps p.tables e below (T51.setTop (mkF m 94 #[.val (.long p0s), .second, .val (.long p1s), .second, .val (.int p2s), .val (.long zc), .second, .val (.long zm), .second, .val (.long (zc + zm)), .second, .val (.long (1 : Int64)), .second] [(.long (1 : Int64)), (.long (zc + zm))])) _
                refine XS.lcmp X51.here hx rfl (hb hby at_94) rfl ?_
                exact k
              by_cases hc93 : (zc + zm) = (1 : Int64)
              · have r94 : own_R p.tables e below F0 (T51.setTop (mkF m 110 #[.val (.long p0s), .second, .val (.long p1s), .second, .val (.int p2s), .val (.long zc), .second, .val (.long zm), .second, .val (.long (zc + zm)), .second, .val (.long (1 : Int64)), .second] [(.int (lcmpW (zc + zm) zc))])) := fun t k => by
                  refine r92 t ?_
                  show Steps p.tables e below (T51.setTop (mkF m 95 #[.val (.long p0s), .second, .val (.long p1s), .second, .val (.int p2s), .val (.long zc), .second, .val (.long zm), .second, .val (.long (zc + zm)), .second, .val (.long (1 : Int64)), .second] [(.int (lcmpW (zc + zm) (1 : Int64)))])) _
                  refine XS.ifNo X51.here hx rfl (hb hby at_95) rfl (own_l_eq hc93).2 ?_
                  show Steps p.tables e below (T51.setTop (mkF m 98 #[.val (.long p0s), .second, .val (.long p1s), .second, .val (.int p2s), .val (.long zc), .second, .val (.long zm), .second, .val (.long (zc + zm)), .second, .val (.long (1 : Int64)), .second] [])) _
                  refine XS.lload X51.here hx rfl (hb hby at_98) rfl ?_
                  show Steps p.tables e below (T51.setTop (mkF m 100 #[.val (.long p0s), .second, .val (.long p1s), .second, .val (.int p2s), .val (.long zc), .second, .val (.long zm), .second, .val (.long (zc + zm)), .second, .val (.long (1 : Int64)), .second] [(.long (zc + zm))])) _
                  refine XS.lconst X51.here hx rfl (hb hby at_100) ?_
                  show Steps p.tables e below (T51.setTop (mkF m 101 #[.val (.long p0s), .second, .val (.long p1s), .second, .val (.int p2s), .val (.long zc), .second, .val (.long zm), .second, .val (.long (zc + zm)), .second, .val (.long (1 : Int64)), .second] [(.long (1 : Int64)), (.long (zc + zm))])) _
                  refine XS.lcmp X51.here hx rfl (hb hby at_101) rfl ?_
                  show Steps p.tables e below (T51.setTop (mkF m 102 #[.val (.long p0s), .second, .val (.long p1s), .second, .val (.int p2s), .val (.long zc), .second, .val (.long zm), .second, .val (.long (zc + zm)), .second, .val (.long (1 : Int64)), .second] [(.int (lcmpW (zc + zm) (1 : Int64)))])) _
                  refine XS.ifNo X51.here hx rfl (hb hby at_102) rfl (own_l_nlt hc52).1 ?_
                  show Steps p.tables e below (T51.setTop (mkF m 105 #[.val (.long p0s), .second, .val (.long p1s), .second, .val (.int p2s), .val (.long zc), .second, .val (.long zm), .second, .val (.long (zc + zm)), .second, .val (.long (1 : Int64)), .second] [])) _
                  refine XS.lload X51.here hx rfl (hb hby at_105) rfl ?_
                  show Steps p.tables e below (T51.setTop (mkF m 107 #[.val (.long p0s), .second, .val (.long p1s), .second, .val (.int p2s), .val (.long zc), .second, .val (.long zm), .second, .val (.long (zc + zm)), .second, .val (.long (1 : Int64)), .second] [(.long (zc + zm))])) _
                  refine XS.lload X51.here hx rfl (hb hby at_107) rfl ?_
                  show Steps p.tables e below (T51.setTop (mkF m 109 #[.val (.long p0s), .second, .val (.long p1s), .second, .val (.int p2s), .val (.long zc), .second, .val (.long zm), .second, .val (.long (zc + zm)), .second, .val (.long (1 : Int64)), .second] [(.long zc), (.long (zc + zm))])) _
                  refine XS.lcmp X51.here hx rfl (hb hby at_109) rfl ?_
                  exact k
                by_cases hc95 : (zc + zm) < zc
                · have r96 : own_R p.tables e below F0 (T51.setTop (mkF m 126 #[.val (.long p0s), .second, .val (.long p1s), .second, .val (.int p2s), .val (.long zc), .second, .val (.long zm), .second, .val (.long (zc + zm)), .second, .val (.long (1 : Int64)), .second] [(.int (0 : Int32))])) := fun t k => by
                    refine r94 t ?_
                    show Steps p.tables e below (T51.setTop (mkF m 110 #[.val (.long p0s), .second, .val (.long p1s), .second, .val (.int p2s), .val (.long zc), .second, .val (.long zm), .second, .val (.long (zc + zm)), .second, .val (.long (1 : Int64)), .second] [(.int (lcmpW (zc + zm) zc))])) _
                    refine XS.ifYes X51.here hx rfl (pc0 := 110) (pc' := 125) rfl (hb hby at_110) rfl (own_l_lt hc95).1 (by decide) (by decide) ?_
                    show Steps p.tables e below (T51.setTop (mkF m 125 #[.val (.long p0s), .second, .val (.long p1s), .second, .val (.int p2s), .val (.long zc), .second, .val (.long zm), .second, .val (.long (zc + zm)), .second, .val (.long (1 : Int64)), .second] [])) _
                    refine XS.iconst X51.here hx rfl (hb hby at_125) ?_
                    exact k
                  exfalso
                  have q288_r := own_R64 zc
                  have q289_r := own_R64 zm
                  have q290_r := own_R64 (zc + zm)
                  have q291_ := c_ladd zc zm
                  have q292_e : (1 : Int64).toInt = 1 := (by decide)
                  have q292_r : (1 : Int) ≤ (1 : Int64).toInt ∧ (1 : Int64).toInt ≤ 1 := ⟨Int.le_of_eq q292_e.symm, Int.le_of_eq q292_e⟩
                  have q293_e : (0 : Int64).toInt = 0 := (by decide)
                  have q293_r : (0 : Int) ≤ (0 : Int64).toInt ∧ (0 : Int64).toInt ≤ 0 := ⟨Int.le_of_eq q293_e.symm, Int.le_of_eq q293_e⟩
                  have q294_c := own_nlt64 hc52
                  have q295_c := own_eq64 hc89
                  have q296_c := own_eq64 hc91
                  have q297_c := own_eq64 hc93
                  have q298_c := own_lt64 hc95
                  omega
                · have r97 : own_R p.tables e below F0 (T51.setTop (mkF m 118 #[.val (.long p0s), .second, .val (.long p1s), .second, .val (.int p2s), .val (.long zc), .second, .val (.long zm), .second, .val (.long (zc + zm)), .second, .val (.long (1 : Int64)), .second] [(.int (lcmpW (zc + zm) zm))])) := fun t k => by
                    refine r94 t ?_
                    show Steps p.tables e below (T51.setTop (mkF m 110 #[.val (.long p0s), .second, .val (.long p1s), .second, .val (.int p2s), .val (.long zc), .second, .val (.long zm), .second, .val (.long (zc + zm)), .second, .val (.long (1 : Int64)), .second] [(.int (lcmpW (zc + zm) zc))])) _
                    refine XS.ifNo X51.here hx rfl (hb hby at_110) rfl (own_l_nlt hc95).1 ?_
                    show Steps p.tables e below (T51.setTop (mkF m 113 #[.val (.long p0s), .second, .val (.long p1s), .second, .val (.int p2s), .val (.long zc), .second, .val (.long zm), .second, .val (.long (zc + zm)), .second, .val (.long (1 : Int64)), .second] [])) _
                    refine XS.lload X51.here hx rfl (hb hby at_113) rfl ?_
                    show Steps p.tables e below (T51.setTop (mkF m 115 #[.val (.long p0s), .second, .val (.long p1s), .second, .val (.int p2s), .val (.long zc), .second, .val (.long zm), .second, .val (.long (zc + zm)), .second, .val (.long (1 : Int64)), .second] [(.long (zc + zm))])) _
                    refine XS.lload X51.here hx rfl (hb hby at_115) rfl ?_
                    show Steps p.tables e below (T51.setTop (mkF m 117 #[.val (.long p0s), .second, .val (.long p1s), .second, .val (.int p2s), .val (.long zc), .second, .val (.long zm), .second, .val (.long (zc + zm)), .second, .val (.long (1 : Int64)), .second] [(.long zm), (.long (zc + zm))])) _
                    refine XS.lcmp X51.here hx rfl (hb hby at_117) rfl ?_
                    exact k
                  by_cases hc98 : (zc + zm) < zm
                  · have r99 : own_R p.tables e below F0 (T51.setTop (mkF m 126 #[.val (.long p0s), .second, .val (.long p1s), .second, .val (.int p2s), .val (.long zc), .second, .val (.long zm), .second, .val (.long (zc + zm)), .second, .val (.long (1 : Int64)), .second] [(.int (0 : Int32))])) := fun t k => by
                      refine r97 t ?_
                      show Steps p.tables e below (T51.setTop (mkF m 118 #[.val (.long p0s), .second, .val (.long p1s), .second, .val (.int p2s), .val (.long zc), .second, .val (.long zm), .second, .val (.long (zc + zm)), .second, .val (.long (1 : Int64)), .second] [(.int (lcmpW (zc + zm) zm))])) _
                      refine XS.ifYes X51.here hx rfl (pc0 := 118) (pc' := 125) rfl (hb hby at_118) rfl (own_l_lt hc98).1 (by decide) (by decide) ?_
                      show Steps p.tables e below (T51.setTop (mkF m 125 #[.val (.long p0s), .second, .val (.long p1s), .second, .val (.int p2s), .val (.long zc), .second, .val (.long zm), .second, .val (.long (zc + zm)), .second, .val (.long (1 : Int64)), .second] [])) _
                      refine XS.iconst X51.here hx rfl (hb hby at_125) ?_
                      exact k
                    exfalso
                    have q299_r := own_R64 zc
                    have q300_r := own_R64 zm
                    have q301_r := own_R64 (zc + zm)
                    have q302_ := c_ladd zc zm
                    have q303_e : (1 : Int64).toInt = 1 := (by decide)
                    have q303_r : (1 : Int) ≤ (1 : Int64).toInt ∧ (1 : Int64).toInt ≤ 1 := ⟨Int.le_of_eq q303_e.symm, Int.le_of_eq q303_e⟩
                    have q304_e : (0 : Int64).toInt = 0 := (by decide)
                    have q304_r : (0 : Int) ≤ (0 : Int64).toInt ∧ (0 : Int64).toInt ≤ 0 := ⟨Int.le_of_eq q304_e.symm, Int.le_of_eq q304_e⟩
                    have q305_c := own_nlt64 hc52
                    have q306_c := own_eq64 hc89
                    have q307_c := own_eq64 hc91
                    have q308_c := own_eq64 hc93
                    have q309_c := own_nlt64 hc95
                    have q310_c := own_lt64 hc98
                    omega
                  · have r100 : own_R p.tables e below F0 (T51.setTop (mkF m 126 #[.val (.long p0s), .second, .val (.long p1s), .second, .val (.int p2s), .val (.long zc), .second, .val (.long zm), .second, .val (.long (zc + zm)), .second, .val (.long (1 : Int64)), .second] [(.int (1 : Int32))])) := fun t k => by
                      refine r97 t ?_
                      show Steps p.tables e below (T51.setTop (mkF m 118 #[.val (.long p0s), .second, .val (.long p1s), .second, .val (.int p2s), .val (.long zc), .second, .val (.long zm), .second, .val (.long (zc + zm)), .second, .val (.long (1 : Int64)), .second] [(.int (lcmpW (zc + zm) zm))])) _
                      refine XS.ifNo X51.here hx rfl (hb hby at_118) rfl (own_l_nlt hc98).1 ?_
                      show Steps p.tables e below (T51.setTop (mkF m 121 #[.val (.long p0s), .second, .val (.long p1s), .second, .val (.int p2s), .val (.long zc), .second, .val (.long zm), .second, .val (.long (zc + zm)), .second, .val (.long (1 : Int64)), .second] [])) _
                      refine XS.iconst X51.here hx rfl (hb hby at_121) ?_
                      show Steps p.tables e below (T51.setTop (mkF m 122 #[.val (.long p0s), .second, .val (.long p1s), .second, .val (.int p2s), .val (.long zc), .second, .val (.long zm), .second, .val (.long (zc + zm)), .second, .val (.long (1 : Int64)), .second] [(.int (1 : Int32))])) _
                      refine XS.goto X51.here hx rfl (pc0 := 122) (pc' := 126) rfl (hb hby at_122) (by decide) (by decide) ?_
                      exact k
                    refine hG (own_fin X51 hlk (some (.int (nar .boolean (1 : Int32)))) (own_hv Bd.returns) ?_ (by decide) (by decide) (fun fs hr => r100 _ (retN X51 hx (t := .boolean) Bd.returns (by simp) (hb hby at_126) hr)))
                    rw [I51_0]
                    exact ⟨rfl, N51⟩
              · have r101 : own_R p.tables e below F0 (T51.setTop (mkF m 126 #[.val (.long p0s), .second, .val (.long p1s), .second, .val (.int p2s), .val (.long zc), .second, .val (.long zm), .second, .val (.long (zc + zm)), .second, .val (.long (1 : Int64)), .second] [(.int (0 : Int32))])) := fun t k => by
                  refine r92 t ?_
                  show Steps p.tables e below (T51.setTop (mkF m 95 #[.val (.long p0s), .second, .val (.long p1s), .second, .val (.int p2s), .val (.long zc), .second, .val (.long zm), .second, .val (.long (zc + zm)), .second, .val (.long (1 : Int64)), .second] [(.int (lcmpW (zc + zm) (1 : Int64)))])) _
                  refine XS.ifYes X51.here hx rfl (pc0 := 95) (pc' := 125) rfl (hb hby at_95) rfl (own_l_neq hc93).2 (by decide) (by decide) ?_
                  show Steps p.tables e below (T51.setTop (mkF m 125 #[.val (.long p0s), .second, .val (.long p1s), .second, .val (.int p2s), .val (.long zc), .second, .val (.long zm), .second, .val (.long (zc + zm)), .second, .val (.long (1 : Int64)), .second] [])) _
                  refine XS.iconst X51.here hx rfl (hb hby at_125) ?_
                  exact k
                exfalso
                have q311_r := own_R64 zc
                have q312_r := own_R64 zm
                have q313_r := own_R64 (zc + zm)
                have q314_ := c_ladd zc zm
                have q315_e : (1 : Int64).toInt = 1 := (by decide)
                have q315_r : (1 : Int) ≤ (1 : Int64).toInt ∧ (1 : Int64).toInt ≤ 1 := ⟨Int.le_of_eq q315_e.symm, Int.le_of_eq q315_e⟩
                have q316_e : (0 : Int64).toInt = 0 := (by decide)
                have q316_r : (0 : Int) ≤ (0 : Int64).toInt ∧ (0 : Int64).toInt ≤ 0 := ⟨Int.le_of_eq q316_e.symm, Int.le_of_eq q316_e⟩
                have q317_c := own_nlt64 hc52
                have q318_c := own_eq64 hc89
                have q319_c := own_eq64 hc91
                have q320_c := own_ne64 hc93
                omega
            · have r102 : own_R p.tables e below F0 (T51.setTop (mkF m 95 #[.val (.long p0s), .second, .val (.long p1s), .second, .val (.int p2s), .val (.long zc), .second, .val (.long zm), .second, .val (.long (zc + zm)), .second, .val (.long zm), .second] [(.int (lcmpW (zc + zm) zm))])) := fun t k => by
                refine r90 t ?_
                show Steps p.tables e below (T51.setTop (mkF m 67 #[.val (.long p0s), .second, .val (.long p1s), .second, .val (.int p2s), .val (.long zc), .second, .val (.long zm), .second, .val (.long (zc + zm)), .second, .unset, .unset] [(.int (lcmpW zm (0 : Int64)))])) _
                refine XS.ifYes X51.here hx rfl (pc0 := 67) (pc' := 76) rfl (hb hby at_67) rfl (own_l_neq hc91).2 (by decide) (by decide) ?_
                show Steps p.tables e below (T51.setTop (mkF m 76 #[.val (.long p0s), .second, .val (.long p1s), .second, .val (.int p2s), .val (.long zc), .second, .val (.long zm), .second, .val (.long (zc + zm)), .second, .unset, .unset] [])) _
                refine XS.lload X51.here hx rfl (hb hby at_76) rfl ?_
                show Steps p.tables e below (T51.setTop (mkF m 78 #[.val (.long p0s), .second, .val (.long p1s), .second, .val (.int p2s), .val (.long zc), .second, .val (.long zm), .second, .val (.long (zc + zm)), .second, .unset, .unset] [(.long zm)])) _
                refine XS.lstore X51.here hx rfl (hb hby at_78) rfl (l' := #[.val (.long p0s), .second, .val (.long p1s), .second, .val (.int p2s), .val (.long zc), .second, .val (.long zm), .second, .val (.long (zc + zm)), .second, .val (.long zm), .second]) rfl ?_
                show Steps p.tables e below (T51.setTop (mkF m 80 #[.val (.long p0s), .second, .val (.long p1s), .second, .val (.int p2s), .val (.long zc), .second, .val (.long zm), .second, .val (.long (zc + zm)), .second, .val (.long zm), .second] [])) _
                refine XS.goto X51.here hx rfl (pc0 := 80) (pc' := 90) rfl (hb hby at_80) (by decide) (by decide) ?_
                show Steps p.tables e below (T51.setTop (mkF m 90 #[.val (.long p0s), .second, .val (.long p1s), .second, .val (.int p2s), .val (.long zc), .second, .val (.long zm), .second, .val (.long (zc + zm)), .second, .val (.long zm), .second] [])) _
                refine XS.lload X51.here hx rfl (hb hby at_90) rfl ?_
                show Steps p.tables e below (T51.setTop (mkF m 92 #[.val (.long p0s), .second, .val (.long p1s), .second, .val (.int p2s), .val (.long zc), .second, .val (.long zm), .second, .val (.long (zc + zm)), .second, .val (.long zm), .second] [(.long (zc + zm))])) _
                refine XS.lload X51.here hx rfl (hb hby at_92) rfl ?_
                show Steps p.tables e below (T51.setTop (mkF m 94 #[.val (.long p0s), .second, .val (.long p1s), .second, .val (.int p2s), .val (.long zc), .second, .val (.long zm), .second, .val (.long (zc + zm)), .second, .val (.long zm), .second] [(.long zm), (.long (zc + zm))])) _
                refine XS.lcmp X51.here hx rfl (hb hby at_94) rfl ?_
                exact k
              by_cases hc103 : (zc + zm) = zm
              · have r104 : own_R p.tables e below F0 (T51.setTop (mkF m 110 #[.val (.long p0s), .second, .val (.long p1s), .second, .val (.int p2s), .val (.long zc), .second, .val (.long zm), .second, .val (.long (zc + zm)), .second, .val (.long zm), .second] [(.int (lcmpW (zc + zm) zc))])) := fun t k => by
                  refine r102 t ?_
                  show Steps p.tables e below (T51.setTop (mkF m 95 #[.val (.long p0s), .second, .val (.long p1s), .second, .val (.int p2s), .val (.long zc), .second, .val (.long zm), .second, .val (.long (zc + zm)), .second, .val (.long zm), .second] [(.int (lcmpW (zc + zm) zm))])) _
                  refine XS.ifNo X51.here hx rfl (hb hby at_95) rfl (own_l_eq hc103).2 ?_
                  show Steps p.tables e below (T51.setTop (mkF m 98 #[.val (.long p0s), .second, .val (.long p1s), .second, .val (.int p2s), .val (.long zc), .second, .val (.long zm), .second, .val (.long (zc + zm)), .second, .val (.long zm), .second] [])) _
                  refine XS.lload X51.here hx rfl (hb hby at_98) rfl ?_
                  show Steps p.tables e below (T51.setTop (mkF m 100 #[.val (.long p0s), .second, .val (.long p1s), .second, .val (.int p2s), .val (.long zc), .second, .val (.long zm), .second, .val (.long (zc + zm)), .second, .val (.long zm), .second] [(.long (zc + zm))])) _
                  refine XS.lconst X51.here hx rfl (hb hby at_100) ?_
                  show Steps p.tables e below (T51.setTop (mkF m 101 #[.val (.long p0s), .second, .val (.long p1s), .second, .val (.int p2s), .val (.long zc), .second, .val (.long zm), .second, .val (.long (zc + zm)), .second, .val (.long zm), .second] [(.long (1 : Int64)), (.long (zc + zm))])) _
                  refine XS.lcmp X51.here hx rfl (hb hby at_101) rfl ?_
                  show Steps p.tables e below (T51.setTop (mkF m 102 #[.val (.long p0s), .second, .val (.long p1s), .second, .val (.int p2s), .val (.long zc), .second, .val (.long zm), .second, .val (.long (zc + zm)), .second, .val (.long zm), .second] [(.int (lcmpW (zc + zm) (1 : Int64)))])) _
                  refine XS.ifNo X51.here hx rfl (hb hby at_102) rfl (own_l_nlt hc52).1 ?_
                  show Steps p.tables e below (T51.setTop (mkF m 105 #[.val (.long p0s), .second, .val (.long p1s), .second, .val (.int p2s), .val (.long zc), .second, .val (.long zm), .second, .val (.long (zc + zm)), .second, .val (.long zm), .second] [])) _
                  refine XS.lload X51.here hx rfl (hb hby at_105) rfl ?_
                  show Steps p.tables e below (T51.setTop (mkF m 107 #[.val (.long p0s), .second, .val (.long p1s), .second, .val (.int p2s), .val (.long zc), .second, .val (.long zm), .second, .val (.long (zc + zm)), .second, .val (.long zm), .second] [(.long (zc + zm))])) _
                  refine XS.lload X51.here hx rfl (hb hby at_107) rfl ?_
                  show Steps p.tables e below (T51.setTop (mkF m 109 #[.val (.long p0s), .second, .val (.long p1s), .second, .val (.int p2s), .val (.long zc), .second, .val (.long zm), .second, .val (.long (zc + zm)), .second, .val (.long zm), .second] [(.long zc), (.long (zc + zm))])) _
                  refine XS.lcmp X51.here hx rfl (hb hby at_109) rfl ?_
                  exact k
                by_cases hc105 : (zc + zm) < zc
                · have r106 : own_R p.tables e below F0 (T51.setTop (mkF m 126 #[.val (.long p0s), .second, .val (.long p1s), .second, .val (.int p2s), .val (.long zc), .second, .val (.long zm), .second, .val (.long (zc + zm)), .second, .val (.long zm), .second] [(.int (0 : Int32))])) := fun t k => by
                    refine r104 t ?_
                    show Steps p.tables e below (T51.setTop (mkF m 110 #[.val (.long p0s), .second, .val (.long p1s), .second, .val (.int p2s), .val (.long zc), .second, .val (.long zm), .second, .val (.long (zc + zm)), .second, .val (.long zm), .second] [(.int (lcmpW (zc + zm) zc))])) _
                    refine XS.ifYes X51.here hx rfl (pc0 := 110) (pc' := 125) rfl (hb hby at_110) rfl (own_l_lt hc105).1 (by decide) (by decide) ?_
                    show Steps p.tables e below (T51.setTop (mkF m 125 #[.val (.long p0s), .second, .val (.long p1s), .second, .val (.int p2s), .val (.long zc), .second, .val (.long zm), .second, .val (.long (zc + zm)), .second, .val (.long zm), .second] [])) _
                    refine XS.iconst X51.here hx rfl (hb hby at_125) ?_
                    exact k
                  exfalso
                  have q321_r := own_R64 zc
                  have q322_r := own_R64 zm
                  have q323_r := own_R64 (zc + zm)
                  have q324_ := c_ladd zc zm
                  have q325_e : (1 : Int64).toInt = 1 := (by decide)
                  have q325_r : (1 : Int) ≤ (1 : Int64).toInt ∧ (1 : Int64).toInt ≤ 1 := ⟨Int.le_of_eq q325_e.symm, Int.le_of_eq q325_e⟩
                  have q326_e : (0 : Int64).toInt = 0 := (by decide)
                  have q326_r : (0 : Int) ≤ (0 : Int64).toInt ∧ (0 : Int64).toInt ≤ 0 := ⟨Int.le_of_eq q326_e.symm, Int.le_of_eq q326_e⟩
                  have q327_c := own_nlt64 hc52
                  have q328_c := own_eq64 hc89
                  have q329_c := own_ne64 hc91
                  have q330_c := own_eq64 hc103
                  have q331_c := own_lt64 hc105
                  omega
                · have r107 : own_R p.tables e below F0 (T51.setTop (mkF m 118 #[.val (.long p0s), .second, .val (.long p1s), .second, .val (.int p2s), .val (.long zc), .second, .val (.long zm), .second, .val (.long (zc + zm)), .second, .val (.long zm), .second] [(.int (lcmpW (zc + zm) zm))])) := fun t k => by
                    refine r104 t ?_
                    show Steps p.tables e below (T51.setTop (mkF m 110 #[.val (.long p0s), .second, .val (.long p1s), .second, .val (.int p2s), .val (.long zc), .second, .val (.long zm), .second, .val (.long (zc + zm)), .second, .val (.long zm), .second] [(.int (lcmpW (zc + zm) zc))])) _
                    refine XS.ifNo X51.here hx rfl (hb hby at_110) rfl (own_l_nlt hc105).1 ?_
                    show Steps p.tables e below (T51.setTop (mkF m 113 #[.val (.long p0s), .second, .val (.long p1s), .second, .val (.int p2s), .val (.long zc), .second, .val (.long zm), .second, .val (.long (zc + zm)), .second, .val (.long zm), .second] [])) _
                    refine XS.lload X51.here hx rfl (hb hby at_113) rfl ?_
                    show Steps p.tables e below (T51.setTop (mkF m 115 #[.val (.long p0s), .second, .val (.long p1s), .second, .val (.int p2s), .val (.long zc), .second, .val (.long zm), .second, .val (.long (zc + zm)), .second, .val (.long zm), .second] [(.long (zc + zm))])) _
                    refine XS.lload X51.here hx rfl (hb hby at_115) rfl ?_
                    show Steps p.tables e below (T51.setTop (mkF m 117 #[.val (.long p0s), .second, .val (.long p1s), .second, .val (.int p2s), .val (.long zc), .second, .val (.long zm), .second, .val (.long (zc + zm)), .second, .val (.long zm), .second] [(.long zm), (.long (zc + zm))])) _
                    refine XS.lcmp X51.here hx rfl (hb hby at_117) rfl ?_
                    exact k
                  by_cases hc108 : (zc + zm) < zm
                  · have r109 : own_R p.tables e below F0 (T51.setTop (mkF m 126 #[.val (.long p0s), .second, .val (.long p1s), .second, .val (.int p2s), .val (.long zc), .second, .val (.long zm), .second, .val (.long (zc + zm)), .second, .val (.long zm), .second] [(.int (0 : Int32))])) := fun t k => by
                      refine r107 t ?_
                      show Steps p.tables e below (T51.setTop (mkF m 118 #[.val (.long p0s), .second, .val (.long p1s), .second, .val (.int p2s), .val (.long zc), .second, .val (.long zm), .second, .val (.long (zc + zm)), .second, .val (.long zm), .second] [(.int (lcmpW (zc + zm) zm))])) _
                      refine XS.ifYes X51.here hx rfl (pc0 := 118) (pc' := 125) rfl (hb hby at_118) rfl (own_l_lt hc108).1 (by decide) (by decide) ?_
                      show Steps p.tables e below (T51.setTop (mkF m 125 #[.val (.long p0s), .second, .val (.long p1s), .second, .val (.int p2s), .val (.long zc), .second, .val (.long zm), .second, .val (.long (zc + zm)), .second, .val (.long zm), .second] [])) _
                      refine XS.iconst X51.here hx rfl (hb hby at_125) ?_
                      exact k
                    exfalso
                    have q332_r := own_R64 zc
                    have q333_r := own_R64 zm
                    have q334_r := own_R64 (zc + zm)
                    have q335_ := c_ladd zc zm
                    have q336_e : (1 : Int64).toInt = 1 := (by decide)
                    have q336_r : (1 : Int) ≤ (1 : Int64).toInt ∧ (1 : Int64).toInt ≤ 1 := ⟨Int.le_of_eq q336_e.symm, Int.le_of_eq q336_e⟩
                    have q337_e : (0 : Int64).toInt = 0 := (by decide)
                    have q337_r : (0 : Int) ≤ (0 : Int64).toInt ∧ (0 : Int64).toInt ≤ 0 := ⟨Int.le_of_eq q337_e.symm, Int.le_of_eq q337_e⟩
                    have q338_c := own_nlt64 hc52
                    have q339_c := own_eq64 hc89
                    have q340_c := own_ne64 hc91
                    have q341_c := own_eq64 hc103
                    have q342_c := own_nlt64 hc105
                    have q343_c := own_lt64 hc108
                    omega
                  · have r110 : own_R p.tables e below F0 (T51.setTop (mkF m 126 #[.val (.long p0s), .second, .val (.long p1s), .second, .val (.int p2s), .val (.long zc), .second, .val (.long zm), .second, .val (.long (zc + zm)), .second, .val (.long zm), .second] [(.int (1 : Int32))])) := fun t k => by
                      refine r107 t ?_
                      show Steps p.tables e below (T51.setTop (mkF m 118 #[.val (.long p0s), .second, .val (.long p1s), .second, .val (.int p2s), .val (.long zc), .second, .val (.long zm), .second, .val (.long (zc + zm)), .second, .val (.long zm), .second] [(.int (lcmpW (zc + zm) zm))])) _
                      refine XS.ifNo X51.here hx rfl (hb hby at_118) rfl (own_l_nlt hc108).1 ?_
                      show Steps p.tables e below (T51.setTop (mkF m 121 #[.val (.long p0s), .second, .val (.long p1s), .second, .val (.int p2s), .val (.long zc), .second, .val (.long zm), .second, .val (.long (zc + zm)), .second, .val (.long zm), .second] [])) _
                      refine XS.iconst X51.here hx rfl (hb hby at_121) ?_
                      show Steps p.tables e below (T51.setTop (mkF m 122 #[.val (.long p0s), .second, .val (.long p1s), .second, .val (.int p2s), .val (.long zc), .second, .val (.long zm), .second, .val (.long (zc + zm)), .second, .val (.long zm), .second] [(.int (1 : Int32))])) _
                      refine XS.goto X51.here hx rfl (pc0 := 122) (pc' := 126) rfl (hb hby at_122) (by decide) (by decide) ?_
                      exact k
                    refine hG (own_fin X51 hlk (some (.int (nar .boolean (1 : Int32)))) (own_hv Bd.returns) ?_ (by decide) (by decide) (fun fs hr => r110 _ (retN X51 hx (t := .boolean) Bd.returns (by simp) (hb hby at_126) hr)))
                    rw [I51_0]
                    exact ⟨rfl, N51⟩
              · have r111 : own_R p.tables e below F0 (T51.setTop (mkF m 126 #[.val (.long p0s), .second, .val (.long p1s), .second, .val (.int p2s), .val (.long zc), .second, .val (.long zm), .second, .val (.long (zc + zm)), .second, .val (.long zm), .second] [(.int (0 : Int32))])) := fun t k => by
                  refine r102 t ?_
                  show Steps p.tables e below (T51.setTop (mkF m 95 #[.val (.long p0s), .second, .val (.long p1s), .second, .val (.int p2s), .val (.long zc), .second, .val (.long zm), .second, .val (.long (zc + zm)), .second, .val (.long zm), .second] [(.int (lcmpW (zc + zm) zm))])) _
                  refine XS.ifYes X51.here hx rfl (pc0 := 95) (pc' := 125) rfl (hb hby at_95) rfl (own_l_neq hc103).2 (by decide) (by decide) ?_
                  show Steps p.tables e below (T51.setTop (mkF m 125 #[.val (.long p0s), .second, .val (.long p1s), .second, .val (.int p2s), .val (.long zc), .second, .val (.long zm), .second, .val (.long (zc + zm)), .second, .val (.long zm), .second] [])) _
                  refine XS.iconst X51.here hx rfl (hb hby at_125) ?_
                  exact k
                exfalso
                have q344_r := own_R64 zc
                have q345_r := own_R64 zm
                have q346_r := own_R64 (zc + zm)
                have q347_ := c_ladd zc zm
                have q348_e : (1 : Int64).toInt = 1 := (by decide)
                have q348_r : (1 : Int) ≤ (1 : Int64).toInt ∧ (1 : Int64).toInt ≤ 1 := ⟨Int.le_of_eq q348_e.symm, Int.le_of_eq q348_e⟩
                have q349_e : (0 : Int64).toInt = 0 := (by decide)
                have q349_r : (0 : Int) ≤ (0 : Int64).toInt ∧ (0 : Int64).toInt ≤ 0 := ⟨Int.le_of_eq q349_e.symm, Int.le_of_eq q349_e⟩
                have q350_c := own_nlt64 hc52
                have q351_c := own_eq64 hc89
                have q352_c := own_ne64 hc91
                have q353_c := own_ne64 hc103
                omega
          · have r112 : own_R p.tables e below F0 (T51.setTop (mkF m 110 #[.val (.long p0s), .second, .val (.long p1s), .second, .val (.int p2s), .val (.long zc), .second, .val (.long zm), .second, .val (.long (zc + zm)), .second, .val (.long (zc + zm)), .second] [(.int (lcmpW (zc + zm) zc))])) := fun t k => by
              refine r88 t ?_
              show Steps p.tables e below (T51.setTop (mkF m 60 #[.val (.long p0s), .second, .val (.long p1s), .second, .val (.int p2s), .val (.long zc), .second, .val (.long zm), .second, .val (.long (zc + zm)), .second, .unset, .unset] [(.int (lcmpW zc (0 : Int64)))])) _
              refine XS.ifYes X51.here hx rfl (pc0 := 60) (pc' := 83) rfl (hb hby at_60) rfl (own_l_neq hc89).2 (by decide) (by decide) ?_
              show Steps p.tables e below (T51.setTop (mkF m 83 #[.val (.long p0s), .second, .val (.long p1s), .second, .val (.int p2s), .val (.long zc), .second, .val (.long zm), .second, .val (.long (zc + zm)), .second, .unset, .unset] [])) _
              refine XS.lload X51.here hx rfl (hb hby at_83) rfl ?_
              show Steps p.tables e below (T51.setTop (mkF m 85 #[.val (.long p0s), .second, .val (.long p1s), .second, .val (.int p2s), .val (.long zc), .second, .val (.long zm), .second, .val (.long (zc + zm)), .second, .unset, .unset] [(.long zc)])) _
              refine XS.lload X51.here hx rfl (hb hby at_85) rfl ?_
              show Steps p.tables e below (T51.setTop (mkF m 87 #[.val (.long p0s), .second, .val (.long p1s), .second, .val (.int p2s), .val (.long zc), .second, .val (.long zm), .second, .val (.long (zc + zm)), .second, .unset, .unset] [(.long zm), (.long zc)])) _
              refine XS.ladd X51.here hx rfl (hb hby at_87) rfl ?_
              show Steps p.tables e below (T51.setTop (mkF m 88 #[.val (.long p0s), .second, .val (.long p1s), .second, .val (.int p2s), .val (.long zc), .second, .val (.long zm), .second, .val (.long (zc + zm)), .second, .unset, .unset] [(.long (zc + zm))])) _
              refine XS.lstore X51.here hx rfl (hb hby at_88) rfl (l' := #[.val (.long p0s), .second, .val (.long p1s), .second, .val (.int p2s), .val (.long zc), .second, .val (.long zm), .second, .val (.long (zc + zm)), .second, .val (.long (zc + zm)), .second]) rfl ?_
              show Steps p.tables e below (T51.setTop (mkF m 90 #[.val (.long p0s), .second, .val (.long p1s), .second, .val (.int p2s), .val (.long zc), .second, .val (.long zm), .second, .val (.long (zc + zm)), .second, .val (.long (zc + zm)), .second] [])) _
              refine XS.lload X51.here hx rfl (hb hby at_90) rfl ?_
              show Steps p.tables e below (T51.setTop (mkF m 92 #[.val (.long p0s), .second, .val (.long p1s), .second, .val (.int p2s), .val (.long zc), .second, .val (.long zm), .second, .val (.long (zc + zm)), .second, .val (.long (zc + zm)), .second] [(.long (zc + zm))])) _
              refine XS.lload X51.here hx rfl (hb hby at_92) rfl ?_
              show Steps p.tables e below (T51.setTop (mkF m 94 #[.val (.long p0s), .second, .val (.long p1s), .second, .val (.int p2s), .val (.long zc), .second, .val (.long zm), .second, .val (.long (zc + zm)), .second, .val (.long (zc + zm)), .second] [(.long (zc + zm)), (.long (zc + zm))])) _
              refine XS.lcmp X51.here hx rfl (hb hby at_94) rfl ?_
              show Steps p.tables e below (T51.setTop (mkF m 95 #[.val (.long p0s), .second, .val (.long p1s), .second, .val (.int p2s), .val (.long zc), .second, .val (.long zm), .second, .val (.long (zc + zm)), .second, .val (.long (zc + zm)), .second] [(.int (lcmpW (zc + zm) (zc + zm)))])) _
              refine XS.ifNo X51.here hx rfl (hb hby at_95) rfl (own_l_eq rfl).2 ?_
              show Steps p.tables e below (T51.setTop (mkF m 98 #[.val (.long p0s), .second, .val (.long p1s), .second, .val (.int p2s), .val (.long zc), .second, .val (.long zm), .second, .val (.long (zc + zm)), .second, .val (.long (zc + zm)), .second] [])) _
              refine XS.lload X51.here hx rfl (hb hby at_98) rfl ?_
              show Steps p.tables e below (T51.setTop (mkF m 100 #[.val (.long p0s), .second, .val (.long p1s), .second, .val (.int p2s), .val (.long zc), .second, .val (.long zm), .second, .val (.long (zc + zm)), .second, .val (.long (zc + zm)), .second] [(.long (zc + zm))])) _
              refine XS.lconst X51.here hx rfl (hb hby at_100) ?_
              show Steps p.tables e below (T51.setTop (mkF m 101 #[.val (.long p0s), .second, .val (.long p1s), .second, .val (.int p2s), .val (.long zc), .second, .val (.long zm), .second, .val (.long (zc + zm)), .second, .val (.long (zc + zm)), .second] [(.long (1 : Int64)), (.long (zc + zm))])) _
              refine XS.lcmp X51.here hx rfl (hb hby at_101) rfl ?_
              show Steps p.tables e below (T51.setTop (mkF m 102 #[.val (.long p0s), .second, .val (.long p1s), .second, .val (.int p2s), .val (.long zc), .second, .val (.long zm), .second, .val (.long (zc + zm)), .second, .val (.long (zc + zm)), .second] [(.int (lcmpW (zc + zm) (1 : Int64)))])) _
              refine XS.ifNo X51.here hx rfl (hb hby at_102) rfl (own_l_nlt hc52).1 ?_
              show Steps p.tables e below (T51.setTop (mkF m 105 #[.val (.long p0s), .second, .val (.long p1s), .second, .val (.int p2s), .val (.long zc), .second, .val (.long zm), .second, .val (.long (zc + zm)), .second, .val (.long (zc + zm)), .second] [])) _
              refine XS.lload X51.here hx rfl (hb hby at_105) rfl ?_
              show Steps p.tables e below (T51.setTop (mkF m 107 #[.val (.long p0s), .second, .val (.long p1s), .second, .val (.int p2s), .val (.long zc), .second, .val (.long zm), .second, .val (.long (zc + zm)), .second, .val (.long (zc + zm)), .second] [(.long (zc + zm))])) _
              refine XS.lload X51.here hx rfl (hb hby at_107) rfl ?_
              show Steps p.tables e below (T51.setTop (mkF m 109 #[.val (.long p0s), .second, .val (.long p1s), .second, .val (.int p2s), .val (.long zc), .second, .val (.long zm), .second, .val (.long (zc + zm)), .second, .val (.long (zc + zm)), .second] [(.long zc), (.long (zc + zm))])) _
              refine XS.lcmp X51.here hx rfl (hb hby at_109) rfl ?_
              exact k
            by_cases hc113 : (zc + zm) < zc
            · have r114 : own_R p.tables e below F0 (T51.setTop (mkF m 126 #[.val (.long p0s), .second, .val (.long p1s), .second, .val (.int p2s), .val (.long zc), .second, .val (.long zm), .second, .val (.long (zc + zm)), .second, .val (.long (zc + zm)), .second] [(.int (0 : Int32))])) := fun t k => by
                refine r112 t ?_
                show Steps p.tables e below (T51.setTop (mkF m 110 #[.val (.long p0s), .second, .val (.long p1s), .second, .val (.int p2s), .val (.long zc), .second, .val (.long zm), .second, .val (.long (zc + zm)), .second, .val (.long (zc + zm)), .second] [(.int (lcmpW (zc + zm) zc))])) _
                refine XS.ifYes X51.here hx rfl (pc0 := 110) (pc' := 125) rfl (hb hby at_110) rfl (own_l_lt hc113).1 (by decide) (by decide) ?_
                show Steps p.tables e below (T51.setTop (mkF m 125 #[.val (.long p0s), .second, .val (.long p1s), .second, .val (.int p2s), .val (.long zc), .second, .val (.long zm), .second, .val (.long (zc + zm)), .second, .val (.long (zc + zm)), .second] [])) _
                refine XS.iconst X51.here hx rfl (hb hby at_125) ?_
                exact k
              exfalso
              have q354_r := own_R64 zc
              have q355_r := own_R64 zm
              have q356_r := own_R64 (zc + zm)
              have q357_ := c_ladd zc zm
              have q358_e : (1 : Int64).toInt = 1 := (by decide)
              have q358_r : (1 : Int) ≤ (1 : Int64).toInt ∧ (1 : Int64).toInt ≤ 1 := ⟨Int.le_of_eq q358_e.symm, Int.le_of_eq q358_e⟩
              have q359_e : (0 : Int64).toInt = 0 := (by decide)
              have q359_r : (0 : Int) ≤ (0 : Int64).toInt ∧ (0 : Int64).toInt ≤ 0 := ⟨Int.le_of_eq q359_e.symm, Int.le_of_eq q359_e⟩
              have q360_c := own_nlt64 hc52
              have q361_c := own_ne64 hc89
              have q362_c := own_lt64 hc113
              omega
            · have r115 : own_R p.tables e below F0 (T51.setTop (mkF m 118 #[.val (.long p0s), .second, .val (.long p1s), .second, .val (.int p2s), .val (.long zc), .second, .val (.long zm), .second, .val (.long (zc + zm)), .second, .val (.long (zc + zm)), .second] [(.int (lcmpW (zc + zm) zm))])) := fun t k => by
                refine r112 t ?_
                show Steps p.tables e below (T51.setTop (mkF m 110 #[.val (.long p0s), .second, .val (.long p1s), .second, .val (.int p2s), .val (.long zc), .second, .val (.long zm), .second, .val (.long (zc + zm)), .second, .val (.long (zc + zm)), .second] [(.int (lcmpW (zc + zm) zc))])) _
                refine XS.ifNo X51.here hx rfl (hb hby at_110) rfl (own_l_nlt hc113).1 ?_
                show Steps p.tables e below (T51.setTop (mkF m 113 #[.val (.long p0s), .second, .val (.long p1s), .second, .val (.int p2s), .val (.long zc), .second, .val (.long zm), .second, .val (.long (zc + zm)), .second, .val (.long (zc + zm)), .second] [])) _
                refine XS.lload X51.here hx rfl (hb hby at_113) rfl ?_
                show Steps p.tables e below (T51.setTop (mkF m 115 #[.val (.long p0s), .second, .val (.long p1s), .second, .val (.int p2s), .val (.long zc), .second, .val (.long zm), .second, .val (.long (zc + zm)), .second, .val (.long (zc + zm)), .second] [(.long (zc + zm))])) _
                refine XS.lload X51.here hx rfl (hb hby at_115) rfl ?_
                show Steps p.tables e below (T51.setTop (mkF m 117 #[.val (.long p0s), .second, .val (.long p1s), .second, .val (.int p2s), .val (.long zc), .second, .val (.long zm), .second, .val (.long (zc + zm)), .second, .val (.long (zc + zm)), .second] [(.long zm), (.long (zc + zm))])) _
                refine XS.lcmp X51.here hx rfl (hb hby at_117) rfl ?_
                exact k
              by_cases hc116 : (zc + zm) < zm
              · have r117 : own_R p.tables e below F0 (T51.setTop (mkF m 126 #[.val (.long p0s), .second, .val (.long p1s), .second, .val (.int p2s), .val (.long zc), .second, .val (.long zm), .second, .val (.long (zc + zm)), .second, .val (.long (zc + zm)), .second] [(.int (0 : Int32))])) := fun t k => by
                  refine r115 t ?_
                  show Steps p.tables e below (T51.setTop (mkF m 118 #[.val (.long p0s), .second, .val (.long p1s), .second, .val (.int p2s), .val (.long zc), .second, .val (.long zm), .second, .val (.long (zc + zm)), .second, .val (.long (zc + zm)), .second] [(.int (lcmpW (zc + zm) zm))])) _
                  refine XS.ifYes X51.here hx rfl (pc0 := 118) (pc' := 125) rfl (hb hby at_118) rfl (own_l_lt hc116).1 (by decide) (by decide) ?_
                  show Steps p.tables e below (T51.setTop (mkF m 125 #[.val (.long p0s), .second, .val (.long p1s), .second, .val (.int p2s), .val (.long zc), .second, .val (.long zm), .second, .val (.long (zc + zm)), .second, .val (.long (zc + zm)), .second] [])) _
                  refine XS.iconst X51.here hx rfl (hb hby at_125) ?_
                  exact k
                exfalso
                have q363_r := own_R64 zc
                have q364_r := own_R64 zm
                have q365_r := own_R64 (zc + zm)
                have q366_ := c_ladd zc zm
                have q367_e : (1 : Int64).toInt = 1 := (by decide)
                have q367_r : (1 : Int) ≤ (1 : Int64).toInt ∧ (1 : Int64).toInt ≤ 1 := ⟨Int.le_of_eq q367_e.symm, Int.le_of_eq q367_e⟩
                have q368_e : (0 : Int64).toInt = 0 := (by decide)
                have q368_r : (0 : Int) ≤ (0 : Int64).toInt ∧ (0 : Int64).toInt ≤ 0 := ⟨Int.le_of_eq q368_e.symm, Int.le_of_eq q368_e⟩
                have q369_c := own_nlt64 hc52
                have q370_c := own_ne64 hc89
                have q371_c := own_nlt64 hc113
                have q372_c := own_lt64 hc116
                omega
              · have r118 : own_R p.tables e below F0 (T51.setTop (mkF m 126 #[.val (.long p0s), .second, .val (.long p1s), .second, .val (.int p2s), .val (.long zc), .second, .val (.long zm), .second, .val (.long (zc + zm)), .second, .val (.long (zc + zm)), .second] [(.int (1 : Int32))])) := fun t k => by
                  refine r115 t ?_
                  show Steps p.tables e below (T51.setTop (mkF m 118 #[.val (.long p0s), .second, .val (.long p1s), .second, .val (.int p2s), .val (.long zc), .second, .val (.long zm), .second, .val (.long (zc + zm)), .second, .val (.long (zc + zm)), .second] [(.int (lcmpW (zc + zm) zm))])) _
                  refine XS.ifNo X51.here hx rfl (hb hby at_118) rfl (own_l_nlt hc116).1 ?_
                  show Steps p.tables e below (T51.setTop (mkF m 121 #[.val (.long p0s), .second, .val (.long p1s), .second, .val (.int p2s), .val (.long zc), .second, .val (.long zm), .second, .val (.long (zc + zm)), .second, .val (.long (zc + zm)), .second] [])) _
                  refine XS.iconst X51.here hx rfl (hb hby at_121) ?_
                  show Steps p.tables e below (T51.setTop (mkF m 122 #[.val (.long p0s), .second, .val (.long p1s), .second, .val (.int p2s), .val (.long zc), .second, .val (.long zm), .second, .val (.long (zc + zm)), .second, .val (.long (zc + zm)), .second] [(.int (1 : Int32))])) _
                  refine XS.goto X51.here hx rfl (pc0 := 122) (pc' := 126) rfl (hb hby at_122) (by decide) (by decide) ?_
                  exact k
                refine hG (own_fin X51 hlk (some (.int (nar .boolean (1 : Int32)))) (own_hv Bd.returns) ?_ (by decide) (by decide) (fun fs hr => r118 _ (retN X51 hx (t := .boolean) Bd.returns (by simp) (hb hby at_126) hr)))
                rw [I51_0]
                exact ⟨rfl, N51⟩
      by_cases hc119 : (p2s &&& (2 : Int32)) = (0 : Int32)
      · have r120 : own_R p.tables e below F0 (s₁.setTop (mkF m 38 #[.val (.long p0s), .second, .val (.long p1s), .second, .val (.int p2s), .val (.long zc), .second, .unset, .unset, .unset, .unset, .unset, .unset] [(.long (p1s &&& (1 : Int64)))])) := fun t k => by
          refine r39 t ?_
          show Steps p.tables e below (s₁.setTop (mkF m 24 #[.val (.long p0s), .second, .val (.long p1s), .second, .val (.int p2s), .val (.long zc), .second, .unset, .unset, .unset, .unset, .unset, .unset] [(.int (p2s &&& (2 : Int32)))])) _
          refine XS.ifYes X0.here hx rfl (pc0 := 24) (pc' := 35) rfl (hb hby at_24) rfl ((if0 _ _).trans (teq hc119).1) (by decide) (by decide) ?_
          show Steps p.tables e below (s₁.setTop (mkF m 35 #[.val (.long p0s), .second, .val (.long p1s), .second, .val (.int p2s), .val (.long zc), .second, .unset, .unset, .unset, .unset, .unset, .unset] [])) _
          refine XS.lloadN X0.here hx rfl (hb hby at_35) rfl ?_
          show Steps p.tables e below (s₁.setTop (mkF m 36 #[.val (.long p0s), .second, .val (.long p1s), .second, .val (.int p2s), .val (.long zc), .second, .unset, .unset, .unset, .unset, .unset, .unset] [(.long p1s)])) _
          refine XS.lconst X0.here hx rfl (hb hby at_36) ?_
          show Steps p.tables e below (s₁.setTop (mkF m 37 #[.val (.long p0s), .second, .val (.long p1s), .second, .val (.int p2s), .val (.long zc), .second, .unset, .unset, .unset, .unset, .unset, .unset] [(.long (1 : Int64)), (.long p1s)])) _
          refine XS.land X0.here hx rfl (hb hby at_37) rfl ?_
          exact k
        exact J40 (p1s &&& (1 : Int64)) (by
                    have q373_r := own_R32 p2s
                    have q374_e : (2 : Int32).toInt = 2 := (by decide)
                    have q374_r : (2 : Int) ≤ (2 : Int32).toInt ∧ (2 : Int32).toInt ≤ 2 := ⟨Int.le_of_eq q374_e.symm, Int.le_of_eq q374_e⟩
                    have q375_r := own_R32 (p2s &&& (2 : Int32))
                    have q376_ := c_andS p2s (2 : Int32)
                    have q377_e : (0 : Int32).toInt = 0 := (by decide)
                    have q377_r : (0 : Int) ≤ (0 : Int32).toInt ∧ (0 : Int32).toInt ≤ 0 := ⟨Int.le_of_eq q377_e.symm, Int.le_of_eq q377_e⟩
                    have q378_r := own_R64 p1s
                    have q379_e : (1 : Int64).toInt = 1 := (by decide)
                    have q379_r : (1 : Int) ≤ (1 : Int64).toInt ∧ (1 : Int64).toInt ≤ 1 := ⟨Int.le_of_eq q379_e.symm, Int.le_of_eq q379_e⟩
                    have q380_ := own_maskLR p1s (1 : Int64) 1 2 (by decide) (by decide) (by decide) 1 (by decide) (by decide)
                    have q380_e := q380_.1
                    have q380_r := q380_.2
                    have q381_c := own_eq32 hc119
                    omega) r120
      · have r121 : own_R p.tables e below F0 (s₁.setTop (mkF m 38 #[.val (.long p0s), .second, .val (.long p1s), .second, .val (.int p2s), .val (.long zc), .second, .unset, .unset, .unset, .unset, .unset, .unset] [(.long (p1s &&& (4611686018427387903 : Int64)))])) := fun t k => by
          refine r39 t ?_
          show Steps p.tables e below (s₁.setTop (mkF m 24 #[.val (.long p0s), .second, .val (.long p1s), .second, .val (.int p2s), .val (.long zc), .second, .unset, .unset, .unset, .unset, .unset, .unset] [(.int (p2s &&& (2 : Int32)))])) _
          refine XS.ifNo X0.here hx rfl (hb hby at_24) rfl ((if0 _ _).trans (feq hc119).1) ?_
          show Steps p.tables e below (s₁.setTop (mkF m 27 #[.val (.long p0s), .second, .val (.long p1s), .second, .val (.int p2s), .val (.long zc), .second, .unset, .unset, .unset, .unset, .unset, .unset] [])) _
          refine XS.lloadN X0.here hx rfl (hb hby at_27) rfl ?_
          show Steps p.tables e below (s₁.setTop (mkF m 28 #[.val (.long p0s), .second, .val (.long p1s), .second, .val (.int p2s), .val (.long zc), .second, .unset, .unset, .unset, .unset, .unset, .unset] [(.long p1s)])) _
          refine X0.ldc2J hx hown (mvT hZ (hw _ (List.mem_of_getElem? (i := 27) rfl))) rfl (hb hby at_28) ?_
          show Steps p.tables e below (s₁.setTop (mkF m 31 #[.val (.long p0s), .second, .val (.long p1s), .second, .val (.int p2s), .val (.long zc), .second, .unset, .unset, .unset, .unset, .unset, .unset] [(.long (4611686018427387903 : Int64)), (.long p1s)])) _
          refine XS.land X0.here hx rfl (hb hby at_31) rfl ?_
          show Steps p.tables e below (s₁.setTop (mkF m 32 #[.val (.long p0s), .second, .val (.long p1s), .second, .val (.int p2s), .val (.long zc), .second, .unset, .unset, .unset, .unset, .unset, .unset] [(.long (p1s &&& (4611686018427387903 : Int64)))])) _
          refine XS.goto X0.here hx rfl (pc0 := 32) (pc' := 38) rfl (hb hby at_32) (by decide) (by decide) ?_
          exact k
        exact J40 (p1s &&& (4611686018427387903 : Int64)) (by
                    have q382_r := own_R32 p2s
                    have q383_e : (2 : Int32).toInt = 2 := (by decide)
                    have q383_r : (2 : Int) ≤ (2 : Int32).toInt ∧ (2 : Int32).toInt ≤ 2 := ⟨Int.le_of_eq q383_e.symm, Int.le_of_eq q383_e⟩
                    have q384_r := own_R32 (p2s &&& (2 : Int32))
                    have q385_ := c_andS p2s (2 : Int32)
                    have q386_e : (0 : Int32).toInt = 0 := (by decide)
                    have q386_r : (0 : Int) ≤ (0 : Int32).toInt ∧ (0 : Int32).toInt ≤ 0 := ⟨Int.le_of_eq q386_e.symm, Int.le_of_eq q386_e⟩
                    have q387_r := own_R64 p1s
                    have q388_e : (4611686018427387903 : Int64).toInt = 4611686018427387903 := (by decide)
                    have q388_r : (4611686018427387903 : Int) ≤ (4611686018427387903 : Int64).toInt ∧ (4611686018427387903 : Int64).toInt ≤ 4611686018427387903 := ⟨Int.le_of_eq q388_e.symm, Int.le_of_eq q388_e⟩
                    have q389_ := own_maskLR p1s (4611686018427387903 : Int64) 62 4611686018427387904 (by decide) (by decide) (by decide) 4611686018427387903 (by decide) (by decide)
                    have q389_e := q389_.1
                    have q389_r := q389_.2
                    have q390_c := own_ne32 hc119
                    omega) r121
    by_cases hc122 : (p2s &&& (1 : Int32)) = (0 : Int32)
    · have r123 : own_R p.tables e below F0 (s₁.setTop (mkF m 18 #[.val (.long p0s), .second, .val (.long p1s), .second, .val (.int p2s), .unset, .unset, .unset, .unset, .unset, .unset, .unset, .unset] [(.long (p0s &&& (1 : Int64)))])) := fun t k => by
        refine r36 t ?_
        show Steps p.tables e below (s₁.setTop (mkF m 4 #[.val (.long p0s), .second, .val (.long p1s), .second, .val (.int p2s), .unset, .unset, .unset, .unset, .unset, .unset, .unset, .unset] [(.int (p2s &&& (1 : Int32)))])) _
        refine XS.ifYes X0.here hx rfl (pc0 := 4) (pc' := 15) rfl (hb hby at_4) rfl ((if0 _ _).trans (teq hc122).1) (by decide) (by decide) ?_
        show Steps p.tables e below (s₁.setTop (mkF m 15 #[.val (.long p0s), .second, .val (.long p1s), .second, .val (.int p2s), .unset, .unset, .unset, .unset, .unset, .unset, .unset, .unset] [])) _
        refine XS.lloadN X0.here hx rfl (hb hby at_15) rfl ?_
        show Steps p.tables e below (s₁.setTop (mkF m 16 #[.val (.long p0s), .second, .val (.long p1s), .second, .val (.int p2s), .unset, .unset, .unset, .unset, .unset, .unset, .unset, .unset] [(.long p0s)])) _
        refine XS.lconst X0.here hx rfl (hb hby at_16) ?_
        show Steps p.tables e below (s₁.setTop (mkF m 17 #[.val (.long p0s), .second, .val (.long p1s), .second, .val (.int p2s), .unset, .unset, .unset, .unset, .unset, .unset, .unset, .unset] [(.long (1 : Int64)), (.long p0s)])) _
        refine XS.land X0.here hx rfl (hb hby at_17) rfl ?_
        exact k
      exact J37 (p0s &&& (1 : Int64)) (by
                have q391_r := own_R32 p2s
                have q392_e : (1 : Int32).toInt = 1 := (by decide)
                have q392_r : (1 : Int) ≤ (1 : Int32).toInt ∧ (1 : Int32).toInt ≤ 1 := ⟨Int.le_of_eq q392_e.symm, Int.le_of_eq q392_e⟩
                have q393_ := own_maskR p2s (1 : Int32) 1 2 (by decide) (by decide) (by decide) 1 (by decide) (by decide)
                have q393_e := q393_.1
                have q393_r := q393_.2
                have q394_e : (0 : Int32).toInt = 0 := (by decide)
                have q394_r : (0 : Int) ≤ (0 : Int32).toInt ∧ (0 : Int32).toInt ≤ 0 := ⟨Int.le_of_eq q394_e.symm, Int.le_of_eq q394_e⟩
                have q395_r := own_R64 p0s
                have q396_e : (1 : Int64).toInt = 1 := (by decide)
                have q396_r : (1 : Int) ≤ (1 : Int64).toInt ∧ (1 : Int64).toInt ≤ 1 := ⟨Int.le_of_eq q396_e.symm, Int.le_of_eq q396_e⟩
                have q397_ := own_maskLR p0s (1 : Int64) 1 2 (by decide) (by decide) (by decide) 1 (by decide) (by decide)
                have q397_e := q397_.1
                have q397_r := q397_.2
                have q398_c := own_eq32 hc122
                omega) r123
    · have r124 : own_R p.tables e below F0 (s₁.setTop (mkF m 18 #[.val (.long p0s), .second, .val (.long p1s), .second, .val (.int p2s), .unset, .unset, .unset, .unset, .unset, .unset, .unset, .unset] [(.long (p0s &&& (4611686018427387903 : Int64)))])) := fun t k => by
        refine r36 t ?_
        show Steps p.tables e below (s₁.setTop (mkF m 4 #[.val (.long p0s), .second, .val (.long p1s), .second, .val (.int p2s), .unset, .unset, .unset, .unset, .unset, .unset, .unset, .unset] [(.int (p2s &&& (1 : Int32)))])) _
        refine XS.ifNo X0.here hx rfl (hb hby at_4) rfl ((if0 _ _).trans (feq hc122).1) ?_
        show Steps p.tables e below (s₁.setTop (mkF m 7 #[.val (.long p0s), .second, .val (.long p1s), .second, .val (.int p2s), .unset, .unset, .unset, .unset, .unset, .unset, .unset, .unset] [])) _
        refine XS.lloadN X0.here hx rfl (hb hby at_7) rfl ?_
        show Steps p.tables e below (s₁.setTop (mkF m 8 #[.val (.long p0s), .second, .val (.long p1s), .second, .val (.int p2s), .unset, .unset, .unset, .unset, .unset, .unset, .unset, .unset] [(.long p0s)])) _
        refine X0.ldc2J hx hown (mvT hZ (hw _ (List.mem_of_getElem? (i := 27) rfl))) rfl (hb hby at_8) ?_
        show Steps p.tables e below (s₁.setTop (mkF m 11 #[.val (.long p0s), .second, .val (.long p1s), .second, .val (.int p2s), .unset, .unset, .unset, .unset, .unset, .unset, .unset, .unset] [(.long (4611686018427387903 : Int64)), (.long p0s)])) _
        refine XS.land X0.here hx rfl (hb hby at_11) rfl ?_
        show Steps p.tables e below (s₁.setTop (mkF m 12 #[.val (.long p0s), .second, .val (.long p1s), .second, .val (.int p2s), .unset, .unset, .unset, .unset, .unset, .unset, .unset, .unset] [(.long (p0s &&& (4611686018427387903 : Int64)))])) _
        refine XS.goto X0.here hx rfl (pc0 := 12) (pc' := 18) rfl (hb hby at_12) (by decide) (by decide) ?_
        exact k
      exact J37 (p0s &&& (4611686018427387903 : Int64)) (by
                have q399_r := own_R32 p2s
                have q400_e : (1 : Int32).toInt = 1 := (by decide)
                have q400_r : (1 : Int) ≤ (1 : Int32).toInt ∧ (1 : Int32).toInt ≤ 1 := ⟨Int.le_of_eq q400_e.symm, Int.le_of_eq q400_e⟩
                have q401_ := own_maskR p2s (1 : Int32) 1 2 (by decide) (by decide) (by decide) 1 (by decide) (by decide)
                have q401_e := q401_.1
                have q401_r := q401_.2
                have q402_e : (0 : Int32).toInt = 0 := (by decide)
                have q402_r : (0 : Int) ≤ (0 : Int32).toInt ∧ (0 : Int32).toInt ≤ 0 := ⟨Int.le_of_eq q402_e.symm, Int.le_of_eq q402_e⟩
                have q403_r := own_R64 p0s
                have q404_e : (4611686018427387903 : Int64).toInt = 4611686018427387903 := (by decide)
                have q404_r : (4611686018427387903 : Int) ≤ (4611686018427387903 : Int64).toInt ∧ (4611686018427387903 : Int64).toInt ≤ 4611686018427387903 := ⟨Int.le_of_eq q404_e.symm, Int.le_of_eq q404_e⟩
                have q405_ := own_maskLR p0s (4611686018427387903 : Int64) 62 4611686018427387904 (by decide) (by decide) (by decide) 4611686018427387903 (by decide) (by decide)
                have q405_e := q405_.1
                have q405_r := q405_.2
                have q406_c := own_ne32 hc122
                omega) r124
  exact key _ _ id (fun t k => castTop (ef_0 m p0s p1s p2s) k)
set_option maxRecDepth 65536 in
set_option maxHeartbeats 40000000 in
theorem comes_1 {Post : Tables → Env → Array Value → State → Outcome → State → Prop} (hpost : ∀ tb e args s v u, (limb_1_1.after args s (.returned v) u = true ∧ limb_1_2.after args s (.returned v) u = true ∧ True) → FrameEnd s (.returned v) u (Jvm.fieldLocs frame_1_writes args s ++ Jvm.arrayLocs frame_1_arrays args s ++ Jvm.staticLocs frame_1_statics s) 16 128 → Post tb e args s (.returned v) u) :
    ArmFor flags0 classFile x code maxLocals ret World_1 tables_1 room_1 Calls_1 rest_1 Pre_1 Post := by
  intro l hfl _ _ p e ha hc hk s m args below hf hA hF happ hP
  obtain ⟨hcalls, hrest, hpre⟩ := hP
  obtain ⟨-, -, -, hnamed, -, -, -, hat⟩ := (Spec.applies_iff hf).mp happ
  obtain ⟨hg, hn⟩ := and_e (Cond.before_iff.mp (show (Jvm.Cond.and given_1 narrow_1).before args s = true from hpre))
  obtain ⟨gw1, gw2⟩ := and_e hg
  obtain ⟨gw3, gw4⟩ := and_e gw2
  obtain ⟨gw5, gw6⟩ := and_e gw4
  obtain ⟨w0, w1, w2, rfl⟩ : ∃ w0 w1 w2 : Value, args = #[w0, w1, w2] := by
    have hs : args.size = 3 := by simpa [Cond.value, given_1] using gw1
    obtain ⟨L⟩ := args
    match L, hs with
    | [w0, w1, w2], _ => exact ⟨w0, w1, w2, rfl⟩
  have hw := fun d (hd : d ∈ tables_1) => atoms_spec (ws := Jvm.Cond.code x code maxLocals ret :: tables_1) hat d (List.mem_cons_of_mem _ hd)
  have hfit : Fit s := fun {y c} hc i hi => by
    obtain ⟨ha, rfl⟩ := Array.getElem?_eq_some_iff.mp hc
    have q := List.all_eq_true.mp ((Array.all_eq_true_iff_forall_mem.mp hF) _ (Array.getElem_mem ha)) i (List.mem_range.mpr hi)
    simpa [Array.getElem?_eq_getElem hi] using q
  obtain ⟨i0, ei0⟩ := isL_v gw3
  obtain rfl : w0 = (.long i0) := Option.some.inj ei0
  obtain ⟨i1, ei1⟩ := isL_v gw5
  obtain rfl : w1 = (.long i1) := Option.some.inj ei1
  obtain ⟨i2, ei2⟩ := is_v gw6
  obtain rfl : w2 = (.int i2) := Option.some.inj ei2
  obtain ⟨n, o, h1, h2, h3, _, L, rfl, ⟨rfl, N⟩, hq⟩ := rm0 l s _ hw tables_1 i0 i1 i2  s.heap s.heap.size (Nat.le_refl _)  p e ha hc hk s m _ below hf ((Spec.applies_iff_loose hf).mp happ).1 ⟨rfl, State.Warmed39.refl s, rfl⟩ trivial
  refine ⟨n, _, h1, h2, h3, hpost _ _ _ _ _ _ ⟨Cond.after_iff.mpr rfl, Cond.after_iff.mpr (eq_i res_at (Term.int_eval (1)) rfl), trivial⟩ ⟨hq.1, hq.2.1, (hq.2.2.sift fun y hy => Or.inr (N y hy)).mono (by decide) (by decide)⟩⟩
theorem main_1_1 : Claimed_1_1 := comes_1 fun _ _ _ _ _ _ h hF => ⟨h.1, hF⟩
theorem main_1_2 : Claimed_1_2 := comes_1 fun _ _ _ _ _ _ h hF => ⟨h.2.1, hF⟩
end Jvm.Pilot.@@N@@
namespace Jvm.Pilot.@@N@@
open Jvm Jvm.ClassFile Sem Op Lib Jvm.Free Jvm.Stand Jvm.Pilot.@@N@@.Jvm.D
/-! MADE BY PROGRAM (witnessworld.py) out of the Statement's table words and the real class files: 11 classes; the members and pool entries that the words name. The judged class is class 1, her method 1. -/
namespace start1
open Jvm.ClassFile
def u (s : String) : CpInfo := .utf8 (stringToUtf16 s)
/-- a pool by its gaps: so many unusable entries, then the entry; so many at the end -/
def gap : Nat → List CpInfo → List CpInfo
  | 0, r => r
  | n + 1, r => .unusable :: gap n r
def poolList (es : List (Nat × CpInfo)) (last : Nat) : List CpInfo := es.foldr (fun e r => gap e.1 (e.2 :: r)) (gap last [])
def pool (es : List (Nat × CpInfo)) (last : Nat) : Array CpInfo := ⟨poolList es last⟩
def fileOf (pool : Array CpInfo) (this : Nat) (attrs : Array Attribute := #[]) (ms : Array MethodInfo := #[]) (fl : Nat := 33) (sup : Nat := 0) (ifs : Array Nat := #[]) (fds : Array FieldInfo := #[]) : ClassFile where
  minorVersion := 0
  majorVersion := 65
  constantPool := pool
  accessFlags := fl
  thisClass := this
  superClass := sup
  interfaces := ifs
  fields := fds
  methods := ms
  attributes := attrs
def plain (name : String) (sup : Option ClassId) : Class where
  name := name
  kind := .ordinary
  loader := none
  accessFlags := 33
  super := sup
  interfaces := #[]
  cf := none
  fields := #[]
  methods := #[]
  instanceTypes := #[]
  staticTypes := #[]
  resolved := #[]
  callSites := []
  init := .initialized
  statics := none
  mirror := none

def pool0 : Array CpInfo := pool [(5, u "<init>"), (0, u "()V"), (1, .class_ 10), (1, u "java/lang/Object")] 113

def k0c0 : Code := { maxStack := 0, maxLocals := 1, code := object_method_1_code, exceptionTable := #[], attributes := #[] }
def k0m0 : Method := { name := "<init>", desc := "()V", sig := { parameters := [], returnType := none }, accessFlags := 1, code := some k0c0 }
/-- java/lang/Object -/
def k0 : Class := { plain "java/lang/Object" none with
  accessFlags := 33
  interfaces := #[]
  cf := some (fileOf pool0 8 #[] #[{ accessFlags := 1, nameIndex := 5, descriptorIndex := 6, attributes := #[] }] 33 0 #[] #[])
  fields := #[]
  methods := #[k0m0]
  instanceTypes := #[]
  staticTypes := #[]
  resolved := Array.replicate 124 none
  statics := none }

def pool1 : Array CpInfo := pool [(2, .class_ 4), (1, u "java/lang/Object"), (0, u "<init>"), (0, u "()V"), (0, .class_ 8), (0, u "com/example/ballast/ballast/coverage/LineCoverageWholePinLaw"), (0, .long 4611686018427387903), (1, .class_ 12), (0, u "com/example/ballast/ballast/coverage/LineCoverage"), (0, .methodref 11 14), (0, .nameAndType 5 15), (0, u "(JJ)V"), (0, .methodref 11 17), (0, .nameAndType 18 19), (0, u "whole"), (0, u "()J"), (0, u "HALF"), (0, u "J"), (3, u "law"), (0, u "(JJI)Z")] 3

def k1m0 : Method := { name := "<init>", desc := "()V", sig := { parameters := [], returnType := none }, accessFlags := 2, code := none }
def k1c1 : Code := { maxStack := 6, maxLocals := 13, code := code, exceptionTable := #[], attributes := #[] }
def k1m1 : Method := { name := "law", desc := "(JJI)Z", sig := { parameters := [.long, .long, .int], returnType := some .boolean }, accessFlags := 9, code := some k1c1 }
/-- com/example/ballast/ballast/coverage/LineCoverageWholePinLaw -/
def k1 : Class := { plain "com/example/ballast/ballast/coverage/LineCoverageWholePinLaw" (some 0) with
  accessFlags := 49
  interfaces := #[]
  cf := some (fileOf pool1 7 #[] #[{ accessFlags := 2, nameIndex := 5, descriptorIndex := 6, attributes := #[] }, { accessFlags := 9, nameIndex := 25, descriptorIndex := 26, attributes := #[] }] 49 2 #[] #[{ accessFlags := 26, nameIndex := 20, descriptorIndex := 21, attributes := #[] }])
  fields := #[{ name := "HALF", type := .long, accessFlags := 26, slot := 0, constantValue := 0 }]
  methods := #[k1m0, k1m1]
  instanceTypes := #[]
  staticTypes := #[.long]
  resolved := Array.replicate 30 none
  statics := none }

def pool2 : Array CpInfo := pool [(1, .methodref 2 3), (0, .class_ 4), (0, .nameAndType 5 6), (0, u "java/lang/Object"), (0, u "<init>"), (0, u "()V"), (0, .class_ 8), (0, u "java/lang/Record")] 13

def k2c0 : Code := { maxStack := 1, maxLocals := 1, code := jdk_30_method_1_code, exceptionTable := #[], attributes := #[] }
def k2m0 : Method := { name := "<init>", desc := "()V", sig := { parameters := [], returnType := none }, accessFlags := 4, code := some k2c0 }
/-- java/lang/Record -/
def k2 : Class := { plain "java/lang/Record" (some 0) with
  accessFlags := 1057
  interfaces := #[]
  cf := some (fileOf pool2 7 #[] #[{ accessFlags := 4, nameIndex := 5, descriptorIndex := 6, attributes := #[] }] 1057 2 #[] #[])
  fields := #[]
  methods := #[k2m0]
  instanceTypes := #[]
  staticTypes := #[]
  resolved := Array.replicate 22 none
  statics := none }

def pool3 : Array CpInfo := pool [(1, .methodref 2 3), (0, .class_ 4), (0, .nameAndType 5 6), (0, u "java/lang/Record"), (0, u "<init>"), (0, u "()V"), (0, .fieldref 8 9), (0, .class_ 10), (0, .nameAndType 11 12), (0, u "com/example/ballast/ballast/coverage/LineCoverage"), (0, u "covered"), (0, u "J"), (0, .fieldref 8 14), (0, .nameAndType 15 12), (0, u "missed"), (2, u "(JJ)V"), (0, .methodref 20 21), (0, .class_ 22), (0, .nameAndType 23 24), (0, u "java/lang/Math"), (0, u "max"), (0, u "(JJ)J"), (8, u "whole"), (0, u "()J"), (32, u "NONE"), (0, u "Lcom/example/ballast/ballast/coverage/LineCoverage;")] 33

def k3c0 : Code := { maxStack := 3, maxLocals := 5, code := prog_5_method_1_code, exceptionTable := #[], attributes := #[] }
def k3m0 : Method := { name := "<init>", desc := "(JJ)V", sig := { parameters := [.long, .long], returnType := none }, accessFlags := 1, code := some k3c0 }
def k3c1 : Code := { maxStack := 4, maxLocals := 1, code := prog_5_method_3_code, exceptionTable := #[], attributes := #[] }
def k3m1 : Method := { name := "whole", desc := "()J", sig := { parameters := [], returnType := some .long }, accessFlags := 1, code := some k3c1 }
/-- com/example/ballast/ballast/coverage/LineCoverage -/
def k3 : Class := { plain "com/example/ballast/ballast/coverage/LineCoverage" (some 2) with
  accessFlags := 49
  interfaces := #[]
  cf := some (fileOf pool3 8 #[] #[{ accessFlags := 1, nameIndex := 5, descriptorIndex := 18, attributes := #[] }, { accessFlags := 1, nameIndex := 33, descriptorIndex := 34, attributes := #[] }] 49 2 #[] #[{ accessFlags := 18, nameIndex := 11, descriptorIndex := 12, attributes := #[] }, { accessFlags := 18, nameIndex := 15, descriptorIndex := 12, attributes := #[] }, { accessFlags := 25, nameIndex := 67, descriptorIndex := 68, attributes := #[] }])
  fields := #[{ name := "covered", type := .long, accessFlags := 18, slot := 0, constantValue := 0 }, { name := "missed", type := .long, accessFlags := 18, slot := 1, constantValue := 0 }, { name := "NONE", type := (.object "com/example/ballast/ballast/coverage/LineCoverage"), accessFlags := 25, slot := 0, constantValue := 0 }]
  methods := #[k3m0, k3m1]
  instanceTypes := #[.long, .long]
  staticTypes := #[(.object "com/example/ballast/ballast/coverage/LineCoverage")]
  resolved := Array.replicate 102 none
  statics := none }

def pool4 : Array CpInfo := pool [(1, .class_ 2), (0, u "java/lang/Math"), (1, .class_ 6), (1, u "java/lang/Object"), (0, u "<init>"), (0, u "()V"), (89, .class_ 100), (1, u "java/lang/Math$RandomNumberGeneratorHolder"), (20, u "(JJ)J"), (50, u "negativeZeroFloatBits"), (0, u "J"), (2, u "negativeZeroDoubleBits"), (21, u "max"), (46, u "$assertionsDisabled"), (0, u "Z"), (91, u "twoToTheDoubleScaleDown"), (0, u "D"), (4, u "twoToTheDoubleScaleUp"), (9, u "E"), (3, u "PI"), (2, u "TAU"), (2, u "DEGREES_TO_RADIANS"), (0, u "RADIANS_TO_DEGREES")] 94

def k4m0 : Method := { name := "<init>", desc := "()V", sig := { parameters := [], returnType := none }, accessFlags := 2, code := none }
def k4c1 : Code := { maxStack := 4, maxLocals := 4, code := jdk_29_method_66_code, exceptionTable := #[], attributes := #[] }
def k4m1 : Method := { name := "max", desc := "(JJ)J", sig := { parameters := [.long, .long], returnType := some .long }, accessFlags := 9, code := some k4c1 }
/-- java/lang/Math -/
def k4 : Class := { plain "java/lang/Math" (some 0) with
  accessFlags := 49
  interfaces := #[]
  cf := some (fileOf pool4 1 #[.nestMembers #[98]] #[{ accessFlags := 2, nameIndex := 7, descriptorIndex := 8, attributes := #[] }, { accessFlags := 9, nameIndex := 198, descriptorIndex := 121, attributes := #[] }] 49 4 #[] #[{ accessFlags := 25, nameIndex := 354, descriptorIndex := 339, attributes := #[] }, { accessFlags := 25, nameIndex := 358, descriptorIndex := 339, attributes := #[] }, { accessFlags := 25, nameIndex := 361, descriptorIndex := 339, attributes := #[] }, { accessFlags := 26, nameIndex := 364, descriptorIndex := 339, attributes := #[] }, { accessFlags := 26, nameIndex := 365, descriptorIndex := 339, attributes := #[] }, { accessFlags := 26, nameIndex := 172, descriptorIndex := 173, attributes := #[] }, { accessFlags := 26, nameIndex := 176, descriptorIndex := 173, attributes := #[] }, { accessFlags := 8, nameIndex := 344, descriptorIndex := 339, attributes := #[] }, { accessFlags := 8, nameIndex := 338, descriptorIndex := 339, attributes := #[] }, { accessFlags := 4120, nameIndex := 245, descriptorIndex := 246, attributes := #[] }])
  fields := #[{ name := "E", type := .double, accessFlags := 25, slot := 0, constantValue := 0 }, { name := "PI", type := .double, accessFlags := 25, slot := 1, constantValue := 0 }, { name := "TAU", type := .double, accessFlags := 25, slot := 2, constantValue := 0 }, { name := "DEGREES_TO_RADIANS", type := .double, accessFlags := 26, slot := 3, constantValue := 0 }, { name := "RADIANS_TO_DEGREES", type := .double, accessFlags := 26, slot := 4, constantValue := 0 }, { name := "negativeZeroFloatBits", type := .long, accessFlags := 26, slot := 5, constantValue := 0 }, { name := "negativeZeroDoubleBits", type := .long, accessFlags := 26, slot := 6, constantValue := 0 }, { name := "twoToTheDoubleScaleUp", type := .double, accessFlags := 8, slot := 7, constantValue := 0 }, { name := "twoToTheDoubleScaleDown", type := .double, accessFlags := 8, slot := 8, constantValue := 0 }, { name := "$assertionsDisabled", type := .boolean, accessFlags := 4120, slot := 9, constantValue := 0 }]
  methods := #[k4m0, k4m1]
  instanceTypes := #[]
  staticTypes := #[.double, .double, .double, .double, .double, .long, .long, .double, .double, .boolean]
  resolved := Array.replicate 460 none
  statics := none }

def pool5 : Array CpInfo := pool [(1, u "java/lang/Cloneable"), (0, .class_ 1), (0, u "java/lang/Object"), (0, .class_ 3)] 3

/-- java/lang/Cloneable -/
def k5 : Class := { plain "java/lang/Cloneable" (some 0) with
  accessFlags := 1537
  interfaces := #[]
  cf := some (fileOf pool5 2 #[] #[] 1537 4 #[] #[])
  fields := #[]
  methods := #[]
  instanceTypes := #[]
  staticTypes := #[]
  resolved := Array.replicate 8 none
  statics := none }

def pool6 : Array CpInfo := pool [(1, u "java/io/Serializable"), (0, .class_ 1), (0, u "java/lang/Object"), (0, .class_ 3)] 3

/-- java/io/Serializable -/
def k6 : Class := { plain "java/io/Serializable" (some 0) with
  accessFlags := 1537
  interfaces := #[]
  cf := some (fileOf pool6 2 #[] #[] 1537 4 #[] #[])
  fields := #[]
  methods := #[]
  instanceTypes := #[]
  staticTypes := #[]
  resolved := Array.replicate 8 none
  statics := none }

/-- the primitive byte -/
def k7 : Class := { plain "byte" none with kind := .primitive 'B', accessFlags := 0x411 }
/-- [B -/
def k8 : Class := { plain "[B" (some 0) with kind := .array 7 .byte, interfaces := #[5, 6], accessFlags := 1041 }

/-- the primitive int -/
def k9 : Class := { plain "int" none with kind := .primitive 'I', accessFlags := 0x411 }
/-- [I -/
def k10 : Class := { plain "[I" (some 0) with kind := .array 9 .int, interfaces := #[5, 6], accessFlags := 1041 }

def heap : Heap := #[]
def classes : Array Class := #[k0, k1, k2, k3, k4, k5, k6, k7, k8, k9, k10]
def interned : List (Array UInt16 × Addr) := []
def slotsUsed : Nat := 0
def theMethod : MethodId := ⟨1, 1⟩
def args0 : Array Value := #[.long 5, .long 3, .int 3]
def aboutOver (below : List Frame) : State where
  vm := { classes := classes, interned := interned.toArray }
  heap := heap
  slotsUsed := slotsUsed
  threads := #[{ frames := .invoking theMethod args0 :: below }]
def below0 : List Frame := [.native { method := ⟨0, 0⟩, args := #[] }]
def about1 : State := aboutOver below0
def p0 : Program := .bare "" "" ""
def e0 : Env := launch0.env 0 0 0
theorem w_frames : about1.frames = Frame.invoking theMethod args0 :: below0 := rfl
set_option maxRecDepth 65536 in
theorem w_args : argsFit about1.vm theMethod args0 = true := by decide +kernel
set_option maxRecDepth 65536 in
theorem w_heap : heapFits about1 = true := by decide +kernel
set_option maxRecDepth 65536 in
theorem w_runnable : about1.curStatus? = some .runnable := by decide +kernel
set_option maxRecDepth 65536 in
theorem w_alone : about1.alone = true := by decide +kernel
set_option maxRecDepth 65536 in
theorem w_named : about1.methodNamed? x = some theMethod := by decide +kernel
set_option maxRecDepth 65536 in
theorem w_hears : about1.hears theMethod below0 = true := by decide +kernel
set_option maxRecDepth 65536 in
theorem w_ripe : about1.ripe theMethod args0 below0 = true := by decide +kernel
theorem w_running : about1.status = .running := rfl
set_option maxRecDepth 65536 in
theorem w_room : about1.hasRoom e0.platform room_1 = true :=
  launch0.hasRoom_least _ room_1 (by decide +kernel) (by decide +kernel) (by decide +kernel) (by decide +kernel) (by decide +kernel) (by decide +kernel)
theorem allAtoms_all (ts : List Jvm.Cond) (a : Array Jvm.Value) (st : Jvm.State) : (allAtoms ts).before a st = ts.all (fun c => c.before a st) := by
  induction ts with
  | nil => rfl
  | cons c t ih =>
    show (Jvm.Cond.and c (allAtoms t)).before a st = _
    rw [Jvm.Cond.before_and, ih, List.all_cons]
def words1 : List Jvm.Cond := Jvm.Cond.code x code maxLocals ret :: tables_1
/-- a 'code' word, met by the world's own term for the bytes: nothing is compared byte by byte -/
theorem code_word {y : MethodName} {bytes : ByteArray} {mx : Nat} {rt : Option FieldType} {a : Array Value} {s : State} {m : MethodId} {meth : Method} {c : Code} (h1 : s.methodNamed? y = some m) (h2 : s.vm.method? m = some meth) (h3 : meth.code = some c) (h4 : c.code = bytes)
    (h5 : (c.maxLocals == mx && c.exceptionTable.isEmpty && decide (c.maxStack ≤ mostOperands) && decide (meth.sig.returnType = rt) && !meth.locks && decide (parseMethodDescriptor y.desc = some meth.sig)) = true) : (Jvm.Cond.code y bytes mx rt).before a s = true := by
  simp only [Bool.and_eq_true, beq_iff_eq, Bool.not_eq_true', decide_eq_true_eq] at h5
  obtain ⟨⟨⟨⟨⟨g1, g2⟩, g3⟩, g4⟩, g5⟩, g6⟩ := h5
  simp [Cond.before, Cond.holds, Cond.value, h1, h2, h3, h4, g1, g2, g3, g4, g5, g6]
def isCode : Jvm.Cond → Bool
  | .code _ _ _ _ => true
  | _ => false
theorem all_split {L : List Jvm.Cond} {P : Jvm.Cond → Bool} (h1 : L.all (fun c => isCode c || P c) = true) (h2 : ∀ c ∈ L.filter isCode, P c = true) : L.all P = true := by
  refine List.all_eq_true.mpr fun c hc => ?_
  have h := List.all_eq_true.mp h1 c hc
  rcases Bool.eq_false_or_eq_true (isCode c) with hi | hi
  · exact h2 c (List.mem_filter.mpr ⟨hc, hi⟩)
  · simpa [hi] using h
set_option maxRecDepth 65536 in
theorem w_c0 : (Jvm.Cond.code x code maxLocals ret).before args0 about1 = true := code_word (m := ⟨1, 1⟩) (meth := k1m1) (c := k1c1) (by decide +kernel) rfl rfl rfl (by decide +kernel)
set_option maxRecDepth 65536 in
theorem w_c1 : (Jvm.Cond.code ({ cls := "com/example/ballast/ballast/coverage/LineCoverage", name := "<init>", desc := "(JJ)V" } : Jvm.MethodName) prog_5_method_1_code (5 : Nat) (Option.none : Option Jvm.ClassFile.FieldType)).before args0 about1 = true := code_word (m := ⟨3, 0⟩) (meth := k3m0) (c := k3c0) (by decide +kernel) rfl rfl rfl (by decide +kernel)
set_option maxRecDepth 65536 in
theorem w_c2 : (Jvm.Cond.code ({ cls := "java/lang/Record", name := "<init>", desc := "()V" } : Jvm.MethodName) jdk_30_method_1_code (1 : Nat) (Option.none : Option Jvm.ClassFile.FieldType)).before args0 about1 = true := code_word (m := ⟨2, 0⟩) (meth := k2m0) (c := k2c0) (by decide +kernel) rfl rfl rfl (by decide +kernel)
set_option maxRecDepth 65536 in
theorem w_c3 : (Jvm.Cond.code ({ cls := "java/lang/Object", name := "<init>", desc := "()V" } : Jvm.MethodName) object_method_1_code (1 : Nat) (Option.none : Option Jvm.ClassFile.FieldType)).before args0 about1 = true := code_word (m := ⟨0, 0⟩) (meth := k0m0) (c := k0c0) (by decide +kernel) rfl rfl rfl (by decide +kernel)
set_option maxRecDepth 65536 in
theorem w_c4 : (Jvm.Cond.code ({ cls := "com/example/ballast/ballast/coverage/LineCoverage", name := "whole", desc := "()J" } : Jvm.MethodName) prog_5_method_3_code (1 : Nat) (Option.some Jvm.ClassFile.FieldType.long)).before args0 about1 = true := code_word (m := ⟨3, 1⟩) (meth := k3m1) (c := k3c1) (by decide +kernel) rfl rfl rfl (by decide +kernel)
set_option maxRecDepth 65536 in
theorem w_c5 : (Jvm.Cond.code ({ cls := "java/lang/Math", name := "max", desc := "(JJ)J" } : Jvm.MethodName) jdk_29_method_66_code (4 : Nat) (Option.some Jvm.ClassFile.FieldType.long)).before args0 about1 = true := code_word (m := ⟨4, 1⟩) (meth := k4m1) (c := k4c1) (by decide +kernel) rfl rfl rfl (by decide +kernel)
def codes1 : List Jvm.Cond := [Jvm.Cond.code x code maxLocals ret, Jvm.Cond.code ({ cls := "com/example/ballast/ballast/coverage/LineCoverage", name := "<init>", desc := "(JJ)V" } : Jvm.MethodName) prog_5_method_1_code (5 : Nat) (Option.none : Option Jvm.ClassFile.FieldType), Jvm.Cond.code ({ cls := "java/lang/Record", name := "<init>", desc := "()V" } : Jvm.MethodName) jdk_30_method_1_code (1 : Nat) (Option.none : Option Jvm.ClassFile.FieldType), Jvm.Cond.code ({ cls := "java/lang/Object", name := "<init>", desc := "()V" } : Jvm.MethodName) object_method_1_code (1 : Nat) (Option.none : Option Jvm.ClassFile.FieldType), Jvm.Cond.code ({ cls := "com/example/ballast/ballast/coverage/LineCoverage", name := "whole", desc := "()J" } : Jvm.MethodName) prog_5_method_3_code (1 : Nat) (Option.some Jvm.ClassFile.FieldType.long), Jvm.Cond.code ({ cls := "java/lang/Math", name := "max", desc := "(JJ)J" } : Jvm.MethodName) jdk_29_method_66_code (4 : Nat) (Option.some Jvm.ClassFile.FieldType.long)]
set_option maxRecDepth 65536 in
theorem codes_eq : words1.filter isCode = codes1 := rfl
theorem w_codes : ∀ c ∈ words1.filter isCode, c.before args0 about1 = true := by
  rw [codes_eq]
  intro c hc
  simp only [codes1, List.mem_cons, List.not_mem_nil, or_false] at hc
  rcases hc with rfl | rfl | rfl | rfl | rfl | rfl
  · exact w_c0
  · exact w_c1
  · exact w_c2
  · exact w_c3
  · exact w_c4
  · exact w_c5
set_option maxRecDepth 65536 in
theorem w_t1 : (words1.take 24).all (fun c => isCode c || c.before args0 about1) = true := by decide +kernel
set_option maxRecDepth 65536 in
theorem w_t2 : (words1.drop 24).all (fun c => isCode c || c.before args0 about1) = true := by decide +kernel
theorem w_tables : (allAtoms (Jvm.Cond.code x code maxLocals ret :: tables_1)).before args0 about1 = true := by
  rw [allAtoms_all]
  show words1.all (fun c => c.before args0 about1) = true
  refine all_split ?_ w_codes
  rw [← List.take_append_drop 24 words1, List.all_append, w_t1, w_t2]
  rfl
set_option maxRecDepth 65536 in
theorem w_case : (Jvm.Cond.and given_1 narrow_1).before args0 about1 = true := by decide +kernel
theorem w_applies : (headSpec (Jvm.Cond.code x code maxLocals ret :: tables_1) room_1).applies x e0.platform about1 = true :=
  (Spec.applies_iff w_frames).mpr ⟨w_running, w_runnable, w_alone, w_named, w_hears, w_ripe, w_room, w_tables⟩
theorem atStart : AtStart classFile x code maxLocals ret World_1 tables_1 room_1 Calls_1 rest_1 Pre_1 launch0 p0 e0 about1 theMethod args0 below0 :=
  ⟨lists_1, trivial, launch0.admits_env _ _ _, launch0.least_env, fairChoices_fair.cas, fairChoices_fair.clock, w_frames, w_args, w_heap, w_applies, trivial, trivial, w_case⟩
end start1
theorem witness_1 : WitnessClaimed_1 := ⟨start1.p0, start1.e0, start1.about1, start1.theMethod, start1.args0, start1.below0, start1.atStart⟩
end Jvm.Pilot.@@N@@
