import JvmDerived
import JvmDerived.Pilot.@@N@@Statement
import JvmDerived.Pilot.@@N@@Code
set_option linter.unusedVariables false
set_option linter.unusedSimpArgs false
namespace Jvm.Pilot.@@N@@
open Jvm Jvm.ClassFile Sem Op Lib Jvm.Free Jvm.Stand Jvm.LawKit Jvm.RoadKit Bundle Jvm.Pilot.@@N@@.Jvm.D
-- OWN KIT (mine): reach, finish, weakening of the counters, arrays by a function, arithmetic in omega's form
abbrev own_R (tb : Tables) (e : Env) (below : List Frame) (F0 F : State) : Prop := ∀ t, Steps tb e below F t → Steps tb e below F0 t
abbrev own_G (p : Program) (e : Env) (below : List Frame) (s F0 : State) (Q : Option Value → Heap → List Loc → Prop) (kc ks : Nat) : Prop :=
  ∃ s₂ o, Steps p.tables e below F0 s₂ ∧ s₂.status = .running ∧ Ended s₂ below o ∧ ∃ v L, o = .returned v ∧ Q v s₂.heap L ∧ FrameEnd s o s₂ L kc ks
section OwnKit
variable {p : Program} {l : Launch} {e : Env} {R : Room} {s : State} {m : MethodId} {args : Array Value} {below : List Frame} {meth : Method} {c : Code} {T : State} {locs : List Loc} {cells slots : Nat}
theorem own_fin (X : Stand p l e R s m args below meth c T locs cells slots) (hl : meth.locks = false) {F0 : State} {Q : Option Value → Heap → List Loc → Prop} {kc ks : Nat} (v : Option Value) (hv : meth.sig.returnType = none → v = none) (hq : Q v T.heap locs) (hc : cells ≤ kc) (hs : slots ≤ ks)
    (st : ∀ fs, (∀ (f : JFrame) (acts : List Action), f.method = m → f.locked = none → f.entered = [] → (doReturn e (T.setTop f) acts v).1 = T.setFrames fs) → Steps p.tables e below F0 (T.setFrames fs)) : own_G p e below s F0 Q kc ks := by
  obtain ⟨fs, hr, hrun, hended, hW, hsame⟩ := X.leave hv hl
  exact ⟨_, _, st fs hr, hrun, hended, _, _, rfl, hq, ⟨_, rfl⟩, hW, hsame.mono hc hs⟩
theorem own_mono (X : Stand p l e R s m args below meth c T locs cells slots) {c' s' : Nat} (hc : cells ≤ c') (hs : slots ≤ s') : Stand p l e R s m args below meth c T locs c' s' := { X with same := X.same.mono hc hs }
end OwnKit
theorem own_hv {meth : Method} {t : FieldType} {v : Option Value} (h : meth.sig.returnType = some t) : meth.sig.returnType = none → v = none := fun q => by rw [h] at q; cases q
theorem own_lt32 {a b : Int32} (h : a < b) : a.toInt < b.toInt := Int32.lt_iff_toInt_lt.mp h
theorem own_nlt32 {a b : Int32} (h : ¬ a < b) : b.toInt ≤ a.toInt := Int.not_lt.mp fun q => h (Int32.lt_iff_toInt_lt.mpr q)
theorem own_eq32 {a b : Int32} (h : a = b) : a.toInt = b.toInt := congrArg Int32.toInt h
theorem own_ne32 {a b : Int32} (h : ¬ a = b) : a.toInt ≠ b.toInt := fun q => h (Int32.toInt_inj.mp q)
theorem own_lt64 {a b : Int64} (h : a < b) : a.toInt < b.toInt := Int64.lt_iff_toInt_lt.mp h
theorem own_nlt64 {a b : Int64} (h : ¬ a < b) : b.toInt ≤ a.toInt := Int.not_lt.mp fun q => h (Int64.lt_iff_toInt_lt.mpr q)
theorem own_eq64 {a b : Int64} (h : a = b) : a.toInt = b.toInt := congrArg Int64.toInt h
theorem own_ne64 {a b : Int64} (h : ¬ a = b) : a.toInt ≠ b.toInt := fun q => h (Int64.toInt_inj.mp q)
theorem own_imulc (x y : Int32) (d : Int) (h : y.toInt = d) : ((x * y).toInt - x.toInt * d) % 4294967296 = 0 := by rw [← h]; exact c_imul x y
theorem own_imulc' (x y : Int32) (d : Int) (h : x.toInt = d) : ((x * y).toInt - d * y.toInt) % 4294967296 = 0 := by rw [← h]; exact c_imul x y
theorem own_lmulc (x y : Int64) (d : Int) (h : y.toInt = d) : ((x * y).toInt - x.toInt * d) % 18446744073709551616 = 0 := by rw [← h]; exact c_lmul x y
theorem own_lmulc' (x y : Int64) (d : Int) (h : x.toInt = d) : ((x * y).toInt - d * y.toInt) % 18446744073709551616 = 0 := by rw [← h]; exact c_lmul x y
theorem own_mask (x m : Int32) (k : Nat) (P : Int) (hk : k ≤ 31) (hm : m.toBitVec.toNat = 2 ^ k - 1) (hP : P = ((2 ^ k : Nat) : Int)) : (x &&& m).toInt = x.toInt % P := by rw [hP]; exact c_mask x m k hk hm
theorem own_maskL (x m : Int64) (k : Nat) (P : Int) (hk : k ≤ 63) (hm : m.toBitVec.toNat = 2 ^ k - 1) (hP : P = ((2 ^ k : Nat) : Int)) : (x &&& m).toInt = x.toInt % P := by rw [hP]; exact c_maskL x m k hk hm
theorem own_ishr (x q : Int32) (k : Nat) (P : Int) (hk : q.toBitVec.toNat % 32 = k) (hP : P = ((2 ^ k : Nat) : Int)) : (x >>> (q &&& 31)).toInt = x.toInt / P := by rw [hP]; exact c_ishr x q k hk
theorem own_ishl (x q : Int32) (k : Nat) (P : Int) (hk : q.toBitVec.toNat % 32 = k) (hP : P = ((2 ^ k : Nat) : Int)) : ((x <<< (q &&& 31)).toInt - x.toInt * P) % 4294967296 = 0 := by rw [hP]; exact c_ishl x q k hk
theorem own_iushr (x q : Int32) (k : Nat) (P : Int) (hk : q.toBitVec.toNat % 32 = k) (h0 : 0 < k) (hP : P = ((2 ^ k : Nat) : Int)) : ((x.toUInt32 >>> (q &&& 31).toUInt32).toInt32).toInt = (x.toInt % 4294967296) / P := by rw [hP]; exact c_iushr x q k hk h0
theorem own_lshr (x : Int64) (q : Int32) (k : Nat) (P : Int) (hk : q.toBitVec.toNat % 64 = k) (hP : P = ((2 ^ k : Nat) : Int)) : (x >>> (q &&& 0x3f).toInt64).toInt = x.toInt / P := by rw [hP]; exact c_lshr x q k hk
theorem own_lshl (x : Int64) (q : Int32) (k : Nat) (P : Int) (hk : q.toBitVec.toNat % 64 = k) (hP : P = ((2 ^ k : Nat) : Int)) : ((x <<< (q &&& 0x3f).toInt64).toInt - x.toInt * P) % 18446744073709551616 = 0 := by rw [hP]; exact c_lshl x q k hk
theorem own_lushr (x : Int64) (q : Int32) (k : Nat) (P : Int) (hk : q.toBitVec.toNat % 64 = k) (h0 : 0 < k) (hP : P = ((2 ^ k : Nat) : Int)) : ((x.toUInt64 >>> (q &&& 0x3f).toInt64.toUInt64).toInt64).toInt = (x.toInt % 18446744073709551616) / P := by rw [hP]; exact c_lushr x q k hk h0
theorem own_lc_lt {x y : Int64} {cd : ClassFile.Cond} {b : Bool} (h : if_icmp.holds cd (lcmpW x y) 0 = b) : ifCond.holds cd (lcmpW x y) = b := (if0 _ _).trans h
theorem own_l_lt {x y : Int64} (h : x < y) : ifCond.holds .lt (lcmpW x y) = true ∧ ifCond.holds .ge (lcmpW x y) = false := ⟨(if0 _ _).trans (tlt ((lw_lt x y).mpr h)).1, (if0 _ _).trans (tlt ((lw_lt x y).mpr h)).2.1⟩
theorem own_l_nlt {x y : Int64} (h : ¬ x < y) : ifCond.holds .lt (lcmpW x y) = false ∧ ifCond.holds .ge (lcmpW x y) = true := ⟨(if0 _ _).trans (flt (fun q => h ((lw_lt x y).mp q))).1, (if0 _ _).trans (flt (fun q => h ((lw_lt x y).mp q))).2.1⟩
theorem own_l_gt {x y : Int64} (h : y < x) : ifCond.holds .gt (lcmpW x y) = true ∧ ifCond.holds .le (lcmpW x y) = false := ⟨(if0 _ _).trans (tlt ((lw_gt x y).mpr h)).2.2.1, (if0 _ _).trans (tlt ((lw_gt x y).mpr h)).2.2.2⟩
theorem own_l_ngt {x y : Int64} (h : ¬ y < x) : ifCond.holds .gt (lcmpW x y) = false ∧ ifCond.holds .le (lcmpW x y) = true := ⟨(if0 _ _).trans (flt (fun q => h ((lw_gt x y).mp q))).2.2.1, (if0 _ _).trans (flt (fun q => h ((lw_gt x y).mp q))).2.2.2⟩
theorem own_l_eq {x y : Int64} (h : x = y) : ifCond.holds .eq (lcmpW x y) = true ∧ ifCond.holds .ne (lcmpW x y) = false := ⟨(if0 _ _).trans (teq ((lw_eq x y).mpr h)).1, (if0 _ _).trans (teq ((lw_eq x y).mpr h)).2⟩
theorem own_l_neq {x y : Int64} (h : ¬ x = y) : ifCond.holds .eq (lcmpW x y) = false ∧ ifCond.holds .ne (lcmpW x y) = true := ⟨(if0 _ _).trans (feq (fun q => h ((lw_eq x y).mp q))).1, (if0 _ _).trans (feq (fun q => h ((lw_eq x y).mp q))).2⟩
theorem own_lrem {x y : Int64} {d : Int} (hy : y.toInt = d) : (0 ≤ x.toInt → (x - (x / y) * y).toInt = x.toInt % d) ∧ (x.toInt < 0 → (x - (x / y) * y).toInt = -((-x.toInt) % d)) := c_lrem x y d hy
theorem own_lremf (x y : Int64) (d : Int) (hy : y.toInt = d) : (0 ≤ x.toInt → (x % y).toInt = x.toInt % d) ∧ (x.toInt < 0 → (x % y).toInt = -((-x.toInt) % d)) := by rw [Int64.toInt_mod, hy]; exact tr _ _
theorem own_lremM {p : Program} {l : Launch} {e : Env} {R : Room} {s : State} {m : MethodId} {args : Array Value} {below : List Frame} {meth : Method} {c : Code} {T : State} {locs : List Loc} {cells slots : Nat} {g : JFrame} {target : State} (X : Stand p l e R s m args below meth c T locs cells slots) (hx : p.tables.exec = Jvm.exec) (hg : g.method = m) {x y : Int64} {rest : List Value} (hd : decode c.code g.pc = .ok (.lrem, 1)) (hs : g.stack = .long y :: .long x :: rest) (hy : y ≠ 0)
    (hr : Steps p.tables e below (T.setTop { g with pc := g.pc + 1, stack := .long (x % y) :: rest }) target) : Steps p.tables e below (T.setTop g) target :=
  XS.lrem X.here hx hg hd hs hy (by rw [lrem_mod]; exact hr)
theorem own_R32 (x : Int32) : -2147483648 ≤ x.toInt ∧ x.toInt ≤ 2147483647 := by have := rng32 x; omega
theorem own_R64 (x : Int64) : -9223372036854775808 ≤ x.toInt ∧ x.toInt ≤ 9223372036854775807 := by have := rng64 x; omega
theorem own_iaddR {x y : Int32} {a b c d : Int} (lo hi : Int) (hx : a ≤ x.toInt ∧ x.toInt ≤ b) (hy : c ≤ y.toInt ∧ y.toInt ≤ d) (h1 : -2147483648 ≤ a + c ∧ b + d ≤ 2147483647) (h2 : lo ≤ a + c ∧ b + d ≤ hi) : (x + y).toInt = x.toInt + y.toInt ∧ lo ≤ (x + y).toInt ∧ (x + y).toInt ≤ hi := by have := c_iadd x y; have := rng32 (x + y); omega
theorem own_isubR {x y : Int32} {a b c d : Int} (lo hi : Int) (hx : a ≤ x.toInt ∧ x.toInt ≤ b) (hy : c ≤ y.toInt ∧ y.toInt ≤ d) (h1 : -2147483648 ≤ a - d ∧ b - c ≤ 2147483647) (h2 : lo ≤ a - d ∧ b - c ≤ hi) : (x - y).toInt = x.toInt - y.toInt ∧ lo ≤ (x - y).toInt ∧ (x - y).toInt ≤ hi := by have := c_isub x y; have := rng32 (x - y); omega
theorem own_laddR {x y : Int64} {a b c d : Int} (lo hi : Int) (hx : a ≤ x.toInt ∧ x.toInt ≤ b) (hy : c ≤ y.toInt ∧ y.toInt ≤ d) (h1 : -9223372036854775808 ≤ a + c ∧ b + d ≤ 9223372036854775807) (h2 : lo ≤ a + c ∧ b + d ≤ hi) : (x + y).toInt = x.toInt + y.toInt ∧ lo ≤ (x + y).toInt ∧ (x + y).toInt ≤ hi := by have := c_ladd x y; have := rng64 (x + y); omega
theorem own_lsubR {x y : Int64} {a b c d : Int} (lo hi : Int) (hx : a ≤ x.toInt ∧ x.toInt ≤ b) (hy : c ≤ y.toInt ∧ y.toInt ≤ d) (h1 : -9223372036854775808 ≤ a - d ∧ b - c ≤ 9223372036854775807) (h2 : lo ≤ a - d ∧ b - c ≤ hi) : (x - y).toInt = x.toInt - y.toInt ∧ lo ≤ (x - y).toInt ∧ (x - y).toInt ≤ hi := by have := c_lsub x y; have := rng64 (x - y); omega
theorem own_imulR {x y : Int32} {a b k : Int} (lo hi : Int) (hx : a ≤ x.toInt ∧ x.toInt ≤ b) (hy : y.toInt = k) (hk : 0 ≤ k) (h1 : -2147483648 ≤ a * k ∧ b * k ≤ 2147483647) (h2 : lo ≤ a * k ∧ b * k ≤ hi) : (x * y).toInt = x.toInt * k ∧ lo ≤ (x * y).toInt ∧ (x * y).toInt ≤ hi := by
  have h := c_imul x y; have := rng32 (x * y); rw [hy] at h
  have p1 := Int.mul_le_mul_of_nonneg_right hx.1 hk; have p2 := Int.mul_le_mul_of_nonneg_right hx.2 hk
  generalize x.toInt * k = z at *; generalize a * k = z1 at *; generalize b * k = z2 at *; omega
theorem own_lmulR {x y : Int64} {a b k : Int} (lo hi : Int) (hx : a ≤ x.toInt ∧ x.toInt ≤ b) (hy : y.toInt = k) (hk : 0 ≤ k) (h1 : -9223372036854775808 ≤ a * k ∧ b * k ≤ 9223372036854775807) (h2 : lo ≤ a * k ∧ b * k ≤ hi) : (x * y).toInt = x.toInt * k ∧ lo ≤ (x * y).toInt ∧ (x * y).toInt ≤ hi := by
  have h := c_lmul x y; have := rng64 (x * y); rw [hy] at h
  have p1 := Int.mul_le_mul_of_nonneg_right hx.1 hk; have p2 := Int.mul_le_mul_of_nonneg_right hx.2 hk
  generalize x.toInt * k = z at *; generalize a * k = z1 at *; generalize b * k = z2 at *; omega
theorem own_imulR' {x y : Int32} {a b k : Int} (lo hi : Int) (hx : a ≤ y.toInt ∧ y.toInt ≤ b) (hy : x.toInt = k) (hk : 0 ≤ k) (h1 : -2147483648 ≤ a * k ∧ b * k ≤ 2147483647) (h2 : lo ≤ a * k ∧ b * k ≤ hi) : (x * y).toInt = y.toInt * k ∧ lo ≤ (x * y).toInt ∧ (x * y).toInt ≤ hi := by rw [Int32.mul_comm]; exact own_imulR lo hi hx hy hk h1 h2
theorem own_lmulR' {x y : Int64} {a b k : Int} (lo hi : Int) (hx : a ≤ y.toInt ∧ y.toInt ≤ b) (hy : x.toInt = k) (hk : 0 ≤ k) (h1 : -9223372036854775808 ≤ a * k ∧ b * k ≤ 9223372036854775807) (h2 : lo ≤ a * k ∧ b * k ≤ hi) : (x * y).toInt = y.toInt * k ∧ lo ≤ (x * y).toInt ∧ (x * y).toInt ≤ hi := by rw [Int64.mul_comm]; exact own_lmulR lo hi hx hy hk h1 h2
theorem own_maskR (x m : Int32) (k : Nat) (P : Int) (hk : k ≤ 31) (hm : m.toBitVec.toNat = 2 ^ k - 1) (hP : P = ((2 ^ k : Nat) : Int)) (hi : Int) (h0 : 0 < P) (h : P ≤ hi + 1) : (x &&& m).toInt = x.toInt % P ∧ 0 ≤ (x &&& m).toInt ∧ (x &&& m).toInt ≤ hi := by
  have e := own_mask x m k P hk hm hP; have h1 := Int.emod_nonneg x.toInt (show P ≠ 0 by omega); have h2 := Int.emod_lt_of_pos x.toInt h0; omega
theorem own_maskLR (x m : Int64) (k : Nat) (P : Int) (hk : k ≤ 63) (hm : m.toBitVec.toNat = 2 ^ k - 1) (hP : P = ((2 ^ k : Nat) : Int)) (hi : Int) (h0 : 0 < P) (h : P ≤ hi + 1) : (x &&& m).toInt = x.toInt % P ∧ 0 ≤ (x &&& m).toInt ∧ (x &&& m).toInt ≤ hi := by
  have e := own_maskL x m k P hk hm hP; have h1 := Int.emod_nonneg x.toInt (show P ≠ 0 by omega); have h2 := Int.emod_lt_of_pos x.toInt h0; omega
theorem own_iremR {x y : Int32} {a b d : Int} (hi : Int) (hx : a ≤ x.toInt ∧ x.toInt ≤ b) (hy : y.toInt = d) (ha : 0 ≤ a) (hd : 0 < d) (h : d ≤ hi + 1) : (x % y).toInt = x.toInt % d ∧ 0 ≤ (x % y).toInt ∧ (x % y).toInt ≤ hi := by
  have e := (c_irem x y d hy).1 (by omega); have h1 := Int.emod_nonneg x.toInt (show d ≠ 0 by omega); have h2 := Int.emod_lt_of_pos x.toInt hd; omega
theorem own_lremR {x y : Int64} {a b d : Int} (hi : Int) (hx : a ≤ x.toInt ∧ x.toInt ≤ b) (hy : y.toInt = d) (ha : 0 ≤ a) (hd : 0 < d) (h : d ≤ hi + 1) : (x % y).toInt = x.toInt % d ∧ 0 ≤ (x % y).toInt ∧ (x % y).toInt ≤ hi := by
  have e := (own_lremf x y d hy).1 (by omega); have h1 := Int.emod_nonneg x.toInt (show d ≠ 0 by omega); have h2 := Int.emod_lt_of_pos x.toInt hd; omega
theorem own_idivR {x y : Int32} {a b d : Int} (lo hi : Int) (hx : a ≤ x.toInt ∧ x.toInt ≤ b) (hy : y.toInt = d) (hy1 : y ≠ -1) (ha : 0 ≤ a) (hd : 0 < d) (h : lo ≤ a / d ∧ b / d ≤ hi) : (x / y).toInt = x.toInt / d ∧ lo ≤ (x / y).toInt ∧ (x / y).toInt ≤ hi := by
  have e := (c_idiv x y d hy hy1).1 (by omega); have h1 := Int.ediv_le_ediv hd hx.1; have h2 := Int.ediv_le_ediv hd hx.2; omega
theorem own_ldivR {x y : Int64} {a b d : Int} (lo hi : Int) (hx : a ≤ x.toInt ∧ x.toInt ≤ b) (hy : y.toInt = d) (hy1 : y ≠ -1) (ha : 0 ≤ a) (hd : 0 < d) (h : lo ≤ a / d ∧ b / d ≤ hi) : (x / y).toInt = x.toInt / d ∧ lo ≤ (x / y).toInt ∧ (x / y).toInt ≤ hi := by
  have e := (c_ldiv x y d hy hy1).1 (by omega); have h1 := Int.ediv_le_ediv hd hx.1; have h2 := Int.ediv_le_ediv hd hx.2; omega
theorem own_l2iR {x : Int64} {a b : Int} (hx : a ≤ x.toInt ∧ x.toInt ≤ b) (h1 : -2147483648 ≤ a ∧ b ≤ 2147483647) : x.toInt32.toInt = x.toInt ∧ a ≤ x.toInt32.toInt ∧ x.toInt32.toInt ≤ b := by have := c_l2i x; have := rng32 x.toInt32; omega
theorem own_i2lR {x : Int32} {a b : Int} (hx : a ≤ x.toInt ∧ x.toInt ≤ b) : x.toInt64.toInt = x.toInt ∧ a ≤ x.toInt64.toInt ∧ x.toInt64.toInt ≤ b := by have := c_i2l x; omega
theorem own_eqR32 {x y : Int32} {a b : Int} (h : x = y) (hy : a ≤ y.toInt ∧ y.toInt ≤ b) : x.toInt = y.toInt ∧ a ≤ x.toInt ∧ x.toInt ≤ b := by subst h; exact ⟨rfl, hy⟩
theorem own_eqR64 {x y : Int64} {a b : Int} (h : x = y) (hy : a ≤ y.toInt ∧ y.toInt ≤ b) : x.toInt = y.toInt ∧ a ≤ x.toInt ∧ x.toInt ≤ b := by subst h; exact ⟨rfl, hy⟩
theorem own_lushrR {x : Int64} {a b : Int} (q : Int32) (k : Nat) (P lo hi : Int) (hx : a ≤ x.toInt ∧ x.toInt ≤ b) (ha : 0 ≤ a) (hk : q.toBitVec.toNat % 64 = k) (h0 : 0 < k) (hP : P = ((2 ^ k : Nat) : Int)) (hPp : 0 < P) (h : lo ≤ a / P ∧ b / P ≤ hi) : ((x.toUInt64 >>> (q &&& 0x3f).toInt64.toUInt64).toInt64).toInt = x.toInt / P ∧ lo ≤ ((x.toUInt64 >>> (q &&& 0x3f).toInt64.toUInt64).toInt64).toInt ∧ ((x.toUInt64 >>> (q &&& 0x3f).toInt64.toUInt64).toInt64).toInt ≤ hi := by
  have e := own_lushr x q k P hk h0 hP; have := rng64 x; rw [Int.emod_eq_of_lt (by omega) (by omega)] at e; have h1 := Int.ediv_le_ediv hPp hx.1; have h2 := Int.ediv_le_ediv hPp hx.2; omega
theorem own_iushrR {x : Int32} {a b : Int} (q : Int32) (k : Nat) (P lo hi : Int) (hx : a ≤ x.toInt ∧ x.toInt ≤ b) (ha : 0 ≤ a) (hk : q.toBitVec.toNat % 32 = k) (h0 : 0 < k) (hP : P = ((2 ^ k : Nat) : Int)) (hPp : 0 < P) (h : lo ≤ a / P ∧ b / P ≤ hi) : ((x.toUInt32 >>> (q &&& 31).toUInt32).toInt32).toInt = x.toInt / P ∧ lo ≤ ((x.toUInt32 >>> (q &&& 31).toUInt32).toInt32).toInt ∧ ((x.toUInt32 >>> (q &&& 31).toUInt32).toInt32).toInt ≤ hi := by
  have e := own_iushr x q k P hk h0 hP; have := rng32 x; rw [Int.emod_eq_of_lt (by omega) (by omega)] at e; have h1 := Int.ediv_le_ediv hPp hx.1; have h2 := Int.ediv_le_ediv hPp hx.2; omega
-- OWN KIT 1 (mine): an array by a function of its places
def own_Arf (Z : State) (h : Heap) (a : Addr) (ty : FieldType) (n : Nat) (f : Nat → Value) : Prop := ∃ c : Cell, Arr Z h a c ty ∧ c.slots.size = n ∧ n < 2 ^ 31 ∧ ∀ j, j < n → c.slots[j]? = some (f j)
section OwnArf
variable {Z : State} {h h' : Heap} {a b : Addr} {ty : FieldType} {n : Nat} {f f' : Nat → Value} {sl : Nat} {v : Value} {ws : List Addr}
theorem own_Arf.lt (F : own_Arf Z h a ty n f) : a < h.size := by obtain ⟨c, A, -⟩ := F; exact A.lt
theorem own_Arf.ext (F : own_Arf Z h a ty n f) (E : Ext h h') : own_Arf Z h' a ty n f := by obtain ⟨c, A, r⟩ := F; exact ⟨c, A.ext E, r⟩
theorem own_Arf.other (F : own_Arf Z h b ty n f) (W : Wr h h' a sl v) (q : b ≠ a) : own_Arf Z h' b ty n f := by obtain ⟨c, A, r⟩ := F; exact ⟨c, A.other W q, r⟩
theorem own_Arf.keep (F : own_Arf Z h a ty n f) (K : Keep h h' ws) (q : a ∉ ws) : own_Arf Z h' a ty n f := by obtain ⟨c, A, r⟩ := F; exact ⟨c, ⟨K.2.1 a c A.1 q, A.2⟩, r⟩
theorem own_Arf.cong (F : own_Arf Z h a ty n f) (q : ∀ j, j < n → f j = f' j) : own_Arf Z h a ty n f' := by obtain ⟨c, A, r1, r2, r3⟩ := F; exact ⟨c, A, r1, r2, fun j hj => (q j hj) ▸ r3 j hj⟩
theorem own_Arf.new {k : ClassId} {z : Int32} (A : Arr Z h a (newA k ty z) ty) (q : ¬ z < 0) : own_Arf Z h a ty z.toNatClampNeg (fun _ => defaultValue ty) :=
  ⟨_, A, sz_new _ _ _, (back32 q).2, fun j hj => by simp [newA, hj]⟩
theorem own_inb {j : Int32} {n : Nat} (h1 : 0 ≤ j.toInt) (h2 : j.toInt < n) : ¬ (j < 0 ∨ n ≤ j.toNatClampNeg) := by
  have q : j.toNatClampNeg = j.toInt.toNat := rfl
  rintro (p | p)
  · have := Int32.lt_iff_toInt_lt.mp p; rw [show (0 : Int32).toInt = 0 from rfl] at this; omega
  · rw [q] at p; omega
theorem own_set {c : Cell} {k : Nat} (A : Arr Z h a c ty) (S : c.slots.size = n) (hn : n < 2 ^ 31) (H : ∀ j, j < n → c.slots[j]? = some (f j)) (W : Wr h h' a k v) (hk : k < n) : own_Arf Z h' a ty n (fun i => if i = k then v else f i) := by
  refine ⟨_, A.same W, by rw [sz_set]; exact S, hn, fun j hj => ?_⟩
  by_cases q : j = k
  · subst q; simp [Cell.setSlot, S, hj]
  · show _ = some (if j = k then v else f j)
    rw [if_neg q, ← H j hj]; exact Array.getElem?_setIfInBounds_ne (Ne.symm q)
variable {p : Program} {l : Launch} {e : Env} {R : Room} {s : State} {m : MethodId} {args : Array Value} {below : List Frame} {meth : Method} {c : Code} {T : State} {locs : List Loc} {cells slots : Nat}
theorem own_ld {A : Prop} {j : Int32} (F : own_Arf Z h a ty n f) (h1 : 0 ≤ j.toInt) (h2 : j.toInt < n) (k : ∀ c : Cell, Arr Z h a c ty → ¬ (j < 0 ∨ c.slots.size ≤ j.toNatClampNeg) → c.slots[j.toNatClampNeg]? = some (f j.toNatClampNeg) → A) : A := by
  obtain ⟨c, Ar, S, hn, H⟩ := F
  exact k c Ar (by rw [S]; exact own_inb h1 h2) (H _ (by have q : j.toNatClampNeg = j.toInt.toNat := rfl; omega))
theorem own_iaload (X : Stand p l e R s m args below meth c T locs cells slots) (hx : p.tables.exec = Jvm.exec) (hZ : Z.Warmed39 s.vm) (eT : T.heap = h) {j : Int32} (F : own_Arf Z h a .int n f) (h1 : 0 ≤ j.toInt) (h2 : j.toInt < n) {w : Value} (hv : f j.toNatClampNeg = w) {g : JFrame} (hg : g.method = m) {rest : List Value} (hs : g.stack = .int j :: .ref a :: rest) (hd : decode c.code g.pc = .ok (.iaload, 1)) :
    ∀ target, Steps p.tables e below (T.setTop { g with pc := g.pc + 1, stack := w :: rest }) target → Steps p.tables e below (T.setTop g) target := by
  subst hv
  exact own_ld F h1 h2 fun cl Ar hin hat => X.iaload hx (j := j) (by rw [eT]; exact Ar.1) (State.isArrayOf_alike hZ.alike Ar.2.1) Ar.2.2 hin hat hg hs hd
theorem own_baloadB (X : Stand p l e R s m args below meth c T locs cells slots) (hx : p.tables.exec = Jvm.exec) (hZ : Z.Warmed39 s.vm) (eT : T.heap = h) {j : Int32} (F : own_Arf Z h a .byte n f) (h1 : 0 ≤ j.toInt) (h2 : j.toInt < n) {w : Value} (hv : f j.toNatClampNeg = w) {g : JFrame} (hg : g.method = m) {rest : List Value} (hs : g.stack = .int j :: .ref a :: rest) (hd : decode c.code g.pc = .ok (.baload, 1)) :
    ∀ target, Steps p.tables e below (T.setTop { g with pc := g.pc + 1, stack := w :: rest }) target → Steps p.tables e below (T.setTop g) target := by
  subst hv
  exact own_ld F h1 h2 fun cl Ar hin hat => X.baloadBytes hx (j := j) (by rw [eT]; exact Ar.1) (State.isArrayOf_alike hZ.alike Ar.2.1) Ar.2.2 hin hat hg hs hd
theorem own_baloadZ (X : Stand p l e R s m args below meth c T locs cells slots) (hx : p.tables.exec = Jvm.exec) (hZ : Z.Warmed39 s.vm) (eT : T.heap = h) {j : Int32} (F : own_Arf Z h a .boolean n f) (h1 : 0 ≤ j.toInt) (h2 : j.toInt < n) {w : Value} (hv : f j.toNatClampNeg = w) {g : JFrame} (hg : g.method = m) {rest : List Value} (hs : g.stack = .int j :: .ref a :: rest) (hd : decode c.code g.pc = .ok (.baload, 1)) :
    ∀ target, Steps p.tables e below (T.setTop { g with pc := g.pc + 1, stack := w :: rest }) target → Steps p.tables e below (T.setTop g) target := by
  subst hv
  exact own_ld F h1 h2 fun cl Ar hin hat => X.baloadBooleans hx (j := j) (by rw [eT]; exact Ar.1) (State.isArrayOf_alike hZ.alike Ar.2.1) Ar.2.2 hin hat hg hs hd
theorem own_len32 {c : Cell} {n : Nat} (S : c.slots.size = n) {z : Int32} (hz : z = Int32.ofNat n) : c.slots.size.toInt32 = z := by rw [S, hz]
theorem own_alen (X : Stand p l e R s m args below meth c T locs cells slots) (hx : p.tables.exec = Jvm.exec) (hZ : Z.Warmed39 s.vm) (eT : T.heap = h) (F : own_Arf Z h a ty n f) (z : Int32) (hz : z = Int32.ofNat n) {g : JFrame} (hg : g.method = m) {rest : List Value} (hs : g.stack = .ref a :: rest) (hd : decode c.code g.pc = .ok (.arraylength, 1)) :
    ∀ target, Steps p.tables e below (T.setTop { g with pc := g.pc + 1, stack := .int z :: rest }) target → Steps p.tables e below (T.setTop g) target := by
  obtain ⟨cl, Ar, S, hn, H⟩ := F
  intro t k
  refine X.arraylength hx (cell := cl) (by rw [eT]; exact Ar.1) (State.isArrayOf_alike hZ.alike Ar.2.1) hg hs hd t ?_
  rw [own_len32 S hz]; exact k
theorem own_stI (X : Stand p l e R s m args below meth c T locs cells slots) (hx : p.tables.exec = Jvm.exec) (hZ : Z.Warmed39 s.vm) (eT : T.heap = h) {j x : Int32} (F : own_Arf Z h a .int n f) (h1 : 0 ≤ j.toInt) (h2 : j.toInt < n) {g : JFrame} (hg : g.method = m) {rest : List Value} (hs : g.stack = .int x :: .int j :: .ref a :: rest) (hd : decode c.code g.pc = .ok (.iastore, 1)) :
    ∃ T' h', Stand p l e R s m args below meth c T' (locs ++ [⟨a, j.toNatClampNeg⟩]) cells slots ∧ T'.heap = h' ∧ Wr h h' a j.toNatClampNeg (.int x) ∧ own_Arf Z h' a .int n (fun i => if i = j.toNatClampNeg then .int x else f i) ∧ ∀ target, Steps p.tables e below (T'.setTop { g with pc := g.pc + 1, stack := rest }) target → Steps p.tables e below (T.setTop g) target := by
  obtain ⟨cl, Ar, S, hn, H⟩ := F
  have hin : ¬ (j < 0 ∨ cl.slots.size ≤ j.toNatClampNeg) := by rw [S]; exact own_inb h1 h2
  obtain ⟨T', h', X', e', W, st⟩ := stI X hx hZ eT Ar (j := j) hin hg hs hd
  exact ⟨T', h', X', e', W, own_set Ar S hn H W (by have q : j.toNatClampNeg = j.toInt.toNat := rfl; omega), st⟩
theorem own_stB (X : Stand p l e R s m args below meth c T locs cells slots) (hx : p.tables.exec = Jvm.exec) (hZ : Z.Warmed39 s.vm) (eT : T.heap = h) {j x : Int32} (F : own_Arf Z h a .byte n f) (h1 : 0 ≤ j.toInt) (h2 : j.toInt < n) {g : JFrame} (hg : g.method = m) {rest : List Value} (hs : g.stack = .int x :: .int j :: .ref a :: rest) (hd : decode c.code g.pc = .ok (.bastore, 1)) :
    ∃ T' h', Stand p l e R s m args below meth c T' (locs ++ [⟨a, j.toNatClampNeg⟩]) cells slots ∧ T'.heap = h' ∧ Wr h h' a j.toNatClampNeg (.int (nar .byte x)) ∧ own_Arf Z h' a .byte n (fun i => if i = j.toNatClampNeg then .int (nar .byte x) else f i) ∧ ∀ target, Steps p.tables e below (T'.setTop { g with pc := g.pc + 1, stack := rest }) target → Steps p.tables e below (T.setTop g) target := by
  obtain ⟨cl, Ar, S, hn, H⟩ := F
  have hin : ¬ (j < 0 ∨ cl.slots.size ≤ j.toNatClampNeg) := by rw [S]; exact own_inb h1 h2
  obtain ⟨T', h', X', e', W, st⟩ := stB X hx hZ eT Ar (j := j) hin hg hs hd
  exact ⟨T', h', X', e', W, own_set Ar S hn H W (by have q : j.toNatClampNeg = j.toInt.toNat := rfl; omega), st⟩
theorem own_stZ (X : Stand p l e R s m args below meth c T locs cells slots) (hx : p.tables.exec = Jvm.exec) (hZ : Z.Warmed39 s.vm) (eT : T.heap = h) {j x : Int32} (F : own_Arf Z h a .boolean n f) (h1 : 0 ≤ j.toInt) (h2 : j.toInt < n) {g : JFrame} (hg : g.method = m) {rest : List Value} (hs : g.stack = .int x :: .int j :: .ref a :: rest) (hd : decode c.code g.pc = .ok (.bastore, 1)) :
    ∃ T' h', Stand p l e R s m args below meth c T' (locs ++ [⟨a, j.toNatClampNeg⟩]) cells slots ∧ T'.heap = h' ∧ Wr h h' a j.toNatClampNeg (.int (nar .boolean x)) ∧ own_Arf Z h' a .boolean n (fun i => if i = j.toNatClampNeg then .int (nar .boolean x) else f i) ∧ ∀ target, Steps p.tables e below (T'.setTop { g with pc := g.pc + 1, stack := rest }) target → Steps p.tables e below (T.setTop g) target := by
  obtain ⟨cl, Ar, S, hn, H⟩ := F
  have hin : ¬ (j < 0 ∨ cl.slots.size ≤ j.toNatClampNeg) := by rw [S]; exact own_inb h1 h2
  obtain ⟨T', h', X', e', W, st⟩ := stZ X hx hZ eT Ar (j := j) hin hg hs hd
  exact ⟨T', h', X', e', W, own_set Ar S hn H W (by have q : j.toNatClampNeg = j.toInt.toNat := rfl; omega), st⟩
end OwnArf
theorem own_clamp {i : Int32} {k : Nat} (h : i.toInt = k) : i.toNatClampNeg = k := by show i.toInt.toNat = k; omega
theorem own_tabArf {s : State} {a : Addr} {cl : Cell} {ty : FieldType} {n : Nat} (hf : Fit s) (A : Arr s s.heap a cl ty) (ht : ty = .int ∨ ty = .boolean ∨ ty = .byte ∨ ty = .char ∨ ty = .short) (S : cl.slots.size = n) (hn : n < 2 ^ 31) : ∃ g : Nat → Int32, own_Arf s s.heap a ty n (fun i => .int (g i)) := by
  refine ⟨fun i => atv cl (Int32.ofNat i), cl, A, S, hn, fun j hj => ?_⟩
  have e1 : (Int32.ofNat j).toInt = j := Int32.toInt_ofNat_of_lt (by omega)
  have e2 : (Int32.ofNat j).toNatClampNeg = j := by show (Int32.ofNat j).toInt.toNat = j; omega
  have hin : ¬ (Int32.ofNat j < 0 ∨ cl.slots.size ≤ (Int32.ofNat j).toNatClampNeg) := by rw [S]; exact own_inb (by omega) (by omega)
  obtain ⟨v, h1, h2⟩ := elem_fit hf A hin
  obtain ⟨x, rfl⟩ := fit_I h2 ht
  show cl.slots[j]? = some (.int (atv cl (Int32.ofNat j)))
  rw [atv_of h1, ← e2]; exact h1
theorem own_lenOf {args : Array Value} {s : State} {t : Term} {a : Addr} {cl : Cell} {ty : FieldType} {k : Int32} (ev : t.eval args s none [] s = some (.ref a)) (A : Arr s s.heap a cl ty) (h : (Cond.eq (.length t) (.int k)).value args s none s [] = some true) (hk : 0 ≤ k.toInt) : cl.slots.size = k.toInt.toNat ∧ cl.slots.size < 2 ^ 31 := by
  have ha := A.fin (Vm.Alike.refl _)
  by_cases q : cl.slots.size < 2 ^ 31
  · have e1 : (Term.length t).eval args s none [] s = some (.int cl.slots.size.toInt32) := len_f ev ha q
    have e2 : cl.slots.size.toInt32 = k := by
      have hh := h
      simp only [Cond.value] at hh
      rw [e1] at hh
      simpa [Term.eval] using hh
    have e3 := len_toInt q
    rw [e2] at e3
    exact ⟨by omega, q⟩
  · exfalso
    have e1 : (Term.length t).eval args s none [] s = none := by simp [Term.eval, ev, ha, q]
    simp [Cond.value, e1] at h
theorem own_nameI {Z : State} {h : Heap} {a : Addr} {ty : FieldType} {n k : Nat} {g : Nat → Int32} {x : Int32} (V : own_Arf Z h a ty n (fun i => if i = k then .int x else .int (g i))) : ∃ g' : Nat → Int32, (∀ i, g' i = if i = k then x else g i) ∧ own_Arf Z h a ty n (fun i => .int (g' i)) :=
  ⟨fun i => if i = k then x else g i, fun _ => rfl, V.cong (fun i _ => by by_cases q : i = k <;> simp [q])⟩
theorem own_nameD {Z : State} {h : Heap} {a : Addr} {ty : FieldType} {n k : Nat} {g : Nat → UInt64} {x : UInt64} (V : own_Arf Z h a ty n (fun i => if i = k then .double x else .double (g i))) : ∃ g' : Nat → UInt64, (∀ i, g' i = if i = k then x else g i) ∧ own_Arf Z h a ty n (fun i => .double (g' i)) :=
  ⟨fun i => if i = k then x else g i, fun _ => rfl, V.cong (fun i _ => by by_cases q : i = k <;> simp [q])⟩
theorem own_natOf {i : Int32} {lo hi : Int} (h1 : 0 ≤ i.toInt) : ∃ k : Nat, i.toInt = k := ⟨i.toInt.toNat, by omega⟩
theorem own_tn {i : Int32} {k : Nat} (h : i.toInt = k) : i.toBitVec.toNat = k := by
  have h1 : i.toBitVec.toInt = k := h
  have h2 := BitVec.toInt_eq_toNat_cond i.toBitVec
  have h3 := i.toBitVec.isLt
  rw [h1] at h2
  split at h2 <;> omega
theorem pn_0 : plainName "java/lang/Record" = true := by first | (simp [plainName, overriddenIn]; done) | decide +kernel
theorem d2_0 : decode jdk_30_method_1_code 0 = .ok (.aload_n 0, 1) := by decide +kernel
theorem d2_1 : decode jdk_30_method_1_code 1 = .ok (.invokespecial 1, 3) := by decide +kernel
theorem d2_4 : decode jdk_30_method_1_code 4 = .ok (.return_, 1) := by decide +kernel
theorem ef_2 (m : MethodId) (x0 : Addr) : entryFrame m #[(.ref x0)] 1 = mkF m 0 #[.val (.ref x0)] [] := by first | (simp [entryFrame, mkF, argsToLocals, Value.category]; done) | rfl
def Q2 (Z : State) (a1 : Addr) (h0 : Heap) (n0 : Nat) (v : Option Value) (h : Heap) (L : List Loc) : Prop := v = none ∧ Fr n0 L ∧ h = h0
set_option maxRecDepth 65536 in
set_option maxHeartbeats 40000000 in
theorem rm2 (l : Launch) (Z : State) (a0 : Array Value) (hw : ∀ d ∈ tables_1, d.before a0 Z = true) (ws : List Jvm.Cond) (a1 : Addr) (h0 : Heap) (n0 : Nat) (Z0 : n0 ≤ h0.size) :
    MetFree l (⟨"java/lang/Record", "<init>", "()V"⟩ : MethodName) (head1 (Jvm.Cond.code (⟨"java/lang/Record", "<init>", "()V"⟩ : MethodName) jdk_30_method_1_code 1 none :: ws) ({ frames := 1, cells := 0, slots := 0, locals := 12 } : Room)) (fun a U => a = #[(.ref a1)] ∧ Z.Warmed39 U.vm ∧ U.heap = h0) (fun _ _ _ _ _ => True) (fun _ U o U' => ∃ v L, o = .returned v ∧ Q2 Z a1 h0 n0 v U'.heap L ∧ FrameEnd U o U' L ({ frames := 1, cells := 0, slots := 0, locals := 12 } : Room).cells ({ frames := 1, cells := 0, slots := 0, locals := 12 } : Room).slots) := by
  refine MetFree.of_bodySF (plainFor_of_name pn_0) hisR ?_
  intro p e s m args below meth c s₁ Bd hml0 hP hK
  obtain ⟨rfl, hZ, hh⟩ := hP
  have hx := Bd.exec
  have hby := Bd.bytes
  have hml : c.maxLocals = 1 := hml0
  have hown : s.vm.findClass "java/lang/Record" = some m.cls := findClass_of_methodNamed Bd.named
  have hnm := (name_of_methodNamed Bd.named Bd.method).1
  have hlk : meth.locks = false := BodyLoose.notSynchronized Bd
  have X0 : Stand p l e ({ frames := 1, cells := 0, slots := 0, locals := 12 } : Room) s m #[(.ref a1)] below meth c s₁ [] 0 0 := Stand.of_body Bd
  have e0 : s₁.heap = h0 := by rw [← hh, Bd.state]; rfl
  have N0 := Fr.nil n0
  have K0 : Keep h0 h0 [] := Keep.refl h0 _
  have key : ∀ (F0 : State) (G : Prop), (own_G p e below s F0 (Q2 Z a1 h0 n0) ({ frames := 1, cells := 0, slots := 0, locals := 12 } : Room).cells ({ frames := 1, cells := 0, slots := 0, locals := 12 } : Room).slots → G) → own_R p.tables e below F0 (s₁.setTop (mkF m 0 #[.val (.ref a1)] [])) → G := by
    intro F0 G hG r0
    have r1 : own_R p.tables e below F0 (s₁.setTop (mkF m 1 #[.val (.ref a1)] [(.ref a1)])) := fun t k => by
      refine r0 t ?_
      show Steps p.tables e below (s₁.setTop (mkF m 0 #[.val (.ref a1)] [])) _
      refine XS.aloadN X0.here hx rfl (hb hby d2_0) rfl rfl ?_
      exact k
    obtain ⟨T2, X2, e2, st2⟩ := initO X0 hx hZ hown (hw _ (List.mem_of_getElem? (i := 11) rfl)) (hw _ (List.mem_of_getElem? (i := 12) rfl)) (hw _ (List.mem_of_getElem? (i := 13) rfl)) e0 (g := (mkF m 1 #[.val (.ref a1)] [(.ref a1)])) rfl (by rw [hml]; rfl) rfl (hb hby d2_1) (by decide) (W := 0) (by show 2 * 0 + _ ≤ _; exact Nat.le_of_eq rfl) (by decide)
    have r2 : own_R p.tables e below F0 (T2.setTop (mkF m 4 #[.val (.ref a1)] [])) := fun t k => r1 t (st2 t k)
    refine hG (own_fin X2 hlk (none) (fun _ => rfl) ?_ (by decide) (by decide) (fun fs hr => r2 _ (X2.returnOut hx Bd.returns (hb hby d2_4) hr)))
    rw [e2]
    refine ⟨?_, N0, rfl⟩
    rfl
  exact key _ _ id (fun t k => castTop (ef_2 m a1) k)
theorem pn_1 : plainName "com/example/ballast/ballast/coverage/LineCoverage" = true := by first | (simp [plainName, overriddenIn]; done) | decide +kernel
theorem pd_0 : parseMethodDescriptor "()V" = some ⟨[], none⟩ := by decide +kernel
theorem d1_0 : decode prog_5_method_1_code 0 = .ok (.aload_n 0, 1) := by decide +kernel
theorem d1_1 : decode prog_5_method_1_code 1 = .ok (.invokespecial 1, 3) := by decide +kernel
theorem d1_4 : decode prog_5_method_1_code 4 = .ok (.aload_n 0, 1) := by decide +kernel
theorem d1_5 : decode prog_5_method_1_code 5 = .ok (.lload_n 1, 1) := by decide +kernel
theorem d1_6 : decode prog_5_method_1_code 6 = .ok (.putfield 7, 3) := by decide +kernel
theorem d1_9 : decode prog_5_method_1_code 9 = .ok (.aload_n 0, 1) := by decide +kernel
theorem d1_10 : decode prog_5_method_1_code 10 = .ok (.lload_n 3, 1) := by decide +kernel
theorem d1_11 : decode prog_5_method_1_code 11 = .ok (.putfield 13, 3) := by decide +kernel
theorem d1_14 : decode prog_5_method_1_code 14 = .ok (.return_, 1) := by decide +kernel
theorem ef_1 (m : MethodId) (x0 : Addr) (x1 : Int64) (x2 : Int64) : entryFrame m #[(.ref x0), (.long x1), (.long x2)] 5 = mkF m 0 #[.val (.ref x0), .val (.long x1), .second, .val (.long x2), .second] [] := by first | (simp [entryFrame, mkF, argsToLocals, Value.category]; done) | rfl
def Q1 (Z : State) (a1 : Addr) (p2 : Int64) (p3 : Int64) (h0 : Heap) (n0 : Nat) (v : Option Value) (h : Heap) (L : List Loc) : Prop := v = none ∧ Fr n0 L ∧ Keep h0 h [a1] ∧ Exa Z h a1 "com/example/ballast/ballast/coverage/LineCoverage" ∧ Fld Z h a1 "com/example/ballast/ballast/coverage/LineCoverage" "covered" "J" (.long p2) ∧ Fld Z h a1 "com/example/ballast/ballast/coverage/LineCoverage" "missed" "J" (.long p3)
set_option maxRecDepth 65536 in
set_option maxHeartbeats 40000000 in
theorem rm1 (l : Launch) (Z : State) (a0 : Array Value) (hw : ∀ d ∈ tables_1, d.before a0 Z = true) (ws : List Jvm.Cond) (a1 : Addr) (p2 : Int64) (p3 : Int64) (h0 : Heap) (n0 : Nat) (Z0 : n0 ≤ h0.size) (E1 : Exa Z h0 a1 "com/example/ballast/ballast/coverage/LineCoverage") (Fp0 : Fld Z h0 a1 "com/example/ballast/ballast/coverage/LineCoverage" "covered" "J" (.long (0 : Int64))) (Fp1 : Fld Z h0 a1 "com/example/ballast/ballast/coverage/LineCoverage" "missed" "J" (.long (0 : Int64))) (ga1 : n0 ≤ a1) :
    MetFree l (⟨"com/example/ballast/ballast/coverage/LineCoverage", "<init>", "(JJ)V"⟩ : MethodName) (head1 (Jvm.Cond.code (⟨"com/example/ballast/ballast/coverage/LineCoverage", "<init>", "(JJ)V"⟩ : MethodName) prog_5_method_1_code 5 none :: ws) ({ frames := 2, cells := 0, slots := 0, locals := 24 } : Room)) (fun a U => a = #[(.ref a1), (.long p2), (.long p3)] ∧ Z.Warmed39 U.vm ∧ U.heap = h0) (fun _ _ _ _ _ => True) (fun _ U o U' => ∃ v L, o = .returned v ∧ Q1 Z a1 p2 p3 h0 n0 v U'.heap L ∧ FrameEnd U o U' L ({ frames := 2, cells := 0, slots := 0, locals := 24 } : Room).cells ({ frames := 2, cells := 0, slots := 0, locals := 24 } : Room).slots) := by
  refine MetFree.of_bodySF (plainFor_of_name pn_1) hisR ?_
  intro p e s m args below meth c s₁ Bd hml0 hP hK
  obtain ⟨rfl, hZ, hh⟩ := hP
  have hx := Bd.exec
  have hby := Bd.bytes
  have hml : c.maxLocals = 5 := hml0
  have hown : s.vm.findClass "com/example/ballast/ballast/coverage/LineCoverage" = some m.cls := findClass_of_methodNamed Bd.named
  have hnm := (name_of_methodNamed Bd.named Bd.method).1
  have hlk : meth.locks = false := BodyLoose.notSynchronized Bd
  have X0 : Stand p l e ({ frames := 2, cells := 0, slots := 0, locals := 24 } : Room) s m #[(.ref a1), (.long p2), (.long p3)] below meth c s₁ [] 0 0 := Stand.of_body Bd
  have e0 : s₁.heap = h0 := by rw [← hh, Bd.state]; rfl
  have N0 := Fr.nil n0
  have K0 : Keep h0 h0 [a1] := Keep.refl h0 _
  have key : ∀ (F0 : State) (G : Prop), (own_G p e below s F0 (Q1 Z a1 p2 p3 h0 n0) ({ frames := 2, cells := 0, slots := 0, locals := 24 } : Room).cells ({ frames := 2, cells := 0, slots := 0, locals := 24 } : Room).slots → G) → own_R p.tables e below F0 (s₁.setTop (mkF m 0 #[.val (.ref a1), .val (.long p2), .second, .val (.long p3), .second] [])) → G := by
    intro F0 G hG r0
    have r3 : own_R p.tables e below F0 (s₁.setTop (mkF m 1 #[.val (.ref a1), .val (.long p2), .second, .val (.long p3), .second] [(.ref a1)])) := fun t k => by
      refine r0 t ?_
      show Steps p.tables e below (s₁.setTop (mkF m 0 #[.val (.ref a1), .val (.long p2), .second, .val (.long p3), .second] [])) _
      refine XS.aloadN X0.here hx rfl (hb hby d1_0) rfl rfl ?_
      exact k
    obtain ⟨_, _, ⟨T4, L4, k4, n4⟩, -, X4, ⟨Lc4, hQ4, l4, y4, z4⟩, st4⟩ := X0.specialBack hx (y := (⟨"java/lang/Record", "<init>", "()V"⟩ : MethodName)) rfl hown (mvT hZ (hw _ (List.mem_of_getElem? (i := 6) rfl))) (mvT hZ (hw _ (List.mem_of_getElem? (i := 7) rfl))) (mvT hZ (hw _ (List.mem_of_getElem? (i := 10) rfl))) (by decide) (backOf (W := 0) (rm2 l Z a0 hw [] a1 h0 n0 Z0 ) hZ (hw _ (List.mem_of_getElem? (i := 10) rfl)) (hw _ (List.mem_of_getElem? (i := 9) rfl)) (by decide) (by decide)) (g := (mkF m 1 #[.val (.ref a1), .val (.long p2), .second, .val (.long p3), .second] [(.ref a1)])) rfl (by rw [hml]; rfl) (Steps.refl _) (a := a1) (argsL := []) (rest := []) (lenOf pd_0 rfl) rfl (by show 2 * 0 + _ ≤ _; exact Nat.le_of_eq rfl) (hb hby d1_1) (fun _ _ => ⟨rfl, e0, (by decide : 0 + 0 ≤ _), (by decide : 0 + 0 ≤ _)⟩)
    dsimp only [Pt.U, Pt.locs, Pt.cells, Pt.slots] at X4 l4 y4 z4 st4 hQ4
    subst l4 y4 z4
    obtain ⟨rfl, N4q, I4_0⟩ := hQ4
    have N4 := Fr.app N0 N4q
    have r4 : own_R p.tables e below F0 (T4.setTop (mkF m 4 #[.val (.ref a1), .val (.long p2), .second, .val (.long p3), .second] [])) := fun t k => r3 t (st4.trans k)
    have r5 : own_R p.tables e below F0 (T4.setTop (mkF m 6 #[.val (.ref a1), .val (.long p2), .second, .val (.long p3), .second] [(.long p2), (.ref a1)])) := fun t k => by
      refine r4 t ?_
      show Steps p.tables e below (T4.setTop (mkF m 4 #[.val (.ref a1), .val (.long p2), .second, .val (.long p3), .second] [])) _
      refine XS.aloadN X4.here hx rfl (hb hby d1_4) rfl rfl ?_
      show Steps p.tables e below (T4.setTop (mkF m 5 #[.val (.ref a1), .val (.long p2), .second, .val (.long p3), .second] [(.ref a1)])) _
      refine XS.lloadN X4.here hx rfl (hb hby d1_5) rfl ?_
      exact k
    obtain ⟨T6, h6, X6, e6, W6, st6⟩ := putF X4 hx hZ hown (host := "") (Or.inl (hw _ (List.mem_of_getElem? (i := 14) rfl))) Via.refl I4_0 Fp0 E1 (Or.inr ⟨(hw _ (List.mem_of_getElem? (i := 15) rfl)), rfl, hnm⟩) (hw _ (List.mem_of_getElem? (i := 1) rfl)) (ty := .long) (by decide) rfl rfl (g := (mkF m 6 #[.val (.ref a1), .val (.long p2), .second, .val (.long p3), .second] [(.long p2), (.ref a1)])) rfl rfl (hb hby d1_6)
    have F7 : Exa Z h6 a1 "com/example/ballast/ballast/coverage/LineCoverage" := E1.wr W6
    have F8 : Fld Z h6 a1 "com/example/ballast/ballast/coverage/LineCoverage" "covered" "J" (.long p2) := Fp0.same W6
    have F9 : Fld Z h6 a1 "com/example/ballast/ballast/coverage/LineCoverage" "missed" "J" (.long (0 : Int64)) := Fp1.other W6 (Or.inr (slot_ne (Or.inr (hw _ (List.mem_of_getElem? (i := 17) rfl))) (Or.inr (hw _ (List.mem_of_getElem? (i := 15) rfl))) (by decide) (t := .long) (t' := .long) (by decide) (by decide)))
    have Zs10 : n0 ≤ h6.size := by rw [W6.size]; exact Z0
    have N11 := Fr.snoc X6 N4 ga1
    have K12 : Keep h0 h6 [a1] := K0.wr W6 (Or.inl (List.mem_of_getElem? (i := 0) rfl))
    have r6 : own_R p.tables e below F0 (T6.setTop (mkF m 9 #[.val (.ref a1), .val (.long p2), .second, .val (.long p3), .second] [])) := fun t k => r5 t (st6 t k)
    have r13 : own_R p.tables e below F0 (T6.setTop (mkF m 11 #[.val (.ref a1), .val (.long p2), .second, .val (.long p3), .second] [(.long p3), (.ref a1)])) := fun t k => by
      refine r6 t ?_
      show Steps p.tables e below (T6.setTop (mkF m 9 #[.val (.ref a1), .val (.long p2), .second, .val (.long p3), .second] [])) _
      refine XS.aloadN X6.here hx rfl (hb hby d1_9) rfl rfl ?_
      show Steps p.tables e below (T6.setTop (mkF m 10 #[.val (.ref a1), .val (.long p2), .second, .val (.long p3), .second] [(.ref a1)])) _
      refine XS.lloadN X6.here hx rfl (hb hby d1_10) rfl ?_
      exact k
    obtain ⟨T14, h14, X14, e14, W14, st14⟩ := putF X6 hx hZ hown (host := "") (Or.inl (hw _ (List.mem_of_getElem? (i := 16) rfl))) Via.refl e6 F9 F7 (Or.inr ⟨(hw _ (List.mem_of_getElem? (i := 17) rfl)), rfl, hnm⟩) (hw _ (List.mem_of_getElem? (i := 1) rfl)) (ty := .long) (by decide) rfl rfl (g := (mkF m 11 #[.val (.ref a1), .val (.long p2), .second, .val (.long p3), .second] [(.long p3), (.ref a1)])) rfl rfl (hb hby d1_11)
    have F15 : Exa Z h14 a1 "com/example/ballast/ballast/coverage/LineCoverage" := F7.wr W14
    have F16 : Fld Z h14 a1 "com/example/ballast/ballast/coverage/LineCoverage" "covered" "J" (.long p2) := F8.other W14 (Or.inr (slot_ne (Or.inr (hw _ (List.mem_of_getElem? (i := 15) rfl))) (Or.inr (hw _ (List.mem_of_getElem? (i := 17) rfl))) (by decide) (t := .long) (t' := .long) (by decide) (by decide)))
    have F17 : Fld Z h14 a1 "com/example/ballast/ballast/coverage/LineCoverage" "missed" "J" (.long p3) := F9.same W14
    have Zs18 : n0 ≤ h14.size := by rw [W14.size]; exact Zs10
    have N19 := Fr.snoc X14 N11 ga1
    have K20 : Keep h0 h14 [a1] := K12.wr W14 (Or.inl (List.mem_of_getElem? (i := 0) rfl))
    have r14 : own_R p.tables e below F0 (T14.setTop (mkF m 14 #[.val (.ref a1), .val (.long p2), .second, .val (.long p3), .second] [])) := fun t k => r13 t (st14 t k)
    refine hG (own_fin X14 hlk (none) (fun _ => rfl) ?_ (by decide) (by decide) (fun fs hr => r14 _ (X14.returnOut hx Bd.returns (hb hby d1_14) hr)))
    rw [e14]
    refine ⟨?_, N19, K20, F15, F16, F17⟩
    rfl
  exact key _ _ id (fun t k => castTop (ef_1 m a1 p2 p3) k)
theorem d5_0 : decode prog_5_method_9_code 0 = .ok (.aload_n 0, 1) := by decide +kernel
theorem d5_1 : decode prog_5_method_9_code 1 = .ok (.getfield 7, 3) := by decide +kernel
theorem d5_4 : decode prog_5_method_9_code 4 = .ok (.lreturn, 1) := by decide +kernel
theorem ef_5 (m : MethodId) (x0 : Addr) : entryFrame m #[(.ref x0)] 1 = mkF m 0 #[.val (.ref x0)] [] := by first | (simp [entryFrame, mkF, argsToLocals, Value.category]; done) | rfl
def Q5 (Z : State) (a1 : Addr) (wc : Int64) (h0 : Heap) (n0 : Nat) (v : Option Value) (h : Heap) (L : List Loc) : Prop := v = some (.long wc) ∧ Fr n0 L ∧ h = h0
set_option maxRecDepth 65536 in
set_option maxHeartbeats 40000000 in
theorem rm5 (l : Launch) (Z : State) (a0 : Array Value) (hw : ∀ d ∈ tables_1, d.before a0 Z = true) (ws : List Jvm.Cond) (a1 : Addr) (wc : Int64) (h0 : Heap) (n0 : Nat) (Z0 : n0 ≤ h0.size) (F_wc : Fld Z h0 a1 "com/example/ballast/ballast/coverage/LineCoverage" "covered" "J" (.long wc)) :
    MetFree l (⟨"com/example/ballast/ballast/coverage/LineCoverage", "covered", "()J"⟩ : MethodName) (head1 (Jvm.Cond.code (⟨"com/example/ballast/ballast/coverage/LineCoverage", "covered", "()J"⟩ : MethodName) prog_5_method_9_code 1 (some .long) :: ws) ({ frames := 0, cells := 0, slots := 0, locals := 0 } : Room)) (fun a U => a = #[(.ref a1)] ∧ Z.Warmed39 U.vm ∧ U.heap = h0) (fun _ _ _ _ _ => True) (fun _ U o U' => ∃ v L, o = .returned v ∧ Q5 Z a1 wc h0 n0 v U'.heap L ∧ FrameEnd U o U' L ({ frames := 0, cells := 0, slots := 0, locals := 0 } : Room).cells ({ frames := 0, cells := 0, slots := 0, locals := 0 } : Room).slots) := by
  refine MetFree.of_bodySF (plainFor_of_name pn_1) hisR ?_
  intro p e s m args below meth c s₁ Bd hml0 hP hK
  obtain ⟨rfl, hZ, hh⟩ := hP
  have hx := Bd.exec
  have hby := Bd.bytes
  have hml : c.maxLocals = 1 := hml0
  have hown : s.vm.findClass "com/example/ballast/ballast/coverage/LineCoverage" = some m.cls := findClass_of_methodNamed Bd.named
  have hnm := (name_of_methodNamed Bd.named Bd.method).1
  have hlk : meth.locks = false := BodyLoose.notSynchronized Bd
  have X0 : Stand p l e ({ frames := 0, cells := 0, slots := 0, locals := 0 } : Room) s m #[(.ref a1)] below meth c s₁ [] 0 0 := Stand.of_body Bd
  have e0 : s₁.heap = h0 := by rw [← hh, Bd.state]; rfl
  have N0 := Fr.nil n0
  have K0 : Keep h0 h0 [] := Keep.refl h0 _
  have key : ∀ (F0 : State) (G : Prop), (own_G p e below s F0 (Q5 Z a1 wc h0 n0) ({ frames := 0, cells := 0, slots := 0, locals := 0 } : Room).cells ({ frames := 0, cells := 0, slots := 0, locals := 0 } : Room).slots → G) → own_R p.tables e below F0 (s₁.setTop (mkF m 0 #[.val (.ref a1)] [])) → G := by
    intro F0 G hG r0
    have r21 : own_R p.tables e below F0 (s₁.setTop (mkF m 1 #[.val (.ref a1)] [(.ref a1)])) := fun t k => by
      refine r0 t ?_
      show Steps p.tables e below (s₁.setTop (mkF m 0 #[.val (.ref a1)] [])) _
      refine XS.aloadN X0.here hx rfl (hb hby d5_0) rfl rfl ?_
      exact k
    obtain ⟨T22, X22, e22, st22⟩ := getF X0 hx hZ hown (host := "") (Or.inl (hw _ (List.mem_of_getElem? (i := 14) rfl))) Via.refl e0 F_wc (g := (mkF m 1 #[.val (.ref a1)] [(.ref a1)])) rfl rfl (hb hby d5_1)
    have r22 : own_R p.tables e below F0 (T22.setTop (mkF m 4 #[.val (.ref a1)] [(.long wc)])) := fun t k => r21 t (st22 t k)
    refine hG (own_fin X22 hlk (some (.long wc)) (own_hv Bd.returns) ?_ (by decide) (by decide) (fun fs hr => r22 _ (retOut X22 hx Bd.returns rfl (Or.inr (Or.inl ⟨rfl, rfl, _, rfl⟩)) (hb hby d5_4) hr)))
    rw [e22]
    refine ⟨?_, N0, rfl⟩
    rfl
  exact key _ _ id (fun t k => castTop (ef_5 m a1) k)
theorem d6_0 : decode prog_5_method_10_code 0 = .ok (.aload_n 0, 1) := by decide +kernel
theorem d6_1 : decode prog_5_method_10_code 1 = .ok (.getfield 13, 3) := by decide +kernel
theorem d6_4 : decode prog_5_method_10_code 4 = .ok (.lreturn, 1) := by decide +kernel
theorem ef_6 (m : MethodId) (x0 : Addr) : entryFrame m #[(.ref x0)] 1 = mkF m 0 #[.val (.ref x0)] [] := by first | (simp [entryFrame, mkF, argsToLocals, Value.category]; done) | rfl
def Q6 (Z : State) (a1 : Addr) (wm : Int64) (h0 : Heap) (n0 : Nat) (v : Option Value) (h : Heap) (L : List Loc) : Prop := v = some (.long wm) ∧ Fr n0 L ∧ h = h0
set_option maxRecDepth 65536 in
set_option maxHeartbeats 40000000 in
theorem rm6 (l : Launch) (Z : State) (a0 : Array Value) (hw : ∀ d ∈ tables_1, d.before a0 Z = true) (ws : List Jvm.Cond) (a1 : Addr) (wm : Int64) (h0 : Heap) (n0 : Nat) (Z0 : n0 ≤ h0.size) (F_wm : Fld Z h0 a1 "com/example/ballast/ballast/coverage/LineCoverage" "missed" "J" (.long wm)) :
    MetFree l (⟨"com/example/ballast/ballast/coverage/LineCoverage", "missed", "()J"⟩ : MethodName) (head1 (Jvm.Cond.code (⟨"com/example/ballast/ballast/coverage/LineCoverage", "missed", "()J"⟩ : MethodName) prog_5_method_10_code 1 (some .long) :: ws) ({ frames := 0, cells := 0, slots := 0, locals := 0 } : Room)) (fun a U => a = #[(.ref a1)] ∧ Z.Warmed39 U.vm ∧ U.heap = h0) (fun _ _ _ _ _ => True) (fun _ U o U' => ∃ v L, o = .returned v ∧ Q6 Z a1 wm h0 n0 v U'.heap L ∧ FrameEnd U o U' L ({ frames := 0, cells := 0, slots := 0, locals := 0 } : Room).cells ({ frames := 0, cells := 0, slots := 0, locals := 0 } : Room).slots) := by
  refine MetFree.of_bodySF (plainFor_of_name pn_1) hisR ?_
  intro p e s m args below meth c s₁ Bd hml0 hP hK
  obtain ⟨rfl, hZ, hh⟩ := hP
  have hx := Bd.exec
  have hby := Bd.bytes
  have hml : c.maxLocals = 1 := hml0
  have hown : s.vm.findClass "com/example/ballast/ballast/coverage/LineCoverage" = some m.cls := findClass_of_methodNamed Bd.named
  have hnm := (name_of_methodNamed Bd.named Bd.method).1
  have hlk : meth.locks = false := BodyLoose.notSynchronized Bd
  have X0 : Stand p l e ({ frames := 0, cells := 0, slots := 0, locals := 0 } : Room) s m #[(.ref a1)] below meth c s₁ [] 0 0 := Stand.of_body Bd
  have e0 : s₁.heap = h0 := by rw [← hh, Bd.state]; rfl
  have N0 := Fr.nil n0
  have K0 : Keep h0 h0 [] := Keep.refl h0 _
  have key : ∀ (F0 : State) (G : Prop), (own_G p e below s F0 (Q6 Z a1 wm h0 n0) ({ frames := 0, cells := 0, slots := 0, locals := 0 } : Room).cells ({ frames := 0, cells := 0, slots := 0, locals := 0 } : Room).slots → G) → own_R p.tables e below F0 (s₁.setTop (mkF m 0 #[.val (.ref a1)] [])) → G := by
    intro F0 G hG r0
    have r23 : own_R p.tables e below F0 (s₁.setTop (mkF m 1 #[.val (.ref a1)] [(.ref a1)])) := fun t k => by
      refine r0 t ?_
      show Steps p.tables e below (s₁.setTop (mkF m 0 #[.val (.ref a1)] [])) _
      refine XS.aloadN X0.here hx rfl (hb hby d6_0) rfl rfl ?_
      exact k
    obtain ⟨T24, X24, e24, st24⟩ := getF X0 hx hZ hown (host := "") (Or.inl (hw _ (List.mem_of_getElem? (i := 16) rfl))) Via.refl e0 F_wm (g := (mkF m 1 #[.val (.ref a1)] [(.ref a1)])) rfl rfl (hb hby d6_1)
    have r24 : own_R p.tables e below F0 (T24.setTop (mkF m 4 #[.val (.ref a1)] [(.long wm)])) := fun t k => r23 t (st24 t k)
    refine hG (own_fin X24 hlk (some (.long wm)) (own_hv Bd.returns) ?_ (by decide) (by decide) (fun fs hr => r24 _ (retOut X24 hx Bd.returns rfl (Or.inr (Or.inl ⟨rfl, rfl, _, rfl⟩)) (hb hby d6_4) hr)))
    rw [e24]
    refine ⟨?_, N0, rfl⟩
    rfl
  exact key _ _ id (fun t k => castTop (ef_6 m a1) k)
theorem pd_1 : parseMethodDescriptor "(JJ)V" = some ⟨[.long, .long], none⟩ := by decide +kernel
theorem d4_0 : decode prog_5_method_2_code 0 = .ok (.new 8, 3) := by decide +kernel
theorem d4_3 : decode prog_5_method_2_code 3 = .ok (.dup, 1) := by decide +kernel
theorem d4_4 : decode prog_5_method_2_code 4 = .ok (.aload_n 0, 1) := by decide +kernel
theorem d4_5 : decode prog_5_method_2_code 5 = .ok (.getfield 7, 3) := by decide +kernel
theorem d4_8 : decode prog_5_method_2_code 8 = .ok (.aload_n 1, 1) := by decide +kernel
theorem d4_9 : decode prog_5_method_2_code 9 = .ok (.getfield 7, 3) := by decide +kernel
theorem d4_12 : decode prog_5_method_2_code 12 = .ok (.ladd, 1) := by decide +kernel
theorem d4_13 : decode prog_5_method_2_code 13 = .ok (.aload_n 0, 1) := by decide +kernel
theorem d4_14 : decode prog_5_method_2_code 14 = .ok (.getfield 13, 3) := by decide +kernel
theorem d4_17 : decode prog_5_method_2_code 17 = .ok (.aload_n 1, 1) := by decide +kernel
theorem d4_18 : decode prog_5_method_2_code 18 = .ok (.getfield 13, 3) := by decide +kernel
theorem d4_21 : decode prog_5_method_2_code 21 = .ok (.ladd, 1) := by decide +kernel
theorem d4_22 : decode prog_5_method_2_code 22 = .ok (.invokespecial 16, 3) := by decide +kernel
theorem d4_25 : decode prog_5_method_2_code 25 = .ok (.areturn, 1) := by decide +kernel
theorem ef_4 (m : MethodId) (x0 : Addr) (x1 : Addr) : entryFrame m #[(.ref x0), (.ref x1)] 2 = mkF m 0 #[.val (.ref x0), .val (.ref x1)] [] := by first | (simp [entryFrame, mkF, argsToLocals, Value.category]; done) | rfl
def Q4 (Z : State) (a1 : Addr) (a2 : Addr) (c1 : Int64) (m1 : Int64) (c2 : Int64) (m2 : Int64) (h0 : Heap) (n0 : Nat) (v : Option Value) (h : Heap) (L : List Loc) : Prop := ∃ (b : Addr), v = some (.ref b) ∧ Fr n0 L ∧ Keep h0 h [] ∧ h0.size ≤ b ∧ Exa Z h b "com/example/ballast/ballast/coverage/LineCoverage" ∧ Fld Z h b "com/example/ballast/ballast/coverage/LineCoverage" "covered" "J" (.long (c1 + c2)) ∧ Fld Z h b "com/example/ballast/ballast/coverage/LineCoverage" "missed" "J" (.long (m1 + m2))
set_option maxRecDepth 65536 in
set_option maxHeartbeats 40000000 in
theorem rm4 (l : Launch) (Z : State) (a0 : Array Value) (hw : ∀ d ∈ tables_1, d.before a0 Z = true) (ws : List Jvm.Cond) (a1 : Addr) (a2 : Addr) (c1 : Int64) (m1 : Int64) (c2 : Int64) (m2 : Int64) (h0 : Heap) (n0 : Nat) (Z0 : n0 ≤ h0.size) (P1 : Fld Z h0 a1 "com/example/ballast/ballast/coverage/LineCoverage" "covered" "J" (.long c1)) (P2 : Fld Z h0 a1 "com/example/ballast/ballast/coverage/LineCoverage" "missed" "J" (.long m1)) (P3 : Fld Z h0 a2 "com/example/ballast/ballast/coverage/LineCoverage" "covered" "J" (.long c2)) (P4 : Fld Z h0 a2 "com/example/ballast/ballast/coverage/LineCoverage" "missed" "J" (.long m2)) :
    MetFree l (⟨"com/example/ballast/ballast/coverage/LineCoverage", "plus", "(Lcom/example/ballast/ballast/coverage/LineCoverage;)Lcom/example/ballast/ballast/coverage/LineCoverage;"⟩ : MethodName) (head1 (Jvm.Cond.code (⟨"com/example/ballast/ballast/coverage/LineCoverage", "plus", "(Lcom/example/ballast/ballast/coverage/LineCoverage;)Lcom/example/ballast/ballast/coverage/LineCoverage;"⟩ : MethodName) prog_5_method_2_code 2 (some (.object "com/example/ballast/ballast/coverage/LineCoverage")) :: ws) ({ frames := 3, cells := 1, slots := 2, locals := 41 } : Room)) (fun a U => a = #[(.ref a1), (.ref a2)] ∧ Z.Warmed39 U.vm ∧ U.heap = h0) (fun _ _ _ _ _ => True) (fun _ U o U' => ∃ v L, o = .returned v ∧ Q4 Z a1 a2 c1 m1 c2 m2 h0 n0 v U'.heap L ∧ FrameEnd U o U' L ({ frames := 3, cells := 1, slots := 2, locals := 41 } : Room).cells ({ frames := 3, cells := 1, slots := 2, locals := 41 } : Room).slots) := by
  refine MetFree.of_bodySF (plainFor_of_name pn_1) hisR ?_
  intro p e s m args below meth c s₁ Bd hml0 hP hK
  obtain ⟨rfl, hZ, hh⟩ := hP
  have hx := Bd.exec
  have hby := Bd.bytes
  have hml : c.maxLocals = 2 := hml0
  have hown : s.vm.findClass "com/example/ballast/ballast/coverage/LineCoverage" = some m.cls := findClass_of_methodNamed Bd.named
  have hnm := (name_of_methodNamed Bd.named Bd.method).1
  have hlk : meth.locks = false := BodyLoose.notSynchronized Bd
  have X0 : Stand p l e ({ frames := 3, cells := 1, slots := 2, locals := 41 } : Room) s m #[(.ref a1), (.ref a2)] below meth c s₁ [] 0 0 := Stand.of_body Bd
  have e0 : s₁.heap = h0 := by rw [← hh, Bd.state]; rfl
  have N0 := Fr.nil n0
  have K0 : Keep h0 h0 [] := Keep.refl h0 _
  have key : ∀ (F0 : State) (G : Prop), (own_G p e below s F0 (Q4 Z a1 a2 c1 m1 c2 m2 h0 n0) ({ frames := 3, cells := 1, slots := 2, locals := 41 } : Room).cells ({ frames := 3, cells := 1, slots := 2, locals := 41 } : Room).slots → G) → own_R p.tables e below F0 (s₁.setTop (mkF m 0 #[.val (.ref a1), .val (.ref a2)] [])) → G := by
    intro F0 G hG r0
    obtain ⟨T25, h25, X25, e25, E25, A25, D25, -, st25⟩ := newO X0 hx hZ hown (hw _ (List.mem_of_getElem? (i := 23) rfl)) (hw _ (List.mem_of_getElem? (i := 1) rfl)) (hw _ (List.mem_of_getElem? (i := 2) rfl)) e0 (g := (mkF m 0 #[.val (.ref a1), .val (.ref a2)] [])) rfl (hb hby d4_0) (by decide) (by decide)
    obtain ⟨b25, g25⟩ : ∃ z, z = h0.size := ⟨_, rfl⟩
    rw [← g25] at A25 D25 st25
    have ne26 : a1 ≠ b25 := Nat.ne_of_lt (Nat.lt_of_lt_of_le P1.lt (Nat.le_of_eq g25.symm))
    have ne27 : a2 ≠ b25 := Nat.ne_of_lt (Nat.lt_of_lt_of_le P3.lt (Nat.le_of_eq g25.symm))
    have ge25 : n0 ≤ b25 := Nat.le_trans Z0 (Nat.le_of_eq g25.symm)
    have old25 : h0.size ≤ b25 := Nat.le_trans K0.1 (Nat.le_of_eq g25.symm)
    have K25 : Keep h0 h25 [] := K0.ext E25
    have F28 : Fld Z h25 a1 "com/example/ballast/ballast/coverage/LineCoverage" "covered" "J" (.long c1) := P1.ext E25
    have F29 : Fld Z h25 a1 "com/example/ballast/ballast/coverage/LineCoverage" "missed" "J" (.long m1) := P2.ext E25
    have F30 : Fld Z h25 a2 "com/example/ballast/ballast/coverage/LineCoverage" "covered" "J" (.long c2) := P3.ext E25
    have F31 : Fld Z h25 a2 "com/example/ballast/ballast/coverage/LineCoverage" "missed" "J" (.long m2) := P4.ext E25
    have Zs32 : n0 ≤ h25.size := Nat.le_trans Z0 E25.1
    have F33 : Fld Z h25 b25 "com/example/ballast/ballast/coverage/LineCoverage" "covered" "J" (.long (0 : Int64)) := D25 (Or.inr (hw _ (List.mem_of_getElem? (i := 15) rfl))) (ty := .long) (by decide)
    have F34 : Fld Z h25 b25 "com/example/ballast/ballast/coverage/LineCoverage" "missed" "J" (.long (0 : Int64)) := D25 (Or.inr (hw _ (List.mem_of_getElem? (i := 17) rfl))) (ty := .long) (by decide)
    have r25 : own_R p.tables e below F0 (T25.setTop (mkF m 3 #[.val (.ref a1), .val (.ref a2)] [(.ref b25)])) := fun t k => r0 t (st25 t k)
    have r35 : own_R p.tables e below F0 (T25.setTop (mkF m 5 #[.val (.ref a1), .val (.ref a2)] [(.ref a1), (.ref b25), (.ref b25)])) := fun t k => by
      refine r25 t ?_
      show Steps p.tables e below (T25.setTop (mkF m 3 #[.val (.ref a1), .val (.ref a2)] [(.ref b25)])) _
      refine XS.dup X25.here hx rfl (hb hby d4_3) rfl rfl ?_
      show Steps p.tables e below (T25.setTop (mkF m 4 #[.val (.ref a1), .val (.ref a2)] [(.ref b25), (.ref b25)])) _
      refine XS.aloadN X25.here hx rfl (hb hby d4_4) rfl rfl ?_
      exact k
    obtain ⟨T36, X36, e36, st36⟩ := getF X25 hx hZ hown (host := "") (Or.inl (hw _ (List.mem_of_getElem? (i := 14) rfl))) Via.refl e25 F28 (g := (mkF m 5 #[.val (.ref a1), .val (.ref a2)] [(.ref a1), (.ref b25), (.ref b25)])) rfl rfl (hb hby d4_5)
    have r36 : own_R p.tables e below F0 (T36.setTop (mkF m 8 #[.val (.ref a1), .val (.ref a2)] [(.long c1), (.ref b25), (.ref b25)])) := fun t k => r35 t (st36 t k)
    have r37 : own_R p.tables e below F0 (T36.setTop (mkF m 9 #[.val (.ref a1), .val (.ref a2)] [(.ref a2), (.long c1), (.ref b25), (.ref b25)])) := fun t k => by
      refine r36 t ?_
      show Steps p.tables e below (T36.setTop (mkF m 8 #[.val (.ref a1), .val (.ref a2)] [(.long c1), (.ref b25), (.ref b25)])) _
      refine XS.aloadN X36.here hx rfl (hb hby d4_8) rfl rfl ?_
      exact k
    obtain ⟨T38, X38, e38, st38⟩ := getF X36 hx hZ hown (host := "") (Or.inl (hw _ (List.mem_of_getElem? (i := 14) rfl))) Via.refl e36 F30 (g := (mkF m 9 #[.val (.ref a1), .val (.ref a2)] [(.ref a2), (.long c1), (.ref b25), (.ref b25)])) rfl rfl (hb hby d4_9)
    have r38 : own_R p.tables e below F0 (T38.setTop (mkF m 12 #[.val (.ref a1), .val (.ref a2)] [(.long c2), (.long c1), (.ref b25), (.ref b25)])) := fun t k => r37 t (st38 t k)
    have r39 : own_R p.tables e below F0 (T38.setTop (mkF m 14 #[.val (.ref a1), .val (.ref a2)] [(.ref a1), (.long (c1 + c2)), (.ref b25), (.ref b25)])) := fun t k => by
      refine r38 t ?_
      show Steps p.tables e below (T38.setTop (mkF m 12 #[.val (.ref a1), .val (.ref a2)] [(.long c2), (.long c1), (.ref b25), (.ref b25)])) _
      refine XS.ladd X38.here hx rfl (hb hby d4_12) rfl ?_
      show Steps p.tables e below (T38.setTop (mkF m 13 #[.val (.ref a1), .val (.ref a2)] [(.long (c1 + c2)), (.ref b25), (.ref b25)])) _
      refine XS.aloadN X38.here hx rfl (hb hby d4_13) rfl rfl ?_
      exact k
    obtain ⟨T40, X40, e40, st40⟩ := getF X38 hx hZ hown (host := "") (Or.inl (hw _ (List.mem_of_getElem? (i := 16) rfl))) Via.refl e38 F29 (g := (mkF m 14 #[.val (.ref a1), .val (.ref a2)] [(.ref a1), (.long (c1 + c2)), (.ref b25), (.ref b25)])) rfl rfl (hb hby d4_14)
    have r40 : own_R p.tables e below F0 (T40.setTop (mkF m 17 #[.val (.ref a1), .val (.ref a2)] [(.long m1), (.long (c1 + c2)), (.ref b25), (.ref b25)])) := fun t k => r39 t (st40 t k)
    have r41 : own_R p.tables e below F0 (T40.setTop (mkF m 18 #[.val (.ref a1), .val (.ref a2)] [(.ref a2), (.long m1), (.long (c1 + c2)), (.ref b25), (.ref b25)])) := fun t k => by
      refine r40 t ?_
      show Steps p.tables e below (T40.setTop (mkF m 17 #[.val (.ref a1), .val (.ref a2)] [(.long m1), (.long (c1 + c2)), (.ref b25), (.ref b25)])) _
      refine XS.aloadN X40.here hx rfl (hb hby d4_17) rfl rfl ?_
      exact k
    obtain ⟨T42, X42, e42, st42⟩ := getF X40 hx hZ hown (host := "") (Or.inl (hw _ (List.mem_of_getElem? (i := 16) rfl))) Via.refl e40 F31 (g := (mkF m 18 #[.val (.ref a1), .val (.ref a2)] [(.ref a2), (.long m1), (.long (c1 + c2)), (.ref b25), (.ref b25)])) rfl rfl (hb hby d4_18)
    have r42 : own_R p.tables e below F0 (T42.setTop (mkF m 21 #[.val (.ref a1), .val (.ref a2)] [(.long m2), (.long m1), (.long (c1 + c2)), (.ref b25), (.ref b25)])) := fun t k => r41 t (st42 t k)
    have r43 : own_R p.tables e below F0 (T42.setTop (mkF m 22 #[.val (.ref a1), .val (.ref a2)] [(.long (m1 + m2)), (.long (c1 + c2)), (.ref b25), (.ref b25)])) := fun t k => by
      refine r42 t ?_
      show Steps p.tables e below (T42.setTop (mkF m 21 #[.val (.ref a1), .val (.ref a2)] [(.long m2), (.long m1), (.long (c1 + c2)), (.ref b25), (.ref b25)])) _
      refine XS.ladd X42.here hx rfl (hb hby d4_21) rfl ?_
      exact k
    obtain ⟨_, _, ⟨T44, L44, k44, n44⟩, -, X44, ⟨Lc44, hQ44, l44, y44, z44⟩, st44⟩ := X42.specialBack hx (y := (⟨"com/example/ballast/ballast/coverage/LineCoverage", "<init>", "(JJ)V"⟩ : MethodName)) rfl hown (mvT hZ (hw _ (List.mem_of_getElem? (i := 24) rfl))) (mvT hZ (hw _ (List.mem_of_getElem? (i := 4) rfl))) (mvT hZ (hw _ (List.mem_of_getElem? (i := 5) rfl))) (by decide) (backOf (W := 1) (rm1 l Z a0 hw [] b25 (c1 + c2) (m1 + m2) h25 n0 Zs32 A25 F33 F34 ge25) hZ (hw _ (List.mem_of_getElem? (i := 5) rfl)) (hw _ (List.mem_of_getElem? (i := 2) rfl)) (by decide) (by decide)) (g := (mkF m 22 #[.val (.ref a1), .val (.ref a2)] [(.long (m1 + m2)), (.long (c1 + c2)), (.ref b25), (.ref b25)])) rfl (by rw [hml]; rfl) (Steps.refl _) (a := b25) (argsL := [(.long (c1 + c2)), (.long (m1 + m2))]) (rest := [(.ref b25)]) (lenOf pd_1 rfl) rfl (by show 2 * 0 + _ ≤ _; exact Nat.le_of_eq rfl) (hb hby d4_22) (fun _ _ => ⟨rfl, e42, (by decide : 1 + 0 ≤ _), (by decide : 2 + 0 ≤ _)⟩)
    dsimp only [Pt.U, Pt.locs, Pt.cells, Pt.slots] at X44 l44 y44 z44 st44 hQ44
    subst l44 y44 z44
    obtain ⟨rfl, N44q, I44_0, I44_1, I44_2, I44_3⟩ := hQ44
    have N44 := Fr.app N0 N44q
    obtain ⟨h44, e44⟩ : ∃ z, T44.heap = z := ⟨_, rfl⟩
    rw [e44] at I44_0 I44_1 I44_2 I44_3
    have F45 : Fld Z h44 a1 "com/example/ballast/ballast/coverage/LineCoverage" "covered" "J" (.long c1) := F28.keep I44_0 (ninS ne26 nin0)
    have F46 : Fld Z h44 a1 "com/example/ballast/ballast/coverage/LineCoverage" "missed" "J" (.long m1) := F29.keep I44_0 (ninS ne26 nin0)
    have F47 : Fld Z h44 a2 "com/example/ballast/ballast/coverage/LineCoverage" "covered" "J" (.long c2) := F30.keep I44_0 (ninS ne27 nin0)
    have F48 : Fld Z h44 a2 "com/example/ballast/ballast/coverage/LineCoverage" "missed" "J" (.long m2) := F31.keep I44_0 (ninS ne27 nin0)
    have K49 : Keep h0 h44 [] := K25.trans I44_0 (allS (Or.inr old25) all0)
    have Zs50 : n0 ≤ h44.size := Nat.le_trans Zs32 I44_0.1
    have r44 : own_R p.tables e below F0 (T44.setTop (mkF m 25 #[.val (.ref a1), .val (.ref a2)] [(.ref b25)])) := fun t k => r43 t (st44.trans k)
    refine hG (own_fin X44 hlk (some (.ref b25)) (own_hv Bd.returns) ?_ (by decide) (by decide) (fun fs hr => r44 _ (retOut X44 hx Bd.returns rfl (Or.inr (Or.inr (Or.inr (Or.inr ⟨rfl, rfl, rfl⟩)))) (hb hby d4_25) hr)))
    rw [e44]
    refine ⟨b25, ?_, N44, K49, old25, I44_1, I44_2, I44_3⟩
    rfl
  exact key _ _ id (fun t k => castTop (ef_4 m a1 a2) k)
theorem pn_2 : plainName "com/example/ballast/ballast/coverage/LineCoveragePlusPinLaw" = true := by first | (simp [plainName, overriddenIn]; done) | decide +kernel
theorem pd_2 : parseMethodDescriptor "(Lcom/example/ballast/ballast/coverage/LineCoverage;)Lcom/example/ballast/ballast/coverage/LineCoverage;" = some ⟨[(.object "com/example/ballast/ballast/coverage/LineCoverage")], some (.object "com/example/ballast/ballast/coverage/LineCoverage")⟩ := by decide +kernel
theorem pd_3 : parseMethodDescriptor "()J" = some ⟨[], some .long⟩ := by decide +kernel
theorem ef_0 (m : MethodId) (x0 : Int64) (x1 : Int64) (x2 : Int64) (x3 : Int64) : entryFrame m #[(.long x0), (.long x1), (.long x2), (.long x3)] maxLocals = mkF m 0 #[.val (.long x0), .second, .val (.long x1), .second, .val (.long x2), .second, .val (.long x3), .second, .unset, .unset, .unset, .unset, .unset, .unset, .unset, .unset, .unset, .unset] [] := by first | (simp [entryFrame, mkF, argsToLocals, Value.category, maxLocals]; done) | rfl
def Q0 (Z : State) (p0s : Int64) (p1s : Int64) (p2s : Int64) (p3s : Int64) (h0 : Heap) (n0 : Nat) (v : Option Value) (h : Heap) (L : List Loc) : Prop := v = some (.int (1 : Int32)) ∧ Fr n0 L
set_option maxRecDepth 65536 in
set_option maxHeartbeats 40000000 in
theorem rm0 (l : Launch) (Z : State) (a0 : Array Value) (hw : ∀ d ∈ tables_1, d.before a0 Z = true) (ws : List Jvm.Cond) (p0s : Int64) (p1s : Int64) (p2s : Int64) (p3s : Int64) (h0 : Heap) (n0 : Nat) (Z0 : n0 ≤ h0.size) :
    MetFree l x (head1 (Jvm.Cond.code x code maxLocals ret :: ws) room_1) (fun a U => a = #[(.long p0s), (.long p1s), (.long p2s), (.long p3s)] ∧ Z.Warmed39 U.vm ∧ U.heap = h0) (fun _ _ _ _ _ => True) (fun _ U o U' => ∃ v L, o = .returned v ∧ Q0 Z p0s p1s p2s p3s h0 n0 v U'.heap L ∧ FrameEnd U o U' L 16 128) := by
  refine MetFree.of_bodySF (plainFor_of_name pn_2) hisR ?_
  intro p e s m args below meth c s₁ Bd hml0 hP hK
  obtain ⟨rfl, hZ, hh⟩ := hP
  have hx := Bd.exec
  have hby := Bd.bytes
  have hml : c.maxLocals = 18 := hml0
  have hown : s.vm.findClass "com/example/ballast/ballast/coverage/LineCoveragePlusPinLaw" = some m.cls := findClass_of_methodNamed Bd.named
  have hnm := (name_of_methodNamed Bd.named Bd.method).1
  have hlk : meth.locks = false := BodyLoose.notSynchronized Bd
  have X0 : Stand p l e room_1 s m #[(.long p0s), (.long p1s), (.long p2s), (.long p3s)] below meth c s₁ [] 0 0 := Stand.of_body Bd
  have e0 : s₁.heap = h0 := by rw [← hh, Bd.state]; rfl
  have N0 := Fr.nil n0
  have K0 : Keep h0 h0 [] := Keep.refl h0 _
  have key : ∀ (F0 : State) (G : Prop), (own_G p e below s F0 (Q0 Z p0s p1s p2s p3s h0 n0) 16 128 → G) → own_R p.tables e below F0 (s₁.setTop (mkF m 0 #[.val (.long p0s), .second, .val (.long p1s), .second, .val (.long p2s), .second, .val (.long p3s), .second, .unset, .unset, .unset, .unset, .unset, .unset, .unset, .unset, .unset, .unset] [])) → G := by
    intro F0 G hG r0
    obtain ⟨T51, h51, X51, e51, E51, A51, D51, -, st51⟩ := newO X0 hx hZ hown (hw _ (List.mem_of_getElem? (i := 0) rfl)) (hw _ (List.mem_of_getElem? (i := 1) rfl)) (hw _ (List.mem_of_getElem? (i := 2) rfl)) e0 (g := (mkF m 0 #[.val (.long p0s), .second, .val (.long p1s), .second, .val (.long p2s), .second, .val (.long p3s), .second, .unset, .unset, .unset, .unset, .unset, .unset, .unset, .unset, .unset, .unset] [])) rfl (hb hby at_0) (by decide) (by decide)
    obtain ⟨b51, g51⟩ : ∃ z, z = h0.size := ⟨_, rfl⟩
    rw [← g51] at A51 D51 st51
    have ge51 : n0 ≤ b51 := Nat.le_trans Z0 (Nat.le_of_eq g51.symm)
    have old51 : h0.size ≤ b51 := Nat.le_trans K0.1 (Nat.le_of_eq g51.symm)
    have K51 : Keep h0 h51 [] := K0.ext E51
    have Zs52 : n0 ≤ h51.size := Nat.le_trans Z0 E51.1
    have F53 : Fld Z h51 b51 "com/example/ballast/ballast/coverage/LineCoverage" "covered" "J" (.long (0 : Int64)) := D51 (Or.inr (hw _ (List.mem_of_getElem? (i := 15) rfl))) (ty := .long) (by decide)
    have F54 : Fld Z h51 b51 "com/example/ballast/ballast/coverage/LineCoverage" "missed" "J" (.long (0 : Int64)) := D51 (Or.inr (hw _ (List.mem_of_getElem? (i := 17) rfl))) (ty := .long) (by decide)
    have r51 : own_R p.tables e below F0 (T51.setTop (mkF m 3 #[.val (.long p0s), .second, .val (.long p1s), .second, .val (.long p2s), .second, .val (.long p3s), .second, .unset, .unset, .unset, .unset, .unset, .unset, .unset, .unset, .unset, .unset] [(.ref b51)])) := fun t k => r0 t (st51 t k)
    have r55 : own_R p.tables e below F0 (T51.setTop (mkF m 6 #[.val (.long p0s), .second, .val (.long p1s), .second, .val (.long p2s), .second, .val (.long p3s), .second, .unset, .unset, .unset, .unset, .unset, .unset, .unset, .unset, .unset, .unset] [(.long p1s), (.long p0s), (.ref b51), (.ref b51)])) := fun t k => by
      refine r51 t ?_
      show Steps p.tables e below (T51.setTop (mkF m 3 #[.val (.long p0s), .second, .val (.long p1s), .second, .val (.long p2s), .second, .val (.long p3s), .second, .unset, .unset, .unset, .unset, .unset, .unset, .unset, .unset, .unset, .unset] [(.ref b51)])) _
      refine XS.dup X51.here hx rfl (hb hby at_3) rfl rfl ?_
      show Steps p.tables e below (T51.setTop (mkF m 4 #[.val (.long p0s), .second, .val (.long p1s), .second, .val (.long p2s), .second, .val (.long p3s), .second, .unset, .unset, .unset, .unset, .unset, .unset, .unset, .unset, .unset, .unset] [(.ref b51), (.ref b51)])) _
      refine XS.lloadN X51.here hx rfl (hb hby at_4) rfl ?_
      show Steps p.tables e below (T51.setTop (mkF m 5 #[.val (.long p0s), .second, .val (.long p1s), .second, .val (.long p2s), .second, .val (.long p3s), .second, .unset, .unset, .unset, .unset, .unset, .unset, .unset, .unset, .unset, .unset] [(.long p0s), (.ref b51), (.ref b51)])) _
      refine XS.lloadN X51.here hx rfl (hb hby at_5) rfl ?_
      exact k
    obtain ⟨_, _, ⟨T56, L56, k56, n56⟩, -, X56, ⟨Lc56, hQ56, l56, y56, z56⟩, st56⟩ := X51.specialBack hx (y := (⟨"com/example/ballast/ballast/coverage/LineCoverage", "<init>", "(JJ)V"⟩ : MethodName)) rfl hown (mvT hZ (hw _ (List.mem_of_getElem? (i := 3) rfl))) (mvT hZ (hw _ (List.mem_of_getElem? (i := 4) rfl))) (mvT hZ (hw _ (List.mem_of_getElem? (i := 5) rfl))) (by decide) (backOf (W := 1) (rm1 l Z a0 hw [] b51 p0s p1s h51 n0 Zs52 A51 F53 F54 ge51) hZ (hw _ (List.mem_of_getElem? (i := 5) rfl)) (hw _ (List.mem_of_getElem? (i := 2) rfl)) (by decide) (by decide)) (g := (mkF m 6 #[.val (.long p0s), .second, .val (.long p1s), .second, .val (.long p2s), .second, .val (.long p3s), .second, .unset, .unset, .unset, .unset, .unset, .unset, .unset, .unset, .unset, .unset] [(.long p1s), (.long p0s), (.ref b51), (.ref b51)])) rfl (by rw [hml]; rfl) (Steps.refl _) (a := b51) (argsL := [(.long p0s), (.long p1s)]) (rest := [(.ref b51)]) (lenOf pd_1 rfl) rfl (by show 2 * 0 + _ ≤ _; exact Nat.le_of_eq rfl) (hb hby at_6) (fun _ _ => ⟨rfl, e51, (by decide : 1 + 0 ≤ _), (by decide : 2 + 0 ≤ _)⟩)
    dsimp only [Pt.U, Pt.locs, Pt.cells, Pt.slots] at X56 l56 y56 z56 st56 hQ56
    subst l56 y56 z56
    obtain ⟨rfl, N56q, I56_0, I56_1, I56_2, I56_3⟩ := hQ56
    have N56 := Fr.app N0 N56q
    obtain ⟨h56, e56⟩ : ∃ z, T56.heap = z := ⟨_, rfl⟩
    rw [e56] at I56_0 I56_1 I56_2 I56_3
    have K57 : Keep h0 h56 [] := K51.trans I56_0 (allS (Or.inr old51) all0)
    have Zs58 : n0 ≤ h56.size := Nat.le_trans Zs52 I56_0.1
    have r56 : own_R p.tables e below F0 (T56.setTop (mkF m 9 #[.val (.long p0s), .second, .val (.long p1s), .second, .val (.long p2s), .second, .val (.long p3s), .second, .unset, .unset, .unset, .unset, .unset, .unset, .unset, .unset, .unset, .unset] [(.ref b51)])) := fun t k => r55 t (st56.trans k)
    have r59 : own_R p.tables e below F0 (T56.setTop (mkF m 11 #[.val (.long p0s), .second, .val (.long p1s), .second, .val (.long p2s), .second, .val (.long p3s), .second, .val (.ref b51), .unset, .unset, .unset, .unset, .unset, .unset, .unset, .unset, .unset] [])) := fun t k => by
      refine r56 t ?_
      show Steps p.tables e below (T56.setTop (mkF m 9 #[.val (.long p0s), .second, .val (.long p1s), .second, .val (.long p2s), .second, .val (.long p3s), .second, .unset, .unset, .unset, .unset, .unset, .unset, .unset, .unset, .unset, .unset] [(.ref b51)])) _
      refine XS.astore X56.here hx rfl (hb hby at_9) rfl rfl (l' := #[.val (.long p0s), .second, .val (.long p1s), .second, .val (.long p2s), .second, .val (.long p3s), .second, .val (.ref b51), .unset, .unset, .unset, .unset, .unset, .unset, .unset, .unset, .unset]) rfl ?_
      exact k
    obtain ⟨T60, h60, X60, e60, E60, A60, D60, -, st60⟩ := newO X56 hx hZ hown (hw _ (List.mem_of_getElem? (i := 0) rfl)) (hw _ (List.mem_of_getElem? (i := 1) rfl)) (hw _ (List.mem_of_getElem? (i := 2) rfl)) e56 (g := (mkF m 11 #[.val (.long p0s), .second, .val (.long p1s), .second, .val (.long p2s), .second, .val (.long p3s), .second, .val (.ref b51), .unset, .unset, .unset, .unset, .unset, .unset, .unset, .unset, .unset] [])) rfl (hb hby at_11) (by decide) (by decide)
    obtain ⟨b60, g60⟩ : ∃ z, z = h56.size := ⟨_, rfl⟩
    rw [← g60] at A60 D60 st60
    have ne61 : b51 ≠ b60 := Nat.ne_of_lt (Nat.lt_of_lt_of_le I56_1.lt (Nat.le_of_eq g60.symm))
    have ge60 : n0 ≤ b60 := Nat.le_trans Zs58 (Nat.le_of_eq g60.symm)
    have old60 : h0.size ≤ b60 := Nat.le_trans K57.1 (Nat.le_of_eq g60.symm)
    have K60 : Keep h0 h60 [] := K57.ext E60
    have F62 : Exa Z h60 b51 "com/example/ballast/ballast/coverage/LineCoverage" := I56_1.ext E60
    have F63 : Fld Z h60 b51 "com/example/ballast/ballast/coverage/LineCoverage" "covered" "J" (.long p0s) := I56_2.ext E60
    have F64 : Fld Z h60 b51 "com/example/ballast/ballast/coverage/LineCoverage" "missed" "J" (.long p1s) := I56_3.ext E60
    have Zs65 : n0 ≤ h60.size := Nat.le_trans Zs58 E60.1
    have F66 : Fld Z h60 b60 "com/example/ballast/ballast/coverage/LineCoverage" "covered" "J" (.long (0 : Int64)) := D60 (Or.inr (hw _ (List.mem_of_getElem? (i := 15) rfl))) (ty := .long) (by decide)
    have F67 : Fld Z h60 b60 "com/example/ballast/ballast/coverage/LineCoverage" "missed" "J" (.long (0 : Int64)) := D60 (Or.inr (hw _ (List.mem_of_getElem? (i := 17) rfl))) (ty := .long) (by decide)
    have r60 : own_R p.tables e below F0 (T60.setTop (mkF m 14 #[.val (.long p0s), .second, .val (.long p1s), .second, .val (.long p2s), .second, .val (.long p3s), .second, .val (.ref b51), .unset, .unset, .unset, .unset, .unset, .unset, .unset, .unset, .unset] [(.ref b60)])) := fun t k => r59 t (st60 t k)
    have r68 : own_R p.tables e below F0 (T60.setTop (mkF m 19 #[.val (.long p0s), .second, .val (.long p1s), .second, .val (.long p2s), .second, .val (.long p3s), .second, .val (.ref b51), .unset, .unset, .unset, .unset, .unset, .unset, .unset, .unset, .unset] [(.long p3s), (.long p2s), (.ref b60), (.ref b60)])) := fun t k => by
      refine r60 t ?_
      show Steps p.tables e below (T60.setTop (mkF m 14 #[.val (.long p0s), .second, .val (.long p1s), .second, .val (.long p2s), .second, .val (.long p3s), .second, .val (.ref b51), .unset, .unset, .unset, .unset, .unset, .unset, .unset, .unset, .unset] [(.ref b60)])) _
      refine XS.dup X60.here hx rfl (hb hby at_14) rfl rfl ?_
      show Steps p.tables e below (T60.setTop (mkF m 15 #[.val (.long p0s), .second, .val (.long p1s), .second, .val (.long p2s), .second, .val (.long p3s), .second, .val (.ref b51), .unset, .unset, .unset, .unset, .unset, .unset, .unset, .unset, .unset] [(.ref b60), (.ref b60)])) _
      refine XS.lload X60.here hx rfl (hb hby at_15) rfl ?_
      show Steps p.tables e below (T60.setTop (mkF m 17 #[.val (.long p0s), .second, .val (.long p1s), .second, .val (.long p2s), .second, .val (.long p3s), .second, .val (.ref b51), .unset, .unset, .unset, .unset, .unset, .unset, .unset, .unset, .unset] [(.long p2s), (.ref b60), (.ref b60)])) _
      refine XS.lload X60.here hx rfl (hb hby at_17) rfl ?_
      exact k
    obtain ⟨_, _, ⟨T69, L69, k69, n69⟩, -, X69, ⟨Lc69, hQ69, l69, y69, z69⟩, st69⟩ := X60.specialBack hx (y := (⟨"com/example/ballast/ballast/coverage/LineCoverage", "<init>", "(JJ)V"⟩ : MethodName)) rfl hown (mvT hZ (hw _ (List.mem_of_getElem? (i := 3) rfl))) (mvT hZ (hw _ (List.mem_of_getElem? (i := 4) rfl))) (mvT hZ (hw _ (List.mem_of_getElem? (i := 5) rfl))) (by decide) (backOf (W := 1) (rm1 l Z a0 hw [] b60 p2s p3s h60 n0 Zs65 A60 F66 F67 ge60) hZ (hw _ (List.mem_of_getElem? (i := 5) rfl)) (hw _ (List.mem_of_getElem? (i := 2) rfl)) (by decide) (by decide)) (g := (mkF m 19 #[.val (.long p0s), .second, .val (.long p1s), .second, .val (.long p2s), .second, .val (.long p3s), .second, .val (.ref b51), .unset, .unset, .unset, .unset, .unset, .unset, .unset, .unset, .unset] [(.long p3s), (.long p2s), (.ref b60), (.ref b60)])) rfl (by rw [hml]; rfl) (Steps.refl _) (a := b60) (argsL := [(.long p2s), (.long p3s)]) (rest := [(.ref b60)]) (lenOf pd_1 rfl) rfl (by show 2 * 0 + _ ≤ _; exact Nat.le_of_eq rfl) (hb hby at_19) (fun _ _ => ⟨rfl, e60, (by decide : 2 + 0 ≤ _), (by decide : 4 + 0 ≤ _)⟩)
    dsimp only [Pt.U, Pt.locs, Pt.cells, Pt.slots] at X69 l69 y69 z69 st69 hQ69
    subst l69 y69 z69
    obtain ⟨rfl, N69q, I69_0, I69_1, I69_2, I69_3⟩ := hQ69
    have N69 := Fr.app N56 N69q
    obtain ⟨h69, e69⟩ : ∃ z, T69.heap = z := ⟨_, rfl⟩
    rw [e69] at I69_0 I69_1 I69_2 I69_3
    have F70 : Exa Z h69 b51 "com/example/ballast/ballast/coverage/LineCoverage" := F62.keep I69_0
    have F71 : Fld Z h69 b51 "com/example/ballast/ballast/coverage/LineCoverage" "covered" "J" (.long p0s) := F63.keep I69_0 (ninS ne61 nin0)
    have F72 : Fld Z h69 b51 "com/example/ballast/ballast/coverage/LineCoverage" "missed" "J" (.long p1s) := F64.keep I69_0 (ninS ne61 nin0)
    have K73 : Keep h0 h69 [] := K60.trans I69_0 (allS (Or.inr old60) all0)
    have Zs74 : n0 ≤ h69.size := Nat.le_trans Zs65 I69_0.1
    have r69 : own_R p.tables e below F0 (T69.setTop (mkF m 22 #[.val (.long p0s), .second, .val (.long p1s), .second, .val (.long p2s), .second, .val (.long p3s), .second, .val (.ref b51), .unset, .unset, .unset, .unset, .unset, .unset, .unset, .unset, .unset] [(.ref b60)])) := fun t k => r68 t (st69.trans k)
    have r75 : own_R p.tables e below F0 (T69.setTop (mkF m 28 #[.val (.long p0s), .second, .val (.long p1s), .second, .val (.long p2s), .second, .val (.long p3s), .second, .val (.ref b51), .val (.ref b60), .unset, .unset, .unset, .unset, .unset, .unset, .unset, .unset] [(.ref b60), (.ref b51)])) := fun t k => by
      refine r69 t ?_
      show Steps p.tables e below (T69.setTop (mkF m 22 #[.val (.long p0s), .second, .val (.long p1s), .second, .val (.long p2s), .second, .val (.long p3s), .second, .val (.ref b51), .unset, .unset, .unset, .unset, .unset, .unset, .unset, .unset, .unset] [(.ref b60)])) _
      refine XS.astore X69.here hx rfl (hb hby at_22) rfl rfl (l' := #[.val (.long p0s), .second, .val (.long p1s), .second, .val (.long p2s), .second, .val (.long p3s), .second, .val (.ref b51), .val (.ref b60), .unset, .unset, .unset, .unset, .unset, .unset, .unset, .unset]) rfl ?_
      show Steps p.tables e below (T69.setTop (mkF m 24 #[.val (.long p0s), .second, .val (.long p1s), .second, .val (.long p2s), .second, .val (.long p3s), .second, .val (.ref b51), .val (.ref b60), .unset, .unset, .unset, .unset, .unset, .unset, .unset, .unset] [])) _
      refine XS.aload X69.here hx rfl (hb hby at_24) rfl rfl ?_
      show Steps p.tables e below (T69.setTop (mkF m 26 #[.val (.long p0s), .second, .val (.long p1s), .second, .val (.long p2s), .second, .val (.long p3s), .second, .val (.ref b51), .val (.ref b60), .unset, .unset, .unset, .unset, .unset, .unset, .unset, .unset] [(.ref b51)])) _
      refine XS.aload X69.here hx rfl (hb hby at_26) rfl rfl ?_
      exact k
    obtain ⟨cq76, kq76, q76a, q76b, q76c⟩ := isOf hZ e69 F70
    obtain ⟨_, _, ⟨T76, L76, k76, n76⟩, -, X76, ⟨Lc76, hQ76, l76, y76, z76⟩, st76⟩ := X69.virtualBack hx (y := (⟨"com/example/ballast/ballast/coverage/LineCoverage", "plus", "(Lcom/example/ballast/ballast/coverage/LineCoverage;)Lcom/example/ballast/ballast/coverage/LineCoverage;"⟩ : MethodName)) (z := (⟨"com/example/ballast/ballast/coverage/LineCoverage", "plus", "(Lcom/example/ballast/ballast/coverage/LineCoverage;)Lcom/example/ballast/ballast/coverage/LineCoverage;"⟩ : MethodName)) hown (mvT hZ (hw _ (List.mem_of_getElem? (i := 18) rfl))) (mvT hZ (hw _ (List.mem_of_getElem? (i := 19) rfl))) (notFace_of_selects (args := #[]) (mvT hZ (hw _ (List.mem_of_getElem? (i := 21) rfl)))) (mvT hZ (hw _ (List.mem_of_getElem? (i := 21) rfl))) (mvT hZ (hw _ (List.mem_of_getElem? (i := 20) rfl))) (by decide) (backOf (W := 0) (rm4 l Z a0 hw [] b51 b60 (p0s) (p1s) (p2s) (p3s) h69 n0 Zs74 F71 F72 I69_2 I69_3) hZ (hw _ (List.mem_of_getElem? (i := 22) rfl)) (hw _ (List.mem_of_getElem? (i := 2) rfl)) (by decide) (by decide)) q76a q76c (g := (mkF m 28 #[.val (.long p0s), .second, .val (.long p1s), .second, .val (.long p2s), .second, .val (.long p3s), .second, .val (.ref b51), .val (.ref b60), .unset, .unset, .unset, .unset, .unset, .unset, .unset, .unset] [(.ref b60), (.ref b51)])) rfl (by rw [hml]; rfl) (Steps.refl _) (argsL := [(.ref b60)]) (rest := []) (lenOf pd_2 rfl) rfl (by show 2 * 0 + _ ≤ _; exact Nat.le_of_eq rfl) (hb hby at_28) (fun _ _ => ⟨rfl, e69, (by decide : 2 + 1 ≤ _), (by decide : 4 + 2 ≤ _)⟩)
    dsimp only [Pt.U, Pt.locs, Pt.cells, Pt.slots] at X76 l76 y76 z76 st76 hQ76
    subst l76 y76 z76
    obtain ⟨b76, rfl, N76q, I76_0, I76_1, I76_2, I76_3, I76_4⟩ := hQ76
    have N76 := Fr.app N69 N76q
    obtain ⟨h76, e76⟩ : ∃ z, T76.heap = z := ⟨_, rfl⟩
    rw [e76] at I76_0 I76_2 I76_3 I76_4
    have ne77 : b51 ≠ b76 := Nat.ne_of_lt (Nat.lt_of_lt_of_le F70.lt I76_1)
    have ne78 : b60 ≠ b76 := Nat.ne_of_lt (Nat.lt_of_lt_of_le I69_1.lt I76_1)
    have ge79 : n0 ≤ b76 := Nat.le_trans Zs74 I76_1
    have old80 : h0.size ≤ b76 := Nat.le_trans K73.1 I76_1
    have F81 : Exa Z h76 b51 "com/example/ballast/ballast/coverage/LineCoverage" := F70.keep I76_0
    have F82 : Fld Z h76 b51 "com/example/ballast/ballast/coverage/LineCoverage" "covered" "J" (.long p0s) := F71.keep I76_0 nin0
    have F83 : Fld Z h76 b51 "com/example/ballast/ballast/coverage/LineCoverage" "missed" "J" (.long p1s) := F72.keep I76_0 nin0
    have F84 : Exa Z h76 b60 "com/example/ballast/ballast/coverage/LineCoverage" := I69_1.keep I76_0
    have F85 : Fld Z h76 b60 "com/example/ballast/ballast/coverage/LineCoverage" "covered" "J" (.long p2s) := I69_2.keep I76_0 nin0
    have F86 : Fld Z h76 b60 "com/example/ballast/ballast/coverage/LineCoverage" "missed" "J" (.long p3s) := I69_3.keep I76_0 nin0
    have K87 : Keep h0 h76 [] := K73.trans I76_0 all0
    have Zs88 : n0 ≤ h76.size := Nat.le_trans Zs74 I76_0.1
    have r76 : own_R p.tables e below F0 (T76.setTop (mkF m 31 #[.val (.long p0s), .second, .val (.long p1s), .second, .val (.long p2s), .second, .val (.long p3s), .second, .val (.ref b51), .val (.ref b60), .unset, .unset, .unset, .unset, .unset, .unset, .unset, .unset] [(.ref b76)])) := fun t k => r75 t (st76.trans k)
    have r89 : own_R p.tables e below F0 (T76.setTop (mkF m 37 #[.val (.long p0s), .second, .val (.long p1s), .second, .val (.long p2s), .second, .val (.long p3s), .second, .val (.ref b51), .val (.ref b60), .val (.ref b76), .unset, .unset, .unset, .unset, .unset, .unset, .unset] [(.ref b51), (.ref b60)])) := fun t k => by
      refine r76 t ?_
      show Steps p.tables e below (T76.setTop (mkF m 31 #[.val (.long p0s), .second, .val (.long p1s), .second, .val (.long p2s), .second, .val (.long p3s), .second, .val (.ref b51), .val (.ref b60), .unset, .unset, .unset, .unset, .unset, .unset, .unset, .unset] [(.ref b76)])) _
      refine XS.astore X76.here hx rfl (hb hby at_31) rfl rfl (l' := #[.val (.long p0s), .second, .val (.long p1s), .second, .val (.long p2s), .second, .val (.long p3s), .second, .val (.ref b51), .val (.ref b60), .val (.ref b76), .unset, .unset, .unset, .unset, .unset, .unset, .unset]) rfl ?_
      show Steps p.tables e below (T76.setTop (mkF m 33 #[.val (.long p0s), .second, .val (.long p1s), .second, .val (.long p2s), .second, .val (.long p3s), .second, .val (.ref b51), .val (.ref b60), .val (.ref b76), .unset, .unset, .unset, .unset, .unset, .unset, .unset] [])) _
      refine XS.aload X76.here hx rfl (hb hby at_33) rfl rfl ?_
      show Steps p.tables e below (T76.setTop (mkF m 35 #[.val (.long p0s), .second, .val (.long p1s), .second, .val (.long p2s), .second, .val (.long p3s), .second, .val (.ref b51), .val (.ref b60), .val (.ref b76), .unset, .unset, .unset, .unset, .unset, .unset, .unset] [(.ref b60)])) _
      refine XS.aload X76.here hx rfl (hb hby at_35) rfl rfl ?_
      exact k
    obtain ⟨cq90, kq90, q90a, q90b, q90c⟩ := isOf hZ e76 F84
    obtain ⟨_, _, ⟨T90, L90, k90, n90⟩, -, X90, ⟨Lc90, hQ90, l90, y90, z90⟩, st90⟩ := X76.virtualBack hx (y := (⟨"com/example/ballast/ballast/coverage/LineCoverage", "plus", "(Lcom/example/ballast/ballast/coverage/LineCoverage;)Lcom/example/ballast/ballast/coverage/LineCoverage;"⟩ : MethodName)) (z := (⟨"com/example/ballast/ballast/coverage/LineCoverage", "plus", "(Lcom/example/ballast/ballast/coverage/LineCoverage;)Lcom/example/ballast/ballast/coverage/LineCoverage;"⟩ : MethodName)) hown (mvT hZ (hw _ (List.mem_of_getElem? (i := 18) rfl))) (mvT hZ (hw _ (List.mem_of_getElem? (i := 19) rfl))) (notFace_of_selects (args := #[]) (mvT hZ (hw _ (List.mem_of_getElem? (i := 21) rfl)))) (mvT hZ (hw _ (List.mem_of_getElem? (i := 21) rfl))) (mvT hZ (hw _ (List.mem_of_getElem? (i := 20) rfl))) (by decide) (backOf (W := 0) (rm4 l Z a0 hw [] b60 b51 (p2s) (p3s) (p0s) (p1s) h76 n0 Zs88 F85 F86 F82 F83) hZ (hw _ (List.mem_of_getElem? (i := 22) rfl)) (hw _ (List.mem_of_getElem? (i := 2) rfl)) (by decide) (by decide)) q90a q90c (g := (mkF m 37 #[.val (.long p0s), .second, .val (.long p1s), .second, .val (.long p2s), .second, .val (.long p3s), .second, .val (.ref b51), .val (.ref b60), .val (.ref b76), .unset, .unset, .unset, .unset, .unset, .unset, .unset] [(.ref b51), (.ref b60)])) rfl (by rw [hml]; rfl) (Steps.refl _) (argsL := [(.ref b51)]) (rest := []) (lenOf pd_2 rfl) rfl (by show 2 * 0 + _ ≤ _; exact Nat.le_of_eq rfl) (hb hby at_37) (fun _ _ => ⟨rfl, e76, (by decide : 3 + 1 ≤ _), (by decide : 6 + 2 ≤ _)⟩)
    dsimp only [Pt.U, Pt.locs, Pt.cells, Pt.slots] at X90 l90 y90 z90 st90 hQ90
    subst l90 y90 z90
    obtain ⟨b90, rfl, N90q, I90_0, I90_1, I90_2, I90_3, I90_4⟩ := hQ90
    have N90 := Fr.app N76 N90q
    obtain ⟨h90, e90⟩ : ∃ z, T90.heap = z := ⟨_, rfl⟩
    rw [e90] at I90_0 I90_2 I90_3 I90_4
    have ne91 : b51 ≠ b90 := Nat.ne_of_lt (Nat.lt_of_lt_of_le F81.lt I90_1)
    have ne92 : b60 ≠ b90 := Nat.ne_of_lt (Nat.lt_of_lt_of_le F84.lt I90_1)
    have ne93 : b76 ≠ b90 := Nat.ne_of_lt (Nat.lt_of_lt_of_le I76_2.lt I90_1)
    have ge94 : n0 ≤ b90 := Nat.le_trans Zs88 I90_1
    have old95 : h0.size ≤ b90 := Nat.le_trans K87.1 I90_1
    have F96 : Exa Z h90 b51 "com/example/ballast/ballast/coverage/LineCoverage" := F81.keep I90_0
    have F97 : Fld Z h90 b51 "com/example/ballast/ballast/coverage/LineCoverage" "covered" "J" (.long p0s) := F82.keep I90_0 nin0
    have F98 : Fld Z h90 b51 "com/example/ballast/ballast/coverage/LineCoverage" "missed" "J" (.long p1s) := F83.keep I90_0 nin0
    have F99 : Exa Z h90 b60 "com/example/ballast/ballast/coverage/LineCoverage" := F84.keep I90_0
    have F100 : Fld Z h90 b60 "com/example/ballast/ballast/coverage/LineCoverage" "covered" "J" (.long p2s) := F85.keep I90_0 nin0
    have F101 : Fld Z h90 b60 "com/example/ballast/ballast/coverage/LineCoverage" "missed" "J" (.long p3s) := F86.keep I90_0 nin0
    have F102 : Exa Z h90 b76 "com/example/ballast/ballast/coverage/LineCoverage" := I76_2.keep I90_0
    have F103 : Fld Z h90 b76 "com/example/ballast/ballast/coverage/LineCoverage" "covered" "J" (.long (p0s + p2s)) := I76_3.keep I90_0 nin0
    have F104 : Fld Z h90 b76 "com/example/ballast/ballast/coverage/LineCoverage" "missed" "J" (.long (p1s + p3s)) := I76_4.keep I90_0 nin0
    have K105 : Keep h0 h90 [] := K87.trans I90_0 all0
    have Zs106 : n0 ≤ h90.size := Nat.le_trans Zs88 I90_0.1
    have r90 : own_R p.tables e below F0 (T90.setTop (mkF m 40 #[.val (.long p0s), .second, .val (.long p1s), .second, .val (.long p2s), .second, .val (.long p3s), .second, .val (.ref b51), .val (.ref b60), .val (.ref b76), .unset, .unset, .unset, .unset, .unset, .unset, .unset] [(.ref b90)])) := fun t k => r89 t (st90.trans k)
    have r107 : own_R p.tables e below F0 (T90.setTop (mkF m 56 #[.val (.long p0s), .second, .val (.long p1s), .second, .val (.long p2s), .second, .val (.long p3s), .second, .val (.ref b51), .val (.ref b60), .val (.ref b76), .val (.ref b90), .val (.long (p0s + p2s)), .second, .val (.long (p1s + p3s)), .second, .unset, .unset] [(.ref b76)])) := fun t k => by
      refine r90 t ?_
      show Steps p.tables e below (T90.setTop (mkF m 40 #[.val (.long p0s), .second, .val (.long p1s), .second, .val (.long p2s), .second, .val (.long p3s), .second, .val (.ref b51), .val (.ref b60), .val (.ref b76), .unset, .unset, .unset, .unset, .unset, .unset, .unset] [(.ref b90)])) _
      refine XS.astore X90.here hx rfl (hb hby at_40) rfl rfl (l' := #[.val (.long p0s), .second, .val (.long p1s), .second, .val (.long p2s), .second, .val (.long p3s), .second, .val (.ref b51), .val (.ref b60), .val (.ref b76), .val (.ref b90), .unset, .unset, .unset, .unset, .unset, .unset]) rfl ?_
      show Steps p.tables e below (T90.setTop (mkF m 42 #[.val (.long p0s), .second, .val (.long p1s), .second, .val (.long p2s), .second, .val (.long p3s), .second, .val (.ref b51), .val (.ref b60), .val (.ref b76), .val (.ref b90), .unset, .unset, .unset, .unset, .unset, .unset] [])) _
      refine XS.lloadN X90.here hx rfl (hb hby at_42) rfl ?_
      show Steps p.tables e below (T90.setTop (mkF m 43 #[.val (.long p0s), .second, .val (.long p1s), .second, .val (.long p2s), .second, .val (.long p3s), .second, .val (.ref b51), .val (.ref b60), .val (.ref b76), .val (.ref b90), .unset, .unset, .unset, .unset, .unset, .unset] [(.long p0s)])) _
      refine XS.lload X90.here hx rfl (hb hby at_43) rfl ?_
      show Steps p.tables e below (T90.setTop (mkF m 45 #[.val (.long p0s), .second, .val (.long p1s), .second, .val (.long p2s), .second, .val (.long p3s), .second, .val (.ref b51), .val (.ref b60), .val (.ref b76), .val (.ref b90), .unset, .unset, .unset, .unset, .unset, .unset] [(.long p2s), (.long p0s)])) _
      refine XS.ladd X90.here hx rfl (hb hby at_45) rfl ?_
      show Steps p.tables e below (T90.setTop (mkF m 46 #[.val (.long p0s), .second, .val (.long p1s), .second, .val (.long p2s), .second, .val (.long p3s), .second, .val (.ref b51), .val (.ref b60), .val (.ref b76), .val (.ref b90), .unset, .unset, .unset, .unset, .unset, .unset] [(.long (p0s + p2s))])) _
      refine XS.lstore X90.here hx rfl (hb hby at_46) rfl (l' := #[.val (.long p0s), .second, .val (.long p1s), .second, .val (.long p2s), .second, .val (.long p3s), .second, .val (.ref b51), .val (.ref b60), .val (.ref b76), .val (.ref b90), .val (.long (p0s + p2s)), .second, .unset, .unset, .unset, .unset]) rfl ?_
      show Steps p.tables e below (T90.setTop (mkF m 48 #[.val (.long p0s), .second, .val (.long p1s), .second, .val (.long p2s), .second, .val (.long p3s), .second, .val (.ref b51), .val (.ref b60), .val (.ref b76), .val (.ref b90), .val (.long (p0s + p2s)), .second, .unset, .unset, .unset, .unset] [])) _
      refine XS.lloadN X90.here hx rfl (hb hby at_48) rfl ?_
      show Steps p.tables e below (T90.setTop (mkF m 49 #[.val (.long p0s), .second, .val (.long p1s), .second, .val (.long p2s), .second, .val (.long p3s), .second, .val (.ref b51), .val (.ref b60), .val (.ref b76), .val (.ref b90), .val (.long (p0s + p2s)), .second, .unset, .unset, .unset, .unset] [(.long p1s)])) _
      refine XS.lload X90.here hx rfl (hb hby at_49) rfl ?_
      show Steps p.tables e below (T90.setTop (mkF m 51 #[.val (.long p0s), .second, .val (.long p1s), .second, .val (.long p2s), .second, .val (.long p3s), .second, .val (.ref b51), .val (.ref b60), .val (.ref b76), .val (.ref b90), .val (.long (p0s + p2s)), .second, .unset, .unset, .unset, .unset] [(.long p3s), (.long p1s)])) _
      refine XS.ladd X90.here hx rfl (hb hby at_51) rfl ?_
      show Steps p.tables e below (T90.setTop (mkF m 52 #[.val (.long p0s), .second, .val (.long p1s), .second, .val (.long p2s), .second, .val (.long p3s), .second, .val (.ref b51), .val (.ref b60), .val (.ref b76), .val (.ref b90), .val (.long (p0s + p2s)), .second, .unset, .unset, .unset, .unset] [(.long (p1s + p3s))])) _
      refine XS.lstore X90.here hx rfl (hb hby at_52) rfl (l' := #[.val (.long p0s), .second, .val (.long p1s), .second, .val (.long p2s), .second, .val (.long p3s), .second, .val (.ref b51), .val (.ref b60), .val (.ref b76), .val (.ref b90), .val (.long (p0s + p2s)), .second, .val (.long (p1s + p3s)), .second, .unset, .unset]) rfl ?_
      show Steps p.tables e below (T90.setTop (mkF m 54 #[.val (.long p0s), .second, .val (.long p1s), .second, .val (.long p2s), .second, .val (.long p3s), .second, .val (.ref b51), .val (.ref b60), .val (.ref b76), .val (.ref b90), .val (.long (p0s + p2s)), .second, .val (.long (p1s + p3s)), .second, .unset, .unset] [])) _
      refine XS.aload X90.here hx rfl (hb hby at_54) rfl rfl ?_
      exact k
    obtain ⟨cq108, kq108, q108a, q108b, q108c⟩ := isOf hZ e90 F102
    obtain ⟨_, _, ⟨T108, L108, k108, n108⟩, -, X108, ⟨Lc108, hQ108, l108, y108, z108⟩, st108⟩ := X90.virtualBack hx (y := (⟨"com/example/ballast/ballast/coverage/LineCoverage", "covered", "()J"⟩ : MethodName)) (z := (⟨"com/example/ballast/ballast/coverage/LineCoverage", "covered", "()J"⟩ : MethodName)) hown (mvT hZ (hw _ (List.mem_of_getElem? (i := 25) rfl))) (mvT hZ (hw _ (List.mem_of_getElem? (i := 26) rfl))) (notFace_of_selects (args := #[]) (mvT hZ (hw _ (List.mem_of_getElem? (i := 28) rfl)))) (mvT hZ (hw _ (List.mem_of_getElem? (i := 28) rfl))) (mvT hZ (hw _ (List.mem_of_getElem? (i := 27) rfl))) (by decide) (backOf (W := 0) (rm5 l Z a0 hw [] b76 ((p0s + p2s)) h90 n0 Zs106 F103) hZ (hw _ (List.mem_of_getElem? (i := 29) rfl)) (hw _ (List.mem_of_getElem? (i := 2) rfl)) (by decide) (by decide)) q108a q108c (g := (mkF m 56 #[.val (.long p0s), .second, .val (.long p1s), .second, .val (.long p2s), .second, .val (.long p3s), .second, .val (.ref b51), .val (.ref b60), .val (.ref b76), .val (.ref b90), .val (.long (p0s + p2s)), .second, .val (.long (p1s + p3s)), .second, .unset, .unset] [(.ref b76)])) rfl (by rw [hml]; rfl) (Steps.refl _) (argsL := []) (rest := []) (lenOf pd_3 rfl) rfl (by show 2 * 0 + _ ≤ _; exact Nat.le_of_eq rfl) (hb hby at_56) (fun _ _ => ⟨rfl, e90, (by decide : 4 + 0 ≤ _), (by decide : 8 + 0 ≤ _)⟩)
    dsimp only [Pt.U, Pt.locs, Pt.cells, Pt.slots] at X108 l108 y108 z108 st108 hQ108
    subst l108 y108 z108
    obtain ⟨rfl, N108q, I108_0⟩ := hQ108
    have N108 := Fr.app N90 N108q
    have r108 : own_R p.tables e below F0 (T108.setTop (mkF m 59 #[.val (.long p0s), .second, .val (.long p1s), .second, .val (.long p2s), .second, .val (.long p3s), .second, .val (.ref b51), .val (.ref b60), .val (.ref b76), .val (.ref b90), .val (.long (p0s + p2s)), .second, .val (.long (p1s + p3s)), .second, .unset, .unset] [(.long (p0s + p2s))])) := fun t k => r107 t (st108.trans k)
    have r109 : own_R p.tables e below F0 (T108.setTop (mkF m 67 #[.val (.long p0s), .second, .val (.long p1s), .second, .val (.long p2s), .second, .val (.long p3s), .second, .val (.ref b51), .val (.ref b60), .val (.ref b76), .val (.ref b90), .val (.long (p0s + p2s)), .second, .val (.long (p1s + p3s)), .second, .unset, .unset] [(.ref b76)])) := fun t k => by
      refine r108 t ?_
      show Steps p.tables e below (T108.setTop (mkF m 59 #[.val (.long p0s), .second, .val (.long p1s), .second, .val (.long p2s), .second, .val (.long p3s), .second, .val (.ref b51), .val (.ref b60), .val (.ref b76), .val (.ref b90), .val (.long (p0s + p2s)), .second, .val (.long (p1s + p3s)), .second, .unset, .unset] [(.long (p0s + p2s))])) _
      refine XS.lload X108.here hx rfl (hb hby at_59) rfl ?_
      show Steps p.tables e below (T108.setTop (mkF m 61 #[.val (.long p0s), .second, .val (.long p1s), .second, .val (.long p2s), .second, .val (.long p3s), .second, .val (.ref b51), .val (.ref b60), .val (.ref b76), .val (.ref b90), .val (.long (p0s + p2s)), .second, .val (.long (p1s + p3s)), .second, .unset, .unset] [(.long (p0s + p2s)), (.long (p0s + p2s))])) _
      refine XS.lcmp X108.here hx rfl (hb hby at_61) rfl ?_
      show Steps p.tables e below (T108.setTop (mkF m 62 #[.val (.long p0s), .second, .val (.long p1s), .second, .val (.long p2s), .second, .val (.long p3s), .second, .val (.ref b51), .val (.ref b60), .val (.ref b76), .val (.ref b90), .val (.long (p0s + p2s)), .second, .val (.long (p1s + p3s)), .second, .unset, .unset] [(.int (lcmpW (p0s + p2s) (p0s + p2s)))])) _
      refine XS.ifNo X108.here hx rfl (hb hby at_62) rfl (own_l_eq rfl).2 ?_
      show Steps p.tables e below (T108.setTop (mkF m 65 #[.val (.long p0s), .second, .val (.long p1s), .second, .val (.long p2s), .second, .val (.long p3s), .second, .val (.ref b51), .val (.ref b60), .val (.ref b76), .val (.ref b90), .val (.long (p0s + p2s)), .second, .val (.long (p1s + p3s)), .second, .unset, .unset] [])) _
      refine XS.aload X108.here hx rfl (hb hby at_65) rfl rfl ?_
      exact k
    obtain ⟨cq110, kq110, q110a, q110b, q110c⟩ := isOf hZ I108_0 F102
    obtain ⟨_, _, ⟨T110, L110, k110, n110⟩, -, X110, ⟨Lc110, hQ110, l110, y110, z110⟩, st110⟩ := X108.virtualBack hx (y := (⟨"com/example/ballast/ballast/coverage/LineCoverage", "missed", "()J"⟩ : MethodName)) (z := (⟨"com/example/ballast/ballast/coverage/LineCoverage", "missed", "()J"⟩ : MethodName)) hown (mvT hZ (hw _ (List.mem_of_getElem? (i := 30) rfl))) (mvT hZ (hw _ (List.mem_of_getElem? (i := 31) rfl))) (notFace_of_selects (args := #[]) (mvT hZ (hw _ (List.mem_of_getElem? (i := 33) rfl)))) (mvT hZ (hw _ (List.mem_of_getElem? (i := 33) rfl))) (mvT hZ (hw _ (List.mem_of_getElem? (i := 32) rfl))) (by decide) (backOf (W := 0) (rm6 l Z a0 hw [] b76 ((p1s + p3s)) h90 n0 Zs106 F104) hZ (hw _ (List.mem_of_getElem? (i := 34) rfl)) (hw _ (List.mem_of_getElem? (i := 2) rfl)) (by decide) (by decide)) q110a q110c (g := (mkF m 67 #[.val (.long p0s), .second, .val (.long p1s), .second, .val (.long p2s), .second, .val (.long p3s), .second, .val (.ref b51), .val (.ref b60), .val (.ref b76), .val (.ref b90), .val (.long (p0s + p2s)), .second, .val (.long (p1s + p3s)), .second, .unset, .unset] [(.ref b76)])) rfl (by rw [hml]; rfl) (Steps.refl _) (argsL := []) (rest := []) (lenOf pd_3 rfl) rfl (by show 2 * 0 + _ ≤ _; exact Nat.le_of_eq rfl) (hb hby at_67) (fun _ _ => ⟨rfl, I108_0, (by decide : 4 + 0 ≤ _), (by decide : 8 + 0 ≤ _)⟩)
    dsimp only [Pt.U, Pt.locs, Pt.cells, Pt.slots] at X110 l110 y110 z110 st110 hQ110
    subst l110 y110 z110
    obtain ⟨rfl, N110q, I110_0⟩ := hQ110
    have N110 := Fr.app N108 N110q
    have r110 : own_R p.tables e below F0 (T110.setTop (mkF m 70 #[.val (.long p0s), .second, .val (.long p1s), .second, .val (.long p2s), .second, .val (.long p3s), .second, .val (.ref b51), .val (.ref b60), .val (.ref b76), .val (.ref b90), .val (.long (p0s + p2s)), .second, .val (.long (p1s + p3s)), .second, .unset, .unset] [(.long (p1s + p3s))])) := fun t k => r109 t (st110.trans k)
    have r111 : own_R p.tables e below F0 (T110.setTop (mkF m 85 #[.val (.long p0s), .second, .val (.long p1s), .second, .val (.long p2s), .second, .val (.long p3s), .second, .val (.ref b51), .val (.ref b60), .val (.ref b76), .val (.ref b90), .val (.long (p0s + p2s)), .second, .val (.long (p1s + p3s)), .second, .val (.int (1 : Int32)), .unset] [(.ref b90)])) := fun t k => by
      refine r110 t ?_
      show Steps p.tables e below (T110.setTop (mkF m 70 #[.val (.long p0s), .second, .val (.long p1s), .second, .val (.long p2s), .second, .val (.long p3s), .second, .val (.ref b51), .val (.ref b60), .val (.ref b76), .val (.ref b90), .val (.long (p0s + p2s)), .second, .val (.long (p1s + p3s)), .second, .unset, .unset] [(.long (p1s + p3s))])) _
      refine XS.lload X110.here hx rfl (hb hby at_70) rfl ?_
      show Steps p.tables e below (T110.setTop (mkF m 72 #[.val (.long p0s), .second, .val (.long p1s), .second, .val (.long p2s), .second, .val (.long p3s), .second, .val (.ref b51), .val (.ref b60), .val (.ref b76), .val (.ref b90), .val (.long (p0s + p2s)), .second, .val (.long (p1s + p3s)), .second, .unset, .unset] [(.long (p1s + p3s)), (.long (p1s + p3s))])) _
      refine XS.lcmp X110.here hx rfl (hb hby at_72) rfl ?_
      show Steps p.tables e below (T110.setTop (mkF m 73 #[.val (.long p0s), .second, .val (.long p1s), .second, .val (.long p2s), .second, .val (.long p3s), .second, .val (.ref b51), .val (.ref b60), .val (.ref b76), .val (.ref b90), .val (.long (p0s + p2s)), .second, .val (.long (p1s + p3s)), .second, .unset, .unset] [(.int (lcmpW (p1s + p3s) (p1s + p3s)))])) _
      refine XS.ifNo X110.here hx rfl (hb hby at_73) rfl (own_l_eq rfl).2 ?_
      show Steps p.tables e below (T110.setTop (mkF m 76 #[.val (.long p0s), .second, .val (.long p1s), .second, .val (.long p2s), .second, .val (.long p3s), .second, .val (.ref b51), .val (.ref b60), .val (.ref b76), .val (.ref b90), .val (.long (p0s + p2s)), .second, .val (.long (p1s + p3s)), .second, .unset, .unset] [])) _
      refine XS.iconst X110.here hx rfl (hb hby at_76) ?_
      show Steps p.tables e below (T110.setTop (mkF m 77 #[.val (.long p0s), .second, .val (.long p1s), .second, .val (.long p2s), .second, .val (.long p3s), .second, .val (.ref b51), .val (.ref b60), .val (.ref b76), .val (.ref b90), .val (.long (p0s + p2s)), .second, .val (.long (p1s + p3s)), .second, .unset, .unset] [(.int (1 : Int32))])) _
      refine XS.goto X110.here hx rfl (pc0 := 77) (pc' := 81) rfl (hb hby at_77) (by decide) (by decide) ?_
      show Steps p.tables e below (T110.setTop (mkF m 81 #[.val (.long p0s), .second, .val (.long p1s), .second, .val (.long p2s), .second, .val (.long p3s), .second, .val (.ref b51), .val (.ref b60), .val (.ref b76), .val (.ref b90), .val (.long (p0s + p2s)), .second, .val (.long (p1s + p3s)), .second, .unset, .unset] [(.int (1 : Int32))])) _
      refine XS.istore X110.here hx rfl (hb hby at_81) rfl (l' := #[.val (.long p0s), .second, .val (.long p1s), .second, .val (.long p2s), .second, .val (.long p3s), .second, .val (.ref b51), .val (.ref b60), .val (.ref b76), .val (.ref b90), .val (.long (p0s + p2s)), .second, .val (.long (p1s + p3s)), .second, .val (.int (1 : Int32)), .unset]) rfl ?_
      show Steps p.tables e below (T110.setTop (mkF m 83 #[.val (.long p0s), .second, .val (.long p1s), .second, .val (.long p2s), .second, .val (.long p3s), .second, .val (.ref b51), .val (.ref b60), .val (.ref b76), .val (.ref b90), .val (.long (p0s + p2s)), .second, .val (.long (p1s + p3s)), .second, .val (.int (1 : Int32)), .unset] [])) _
      refine XS.aload X110.here hx rfl (hb hby at_83) rfl rfl ?_
      exact k
    obtain ⟨cq112, kq112, q112a, q112b, q112c⟩ := isOf hZ I110_0 I90_2
    obtain ⟨_, _, ⟨T112, L112, k112, n112⟩, -, X112, ⟨Lc112, hQ112, l112, y112, z112⟩, st112⟩ := X110.virtualBack hx (y := (⟨"com/example/ballast/ballast/coverage/LineCoverage", "covered", "()J"⟩ : MethodName)) (z := (⟨"com/example/ballast/ballast/coverage/LineCoverage", "covered", "()J"⟩ : MethodName)) hown (mvT hZ (hw _ (List.mem_of_getElem? (i := 25) rfl))) (mvT hZ (hw _ (List.mem_of_getElem? (i := 26) rfl))) (notFace_of_selects (args := #[]) (mvT hZ (hw _ (List.mem_of_getElem? (i := 28) rfl)))) (mvT hZ (hw _ (List.mem_of_getElem? (i := 28) rfl))) (mvT hZ (hw _ (List.mem_of_getElem? (i := 27) rfl))) (by decide) (backOf (W := 0) (rm5 l Z a0 hw [] b90 ((p2s + p0s)) h90 n0 Zs106 I90_3) hZ (hw _ (List.mem_of_getElem? (i := 29) rfl)) (hw _ (List.mem_of_getElem? (i := 2) rfl)) (by decide) (by decide)) q112a q112c (g := (mkF m 85 #[.val (.long p0s), .second, .val (.long p1s), .second, .val (.long p2s), .second, .val (.long p3s), .second, .val (.ref b51), .val (.ref b60), .val (.ref b76), .val (.ref b90), .val (.long (p0s + p2s)), .second, .val (.long (p1s + p3s)), .second, .val (.int (1 : Int32)), .unset] [(.ref b90)])) rfl (by rw [hml]; rfl) (Steps.refl _) (argsL := []) (rest := []) (lenOf pd_3 rfl) rfl (by show 2 * 0 + _ ≤ _; exact Nat.le_of_eq rfl) (hb hby at_85) (fun _ _ => ⟨rfl, I110_0, (by decide : 4 + 0 ≤ _), (by decide : 8 + 0 ≤ _)⟩)
    dsimp only [Pt.U, Pt.locs, Pt.cells, Pt.slots] at X112 l112 y112 z112 st112 hQ112
    subst l112 y112 z112
    obtain ⟨rfl, N112q, I112_0⟩ := hQ112
    have N112 := Fr.app N110 N112q
    have r112 : own_R p.tables e below F0 (T112.setTop (mkF m 88 #[.val (.long p0s), .second, .val (.long p1s), .second, .val (.long p2s), .second, .val (.long p3s), .second, .val (.ref b51), .val (.ref b60), .val (.ref b76), .val (.ref b90), .val (.long (p0s + p2s)), .second, .val (.long (p1s + p3s)), .second, .val (.int (1 : Int32)), .unset] [(.long (p2s + p0s))])) := fun t k => r111 t (st112.trans k)
    have r114 : own_R p.tables e below F0 (T112.setTop (mkF m 91 #[.val (.long p0s), .second, .val (.long p1s), .second, .val (.long p2s), .second, .val (.long p3s), .second, .val (.ref b51), .val (.ref b60), .val (.ref b76), .val (.ref b90), .val (.long (p0s + p2s)), .second, .val (.long (p1s + p3s)), .second, .val (.int (1 : Int32)), .unset] [(.int (lcmpW (p2s + p0s) (p0s + p2s)))])) := fun t k => by
      refine r112 t ?_
      show Steps p.tables e below (T112.setTop (mkF m 88 #[.val (.long p0s), .second, .val (.long p1s), .second, .val (.long p2s), .second, .val (.long p3s), .second, .val (.ref b51), .val (.ref b60), .val (.ref b76), .val (.ref b90), .val (.long (p0s + p2s)), .second, .val (.long (p1s + p3s)), .second, .val (.int (1 : Int32)), .unset] [(.long (p2s + p0s))])) _
      refine XS.lload X112.here hx rfl (hb hby at_88) rfl ?_
      show Steps p.tables e below (T112.setTop (mkF m 90 #[.val (.long p0s), .second, .val (.long p1s), .second, .val (.long p2s), .second, .val (.long p3s), .second, .val (.ref b51), .val (.ref b60), .val (.ref b76), .val (.ref b90), .val (.long (p0s + p2s)), .second, .val (.long (p1s + p3s)), .second, .val (.int (1 : Int32)), .unset] [(.long (p0s + p2s)), (.long (p2s + p0s))])) _
      refine XS.lcmp X112.here hx rfl (hb hby at_90) rfl ?_
      exact k
    have hc113 : (p2s + p0s) = (p0s + p2s) := (Int64.add_comm _ _)
    have r115 : own_R p.tables e below F0 (T112.setTop (mkF m 96 #[.val (.long p0s), .second, .val (.long p1s), .second, .val (.long p2s), .second, .val (.long p3s), .second, .val (.ref b51), .val (.ref b60), .val (.ref b76), .val (.ref b90), .val (.long (p0s + p2s)), .second, .val (.long (p1s + p3s)), .second, .val (.int (1 : Int32)), .unset] [(.ref b90)])) := fun t k => by
      refine r114 t ?_
      show Steps p.tables e below (T112.setTop (mkF m 91 #[.val (.long p0s), .second, .val (.long p1s), .second, .val (.long p2s), .second, .val (.long p3s), .second, .val (.ref b51), .val (.ref b60), .val (.ref b76), .val (.ref b90), .val (.long (p0s + p2s)), .second, .val (.long (p1s + p3s)), .second, .val (.int (1 : Int32)), .unset] [(.int (lcmpW (p2s + p0s) (p0s + p2s)))])) _
      refine XS.ifNo X112.here hx rfl (hb hby at_91) rfl (own_l_eq hc113).2 ?_
      show Steps p.tables e below (T112.setTop (mkF m 94 #[.val (.long p0s), .second, .val (.long p1s), .second, .val (.long p2s), .second, .val (.long p3s), .second, .val (.ref b51), .val (.ref b60), .val (.ref b76), .val (.ref b90), .val (.long (p0s + p2s)), .second, .val (.long (p1s + p3s)), .second, .val (.int (1 : Int32)), .unset] [])) _
      refine XS.aload X112.here hx rfl (hb hby at_94) rfl rfl ?_
      exact k
    obtain ⟨cq116, kq116, q116a, q116b, q116c⟩ := isOf hZ I112_0 I90_2
    obtain ⟨_, _, ⟨T116, L116, k116, n116⟩, -, X116, ⟨Lc116, hQ116, l116, y116, z116⟩, st116⟩ := X112.virtualBack hx (y := (⟨"com/example/ballast/ballast/coverage/LineCoverage", "missed", "()J"⟩ : MethodName)) (z := (⟨"com/example/ballast/ballast/coverage/LineCoverage", "missed", "()J"⟩ : MethodName)) hown (mvT hZ (hw _ (List.mem_of_getElem? (i := 30) rfl))) (mvT hZ (hw _ (List.mem_of_getElem? (i := 31) rfl))) (notFace_of_selects (args := #[]) (mvT hZ (hw _ (List.mem_of_getElem? (i := 33) rfl)))) (mvT hZ (hw _ (List.mem_of_getElem? (i := 33) rfl))) (mvT hZ (hw _ (List.mem_of_getElem? (i := 32) rfl))) (by decide) (backOf (W := 0) (rm6 l Z a0 hw [] b90 ((p3s + p1s)) h90 n0 Zs106 I90_4) hZ (hw _ (List.mem_of_getElem? (i := 34) rfl)) (hw _ (List.mem_of_getElem? (i := 2) rfl)) (by decide) (by decide)) q116a q116c (g := (mkF m 96 #[.val (.long p0s), .second, .val (.long p1s), .second, .val (.long p2s), .second, .val (.long p3s), .second, .val (.ref b51), .val (.ref b60), .val (.ref b76), .val (.ref b90), .val (.long (p0s + p2s)), .second, .val (.long (p1s + p3s)), .second, .val (.int (1 : Int32)), .unset] [(.ref b90)])) rfl (by rw [hml]; rfl) (Steps.refl _) (argsL := []) (rest := []) (lenOf pd_3 rfl) rfl (by show 2 * 0 + _ ≤ _; exact Nat.le_of_eq rfl) (hb hby at_96) (fun _ _ => ⟨rfl, I112_0, (by decide : 4 + 0 ≤ _), (by decide : 8 + 0 ≤ _)⟩)
    dsimp only [Pt.U, Pt.locs, Pt.cells, Pt.slots] at X116 l116 y116 z116 st116 hQ116
    subst l116 y116 z116
    obtain ⟨rfl, N116q, I116_0⟩ := hQ116
    have N116 := Fr.app N112 N116q
    have r116 : own_R p.tables e below F0 (T116.setTop (mkF m 99 #[.val (.long p0s), .second, .val (.long p1s), .second, .val (.long p2s), .second, .val (.long p3s), .second, .val (.ref b51), .val (.ref b60), .val (.ref b76), .val (.ref b90), .val (.long (p0s + p2s)), .second, .val (.long (p1s + p3s)), .second, .val (.int (1 : Int32)), .unset] [(.long (p3s + p1s))])) := fun t k => r115 t (st116.trans k)
    have r118 : own_R p.tables e below F0 (T116.setTop (mkF m 102 #[.val (.long p0s), .second, .val (.long p1s), .second, .val (.long p2s), .second, .val (.long p3s), .second, .val (.ref b51), .val (.ref b60), .val (.ref b76), .val (.ref b90), .val (.long (p0s + p2s)), .second, .val (.long (p1s + p3s)), .second, .val (.int (1 : Int32)), .unset] [(.int (lcmpW (p3s + p1s) (p1s + p3s)))])) := fun t k => by
      refine r116 t ?_
      show Steps p.tables e below (T116.setTop (mkF m 99 #[.val (.long p0s), .second, .val (.long p1s), .second, .val (.long p2s), .second, .val (.long p3s), .second, .val (.ref b51), .val (.ref b60), .val (.ref b76), .val (.ref b90), .val (.long (p0s + p2s)), .second, .val (.long (p1s + p3s)), .second, .val (.int (1 : Int32)), .unset] [(.long (p3s + p1s))])) _
      refine XS.lload X116.here hx rfl (hb hby at_99) rfl ?_
      show Steps p.tables e below (T116.setTop (mkF m 101 #[.val (.long p0s), .second, .val (.long p1s), .second, .val (.long p2s), .second, .val (.long p3s), .second, .val (.ref b51), .val (.ref b60), .val (.ref b76), .val (.ref b90), .val (.long (p0s + p2s)), .second, .val (.long (p1s + p3s)), .second, .val (.int (1 : Int32)), .unset] [(.long (p1s + p3s)), (.long (p3s + p1s))])) _
      refine XS.lcmp X116.here hx rfl (hb hby at_101) rfl ?_
      exact k
    have hc117 : (p3s + p1s) = (p1s + p3s) := (Int64.add_comm _ _)
    have r119 : own_R p.tables e below F0 (T116.setTop (mkF m 127 #[.val (.long p0s), .second, .val (.long p1s), .second, .val (.long p2s), .second, .val (.long p3s), .second, .val (.ref b51), .val (.ref b60), .val (.ref b76), .val (.ref b90), .val (.long (p0s + p2s)), .second, .val (.long (p1s + p3s)), .second, .val (.int (1 : Int32)), .val (.int (1 : Int32))] [(.int (1 : Int32))])) := fun t k => by
      refine r118 t ?_
      show Steps p.tables e below (T116.setTop (mkF m 102 #[.val (.long p0s), .second, .val (.long p1s), .second, .val (.long p2s), .second, .val (.long p3s), .second, .val (.ref b51), .val (.ref b60), .val (.ref b76), .val (.ref b90), .val (.long (p0s + p2s)), .second, .val (.long (p1s + p3s)), .second, .val (.int (1 : Int32)), .unset] [(.int (lcmpW (p3s + p1s) (p1s + p3s)))])) _
      refine XS.ifNo X116.here hx rfl (hb hby at_102) rfl (own_l_eq hc117).2 ?_
      show Steps p.tables e below (T116.setTop (mkF m 105 #[.val (.long p0s), .second, .val (.long p1s), .second, .val (.long p2s), .second, .val (.long p3s), .second, .val (.ref b51), .val (.ref b60), .val (.ref b76), .val (.ref b90), .val (.long (p0s + p2s)), .second, .val (.long (p1s + p3s)), .second, .val (.int (1 : Int32)), .unset] [])) _
      refine XS.iconst X116.here hx rfl (hb hby at_105) ?_
      show Steps p.tables e below (T116.setTop (mkF m 106 #[.val (.long p0s), .second, .val (.long p1s), .second, .val (.long p2s), .second, .val (.long p3s), .second, .val (.ref b51), .val (.ref b60), .val (.ref b76), .val (.ref b90), .val (.long (p0s + p2s)), .second, .val (.long (p1s + p3s)), .second, .val (.int (1 : Int32)), .unset] [(.int (1 : Int32))])) _
      refine XS.goto X116.here hx rfl (pc0 := 106) (pc' := 110) rfl (hb hby at_106) (by decide) (by decide) ?_
      show Steps p.tables e below (T116.setTop (mkF m 110 #[.val (.long p0s), .second, .val (.long p1s), .second, .val (.long p2s), .second, .val (.long p3s), .second, .val (.ref b51), .val (.ref b60), .val (.ref b76), .val (.ref b90), .val (.long (p0s + p2s)), .second, .val (.long (p1s + p3s)), .second, .val (.int (1 : Int32)), .unset] [(.int (1 : Int32))])) _
      refine XS.istore X116.here hx rfl (hb hby at_110) rfl (l' := #[.val (.long p0s), .second, .val (.long p1s), .second, .val (.long p2s), .second, .val (.long p3s), .second, .val (.ref b51), .val (.ref b60), .val (.ref b76), .val (.ref b90), .val (.long (p0s + p2s)), .second, .val (.long (p1s + p3s)), .second, .val (.int (1 : Int32)), .val (.int (1 : Int32))]) rfl ?_
      show Steps p.tables e below (T116.setTop (mkF m 112 #[.val (.long p0s), .second, .val (.long p1s), .second, .val (.long p2s), .second, .val (.long p3s), .second, .val (.ref b51), .val (.ref b60), .val (.ref b76), .val (.ref b90), .val (.long (p0s + p2s)), .second, .val (.long (p1s + p3s)), .second, .val (.int (1 : Int32)), .val (.int (1 : Int32))] [])) _
      refine XS.iload X116.here hx rfl (hb hby at_112) rfl ?_
      show Steps p.tables e below (T116.setTop (mkF m 114 #[.val (.long p0s), .second, .val (.long p1s), .second, .val (.long p2s), .second, .val (.long p3s), .second, .val (.ref b51), .val (.ref b60), .val (.ref b76), .val (.ref b90), .val (.long (p0s + p2s)), .second, .val (.long (p1s + p3s)), .second, .val (.int (1 : Int32)), .val (.int (1 : Int32))] [(.int (1 : Int32))])) _
      refine XS.ifNo X116.here hx rfl (hb hby at_114) rfl ((if0 _ _).trans (feq (show ¬ ((1 : Int32) = (0 : Int32)) from by decide)).1) ?_
      show Steps p.tables e below (T116.setTop (mkF m 117 #[.val (.long p0s), .second, .val (.long p1s), .second, .val (.long p2s), .second, .val (.long p3s), .second, .val (.ref b51), .val (.ref b60), .val (.ref b76), .val (.ref b90), .val (.long (p0s + p2s)), .second, .val (.long (p1s + p3s)), .second, .val (.int (1 : Int32)), .val (.int (1 : Int32))] [])) _
      refine XS.iload X116.here hx rfl (hb hby at_117) rfl ?_
      show Steps p.tables e below (T116.setTop (mkF m 119 #[.val (.long p0s), .second, .val (.long p1s), .second, .val (.long p2s), .second, .val (.long p3s), .second, .val (.ref b51), .val (.ref b60), .val (.ref b76), .val (.ref b90), .val (.long (p0s + p2s)), .second, .val (.long (p1s + p3s)), .second, .val (.int (1 : Int32)), .val (.int (1 : Int32))] [(.int (1 : Int32))])) _
      refine XS.ifNo X116.here hx rfl (hb hby at_119) rfl ((if0 _ _).trans (feq (show ¬ ((1 : Int32) = (0 : Int32)) from by decide)).1) ?_
      show Steps p.tables e below (T116.setTop (mkF m 122 #[.val (.long p0s), .second, .val (.long p1s), .second, .val (.long p2s), .second, .val (.long p3s), .second, .val (.ref b51), .val (.ref b60), .val (.ref b76), .val (.ref b90), .val (.long (p0s + p2s)), .second, .val (.long (p1s + p3s)), .second, .val (.int (1 : Int32)), .val (.int (1 : Int32))] [])) _
      refine XS.iconst X116.here hx rfl (hb hby at_122) ?_
      show Steps p.tables e below (T116.setTop (mkF m 123 #[.val (.long p0s), .second, .val (.long p1s), .second, .val (.long p2s), .second, .val (.long p3s), .second, .val (.ref b51), .val (.ref b60), .val (.ref b76), .val (.ref b90), .val (.long (p0s + p2s)), .second, .val (.long (p1s + p3s)), .second, .val (.int (1 : Int32)), .val (.int (1 : Int32))] [(.int (1 : Int32))])) _
      refine XS.goto X116.here hx rfl (pc0 := 123) (pc' := 127) rfl (hb hby at_123) (by decide) (by decide) ?_
      exact k
    refine hG (own_fin X116 hlk (some (.int (nar .boolean (1 : Int32)))) (own_hv Bd.returns) ?_ (by decide) (by decide) (fun fs hr => r119 _ (retN X116 hx (t := .boolean) Bd.returns (by simp) (hb hby at_127) hr)))
    rw [I116_0]
    exact ⟨rfl, N116⟩
  exact key _ _ id (fun t k => castTop (ef_0 m p0s p1s p2s p3s) k)
set_option maxRecDepth 65536 in
set_option maxHeartbeats 40000000 in
theorem comes_1 {Post : Tables → Env → Array Value → State → Outcome → State → Prop} (hpost : ∀ tb e args s v u, (limb_1_1.after args s (.returned v) u = true ∧ limb_1_2.after args s (.returned v) u = true ∧ True) → FrameEnd s (.returned v) u (Jvm.fieldLocs frame_1_writes args s ++ Jvm.arrayLocs frame_1_arrays args s ++ Jvm.staticLocs frame_1_statics s) 16 128 → Post tb e args s (.returned v) u) :
    ArmFor flags0 classFile x code maxLocals ret World_1 tables_1 room_1 Calls_1 rest_1 Pre_1 Post := by
  intro l hfl _ _ p e ha hc hk s m args below hf hA hF happ hP
  obtain ⟨hcalls, hrest, hpre⟩ := hP
  obtain ⟨-, -, -, hnamed, -, -, -, hat⟩ := (Spec.applies_iff hf).mp happ
  obtain ⟨hg, hn⟩ := and_e (Cond.before_iff.mp (show (Jvm.Cond.and given_1 narrow_1).before args s = true from hpre))
  obtain ⟨gw1, gw2⟩ := and_e hg
  obtain ⟨gw3, gw4⟩ := and_e gw2
  obtain ⟨gw5, gw6⟩ := and_e gw4
  obtain ⟨gw7, gw8⟩ := and_e gw6
  obtain ⟨w0, w1, w2, w3, rfl⟩ : ∃ w0 w1 w2 w3 : Value, args = #[w0, w1, w2, w3] := by
    have hs : args.size = 4 := by simpa [Cond.value, given_1] using gw1
    obtain ⟨L⟩ := args
    match L, hs with
    | [w0, w1, w2, w3], _ => exact ⟨w0, w1, w2, w3, rfl⟩
  have hw := fun d (hd : d ∈ tables_1) => atoms_spec (ws := Jvm.Cond.code x code maxLocals ret :: tables_1) hat d (List.mem_cons_of_mem _ hd)
  have hfit : Fit s := fun {y c} hc i hi => by
    obtain ⟨ha, rfl⟩ := Array.getElem?_eq_some_iff.mp hc
    have q := List.all_eq_true.mp ((Array.all_eq_true_iff_forall_mem.mp hF) _ (Array.getElem_mem ha)) i (List.mem_range.mpr hi)
    simpa [Array.getElem?_eq_getElem hi] using q
  obtain ⟨i0, ei0⟩ := isL_v gw3
  obtain rfl : w0 = (.long i0) := Option.some.inj ei0
  obtain ⟨i1, ei1⟩ := isL_v gw5
  obtain rfl : w1 = (.long i1) := Option.some.inj ei1
  obtain ⟨i2, ei2⟩ := isL_v gw7
  obtain rfl : w2 = (.long i2) := Option.some.inj ei2
  obtain ⟨i3, ei3⟩ := isL_v gw8
  obtain rfl : w3 = (.long i3) := Option.some.inj ei3
  obtain ⟨n, o, h1, h2, h3, _, L, rfl, ⟨rfl, N⟩, hq⟩ := rm0 l s _ hw tables_1 i0 i1 i2 i3  s.heap s.heap.size (Nat.le_refl _)  p e ha hc hk s m _ below hf ((Spec.applies_iff_loose hf).mp happ).1 ⟨rfl, State.Warmed39.refl s, rfl⟩ trivial
  refine ⟨n, _, h1, h2, h3, hpost _ _ _ _ _ _ ⟨Cond.after_iff.mpr rfl, Cond.after_iff.mpr (eq_i res_at (Term.int_eval (1)) rfl), trivial⟩ ⟨hq.1, hq.2.1, (hq.2.2.sift fun y hy => Or.inr (N y hy)).mono (by decide) (by decide)⟩⟩
theorem main_1_1 : Claimed_1_1 := comes_1 fun _ _ _ _ _ _ h hF => ⟨h.1, hF⟩
theorem main_1_2 : Claimed_1_2 := comes_1 fun _ _ _ _ _ _ h hF => ⟨h.2.1, hF⟩
end Jvm.Pilot.@@N@@
namespace Jvm.Pilot.@@N@@
open Jvm Jvm.ClassFile Sem Op Lib Jvm.Free Jvm.Stand Jvm.Pilot.@@N@@.Jvm.D
/-! MADE BY PROGRAM (witnessworld.py) out of the Statement's table words and the real class files: 10 classes; the members and pool entries that the words name. The judged class is class 1, her method 1. -/
namespace start1
open Jvm.ClassFile
def u (s : String) : CpInfo := .utf8 (stringToUtf16 s)
/-- a pool by its gaps: so many unusable entries, then the entry; so many at the end -/
def gap : Nat → List CpInfo → List CpInfo
  | 0, r => r
  | n + 1, r => .unusable :: gap n r
def poolList (es : List (Nat × CpInfo)) (last : Nat) : List CpInfo := es.foldr (fun e r => gap e.1 (e.2 :: r)) (gap last [])
def pool (es : List (Nat × CpInfo)) (last : Nat) : Array CpInfo := ⟨poolList es last⟩
def fileOf (pool : Array CpInfo) (this : Nat) (attrs : Array Attribute := #[]) (ms : Array MethodInfo := #[]) (fl : Nat := 33) (sup : Nat := 0) (ifs : Array Nat := #[]) (fds : Array FieldInfo := #[]) : ClassFile where
  minorVersion := 0
  majorVersion := 65
  constantPool := pool
  accessFlags := fl
  thisClass := this
  superClass := sup
  interfaces := ifs
  fields := fds
  methods := ms
  attributes := attrs
def plain (name : String) (sup : Option ClassId) : Class where
  name := name
  kind := .ordinary
  loader := none
  accessFlags := 33
  super := sup
  interfaces := #[]
  cf := none
  fields := #[]
  methods := #[]
  instanceTypes := #[]
  staticTypes := #[]
  resolved := #[]
  callSites := []
  init := .initialized
  statics := none
  mirror := none

def pool0 : Array CpInfo := pool [(5, u "<init>"), (0, u "()V"), (1, .class_ 10), (1, u "java/lang/Object")] 113

def k0c0 : Code := { maxStack := 0, maxLocals := 1, code := object_method_1_code, exceptionTable := #[], attributes := #[] }
def k0m0 : Method := { name := "<init>", desc := "()V", sig := { parameters := [], returnType := none }, accessFlags := 1, code := some k0c0 }
/-- java/lang/Object -/
def k0 : Class := { plain "java/lang/Object" none with
  accessFlags := 33
  interfaces := #[]
  cf := some (fileOf pool0 8 #[] #[{ accessFlags := 1, nameIndex := 5, descriptorIndex := 6, attributes := #[] }] 33 0 #[] #[])
  fields := #[]
  methods := #[k0m0]
  instanceTypes := #[]
  staticTypes := #[]
  resolved := Array.replicate 124 none
  statics := none }

def pool1 : Array CpInfo := pool [(2, .class_ 4), (1, u "java/lang/Object"), (0, u "<init>"), (0, u "()V"), (0, .class_ 8), (0, u "com/example/ballast/ballast/coverage/LineCoverage"), (0, .methodref 7 10), (0, .nameAndType 5 11), (0, u "(JJ)V"), (0, .methodref 7 13), (0, .nameAndType 14 15), (0, u "plus"), (0, u "(Lcom/example/ballast/ballast/coverage/LineCoverage;)Lcom/example/ballast/ballast/coverage/LineCoverage;"), (0, .methodref 7 17), (0, .nameAndType 18 19), (0, u "covered"), (0, u "()J"), (0, .methodref 7 21), (0, .nameAndType 22 19), (0, u "missed"), (0, .class_ 24), (0, u "com/example/ballast/ballast/coverage/LineCoveragePlusPinLaw"), (2, u "law"), (0, u "(JJJJ)Z")] 3

def k1m0 : Method := { name := "<init>", desc := "()V", sig := { parameters := [], returnType := none }, accessFlags := 2, code := none }
def k1c1 : Code := { maxStack := 6, maxLocals := 18, code := code, exceptionTable := #[], attributes := #[] }
def k1m1 : Method := { name := "law", desc := "(JJJJ)Z", sig := { parameters := [.long, .long, .long, .long], returnType := some .boolean }, accessFlags := 9, code := some k1c1 }
/-- com/example/ballast/ballast/coverage/LineCoveragePlusPinLaw -/
def k1 : Class := { plain "com/example/ballast/ballast/coverage/LineCoveragePlusPinLaw" (some 0) with
  accessFlags := 49
  interfaces := #[]
  cf := some (fileOf pool1 23 #[] #[{ accessFlags := 2, nameIndex := 5, descriptorIndex := 6, attributes := #[] }, { accessFlags := 9, nameIndex := 27, descriptorIndex := 28, attributes := #[] }] 49 2 #[] #[])
  fields := #[]
  methods := #[k1m0, k1m1]
  instanceTypes := #[]
  staticTypes := #[]
  resolved := Array.replicate 32 none
  statics := none }

def pool2 : Array CpInfo := pool [(1, .methodref 2 3), (0, .class_ 4), (0, .nameAndType 5 6), (0, u "java/lang/Object"), (0, u "<init>"), (0, u "()V"), (0, .class_ 8), (0, u "java/lang/Record")] 13

def k2c0 : Code := { maxStack := 1, maxLocals := 1, code := jdk_30_method_1_code, exceptionTable := #[], attributes := #[] }
def k2m0 : Method := { name := "<init>", desc := "()V", sig := { parameters := [], returnType := none }, accessFlags := 4, code := some k2c0 }
/-- java/lang/Record -/
def k2 : Class := { plain "java/lang/Record" (some 0) with
  accessFlags := 1057
  interfaces := #[]
  cf := some (fileOf pool2 7 #[] #[{ accessFlags := 4, nameIndex := 5, descriptorIndex := 6, attributes := #[] }] 1057 2 #[] #[])
  fields := #[]
  methods := #[k2m0]
  instanceTypes := #[]
  staticTypes := #[]
  resolved := Array.replicate 22 none
  statics := none }

def pool3 : Array CpInfo := pool [(1, .methodref 2 3), (0, .class_ 4), (0, .nameAndType 5 6), (0, u "java/lang/Record"), (0, u "<init>"), (0, u "()V"), (0, .fieldref 8 9), (0, .class_ 10), (0, .nameAndType 11 12), (0, u "com/example/ballast/ballast/coverage/LineCoverage"), (0, u "covered"), (0, u "J"), (0, .fieldref 8 14), (0, .nameAndType 15 12), (0, u "missed"), (0, .methodref 8 17), (0, .nameAndType 5 18), (0, u "(JJ)V"), (15, u "()J"), (32, u "NONE"), (0, u "Lcom/example/ballast/ballast/coverage/LineCoverage;"), (3, u "plus"), (0, u "(Lcom/example/ballast/ballast/coverage/LineCoverage;)Lcom/example/ballast/ballast/coverage/LineCoverage;")] 28

def k3c0 : Code := { maxStack := 3, maxLocals := 5, code := prog_5_method_1_code, exceptionTable := #[], attributes := #[] }
def k3m0 : Method := { name := "<init>", desc := "(JJ)V", sig := { parameters := [.long, .long], returnType := none }, accessFlags := 1, code := some k3c0 }
def k3c1 : Code := { maxStack := 8, maxLocals := 2, code := prog_5_method_2_code, exceptionTable := #[], attributes := #[] }
def k3m1 : Method := { name := "plus", desc := "(Lcom/example/ballast/ballast/coverage/LineCoverage;)Lcom/example/ballast/ballast/coverage/LineCoverage;", sig := { parameters := [(.object "com/example/ballast/ballast/coverage/LineCoverage")], returnType := some (.object "com/example/ballast/ballast/coverage/LineCoverage") }, accessFlags := 1, code := some k3c1 }
def k3c2 : Code := { maxStack := 2, maxLocals := 1, code := prog_5_method_9_code, exceptionTable := #[], attributes := #[] }
def k3m2 : Method := { name := "covered", desc := "()J", sig := { parameters := [], returnType := some .long }, accessFlags := 1, code := some k3c2 }
def k3c3 : Code := { maxStack := 2, maxLocals := 1, code := prog_5_method_10_code, exceptionTable := #[], attributes := #[] }
def k3m3 : Method := { name := "missed", desc := "()J", sig := { parameters := [], returnType := some .long }, accessFlags := 1, code := some k3c3 }
/-- com/example/ballast/ballast/coverage/LineCoverage -/
def k3 : Class := { plain "com/example/ballast/ballast/coverage/LineCoverage" (some 2) with
  accessFlags := 49
  interfaces := #[]
  cf := some (fileOf pool3 8 #[] #[{ accessFlags := 1, nameIndex := 5, descriptorIndex := 18, attributes := #[] }, { accessFlags := 1, nameIndex := 72, descriptorIndex := 73, attributes := #[] }, { accessFlags := 1, nameIndex := 11, descriptorIndex := 34, attributes := #[] }, { accessFlags := 1, nameIndex := 15, descriptorIndex := 34, attributes := #[] }] 49 2 #[] #[{ accessFlags := 18, nameIndex := 11, descriptorIndex := 12, attributes := #[] }, { accessFlags := 18, nameIndex := 15, descriptorIndex := 12, attributes := #[] }, { accessFlags := 25, nameIndex := 67, descriptorIndex := 68, attributes := #[] }])
  fields := #[{ name := "covered", type := .long, accessFlags := 18, slot := 0, constantValue := 0 }, { name := "missed", type := .long, accessFlags := 18, slot := 1, constantValue := 0 }, { name := "NONE", type := (.object "com/example/ballast/ballast/coverage/LineCoverage"), accessFlags := 25, slot := 0, constantValue := 0 }]
  methods := #[k3m0, k3m1, k3m2, k3m3]
  instanceTypes := #[.long, .long]
  staticTypes := #[(.object "com/example/ballast/ballast/coverage/LineCoverage")]
  resolved := Array.replicate 102 none
  statics := none }

def pool4 : Array CpInfo := pool [(1, u "java/lang/Cloneable"), (0, .class_ 1), (0, u "java/lang/Object"), (0, .class_ 3)] 3

/-- java/lang/Cloneable -/
def k4 : Class := { plain "java/lang/Cloneable" (some 0) with
  accessFlags := 1537
  interfaces := #[]
  cf := some (fileOf pool4 2 #[] #[] 1537 4 #[] #[])
  fields := #[]
  methods := #[]
  instanceTypes := #[]
  staticTypes := #[]
  resolved := Array.replicate 8 none
  statics := none }

def pool5 : Array CpInfo := pool [(1, u "java/io/Serializable"), (0, .class_ 1), (0, u "java/lang/Object"), (0, .class_ 3)] 3

/-- java/io/Serializable -/
def k5 : Class := { plain "java/io/Serializable" (some 0) with
  accessFlags := 1537
  interfaces := #[]
  cf := some (fileOf pool5 2 #[] #[] 1537 4 #[] #[])
  fields := #[]
  methods := #[]
  instanceTypes := #[]
  staticTypes := #[]
  resolved := Array.replicate 8 none
  statics := none }

/-- the primitive byte -/
def k6 : Class := { plain "byte" none with kind := .primitive 'B', accessFlags := 0x411 }
/-- [B -/
def k7 : Class := { plain "[B" (some 0) with kind := .array 6 .byte, interfaces := #[4, 5], accessFlags := 1041 }

/-- the primitive int -/
def k8 : Class := { plain "int" none with kind := .primitive 'I', accessFlags := 0x411 }
/-- [I -/
def k9 : Class := { plain "[I" (some 0) with kind := .array 8 .int, interfaces := #[4, 5], accessFlags := 1041 }

def heap : Heap := #[]
def classes : Array Class := #[k0, k1, k2, k3, k4, k5, k6, k7, k8, k9]
def interned : List (Array UInt16 × Addr) := []
def slotsUsed : Nat := 0
def theMethod : MethodId := ⟨1, 1⟩
def args0 : Array Value := #[.long 5, .long 3, .long 3, .long 9]
def aboutOver (below : List Frame) : State where
  vm := { classes := classes, interned := interned.toArray }
  heap := heap
  slotsUsed := slotsUsed
  threads := #[{ frames := .invoking theMethod args0 :: below }]
def below0 : List Frame := [.native { method := ⟨0, 0⟩, args := #[] }]
def about1 : State := aboutOver below0
def p0 : Program := .bare "" "" ""
def e0 : Env := launch0.env 0 0 0
theorem w_frames : about1.frames = Frame.invoking theMethod args0 :: below0 := rfl
set_option maxRecDepth 65536 in
theorem w_args : argsFit about1.vm theMethod args0 = true := by decide +kernel
set_option maxRecDepth 65536 in
theorem w_heap : heapFits about1 = true := by decide +kernel
set_option maxRecDepth 65536 in
theorem w_runnable : about1.curStatus? = some .runnable := by decide +kernel
set_option maxRecDepth 65536 in
theorem w_alone : about1.alone = true := by decide +kernel
set_option maxRecDepth 65536 in
theorem w_named : about1.methodNamed? x = some theMethod := by decide +kernel
set_option maxRecDepth 65536 in
theorem w_hears : about1.hears theMethod below0 = true := by decide +kernel
set_option maxRecDepth 65536 in
theorem w_ripe : about1.ripe theMethod args0 below0 = true := by decide +kernel
theorem w_running : about1.status = .running := rfl
set_option maxRecDepth 65536 in
theorem w_room : about1.hasRoom e0.platform room_1 = true :=
  launch0.hasRoom_least _ room_1 (by decide +kernel) (by decide +kernel) (by decide +kernel) (by decide +kernel) (by decide +kernel) (by decide +kernel)
theorem allAtoms_all (ts : List Jvm.Cond) (a : Array Jvm.Value) (st : Jvm.State) : (allAtoms ts).before a st = ts.all (fun c => c.before a st) := by
  induction ts with
  | nil => rfl
  | cons c t ih =>
    show (Jvm.Cond.and c (allAtoms t)).before a st = _
    rw [Jvm.Cond.before_and, ih, List.all_cons]
def words1 : List Jvm.Cond := Jvm.Cond.code x code maxLocals ret :: tables_1
/-- a 'code' word, met by the world's own term for the bytes: nothing is compared byte by byte -/
theorem code_word {y : MethodName} {bytes : ByteArray} {mx : Nat} {rt : Option FieldType} {a : Array Value} {s : State} {m : MethodId} {meth : Method} {c : Code} (h1 : s.methodNamed? y = some m) (h2 : s.vm.method? m = some meth) (h3 : meth.code = some c) (h4 : c.code = bytes)
    (h5 : (c.maxLocals == mx && c.exceptionTable.isEmpty && decide (c.maxStack ≤ mostOperands) && decide (meth.sig.returnType = rt) && !meth.locks && decide (parseMethodDescriptor y.desc = some meth.sig)) = true) : (Jvm.Cond.code y bytes mx rt).before a s = true := by
  simp only [Bool.and_eq_true, beq_iff_eq, Bool.not_eq_true', decide_eq_true_eq] at h5
  obtain ⟨⟨⟨⟨⟨g1, g2⟩, g3⟩, g4⟩, g5⟩, g6⟩ := h5
  simp [Cond.before, Cond.holds, Cond.value, h1, h2, h3, h4, g1, g2, g3, g4, g5, g6]
def isCode : Jvm.Cond → Bool
  | .code _ _ _ _ => true
  | _ => false
theorem all_split {L : List Jvm.Cond} {P : Jvm.Cond → Bool} (h1 : L.all (fun c => isCode c || P c) = true) (h2 : ∀ c ∈ L.filter isCode, P c = true) : L.all P = true := by
  refine List.all_eq_true.mpr fun c hc => ?_
  have h := List.all_eq_true.mp h1 c hc
  rcases Bool.eq_false_or_eq_true (isCode c) with hi | hi
  · exact h2 c (List.mem_filter.mpr ⟨hc, hi⟩)
  · simpa [hi] using h
set_option maxRecDepth 65536 in
theorem w_c0 : (Jvm.Cond.code x code maxLocals ret).before args0 about1 = true := code_word (m := ⟨1, 1⟩) (meth := k1m1) (c := k1c1) (by decide +kernel) rfl rfl rfl (by decide +kernel)
set_option maxRecDepth 65536 in
theorem w_c1 : (Jvm.Cond.code ({ cls := "com/example/ballast/ballast/coverage/LineCoverage", name := "<init>", desc := "(JJ)V" } : Jvm.MethodName) prog_5_method_1_code (5 : Nat) (Option.none : Option Jvm.ClassFile.FieldType)).before args0 about1 = true := code_word (m := ⟨3, 0⟩) (meth := k3m0) (c := k3c0) (by decide +kernel) rfl rfl rfl (by decide +kernel)
set_option maxRecDepth 65536 in
theorem w_c2 : (Jvm.Cond.code ({ cls := "java/lang/Record", name := "<init>", desc := "()V" } : Jvm.MethodName) jdk_30_method_1_code (1 : Nat) (Option.none : Option Jvm.ClassFile.FieldType)).before args0 about1 = true := code_word (m := ⟨2, 0⟩) (meth := k2m0) (c := k2c0) (by decide +kernel) rfl rfl rfl (by decide +kernel)
set_option maxRecDepth 65536 in
theorem w_c3 : (Jvm.Cond.code ({ cls := "java/lang/Object", name := "<init>", desc := "()V" } : Jvm.MethodName) object_method_1_code (1 : Nat) (Option.none : Option Jvm.ClassFile.FieldType)).before args0 about1 = true := code_word (m := ⟨0, 0⟩) (meth := k0m0) (c := k0c0) (by decide +kernel) rfl rfl rfl (by decide +kernel)
set_option maxRecDepth 65536 in
theorem w_c4 : (Jvm.Cond.code ({ cls := "com/example/ballast/ballast/coverage/LineCoverage", name := "plus", desc := "(Lcom/example/ballast/ballast/coverage/LineCoverage;)Lcom/example/ballast/ballast/coverage/LineCoverage;" } : Jvm.MethodName) prog_5_method_2_code (2 : Nat) (Option.some (Jvm.ClassFile.FieldType.object "com/example/ballast/ballast/coverage/LineCoverage"))).before args0 about1 = true := code_word (m := ⟨3, 1⟩) (meth := k3m1) (c := k3c1) (by decide +kernel) rfl rfl rfl (by decide +kernel)
set_option maxRecDepth 65536 in
theorem w_c5 : (Jvm.Cond.code ({ cls := "com/example/ballast/ballast/coverage/LineCoverage", name := "covered", desc := "()J" } : Jvm.MethodName) prog_5_method_9_code (1 : Nat) (Option.some Jvm.ClassFile.FieldType.long)).before args0 about1 = true := code_word (m := ⟨3, 2⟩) (meth := k3m2) (c := k3c2) (by decide +kernel) rfl rfl rfl (by decide +kernel)
set_option maxRecDepth 65536 in
theorem w_c6 : (Jvm.Cond.code ({ cls := "com/example/ballast/ballast/coverage/LineCoverage", name := "missed", desc := "()J" } : Jvm.MethodName) prog_5_method_10_code (1 : Nat) (Option.some Jvm.ClassFile.FieldType.long)).before args0 about1 = true := code_word (m := ⟨3, 3⟩) (meth := k3m3) (c := k3c3) (by decide +kernel) rfl rfl rfl (by decide +kernel)
def codes1 : List Jvm.Cond := [Jvm.Cond.code x code maxLocals ret, Jvm.Cond.code ({ cls := "com/example/ballast/ballast/coverage/LineCoverage", name := "<init>", desc := "(JJ)V" } : Jvm.MethodName) prog_5_method_1_code (5 : Nat) (Option.none : Option Jvm.ClassFile.FieldType), Jvm.Cond.code ({ cls := "java/lang/Record", name := "<init>", desc := "()V" } : Jvm.MethodName) jdk_30_method_1_code (1 : Nat) (Option.none : Option Jvm.ClassFile.FieldType), Jvm.Cond.code ({ cls := "java/lang/Object", name := "<init>", desc := "()V" } : Jvm.MethodName) object_method_1_code (1 : Nat) (Option.none : Option Jvm.ClassFile.FieldType), Jvm.Cond.code ({ cls := "com/example/ballast/ballast/coverage/LineCoverage", name := "plus", desc := "(Lcom/example/ballast/ballast/coverage/LineCoverage;)Lcom/example/ballast/ballast/coverage/LineCoverage;" } : Jvm.MethodName) prog_5_method_2_code (2 : Nat) (Option.some (Jvm.ClassFile.FieldType.object "com/example/ballast/ballast/coverage/LineCoverage")), Jvm.Cond.code ({ cls := "com/example/ballast/ballast/coverage/LineCoverage", name := "covered", desc := "()J" } : Jvm.MethodName) prog_5_method_9_code (1 : Nat) (Option.some Jvm.ClassFile.FieldType.long), Jvm.Cond.code ({ cls := "com/example/ballast/ballast/coverage/LineCoverage", name := "missed", desc := "()J" } : Jvm.MethodName) prog_5_method_10_code (1 : Nat) (Option.some Jvm.ClassFile.FieldType.long)]
set_option maxRecDepth 65536 in
theorem codes_eq : words1.filter isCode = codes1 := rfl
theorem w_codes : ∀ c ∈ words1.filter isCode, c.before args0 about1 = true := by
  rw [codes_eq]
  intro c hc
  simp only [codes1, List.mem_cons, List.not_mem_nil, or_false] at hc
  rcases hc with rfl | rfl | rfl | rfl | rfl | rfl | rfl
  · exact w_c0
  · exact w_c1
  · exact w_c2
  · exact w_c3
  · exact w_c4
  · exact w_c5
  · exact w_c6
set_option maxRecDepth 65536 in
theorem w_t1 : (words1.take 24).all (fun c => isCode c || c.before args0 about1) = true := by decide +kernel
set_option maxRecDepth 65536 in
theorem w_t2 : (words1.drop 24).all (fun c => isCode c || c.before args0 about1) = true := by decide +kernel
theorem w_tables : (allAtoms (Jvm.Cond.code x code maxLocals ret :: tables_1)).before args0 about1 = true := by
  rw [allAtoms_all]
  show words1.all (fun c => c.before args0 about1) = true
  refine all_split ?_ w_codes
  rw [← List.take_append_drop 24 words1, List.all_append, w_t1, w_t2]
  rfl
set_option maxRecDepth 65536 in
theorem w_case : (Jvm.Cond.and given_1 narrow_1).before args0 about1 = true := by decide +kernel
theorem w_applies : (headSpec (Jvm.Cond.code x code maxLocals ret :: tables_1) room_1).applies x e0.platform about1 = true :=
  (Spec.applies_iff w_frames).mpr ⟨w_running, w_runnable, w_alone, w_named, w_hears, w_ripe, w_room, w_tables⟩
theorem atStart : AtStart classFile x code maxLocals ret World_1 tables_1 room_1 Calls_1 rest_1 Pre_1 launch0 p0 e0 about1 theMethod args0 below0 :=
  ⟨lists_1, trivial, launch0.admits_env _ _ _, launch0.least_env, fairChoices_fair.cas, fairChoices_fair.clock, w_frames, w_args, w_heap, w_applies, trivial, trivial, w_case⟩
end start1
theorem witness_1 : WitnessClaimed_1 := ⟨start1.p0, start1.e0, start1.about1, start1.theMethod, start1.args0, start1.below0, start1.atStart⟩
end Jvm.Pilot.@@N@@
