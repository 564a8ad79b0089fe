import JvmDerived
import JvmDerived.Pilot.@@N@@Statement
import JvmDerived.Pilot.@@N@@Code
set_option linter.unusedVariables false
set_option linter.unusedSimpArgs false
namespace Jvm.Pilot.@@N@@
open Jvm Jvm.ClassFile Sem Op Lib Jvm.Free Jvm.Stand Jvm.LawKit Jvm.RoadKit Bundle Jvm.Pilot.@@N@@.Jvm.D
-- OWN KIT (mine): reach, finish, weakening of the counters, arrays by a function, arithmetic in omega's form
abbrev own_R (tb : Tables) (e : Env) (below : List Frame) (F0 F : State) : Prop := ∀ t, Steps tb e below F t → Steps tb e below F0 t
abbrev own_G (p : Program) (e : Env) (below : List Frame) (s F0 : State) (Q : Option Value → Heap → List Loc → Prop) (kc ks : Nat) : Prop :=
  ∃ s₂ o, Steps p.tables e below F0 s₂ ∧ s₂.status = .running ∧ Ended s₂ below o ∧ ∃ v L, o = .returned v ∧ Q v s₂.heap L ∧ FrameEnd s o s₂ L kc ks
section OwnKit
variable {p : Program} {l : Launch} {e : Env} {R : Room} {s : State} {m : MethodId} {args : Array Value} {below : List Frame} {meth : Method} {c : Code} {T : State} {locs : List Loc} {cells slots : Nat}
theorem own_fin (X : Stand p l e R s m args below meth c T locs cells slots) (hl : meth.locks = false) {F0 : State} {Q : Option Value → Heap → List Loc → Prop} {kc ks : Nat} (v : Option Value) (hv : meth.sig.returnType = none → v = none) (hq : Q v T.heap locs) (hc : cells ≤ kc) (hs : slots ≤ ks)
    (st : ∀ fs, (∀ (f : JFrame) (acts : List Action), f.method = m → f.locked = none → f.entered = [] → (doReturn e (T.setTop f) acts v).1 = T.setFrames fs) → Steps p.tables e below F0 (T.setFrames fs)) : own_G p e below s F0 Q kc ks := by
  obtain ⟨fs, hr, hrun, hended, hW, hsame⟩ := X.leave hv hl
  exact ⟨_, _, st fs hr, hrun, hended, _, _, rfl, hq, ⟨_, rfl⟩, hW, hsame.mono hc hs⟩
theorem own_mono (X : Stand p l e R s m args below meth c T locs cells slots) {c' s' : Nat} (hc : cells ≤ c') (hs : slots ≤ s') : Stand p l e R s m args below meth c T locs c' s' := { X with same := X.same.mono hc hs }
end OwnKit
theorem own_hv {meth : Method} {t : FieldType} {v : Option Value} (h : meth.sig.returnType = some t) : meth.sig.returnType = none → v = none := fun q => by rw [h] at q; cases q
theorem own_lt32 {a b : Int32} (h : a < b) : a.toInt < b.toInt := Int32.lt_iff_toInt_lt.mp h
theorem own_nlt32 {a b : Int32} (h : ¬ a < b) : b.toInt ≤ a.toInt := Int.not_lt.mp fun q => h (Int32.lt_iff_toInt_lt.mpr q)
theorem own_eq32 {a b : Int32} (h : a = b) : a.toInt = b.toInt := congrArg Int32.toInt h
theorem own_ne32 {a b : Int32} (h : ¬ a = b) : a.toInt ≠ b.toInt := fun q => h (Int32.toInt_inj.mp q)
theorem own_lt64 {a b : Int64} (h : a < b) : a.toInt < b.toInt := Int64.lt_iff_toInt_lt.mp h
theorem own_nlt64 {a b : Int64} (h : ¬ a < b) : b.toInt ≤ a.toInt := Int.not_lt.mp fun q => h (Int64.lt_iff_toInt_lt.mpr q)
theorem own_eq64 {a b : Int64} (h : a = b) : a.toInt = b.toInt := congrArg Int64.toInt h
theorem own_ne64 {a b : Int64} (h : ¬ a = b) : a.toInt ≠ b.toInt := fun q => h (Int64.toInt_inj.mp q)
theorem own_imulc (x y : Int32) (d : Int) (h : y.toInt = d) : ((x * y).toInt - x.toInt * d) % 4294967296 = 0 := by rw [← h]; exact c_imul x y
theorem own_imulc' (x y : Int32) (d : Int) (h : x.toInt = d) : ((x * y).toInt - d * y.toInt) % 4294967296 = 0 := by rw [← h]; exact c_imul x y
theorem own_lmulc (x y : Int64) (d : Int) (h : y.toInt = d) : ((x * y).toInt - x.toInt * d) % 18446744073709551616 = 0 := by rw [← h]; exact c_lmul x y
theorem own_lmulc' (x y : Int64) (d : Int) (h : x.toInt = d) : ((x * y).toInt - d * y.toInt) % 18446744073709551616 = 0 := by rw [← h]; exact c_lmul x y
theorem own_mask (x m : Int32) (k : Nat) (P : Int) (hk : k ≤ 31) (hm : m.toBitVec.toNat = 2 ^ k - 1) (hP : P = ((2 ^ k : Nat) : Int)) : (x &&& m).toInt = x.toInt % P := by rw [hP]; exact c_mask x m k hk hm
theorem own_maskL (x m : Int64) (k : Nat) (P : Int) (hk : k ≤ 63) (hm : m.toBitVec.toNat = 2 ^ k - 1) (hP : P = ((2 ^ k : Nat) : Int)) : (x &&& m).toInt = x.toInt % P := by rw [hP]; exact c_maskL x m k hk hm
theorem own_ishr (x q : Int32) (k : Nat) (P : Int) (hk : q.toBitVec.toNat % 32 = k) (hP : P = ((2 ^ k : Nat) : Int)) : (x >>> (q &&& 31)).toInt = x.toInt / P := by rw [hP]; exact c_ishr x q k hk
theorem own_ishl (x q : Int32) (k : Nat) (P : Int) (hk : q.toBitVec.toNat % 32 = k) (hP : P = ((2 ^ k : Nat) : Int)) : ((x <<< (q &&& 31)).toInt - x.toInt * P) % 4294967296 = 0 := by rw [hP]; exact c_ishl x q k hk
theorem own_iushr (x q : Int32) (k : Nat) (P : Int) (hk : q.toBitVec.toNat % 32 = k) (h0 : 0 < k) (hP : P = ((2 ^ k : Nat) : Int)) : ((x.toUInt32 >>> (q &&& 31).toUInt32).toInt32).toInt = (x.toInt % 4294967296) / P := by rw [hP]; exact c_iushr x q k hk h0
theorem own_lshr (x : Int64) (q : Int32) (k : Nat) (P : Int) (hk : q.toBitVec.toNat % 64 = k) (hP : P = ((2 ^ k : Nat) : Int)) : (x >>> (q &&& 0x3f).toInt64).toInt = x.toInt / P := by rw [hP]; exact c_lshr x q k hk
theorem own_lshl (x : Int64) (q : Int32) (k : Nat) (P : Int) (hk : q.toBitVec.toNat % 64 = k) (hP : P = ((2 ^ k : Nat) : Int)) : ((x <<< (q &&& 0x3f).toInt64).toInt - x.toInt * P) % 18446744073709551616 = 0 := by rw [hP]; exact c_lshl x q k hk
theorem own_lushr (x : Int64) (q : Int32) (k : Nat) (P : Int) (hk : q.toBitVec.toNat % 64 = k) (h0 : 0 < k) (hP : P = ((2 ^ k : Nat) : Int)) : ((x.toUInt64 >>> (q &&& 0x3f).toInt64.toUInt64).toInt64).toInt = (x.toInt % 18446744073709551616) / P := by rw [hP]; exact c_lushr x q k hk h0
theorem own_lc_lt {x y : Int64} {cd : ClassFile.Cond} {b : Bool} (h : if_icmp.holds cd (lcmpW x y) 0 = b) : ifCond.holds cd (lcmpW x y) = b := (if0 _ _).trans h
theorem own_l_lt {x y : Int64} (h : x < y) : ifCond.holds .lt (lcmpW x y) = true ∧ ifCond.holds .ge (lcmpW x y) = false := ⟨(if0 _ _).trans (tlt ((lw_lt x y).mpr h)).1, (if0 _ _).trans (tlt ((lw_lt x y).mpr h)).2.1⟩
theorem own_l_nlt {x y : Int64} (h : ¬ x < y) : ifCond.holds .lt (lcmpW x y) = false ∧ ifCond.holds .ge (lcmpW x y) = true := ⟨(if0 _ _).trans (flt (fun q => h ((lw_lt x y).mp q))).1, (if0 _ _).trans (flt (fun q => h ((lw_lt x y).mp q))).2.1⟩
theorem own_l_gt {x y : Int64} (h : y < x) : ifCond.holds .gt (lcmpW x y) = true ∧ ifCond.holds .le (lcmpW x y) = false := ⟨(if0 _ _).trans (tlt ((lw_gt x y).mpr h)).2.2.1, (if0 _ _).trans (tlt ((lw_gt x y).mpr h)).2.2.2⟩
theorem own_l_ngt {x y : Int64} (h : ¬ y < x) : ifCond.holds .gt (lcmpW x y) = false ∧ ifCond.holds .le (lcmpW x y) = true := ⟨(if0 _ _).trans (flt (fun q => h ((lw_gt x y).mp q))).2.2.1, (if0 _ _).trans (flt (fun q => h ((lw_gt x y).mp q))).2.2.2⟩
theorem own_l_eq {x y : Int64} (h : x = y) : ifCond.holds .eq (lcmpW x y) = true ∧ ifCond.holds .ne (lcmpW x y) = false := ⟨(if0 _ _).trans (teq ((lw_eq x y).mpr h)).1, (if0 _ _).trans (teq ((lw_eq x y).mpr h)).2⟩
theorem own_l_neq {x y : Int64} (h : ¬ x = y) : ifCond.holds .eq (lcmpW x y) = false ∧ ifCond.holds .ne (lcmpW x y) = true := ⟨(if0 _ _).trans (feq (fun q => h ((lw_eq x y).mp q))).1, (if0 _ _).trans (feq (fun q => h ((lw_eq x y).mp q))).2⟩
theorem own_lrem {x y : Int64} {d : Int} (hy : y.toInt = d) : (0 ≤ x.toInt → (x - (x / y) * y).toInt = x.toInt % d) ∧ (x.toInt < 0 → (x - (x / y) * y).toInt = -((-x.toInt) % d)) := c_lrem x y d hy
theorem own_lremf (x y : Int64) (d : Int) (hy : y.toInt = d) : (0 ≤ x.toInt → (x % y).toInt = x.toInt % d) ∧ (x.toInt < 0 → (x % y).toInt = -((-x.toInt) % d)) := by rw [Int64.toInt_mod, hy]; exact tr _ _
theorem own_lremM {p : Program} {l : Launch} {e : Env} {R : Room} {s : State} {m : MethodId} {args : Array Value} {below : List Frame} {meth : Method} {c : Code} {T : State} {locs : List Loc} {cells slots : Nat} {g : JFrame} {target : State} (X : Stand p l e R s m args below meth c T locs cells slots) (hx : p.tables.exec = Jvm.exec) (hg : g.method = m) {x y : Int64} {rest : List Value} (hd : decode c.code g.pc = .ok (.lrem, 1)) (hs : g.stack = .long y :: .long x :: rest) (hy : y ≠ 0)
    (hr : Steps p.tables e below (T.setTop { g with pc := g.pc + 1, stack := .long (x % y) :: rest }) target) : Steps p.tables e below (T.setTop g) target :=
  XS.lrem X.here hx hg hd hs hy (by rw [lrem_mod]; exact hr)
theorem own_R32 (x : Int32) : -2147483648 ≤ x.toInt ∧ x.toInt ≤ 2147483647 := by have := rng32 x; omega
theorem own_R64 (x : Int64) : -9223372036854775808 ≤ x.toInt ∧ x.toInt ≤ 9223372036854775807 := by have := rng64 x; omega
theorem own_iaddR {x y : Int32} {a b c d : Int} (lo hi : Int) (hx : a ≤ x.toInt ∧ x.toInt ≤ b) (hy : c ≤ y.toInt ∧ y.toInt ≤ d) (h1 : -2147483648 ≤ a + c ∧ b + d ≤ 2147483647) (h2 : lo ≤ a + c ∧ b + d ≤ hi) : (x + y).toInt = x.toInt + y.toInt ∧ lo ≤ (x + y).toInt ∧ (x + y).toInt ≤ hi := by have := c_iadd x y; have := rng32 (x + y); omega
theorem own_isubR {x y : Int32} {a b c d : Int} (lo hi : Int) (hx : a ≤ x.toInt ∧ x.toInt ≤ b) (hy : c ≤ y.toInt ∧ y.toInt ≤ d) (h1 : -2147483648 ≤ a - d ∧ b - c ≤ 2147483647) (h2 : lo ≤ a - d ∧ b - c ≤ hi) : (x - y).toInt = x.toInt - y.toInt ∧ lo ≤ (x - y).toInt ∧ (x - y).toInt ≤ hi := by have := c_isub x y; have := rng32 (x - y); omega
theorem own_laddR {x y : Int64} {a b c d : Int} (lo hi : Int) (hx : a ≤ x.toInt ∧ x.toInt ≤ b) (hy : c ≤ y.toInt ∧ y.toInt ≤ d) (h1 : -9223372036854775808 ≤ a + c ∧ b + d ≤ 9223372036854775807) (h2 : lo ≤ a + c ∧ b + d ≤ hi) : (x + y).toInt = x.toInt + y.toInt ∧ lo ≤ (x + y).toInt ∧ (x + y).toInt ≤ hi := by have := c_ladd x y; have := rng64 (x + y); omega
theorem own_lsubR {x y : Int64} {a b c d : Int} (lo hi : Int) (hx : a ≤ x.toInt ∧ x.toInt ≤ b) (hy : c ≤ y.toInt ∧ y.toInt ≤ d) (h1 : -9223372036854775808 ≤ a - d ∧ b - c ≤ 9223372036854775807) (h2 : lo ≤ a - d ∧ b - c ≤ hi) : (x - y).toInt = x.toInt - y.toInt ∧ lo ≤ (x - y).toInt ∧ (x - y).toInt ≤ hi := by have := c_lsub x y; have := rng64 (x - y); omega
theorem own_imulR {x y : Int32} {a b k : Int} (lo hi : Int) (hx : a ≤ x.toInt ∧ x.toInt ≤ b) (hy : y.toInt = k) (hk : 0 ≤ k) (h1 : -2147483648 ≤ a * k ∧ b * k ≤ 2147483647) (h2 : lo ≤ a * k ∧ b * k ≤ hi) : (x * y).toInt = x.toInt * k ∧ lo ≤ (x * y).toInt ∧ (x * y).toInt ≤ hi := by
  have h := c_imul x y; have := rng32 (x * y); rw [hy] at h
  have p1 := Int.mul_le_mul_of_nonneg_right hx.1 hk; have p2 := Int.mul_le_mul_of_nonneg_right hx.2 hk
  generalize x.toInt * k = z at *; generalize a * k = z1 at *; generalize b * k = z2 at *; omega
theorem own_lmulR {x y : Int64} {a b k : Int} (lo hi : Int) (hx : a ≤ x.toInt ∧ x.toInt ≤ b) (hy : y.toInt = k) (hk : 0 ≤ k) (h1 : -9223372036854775808 ≤ a * k ∧ b * k ≤ 9223372036854775807) (h2 : lo ≤ a * k ∧ b * k ≤ hi) : (x * y).toInt = x.toInt * k ∧ lo ≤ (x * y).toInt ∧ (x * y).toInt ≤ hi := by
  have h := c_lmul x y; have := rng64 (x * y); rw [hy] at h
  have p1 := Int.mul_le_mul_of_nonneg_right hx.1 hk; have p2 := Int.mul_le_mul_of_nonneg_right hx.2 hk
  generalize x.toInt * k = z at *; generalize a * k = z1 at *; generalize b * k = z2 at *; omega
theorem own_imulR' {x y : Int32} {a b k : Int} (lo hi : Int) (hx : a ≤ y.toInt ∧ y.toInt ≤ b) (hy : x.toInt = k) (hk : 0 ≤ k) (h1 : -2147483648 ≤ a * k ∧ b * k ≤ 2147483647) (h2 : lo ≤ a * k ∧ b * k ≤ hi) : (x * y).toInt = y.toInt * k ∧ lo ≤ (x * y).toInt ∧ (x * y).toInt ≤ hi := by rw [Int32.mul_comm]; exact own_imulR lo hi hx hy hk h1 h2
theorem own_lmulR' {x y : Int64} {a b k : Int} (lo hi : Int) (hx : a ≤ y.toInt ∧ y.toInt ≤ b) (hy : x.toInt = k) (hk : 0 ≤ k) (h1 : -9223372036854775808 ≤ a * k ∧ b * k ≤ 9223372036854775807) (h2 : lo ≤ a * k ∧ b * k ≤ hi) : (x * y).toInt = y.toInt * k ∧ lo ≤ (x * y).toInt ∧ (x * y).toInt ≤ hi := by rw [Int64.mul_comm]; exact own_lmulR lo hi hx hy hk h1 h2
theorem own_maskR (x m : Int32) (k : Nat) (P : Int) (hk : k ≤ 31) (hm : m.toBitVec.toNat = 2 ^ k - 1) (hP : P = ((2 ^ k : Nat) : Int)) (hi : Int) (h0 : 0 < P) (h : P ≤ hi + 1) : (x &&& m).toInt = x.toInt % P ∧ 0 ≤ (x &&& m).toInt ∧ (x &&& m).toInt ≤ hi := by
  have e := own_mask x m k P hk hm hP; have h1 := Int.emod_nonneg x.toInt (show P ≠ 0 by omega); have h2 := Int.emod_lt_of_pos x.toInt h0; omega
theorem own_maskLR (x m : Int64) (k : Nat) (P : Int) (hk : k ≤ 63) (hm : m.toBitVec.toNat = 2 ^ k - 1) (hP : P = ((2 ^ k : Nat) : Int)) (hi : Int) (h0 : 0 < P) (h : P ≤ hi + 1) : (x &&& m).toInt = x.toInt % P ∧ 0 ≤ (x &&& m).toInt ∧ (x &&& m).toInt ≤ hi := by
  have e := own_maskL x m k P hk hm hP; have h1 := Int.emod_nonneg x.toInt (show P ≠ 0 by omega); have h2 := Int.emod_lt_of_pos x.toInt h0; omega
theorem own_iremR {x y : Int32} {a b d : Int} (hi : Int) (hx : a ≤ x.toInt ∧ x.toInt ≤ b) (hy : y.toInt = d) (ha : 0 ≤ a) (hd : 0 < d) (h : d ≤ hi + 1) : (x % y).toInt = x.toInt % d ∧ 0 ≤ (x % y).toInt ∧ (x % y).toInt ≤ hi := by
  have e := (c_irem x y d hy).1 (by omega); have h1 := Int.emod_nonneg x.toInt (show d ≠ 0 by omega); have h2 := Int.emod_lt_of_pos x.toInt hd; omega
theorem own_lremR {x y : Int64} {a b d : Int} (hi : Int) (hx : a ≤ x.toInt ∧ x.toInt ≤ b) (hy : y.toInt = d) (ha : 0 ≤ a) (hd : 0 < d) (h : d ≤ hi + 1) : (x % y).toInt = x.toInt % d ∧ 0 ≤ (x % y).toInt ∧ (x % y).toInt ≤ hi := by
  have e := (own_lremf x y d hy).1 (by omega); have h1 := Int.emod_nonneg x.toInt (show d ≠ 0 by omega); have h2 := Int.emod_lt_of_pos x.toInt hd; omega
theorem own_idivR {x y : Int32} {a b d : Int} (lo hi : Int) (hx : a ≤ x.toInt ∧ x.toInt ≤ b) (hy : y.toInt = d) (hy1 : y ≠ -1) (ha : 0 ≤ a) (hd : 0 < d) (h : lo ≤ a / d ∧ b / d ≤ hi) : (x / y).toInt = x.toInt / d ∧ lo ≤ (x / y).toInt ∧ (x / y).toInt ≤ hi := by
  have e := (c_idiv x y d hy hy1).1 (by omega); have h1 := Int.ediv_le_ediv hd hx.1; have h2 := Int.ediv_le_ediv hd hx.2; omega
theorem own_ldivR {x y : Int64} {a b d : Int} (lo hi : Int) (hx : a ≤ x.toInt ∧ x.toInt ≤ b) (hy : y.toInt = d) (hy1 : y ≠ -1) (ha : 0 ≤ a) (hd : 0 < d) (h : lo ≤ a / d ∧ b / d ≤ hi) : (x / y).toInt = x.toInt / d ∧ lo ≤ (x / y).toInt ∧ (x / y).toInt ≤ hi := by
  have e := (c_ldiv x y d hy hy1).1 (by omega); have h1 := Int.ediv_le_ediv hd hx.1; have h2 := Int.ediv_le_ediv hd hx.2; omega
theorem own_l2iR {x : Int64} {a b : Int} (hx : a ≤ x.toInt ∧ x.toInt ≤ b) (h1 : -2147483648 ≤ a ∧ b ≤ 2147483647) : x.toInt32.toInt = x.toInt ∧ a ≤ x.toInt32.toInt ∧ x.toInt32.toInt ≤ b := by have := c_l2i x; have := rng32 x.toInt32; omega
theorem own_i2lR {x : Int32} {a b : Int} (hx : a ≤ x.toInt ∧ x.toInt ≤ b) : x.toInt64.toInt = x.toInt ∧ a ≤ x.toInt64.toInt ∧ x.toInt64.toInt ≤ b := by have := c_i2l x; omega
theorem own_eqR32 {x y : Int32} {a b : Int} (h : x = y) (hy : a ≤ y.toInt ∧ y.toInt ≤ b) : x.toInt = y.toInt ∧ a ≤ x.toInt ∧ x.toInt ≤ b := by subst h; exact ⟨rfl, hy⟩
theorem own_eqR64 {x y : Int64} {a b : Int} (h : x = y) (hy : a ≤ y.toInt ∧ y.toInt ≤ b) : x.toInt = y.toInt ∧ a ≤ x.toInt ∧ x.toInt ≤ b := by subst h; exact ⟨rfl, hy⟩
theorem own_lushrR {x : Int64} {a b : Int} (q : Int32) (k : Nat) (P lo hi : Int) (hx : a ≤ x.toInt ∧ x.toInt ≤ b) (ha : 0 ≤ a) (hk : q.toBitVec.toNat % 64 = k) (h0 : 0 < k) (hP : P = ((2 ^ k : Nat) : Int)) (hPp : 0 < P) (h : lo ≤ a / P ∧ b / P ≤ hi) : ((x.toUInt64 >>> (q &&& 0x3f).toInt64.toUInt64).toInt64).toInt = x.toInt / P ∧ lo ≤ ((x.toUInt64 >>> (q &&& 0x3f).toInt64.toUInt64).toInt64).toInt ∧ ((x.toUInt64 >>> (q &&& 0x3f).toInt64.toUInt64).toInt64).toInt ≤ hi := by
  have e := own_lushr x q k P hk h0 hP; have := rng64 x; rw [Int.emod_eq_of_lt (by omega) (by omega)] at e; have h1 := Int.ediv_le_ediv hPp hx.1; have h2 := Int.ediv_le_ediv hPp hx.2; omega
theorem own_iushrR {x : Int32} {a b : Int} (q : Int32) (k : Nat) (P lo hi : Int) (hx : a ≤ x.toInt ∧ x.toInt ≤ b) (ha : 0 ≤ a) (hk : q.toBitVec.toNat % 32 = k) (h0 : 0 < k) (hP : P = ((2 ^ k : Nat) : Int)) (hPp : 0 < P) (h : lo ≤ a / P ∧ b / P ≤ hi) : ((x.toUInt32 >>> (q &&& 31).toUInt32).toInt32).toInt = x.toInt / P ∧ lo ≤ ((x.toUInt32 >>> (q &&& 31).toUInt32).toInt32).toInt ∧ ((x.toUInt32 >>> (q &&& 31).toUInt32).toInt32).toInt ≤ hi := by
  have e := own_iushr x q k P hk h0 hP; have := rng32 x; rw [Int.emod_eq_of_lt (by omega) (by omega)] at e; have h1 := Int.ediv_le_ediv hPp hx.1; have h2 := Int.ediv_le_ediv hPp hx.2; omega
def own_name (p0 : Int32) : Int32 := (if p0 < (65 : Int32) then (if p0 < (97 : Int32) then (if p0 < (48 : Int32) then (if p0 = (95 : Int32) then (1 : Int32) else (0 : Int32)) else (if (57 : Int32) < p0 then (if p0 = (95 : Int32) then (1 : Int32) else (0 : Int32)) else (1 : Int32))) else (if (122 : Int32) < p0 then (if p0 < (48 : Int32) then (if p0 = (95 : Int32) then (1 : Int32) else (0 : Int32)) else (if (57 : Int32) < p0 then (if p0 = (95 : Int32) then (1 : Int32) else (0 : Int32)) else (1 : Int32))) else (1 : Int32))) else (if (90 : Int32) < p0 then (if p0 < (97 : Int32) then (if p0 < (48 : Int32) then (if p0 = (95 : Int32) then (1 : Int32) else (0 : Int32)) else (if (57 : Int32) < p0 then (if p0 = (95 : Int32) then (1 : Int32) else (0 : Int32)) else (1 : Int32))) else (if (122 : Int32) < p0 then (if p0 < (48 : Int32) then (if p0 = (95 : Int32) then (1 : Int32) else (0 : Int32)) else (if (57 : Int32) < p0 then (if p0 = (95 : Int32) then (1 : Int32) else (0 : Int32)) else (1 : Int32))) else (1 : Int32))) else (1 : Int32)))
theorem pn_0 : plainName "org/jadoube/io/PgnReader" = true := by first | (simp [plainName, overriddenIn]; done) | decide +kernel
theorem d1_0 : decode prog_30_method_12_code 0 = .ok (.iload_n 0, 1) := by decide +kernel
theorem d1_1 : decode prog_30_method_12_code 1 = .ok (.bipush 65, 2) := by decide +kernel
theorem d1_3 : decode prog_30_method_12_code 3 = .ok (.if_icmp .lt 9, 3) := by decide +kernel
theorem d1_6 : decode prog_30_method_12_code 6 = .ok (.iload_n 0, 1) := by decide +kernel
theorem d1_7 : decode prog_30_method_12_code 7 = .ok (.bipush 90, 2) := by decide +kernel
theorem d1_9 : decode prog_30_method_12_code 9 = .ok (.if_icmp .le 33, 3) := by decide +kernel
theorem d1_12 : decode prog_30_method_12_code 12 = .ok (.iload_n 0, 1) := by decide +kernel
theorem d1_13 : decode prog_30_method_12_code 13 = .ok (.bipush 97, 2) := by decide +kernel
theorem d1_15 : decode prog_30_method_12_code 15 = .ok (.if_icmp .lt 9, 3) := by decide +kernel
theorem d1_18 : decode prog_30_method_12_code 18 = .ok (.iload_n 0, 1) := by decide +kernel
theorem d1_19 : decode prog_30_method_12_code 19 = .ok (.bipush 122, 2) := by decide +kernel
theorem d1_21 : decode prog_30_method_12_code 21 = .ok (.if_icmp .le 21, 3) := by decide +kernel
theorem d1_24 : decode prog_30_method_12_code 24 = .ok (.iload_n 0, 1) := by decide +kernel
theorem d1_25 : decode prog_30_method_12_code 25 = .ok (.bipush 48, 2) := by decide +kernel
theorem d1_27 : decode prog_30_method_12_code 27 = .ok (.if_icmp .lt 9, 3) := by decide +kernel
theorem d1_30 : decode prog_30_method_12_code 30 = .ok (.iload_n 0, 1) := by decide +kernel
theorem d1_31 : decode prog_30_method_12_code 31 = .ok (.bipush 57, 2) := by decide +kernel
theorem d1_33 : decode prog_30_method_12_code 33 = .ok (.if_icmp .le 9, 3) := by decide +kernel
theorem d1_36 : decode prog_30_method_12_code 36 = .ok (.iload_n 0, 1) := by decide +kernel
theorem d1_37 : decode prog_30_method_12_code 37 = .ok (.bipush 95, 2) := by decide +kernel
theorem d1_39 : decode prog_30_method_12_code 39 = .ok (.if_icmp .ne 7, 3) := by decide +kernel
theorem d1_42 : decode prog_30_method_12_code 42 = .ok (.iconst 1, 1) := by decide +kernel
theorem d1_43 : decode prog_30_method_12_code 43 = .ok (.goto 4, 3) := by decide +kernel
theorem d1_46 : decode prog_30_method_12_code 46 = .ok (.iconst 0, 1) := by decide +kernel
theorem d1_47 : decode prog_30_method_12_code 47 = .ok (.ireturn, 1) := by decide +kernel
theorem ef_1 (m : MethodId) (x0 : Int32) : entryFrame m #[(.int x0)] 1 = mkF m 0 #[.val (.int x0)] [] := by first | (simp [entryFrame, mkF, argsToLocals, Value.category]; done) | rfl
def Q1 (Z : State) (p0 : Int32) (h0 : Heap) (n0 : Nat) (v : Option Value) (h : Heap) (L : List Loc) : Prop := v = some (.int (own_name p0)) ∧ Fr n0 L ∧ h = h0
set_option maxRecDepth 65536 in
set_option maxHeartbeats 40000000 in
theorem rm1 (l : Launch) (Z : State) (a0 : Array Value) (hw : ∀ d ∈ tables_1, d.before a0 Z = true) (ws : List Jvm.Cond) (p0 : Int32) (h0 : Heap) (n0 : Nat) (Z0 : n0 ≤ h0.size) :
    MetFree l (⟨"org/jadoube/io/PgnReader", "isNameCharacter", "(I)Z"⟩ : MethodName) (head1 (Jvm.Cond.code (⟨"org/jadoube/io/PgnReader", "isNameCharacter", "(I)Z"⟩ : MethodName) prog_30_method_12_code 1 (some .boolean) :: ws) ({ frames := 0, cells := 0, slots := 0, locals := 0 } : Room)) (fun a U => a = #[(.int p0)] ∧ Z.Warmed39 U.vm ∧ U.heap = h0) (fun _ _ _ _ _ => True) (fun _ U o U' => ∃ v L, o = .returned v ∧ Q1 Z p0 h0 n0 v U'.heap L ∧ FrameEnd U o U' L ({ frames := 0, cells := 0, slots := 0, locals := 0 } : Room).cells ({ frames := 0, cells := 0, slots := 0, locals := 0 } : Room).slots) := by
  refine MetFree.of_bodySF (plainFor_of_name pn_0) hisR ?_
  intro p e s m args below meth c s₁ Bd hml0 hP hK
  obtain ⟨rfl, hZ, hh⟩ := hP
  have hx := Bd.exec
  have hby := Bd.bytes
  have hml : c.maxLocals = 1 := hml0
  have hown : s.vm.findClass "org/jadoube/io/PgnReader" = some m.cls := findClass_of_methodNamed Bd.named
  have hnm := (name_of_methodNamed Bd.named Bd.method).1
  have hlk : meth.locks = false := BodyLoose.notSynchronized Bd
  have X0 : Stand p l e ({ frames := 0, cells := 0, slots := 0, locals := 0 } : Room) s m #[(.int p0)] below meth c s₁ [] 0 0 := Stand.of_body Bd
  have e0 : s₁.heap = h0 := by rw [← hh, Bd.state]; rfl
  have N0 := Fr.nil n0
  have K0 : Keep h0 h0 [] := Keep.refl h0 _
  have key : ∀ (F0 : State) (G : Prop), (own_G p e below s F0 (Q1 Z p0 h0 n0) ({ frames := 0, cells := 0, slots := 0, locals := 0 } : Room).cells ({ frames := 0, cells := 0, slots := 0, locals := 0 } : Room).slots → G) → own_R p.tables e below F0 (s₁.setTop (mkF m 0 #[.val (.int p0)] [])) → G := by
    intro F0 G hG r0
    have r1 : own_R p.tables e below F0 (s₁.setTop (mkF m 3 #[.val (.int p0)] [(.int (65 : Int32)), (.int p0)])) := fun t k => by
      refine r0 t ?_
      show Steps p.tables e below (s₁.setTop (mkF m 0 #[.val (.int p0)] [])) _
      refine XS.iloadN X0.here hx rfl (hb hby d1_0) rfl ?_
      show Steps p.tables e below (s₁.setTop (mkF m 1 #[.val (.int p0)] [(.int p0)])) _
      refine XS.bipush X0.here hx rfl (hb hby d1_1) ?_
      exact k
    by_cases hc2 : p0 < (65 : Int32)
    · have r3 : own_R p.tables e below F0 (s₁.setTop (mkF m 15 #[.val (.int p0)] [(.int (97 : Int32)), (.int p0)])) := fun t k => by
        refine r1 t ?_
        show Steps p.tables e below (s₁.setTop (mkF m 3 #[.val (.int p0)] [(.int (65 : Int32)), (.int p0)])) _
        refine XS.icmpYes X0.here hx rfl (pc0 := 3) (pc' := 12) rfl (hb hby d1_3) rfl (tlt hc2).1 (by decide) (by decide) ?_
        show Steps p.tables e below (s₁.setTop (mkF m 12 #[.val (.int p0)] [])) _
        refine XS.iloadN X0.here hx rfl (hb hby d1_12) rfl ?_
        show Steps p.tables e below (s₁.setTop (mkF m 13 #[.val (.int p0)] [(.int p0)])) _
        refine XS.bipush X0.here hx rfl (hb hby d1_13) ?_
        exact k
      by_cases hc4 : p0 < (97 : Int32)
      · have r5 : own_R p.tables e below F0 (s₁.setTop (mkF m 27 #[.val (.int p0)] [(.int (48 : Int32)), (.int p0)])) := fun t k => by
          refine r3 t ?_
          show Steps p.tables e below (s₁.setTop (mkF m 15 #[.val (.int p0)] [(.int (97 : Int32)), (.int p0)])) _
          refine XS.icmpYes X0.here hx rfl (pc0 := 15) (pc' := 24) rfl (hb hby d1_15) rfl (tlt hc4).1 (by decide) (by decide) ?_
          show Steps p.tables e below (s₁.setTop (mkF m 24 #[.val (.int p0)] [])) _
          refine XS.iloadN X0.here hx rfl (hb hby d1_24) rfl ?_
          show Steps p.tables e below (s₁.setTop (mkF m 25 #[.val (.int p0)] [(.int p0)])) _
          refine XS.bipush X0.here hx rfl (hb hby d1_25) ?_
          exact k
        by_cases hc6 : p0 < (48 : Int32)
        · have r7 : own_R p.tables e below F0 (s₁.setTop (mkF m 39 #[.val (.int p0)] [(.int (95 : Int32)), (.int p0)])) := fun t k => by
            refine r5 t ?_
            show Steps p.tables e below (s₁.setTop (mkF m 27 #[.val (.int p0)] [(.int (48 : Int32)), (.int p0)])) _
            refine XS.icmpYes X0.here hx rfl (pc0 := 27) (pc' := 36) rfl (hb hby d1_27) rfl (tlt hc6).1 (by decide) (by decide) ?_
            show Steps p.tables e below (s₁.setTop (mkF m 36 #[.val (.int p0)] [])) _
            refine XS.iloadN X0.here hx rfl (hb hby d1_36) rfl ?_
            show Steps p.tables e below (s₁.setTop (mkF m 37 #[.val (.int p0)] [(.int p0)])) _
            refine XS.bipush X0.here hx rfl (hb hby d1_37) ?_
            exact k
          by_cases hc8 : p0 = (95 : Int32)
          · have r9 : own_R p.tables e below F0 (s₁.setTop (mkF m 47 #[.val (.int p0)] [(.int (1 : Int32))])) := fun t k => by
              refine r7 t ?_
              show Steps p.tables e below (s₁.setTop (mkF m 39 #[.val (.int p0)] [(.int (95 : Int32)), (.int p0)])) _
              refine XS.icmpNo X0.here hx rfl (hb hby d1_39) rfl (teq hc8).2 ?_
              show Steps p.tables e below (s₁.setTop (mkF m 42 #[.val (.int p0)] [])) _
              refine XS.iconst X0.here hx rfl (hb hby d1_42) ?_
              show Steps p.tables e below (s₁.setTop (mkF m 43 #[.val (.int p0)] [(.int (1 : Int32))])) _
              refine XS.goto X0.here hx rfl (pc0 := 43) (pc' := 47) rfl (hb hby d1_43) (by decide) (by decide) ?_
              exact k
            refine hG (own_fin X0 hlk (some (.int (nar .boolean (1 : Int32)))) (own_hv Bd.returns) ?_ (by decide) (by decide) (fun fs hr => r9 _ (retN X0 hx (t := .boolean) Bd.returns (by simp) (hb hby d1_47) hr)))
            rw [e0]
            refine ⟨?_, N0, rfl⟩
            have ev : (own_name p0) = (1 : Int32) := by unfold own_name; rw [if_pos hc2, if_pos hc4, if_pos hc6, if_pos hc8]
            rw [ev]
            rfl
          · have r10 : own_R p.tables e below F0 (s₁.setTop (mkF m 47 #[.val (.int p0)] [(.int (0 : Int32))])) := fun t k => by
              refine r7 t ?_
              show Steps p.tables e below (s₁.setTop (mkF m 39 #[.val (.int p0)] [(.int (95 : Int32)), (.int p0)])) _
              refine XS.icmpYes X0.here hx rfl (pc0 := 39) (pc' := 46) rfl (hb hby d1_39) rfl (feq hc8).2 (by decide) (by decide) ?_
              show Steps p.tables e below (s₁.setTop (mkF m 46 #[.val (.int p0)] [])) _
              refine XS.iconst X0.here hx rfl (hb hby d1_46) ?_
              exact k
            refine hG (own_fin X0 hlk (some (.int (nar .boolean (0 : Int32)))) (own_hv Bd.returns) ?_ (by decide) (by decide) (fun fs hr => r10 _ (retN X0 hx (t := .boolean) Bd.returns (by simp) (hb hby d1_47) hr)))
            rw [e0]
            refine ⟨?_, N0, rfl⟩
            have ev : (own_name p0) = (0 : Int32) := by unfold own_name; rw [if_pos hc2, if_pos hc4, if_pos hc6, if_neg hc8]
            rw [ev]
            rfl
        · have r11 : own_R p.tables e below F0 (s₁.setTop (mkF m 33 #[.val (.int p0)] [(.int (57 : Int32)), (.int p0)])) := fun t k => by
            refine r5 t ?_
            show Steps p.tables e below (s₁.setTop (mkF m 27 #[.val (.int p0)] [(.int (48 : Int32)), (.int p0)])) _
            refine XS.icmpNo X0.here hx rfl (hb hby d1_27) rfl (flt hc6).1 ?_
            show Steps p.tables e below (s₁.setTop (mkF m 30 #[.val (.int p0)] [])) _
            refine XS.iloadN X0.here hx rfl (hb hby d1_30) rfl ?_
            show Steps p.tables e below (s₁.setTop (mkF m 31 #[.val (.int p0)] [(.int p0)])) _
            refine XS.bipush X0.here hx rfl (hb hby d1_31) ?_
            exact k
          by_cases hc12 : (57 : Int32) < p0
          · have r13 : own_R p.tables e below F0 (s₁.setTop (mkF m 39 #[.val (.int p0)] [(.int (95 : Int32)), (.int p0)])) := fun t k => by
              refine r11 t ?_
              show Steps p.tables e below (s₁.setTop (mkF m 33 #[.val (.int p0)] [(.int (57 : Int32)), (.int p0)])) _
              refine XS.icmpNo X0.here hx rfl (hb hby d1_33) rfl (tlt hc12).2.2.2 ?_
              show Steps p.tables e below (s₁.setTop (mkF m 36 #[.val (.int p0)] [])) _
              refine XS.iloadN X0.here hx rfl (hb hby d1_36) rfl ?_
              show Steps p.tables e below (s₁.setTop (mkF m 37 #[.val (.int p0)] [(.int p0)])) _
              refine XS.bipush X0.here hx rfl (hb hby d1_37) ?_
              exact k
            by_cases hc14 : p0 = (95 : Int32)
            · have r15 : own_R p.tables e below F0 (s₁.setTop (mkF m 47 #[.val (.int p0)] [(.int (1 : Int32))])) := fun t k => by
                refine r13 t ?_
                show Steps p.tables e below (s₁.setTop (mkF m 39 #[.val (.int p0)] [(.int (95 : Int32)), (.int p0)])) _
                refine XS.icmpNo X0.here hx rfl (hb hby d1_39) rfl (teq hc14).2 ?_
                show Steps p.tables e below (s₁.setTop (mkF m 42 #[.val (.int p0)] [])) _
                refine XS.iconst X0.here hx rfl (hb hby d1_42) ?_
                show Steps p.tables e below (s₁.setTop (mkF m 43 #[.val (.int p0)] [(.int (1 : Int32))])) _
                refine XS.goto X0.here hx rfl (pc0 := 43) (pc' := 47) rfl (hb hby d1_43) (by decide) (by decide) ?_
                exact k
              refine hG (own_fin X0 hlk (some (.int (nar .boolean (1 : Int32)))) (own_hv Bd.returns) ?_ (by decide) (by decide) (fun fs hr => r15 _ (retN X0 hx (t := .boolean) Bd.returns (by simp) (hb hby d1_47) hr)))
              rw [e0]
              refine ⟨?_, N0, rfl⟩
              have ev : (own_name p0) = (1 : Int32) := by unfold own_name; rw [if_pos hc2, if_pos hc4, if_neg hc6, if_pos hc12, if_pos hc14]
              rw [ev]
              rfl
            · have r16 : own_R p.tables e below F0 (s₁.setTop (mkF m 47 #[.val (.int p0)] [(.int (0 : Int32))])) := fun t k => by
                refine r13 t ?_
                show Steps p.tables e below (s₁.setTop (mkF m 39 #[.val (.int p0)] [(.int (95 : Int32)), (.int p0)])) _
                refine XS.icmpYes X0.here hx rfl (pc0 := 39) (pc' := 46) rfl (hb hby d1_39) rfl (feq hc14).2 (by decide) (by decide) ?_
                show Steps p.tables e below (s₁.setTop (mkF m 46 #[.val (.int p0)] [])) _
                refine XS.iconst X0.here hx rfl (hb hby d1_46) ?_
                exact k
              refine hG (own_fin X0 hlk (some (.int (nar .boolean (0 : Int32)))) (own_hv Bd.returns) ?_ (by decide) (by decide) (fun fs hr => r16 _ (retN X0 hx (t := .boolean) Bd.returns (by simp) (hb hby d1_47) hr)))
              rw [e0]
              refine ⟨?_, N0, rfl⟩
              have ev : (own_name p0) = (0 : Int32) := by unfold own_name; rw [if_pos hc2, if_pos hc4, if_neg hc6, if_pos hc12, if_neg hc14]
              rw [ev]
              rfl
          · have r17 : own_R p.tables e below F0 (s₁.setTop (mkF m 47 #[.val (.int p0)] [(.int (1 : Int32))])) := fun t k => by
              refine r11 t ?_
              show Steps p.tables e below (s₁.setTop (mkF m 33 #[.val (.int p0)] [(.int (57 : Int32)), (.int p0)])) _
              refine XS.icmpYes X0.here hx rfl (pc0 := 33) (pc' := 42) rfl (hb hby d1_33) rfl (flt hc12).2.2.2 (by decide) (by decide) ?_
              show Steps p.tables e below (s₁.setTop (mkF m 42 #[.val (.int p0)] [])) _
              refine XS.iconst X0.here hx rfl (hb hby d1_42) ?_
              show Steps p.tables e below (s₁.setTop (mkF m 43 #[.val (.int p0)] [(.int (1 : Int32))])) _
              refine XS.goto X0.here hx rfl (pc0 := 43) (pc' := 47) rfl (hb hby d1_43) (by decide) (by decide) ?_
              exact k
            refine hG (own_fin X0 hlk (some (.int (nar .boolean (1 : Int32)))) (own_hv Bd.returns) ?_ (by decide) (by decide) (fun fs hr => r17 _ (retN X0 hx (t := .boolean) Bd.returns (by simp) (hb hby d1_47) hr)))
            rw [e0]
            refine ⟨?_, N0, rfl⟩
            have ev : (own_name p0) = (1 : Int32) := by unfold own_name; rw [if_pos hc2, if_pos hc4, if_neg hc6, if_neg hc12]
            rw [ev]
            rfl
      · have r18 : own_R p.tables e below F0 (s₁.setTop (mkF m 21 #[.val (.int p0)] [(.int (122 : Int32)), (.int p0)])) := fun t k => by
          refine r3 t ?_
          show Steps p.tables e below (s₁.setTop (mkF m 15 #[.val (.int p0)] [(.int (97 : Int32)), (.int p0)])) _
          refine XS.icmpNo X0.here hx rfl (hb hby d1_15) rfl (flt hc4).1 ?_
          show Steps p.tables e below (s₁.setTop (mkF m 18 #[.val (.int p0)] [])) _
          refine XS.iloadN X0.here hx rfl (hb hby d1_18) rfl ?_
          show Steps p.tables e below (s₁.setTop (mkF m 19 #[.val (.int p0)] [(.int p0)])) _
          refine XS.bipush X0.here hx rfl (hb hby d1_19) ?_
          exact k
        by_cases hc19 : (122 : Int32) < p0
        · have r20 : own_R p.tables e below F0 (s₁.setTop (mkF m 27 #[.val (.int p0)] [(.int (48 : Int32)), (.int p0)])) := fun t k => by
            refine r18 t ?_
            show Steps p.tables e below (s₁.setTop (mkF m 21 #[.val (.int p0)] [(.int (122 : Int32)), (.int p0)])) _
            refine XS.icmpNo X0.here hx rfl (hb hby d1_21) rfl (tlt hc19).2.2.2 ?_
            show Steps p.tables e below (s₁.setTop (mkF m 24 #[.val (.int p0)] [])) _
            refine XS.iloadN X0.here hx rfl (hb hby d1_24) rfl ?_
            show Steps p.tables e below (s₁.setTop (mkF m 25 #[.val (.int p0)] [(.int p0)])) _
            refine XS.bipush X0.here hx rfl (hb hby d1_25) ?_
            exact k
          by_cases hc21 : p0 < (48 : Int32)
          · have r22 : own_R p.tables e below F0 (s₁.setTop (mkF m 39 #[.val (.int p0)] [(.int (95 : Int32)), (.int p0)])) := fun t k => by
              refine r20 t ?_
              show Steps p.tables e below (s₁.setTop (mkF m 27 #[.val (.int p0)] [(.int (48 : Int32)), (.int p0)])) _
              refine XS.icmpYes X0.here hx rfl (pc0 := 27) (pc' := 36) rfl (hb hby d1_27) rfl (tlt hc21).1 (by decide) (by decide) ?_
              show Steps p.tables e below (s₁.setTop (mkF m 36 #[.val (.int p0)] [])) _
              refine XS.iloadN X0.here hx rfl (hb hby d1_36) rfl ?_
              show Steps p.tables e below (s₁.setTop (mkF m 37 #[.val (.int p0)] [(.int p0)])) _
              refine XS.bipush X0.here hx rfl (hb hby d1_37) ?_
              exact k
            by_cases hc23 : p0 = (95 : Int32)
            · have r24 : own_R p.tables e below F0 (s₁.setTop (mkF m 47 #[.val (.int p0)] [(.int (1 : Int32))])) := fun t k => by
                refine r22 t ?_
                show Steps p.tables e below (s₁.setTop (mkF m 39 #[.val (.int p0)] [(.int (95 : Int32)), (.int p0)])) _
                refine XS.icmpNo X0.here hx rfl (hb hby d1_39) rfl (teq hc23).2 ?_
                show Steps p.tables e below (s₁.setTop (mkF m 42 #[.val (.int p0)] [])) _
                refine XS.iconst X0.here hx rfl (hb hby d1_42) ?_
                show Steps p.tables e below (s₁.setTop (mkF m 43 #[.val (.int p0)] [(.int (1 : Int32))])) _
                refine XS.goto X0.here hx rfl (pc0 := 43) (pc' := 47) rfl (hb hby d1_43) (by decide) (by decide) ?_
                exact k
              refine hG (own_fin X0 hlk (some (.int (nar .boolean (1 : Int32)))) (own_hv Bd.returns) ?_ (by decide) (by decide) (fun fs hr => r24 _ (retN X0 hx (t := .boolean) Bd.returns (by simp) (hb hby d1_47) hr)))
              rw [e0]
              refine ⟨?_, N0, rfl⟩
              have ev : (own_name p0) = (1 : Int32) := by unfold own_name; rw [if_pos hc2, if_neg hc4, if_pos hc19, if_pos hc21, if_pos hc23]
              rw [ev]
              rfl
            · have r25 : own_R p.tables e below F0 (s₁.setTop (mkF m 47 #[.val (.int p0)] [(.int (0 : Int32))])) := fun t k => by
                refine r22 t ?_
                show Steps p.tables e below (s₁.setTop (mkF m 39 #[.val (.int p0)] [(.int (95 : Int32)), (.int p0)])) _
                refine XS.icmpYes X0.here hx rfl (pc0 := 39) (pc' := 46) rfl (hb hby d1_39) rfl (feq hc23).2 (by decide) (by decide) ?_
                show Steps p.tables e below (s₁.setTop (mkF m 46 #[.val (.int p0)] [])) _
                refine XS.iconst X0.here hx rfl (hb hby d1_46) ?_
                exact k
              refine hG (own_fin X0 hlk (some (.int (nar .boolean (0 : Int32)))) (own_hv Bd.returns) ?_ (by decide) (by decide) (fun fs hr => r25 _ (retN X0 hx (t := .boolean) Bd.returns (by simp) (hb hby d1_47) hr)))
              rw [e0]
              refine ⟨?_, N0, rfl⟩
              have ev : (own_name p0) = (0 : Int32) := by unfold own_name; rw [if_pos hc2, if_neg hc4, if_pos hc19, if_pos hc21, if_neg hc23]
              rw [ev]
              rfl
          · have r26 : own_R p.tables e below F0 (s₁.setTop (mkF m 33 #[.val (.int p0)] [(.int (57 : Int32)), (.int p0)])) := fun t k => by
              refine r20 t ?_
              show Steps p.tables e below (s₁.setTop (mkF m 27 #[.val (.int p0)] [(.int (48 : Int32)), (.int p0)])) _
              refine XS.icmpNo X0.here hx rfl (hb hby d1_27) rfl (flt hc21).1 ?_
              show Steps p.tables e below (s₁.setTop (mkF m 30 #[.val (.int p0)] [])) _
              refine XS.iloadN X0.here hx rfl (hb hby d1_30) rfl ?_
              show Steps p.tables e below (s₁.setTop (mkF m 31 #[.val (.int p0)] [(.int p0)])) _
              refine XS.bipush X0.here hx rfl (hb hby d1_31) ?_
              exact k
            by_cases hc27 : (57 : Int32) < p0
            · have r28 : own_R p.tables e below F0 (s₁.setTop (mkF m 39 #[.val (.int p0)] [(.int (95 : Int32)), (.int p0)])) := fun t k => by
                refine r26 t ?_
                show Steps p.tables e below (s₁.setTop (mkF m 33 #[.val (.int p0)] [(.int (57 : Int32)), (.int p0)])) _
                refine XS.icmpNo X0.here hx rfl (hb hby d1_33) rfl (tlt hc27).2.2.2 ?_
                show Steps p.tables e below (s₁.setTop (mkF m 36 #[.val (.int p0)] [])) _
                refine XS.iloadN X0.here hx rfl (hb hby d1_36) rfl ?_
                show Steps p.tables e below (s₁.setTop (mkF m 37 #[.val (.int p0)] [(.int p0)])) _
                refine XS.bipush X0.here hx rfl (hb hby d1_37) ?_
                exact k
              by_cases hc29 : p0 = (95 : Int32)
              · have r30 : own_R p.tables e below F0 (s₁.setTop (mkF m 47 #[.val (.int p0)] [(.int (1 : Int32))])) := fun t k => by
                  refine r28 t ?_
                  show Steps p.tables e below (s₁.setTop (mkF m 39 #[.val (.int p0)] [(.int (95 : Int32)), (.int p0)])) _
                  refine XS.icmpNo X0.here hx rfl (hb hby d1_39) rfl (teq hc29).2 ?_
                  show Steps p.tables e below (s₁.setTop (mkF m 42 #[.val (.int p0)] [])) _
                  refine XS.iconst X0.here hx rfl (hb hby d1_42) ?_
                  show Steps p.tables e below (s₁.setTop (mkF m 43 #[.val (.int p0)] [(.int (1 : Int32))])) _
                  refine XS.goto X0.here hx rfl (pc0 := 43) (pc' := 47) rfl (hb hby d1_43) (by decide) (by decide) ?_
                  exact k
                refine hG (own_fin X0 hlk (some (.int (nar .boolean (1 : Int32)))) (own_hv Bd.returns) ?_ (by decide) (by decide) (fun fs hr => r30 _ (retN X0 hx (t := .boolean) Bd.returns (by simp) (hb hby d1_47) hr)))
                rw [e0]
                refine ⟨?_, N0, rfl⟩
                have ev : (own_name p0) = (1 : Int32) := by unfold own_name; rw [if_pos hc2, if_neg hc4, if_pos hc19, if_neg hc21, if_pos hc27, if_pos hc29]
                rw [ev]
                rfl
              · have r31 : own_R p.tables e below F0 (s₁.setTop (mkF m 47 #[.val (.int p0)] [(.int (0 : Int32))])) := fun t k => by
                  refine r28 t ?_
                  show Steps p.tables e below (s₁.setTop (mkF m 39 #[.val (.int p0)] [(.int (95 : Int32)), (.int p0)])) _
                  refine XS.icmpYes X0.here hx rfl (pc0 := 39) (pc' := 46) rfl (hb hby d1_39) rfl (feq hc29).2 (by decide) (by decide) ?_
                  show Steps p.tables e below (s₁.setTop (mkF m 46 #[.val (.int p0)] [])) _
                  refine XS.iconst X0.here hx rfl (hb hby d1_46) ?_
                  exact k
                refine hG (own_fin X0 hlk (some (.int (nar .boolean (0 : Int32)))) (own_hv Bd.returns) ?_ (by decide) (by decide) (fun fs hr => r31 _ (retN X0 hx (t := .boolean) Bd.returns (by simp) (hb hby d1_47) hr)))
                rw [e0]
                refine ⟨?_, N0, rfl⟩
                have ev : (own_name p0) = (0 : Int32) := by unfold own_name; rw [if_pos hc2, if_neg hc4, if_pos hc19, if_neg hc21, if_pos hc27, if_neg hc29]
                rw [ev]
                rfl
            · have r32 : own_R p.tables e below F0 (s₁.setTop (mkF m 47 #[.val (.int p0)] [(.int (1 : Int32))])) := fun t k => by
                refine r26 t ?_
                show Steps p.tables e below (s₁.setTop (mkF m 33 #[.val (.int p0)] [(.int (57 : Int32)), (.int p0)])) _
                refine XS.icmpYes X0.here hx rfl (pc0 := 33) (pc' := 42) rfl (hb hby d1_33) rfl (flt hc27).2.2.2 (by decide) (by decide) ?_
                show Steps p.tables e below (s₁.setTop (mkF m 42 #[.val (.int p0)] [])) _
                refine XS.iconst X0.here hx rfl (hb hby d1_42) ?_
                show Steps p.tables e below (s₁.setTop (mkF m 43 #[.val (.int p0)] [(.int (1 : Int32))])) _
                refine XS.goto X0.here hx rfl (pc0 := 43) (pc' := 47) rfl (hb hby d1_43) (by decide) (by decide) ?_
                exact k
              refine hG (own_fin X0 hlk (some (.int (nar .boolean (1 : Int32)))) (own_hv Bd.returns) ?_ (by decide) (by decide) (fun fs hr => r32 _ (retN X0 hx (t := .boolean) Bd.returns (by simp) (hb hby d1_47) hr)))
              rw [e0]
              refine ⟨?_, N0, rfl⟩
              have ev : (own_name p0) = (1 : Int32) := by unfold own_name; rw [if_pos hc2, if_neg hc4, if_pos hc19, if_neg hc21, if_neg hc27]
              rw [ev]
              rfl
        · have r33 : own_R p.tables e below F0 (s₁.setTop (mkF m 47 #[.val (.int p0)] [(.int (1 : Int32))])) := fun t k => by
            refine r18 t ?_
            show Steps p.tables e below (s₁.setTop (mkF m 21 #[.val (.int p0)] [(.int (122 : Int32)), (.int p0)])) _
            refine XS.icmpYes X0.here hx rfl (pc0 := 21) (pc' := 42) rfl (hb hby d1_21) rfl (flt hc19).2.2.2 (by decide) (by decide) ?_
            show Steps p.tables e below (s₁.setTop (mkF m 42 #[.val (.int p0)] [])) _
            refine XS.iconst X0.here hx rfl (hb hby d1_42) ?_
            show Steps p.tables e below (s₁.setTop (mkF m 43 #[.val (.int p0)] [(.int (1 : Int32))])) _
            refine XS.goto X0.here hx rfl (pc0 := 43) (pc' := 47) rfl (hb hby d1_43) (by decide) (by decide) ?_
            exact k
          refine hG (own_fin X0 hlk (some (.int (nar .boolean (1 : Int32)))) (own_hv Bd.returns) ?_ (by decide) (by decide) (fun fs hr => r33 _ (retN X0 hx (t := .boolean) Bd.returns (by simp) (hb hby d1_47) hr)))
          rw [e0]
          refine ⟨?_, N0, rfl⟩
          have ev : (own_name p0) = (1 : Int32) := by unfold own_name; rw [if_pos hc2, if_neg hc4, if_neg hc19]
          rw [ev]
          rfl
    · have r34 : own_R p.tables e below F0 (s₁.setTop (mkF m 9 #[.val (.int p0)] [(.int (90 : Int32)), (.int p0)])) := fun t k => by
        refine r1 t ?_
        show Steps p.tables e below (s₁.setTop (mkF m 3 #[.val (.int p0)] [(.int (65 : Int32)), (.int p0)])) _
        refine XS.icmpNo X0.here hx rfl (hb hby d1_3) rfl (flt hc2).1 ?_
        show Steps p.tables e below (s₁.setTop (mkF m 6 #[.val (.int p0)] [])) _
        refine XS.iloadN X0.here hx rfl (hb hby d1_6) rfl ?_
        show Steps p.tables e below (s₁.setTop (mkF m 7 #[.val (.int p0)] [(.int p0)])) _
        refine XS.bipush X0.here hx rfl (hb hby d1_7) ?_
        exact k
      by_cases hc35 : (90 : Int32) < p0
      · have r36 : own_R p.tables e below F0 (s₁.setTop (mkF m 15 #[.val (.int p0)] [(.int (97 : Int32)), (.int p0)])) := fun t k => by
          refine r34 t ?_
          show Steps p.tables e below (s₁.setTop (mkF m 9 #[.val (.int p0)] [(.int (90 : Int32)), (.int p0)])) _
          refine XS.icmpNo X0.here hx rfl (hb hby d1_9) rfl (tlt hc35).2.2.2 ?_
          show Steps p.tables e below (s₁.setTop (mkF m 12 #[.val (.int p0)] [])) _
          refine XS.iloadN X0.here hx rfl (hb hby d1_12) rfl ?_
          show Steps p.tables e below (s₁.setTop (mkF m 13 #[.val (.int p0)] [(.int p0)])) _
          refine XS.bipush X0.here hx rfl (hb hby d1_13) ?_
          exact k
        by_cases hc37 : p0 < (97 : Int32)
        · have r38 : own_R p.tables e below F0 (s₁.setTop (mkF m 27 #[.val (.int p0)] [(.int (48 : Int32)), (.int p0)])) := fun t k => by
            refine r36 t ?_
            show Steps p.tables e below (s₁.setTop (mkF m 15 #[.val (.int p0)] [(.int (97 : Int32)), (.int p0)])) _
            refine XS.icmpYes X0.here hx rfl (pc0 := 15) (pc' := 24) rfl (hb hby d1_15) rfl (tlt hc37).1 (by decide) (by decide) ?_
            show Steps p.tables e below (s₁.setTop (mkF m 24 #[.val (.int p0)] [])) _
            refine XS.iloadN X0.here hx rfl (hb hby d1_24) rfl ?_
            show Steps p.tables e below (s₁.setTop (mkF m 25 #[.val (.int p0)] [(.int p0)])) _
            refine XS.bipush X0.here hx rfl (hb hby d1_25) ?_
            exact k
          by_cases hc39 : p0 < (48 : Int32)
          · have r40 : own_R p.tables e below F0 (s₁.setTop (mkF m 39 #[.val (.int p0)] [(.int (95 : Int32)), (.int p0)])) := fun t k => by
              refine r38 t ?_
              show Steps p.tables e below (s₁.setTop (mkF m 27 #[.val (.int p0)] [(.int (48 : Int32)), (.int p0)])) _
              refine XS.icmpYes X0.here hx rfl (pc0 := 27) (pc' := 36) rfl (hb hby d1_27) rfl (tlt hc39).1 (by decide) (by decide) ?_
              show Steps p.tables e below (s₁.setTop (mkF m 36 #[.val (.int p0)] [])) _
              refine XS.iloadN X0.here hx rfl (hb hby d1_36) rfl ?_
              show Steps p.tables e below (s₁.setTop (mkF m 37 #[.val (.int p0)] [(.int p0)])) _
              refine XS.bipush X0.here hx rfl (hb hby d1_37) ?_
              exact k
            by_cases hc41 : p0 = (95 : Int32)
            · have r42 : own_R p.tables e below F0 (s₁.setTop (mkF m 47 #[.val (.int p0)] [(.int (1 : Int32))])) := fun t k => by
                refine r40 t ?_
                show Steps p.tables e below (s₁.setTop (mkF m 39 #[.val (.int p0)] [(.int (95 : Int32)), (.int p0)])) _
                refine XS.icmpNo X0.here hx rfl (hb hby d1_39) rfl (teq hc41).2 ?_
                show Steps p.tables e below (s₁.setTop (mkF m 42 #[.val (.int p0)] [])) _
                refine XS.iconst X0.here hx rfl (hb hby d1_42) ?_
                show Steps p.tables e below (s₁.setTop (mkF m 43 #[.val (.int p0)] [(.int (1 : Int32))])) _
                refine XS.goto X0.here hx rfl (pc0 := 43) (pc' := 47) rfl (hb hby d1_43) (by decide) (by decide) ?_
                exact k
              refine hG (own_fin X0 hlk (some (.int (nar .boolean (1 : Int32)))) (own_hv Bd.returns) ?_ (by decide) (by decide) (fun fs hr => r42 _ (retN X0 hx (t := .boolean) Bd.returns (by simp) (hb hby d1_47) hr)))
              rw [e0]
              refine ⟨?_, N0, rfl⟩
              have ev : (own_name p0) = (1 : Int32) := by unfold own_name; rw [if_neg hc2, if_pos hc35, if_pos hc37, if_pos hc39, if_pos hc41]
              rw [ev]
              rfl
            · have r43 : own_R p.tables e below F0 (s₁.setTop (mkF m 47 #[.val (.int p0)] [(.int (0 : Int32))])) := fun t k => by
                refine r40 t ?_
                show Steps p.tables e below (s₁.setTop (mkF m 39 #[.val (.int p0)] [(.int (95 : Int32)), (.int p0)])) _
                refine XS.icmpYes X0.here hx rfl (pc0 := 39) (pc' := 46) rfl (hb hby d1_39) rfl (feq hc41).2 (by decide) (by decide) ?_
                show Steps p.tables e below (s₁.setTop (mkF m 46 #[.val (.int p0)] [])) _
                refine XS.iconst X0.here hx rfl (hb hby d1_46) ?_
                exact k
              refine hG (own_fin X0 hlk (some (.int (nar .boolean (0 : Int32)))) (own_hv Bd.returns) ?_ (by decide) (by decide) (fun fs hr => r43 _ (retN X0 hx (t := .boolean) Bd.returns (by simp) (hb hby d1_47) hr)))
              rw [e0]
              refine ⟨?_, N0, rfl⟩
              have ev : (own_name p0) = (0 : Int32) := by unfold own_name; rw [if_neg hc2, if_pos hc35, if_pos hc37, if_pos hc39, if_neg hc41]
              rw [ev]
              rfl
          · have r44 : own_R p.tables e below F0 (s₁.setTop (mkF m 33 #[.val (.int p0)] [(.int (57 : Int32)), (.int p0)])) := fun t k => by
              refine r38 t ?_
              show Steps p.tables e below (s₁.setTop (mkF m 27 #[.val (.int p0)] [(.int (48 : Int32)), (.int p0)])) _
              refine XS.icmpNo X0.here hx rfl (hb hby d1_27) rfl (flt hc39).1 ?_
              show Steps p.tables e below (s₁.setTop (mkF m 30 #[.val (.int p0)] [])) _
              refine XS.iloadN X0.here hx rfl (hb hby d1_30) rfl ?_
              show Steps p.tables e below (s₁.setTop (mkF m 31 #[.val (.int p0)] [(.int p0)])) _
              refine XS.bipush X0.here hx rfl (hb hby d1_31) ?_
              exact k
            by_cases hc45 : (57 : Int32) < p0
            · have r46 : own_R p.tables e below F0 (s₁.setTop (mkF m 39 #[.val (.int p0)] [(.int (95 : Int32)), (.int p0)])) := fun t k => by
                refine r44 t ?_
                show Steps p.tables e below (s₁.setTop (mkF m 33 #[.val (.int p0)] [(.int (57 : Int32)), (.int p0)])) _
                refine XS.icmpNo X0.here hx rfl (hb hby d1_33) rfl (tlt hc45).2.2.2 ?_
                show Steps p.tables e below (s₁.setTop (mkF m 36 #[.val (.int p0)] [])) _
                refine XS.iloadN X0.here hx rfl (hb hby d1_36) rfl ?_
                show Steps p.tables e below (s₁.setTop (mkF m 37 #[.val (.int p0)] [(.int p0)])) _
                refine XS.bipush X0.here hx rfl (hb hby d1_37) ?_
                exact k
              by_cases hc47 : p0 = (95 : Int32)
              · have r48 : own_R p.tables e below F0 (s₁.setTop (mkF m 47 #[.val (.int p0)] [(.int (1 : Int32))])) := fun t k => by
                  refine r46 t ?_
                  show Steps p.tables e below (s₁.setTop (mkF m 39 #[.val (.int p0)] [(.int (95 : Int32)), (.int p0)])) _
                  refine XS.icmpNo X0.here hx rfl (hb hby d1_39) rfl (teq hc47).2 ?_
                  show Steps p.tables e below (s₁.setTop (mkF m 42 #[.val (.int p0)] [])) _
                  refine XS.iconst X0.here hx rfl (hb hby d1_42) ?_
                  show Steps p.tables e below (s₁.setTop (mkF m 43 #[.val (.int p0)] [(.int (1 : Int32))])) _
                  refine XS.goto X0.here hx rfl (pc0 := 43) (pc' := 47) rfl (hb hby d1_43) (by decide) (by decide) ?_
                  exact k
                refine hG (own_fin X0 hlk (some (.int (nar .boolean (1 : Int32)))) (own_hv Bd.returns) ?_ (by decide) (by decide) (fun fs hr => r48 _ (retN X0 hx (t := .boolean) Bd.returns (by simp) (hb hby d1_47) hr)))
                rw [e0]
                refine ⟨?_, N0, rfl⟩
                have ev : (own_name p0) = (1 : Int32) := by unfold own_name; rw [if_neg hc2, if_pos hc35, if_pos hc37, if_neg hc39, if_pos hc45, if_pos hc47]
                rw [ev]
                rfl
              · have r49 : own_R p.tables e below F0 (s₁.setTop (mkF m 47 #[.val (.int p0)] [(.int (0 : Int32))])) := fun t k => by
                  refine r46 t ?_
                  show Steps p.tables e below (s₁.setTop (mkF m 39 #[.val (.int p0)] [(.int (95 : Int32)), (.int p0)])) _
                  refine XS.icmpYes X0.here hx rfl (pc0 := 39) (pc' := 46) rfl (hb hby d1_39) rfl (feq hc47).2 (by decide) (by decide) ?_
                  show Steps p.tables e below (s₁.setTop (mkF m 46 #[.val (.int p0)] [])) _
                  refine XS.iconst X0.here hx rfl (hb hby d1_46) ?_
                  exact k
                refine hG (own_fin X0 hlk (some (.int (nar .boolean (0 : Int32)))) (own_hv Bd.returns) ?_ (by decide) (by decide) (fun fs hr => r49 _ (retN X0 hx (t := .boolean) Bd.returns (by simp) (hb hby d1_47) hr)))
                rw [e0]
                refine ⟨?_, N0, rfl⟩
                have ev : (own_name p0) = (0 : Int32) := by unfold own_name; rw [if_neg hc2, if_pos hc35, if_pos hc37, if_neg hc39, if_pos hc45, if_neg hc47]
                rw [ev]
                rfl
            · have r50 : own_R p.tables e below F0 (s₁.setTop (mkF m 47 #[.val (.int p0)] [(.int (1 : Int32))])) := fun t k => by
                refine r44 t ?_
                show Steps p.tables e below (s₁.setTop (mkF m 33 #[.val (.int p0)] [(.int (57 : Int32)), (.int p0)])) _
                refine XS.icmpYes X0.here hx rfl (pc0 := 33) (pc' := 42) rfl (hb hby d1_33) rfl (flt hc45).2.2.2 (by decide) (by decide) ?_
                show Steps p.tables e below (s₁.setTop (mkF m 42 #[.val (.int p0)] [])) _
                refine XS.iconst X0.here hx rfl (hb hby d1_42) ?_
                show Steps p.tables e below (s₁.setTop (mkF m 43 #[.val (.int p0)] [(.int (1 : Int32))])) _
                refine XS.goto X0.here hx rfl (pc0 := 43) (pc' := 47) rfl (hb hby d1_43) (by decide) (by decide) ?_
                exact k
              refine hG (own_fin X0 hlk (some (.int (nar .boolean (1 : Int32)))) (own_hv Bd.returns) ?_ (by decide) (by decide) (fun fs hr => r50 _ (retN X0 hx (t := .boolean) Bd.returns (by simp) (hb hby d1_47) hr)))
              rw [e0]
              refine ⟨?_, N0, rfl⟩
              have ev : (own_name p0) = (1 : Int32) := by unfold own_name; rw [if_neg hc2, if_pos hc35, if_pos hc37, if_neg hc39, if_neg hc45]
              rw [ev]
              rfl
        · have r51 : own_R p.tables e below F0 (s₁.setTop (mkF m 21 #[.val (.int p0)] [(.int (122 : Int32)), (.int p0)])) := fun t k => by
            refine r36 t ?_
            show Steps p.tables e below (s₁.setTop (mkF m 15 #[.val (.int p0)] [(.int (97 : Int32)), (.int p0)])) _
            refine XS.icmpNo X0.here hx rfl (hb hby d1_15) rfl (flt hc37).1 ?_
            show Steps p.tables e below (s₁.setTop (mkF m 18 #[.val (.int p0)] [])) _
            refine XS.iloadN X0.here hx rfl (hb hby d1_18) rfl ?_
            show Steps p.tables e below (s₁.setTop (mkF m 19 #[.val (.int p0)] [(.int p0)])) _
            refine XS.bipush X0.here hx rfl (hb hby d1_19) ?_
            exact k
          by_cases hc52 : (122 : Int32) < p0
          · have r53 : own_R p.tables e below F0 (s₁.setTop (mkF m 27 #[.val (.int p0)] [(.int (48 : Int32)), (.int p0)])) := fun t k => by
              refine r51 t ?_
              show Steps p.tables e below (s₁.setTop (mkF m 21 #[.val (.int p0)] [(.int (122 : Int32)), (.int p0)])) _
              refine XS.icmpNo X0.here hx rfl (hb hby d1_21) rfl (tlt hc52).2.2.2 ?_
              show Steps p.tables e below (s₁.setTop (mkF m 24 #[.val (.int p0)] [])) _
              refine XS.iloadN X0.here hx rfl (hb hby d1_24) rfl ?_
              show Steps p.tables e below (s₁.setTop (mkF m 25 #[.val (.int p0)] [(.int p0)])) _
              refine XS.bipush X0.here hx rfl (hb hby d1_25) ?_
              exact k
            by_cases hc54 : p0 < (48 : Int32)
            · have r55 : own_R p.tables e below F0 (s₁.setTop (mkF m 39 #[.val (.int p0)] [(.int (95 : Int32)), (.int p0)])) := fun t k => by
                refine r53 t ?_
                show Steps p.tables e below (s₁.setTop (mkF m 27 #[.val (.int p0)] [(.int (48 : Int32)), (.int p0)])) _
                refine XS.icmpYes X0.here hx rfl (pc0 := 27) (pc' := 36) rfl (hb hby d1_27) rfl (tlt hc54).1 (by decide) (by decide) ?_
                show Steps p.tables e below (s₁.setTop (mkF m 36 #[.val (.int p0)] [])) _
                refine XS.iloadN X0.here hx rfl (hb hby d1_36) rfl ?_
                show Steps p.tables e below (s₁.setTop (mkF m 37 #[.val (.int p0)] [(.int p0)])) _
                refine XS.bipush X0.here hx rfl (hb hby d1_37) ?_
                exact k
              by_cases hc56 : p0 = (95 : Int32)
              · have r57 : own_R p.tables e below F0 (s₁.setTop (mkF m 47 #[.val (.int p0)] [(.int (1 : Int32))])) := fun t k => by
                  refine r55 t ?_
                  show Steps p.tables e below (s₁.setTop (mkF m 39 #[.val (.int p0)] [(.int (95 : Int32)), (.int p0)])) _
                  refine XS.icmpNo X0.here hx rfl (hb hby d1_39) rfl (teq hc56).2 ?_
                  show Steps p.tables e below (s₁.setTop (mkF m 42 #[.val (.int p0)] [])) _
                  refine XS.iconst X0.here hx rfl (hb hby d1_42) ?_
                  show Steps p.tables e below (s₁.setTop (mkF m 43 #[.val (.int p0)] [(.int (1 : Int32))])) _
                  refine XS.goto X0.here hx rfl (pc0 := 43) (pc' := 47) rfl (hb hby d1_43) (by decide) (by decide) ?_
                  exact k
                refine hG (own_fin X0 hlk (some (.int (nar .boolean (1 : Int32)))) (own_hv Bd.returns) ?_ (by decide) (by decide) (fun fs hr => r57 _ (retN X0 hx (t := .boolean) Bd.returns (by simp) (hb hby d1_47) hr)))
                rw [e0]
                refine ⟨?_, N0, rfl⟩
                have ev : (own_name p0) = (1 : Int32) := by unfold own_name; rw [if_neg hc2, if_pos hc35, if_neg hc37, if_pos hc52, if_pos hc54, if_pos hc56]
                rw [ev]
                rfl
              · have r58 : own_R p.tables e below F0 (s₁.setTop (mkF m 47 #[.val (.int p0)] [(.int (0 : Int32))])) := fun t k => by
                  refine r55 t ?_
                  show Steps p.tables e below (s₁.setTop (mkF m 39 #[.val (.int p0)] [(.int (95 : Int32)), (.int p0)])) _
                  refine XS.icmpYes X0.here hx rfl (pc0 := 39) (pc' := 46) rfl (hb hby d1_39) rfl (feq hc56).2 (by decide) (by decide) ?_
                  show Steps p.tables e below (s₁.setTop (mkF m 46 #[.val (.int p0)] [])) _
                  refine XS.iconst X0.here hx rfl (hb hby d1_46) ?_
                  exact k
                refine hG (own_fin X0 hlk (some (.int (nar .boolean (0 : Int32)))) (own_hv Bd.returns) ?_ (by decide) (by decide) (fun fs hr => r58 _ (retN X0 hx (t := .boolean) Bd.returns (by simp) (hb hby d1_47) hr)))
                rw [e0]
                refine ⟨?_, N0, rfl⟩
                have ev : (own_name p0) = (0 : Int32) := by unfold own_name; rw [if_neg hc2, if_pos hc35, if_neg hc37, if_pos hc52, if_pos hc54, if_neg hc56]
                rw [ev]
                rfl
            · have r59 : own_R p.tables e below F0 (s₁.setTop (mkF m 33 #[.val (.int p0)] [(.int (57 : Int32)), (.int p0)])) := fun t k => by
                refine r53 t ?_
                show Steps p.tables e below (s₁.setTop (mkF m 27 #[.val (.int p0)] [(.int (48 : Int32)), (.int p0)])) _
                refine XS.icmpNo X0.here hx rfl (hb hby d1_27) rfl (flt hc54).1 ?_
                show Steps p.tables e below (s₁.setTop (mkF m 30 #[.val (.int p0)] [])) _
                refine XS.iloadN X0.here hx rfl (hb hby d1_30) rfl ?_
                show Steps p.tables e below (s₁.setTop (mkF m 31 #[.val (.int p0)] [(.int p0)])) _
                refine XS.bipush X0.here hx rfl (hb hby d1_31) ?_
                exact k
              by_cases hc60 : (57 : Int32) < p0
              · have r61 : own_R p.tables e below F0 (s₁.setTop (mkF m 39 #[.val (.int p0)] [(.int (95 : Int32)), (.int p0)])) := fun t k => by
                  refine r59 t ?_
                  show Steps p.tables e below (s₁.setTop (mkF m 33 #[.val (.int p0)] [(.int (57 : Int32)), (.int p0)])) _
                  refine XS.icmpNo X0.here hx rfl (hb hby d1_33) rfl (tlt hc60).2.2.2 ?_
                  show Steps p.tables e below (s₁.setTop (mkF m 36 #[.val (.int p0)] [])) _
                  refine XS.iloadN X0.here hx rfl (hb hby d1_36) rfl ?_
                  show Steps p.tables e below (s₁.setTop (mkF m 37 #[.val (.int p0)] [(.int p0)])) _
                  refine XS.bipush X0.here hx rfl (hb hby d1_37) ?_
                  exact k
                by_cases hc62 : p0 = (95 : Int32)
                · have r63 : own_R p.tables e below F0 (s₁.setTop (mkF m 47 #[.val (.int p0)] [(.int (1 : Int32))])) := fun t k => by
                    refine r61 t ?_
                    show Steps p.tables e below (s₁.setTop (mkF m 39 #[.val (.int p0)] [(.int (95 : Int32)), (.int p0)])) _
                    refine XS.icmpNo X0.here hx rfl (hb hby d1_39) rfl (teq hc62).2 ?_
                    show Steps p.tables e below (s₁.setTop (mkF m 42 #[.val (.int p0)] [])) _
                    refine XS.iconst X0.here hx rfl (hb hby d1_42) ?_
                    show Steps p.tables e below (s₁.setTop (mkF m 43 #[.val (.int p0)] [(.int (1 : Int32))])) _
                    refine XS.goto X0.here hx rfl (pc0 := 43) (pc' := 47) rfl (hb hby d1_43) (by decide) (by decide) ?_
                    exact k
                  refine hG (own_fin X0 hlk (some (.int (nar .boolean (1 : Int32)))) (own_hv Bd.returns) ?_ (by decide) (by decide) (fun fs hr => r63 _ (retN X0 hx (t := .boolean) Bd.returns (by simp) (hb hby d1_47) hr)))
                  rw [e0]
                  refine ⟨?_, N0, rfl⟩
                  have ev : (own_name p0) = (1 : Int32) := by unfold own_name; rw [if_neg hc2, if_pos hc35, if_neg hc37, if_pos hc52, if_neg hc54, if_pos hc60, if_pos hc62]
                  rw [ev]
                  rfl
                · have r64 : own_R p.tables e below F0 (s₁.setTop (mkF m 47 #[.val (.int p0)] [(.int (0 : Int32))])) := fun t k => by
                    refine r61 t ?_
                    show Steps p.tables e below (s₁.setTop (mkF m 39 #[.val (.int p0)] [(.int (95 : Int32)), (.int p0)])) _
                    refine XS.icmpYes X0.here hx rfl (pc0 := 39) (pc' := 46) rfl (hb hby d1_39) rfl (feq hc62).2 (by decide) (by decide) ?_
                    show Steps p.tables e below (s₁.setTop (mkF m 46 #[.val (.int p0)] [])) _
                    refine XS.iconst X0.here hx rfl (hb hby d1_46) ?_
                    exact k
                  refine hG (own_fin X0 hlk (some (.int (nar .boolean (0 : Int32)))) (own_hv Bd.returns) ?_ (by decide) (by decide) (fun fs hr => r64 _ (retN X0 hx (t := .boolean) Bd.returns (by simp) (hb hby d1_47) hr)))
                  rw [e0]
                  refine ⟨?_, N0, rfl⟩
                  have ev : (own_name p0) = (0 : Int32) := by unfold own_name; rw [if_neg hc2, if_pos hc35, if_neg hc37, if_pos hc52, if_neg hc54, if_pos hc60, if_neg hc62]
                  rw [ev]
                  rfl
              · have r65 : own_R p.tables e below F0 (s₁.setTop (mkF m 47 #[.val (.int p0)] [(.int (1 : Int32))])) := fun t k => by
                  refine r59 t ?_
                  show Steps p.tables e below (s₁.setTop (mkF m 33 #[.val (.int p0)] [(.int (57 : Int32)), (.int p0)])) _
                  refine XS.icmpYes X0.here hx rfl (pc0 := 33) (pc' := 42) rfl (hb hby d1_33) rfl (flt hc60).2.2.2 (by decide) (by decide) ?_
                  show Steps p.tables e below (s₁.setTop (mkF m 42 #[.val (.int p0)] [])) _
                  refine XS.iconst X0.here hx rfl (hb hby d1_42) ?_
                  show Steps p.tables e below (s₁.setTop (mkF m 43 #[.val (.int p0)] [(.int (1 : Int32))])) _
                  refine XS.goto X0.here hx rfl (pc0 := 43) (pc' := 47) rfl (hb hby d1_43) (by decide) (by decide) ?_
                  exact k
                refine hG (own_fin X0 hlk (some (.int (nar .boolean (1 : Int32)))) (own_hv Bd.returns) ?_ (by decide) (by decide) (fun fs hr => r65 _ (retN X0 hx (t := .boolean) Bd.returns (by simp) (hb hby d1_47) hr)))
                rw [e0]
                refine ⟨?_, N0, rfl⟩
                have ev : (own_name p0) = (1 : Int32) := by unfold own_name; rw [if_neg hc2, if_pos hc35, if_neg hc37, if_pos hc52, if_neg hc54, if_neg hc60]
                rw [ev]
                rfl
          · have r66 : own_R p.tables e below F0 (s₁.setTop (mkF m 47 #[.val (.int p0)] [(.int (1 : Int32))])) := fun t k => by
              refine r51 t ?_
              show Steps p.tables e below (s₁.setTop (mkF m 21 #[.val (.int p0)] [(.int (122 : Int32)), (.int p0)])) _
              refine XS.icmpYes X0.here hx rfl (pc0 := 21) (pc' := 42) rfl (hb hby d1_21) rfl (flt hc52).2.2.2 (by decide) (by decide) ?_
              show Steps p.tables e below (s₁.setTop (mkF m 42 #[.val (.int p0)] [])) _
              refine XS.iconst X0.here hx rfl (hb hby d1_42) ?_
              show Steps p.tables e below (s₁.setTop (mkF m 43 #[.val (.int p0)] [(.int (1 : Int32))])) _
              refine XS.goto X0.here hx rfl (pc0 := 43) (pc' := 47) rfl (hb hby d1_43) (by decide) (by decide) ?_
              exact k
            refine hG (own_fin X0 hlk (some (.int (nar .boolean (1 : Int32)))) (own_hv Bd.returns) ?_ (by decide) (by decide) (fun fs hr => r66 _ (retN X0 hx (t := .boolean) Bd.returns (by simp) (hb hby d1_47) hr)))
            rw [e0]
            refine ⟨?_, N0, rfl⟩
            have ev : (own_name p0) = (1 : Int32) := by unfold own_name; rw [if_neg hc2, if_pos hc35, if_neg hc37, if_neg hc52]
            rw [ev]
            rfl
      · have r67 : own_R p.tables e below F0 (s₁.setTop (mkF m 47 #[.val (.int p0)] [(.int (1 : Int32))])) := fun t k => by
          refine r34 t ?_
          show Steps p.tables e below (s₁.setTop (mkF m 9 #[.val (.int p0)] [(.int (90 : Int32)), (.int p0)])) _
          refine XS.icmpYes X0.here hx rfl (pc0 := 9) (pc' := 42) rfl (hb hby d1_9) rfl (flt hc35).2.2.2 (by decide) (by decide) ?_
          show Steps p.tables e below (s₁.setTop (mkF m 42 #[.val (.int p0)] [])) _
          refine XS.iconst X0.here hx rfl (hb hby d1_42) ?_
          show Steps p.tables e below (s₁.setTop (mkF m 43 #[.val (.int p0)] [(.int (1 : Int32))])) _
          refine XS.goto X0.here hx rfl (pc0 := 43) (pc' := 47) rfl (hb hby d1_43) (by decide) (by decide) ?_
          exact k
        refine hG (own_fin X0 hlk (some (.int (nar .boolean (1 : Int32)))) (own_hv Bd.returns) ?_ (by decide) (by decide) (fun fs hr => r67 _ (retN X0 hx (t := .boolean) Bd.returns (by simp) (hb hby d1_47) hr)))
        rw [e0]
        refine ⟨?_, N0, rfl⟩
        have ev : (own_name p0) = (1 : Int32) := by unfold own_name; rw [if_neg hc2, if_neg hc35]
        rw [ev]
        rfl
  exact key _ _ id (fun t k => castTop (ef_1 m p0) k)
def own_exp (p0 : Int32) : Int32 := (if (p0 ||| (32 : Int32)) < (97 : Int32) then (if ((p0.toInt64) - (48 : Int64)) < (0 : Int64) then (if p0 = (95 : Int32) then (1 : Int32) else (0 : Int32)) else (if ((p0.toInt64) - (48 : Int64)) < (10 : Int64) then (if p0 = (95 : Int32) then (1 : Int32) else (1 : Int32)) else (if p0 = (95 : Int32) then (1 : Int32) else (0 : Int32)))) else (if (122 : Int32) < (p0 ||| (32 : Int32)) then (if ((p0.toInt64) - (48 : Int64)) < (0 : Int64) then (if p0 = (95 : Int32) then (1 : Int32) else (0 : Int32)) else (if ((p0.toInt64) - (48 : Int64)) < (10 : Int64) then (if p0 = (95 : Int32) then (1 : Int32) else (1 : Int32)) else (if p0 = (95 : Int32) then (1 : Int32) else (0 : Int32)))) else (if ((p0.toInt64) - (48 : Int64)) < (0 : Int64) then (if p0 = (95 : Int32) then (1 : Int32) else (1 : Int32)) else (if ((p0.toInt64) - (48 : Int64)) < (10 : Int64) then (if p0 = (95 : Int32) then (1 : Int32) else (1 : Int32)) else (if p0 = (95 : Int32) then (1 : Int32) else (1 : Int32))))))
theorem pn_1 : plainName "org/jadoube/io/PgnReaderIsNameCharacterPinLaw" = true := by first | (simp [plainName, overriddenIn]; done) | decide +kernel
theorem d2_0 : decode method_2_code 0 = .ok (.iload_n 0, 1) := by decide +kernel
theorem d2_1 : decode method_2_code 1 = .ok (.bipush 32, 2) := by decide +kernel
theorem d2_3 : decode method_2_code 3 = .ok (.ior, 1) := by decide +kernel
theorem d2_4 : decode method_2_code 4 = .ok (.istore_n 1, 1) := by decide +kernel
theorem d2_5 : decode method_2_code 5 = .ok (.iload_n 1, 1) := by decide +kernel
theorem d2_6 : decode method_2_code 6 = .ok (.bipush 97, 2) := by decide +kernel
theorem d2_8 : decode method_2_code 8 = .ok (.if_icmp .lt 13, 3) := by decide +kernel
theorem d2_11 : decode method_2_code 11 = .ok (.iload_n 1, 1) := by decide +kernel
theorem d2_12 : decode method_2_code 12 = .ok (.bipush 122, 2) := by decide +kernel
theorem d2_14 : decode method_2_code 14 = .ok (.if_icmp .gt 7, 3) := by decide +kernel
theorem d2_17 : decode method_2_code 17 = .ok (.iconst 1, 1) := by decide +kernel
theorem d2_18 : decode method_2_code 18 = .ok (.goto 4, 3) := by decide +kernel
theorem d2_21 : decode method_2_code 21 = .ok (.iconst 0, 1) := by decide +kernel
theorem d2_22 : decode method_2_code 22 = .ok (.istore_n 2, 1) := by decide +kernel
theorem d2_23 : decode method_2_code 23 = .ok (.iload_n 0, 1) := by decide +kernel
theorem d2_24 : decode method_2_code 24 = .ok (.i2l, 1) := by decide +kernel
theorem d2_25 : decode method_2_code 25 = .ok (.ldc2_w 7, 3) := by decide +kernel
theorem d2_28 : decode method_2_code 28 = .ok (.lsub, 1) := by decide +kernel
theorem d2_29 : decode method_2_code 29 = .ok (.lstore_n 3, 1) := by decide +kernel
theorem d2_30 : decode method_2_code 30 = .ok (.lload_n 3, 1) := by decide +kernel
theorem d2_31 : decode method_2_code 31 = .ok (.lconst 0, 1) := by decide +kernel
theorem d2_32 : decode method_2_code 32 = .ok (.lcmp, 1) := by decide +kernel
theorem d2_33 : decode method_2_code 33 = .ok (.ifCond .lt 15, 3) := by decide +kernel
theorem d2_36 : decode method_2_code 36 = .ok (.lload_n 3, 1) := by decide +kernel
theorem d2_37 : decode method_2_code 37 = .ok (.ldc2_w 9, 3) := by decide +kernel
theorem d2_40 : decode method_2_code 40 = .ok (.lcmp, 1) := by decide +kernel
theorem d2_41 : decode method_2_code 41 = .ok (.ifCond .ge 7, 3) := by decide +kernel
theorem d2_44 : decode method_2_code 44 = .ok (.iconst 1, 1) := by decide +kernel
theorem d2_45 : decode method_2_code 45 = .ok (.goto 4, 3) := by decide +kernel
theorem d2_48 : decode method_2_code 48 = .ok (.iconst 0, 1) := by decide +kernel
theorem d2_49 : decode method_2_code 49 = .ok (.istore 5, 2) := by decide +kernel
theorem d2_51 : decode method_2_code 51 = .ok (.iload_n 0, 1) := by decide +kernel
theorem d2_52 : decode method_2_code 52 = .ok (.bipush 95, 2) := by decide +kernel
theorem d2_54 : decode method_2_code 54 = .ok (.if_icmp .ne 7, 3) := by decide +kernel
theorem d2_57 : decode method_2_code 57 = .ok (.iconst 1, 1) := by decide +kernel
theorem d2_58 : decode method_2_code 58 = .ok (.goto 4, 3) := by decide +kernel
theorem d2_61 : decode method_2_code 61 = .ok (.iconst 0, 1) := by decide +kernel
theorem d2_62 : decode method_2_code 62 = .ok (.istore 6, 2) := by decide +kernel
theorem d2_64 : decode method_2_code 64 = .ok (.iload_n 2, 1) := by decide +kernel
theorem d2_65 : decode method_2_code 65 = .ok (.ifCond .ne 13, 3) := by decide +kernel
theorem d2_68 : decode method_2_code 68 = .ok (.iload 5, 2) := by decide +kernel
theorem d2_70 : decode method_2_code 70 = .ok (.ifCond .ne 8, 3) := by decide +kernel
theorem d2_73 : decode method_2_code 73 = .ok (.iload 6, 2) := by decide +kernel
theorem d2_75 : decode method_2_code 75 = .ok (.ifCond .eq 7, 3) := by decide +kernel
theorem d2_78 : decode method_2_code 78 = .ok (.iconst 1, 1) := by decide +kernel
theorem d2_79 : decode method_2_code 79 = .ok (.goto 4, 3) := by decide +kernel
theorem d2_82 : decode method_2_code 82 = .ok (.iconst 0, 1) := by decide +kernel
theorem d2_83 : decode method_2_code 83 = .ok (.ireturn, 1) := by decide +kernel
theorem ef_2 (m : MethodId) (x0 : Int32) : entryFrame m #[(.int x0)] 7 = mkF m 0 #[.val (.int x0), .unset, .unset, .unset, .unset, .unset, .unset] [] := by first | (simp [entryFrame, mkF, argsToLocals, Value.category]; done) | rfl
def Q2 (Z : State) (p0 : Int32) (h0 : Heap) (n0 : Nat) (v : Option Value) (h : Heap) (L : List Loc) : Prop := v = some (.int (own_exp p0)) ∧ Fr n0 L ∧ h = h0
set_option maxRecDepth 65536 in
set_option maxHeartbeats 40000000 in
theorem rm2 (l : Launch) (Z : State) (a0 : Array Value) (hw : ∀ d ∈ tables_1, d.before a0 Z = true) (ws : List Jvm.Cond) (p0 : Int32) (h0 : Heap) (n0 : Nat) (Z0 : n0 ≤ h0.size) :
    MetFree l (⟨"org/jadoube/io/PgnReaderIsNameCharacterPinLaw", "expected", "(I)Z"⟩ : MethodName) (head1 (Jvm.Cond.code (⟨"org/jadoube/io/PgnReaderIsNameCharacterPinLaw", "expected", "(I)Z"⟩ : MethodName) method_2_code 7 (some .boolean) :: ws) ({ frames := 0, cells := 0, slots := 0, locals := 0 } : Room)) (fun a U => a = #[(.int p0)] ∧ Z.Warmed39 U.vm ∧ U.heap = h0) (fun _ _ _ _ _ => True) (fun _ U o U' => ∃ v L, o = .returned v ∧ Q2 Z p0 h0 n0 v U'.heap L ∧ FrameEnd U o U' L ({ frames := 0, cells := 0, slots := 0, locals := 0 } : Room).cells ({ frames := 0, cells := 0, slots := 0, locals := 0 } : Room).slots) := by
  refine MetFree.of_bodySF (plainFor_of_name pn_1) hisR ?_
  intro p e s m args below meth c s₁ Bd hml0 hP hK
  obtain ⟨rfl, hZ, hh⟩ := hP
  have hx := Bd.exec
  have hby := Bd.bytes
  have hml : c.maxLocals = 7 := hml0
  have hown : s.vm.findClass "org/jadoube/io/PgnReaderIsNameCharacterPinLaw" = some m.cls := findClass_of_methodNamed Bd.named
  have hnm := (name_of_methodNamed Bd.named Bd.method).1
  have hlk : meth.locks = false := BodyLoose.notSynchronized Bd
  have X0 : Stand p l e ({ frames := 0, cells := 0, slots := 0, locals := 0 } : Room) s m #[(.int p0)] below meth c s₁ [] 0 0 := Stand.of_body Bd
  have e0 : s₁.heap = h0 := by rw [← hh, Bd.state]; rfl
  have N0 := Fr.nil n0
  have K0 : Keep h0 h0 [] := Keep.refl h0 _
  have key : ∀ (F0 : State) (G : Prop), (own_G p e below s F0 (Q2 Z p0 h0 n0) ({ frames := 0, cells := 0, slots := 0, locals := 0 } : Room).cells ({ frames := 0, cells := 0, slots := 0, locals := 0 } : Room).slots → G) → own_R p.tables e below F0 (s₁.setTop (mkF m 0 #[.val (.int p0), .unset, .unset, .unset, .unset, .unset, .unset] [])) → G := by
    intro F0 G hG r0
    have r68 : own_R p.tables e below F0 (s₁.setTop (mkF m 8 #[.val (.int p0), .val (.int (p0 ||| (32 : Int32))), .unset, .unset, .unset, .unset, .unset] [(.int (97 : Int32)), (.int (p0 ||| (32 : Int32)))])) := fun t k => by
      refine r0 t ?_
      show Steps p.tables e below (s₁.setTop (mkF m 0 #[.val (.int p0), .unset, .unset, .unset, .unset, .unset, .unset] [])) _
      refine XS.iloadN X0.here hx rfl (hb hby d2_0) rfl ?_
      show Steps p.tables e below (s₁.setTop (mkF m 1 #[.val (.int p0), .unset, .unset, .unset, .unset, .unset, .unset] [(.int p0)])) _
      refine XS.bipush X0.here hx rfl (hb hby d2_1) ?_
      show Steps p.tables e below (s₁.setTop (mkF m 3 #[.val (.int p0), .unset, .unset, .unset, .unset, .unset, .unset] [(.int (32 : Int32)), (.int p0)])) _
      refine XS.ior X0.here hx rfl (hb hby d2_3) rfl ?_
      show Steps p.tables e below (s₁.setTop (mkF m 4 #[.val (.int p0), .unset, .unset, .unset, .unset, .unset, .unset] [(.int (p0 ||| (32 : Int32)))])) _
      refine XS.istoreN X0.here hx rfl (hb hby d2_4) rfl (l' := #[.val (.int p0), .val (.int (p0 ||| (32 : Int32))), .unset, .unset, .unset, .unset, .unset]) rfl ?_
      show Steps p.tables e below (s₁.setTop (mkF m 5 #[.val (.int p0), .val (.int (p0 ||| (32 : Int32))), .unset, .unset, .unset, .unset, .unset] [])) _
      refine XS.iloadN X0.here hx rfl (hb hby d2_5) rfl ?_
      show Steps p.tables e below (s₁.setTop (mkF m 6 #[.val (.int p0), .val (.int (p0 ||| (32 : Int32))), .unset, .unset, .unset, .unset, .unset] [(.int (p0 ||| (32 : Int32)))])) _
      refine XS.bipush X0.here hx rfl (hb hby d2_6) ?_
      exact k
    by_cases hc69 : (p0 ||| (32 : Int32)) < (97 : Int32)
    · have r70 : own_R p.tables e below F0 (s₁.setTop (mkF m 33 #[.val (.int p0), .val (.int (p0 ||| (32 : Int32))), .val (.int (0 : Int32)), .val (.long ((p0.toInt64) - (48 : Int64))), .second, .unset, .unset] [(.int (lcmpW ((p0.toInt64) - (48 : Int64)) (0 : Int64)))])) := fun t k => by
        refine r68 t ?_
        show Steps p.tables e below (s₁.setTop (mkF m 8 #[.val (.int p0), .val (.int (p0 ||| (32 : Int32))), .unset, .unset, .unset, .unset, .unset] [(.int (97 : Int32)), (.int (p0 ||| (32 : Int32)))])) _
        refine XS.icmpYes X0.here hx rfl (pc0 := 8) (pc' := 21) rfl (hb hby d2_8) rfl (tlt hc69).1 (by decide) (by decide) ?_
        show Steps p.tables e below (s₁.setTop (mkF m 21 #[.val (.int p0), .val (.int (p0 ||| (32 : Int32))), .unset, .unset, .unset, .unset, .unset] [])) _
        refine XS.iconst X0.here hx rfl (hb hby d2_21) ?_
        show Steps p.tables e below (s₁.setTop (mkF m 22 #[.val (.int p0), .val (.int (p0 ||| (32 : Int32))), .unset, .unset, .unset, .unset, .unset] [(.int (0 : Int32))])) _
        refine XS.istoreN X0.here hx rfl (hb hby d2_22) rfl (l' := #[.val (.int p0), .val (.int (p0 ||| (32 : Int32))), .val (.int (0 : Int32)), .unset, .unset, .unset, .unset]) rfl ?_
        show Steps p.tables e below (s₁.setTop (mkF m 23 #[.val (.int p0), .val (.int (p0 ||| (32 : Int32))), .val (.int (0 : Int32)), .unset, .unset, .unset, .unset] [])) _
        refine XS.iloadN X0.here hx rfl (hb hby d2_23) rfl ?_
        show Steps p.tables e below (s₁.setTop (mkF m 24 #[.val (.int p0), .val (.int (p0 ||| (32 : Int32))), .val (.int (0 : Int32)), .unset, .unset, .unset, .unset] [(.int p0)])) _
        refine XS.i2l X0.here hx rfl (hb hby d2_24) rfl ?_
        show Steps p.tables e below (s₁.setTop (mkF m 25 #[.val (.int p0), .val (.int (p0 ||| (32 : Int32))), .val (.int (0 : Int32)), .unset, .unset, .unset, .unset] [(.long (p0.toInt64))])) _
        refine X0.ldc2J hx hown (mvT hZ (hw _ (List.mem_of_getElem? (i := 8) rfl))) rfl (hb hby d2_25) ?_
        show Steps p.tables e below (s₁.setTop (mkF m 28 #[.val (.int p0), .val (.int (p0 ||| (32 : Int32))), .val (.int (0 : Int32)), .unset, .unset, .unset, .unset] [(.long (48 : Int64)), (.long (p0.toInt64))])) _
        refine XS.lsub X0.here hx rfl (hb hby d2_28) rfl ?_
        show Steps p.tables e below (s₁.setTop (mkF m 29 #[.val (.int p0), .val (.int (p0 ||| (32 : Int32))), .val (.int (0 : Int32)), .unset, .unset, .unset, .unset] [(.long ((p0.toInt64) - (48 : Int64)))])) _
        refine XS.lstoreN X0.here hx rfl (hb hby d2_29) rfl (l' := #[.val (.int p0), .val (.int (p0 ||| (32 : Int32))), .val (.int (0 : Int32)), .val (.long ((p0.toInt64) - (48 : Int64))), .second, .unset, .unset]) rfl ?_
        show Steps p.tables e below (s₁.setTop (mkF m 30 #[.val (.int p0), .val (.int (p0 ||| (32 : Int32))), .val (.int (0 : Int32)), .val (.long ((p0.toInt64) - (48 : Int64))), .second, .unset, .unset] [])) _
        refine XS.lloadN X0.here hx rfl (hb hby d2_30) rfl ?_
        show Steps p.tables e below (s₁.setTop (mkF m 31 #[.val (.int p0), .val (.int (p0 ||| (32 : Int32))), .val (.int (0 : Int32)), .val (.long ((p0.toInt64) - (48 : Int64))), .second, .unset, .unset] [(.long ((p0.toInt64) - (48 : Int64)))])) _
        refine XS.lconst X0.here hx rfl (hb hby d2_31) ?_
        show Steps p.tables e below (s₁.setTop (mkF m 32 #[.val (.int p0), .val (.int (p0 ||| (32 : Int32))), .val (.int (0 : Int32)), .val (.long ((p0.toInt64) - (48 : Int64))), .second, .unset, .unset] [(.long (0 : Int64)), (.long ((p0.toInt64) - (48 : Int64)))])) _
        refine XS.lcmp X0.here hx rfl (hb hby d2_32) rfl ?_
        exact k
      by_cases hc71 : ((p0.toInt64) - (48 : Int64)) < (0 : Int64)
      · have r72 : own_R p.tables e below F0 (s₁.setTop (mkF m 54 #[.val (.int p0), .val (.int (p0 ||| (32 : Int32))), .val (.int (0 : Int32)), .val (.long ((p0.toInt64) - (48 : Int64))), .second, .val (.int (0 : Int32)), .unset] [(.int (95 : Int32)), (.int p0)])) := fun t k => by
          refine r70 t ?_
          show Steps p.tables e below (s₁.setTop (mkF m 33 #[.val (.int p0), .val (.int (p0 ||| (32 : Int32))), .val (.int (0 : Int32)), .val (.long ((p0.toInt64) - (48 : Int64))), .second, .unset, .unset] [(.int (lcmpW ((p0.toInt64) - (48 : Int64)) (0 : Int64)))])) _
          refine XS.ifYes X0.here hx rfl (pc0 := 33) (pc' := 48) rfl (hb hby d2_33) rfl (own_l_lt hc71).1 (by decide) (by decide) ?_
          show Steps p.tables e below (s₁.setTop (mkF m 48 #[.val (.int p0), .val (.int (p0 ||| (32 : Int32))), .val (.int (0 : Int32)), .val (.long ((p0.toInt64) - (48 : Int64))), .second, .unset, .unset] [])) _
          refine XS.iconst X0.here hx rfl (hb hby d2_48) ?_
          show Steps p.tables e below (s₁.setTop (mkF m 49 #[.val (.int p0), .val (.int (p0 ||| (32 : Int32))), .val (.int (0 : Int32)), .val (.long ((p0.toInt64) - (48 : Int64))), .second, .unset, .unset] [(.int (0 : Int32))])) _
          refine XS.istore X0.here hx rfl (hb hby d2_49) rfl (l' := #[.val (.int p0), .val (.int (p0 ||| (32 : Int32))), .val (.int (0 : Int32)), .val (.long ((p0.toInt64) - (48 : Int64))), .second, .val (.int (0 : Int32)), .unset]) rfl ?_
          show Steps p.tables e below (s₁.setTop (mkF m 51 #[.val (.int p0), .val (.int (p0 ||| (32 : Int32))), .val (.int (0 : Int32)), .val (.long ((p0.toInt64) - (48 : Int64))), .second, .val (.int (0 : Int32)), .unset] [])) _
          refine XS.iloadN X0.here hx rfl (hb hby d2_51) rfl ?_
          show Steps p.tables e below (s₁.setTop (mkF m 52 #[.val (.int p0), .val (.int (p0 ||| (32 : Int32))), .val (.int (0 : Int32)), .val (.long ((p0.toInt64) - (48 : Int64))), .second, .val (.int (0 : Int32)), .unset] [(.int p0)])) _
          refine XS.bipush X0.here hx rfl (hb hby d2_52) ?_
          exact k
        by_cases hc73 : p0 = (95 : Int32)
        · have r74 : own_R p.tables e below F0 (s₁.setTop (mkF m 83 #[.val (.int p0), .val (.int (p0 ||| (32 : Int32))), .val (.int (0 : Int32)), .val (.long ((p0.toInt64) - (48 : Int64))), .second, .val (.int (0 : Int32)), .val (.int (1 : Int32))] [(.int (1 : Int32))])) := fun t k => by
            refine r72 t ?_
            show Steps p.tables e below (s₁.setTop (mkF m 54 #[.val (.int p0), .val (.int (p0 ||| (32 : Int32))), .val (.int (0 : Int32)), .val (.long ((p0.toInt64) - (48 : Int64))), .second, .val (.int (0 : Int32)), .unset] [(.int (95 : Int32)), (.int p0)])) _
            refine XS.icmpNo X0.here hx rfl (hb hby d2_54) rfl (teq hc73).2 ?_
            show Steps p.tables e below (s₁.setTop (mkF m 57 #[.val (.int p0), .val (.int (p0 ||| (32 : Int32))), .val (.int (0 : Int32)), .val (.long ((p0.toInt64) - (48 : Int64))), .second, .val (.int (0 : Int32)), .unset] [])) _
            refine XS.iconst X0.here hx rfl (hb hby d2_57) ?_
            show Steps p.tables e below (s₁.setTop (mkF m 58 #[.val (.int p0), .val (.int (p0 ||| (32 : Int32))), .val (.int (0 : Int32)), .val (.long ((p0.toInt64) - (48 : Int64))), .second, .val (.int (0 : Int32)), .unset] [(.int (1 : Int32))])) _
            refine XS.goto X0.here hx rfl (pc0 := 58) (pc' := 62) rfl (hb hby d2_58) (by decide) (by decide) ?_
            show Steps p.tables e below (s₁.setTop (mkF m 62 #[.val (.int p0), .val (.int (p0 ||| (32 : Int32))), .val (.int (0 : Int32)), .val (.long ((p0.toInt64) - (48 : Int64))), .second, .val (.int (0 : Int32)), .unset] [(.int (1 : Int32))])) _
            refine XS.istore X0.here hx rfl (hb hby d2_62) rfl (l' := #[.val (.int p0), .val (.int (p0 ||| (32 : Int32))), .val (.int (0 : Int32)), .val (.long ((p0.toInt64) - (48 : Int64))), .second, .val (.int (0 : Int32)), .val (.int (1 : Int32))]) rfl ?_
            show Steps p.tables e below (s₁.setTop (mkF m 64 #[.val (.int p0), .val (.int (p0 ||| (32 : Int32))), .val (.int (0 : Int32)), .val (.long ((p0.toInt64) - (48 : Int64))), .second, .val (.int (0 : Int32)), .val (.int (1 : Int32))] [])) _
            refine XS.iloadN X0.here hx rfl (hb hby d2_64) rfl ?_
            show Steps p.tables e below (s₁.setTop (mkF m 65 #[.val (.int p0), .val (.int (p0 ||| (32 : Int32))), .val (.int (0 : Int32)), .val (.long ((p0.toInt64) - (48 : Int64))), .second, .val (.int (0 : Int32)), .val (.int (1 : Int32))] [(.int (0 : Int32))])) _
            refine XS.ifNo X0.here hx rfl (hb hby d2_65) rfl ((if0 _ _).trans (teq (show (0 : Int32) = (0 : Int32) from by decide)).2) ?_
            show Steps p.tables e below (s₁.setTop (mkF m 68 #[.val (.int p0), .val (.int (p0 ||| (32 : Int32))), .val (.int (0 : Int32)), .val (.long ((p0.toInt64) - (48 : Int64))), .second, .val (.int (0 : Int32)), .val (.int (1 : Int32))] [])) _
            refine XS.iload X0.here hx rfl (hb hby d2_68) rfl ?_
            show Steps p.tables e below (s₁.setTop (mkF m 70 #[.val (.int p0), .val (.int (p0 ||| (32 : Int32))), .val (.int (0 : Int32)), .val (.long ((p0.toInt64) - (48 : Int64))), .second, .val (.int (0 : Int32)), .val (.int (1 : Int32))] [(.int (0 : Int32))])) _
            refine XS.ifNo X0.here hx rfl (hb hby d2_70) rfl ((if0 _ _).trans (teq (show (0 : Int32) = (0 : Int32) from by decide)).2) ?_
            show Steps p.tables e below (s₁.setTop (mkF m 73 #[.val (.int p0), .val (.int (p0 ||| (32 : Int32))), .val (.int (0 : Int32)), .val (.long ((p0.toInt64) - (48 : Int64))), .second, .val (.int (0 : Int32)), .val (.int (1 : Int32))] [])) _
            refine XS.iload X0.here hx rfl (hb hby d2_73) rfl ?_
            show Steps p.tables e below (s₁.setTop (mkF m 75 #[.val (.int p0), .val (.int (p0 ||| (32 : Int32))), .val (.int (0 : Int32)), .val (.long ((p0.toInt64) - (48 : Int64))), .second, .val (.int (0 : Int32)), .val (.int (1 : Int32))] [(.int (1 : Int32))])) _
            refine XS.ifNo X0.here hx rfl (hb hby d2_75) rfl ((if0 _ _).trans (feq (show ¬ ((1 : Int32) = (0 : Int32)) from by decide)).1) ?_
            show Steps p.tables e below (s₁.setTop (mkF m 78 #[.val (.int p0), .val (.int (p0 ||| (32 : Int32))), .val (.int (0 : Int32)), .val (.long ((p0.toInt64) - (48 : Int64))), .second, .val (.int (0 : Int32)), .val (.int (1 : Int32))] [])) _
            refine XS.iconst X0.here hx rfl (hb hby d2_78) ?_
            show Steps p.tables e below (s₁.setTop (mkF m 79 #[.val (.int p0), .val (.int (p0 ||| (32 : Int32))), .val (.int (0 : Int32)), .val (.long ((p0.toInt64) - (48 : Int64))), .second, .val (.int (0 : Int32)), .val (.int (1 : Int32))] [(.int (1 : Int32))])) _
            refine XS.goto X0.here hx rfl (pc0 := 79) (pc' := 83) rfl (hb hby d2_79) (by decide) (by decide) ?_
            exact k
          refine hG (own_fin X0 hlk (some (.int (nar .boolean (1 : Int32)))) (own_hv Bd.returns) ?_ (by decide) (by decide) (fun fs hr => r74 _ (retN X0 hx (t := .boolean) Bd.returns (by simp) (hb hby d2_83) hr)))
          rw [e0]
          refine ⟨?_, N0, rfl⟩
          have ev : (own_exp p0) = (1 : Int32) := by unfold own_exp; rw [if_pos hc69, if_pos hc71, if_pos hc73]
          rw [ev]
          rfl
        · have r75 : own_R p.tables e below F0 (s₁.setTop (mkF m 83 #[.val (.int p0), .val (.int (p0 ||| (32 : Int32))), .val (.int (0 : Int32)), .val (.long ((p0.toInt64) - (48 : Int64))), .second, .val (.int (0 : Int32)), .val (.int (0 : Int32))] [(.int (0 : Int32))])) := fun t k => by
            refine r72 t ?_
            show Steps p.tables e below (s₁.setTop (mkF m 54 #[.val (.int p0), .val (.int (p0 ||| (32 : Int32))), .val (.int (0 : Int32)), .val (.long ((p0.toInt64) - (48 : Int64))), .second, .val (.int (0 : Int32)), .unset] [(.int (95 : Int32)), (.int p0)])) _
            refine XS.icmpYes X0.here hx rfl (pc0 := 54) (pc' := 61) rfl (hb hby d2_54) rfl (feq hc73).2 (by decide) (by decide) ?_
            show Steps p.tables e below (s₁.setTop (mkF m 61 #[.val (.int p0), .val (.int (p0 ||| (32 : Int32))), .val (.int (0 : Int32)), .val (.long ((p0.toInt64) - (48 : Int64))), .second, .val (.int (0 : Int32)), .unset] [])) _
            refine XS.iconst X0.here hx rfl (hb hby d2_61) ?_
            show Steps p.tables e below (s₁.setTop (mkF m 62 #[.val (.int p0), .val (.int (p0 ||| (32 : Int32))), .val (.int (0 : Int32)), .val (.long ((p0.toInt64) - (48 : Int64))), .second, .val (.int (0 : Int32)), .unset] [(.int (0 : Int32))])) _
            refine XS.istore X0.here hx rfl (hb hby d2_62) rfl (l' := #[.val (.int p0), .val (.int (p0 ||| (32 : Int32))), .val (.int (0 : Int32)), .val (.long ((p0.toInt64) - (48 : Int64))), .second, .val (.int (0 : Int32)), .val (.int (0 : Int32))]) rfl ?_
            show Steps p.tables e below (s₁.setTop (mkF m 64 #[.val (.int p0), .val (.int (p0 ||| (32 : Int32))), .val (.int (0 : Int32)), .val (.long ((p0.toInt64) - (48 : Int64))), .second, .val (.int (0 : Int32)), .val (.int (0 : Int32))] [])) _
            refine XS.iloadN X0.here hx rfl (hb hby d2_64) rfl ?_
            show Steps p.tables e below (s₁.setTop (mkF m 65 #[.val (.int p0), .val (.int (p0 ||| (32 : Int32))), .val (.int (0 : Int32)), .val (.long ((p0.toInt64) - (48 : Int64))), .second, .val (.int (0 : Int32)), .val (.int (0 : Int32))] [(.int (0 : Int32))])) _
            refine XS.ifNo X0.here hx rfl (hb hby d2_65) rfl ((if0 _ _).trans (teq (show (0 : Int32) = (0 : Int32) from by decide)).2) ?_
            show Steps p.tables e below (s₁.setTop (mkF m 68 #[.val (.int p0), .val (.int (p0 ||| (32 : Int32))), .val (.int (0 : Int32)), .val (.long ((p0.toInt64) - (48 : Int64))), .second, .val (.int (0 : Int32)), .val (.int (0 : Int32))] [])) _
            refine XS.iload X0.here hx rfl (hb hby d2_68) rfl ?_
            show Steps p.tables e below (s₁.setTop (mkF m 70 #[.val (.int p0), .val (.int (p0 ||| (32 : Int32))), .val (.int (0 : Int32)), .val (.long ((p0.toInt64) - (48 : Int64))), .second, .val (.int (0 : Int32)), .val (.int (0 : Int32))] [(.int (0 : Int32))])) _
            refine XS.ifNo X0.here hx rfl (hb hby d2_70) rfl ((if0 _ _).trans (teq (show (0 : Int32) = (0 : Int32) from by decide)).2) ?_
            show Steps p.tables e below (s₁.setTop (mkF m 73 #[.val (.int p0), .val (.int (p0 ||| (32 : Int32))), .val (.int (0 : Int32)), .val (.long ((p0.toInt64) - (48 : Int64))), .second, .val (.int (0 : Int32)), .val (.int (0 : Int32))] [])) _
            refine XS.iload X0.here hx rfl (hb hby d2_73) rfl ?_
            show Steps p.tables e below (s₁.setTop (mkF m 75 #[.val (.int p0), .val (.int (p0 ||| (32 : Int32))), .val (.int (0 : Int32)), .val (.long ((p0.toInt64) - (48 : Int64))), .second, .val (.int (0 : Int32)), .val (.int (0 : Int32))] [(.int (0 : Int32))])) _
            refine XS.ifYes X0.here hx rfl (pc0 := 75) (pc' := 82) rfl (hb hby d2_75) rfl ((if0 _ _).trans (teq (show (0 : Int32) = (0 : Int32) from by decide)).1) (by decide) (by decide) ?_
            show Steps p.tables e below (s₁.setTop (mkF m 82 #[.val (.int p0), .val (.int (p0 ||| (32 : Int32))), .val (.int (0 : Int32)), .val (.long ((p0.toInt64) - (48 : Int64))), .second, .val (.int (0 : Int32)), .val (.int (0 : Int32))] [])) _
            refine XS.iconst X0.here hx rfl (hb hby d2_82) ?_
            exact k
          refine hG (own_fin X0 hlk (some (.int (nar .boolean (0 : Int32)))) (own_hv Bd.returns) ?_ (by decide) (by decide) (fun fs hr => r75 _ (retN X0 hx (t := .boolean) Bd.returns (by simp) (hb hby d2_83) hr)))
          rw [e0]
          refine ⟨?_, N0, rfl⟩
          have ev : (own_exp p0) = (0 : Int32) := by unfold own_exp; rw [if_pos hc69, if_pos hc71, if_neg hc73]
          rw [ev]
          rfl
      · have r76 : own_R p.tables e below F0 (s₁.setTop (mkF m 41 #[.val (.int p0), .val (.int (p0 ||| (32 : Int32))), .val (.int (0 : Int32)), .val (.long ((p0.toInt64) - (48 : Int64))), .second, .unset, .unset] [(.int (lcmpW ((p0.toInt64) - (48 : Int64)) (10 : Int64)))])) := fun t k => by
          refine r70 t ?_
          show Steps p.tables e below (s₁.setTop (mkF m 33 #[.val (.int p0), .val (.int (p0 ||| (32 : Int32))), .val (.int (0 : Int32)), .val (.long ((p0.toInt64) - (48 : Int64))), .second, .unset, .unset] [(.int (lcmpW ((p0.toInt64) - (48 : Int64)) (0 : Int64)))])) _
          refine XS.ifNo X0.here hx rfl (hb hby d2_33) rfl (own_l_nlt hc71).1 ?_
          show Steps p.tables e below (s₁.setTop (mkF m 36 #[.val (.int p0), .val (.int (p0 ||| (32 : Int32))), .val (.int (0 : Int32)), .val (.long ((p0.toInt64) - (48 : Int64))), .second, .unset, .unset] [])) _
          refine XS.lloadN X0.here hx rfl (hb hby d2_36) rfl ?_
          show Steps p.tables e below (s₁.setTop (mkF m 37 #[.val (.int p0), .val (.int (p0 ||| (32 : Int32))), .val (.int (0 : Int32)), .val (.long ((p0.toInt64) - (48 : Int64))), .second, .unset, .unset] [(.long ((p0.toInt64) - (48 : Int64)))])) _
          refine X0.ldc2J hx hown (mvT hZ (hw _ (List.mem_of_getElem? (i := 9) rfl))) rfl (hb hby d2_37) ?_
          show Steps p.tables e below (s₁.setTop (mkF m 40 #[.val (.int p0), .val (.int (p0 ||| (32 : Int32))), .val (.int (0 : Int32)), .val (.long ((p0.toInt64) - (48 : Int64))), .second, .unset, .unset] [(.long (10 : Int64)), (.long ((p0.toInt64) - (48 : Int64)))])) _
          refine XS.lcmp X0.here hx rfl (hb hby d2_40) rfl ?_
          exact k
        by_cases hc77 : ((p0.toInt64) - (48 : Int64)) < (10 : Int64)
        · have r78 : own_R p.tables e below F0 (s₁.setTop (mkF m 54 #[.val (.int p0), .val (.int (p0 ||| (32 : Int32))), .val (.int (0 : Int32)), .val (.long ((p0.toInt64) - (48 : Int64))), .second, .val (.int (1 : Int32)), .unset] [(.int (95 : Int32)), (.int p0)])) := fun t k => by
            refine r76 t ?_
            show Steps p.tables e below (s₁.setTop (mkF m 41 #[.val (.int p0), .val (.int (p0 ||| (32 : Int32))), .val (.int (0 : Int32)), .val (.long ((p0.toInt64) - (48 : Int64))), .second, .unset, .unset] [(.int (lcmpW ((p0.toInt64) - (48 : Int64)) (10 : Int64)))])) _
            refine XS.ifNo X0.here hx rfl (hb hby d2_41) rfl (own_l_lt hc77).2 ?_
            show Steps p.tables e below (s₁.setTop (mkF m 44 #[.val (.int p0), .val (.int (p0 ||| (32 : Int32))), .val (.int (0 : Int32)), .val (.long ((p0.toInt64) - (48 : Int64))), .second, .unset, .unset] [])) _
            refine XS.iconst X0.here hx rfl (hb hby d2_44) ?_
            show Steps p.tables e below (s₁.setTop (mkF m 45 #[.val (.int p0), .val (.int (p0 ||| (32 : Int32))), .val (.int (0 : Int32)), .val (.long ((p0.toInt64) - (48 : Int64))), .second, .unset, .unset] [(.int (1 : Int32))])) _
            refine XS.goto X0.here hx rfl (pc0 := 45) (pc' := 49) rfl (hb hby d2_45) (by decide) (by decide) ?_
            show Steps p.tables e below (s₁.setTop (mkF m 49 #[.val (.int p0), .val (.int (p0 ||| (32 : Int32))), .val (.int (0 : Int32)), .val (.long ((p0.toInt64) - (48 : Int64))), .second, .unset, .unset] [(.int (1 : Int32))])) _
            refine XS.istore X0.here hx rfl (hb hby d2_49) rfl (l' := #[.val (.int p0), .val (.int (p0 ||| (32 : Int32))), .val (.int (0 : Int32)), .val (.long ((p0.toInt64) - (48 : Int64))), .second, .val (.int (1 : Int32)), .unset]) rfl ?_
            show Steps p.tables e below (s₁.setTop (mkF m 51 #[.val (.int p0), .val (.int (p0 ||| (32 : Int32))), .val (.int (0 : Int32)), .val (.long ((p0.toInt64) - (48 : Int64))), .second, .val (.int (1 : Int32)), .unset] [])) _
            refine XS.iloadN X0.here hx rfl (hb hby d2_51) rfl ?_
            show Steps p.tables e below (s₁.setTop (mkF m 52 #[.val (.int p0), .val (.int (p0 ||| (32 : Int32))), .val (.int (0 : Int32)), .val (.long ((p0.toInt64) - (48 : Int64))), .second, .val (.int (1 : Int32)), .unset] [(.int p0)])) _
            refine XS.bipush X0.here hx rfl (hb hby d2_52) ?_
            exact k
          by_cases hc79 : p0 = (95 : Int32)
          · have r80 : own_R p.tables e below F0 (s₁.setTop (mkF m 83 #[.val (.int p0), .val (.int (p0 ||| (32 : Int32))), .val (.int (0 : Int32)), .val (.long ((p0.toInt64) - (48 : Int64))), .second, .val (.int (1 : Int32)), .val (.int (1 : Int32))] [(.int (1 : Int32))])) := fun t k => by
              refine r78 t ?_
              show Steps p.tables e below (s₁.setTop (mkF m 54 #[.val (.int p0), .val (.int (p0 ||| (32 : Int32))), .val (.int (0 : Int32)), .val (.long ((p0.toInt64) - (48 : Int64))), .second, .val (.int (1 : Int32)), .unset] [(.int (95 : Int32)), (.int p0)])) _
              refine XS.icmpNo X0.here hx rfl (hb hby d2_54) rfl (teq hc79).2 ?_
              show Steps p.tables e below (s₁.setTop (mkF m 57 #[.val (.int p0), .val (.int (p0 ||| (32 : Int32))), .val (.int (0 : Int32)), .val (.long ((p0.toInt64) - (48 : Int64))), .second, .val (.int (1 : Int32)), .unset] [])) _
              refine XS.iconst X0.here hx rfl (hb hby d2_57) ?_
              show Steps p.tables e below (s₁.setTop (mkF m 58 #[.val (.int p0), .val (.int (p0 ||| (32 : Int32))), .val (.int (0 : Int32)), .val (.long ((p0.toInt64) - (48 : Int64))), .second, .val (.int (1 : Int32)), .unset] [(.int (1 : Int32))])) _
              refine XS.goto X0.here hx rfl (pc0 := 58) (pc' := 62) rfl (hb hby d2_58) (by decide) (by decide) ?_
              show Steps p.tables e below (s₁.setTop (mkF m 62 #[.val (.int p0), .val (.int (p0 ||| (32 : Int32))), .val (.int (0 : Int32)), .val (.long ((p0.toInt64) - (48 : Int64))), .second, .val (.int (1 : Int32)), .unset] [(.int (1 : Int32))])) _
              refine XS.istore X0.here hx rfl (hb hby d2_62) rfl (l' := #[.val (.int p0), .val (.int (p0 ||| (32 : Int32))), .val (.int (0 : Int32)), .val (.long ((p0.toInt64) - (48 : Int64))), .second, .val (.int (1 : Int32)), .val (.int (1 : Int32))]) rfl ?_
              show Steps p.tables e below (s₁.setTop (mkF m 64 #[.val (.int p0), .val (.int (p0 ||| (32 : Int32))), .val (.int (0 : Int32)), .val (.long ((p0.toInt64) - (48 : Int64))), .second, .val (.int (1 : Int32)), .val (.int (1 : Int32))] [])) _
              refine XS.iloadN X0.here hx rfl (hb hby d2_64) rfl ?_
              show Steps p.tables e below (s₁.setTop (mkF m 65 #[.val (.int p0), .val (.int (p0 ||| (32 : Int32))), .val (.int (0 : Int32)), .val (.long ((p0.toInt64) - (48 : Int64))), .second, .val (.int (1 : Int32)), .val (.int (1 : Int32))] [(.int (0 : Int32))])) _
              refine XS.ifNo X0.here hx rfl (hb hby d2_65) rfl ((if0 _ _).trans (teq (show (0 : Int32) = (0 : Int32) from by decide)).2) ?_
              show Steps p.tables e below (s₁.setTop (mkF m 68 #[.val (.int p0), .val (.int (p0 ||| (32 : Int32))), .val (.int (0 : Int32)), .val (.long ((p0.toInt64) - (48 : Int64))), .second, .val (.int (1 : Int32)), .val (.int (1 : Int32))] [])) _
              refine XS.iload X0.here hx rfl (hb hby d2_68) rfl ?_
              show Steps p.tables e below (s₁.setTop (mkF m 70 #[.val (.int p0), .val (.int (p0 ||| (32 : Int32))), .val (.int (0 : Int32)), .val (.long ((p0.toInt64) - (48 : Int64))), .second, .val (.int (1 : Int32)), .val (.int (1 : Int32))] [(.int (1 : Int32))])) _
              refine XS.ifYes X0.here hx rfl (pc0 := 70) (pc' := 78) rfl (hb hby d2_70) rfl ((if0 _ _).trans (feq (show ¬ ((1 : Int32) = (0 : Int32)) from by decide)).2) (by decide) (by decide) ?_
              show Steps p.tables e below (s₁.setTop (mkF m 78 #[.val (.int p0), .val (.int (p0 ||| (32 : Int32))), .val (.int (0 : Int32)), .val (.long ((p0.toInt64) - (48 : Int64))), .second, .val (.int (1 : Int32)), .val (.int (1 : Int32))] [])) _
              refine XS.iconst X0.here hx rfl (hb hby d2_78) ?_
              show Steps p.tables e below (s₁.setTop (mkF m 79 #[.val (.int p0), .val (.int (p0 ||| (32 : Int32))), .val (.int (0 : Int32)), .val (.long ((p0.toInt64) - (48 : Int64))), .second, .val (.int (1 : Int32)), .val (.int (1 : Int32))] [(.int (1 : Int32))])) _
              refine XS.goto X0.here hx rfl (pc0 := 79) (pc' := 83) rfl (hb hby d2_79) (by decide) (by decide) ?_
              exact k
            refine hG (own_fin X0 hlk (some (.int (nar .boolean (1 : Int32)))) (own_hv Bd.returns) ?_ (by decide) (by decide) (fun fs hr => r80 _ (retN X0 hx (t := .boolean) Bd.returns (by simp) (hb hby d2_83) hr)))
            rw [e0]
            refine ⟨?_, N0, rfl⟩
            have ev : (own_exp p0) = (1 : Int32) := by unfold own_exp; rw [if_pos hc69, if_neg hc71, if_pos hc77, if_pos hc79]
            rw [ev]
            rfl
          · have r81 : own_R p.tables e below F0 (s₁.setTop (mkF m 83 #[.val (.int p0), .val (.int (p0 ||| (32 : Int32))), .val (.int (0 : Int32)), .val (.long ((p0.toInt64) - (48 : Int64))), .second, .val (.int (1 : Int32)), .val (.int (0 : Int32))] [(.int (1 : Int32))])) := fun t k => by
              refine r78 t ?_
              show Steps p.tables e below (s₁.setTop (mkF m 54 #[.val (.int p0), .val (.int (p0 ||| (32 : Int32))), .val (.int (0 : Int32)), .val (.long ((p0.toInt64) - (48 : Int64))), .second, .val (.int (1 : Int32)), .unset] [(.int (95 : Int32)), (.int p0)])) _
              refine XS.icmpYes X0.here hx rfl (pc0 := 54) (pc' := 61) rfl (hb hby d2_54) rfl (feq hc79).2 (by decide) (by decide) ?_
              show Steps p.tables e below (s₁.setTop (mkF m 61 #[.val (.int p0), .val (.int (p0 ||| (32 : Int32))), .val (.int (0 : Int32)), .val (.long ((p0.toInt64) - (48 : Int64))), .second, .val (.int (1 : Int32)), .unset] [])) _
              refine XS.iconst X0.here hx rfl (hb hby d2_61) ?_
              show Steps p.tables e below (s₁.setTop (mkF m 62 #[.val (.int p0), .val (.int (p0 ||| (32 : Int32))), .val (.int (0 : Int32)), .val (.long ((p0.toInt64) - (48 : Int64))), .second, .val (.int (1 : Int32)), .unset] [(.int (0 : Int32))])) _
              refine XS.istore X0.here hx rfl (hb hby d2_62) rfl (l' := #[.val (.int p0), .val (.int (p0 ||| (32 : Int32))), .val (.int (0 : Int32)), .val (.long ((p0.toInt64) - (48 : Int64))), .second, .val (.int (1 : Int32)), .val (.int (0 : Int32))]) rfl ?_
              show Steps p.tables e below (s₁.setTop (mkF m 64 #[.val (.int p0), .val (.int (p0 ||| (32 : Int32))), .val (.int (0 : Int32)), .val (.long ((p0.toInt64) - (48 : Int64))), .second, .val (.int (1 : Int32)), .val (.int (0 : Int32))] [])) _
              refine XS.iloadN X0.here hx rfl (hb hby d2_64) rfl ?_
              show Steps p.tables e below (s₁.setTop (mkF m 65 #[.val (.int p0), .val (.int (p0 ||| (32 : Int32))), .val (.int (0 : Int32)), .val (.long ((p0.toInt64) - (48 : Int64))), .second, .val (.int (1 : Int32)), .val (.int (0 : Int32))] [(.int (0 : Int32))])) _
              refine XS.ifNo X0.here hx rfl (hb hby d2_65) rfl ((if0 _ _).trans (teq (show (0 : Int32) = (0 : Int32) from by decide)).2) ?_
              show Steps p.tables e below (s₁.setTop (mkF m 68 #[.val (.int p0), .val (.int (p0 ||| (32 : Int32))), .val (.int (0 : Int32)), .val (.long ((p0.toInt64) - (48 : Int64))), .second, .val (.int (1 : Int32)), .val (.int (0 : Int32))] [])) _
              refine XS.iload X0.here hx rfl (hb hby d2_68) rfl ?_
              show Steps p.tables e below (s₁.setTop (mkF m 70 #[.val (.int p0), .val (.int (p0 ||| (32 : Int32))), .val (.int (0 : Int32)), .val (.long ((p0.toInt64) - (48 : Int64))), .second, .val (.int (1 : Int32)), .val (.int (0 : Int32))] [(.int (1 : Int32))])) _
              refine XS.ifYes X0.here hx rfl (pc0 := 70) (pc' := 78) rfl (hb hby d2_70) rfl ((if0 _ _).trans (feq (show ¬ ((1 : Int32) = (0 : Int32)) from by decide)).2) (by decide) (by decide) ?_
              show Steps p.tables e below (s₁.setTop (mkF m 78 #[.val (.int p0), .val (.int (p0 ||| (32 : Int32))), .val (.int (0 : Int32)), .val (.long ((p0.toInt64) - (48 : Int64))), .second, .val (.int (1 : Int32)), .val (.int (0 : Int32))] [])) _
              refine XS.iconst X0.here hx rfl (hb hby d2_78) ?_
              show Steps p.tables e below (s₁.setTop (mkF m 79 #[.val (.int p0), .val (.int (p0 ||| (32 : Int32))), .val (.int (0 : Int32)), .val (.long ((p0.toInt64) - (48 : Int64))), .second, .val (.int (1 : Int32)), .val (.int (0 : Int32))] [(.int (1 : Int32))])) _
              refine XS.goto X0.here hx rfl (pc0 := 79) (pc' := 83) rfl (hb hby d2_79) (by decide) (by decide) ?_
              exact k
            refine hG (own_fin X0 hlk (some (.int (nar .boolean (1 : Int32)))) (own_hv Bd.returns) ?_ (by decide) (by decide) (fun fs hr => r81 _ (retN X0 hx (t := .boolean) Bd.returns (by simp) (hb hby d2_83) hr)))
            rw [e0]
            refine ⟨?_, N0, rfl⟩
            have ev : (own_exp p0) = (1 : Int32) := by unfold own_exp; rw [if_pos hc69, if_neg hc71, if_pos hc77, if_neg hc79]
            rw [ev]
            rfl
        · have r82 : own_R p.tables e below F0 (s₁.setTop (mkF m 54 #[.val (.int p0), .val (.int (p0 ||| (32 : Int32))), .val (.int (0 : Int32)), .val (.long ((p0.toInt64) - (48 : Int64))), .second, .val (.int (0 : Int32)), .unset] [(.int (95 : Int32)), (.int p0)])) := fun t k => by
            refine r76 t ?_
            show Steps p.tables e below (s₁.setTop (mkF m 41 #[.val (.int p0), .val (.int (p0 ||| (32 : Int32))), .val (.int (0 : Int32)), .val (.long ((p0.toInt64) - (48 : Int64))), .second, .unset, .unset] [(.int (lcmpW ((p0.toInt64) - (48 : Int64)) (10 : Int64)))])) _
            refine XS.ifYes X0.here hx rfl (pc0 := 41) (pc' := 48) rfl (hb hby d2_41) rfl (own_l_nlt hc77).2 (by decide) (by decide) ?_
            show Steps p.tables e below (s₁.setTop (mkF m 48 #[.val (.int p0), .val (.int (p0 ||| (32 : Int32))), .val (.int (0 : Int32)), .val (.long ((p0.toInt64) - (48 : Int64))), .second, .unset, .unset] [])) _
            refine XS.iconst X0.here hx rfl (hb hby d2_48) ?_
            show Steps p.tables e below (s₁.setTop (mkF m 49 #[.val (.int p0), .val (.int (p0 ||| (32 : Int32))), .val (.int (0 : Int32)), .val (.long ((p0.toInt64) - (48 : Int64))), .second, .unset, .unset] [(.int (0 : Int32))])) _
            refine XS.istore X0.here hx rfl (hb hby d2_49) rfl (l' := #[.val (.int p0), .val (.int (p0 ||| (32 : Int32))), .val (.int (0 : Int32)), .val (.long ((p0.toInt64) - (48 : Int64))), .second, .val (.int (0 : Int32)), .unset]) rfl ?_
            show Steps p.tables e below (s₁.setTop (mkF m 51 #[.val (.int p0), .val (.int (p0 ||| (32 : Int32))), .val (.int (0 : Int32)), .val (.long ((p0.toInt64) - (48 : Int64))), .second, .val (.int (0 : Int32)), .unset] [])) _
            refine XS.iloadN X0.here hx rfl (hb hby d2_51) rfl ?_
            show Steps p.tables e below (s₁.setTop (mkF m 52 #[.val (.int p0), .val (.int (p0 ||| (32 : Int32))), .val (.int (0 : Int32)), .val (.long ((p0.toInt64) - (48 : Int64))), .second, .val (.int (0 : Int32)), .unset] [(.int p0)])) _
            refine XS.bipush X0.here hx rfl (hb hby d2_52) ?_
            exact k
          by_cases hc83 : p0 = (95 : Int32)
          · have r84 : own_R p.tables e below F0 (s₁.setTop (mkF m 83 #[.val (.int p0), .val (.int (p0 ||| (32 : Int32))), .val (.int (0 : Int32)), .val (.long ((p0.toInt64) - (48 : Int64))), .second, .val (.int (0 : Int32)), .val (.int (1 : Int32))] [(.int (1 : Int32))])) := fun t k => by
              refine r82 t ?_
              show Steps p.tables e below (s₁.setTop (mkF m 54 #[.val (.int p0), .val (.int (p0 ||| (32 : Int32))), .val (.int (0 : Int32)), .val (.long ((p0.toInt64) - (48 : Int64))), .second, .val (.int (0 : Int32)), .unset] [(.int (95 : Int32)), (.int p0)])) _
              refine XS.icmpNo X0.here hx rfl (hb hby d2_54) rfl (teq hc83).2 ?_
              show Steps p.tables e below (s₁.setTop (mkF m 57 #[.val (.int p0), .val (.int (p0 ||| (32 : Int32))), .val (.int (0 : Int32)), .val (.long ((p0.toInt64) - (48 : Int64))), .second, .val (.int (0 : Int32)), .unset] [])) _
              refine XS.iconst X0.here hx rfl (hb hby d2_57) ?_
              show Steps p.tables e below (s₁.setTop (mkF m 58 #[.val (.int p0), .val (.int (p0 ||| (32 : Int32))), .val (.int (0 : Int32)), .val (.long ((p0.toInt64) - (48 : Int64))), .second, .val (.int (0 : Int32)), .unset] [(.int (1 : Int32))])) _
              refine XS.goto X0.here hx rfl (pc0 := 58) (pc' := 62) rfl (hb hby d2_58) (by decide) (by decide) ?_
              show Steps p.tables e below (s₁.setTop (mkF m 62 #[.val (.int p0), .val (.int (p0 ||| (32 : Int32))), .val (.int (0 : Int32)), .val (.long ((p0.toInt64) - (48 : Int64))), .second, .val (.int (0 : Int32)), .unset] [(.int (1 : Int32))])) _
              refine XS.istore X0.here hx rfl (hb hby d2_62) rfl (l' := #[.val (.int p0), .val (.int (p0 ||| (32 : Int32))), .val (.int (0 : Int32)), .val (.long ((p0.toInt64) - (48 : Int64))), .second, .val (.int (0 : Int32)), .val (.int (1 : Int32))]) rfl ?_
              show Steps p.tables e below (s₁.setTop (mkF m 64 #[.val (.int p0), .val (.int (p0 ||| (32 : Int32))), .val (.int (0 : Int32)), .val (.long ((p0.toInt64) - (48 : Int64))), .second, .val (.int (0 : Int32)), .val (.int (1 : Int32))] [])) _
              refine XS.iloadN X0.here hx rfl (hb hby d2_64) rfl ?_
              show Steps p.tables e below (s₁.setTop (mkF m 65 #[.val (.int p0), .val (.int (p0 ||| (32 : Int32))), .val (.int (0 : Int32)), .val (.long ((p0.toInt64) - (48 : Int64))), .second, .val (.int (0 : Int32)), .val (.int (1 : Int32))] [(.int (0 : Int32))])) _
              refine XS.ifNo X0.here hx rfl (hb hby d2_65) rfl ((if0 _ _).trans (teq (show (0 : Int32) = (0 : Int32) from by decide)).2) ?_
              show Steps p.tables e below (s₁.setTop (mkF m 68 #[.val (.int p0), .val (.int (p0 ||| (32 : Int32))), .val (.int (0 : Int32)), .val (.long ((p0.toInt64) - (48 : Int64))), .second, .val (.int (0 : Int32)), .val (.int (1 : Int32))] [])) _
              refine XS.iload X0.here hx rfl (hb hby d2_68) rfl ?_
              show Steps p.tables e below (s₁.setTop (mkF m 70 #[.val (.int p0), .val (.int (p0 ||| (32 : Int32))), .val (.int (0 : Int32)), .val (.long ((p0.toInt64) - (48 : Int64))), .second, .val (.int (0 : Int32)), .val (.int (1 : Int32))] [(.int (0 : Int32))])) _
              refine XS.ifNo X0.here hx rfl (hb hby d2_70) rfl ((if0 _ _).trans (teq (show (0 : Int32) = (0 : Int32) from by decide)).2) ?_
              show Steps p.tables e below (s₁.setTop (mkF m 73 #[.val (.int p0), .val (.int (p0 ||| (32 : Int32))), .val (.int (0 : Int32)), .val (.long ((p0.toInt64) - (48 : Int64))), .second, .val (.int (0 : Int32)), .val (.int (1 : Int32))] [])) _
              refine XS.iload X0.here hx rfl (hb hby d2_73) rfl ?_
              show Steps p.tables e below (s₁.setTop (mkF m 75 #[.val (.int p0), .val (.int (p0 ||| (32 : Int32))), .val (.int (0 : Int32)), .val (.long ((p0.toInt64) - (48 : Int64))), .second, .val (.int (0 : Int32)), .val (.int (1 : Int32))] [(.int (1 : Int32))])) _
              refine XS.ifNo X0.here hx rfl (hb hby d2_75) rfl ((if0 _ _).trans (feq (show ¬ ((1 : Int32) = (0 : Int32)) from by decide)).1) ?_
              show Steps p.tables e below (s₁.setTop (mkF m 78 #[.val (.int p0), .val (.int (p0 ||| (32 : Int32))), .val (.int (0 : Int32)), .val (.long ((p0.toInt64) - (48 : Int64))), .second, .val (.int (0 : Int32)), .val (.int (1 : Int32))] [])) _
              refine XS.iconst X0.here hx rfl (hb hby d2_78) ?_
              show Steps p.tables e below (s₁.setTop (mkF m 79 #[.val (.int p0), .val (.int (p0 ||| (32 : Int32))), .val (.int (0 : Int32)), .val (.long ((p0.toInt64) - (48 : Int64))), .second, .val (.int (0 : Int32)), .val (.int (1 : Int32))] [(.int (1 : Int32))])) _
              refine XS.goto X0.here hx rfl (pc0 := 79) (pc' := 83) rfl (hb hby d2_79) (by decide) (by decide) ?_
              exact k
            refine hG (own_fin X0 hlk (some (.int (nar .boolean (1 : Int32)))) (own_hv Bd.returns) ?_ (by decide) (by decide) (fun fs hr => r84 _ (retN X0 hx (t := .boolean) Bd.returns (by simp) (hb hby d2_83) hr)))
            rw [e0]
            refine ⟨?_, N0, rfl⟩
            have ev : (own_exp p0) = (1 : Int32) := by unfold own_exp; rw [if_pos hc69, if_neg hc71, if_neg hc77, if_pos hc83]
            rw [ev]
            rfl
          · have r85 : own_R p.tables e below F0 (s₁.setTop (mkF m 83 #[.val (.int p0), .val (.int (p0 ||| (32 : Int32))), .val (.int (0 : Int32)), .val (.long ((p0.toInt64) - (48 : Int64))), .second, .val (.int (0 : Int32)), .val (.int (0 : Int32))] [(.int (0 : Int32))])) := fun t k => by
              refine r82 t ?_
              show Steps p.tables e below (s₁.setTop (mkF m 54 #[.val (.int p0), .val (.int (p0 ||| (32 : Int32))), .val (.int (0 : Int32)), .val (.long ((p0.toInt64) - (48 : Int64))), .second, .val (.int (0 : Int32)), .unset] [(.int (95 : Int32)), (.int p0)])) _
              refine XS.icmpYes X0.here hx rfl (pc0 := 54) (pc' := 61) rfl (hb hby d2_54) rfl (feq hc83).2 (by decide) (by decide) ?_
              show Steps p.tables e below (s₁.setTop (mkF m 61 #[.val (.int p0), .val (.int (p0 ||| (32 : Int32))), .val (.int (0 : Int32)), .val (.long ((p0.toInt64) - (48 : Int64))), .second, .val (.int (0 : Int32)), .unset] [])) _
              refine XS.iconst X0.here hx rfl (hb hby d2_61) ?_
              show Steps p.tables e below (s₁.setTop (mkF m 62 #[.val (.int p0), .val (.int (p0 ||| (32 : Int32))), .val (.int (0 : Int32)), .val (.long ((p0.toInt64) - (48 : Int64))), .second, .val (.int (0 : Int32)), .unset] [(.int (0 : Int32))])) _
              refine XS.istore X0.here hx rfl (hb hby d2_62) rfl (l' := #[.val (.int p0), .val (.int (p0 ||| (32 : Int32))), .val (.int (0 : Int32)), .val (.long ((p0.toInt64) - (48 : Int64))), .second, .val (.int (0 : Int32)), .val (.int (0 : Int32))]) rfl ?_
              show Steps p.tables e below (s₁.setTop (mkF m 64 #[.val (.int p0), .val (.int (p0 ||| (32 : Int32))), .val (.int (0 : Int32)), .val (.long ((p0.toInt64) - (48 : Int64))), .second, .val (.int (0 : Int32)), .val (.int (0 : Int32))] [])) _
              refine XS.iloadN X0.here hx rfl (hb hby d2_64) rfl ?_
              show Steps p.tables e below (s₁.setTop (mkF m 65 #[.val (.int p0), .val (.int (p0 ||| (32 : Int32))), .val (.int (0 : Int32)), .val (.long ((p0.toInt64) - (48 : Int64))), .second, .val (.int (0 : Int32)), .val (.int (0 : Int32))] [(.int (0 : Int32))])) _
              refine XS.ifNo X0.here hx rfl (hb hby d2_65) rfl ((if0 _ _).trans (teq (show (0 : Int32) = (0 : Int32) from by decide)).2) ?_
              show Steps p.tables e below (s₁.setTop (mkF m 68 #[.val (.int p0), .val (.int (p0 ||| (32 : Int32))), .val (.int (0 : Int32)), .val (.long ((p0.toInt64) - (48 : Int64))), .second, .val (.int (0 : Int32)), .val (.int (0 : Int32))] [])) _
              refine XS.iload X0.here hx rfl (hb hby d2_68) rfl ?_
              show Steps p.tables e below (s₁.setTop (mkF m 70 #[.val (.int p0), .val (.int (p0 ||| (32 : Int32))), .val (.int (0 : Int32)), .val (.long ((p0.toInt64) - (48 : Int64))), .second, .val (.int (0 : Int32)), .val (.int (0 : Int32))] [(.int (0 : Int32))])) _
              refine XS.ifNo X0.here hx rfl (hb hby d2_70) rfl ((if0 _ _).trans (teq (show (0 : Int32) = (0 : Int32) from by decide)).2) ?_
              show Steps p.tables e below (s₁.setTop (mkF m 73 #[.val (.int p0), .val (.int (p0 ||| (32 : Int32))), .val (.int (0 : Int32)), .val (.long ((p0.toInt64) - (48 : Int64))), .second, .val (.int (0 : Int32)), .val (.int (0 : Int32))] [])) _
              refine XS.iload X0.here hx rfl (hb hby d2_73) rfl ?_
              show Steps p.tables e below (s₁.setTop (mkF m 75 #[.val (.int p0), .val (.int (p0 ||| (32 : Int32))), .val (.int (0 : Int32)), .val (.long ((p0.toInt64) - (48 : Int64))), .second, .val (.int (0 : Int32)), .val (.int (0 : Int32))] [(.int (0 : Int32))])) _
              refine XS.ifYes X0.here hx rfl (pc0 := 75) (pc' := 82) rfl (hb hby d2_75) rfl ((if0 _ _).trans (teq (show (0 : Int32) = (0 : Int32) from by decide)).1) (by decide) (by decide) ?_
              show Steps p.tables e below (s₁.setTop (mkF m 82 #[.val (.int p0), .val (.int (p0 ||| (32 : Int32))), .val (.int (0 : Int32)), .val (.long ((p0.toInt64) - (48 : Int64))), .second, .val (.int (0 : Int32)), .val (.int (0 : Int32))] [])) _
              refine XS.iconst X0.here hx rfl (hb hby d2_82) ?_
              exact k
            refine hG (own_fin X0 hlk (some (.int (nar .boolean (0 : Int32)))) (own_hv Bd.returns) ?_ (by decide) (by decide) (fun fs hr => r85 _ (retN X0 hx (t := .boolean) Bd.returns (by simp) (hb hby d2_83) hr)))
            rw [e0]
            refine ⟨?_, N0, rfl⟩
            have ev : (own_exp p0) = (0 : Int32) := by unfold own_exp; rw [if_pos hc69, if_neg hc71, if_neg hc77, if_neg hc83]
            rw [ev]
            rfl
    · have r86 : own_R p.tables e below F0 (s₁.setTop (mkF m 14 #[.val (.int p0), .val (.int (p0 ||| (32 : Int32))), .unset, .unset, .unset, .unset, .unset] [(.int (122 : Int32)), (.int (p0 ||| (32 : Int32)))])) := fun t k => by
        refine r68 t ?_
        show Steps p.tables e below (s₁.setTop (mkF m 8 #[.val (.int p0), .val (.int (p0 ||| (32 : Int32))), .unset, .unset, .unset, .unset, .unset] [(.int (97 : Int32)), (.int (p0 ||| (32 : Int32)))])) _
        refine XS.icmpNo X0.here hx rfl (hb hby d2_8) rfl (flt hc69).1 ?_
        show Steps p.tables e below (s₁.setTop (mkF m 11 #[.val (.int p0), .val (.int (p0 ||| (32 : Int32))), .unset, .unset, .unset, .unset, .unset] [])) _
        refine XS.iloadN X0.here hx rfl (hb hby d2_11) rfl ?_
        show Steps p.tables e below (s₁.setTop (mkF m 12 #[.val (.int p0), .val (.int (p0 ||| (32 : Int32))), .unset, .unset, .unset, .unset, .unset] [(.int (p0 ||| (32 : Int32)))])) _
        refine XS.bipush X0.here hx rfl (hb hby d2_12) ?_
        exact k
      by_cases hc87 : (122 : Int32) < (p0 ||| (32 : Int32))
      · have r88 : own_R p.tables e below F0 (s₁.setTop (mkF m 33 #[.val (.int p0), .val (.int (p0 ||| (32 : Int32))), .val (.int (0 : Int32)), .val (.long ((p0.toInt64) - (48 : Int64))), .second, .unset, .unset] [(.int (lcmpW ((p0.toInt64) - (48 : Int64)) (0 : Int64)))])) := fun t k => by
          refine r86 t ?_
          show Steps p.tables e below (s₁.setTop (mkF m 14 #[.val (.int p0), .val (.int (p0 ||| (32 : Int32))), .unset, .unset, .unset, .unset, .unset] [(.int (122 : Int32)), (.int (p0 ||| (32 : Int32)))])) _
          refine XS.icmpYes X0.here hx rfl (pc0 := 14) (pc' := 21) rfl (hb hby d2_14) rfl (tlt hc87).2.2.1 (by decide) (by decide) ?_
          show Steps p.tables e below (s₁.setTop (mkF m 21 #[.val (.int p0), .val (.int (p0 ||| (32 : Int32))), .unset, .unset, .unset, .unset, .unset] [])) _
          refine XS.iconst X0.here hx rfl (hb hby d2_21) ?_
          show Steps p.tables e below (s₁.setTop (mkF m 22 #[.val (.int p0), .val (.int (p0 ||| (32 : Int32))), .unset, .unset, .unset, .unset, .unset] [(.int (0 : Int32))])) _
          refine XS.istoreN X0.here hx rfl (hb hby d2_22) rfl (l' := #[.val (.int p0), .val (.int (p0 ||| (32 : Int32))), .val (.int (0 : Int32)), .unset, .unset, .unset, .unset]) rfl ?_
          show Steps p.tables e below (s₁.setTop (mkF m 23 #[.val (.int p0), .val (.int (p0 ||| (32 : Int32))), .val (.int (0 : Int32)), .unset, .unset, .unset, .unset] [])) _
          refine XS.iloadN X0.here hx rfl (hb hby d2_23) rfl ?_
          show Steps p.tables e below (s₁.setTop (mkF m 24 #[.val (.int p0), .val (.int (p0 ||| (32 : Int32))), .val (.int (0 : Int32)), .unset, .unset, .unset, .unset] [(.int p0)])) _
          refine XS.i2l X0.here hx rfl (hb hby d2_24) rfl ?_
          show Steps p.tables e below (s₁.setTop (mkF m 25 #[.val (.int p0), .val (.int (p0 ||| (32 : Int32))), .val (.int (0 : Int32)), .unset, .unset, .unset, .unset] [(.long (p0.toInt64))])) _
          refine X0.ldc2J hx hown (mvT hZ (hw _ (List.mem_of_getElem? (i := 8) rfl))) rfl (hb hby d2_25) ?_
          show Steps p.tables e below (s₁.setTop (mkF m 28 #[.val (.int p0), .val (.int (p0 ||| (32 : Int32))), .val (.int (0 : Int32)), .unset, .unset, .unset, .unset] [(.long (48 : Int64)), (.long (p0.toInt64))])) _
          refine XS.lsub X0.here hx rfl (hb hby d2_28) rfl ?_
          show Steps p.tables e below (s₁.setTop (mkF m 29 #[.val (.int p0), .val (.int (p0 ||| (32 : Int32))), .val (.int (0 : Int32)), .unset, .unset, .unset, .unset] [(.long ((p0.toInt64) - (48 : Int64)))])) _
          refine XS.lstoreN X0.here hx rfl (hb hby d2_29) rfl (l' := #[.val (.int p0), .val (.int (p0 ||| (32 : Int32))), .val (.int (0 : Int32)), .val (.long ((p0.toInt64) - (48 : Int64))), .second, .unset, .unset]) rfl ?_
          show Steps p.tables e below (s₁.setTop (mkF m 30 #[.val (.int p0), .val (.int (p0 ||| (32 : Int32))), .val (.int (0 : Int32)), .val (.long ((p0.toInt64) - (48 : Int64))), .second, .unset, .unset] [])) _
          refine XS.lloadN X0.here hx rfl (hb hby d2_30) rfl ?_
          show Steps p.tables e below (s₁.setTop (mkF m 31 #[.val (.int p0), .val (.int (p0 ||| (32 : Int32))), .val (.int (0 : Int32)), .val (.long ((p0.toInt64) - (48 : Int64))), .second, .unset, .unset] [(.long ((p0.toInt64) - (48 : Int64)))])) _
          refine XS.lconst X0.here hx rfl (hb hby d2_31) ?_
          show Steps p.tables e below (s₁.setTop (mkF m 32 #[.val (.int p0), .val (.int (p0 ||| (32 : Int32))), .val (.int (0 : Int32)), .val (.long ((p0.toInt64) - (48 : Int64))), .second, .unset, .unset] [(.long (0 : Int64)), (.long ((p0.toInt64) - (48 : Int64)))])) _
          refine XS.lcmp X0.here hx rfl (hb hby d2_32) rfl ?_
          exact k
        by_cases hc89 : ((p0.toInt64) - (48 : Int64)) < (0 : Int64)
        · have r90 : own_R p.tables e below F0 (s₁.setTop (mkF m 54 #[.val (.int p0), .val (.int (p0 ||| (32 : Int32))), .val (.int (0 : Int32)), .val (.long ((p0.toInt64) - (48 : Int64))), .second, .val (.int (0 : Int32)), .unset] [(.int (95 : Int32)), (.int p0)])) := fun t k => by
            refine r88 t ?_
            show Steps p.tables e below (s₁.setTop (mkF m 33 #[.val (.int p0), .val (.int (p0 ||| (32 : Int32))), .val (.int (0 : Int32)), .val (.long ((p0.toInt64) - (48 : Int64))), .second, .unset, .unset] [(.int (lcmpW ((p0.toInt64) - (48 : Int64)) (0 : Int64)))])) _
            refine XS.ifYes X0.here hx rfl (pc0 := 33) (pc' := 48) rfl (hb hby d2_33) rfl (own_l_lt hc89).1 (by decide) (by decide) ?_
            show Steps p.tables e below (s₁.setTop (mkF m 48 #[.val (.int p0), .val (.int (p0 ||| (32 : Int32))), .val (.int (0 : Int32)), .val (.long ((p0.toInt64) - (48 : Int64))), .second, .unset, .unset] [])) _
            refine XS.iconst X0.here hx rfl (hb hby d2_48) ?_
            show Steps p.tables e below (s₁.setTop (mkF m 49 #[.val (.int p0), .val (.int (p0 ||| (32 : Int32))), .val (.int (0 : Int32)), .val (.long ((p0.toInt64) - (48 : Int64))), .second, .unset, .unset] [(.int (0 : Int32))])) _
            refine XS.istore X0.here hx rfl (hb hby d2_49) rfl (l' := #[.val (.int p0), .val (.int (p0 ||| (32 : Int32))), .val (.int (0 : Int32)), .val (.long ((p0.toInt64) - (48 : Int64))), .second, .val (.int (0 : Int32)), .unset]) rfl ?_
            show Steps p.tables e below (s₁.setTop (mkF m 51 #[.val (.int p0), .val (.int (p0 ||| (32 : Int32))), .val (.int (0 : Int32)), .val (.long ((p0.toInt64) - (48 : Int64))), .second, .val (.int (0 : Int32)), .unset] [])) _
            refine XS.iloadN X0.here hx rfl (hb hby d2_51) rfl ?_
            show Steps p.tables e below (s₁.setTop (mkF m 52 #[.val (.int p0), .val (.int (p0 ||| (32 : Int32))), .val (.int (0 : Int32)), .val (.long ((p0.toInt64) - (48 : Int64))), .second, .val (.int (0 : Int32)), .unset] [(.int p0)])) _
            refine XS.bipush X0.here hx rfl (hb hby d2_52) ?_
            exact k
          by_cases hc91 : p0 = (95 : Int32)
          · have r92 : own_R p.tables e below F0 (s₁.setTop (mkF m 83 #[.val (.int p0), .val (.int (p0 ||| (32 : Int32))), .val (.int (0 : Int32)), .val (.long ((p0.toInt64) - (48 : Int64))), .second, .val (.int (0 : Int32)), .val (.int (1 : Int32))] [(.int (1 : Int32))])) := fun t k => by
              refine r90 t ?_
              show Steps p.tables e below (s₁.setTop (mkF m 54 #[.val (.int p0), .val (.int (p0 ||| (32 : Int32))), .val (.int (0 : Int32)), .val (.long ((p0.toInt64) - (48 : Int64))), .second, .val (.int (0 : Int32)), .unset] [(.int (95 : Int32)), (.int p0)])) _
              refine XS.icmpNo X0.here hx rfl (hb hby d2_54) rfl (teq hc91).2 ?_
              show Steps p.tables e below (s₁.setTop (mkF m 57 #[.val (.int p0), .val (.int (p0 ||| (32 : Int32))), .val (.int (0 : Int32)), .val (.long ((p0.toInt64) - (48 : Int64))), .second, .val (.int (0 : Int32)), .unset] [])) _
              refine XS.iconst X0.here hx rfl (hb hby d2_57) ?_
              show Steps p.tables e below (s₁.setTop (mkF m 58 #[.val (.int p0), .val (.int (p0 ||| (32 : Int32))), .val (.int (0 : Int32)), .val (.long ((p0.toInt64) - (48 : Int64))), .second, .val (.int (0 : Int32)), .unset] [(.int (1 : Int32))])) _
              refine XS.goto X0.here hx rfl (pc0 := 58) (pc' := 62) rfl (hb hby d2_58) (by decide) (by decide) ?_
              show Steps p.tables e below (s₁.setTop (mkF m 62 #[.val (.int p0), .val (.int (p0 ||| (32 : Int32))), .val (.int (0 : Int32)), .val (.long ((p0.toInt64) - (48 : Int64))), .second, .val (.int (0 : Int32)), .unset] [(.int (1 : Int32))])) _
              refine XS.istore X0.here hx rfl (hb hby d2_62) rfl (l' := #[.val (.int p0), .val (.int (p0 ||| (32 : Int32))), .val (.int (0 : Int32)), .val (.long ((p0.toInt64) - (48 : Int64))), .second, .val (.int (0 : Int32)), .val (.int (1 : Int32))]) rfl ?_
              show Steps p.tables e below (s₁.setTop (mkF m 64 #[.val (.int p0), .val (.int (p0 ||| (32 : Int32))), .val (.int (0 : Int32)), .val (.long ((p0.toInt64) - (48 : Int64))), .second, .val (.int (0 : Int32)), .val (.int (1 : Int32))] [])) _
              refine XS.iloadN X0.here hx rfl (hb hby d2_64) rfl ?_
              show Steps p.tables e below (s₁.setTop (mkF m 65 #[.val (.int p0), .val (.int (p0 ||| (32 : Int32))), .val (.int (0 : Int32)), .val (.long ((p0.toInt64) - (48 : Int64))), .second, .val (.int (0 : Int32)), .val (.int (1 : Int32))] [(.int (0 : Int32))])) _
              refine XS.ifNo X0.here hx rfl (hb hby d2_65) rfl ((if0 _ _).trans (teq (show (0 : Int32) = (0 : Int32) from by decide)).2) ?_
              show Steps p.tables e below (s₁.setTop (mkF m 68 #[.val (.int p0), .val (.int (p0 ||| (32 : Int32))), .val (.int (0 : Int32)), .val (.long ((p0.toInt64) - (48 : Int64))), .second, .val (.int (0 : Int32)), .val (.int (1 : Int32))] [])) _
              refine XS.iload X0.here hx rfl (hb hby d2_68) rfl ?_
              show Steps p.tables e below (s₁.setTop (mkF m 70 #[.val (.int p0), .val (.int (p0 ||| (32 : Int32))), .val (.int (0 : Int32)), .val (.long ((p0.toInt64) - (48 : Int64))), .second, .val (.int (0 : Int32)), .val (.int (1 : Int32))] [(.int (0 : Int32))])) _
              refine XS.ifNo X0.here hx rfl (hb hby d2_70) rfl ((if0 _ _).trans (teq (show (0 : Int32) = (0 : Int32) from by decide)).2) ?_
              show Steps p.tables e below (s₁.setTop (mkF m 73 #[.val (.int p0), .val (.int (p0 ||| (32 : Int32))), .val (.int (0 : Int32)), .val (.long ((p0.toInt64) - (48 : Int64))), .second, .val (.int (0 : Int32)), .val (.int (1 : Int32))] [])) _
              refine XS.iload X0.here hx rfl (hb hby d2_73) rfl ?_
              show Steps p.tables e below (s₁.setTop (mkF m 75 #[.val (.int p0), .val (.int (p0 ||| (32 : Int32))), .val (.int (0 : Int32)), .val (.long ((p0.toInt64) - (48 : Int64))), .second, .val (.int (0 : Int32)), .val (.int (1 : Int32))] [(.int (1 : Int32))])) _
              refine XS.ifNo X0.here hx rfl (hb hby d2_75) rfl ((if0 _ _).trans (feq (show ¬ ((1 : Int32) = (0 : Int32)) from by decide)).1) ?_
              show Steps p.tables e below (s₁.setTop (mkF m 78 #[.val (.int p0), .val (.int (p0 ||| (32 : Int32))), .val (.int (0 : Int32)), .val (.long ((p0.toInt64) - (48 : Int64))), .second, .val (.int (0 : Int32)), .val (.int (1 : Int32))] [])) _
              refine XS.iconst X0.here hx rfl (hb hby d2_78) ?_
              show Steps p.tables e below (s₁.setTop (mkF m 79 #[.val (.int p0), .val (.int (p0 ||| (32 : Int32))), .val (.int (0 : Int32)), .val (.long ((p0.toInt64) - (48 : Int64))), .second, .val (.int (0 : Int32)), .val (.int (1 : Int32))] [(.int (1 : Int32))])) _
              refine XS.goto X0.here hx rfl (pc0 := 79) (pc' := 83) rfl (hb hby d2_79) (by decide) (by decide) ?_
              exact k
            refine hG (own_fin X0 hlk (some (.int (nar .boolean (1 : Int32)))) (own_hv Bd.returns) ?_ (by decide) (by decide) (fun fs hr => r92 _ (retN X0 hx (t := .boolean) Bd.returns (by simp) (hb hby d2_83) hr)))
            rw [e0]
            refine ⟨?_, N0, rfl⟩
            have ev : (own_exp p0) = (1 : Int32) := by unfold own_exp; rw [if_neg hc69, if_pos hc87, if_pos hc89, if_pos hc91]
            rw [ev]
            rfl
          · have r93 : own_R p.tables e below F0 (s₁.setTop (mkF m 83 #[.val (.int p0), .val (.int (p0 ||| (32 : Int32))), .val (.int (0 : Int32)), .val (.long ((p0.toInt64) - (48 : Int64))), .second, .val (.int (0 : Int32)), .val (.int (0 : Int32))] [(.int (0 : Int32))])) := fun t k => by
              refine r90 t ?_
              show Steps p.tables e below (s₁.setTop (mkF m 54 #[.val (.int p0), .val (.int (p0 ||| (32 : Int32))), .val (.int (0 : Int32)), .val (.long ((p0.toInt64) - (48 : Int64))), .second, .val (.int (0 : Int32)), .unset] [(.int (95 : Int32)), (.int p0)])) _
              refine XS.icmpYes X0.here hx rfl (pc0 := 54) (pc' := 61) rfl (hb hby d2_54) rfl (feq hc91).2 (by decide) (by decide) ?_
              show Steps p.tables e below (s₁.setTop (mkF m 61 #[.val (.int p0), .val (.int (p0 ||| (32 : Int32))), .val (.int (0 : Int32)), .val (.long ((p0.toInt64) - (48 : Int64))), .second, .val (.int (0 : Int32)), .unset] [])) _
              refine XS.iconst X0.here hx rfl (hb hby d2_61) ?_
              show Steps p.tables e below (s₁.setTop (mkF m 62 #[.val (.int p0), .val (.int (p0 ||| (32 : Int32))), .val (.int (0 : Int32)), .val (.long ((p0.toInt64) - (48 : Int64))), .second, .val (.int (0 : Int32)), .unset] [(.int (0 : Int32))])) _
              refine XS.istore X0.here hx rfl (hb hby d2_62) rfl (l' := #[.val (.int p0), .val (.int (p0 ||| (32 : Int32))), .val (.int (0 : Int32)), .val (.long ((p0.toInt64) - (48 : Int64))), .second, .val (.int (0 : Int32)), .val (.int (0 : Int32))]) rfl ?_
              show Steps p.tables e below (s₁.setTop (mkF m 64 #[.val (.int p0), .val (.int (p0 ||| (32 : Int32))), .val (.int (0 : Int32)), .val (.long ((p0.toInt64) - (48 : Int64))), .second, .val (.int (0 : Int32)), .val (.int (0 : Int32))] [])) _
              refine XS.iloadN X0.here hx rfl (hb hby d2_64) rfl ?_
              show Steps p.tables e below (s₁.setTop (mkF m 65 #[.val (.int p0), .val (.int (p0 ||| (32 : Int32))), .val (.int (0 : Int32)), .val (.long ((p0.toInt64) - (48 : Int64))), .second, .val (.int (0 : Int32)), .val (.int (0 : Int32))] [(.int (0 : Int32))])) _
              refine XS.ifNo X0.here hx rfl (hb hby d2_65) rfl ((if0 _ _).trans (teq (show (0 : Int32) = (0 : Int32) from by decide)).2) ?_
              show Steps p.tables e below (s₁.setTop (mkF m 68 #[.val (.int p0), .val (.int (p0 ||| (32 : Int32))), .val (.int (0 : Int32)), .val (.long ((p0.toInt64) - (48 : Int64))), .second, .val (.int (0 : Int32)), .val (.int (0 : Int32))] [])) _
              refine XS.iload X0.here hx rfl (hb hby d2_68) rfl ?_
              show Steps p.tables e below (s₁.setTop (mkF m 70 #[.val (.int p0), .val (.int (p0 ||| (32 : Int32))), .val (.int (0 : Int32)), .val (.long ((p0.toInt64) - (48 : Int64))), .second, .val (.int (0 : Int32)), .val (.int (0 : Int32))] [(.int (0 : Int32))])) _
              refine XS.ifNo X0.here hx rfl (hb hby d2_70) rfl ((if0 _ _).trans (teq (show (0 : Int32) = (0 : Int32) from by decide)).2) ?_
              show Steps p.tables e below (s₁.setTop (mkF m 73 #[.val (.int p0), .val (.int (p0 ||| (32 : Int32))), .val (.int (0 : Int32)), .val (.long ((p0.toInt64) - (48 : Int64))), .second, .val (.int (0 : Int32)), .val (.int (0 : Int32))] [])) _
              refine XS.iload X0.here hx rfl (hb hby d2_73) rfl ?_
              show Steps p.tables e below (s₁.setTop (mkF m 75 #[.val (.int p0), .val (.int (p0 ||| (32 : Int32))), .val (.int (0 : Int32)), .val (.long ((p0.toInt64) - (48 : Int64))), .second, .val (.int (0 : Int32)), .val (.int (0 : Int32))] [(.int (0 : Int32))])) _
              refine XS.ifYes X0.here hx rfl (pc0 := 75) (pc' := 82) rfl (hb hby d2_75) rfl ((if0 _ _).trans (teq (show (0 : Int32) = (0 : Int32) from by decide)).1) (by decide) (by decide) ?_
              show Steps p.tables e below (s₁.setTop (mkF m 82 #[.val (.int p0), .val (.int (p0 ||| (32 : Int32))), .val (.int (0 : Int32)), .val (.long ((p0.toInt64) - (48 : Int64))), .second, .val (.int (0 : Int32)), .val (.int (0 : Int32))] [])) _
              refine XS.iconst X0.here hx rfl (hb hby d2_82) ?_
              exact k
            refine hG (own_fin X0 hlk (some (.int (nar .boolean (0 : Int32)))) (own_hv Bd.returns) ?_ (by decide) (by decide) (fun fs hr => r93 _ (retN X0 hx (t := .boolean) Bd.returns (by simp) (hb hby d2_83) hr)))
            rw [e0]
            refine ⟨?_, N0, rfl⟩
            have ev : (own_exp p0) = (0 : Int32) := by unfold own_exp; rw [if_neg hc69, if_pos hc87, if_pos hc89, if_neg hc91]
            rw [ev]
            rfl
        · have r94 : own_R p.tables e below F0 (s₁.setTop (mkF m 41 #[.val (.int p0), .val (.int (p0 ||| (32 : Int32))), .val (.int (0 : Int32)), .val (.long ((p0.toInt64) - (48 : Int64))), .second, .unset, .unset] [(.int (lcmpW ((p0.toInt64) - (48 : Int64)) (10 : Int64)))])) := fun t k => by
            refine r88 t ?_
            show Steps p.tables e below (s₁.setTop (mkF m 33 #[.val (.int p0), .val (.int (p0 ||| (32 : Int32))), .val (.int (0 : Int32)), .val (.long ((p0.toInt64) - (48 : Int64))), .second, .unset, .unset] [(.int (lcmpW ((p0.toInt64) - (48 : Int64)) (0 : Int64)))])) _
            refine XS.ifNo X0.here hx rfl (hb hby d2_33) rfl (own_l_nlt hc89).1 ?_
            show Steps p.tables e below (s₁.setTop (mkF m 36 #[.val (.int p0), .val (.int (p0 ||| (32 : Int32))), .val (.int (0 : Int32)), .val (.long ((p0.toInt64) - (48 : Int64))), .second, .unset, .unset] [])) _
            refine XS.lloadN X0.here hx rfl (hb hby d2_36) rfl ?_
            show Steps p.tables e below (s₁.setTop (mkF m 37 #[.val (.int p0), .val (.int (p0 ||| (32 : Int32))), .val (.int (0 : Int32)), .val (.long ((p0.toInt64) - (48 : Int64))), .second, .unset, .unset] [(.long ((p0.toInt64) - (48 : Int64)))])) _
            refine X0.ldc2J hx hown (mvT hZ (hw _ (List.mem_of_getElem? (i := 9) rfl))) rfl (hb hby d2_37) ?_
            show Steps p.tables e below (s₁.setTop (mkF m 40 #[.val (.int p0), .val (.int (p0 ||| (32 : Int32))), .val (.int (0 : Int32)), .val (.long ((p0.toInt64) - (48 : Int64))), .second, .unset, .unset] [(.long (10 : Int64)), (.long ((p0.toInt64) - (48 : Int64)))])) _
            refine XS.lcmp X0.here hx rfl (hb hby d2_40) rfl ?_
            exact k
          by_cases hc95 : ((p0.toInt64) - (48 : Int64)) < (10 : Int64)
          · have r96 : own_R p.tables e below F0 (s₁.setTop (mkF m 54 #[.val (.int p0), .val (.int (p0 ||| (32 : Int32))), .val (.int (0 : Int32)), .val (.long ((p0.toInt64) - (48 : Int64))), .second, .val (.int (1 : Int32)), .unset] [(.int (95 : Int32)), (.int p0)])) := fun t k => by
              refine r94 t ?_
              show Steps p.tables e below (s₁.setTop (mkF m 41 #[.val (.int p0), .val (.int (p0 ||| (32 : Int32))), .val (.int (0 : Int32)), .val (.long ((p0.toInt64) - (48 : Int64))), .second, .unset, .unset] [(.int (lcmpW ((p0.toInt64) - (48 : Int64)) (10 : Int64)))])) _
              refine XS.ifNo X0.here hx rfl (hb hby d2_41) rfl (own_l_lt hc95).2 ?_
              show Steps p.tables e below (s₁.setTop (mkF m 44 #[.val (.int p0), .val (.int (p0 ||| (32 : Int32))), .val (.int (0 : Int32)), .val (.long ((p0.toInt64) - (48 : Int64))), .second, .unset, .unset] [])) _
              refine XS.iconst X0.here hx rfl (hb hby d2_44) ?_
              show Steps p.tables e below (s₁.setTop (mkF m 45 #[.val (.int p0), .val (.int (p0 ||| (32 : Int32))), .val (.int (0 : Int32)), .val (.long ((p0.toInt64) - (48 : Int64))), .second, .unset, .unset] [(.int (1 : Int32))])) _
              refine XS.goto X0.here hx rfl (pc0 := 45) (pc' := 49) rfl (hb hby d2_45) (by decide) (by decide) ?_
              show Steps p.tables e below (s₁.setTop (mkF m 49 #[.val (.int p0), .val (.int (p0 ||| (32 : Int32))), .val (.int (0 : Int32)), .val (.long ((p0.toInt64) - (48 : Int64))), .second, .unset, .unset] [(.int (1 : Int32))])) _
              refine XS.istore X0.here hx rfl (hb hby d2_49) rfl (l' := #[.val (.int p0), .val (.int (p0 ||| (32 : Int32))), .val (.int (0 : Int32)), .val (.long ((p0.toInt64) - (48 : Int64))), .second, .val (.int (1 : Int32)), .unset]) rfl ?_
              show Steps p.tables e below (s₁.setTop (mkF m 51 #[.val (.int p0), .val (.int (p0 ||| (32 : Int32))), .val (.int (0 : Int32)), .val (.long ((p0.toInt64) - (48 : Int64))), .second, .val (.int (1 : Int32)), .unset] [])) _
              refine XS.iloadN X0.here hx rfl (hb hby d2_51) rfl ?_
              show Steps p.tables e below (s₁.setTop (mkF m 52 #[.val (.int p0), .val (.int (p0 ||| (32 : Int32))), .val (.int (0 : Int32)), .val (.long ((p0.toInt64) - (48 : Int64))), .second, .val (.int (1 : Int32)), .unset] [(.int p0)])) _
              refine XS.bipush X0.here hx rfl (hb hby d2_52) ?_
              exact k
            by_cases hc97 : p0 = (95 : Int32)
            · have r98 : own_R p.tables e below F0 (s₁.setTop (mkF m 83 #[.val (.int p0), .val (.int (p0 ||| (32 : Int32))), .val (.int (0 : Int32)), .val (.long ((p0.toInt64) - (48 : Int64))), .second, .val (.int (1 : Int32)), .val (.int (1 : Int32))] [(.int (1 : Int32))])) := fun t k => by
                refine r96 t ?_
                show Steps p.tables e below (s₁.setTop (mkF m 54 #[.val (.int p0), .val (.int (p0 ||| (32 : Int32))), .val (.int (0 : Int32)), .val (.long ((p0.toInt64) - (48 : Int64))), .second, .val (.int (1 : Int32)), .unset] [(.int (95 : Int32)), (.int p0)])) _
                refine XS.icmpNo X0.here hx rfl (hb hby d2_54) rfl (teq hc97).2 ?_
                show Steps p.tables e below (s₁.setTop (mkF m 57 #[.val (.int p0), .val (.int (p0 ||| (32 : Int32))), .val (.int (0 : Int32)), .val (.long ((p0.toInt64) - (48 : Int64))), .second, .val (.int (1 : Int32)), .unset] [])) _
                refine XS.iconst X0.here hx rfl (hb hby d2_57) ?_
                show Steps p.tables e below (s₁.setTop (mkF m 58 #[.val (.int p0), .val (.int (p0 ||| (32 : Int32))), .val (.int (0 : Int32)), .val (.long ((p0.toInt64) - (48 : Int64))), .second, .val (.int (1 : Int32)), .unset] [(.int (1 : Int32))])) _
                refine XS.goto X0.here hx rfl (pc0 := 58) (pc' := 62) rfl (hb hby d2_58) (by decide) (by decide) ?_
                show Steps p.tables e below (s₁.setTop (mkF m 62 #[.val (.int p0), .val (.int (p0 ||| (32 : Int32))), .val (.int (0 : Int32)), .val (.long ((p0.toInt64) - (48 : Int64))), .second, .val (.int (1 : Int32)), .unset] [(.int (1 : Int32))])) _
                refine XS.istore X0.here hx rfl (hb hby d2_62) rfl (l' := #[.val (.int p0), .val (.int (p0 ||| (32 : Int32))), .val (.int (0 : Int32)), .val (.long ((p0.toInt64) - (48 : Int64))), .second, .val (.int (1 : Int32)), .val (.int (1 : Int32))]) rfl ?_
                show Steps p.tables e below (s₁.setTop (mkF m 64 #[.val (.int p0), .val (.int (p0 ||| (32 : Int32))), .val (.int (0 : Int32)), .val (.long ((p0.toInt64) - (48 : Int64))), .second, .val (.int (1 : Int32)), .val (.int (1 : Int32))] [])) _
                refine XS.iloadN X0.here hx rfl (hb hby d2_64) rfl ?_
                show Steps p.tables e below (s₁.setTop (mkF m 65 #[.val (.int p0), .val (.int (p0 ||| (32 : Int32))), .val (.int (0 : Int32)), .val (.long ((p0.toInt64) - (48 : Int64))), .second, .val (.int (1 : Int32)), .val (.int (1 : Int32))] [(.int (0 : Int32))])) _
                refine XS.ifNo X0.here hx rfl (hb hby d2_65) rfl ((if0 _ _).trans (teq (show (0 : Int32) = (0 : Int32) from by decide)).2) ?_
                show Steps p.tables e below (s₁.setTop (mkF m 68 #[.val (.int p0), .val (.int (p0 ||| (32 : Int32))), .val (.int (0 : Int32)), .val (.long ((p0.toInt64) - (48 : Int64))), .second, .val (.int (1 : Int32)), .val (.int (1 : Int32))] [])) _
                refine XS.iload X0.here hx rfl (hb hby d2_68) rfl ?_
                show Steps p.tables e below (s₁.setTop (mkF m 70 #[.val (.int p0), .val (.int (p0 ||| (32 : Int32))), .val (.int (0 : Int32)), .val (.long ((p0.toInt64) - (48 : Int64))), .second, .val (.int (1 : Int32)), .val (.int (1 : Int32))] [(.int (1 : Int32))])) _
                refine XS.ifYes X0.here hx rfl (pc0 := 70) (pc' := 78) rfl (hb hby d2_70) rfl ((if0 _ _).trans (feq (show ¬ ((1 : Int32) = (0 : Int32)) from by decide)).2) (by decide) (by decide) ?_
                show Steps p.tables e below (s₁.setTop (mkF m 78 #[.val (.int p0), .val (.int (p0 ||| (32 : Int32))), .val (.int (0 : Int32)), .val (.long ((p0.toInt64) - (48 : Int64))), .second, .val (.int (1 : Int32)), .val (.int (1 : Int32))] [])) _
                refine XS.iconst X0.here hx rfl (hb hby d2_78) ?_
                show Steps p.tables e below (s₁.setTop (mkF m 79 #[.val (.int p0), .val (.int (p0 ||| (32 : Int32))), .val (.int (0 : Int32)), .val (.long ((p0.toInt64) - (48 : Int64))), .second, .val (.int (1 : Int32)), .val (.int (1 : Int32))] [(.int (1 : Int32))])) _
                refine XS.goto X0.here hx rfl (pc0 := 79) (pc' := 83) rfl (hb hby d2_79) (by decide) (by decide) ?_
                exact k
              refine hG (own_fin X0 hlk (some (.int (nar .boolean (1 : Int32)))) (own_hv Bd.returns) ?_ (by decide) (by decide) (fun fs hr => r98 _ (retN X0 hx (t := .boolean) Bd.returns (by simp) (hb hby d2_83) hr)))
              rw [e0]
              refine ⟨?_, N0, rfl⟩
              have ev : (own_exp p0) = (1 : Int32) := by unfold own_exp; rw [if_neg hc69, if_pos hc87, if_neg hc89, if_pos hc95, if_pos hc97]
              rw [ev]
              rfl
            · have r99 : own_R p.tables e below F0 (s₁.setTop (mkF m 83 #[.val (.int p0), .val (.int (p0 ||| (32 : Int32))), .val (.int (0 : Int32)), .val (.long ((p0.toInt64) - (48 : Int64))), .second, .val (.int (1 : Int32)), .val (.int (0 : Int32))] [(.int (1 : Int32))])) := fun t k => by
                refine r96 t ?_
                show Steps p.tables e below (s₁.setTop (mkF m 54 #[.val (.int p0), .val (.int (p0 ||| (32 : Int32))), .val (.int (0 : Int32)), .val (.long ((p0.toInt64) - (48 : Int64))), .second, .val (.int (1 : Int32)), .unset] [(.int (95 : Int32)), (.int p0)])) _
                refine XS.icmpYes X0.here hx rfl (pc0 := 54) (pc' := 61) rfl (hb hby d2_54) rfl (feq hc97).2 (by decide) (by decide) ?_
                show Steps p.tables e below (s₁.setTop (mkF m 61 #[.val (.int p0), .val (.int (p0 ||| (32 : Int32))), .val (.int (0 : Int32)), .val (.long ((p0.toInt64) - (48 : Int64))), .second, .val (.int (1 : Int32)), .unset] [])) _
                refine XS.iconst X0.here hx rfl (hb hby d2_61) ?_
                show Steps p.tables e below (s₁.setTop (mkF m 62 #[.val (.int p0), .val (.int (p0 ||| (32 : Int32))), .val (.int (0 : Int32)), .val (.long ((p0.toInt64) - (48 : Int64))), .second, .val (.int (1 : Int32)), .unset] [(.int (0 : Int32))])) _
                refine XS.istore X0.here hx rfl (hb hby d2_62) rfl (l' := #[.val (.int p0), .val (.int (p0 ||| (32 : Int32))), .val (.int (0 : Int32)), .val (.long ((p0.toInt64) - (48 : Int64))), .second, .val (.int (1 : Int32)), .val (.int (0 : Int32))]) rfl ?_
                show Steps p.tables e below (s₁.setTop (mkF m 64 #[.val (.int p0), .val (.int (p0 ||| (32 : Int32))), .val (.int (0 : Int32)), .val (.long ((p0.toInt64) - (48 : Int64))), .second, .val (.int (1 : Int32)), .val (.int (0 : Int32))] [])) _
                refine XS.iloadN X0.here hx rfl (hb hby d2_64) rfl ?_
                show Steps p.tables e below (s₁.setTop (mkF m 65 #[.val (.int p0), .val (.int (p0 ||| (32 : Int32))), .val (.int (0 : Int32)), .val (.long ((p0.toInt64) - (48 : Int64))), .second, .val (.int (1 : Int32)), .val (.int (0 : Int32))] [(.int (0 : Int32))])) _
                refine XS.ifNo X0.here hx rfl (hb hby d2_65) rfl ((if0 _ _).trans (teq (show (0 : Int32) = (0 : Int32) from by decide)).2) ?_
                show Steps p.tables e below (s₁.setTop (mkF m 68 #[.val (.int p0), .val (.int (p0 ||| (32 : Int32))), .val (.int (0 : Int32)), .val (.long ((p0.toInt64) - (48 : Int64))), .second, .val (.int (1 : Int32)), .val (.int (0 : Int32))] [])) _
                refine XS.iload X0.here hx rfl (hb hby d2_68) rfl ?_
                show Steps p.tables e below (s₁.setTop (mkF m 70 #[.val (.int p0), .val (.int (p0 ||| (32 : Int32))), .val (.int (0 : Int32)), .val (.long ((p0.toInt64) - (48 : Int64))), .second, .val (.int (1 : Int32)), .val (.int (0 : Int32))] [(.int (1 : Int32))])) _
                refine XS.ifYes X0.here hx rfl (pc0 := 70) (pc' := 78) rfl (hb hby d2_70) rfl ((if0 _ _).trans (feq (show ¬ ((1 : Int32) = (0 : Int32)) from by decide)).2) (by decide) (by decide) ?_
                show Steps p.tables e below (s₁.setTop (mkF m 78 #[.val (.int p0), .val (.int (p0 ||| (32 : Int32))), .val (.int (0 : Int32)), .val (.long ((p0.toInt64) - (48 : Int64))), .second, .val (.int (1 : Int32)), .val (.int (0 : Int32))] [])) _
                refine XS.iconst X0.here hx rfl (hb hby d2_78) ?_
                show Steps p.tables e below (s₁.setTop (mkF m 79 #[.val (.int p0), .val (.int (p0 ||| (32 : Int32))), .val (.int (0 : Int32)), .val (.long ((p0.toInt64) - (48 : Int64))), .second, .val (.int (1 : Int32)), .val (.int (0 : Int32))] [(.int (1 : Int32))])) _
                refine XS.goto X0.here hx rfl (pc0 := 79) (pc' := 83) rfl (hb hby d2_79) (by decide) (by decide) ?_
                exact k
              refine hG (own_fin X0 hlk (some (.int (nar .boolean (1 : Int32)))) (own_hv Bd.returns) ?_ (by decide) (by decide) (fun fs hr => r99 _ (retN X0 hx (t := .boolean) Bd.returns (by simp) (hb hby d2_83) hr)))
              rw [e0]
              refine ⟨?_, N0, rfl⟩
              have ev : (own_exp p0) = (1 : Int32) := by unfold own_exp; rw [if_neg hc69, if_pos hc87, if_neg hc89, if_pos hc95, if_neg hc97]
              rw [ev]
              rfl
          · have r100 : own_R p.tables e below F0 (s₁.setTop (mkF m 54 #[.val (.int p0), .val (.int (p0 ||| (32 : Int32))), .val (.int (0 : Int32)), .val (.long ((p0.toInt64) - (48 : Int64))), .second, .val (.int (0 : Int32)), .unset] [(.int (95 : Int32)), (.int p0)])) := fun t k => by
              refine r94 t ?_
              show Steps p.tables e below (s₁.setTop (mkF m 41 #[.val (.int p0), .val (.int (p0 ||| (32 : Int32))), .val (.int (0 : Int32)), .val (.long ((p0.toInt64) - (48 : Int64))), .second, .unset, .unset] [(.int (lcmpW ((p0.toInt64) - (48 : Int64)) (10 : Int64)))])) _
              refine XS.ifYes X0.here hx rfl (pc0 := 41) (pc' := 48) rfl (hb hby d2_41) rfl (own_l_nlt hc95).2 (by decide) (by decide) ?_
              show Steps p.tables e below (s₁.setTop (mkF m 48 #[.val (.int p0), .val (.int (p0 ||| (32 : Int32))), .val (.int (0 : Int32)), .val (.long ((p0.toInt64) - (48 : Int64))), .second, .unset, .unset] [])) _
              refine XS.iconst X0.here hx rfl (hb hby d2_48) ?_
              show Steps p.tables e below (s₁.setTop (mkF m 49 #[.val (.int p0), .val (.int (p0 ||| (32 : Int32))), .val (.int (0 : Int32)), .val (.long ((p0.toInt64) - (48 : Int64))), .second, .unset, .unset] [(.int (0 : Int32))])) _
              refine XS.istore X0.here hx rfl (hb hby d2_49) rfl (l' := #[.val (.int p0), .val (.int (p0 ||| (32 : Int32))), .val (.int (0 : Int32)), .val (.long ((p0.toInt64) - (48 : Int64))), .second, .val (.int (0 : Int32)), .unset]) rfl ?_
              show Steps p.tables e below (s₁.setTop (mkF m 51 #[.val (.int p0), .val (.int (p0 ||| (32 : Int32))), .val (.int (0 : Int32)), .val (.long ((p0.toInt64) - (48 : Int64))), .second, .val (.int (0 : Int32)), .unset] [])) _
              refine XS.iloadN X0.here hx rfl (hb hby d2_51) rfl ?_
              show Steps p.tables e below (s₁.setTop (mkF m 52 #[.val (.int p0), .val (.int (p0 ||| (32 : Int32))), .val (.int (0 : Int32)), .val (.long ((p0.toInt64) - (48 : Int64))), .second, .val (.int (0 : Int32)), .unset] [(.int p0)])) _
              refine XS.bipush X0.here hx rfl (hb hby d2_52) ?_
              exact k
            by_cases hc101 : p0 = (95 : Int32)
            · have r102 : own_R p.tables e below F0 (s₁.setTop (mkF m 83 #[.val (.int p0), .val (.int (p0 ||| (32 : Int32))), .val (.int (0 : Int32)), .val (.long ((p0.toInt64) - (48 : Int64))), .second, .val (.int (0 : Int32)), .val (.int (1 : Int32))] [(.int (1 : Int32))])) := fun t k => by
                refine r100 t ?_
                show Steps p.tables e below (s₁.setTop (mkF m 54 #[.val (.int p0), .val (.int (p0 ||| (32 : Int32))), .val (.int (0 : Int32)), .val (.long ((p0.toInt64) - (48 : Int64))), .second, .val (.int (0 : Int32)), .unset] [(.int (95 : Int32)), (.int p0)])) _
                refine XS.icmpNo X0.here hx rfl (hb hby d2_54) rfl (teq hc101).2 ?_
                show Steps p.tables e below (s₁.setTop (mkF m 57 #[.val (.int p0), .val (.int (p0 ||| (32 : Int32))), .val (.int (0 : Int32)), .val (.long ((p0.toInt64) - (48 : Int64))), .second, .val (.int (0 : Int32)), .unset] [])) _
                refine XS.iconst X0.here hx rfl (hb hby d2_57) ?_
                show Steps p.tables e below (s₁.setTop (mkF m 58 #[.val (.int p0), .val (.int (p0 ||| (32 : Int32))), .val (.int (0 : Int32)), .val (.long ((p0.toInt64) - (48 : Int64))), .second, .val (.int (0 : Int32)), .unset] [(.int (1 : Int32))])) _
                refine XS.goto X0.here hx rfl (pc0 := 58) (pc' := 62) rfl (hb hby d2_58) (by decide) (by decide) ?_
                show Steps p.tables e below (s₁.setTop (mkF m 62 #[.val (.int p0), .val (.int (p0 ||| (32 : Int32))), .val (.int (0 : Int32)), .val (.long ((p0.toInt64) - (48 : Int64))), .second, .val (.int (0 : Int32)), .unset] [(.int (1 : Int32))])) _
                refine XS.istore X0.here hx rfl (hb hby d2_62) rfl (l' := #[.val (.int p0), .val (.int (p0 ||| (32 : Int32))), .val (.int (0 : Int32)), .val (.long ((p0.toInt64) - (48 : Int64))), .second, .val (.int (0 : Int32)), .val (.int (1 : Int32))]) rfl ?_
                show Steps p.tables e below (s₁.setTop (mkF m 64 #[.val (.int p0), .val (.int (p0 ||| (32 : Int32))), .val (.int (0 : Int32)), .val (.long ((p0.toInt64) - (48 : Int64))), .second, .val (.int (0 : Int32)), .val (.int (1 : Int32))] [])) _
                refine XS.iloadN X0.here hx rfl (hb hby d2_64) rfl ?_
                show Steps p.tables e below (s₁.setTop (mkF m 65 #[.val (.int p0), .val (.int (p0 ||| (32 : Int32))), .val (.int (0 : Int32)), .val (.long ((p0.toInt64) - (48 : Int64))), .second, .val (.int (0 : Int32)), .val (.int (1 : Int32))] [(.int (0 : Int32))])) _
                refine XS.ifNo X0.here hx rfl (hb hby d2_65) rfl ((if0 _ _).trans (teq (show (0 : Int32) = (0 : Int32) from by decide)).2) ?_
                show Steps p.tables e below (s₁.setTop (mkF m 68 #[.val (.int p0), .val (.int (p0 ||| (32 : Int32))), .val (.int (0 : Int32)), .val (.long ((p0.toInt64) - (48 : Int64))), .second, .val (.int (0 : Int32)), .val (.int (1 : Int32))] [])) _
                refine XS.iload X0.here hx rfl (hb hby d2_68) rfl ?_
                show Steps p.tables e below (s₁.setTop (mkF m 70 #[.val (.int p0), .val (.int (p0 ||| (32 : Int32))), .val (.int (0 : Int32)), .val (.long ((p0.toInt64) - (48 : Int64))), .second, .val (.int (0 : Int32)), .val (.int (1 : Int32))] [(.int (0 : Int32))])) _
                refine XS.ifNo X0.here hx rfl (hb hby d2_70) rfl ((if0 _ _).trans (teq (show (0 : Int32) = (0 : Int32) from by decide)).2) ?_
                show Steps p.tables e below (s₁.setTop (mkF m 73 #[.val (.int p0), .val (.int (p0 ||| (32 : Int32))), .val (.int (0 : Int32)), .val (.long ((p0.toInt64) - (48 : Int64))), .second, .val (.int (0 : Int32)), .val (.int (1 : Int32))] [])) _
                refine XS.iload X0.here hx rfl (hb hby d2_73) rfl ?_
                show Steps p.tables e below (s₁.setTop (mkF m 75 #[.val (.int p0), .val (.int (p0 ||| (32 : Int32))), .val (.int (0 : Int32)), .val (.long ((p0.toInt64) - (48 : Int64))), .second, .val (.int (0 : Int32)), .val (.int (1 : Int32))] [(.int (1 : Int32))])) _
                refine XS.ifNo X0.here hx rfl (hb hby d2_75) rfl ((if0 _ _).trans (feq (show ¬ ((1 : Int32) = (0 : Int32)) from by decide)).1) ?_
                show Steps p.tables e below (s₁.setTop (mkF m 78 #[.val (.int p0), .val (.int (p0 ||| (32 : Int32))), .val (.int (0 : Int32)), .val (.long ((p0.toInt64) - (48 : Int64))), .second, .val (.int (0 : Int32)), .val (.int (1 : Int32))] [])) _
                refine XS.iconst X0.here hx rfl (hb hby d2_78) ?_
                show Steps p.tables e below (s₁.setTop (mkF m 79 #[.val (.int p0), .val (.int (p0 ||| (32 : Int32))), .val (.int (0 : Int32)), .val (.long ((p0.toInt64) - (48 : Int64))), .second, .val (.int (0 : Int32)), .val (.int (1 : Int32))] [(.int (1 : Int32))])) _
                refine XS.goto X0.here hx rfl (pc0 := 79) (pc' := 83) rfl (hb hby d2_79) (by decide) (by decide) ?_
                exact k
              refine hG (own_fin X0 hlk (some (.int (nar .boolean (1 : Int32)))) (own_hv Bd.returns) ?_ (by decide) (by decide) (fun fs hr => r102 _ (retN X0 hx (t := .boolean) Bd.returns (by simp) (hb hby d2_83) hr)))
              rw [e0]
              refine ⟨?_, N0, rfl⟩
              have ev : (own_exp p0) = (1 : Int32) := by unfold own_exp; rw [if_neg hc69, if_pos hc87, if_neg hc89, if_neg hc95, if_pos hc101]
              rw [ev]
              rfl
            · have r103 : own_R p.tables e below F0 (s₁.setTop (mkF m 83 #[.val (.int p0), .val (.int (p0 ||| (32 : Int32))), .val (.int (0 : Int32)), .val (.long ((p0.toInt64) - (48 : Int64))), .second, .val (.int (0 : Int32)), .val (.int (0 : Int32))] [(.int (0 : Int32))])) := fun t k => by
                refine r100 t ?_
                show Steps p.tables e below (s₁.setTop (mkF m 54 #[.val (.int p0), .val (.int (p0 ||| (32 : Int32))), .val (.int (0 : Int32)), .val (.long ((p0.toInt64) - (48 : Int64))), .second, .val (.int (0 : Int32)), .unset] [(.int (95 : Int32)), (.int p0)])) _
                refine XS.icmpYes X0.here hx rfl (pc0 := 54) (pc' := 61) rfl (hb hby d2_54) rfl (feq hc101).2 (by decide) (by decide) ?_
                show Steps p.tables e below (s₁.setTop (mkF m 61 #[.val (.int p0), .val (.int (p0 ||| (32 : Int32))), .val (.int (0 : Int32)), .val (.long ((p0.toInt64) - (48 : Int64))), .second, .val (.int (0 : Int32)), .unset] [])) _
                refine XS.iconst X0.here hx rfl (hb hby d2_61) ?_
                show Steps p.tables e below (s₁.setTop (mkF m 62 #[.val (.int p0), .val (.int (p0 ||| (32 : Int32))), .val (.int (0 : Int32)), .val (.long ((p0.toInt64) - (48 : Int64))), .second, .val (.int (0 : Int32)), .unset] [(.int (0 : Int32))])) _
                refine XS.istore X0.here hx rfl (hb hby d2_62) rfl (l' := #[.val (.int p0), .val (.int (p0 ||| (32 : Int32))), .val (.int (0 : Int32)), .val (.long ((p0.toInt64) - (48 : Int64))), .second, .val (.int (0 : Int32)), .val (.int (0 : Int32))]) rfl ?_
                show Steps p.tables e below (s₁.setTop (mkF m 64 #[.val (.int p0), .val (.int (p0 ||| (32 : Int32))), .val (.int (0 : Int32)), .val (.long ((p0.toInt64) - (48 : Int64))), .second, .val (.int (0 : Int32)), .val (.int (0 : Int32))] [])) _
                refine XS.iloadN X0.here hx rfl (hb hby d2_64) rfl ?_
                show Steps p.tables e below (s₁.setTop (mkF m 65 #[.val (.int p0), .val (.int (p0 ||| (32 : Int32))), .val (.int (0 : Int32)), .val (.long ((p0.toInt64) - (48 : Int64))), .second, .val (.int (0 : Int32)), .val (.int (0 : Int32))] [(.int (0 : Int32))])) _
                refine XS.ifNo X0.here hx rfl (hb hby d2_65) rfl ((if0 _ _).trans (teq (show (0 : Int32) = (0 : Int32) from by decide)).2) ?_
                show Steps p.tables e below (s₁.setTop (mkF m 68 #[.val (.int p0), .val (.int (p0 ||| (32 : Int32))), .val (.int (0 : Int32)), .val (.long ((p0.toInt64) - (48 : Int64))), .second, .val (.int (0 : Int32)), .val (.int (0 : Int32))] [])) _
                refine XS.iload X0.here hx rfl (hb hby d2_68) rfl ?_
                show Steps p.tables e below (s₁.setTop (mkF m 70 #[.val (.int p0), .val (.int (p0 ||| (32 : Int32))), .val (.int (0 : Int32)), .val (.long ((p0.toInt64) - (48 : Int64))), .second, .val (.int (0 : Int32)), .val (.int (0 : Int32))] [(.int (0 : Int32))])) _
                refine XS.ifNo X0.here hx rfl (hb hby d2_70) rfl ((if0 _ _).trans (teq (show (0 : Int32) = (0 : Int32) from by decide)).2) ?_
                show Steps p.tables e below (s₁.setTop (mkF m 73 #[.val (.int p0), .val (.int (p0 ||| (32 : Int32))), .val (.int (0 : Int32)), .val (.long ((p0.toInt64) - (48 : Int64))), .second, .val (.int (0 : Int32)), .val (.int (0 : Int32))] [])) _
                refine XS.iload X0.here hx rfl (hb hby d2_73) rfl ?_
                show Steps p.tables e below (s₁.setTop (mkF m 75 #[.val (.int p0), .val (.int (p0 ||| (32 : Int32))), .val (.int (0 : Int32)), .val (.long ((p0.toInt64) - (48 : Int64))), .second, .val (.int (0 : Int32)), .val (.int (0 : Int32))] [(.int (0 : Int32))])) _
                refine XS.ifYes X0.here hx rfl (pc0 := 75) (pc' := 82) rfl (hb hby d2_75) rfl ((if0 _ _).trans (teq (show (0 : Int32) = (0 : Int32) from by decide)).1) (by decide) (by decide) ?_
                show Steps p.tables e below (s₁.setTop (mkF m 82 #[.val (.int p0), .val (.int (p0 ||| (32 : Int32))), .val (.int (0 : Int32)), .val (.long ((p0.toInt64) - (48 : Int64))), .second, .val (.int (0 : Int32)), .val (.int (0 : Int32))] [])) _
                refine XS.iconst X0.here hx rfl (hb hby d2_82) ?_
                exact k
              refine hG (own_fin X0 hlk (some (.int (nar .boolean (0 : Int32)))) (own_hv Bd.returns) ?_ (by decide) (by decide) (fun fs hr => r103 _ (retN X0 hx (t := .boolean) Bd.returns (by simp) (hb hby d2_83) hr)))
              rw [e0]
              refine ⟨?_, N0, rfl⟩
              have ev : (own_exp p0) = (0 : Int32) := by unfold own_exp; rw [if_neg hc69, if_pos hc87, if_neg hc89, if_neg hc95, if_neg hc101]
              rw [ev]
              rfl
      · have r104 : own_R p.tables e below F0 (s₁.setTop (mkF m 33 #[.val (.int p0), .val (.int (p0 ||| (32 : Int32))), .val (.int (1 : Int32)), .val (.long ((p0.toInt64) - (48 : Int64))), .second, .unset, .unset] [(.int (lcmpW ((p0.toInt64) - (48 : Int64)) (0 : Int64)))])) := fun t k => by
          refine r86 t ?_
          show Steps p.tables e below (s₁.setTop (mkF m 14 #[.val (.int p0), .val (.int (p0 ||| (32 : Int32))), .unset, .unset, .unset, .unset, .unset] [(.int (122 : Int32)), (.int (p0 ||| (32 : Int32)))])) _
          refine XS.icmpNo X0.here hx rfl (hb hby d2_14) rfl (flt hc87).2.2.1 ?_
          show Steps p.tables e below (s₁.setTop (mkF m 17 #[.val (.int p0), .val (.int (p0 ||| (32 : Int32))), .unset, .unset, .unset, .unset, .unset] [])) _
          refine XS.iconst X0.here hx rfl (hb hby d2_17) ?_
          show Steps p.tables e below (s₁.setTop (mkF m 18 #[.val (.int p0), .val (.int (p0 ||| (32 : Int32))), .unset, .unset, .unset, .unset, .unset] [(.int (1 : Int32))])) _
          refine XS.goto X0.here hx rfl (pc0 := 18) (pc' := 22) rfl (hb hby d2_18) (by decide) (by decide) ?_
          show Steps p.tables e below (s₁.setTop (mkF m 22 #[.val (.int p0), .val (.int (p0 ||| (32 : Int32))), .unset, .unset, .unset, .unset, .unset] [(.int (1 : Int32))])) _
          refine XS.istoreN X0.here hx rfl (hb hby d2_22) rfl (l' := #[.val (.int p0), .val (.int (p0 ||| (32 : Int32))), .val (.int (1 : Int32)), .unset, .unset, .unset, .unset]) rfl ?_
          show Steps p.tables e below (s₁.setTop (mkF m 23 #[.val (.int p0), .val (.int (p0 ||| (32 : Int32))), .val (.int (1 : Int32)), .unset, .unset, .unset, .unset] [])) _
          refine XS.iloadN X0.here hx rfl (hb hby d2_23) rfl ?_
          show Steps p.tables e below (s₁.setTop (mkF m 24 #[.val (.int p0), .val (.int (p0 ||| (32 : Int32))), .val (.int (1 : Int32)), .unset, .unset, .unset, .unset] [(.int p0)])) _
          refine XS.i2l X0.here hx rfl (hb hby d2_24) rfl ?_
          show Steps p.tables e below (s₁.setTop (mkF m 25 #[.val (.int p0), .val (.int (p0 ||| (32 : Int32))), .val (.int (1 : Int32)), .unset, .unset, .unset, .unset] [(.long (p0.toInt64))])) _
          refine X0.ldc2J hx hown (mvT hZ (hw _ (List.mem_of_getElem? (i := 8) rfl))) rfl (hb hby d2_25) ?_
          show Steps p.tables e below (s₁.setTop (mkF m 28 #[.val (.int p0), .val (.int (p0 ||| (32 : Int32))), .val (.int (1 : Int32)), .unset, .unset, .unset, .unset] [(.long (48 : Int64)), (.long (p0.toInt64))])) _
          refine XS.lsub X0.here hx rfl (hb hby d2_28) rfl ?_
          show Steps p.tables e below (s₁.setTop (mkF m 29 #[.val (.int p0), .val (.int (p0 ||| (32 : Int32))), .val (.int (1 : Int32)), .unset, .unset, .unset, .unset] [(.long ((p0.toInt64) - (48 : Int64)))])) _
          refine XS.lstoreN X0.here hx rfl (hb hby d2_29) rfl (l' := #[.val (.int p0), .val (.int (p0 ||| (32 : Int32))), .val (.int (1 : Int32)), .val (.long ((p0.toInt64) - (48 : Int64))), .second, .unset, .unset]) rfl ?_
          show Steps p.tables e below (s₁.setTop (mkF m 30 #[.val (.int p0), .val (.int (p0 ||| (32 : Int32))), .val (.int (1 : Int32)), .val (.long ((p0.toInt64) - (48 : Int64))), .second, .unset, .unset] [])) _
          refine XS.lloadN X0.here hx rfl (hb hby d2_30) rfl ?_
          show Steps p.tables e below (s₁.setTop (mkF m 31 #[.val (.int p0), .val (.int (p0 ||| (32 : Int32))), .val (.int (1 : Int32)), .val (.long ((p0.toInt64) - (48 : Int64))), .second, .unset, .unset] [(.long ((p0.toInt64) - (48 : Int64)))])) _
          refine XS.lconst X0.here hx rfl (hb hby d2_31) ?_
          show Steps p.tables e below (s₁.setTop (mkF m 32 #[.val (.int p0), .val (.int (p0 ||| (32 : Int32))), .val (.int (1 : Int32)), .val (.long ((p0.toInt64) - (48 : Int64))), .second, .unset, .unset] [(.long (0 : Int64)), (.long ((p0.toInt64) - (48 : Int64)))])) _
          refine XS.lcmp X0.here hx rfl (hb hby d2_32) rfl ?_
          exact k
        by_cases hc105 : ((p0.toInt64) - (48 : Int64)) < (0 : Int64)
        · have r106 : own_R p.tables e below F0 (s₁.setTop (mkF m 54 #[.val (.int p0), .val (.int (p0 ||| (32 : Int32))), .val (.int (1 : Int32)), .val (.long ((p0.toInt64) - (48 : Int64))), .second, .val (.int (0 : Int32)), .unset] [(.int (95 : Int32)), (.int p0)])) := fun t k => by
            refine r104 t ?_
            show Steps p.tables e below (s₁.setTop (mkF m 33 #[.val (.int p0), .val (.int (p0 ||| (32 : Int32))), .val (.int (1 : Int32)), .val (.long ((p0.toInt64) - (48 : Int64))), .second, .unset, .unset] [(.int (lcmpW ((p0.toInt64) - (48 : Int64)) (0 : Int64)))])) _
            refine XS.ifYes X0.here hx rfl (pc0 := 33) (pc' := 48) rfl (hb hby d2_33) rfl (own_l_lt hc105).1 (by decide) (by decide) ?_
            show Steps p.tables e below (s₁.setTop (mkF m 48 #[.val (.int p0), .val (.int (p0 ||| (32 : Int32))), .val (.int (1 : Int32)), .val (.long ((p0.toInt64) - (48 : Int64))), .second, .unset, .unset] [])) _
            refine XS.iconst X0.here hx rfl (hb hby d2_48) ?_
            show Steps p.tables e below (s₁.setTop (mkF m 49 #[.val (.int p0), .val (.int (p0 ||| (32 : Int32))), .val (.int (1 : Int32)), .val (.long ((p0.toInt64) - (48 : Int64))), .second, .unset, .unset] [(.int (0 : Int32))])) _
            refine XS.istore X0.here hx rfl (hb hby d2_49) rfl (l' := #[.val (.int p0), .val (.int (p0 ||| (32 : Int32))), .val (.int (1 : Int32)), .val (.long ((p0.toInt64) - (48 : Int64))), .second, .val (.int (0 : Int32)), .unset]) rfl ?_
            show Steps p.tables e below (s₁.setTop (mkF m 51 #[.val (.int p0), .val (.int (p0 ||| (32 : Int32))), .val (.int (1 : Int32)), .val (.long ((p0.toInt64) - (48 : Int64))), .second, .val (.int (0 : Int32)), .unset] [])) _
            refine XS.iloadN X0.here hx rfl (hb hby d2_51) rfl ?_
            show Steps p.tables e below (s₁.setTop (mkF m 52 #[.val (.int p0), .val (.int (p0 ||| (32 : Int32))), .val (.int (1 : Int32)), .val (.long ((p0.toInt64) - (48 : Int64))), .second, .val (.int (0 : Int32)), .unset] [(.int p0)])) _
            refine XS.bipush X0.here hx rfl (hb hby d2_52) ?_
            exact k
          by_cases hc107 : p0 = (95 : Int32)
          · have r108 : own_R p.tables e below F0 (s₁.setTop (mkF m 83 #[.val (.int p0), .val (.int (p0 ||| (32 : Int32))), .val (.int (1 : Int32)), .val (.long ((p0.toInt64) - (48 : Int64))), .second, .val (.int (0 : Int32)), .val (.int (1 : Int32))] [(.int (1 : Int32))])) := fun t k => by
              refine r106 t ?_
              show Steps p.tables e below (s₁.setTop (mkF m 54 #[.val (.int p0), .val (.int (p0 ||| (32 : Int32))), .val (.int (1 : Int32)), .val (.long ((p0.toInt64) - (48 : Int64))), .second, .val (.int (0 : Int32)), .unset] [(.int (95 : Int32)), (.int p0)])) _
              refine XS.icmpNo X0.here hx rfl (hb hby d2_54) rfl (teq hc107).2 ?_
              show Steps p.tables e below (s₁.setTop (mkF m 57 #[.val (.int p0), .val (.int (p0 ||| (32 : Int32))), .val (.int (1 : Int32)), .val (.long ((p0.toInt64) - (48 : Int64))), .second, .val (.int (0 : Int32)), .unset] [])) _
              refine XS.iconst X0.here hx rfl (hb hby d2_57) ?_
              show Steps p.tables e below (s₁.setTop (mkF m 58 #[.val (.int p0), .val (.int (p0 ||| (32 : Int32))), .val (.int (1 : Int32)), .val (.long ((p0.toInt64) - (48 : Int64))), .second, .val (.int (0 : Int32)), .unset] [(.int (1 : Int32))])) _
              refine XS.goto X0.here hx rfl (pc0 := 58) (pc' := 62) rfl (hb hby d2_58) (by decide) (by decide) ?_
              show Steps p.tables e below (s₁.setTop (mkF m 62 #[.val (.int p0), .val (.int (p0 ||| (32 : Int32))), .val (.int (1 : Int32)), .val (.long ((p0.toInt64) - (48 : Int64))), .second, .val (.int (0 : Int32)), .unset] [(.int (1 : Int32))])) _
              refine XS.istore X0.here hx rfl (hb hby d2_62) rfl (l' := #[.val (.int p0), .val (.int (p0 ||| (32 : Int32))), .val (.int (1 : Int32)), .val (.long ((p0.toInt64) - (48 : Int64))), .second, .val (.int (0 : Int32)), .val (.int (1 : Int32))]) rfl ?_
              show Steps p.tables e below (s₁.setTop (mkF m 64 #[.val (.int p0), .val (.int (p0 ||| (32 : Int32))), .val (.int (1 : Int32)), .val (.long ((p0.toInt64) - (48 : Int64))), .second, .val (.int (0 : Int32)), .val (.int (1 : Int32))] [])) _
              refine XS.iloadN X0.here hx rfl (hb hby d2_64) rfl ?_
              show Steps p.tables e below (s₁.setTop (mkF m 65 #[.val (.int p0), .val (.int (p0 ||| (32 : Int32))), .val (.int (1 : Int32)), .val (.long ((p0.toInt64) - (48 : Int64))), .second, .val (.int (0 : Int32)), .val (.int (1 : Int32))] [(.int (1 : Int32))])) _
              refine XS.ifYes X0.here hx rfl (pc0 := 65) (pc' := 78) rfl (hb hby d2_65) rfl ((if0 _ _).trans (feq (show ¬ ((1 : Int32) = (0 : Int32)) from by decide)).2) (by decide) (by decide) ?_
              show Steps p.tables e below (s₁.setTop (mkF m 78 #[.val (.int p0), .val (.int (p0 ||| (32 : Int32))), .val (.int (1 : Int32)), .val (.long ((p0.toInt64) - (48 : Int64))), .second, .val (.int (0 : Int32)), .val (.int (1 : Int32))] [])) _
              refine XS.iconst X0.here hx rfl (hb hby d2_78) ?_
              show Steps p.tables e below (s₁.setTop (mkF m 79 #[.val (.int p0), .val (.int (p0 ||| (32 : Int32))), .val (.int (1 : Int32)), .val (.long ((p0.toInt64) - (48 : Int64))), .second, .val (.int (0 : Int32)), .val (.int (1 : Int32))] [(.int (1 : Int32))])) _
              refine XS.goto X0.here hx rfl (pc0 := 79) (pc' := 83) rfl (hb hby d2_79) (by decide) (by decide) ?_
              exact k
            refine hG (own_fin X0 hlk (some (.int (nar .boolean (1 : Int32)))) (own_hv Bd.returns) ?_ (by decide) (by decide) (fun fs hr => r108 _ (retN X0 hx (t := .boolean) Bd.returns (by simp) (hb hby d2_83) hr)))
            rw [e0]
            refine ⟨?_, N0, rfl⟩
            have ev : (own_exp p0) = (1 : Int32) := by unfold own_exp; rw [if_neg hc69, if_neg hc87, if_pos hc105, if_pos hc107]
            rw [ev]
            rfl
          · have r109 : own_R p.tables e below F0 (s₁.setTop (mkF m 83 #[.val (.int p0), .val (.int (p0 ||| (32 : Int32))), .val (.int (1 : Int32)), .val (.long ((p0.toInt64) - (48 : Int64))), .second, .val (.int (0 : Int32)), .val (.int (0 : Int32))] [(.int (1 : Int32))])) := fun t k => by
              refine r106 t ?_
              show Steps p.tables e below (s₁.setTop (mkF m 54 #[.val (.int p0), .val (.int (p0 ||| (32 : Int32))), .val (.int (1 : Int32)), .val (.long ((p0.toInt64) - (48 : Int64))), .second, .val (.int (0 : Int32)), .unset] [(.int (95 : Int32)), (.int p0)])) _
              refine XS.icmpYes X0.here hx rfl (pc0 := 54) (pc' := 61) rfl (hb hby d2_54) rfl (feq hc107).2 (by decide) (by decide) ?_
              show Steps p.tables e below (s₁.setTop (mkF m 61 #[.val (.int p0), .val (.int (p0 ||| (32 : Int32))), .val (.int (1 : Int32)), .val (.long ((p0.toInt64) - (48 : Int64))), .second, .val (.int (0 : Int32)), .unset] [])) _
              refine XS.iconst X0.here hx rfl (hb hby d2_61) ?_
              show Steps p.tables e below (s₁.setTop (mkF m 62 #[.val (.int p0), .val (.int (p0 ||| (32 : Int32))), .val (.int (1 : Int32)), .val (.long ((p0.toInt64) - (48 : Int64))), .second, .val (.int (0 : Int32)), .unset] [(.int (0 : Int32))])) _
              refine XS.istore X0.here hx rfl (hb hby d2_62) rfl (l' := #[.val (.int p0), .val (.int (p0 ||| (32 : Int32))), .val (.int (1 : Int32)), .val (.long ((p0.toInt64) - (48 : Int64))), .second, .val (.int (0 : Int32)), .val (.int (0 : Int32))]) rfl ?_
              show Steps p.tables e below (s₁.setTop (mkF m 64 #[.val (.int p0), .val (.int (p0 ||| (32 : Int32))), .val (.int (1 : Int32)), .val (.long ((p0.toInt64) - (48 : Int64))), .second, .val (.int (0 : Int32)), .val (.int (0 : Int32))] [])) _
              refine XS.iloadN X0.here hx rfl (hb hby d2_64) rfl ?_
              show Steps p.tables e below (s₁.setTop (mkF m 65 #[.val (.int p0), .val (.int (p0 ||| (32 : Int32))), .val (.int (1 : Int32)), .val (.long ((p0.toInt64) - (48 : Int64))), .second, .val (.int (0 : Int32)), .val (.int (0 : Int32))] [(.int (1 : Int32))])) _
              refine XS.ifYes X0.here hx rfl (pc0 := 65) (pc' := 78) rfl (hb hby d2_65) rfl ((if0 _ _).trans (feq (show ¬ ((1 : Int32) = (0 : Int32)) from by decide)).2) (by decide) (by decide) ?_
              show Steps p.tables e below (s₁.setTop (mkF m 78 #[.val (.int p0), .val (.int (p0 ||| (32 : Int32))), .val (.int (1 : Int32)), .val (.long ((p0.toInt64) - (48 : Int64))), .second, .val (.int (0 : Int32)), .val (.int (0 : Int32))] [])) _
              refine XS.iconst X0.here hx rfl (hb hby d2_78) ?_
              show Steps p.tables e below (s₁.setTop (mkF m 79 #[.val (.int p0), .val (.int (p0 ||| (32 : Int32))), .val (.int (1 : Int32)), .val (.long ((p0.toInt64) - (48 : Int64))), .second, .val (.int (0 : Int32)), .val (.int (0 : Int32))] [(.int (1 : Int32))])) _
              refine XS.goto X0.here hx rfl (pc0 := 79) (pc' := 83) rfl (hb hby d2_79) (by decide) (by decide) ?_
              exact k
            refine hG (own_fin X0 hlk (some (.int (nar .boolean (1 : Int32)))) (own_hv Bd.returns) ?_ (by decide) (by decide) (fun fs hr => r109 _ (retN X0 hx (t := .boolean) Bd.returns (by simp) (hb hby d2_83) hr)))
            rw [e0]
            refine ⟨?_, N0, rfl⟩
            have ev : (own_exp p0) = (1 : Int32) := by unfold own_exp; rw [if_neg hc69, if_neg hc87, if_pos hc105, if_neg hc107]
            rw [ev]
            rfl
        · have r110 : own_R p.tables e below F0 (s₁.setTop (mkF m 41 #[.val (.int p0), .val (.int (p0 ||| (32 : Int32))), .val (.int (1 : Int32)), .val (.long ((p0.toInt64) - (48 : Int64))), .second, .unset, .unset] [(.int (lcmpW ((p0.toInt64) - (48 : Int64)) (10 : Int64)))])) := fun t k => by
            refine r104 t ?_
            show Steps p.tables e below (s₁.setTop (mkF m 33 #[.val (.int p0), .val (.int (p0 ||| (32 : Int32))), .val (.int (1 : Int32)), .val (.long ((p0.toInt64) - (48 : Int64))), .second, .unset, .unset] [(.int (lcmpW ((p0.toInt64) - (48 : Int64)) (0 : Int64)))])) _
            refine XS.ifNo X0.here hx rfl (hb hby d2_33) rfl (own_l_nlt hc105).1 ?_
            show Steps p.tables e below (s₁.setTop (mkF m 36 #[.val (.int p0), .val (.int (p0 ||| (32 : Int32))), .val (.int (1 : Int32)), .val (.long ((p0.toInt64) - (48 : Int64))), .second, .unset, .unset] [])) _
            refine XS.lloadN X0.here hx rfl (hb hby d2_36) rfl ?_
            show Steps p.tables e below (s₁.setTop (mkF m 37 #[.val (.int p0), .val (.int (p0 ||| (32 : Int32))), .val (.int (1 : Int32)), .val (.long ((p0.toInt64) - (48 : Int64))), .second, .unset, .unset] [(.long ((p0.toInt64) - (48 : Int64)))])) _
            refine X0.ldc2J hx hown (mvT hZ (hw _ (List.mem_of_getElem? (i := 9) rfl))) rfl (hb hby d2_37) ?_
            show Steps p.tables e below (s₁.setTop (mkF m 40 #[.val (.int p0), .val (.int (p0 ||| (32 : Int32))), .val (.int (1 : Int32)), .val (.long ((p0.toInt64) - (48 : Int64))), .second, .unset, .unset] [(.long (10 : Int64)), (.long ((p0.toInt64) - (48 : Int64)))])) _
            refine XS.lcmp X0.here hx rfl (hb hby d2_40) rfl ?_
            exact k
          by_cases hc111 : ((p0.toInt64) - (48 : Int64)) < (10 : Int64)
          · have r112 : own_R p.tables e below F0 (s₁.setTop (mkF m 54 #[.val (.int p0), .val (.int (p0 ||| (32 : Int32))), .val (.int (1 : Int32)), .val (.long ((p0.toInt64) - (48 : Int64))), .second, .val (.int (1 : Int32)), .unset] [(.int (95 : Int32)), (.int p0)])) := fun t k => by
              refine r110 t ?_
              show Steps p.tables e below (s₁.setTop (mkF m 41 #[.val (.int p0), .val (.int (p0 ||| (32 : Int32))), .val (.int (1 : Int32)), .val (.long ((p0.toInt64) - (48 : Int64))), .second, .unset, .unset] [(.int (lcmpW ((p0.toInt64) - (48 : Int64)) (10 : Int64)))])) _
              refine XS.ifNo X0.here hx rfl (hb hby d2_41) rfl (own_l_lt hc111).2 ?_
              show Steps p.tables e below (s₁.setTop (mkF m 44 #[.val (.int p0), .val (.int (p0 ||| (32 : Int32))), .val (.int (1 : Int32)), .val (.long ((p0.toInt64) - (48 : Int64))), .second, .unset, .unset] [])) _
              refine XS.iconst X0.here hx rfl (hb hby d2_44) ?_
              show Steps p.tables e below (s₁.setTop (mkF m 45 #[.val (.int p0), .val (.int (p0 ||| (32 : Int32))), .val (.int (1 : Int32)), .val (.long ((p0.toInt64) - (48 : Int64))), .second, .unset, .unset] [(.int (1 : Int32))])) _
              refine XS.goto X0.here hx rfl (pc0 := 45) (pc' := 49) rfl (hb hby d2_45) (by decide) (by decide) ?_
              show Steps p.tables e below (s₁.setTop (mkF m 49 #[.val (.int p0), .val (.int (p0 ||| (32 : Int32))), .val (.int (1 : Int32)), .val (.long ((p0.toInt64) - (48 : Int64))), .second, .unset, .unset] [(.int (1 : Int32))])) _
              refine XS.istore X0.here hx rfl (hb hby d2_49) rfl (l' := #[.val (.int p0), .val (.int (p0 ||| (32 : Int32))), .val (.int (1 : Int32)), .val (.long ((p0.toInt64) - (48 : Int64))), .second, .val (.int (1 : Int32)), .unset]) rfl ?_
              show Steps p.tables e below (s₁.setTop (mkF m 51 #[.val (.int p0), .val (.int (p0 ||| (32 : Int32))), .val (.int (1 : Int32)), .val (.long ((p0.toInt64) - (48 : Int64))), .second, .val (.int (1 : Int32)), .unset] [])) _
              refine XS.iloadN X0.here hx rfl (hb hby d2_51) rfl ?_
              show Steps p.tables e below (s₁.setTop (mkF m 52 #[.val (.int p0), .val (.int (p0 ||| (32 : Int32))), .val (.int (1 : Int32)), .val (.long ((p0.toInt64) - (48 : Int64))), .second, .val (.int (1 : Int32)), .unset] [(.int p0)])) _
              refine XS.bipush X0.here hx rfl (hb hby d2_52) ?_
              exact k
            by_cases hc113 : p0 = (95 : Int32)
            · have r114 : own_R p.tables e below F0 (s₁.setTop (mkF m 83 #[.val (.int p0), .val (.int (p0 ||| (32 : Int32))), .val (.int (1 : Int32)), .val (.long ((p0.toInt64) - (48 : Int64))), .second, .val (.int (1 : Int32)), .val (.int (1 : Int32))] [(.int (1 : Int32))])) := fun t k => by
                refine r112 t ?_
                show Steps p.tables e below (s₁.setTop (mkF m 54 #[.val (.int p0), .val (.int (p0 ||| (32 : Int32))), .val (.int (1 : Int32)), .val (.long ((p0.toInt64) - (48 : Int64))), .second, .val (.int (1 : Int32)), .unset] [(.int (95 : Int32)), (.int p0)])) _
                refine XS.icmpNo X0.here hx rfl (hb hby d2_54) rfl (teq hc113).2 ?_
                show Steps p.tables e below (s₁.setTop (mkF m 57 #[.val (.int p0), .val (.int (p0 ||| (32 : Int32))), .val (.int (1 : Int32)), .val (.long ((p0.toInt64) - (48 : Int64))), .second, .val (.int (1 : Int32)), .unset] [])) _
                refine XS.iconst X0.here hx rfl (hb hby d2_57) ?_
                show Steps p.tables e below (s₁.setTop (mkF m 58 #[.val (.int p0), .val (.int (p0 ||| (32 : Int32))), .val (.int (1 : Int32)), .val (.long ((p0.toInt64) - (48 : Int64))), .second, .val (.int (1 : Int32)), .unset] [(.int (1 : Int32))])) _
                refine XS.goto X0.here hx rfl (pc0 := 58) (pc' := 62) rfl (hb hby d2_58) (by decide) (by decide) ?_
                show Steps p.tables e below (s₁.setTop (mkF m 62 #[.val (.int p0), .val (.int (p0 ||| (32 : Int32))), .val (.int (1 : Int32)), .val (.long ((p0.toInt64) - (48 : Int64))), .second, .val (.int (1 : Int32)), .unset] [(.int (1 : Int32))])) _
                refine XS.istore X0.here hx rfl (hb hby d2_62) rfl (l' := #[.val (.int p0), .val (.int (p0 ||| (32 : Int32))), .val (.int (1 : Int32)), .val (.long ((p0.toInt64) - (48 : Int64))), .second, .val (.int (1 : Int32)), .val (.int (1 : Int32))]) rfl ?_
                show Steps p.tables e below (s₁.setTop (mkF m 64 #[.val (.int p0), .val (.int (p0 ||| (32 : Int32))), .val (.int (1 : Int32)), .val (.long ((p0.toInt64) - (48 : Int64))), .second, .val (.int (1 : Int32)), .val (.int (1 : Int32))] [])) _
                refine XS.iloadN X0.here hx rfl (hb hby d2_64) rfl ?_
                show Steps p.tables e below (s₁.setTop (mkF m 65 #[.val (.int p0), .val (.int (p0 ||| (32 : Int32))), .val (.int (1 : Int32)), .val (.long ((p0.toInt64) - (48 : Int64))), .second, .val (.int (1 : Int32)), .val (.int (1 : Int32))] [(.int (1 : Int32))])) _
                refine XS.ifYes X0.here hx rfl (pc0 := 65) (pc' := 78) rfl (hb hby d2_65) rfl ((if0 _ _).trans (feq (show ¬ ((1 : Int32) = (0 : Int32)) from by decide)).2) (by decide) (by decide) ?_
                show Steps p.tables e below (s₁.setTop (mkF m 78 #[.val (.int p0), .val (.int (p0 ||| (32 : Int32))), .val (.int (1 : Int32)), .val (.long ((p0.toInt64) - (48 : Int64))), .second, .val (.int (1 : Int32)), .val (.int (1 : Int32))] [])) _
                refine XS.iconst X0.here hx rfl (hb hby d2_78) ?_
                show Steps p.tables e below (s₁.setTop (mkF m 79 #[.val (.int p0), .val (.int (p0 ||| (32 : Int32))), .val (.int (1 : Int32)), .val (.long ((p0.toInt64) - (48 : Int64))), .second, .val (.int (1 : Int32)), .val (.int (1 : Int32))] [(.int (1 : Int32))])) _
                refine XS.goto X0.here hx rfl (pc0 := 79) (pc' := 83) rfl (hb hby d2_79) (by decide) (by decide) ?_
                exact k
              refine hG (own_fin X0 hlk (some (.int (nar .boolean (1 : Int32)))) (own_hv Bd.returns) ?_ (by decide) (by decide) (fun fs hr => r114 _ (retN X0 hx (t := .boolean) Bd.returns (by simp) (hb hby d2_83) hr)))
              rw [e0]
              refine ⟨?_, N0, rfl⟩
              have ev : (own_exp p0) = (1 : Int32) := by unfold own_exp; rw [if_neg hc69, if_neg hc87, if_neg hc105, if_pos hc111, if_pos hc113]
              rw [ev]
              rfl
            · have r115 : own_R p.tables e below F0 (s₁.setTop (mkF m 83 #[.val (.int p0), .val (.int (p0 ||| (32 : Int32))), .val (.int (1 : Int32)), .val (.long ((p0.toInt64) - (48 : Int64))), .second, .val (.int (1 : Int32)), .val (.int (0 : Int32))] [(.int (1 : Int32))])) := fun t k => by
                refine r112 t ?_
                show Steps p.tables e below (s₁.setTop (mkF m 54 #[.val (.int p0), .val (.int (p0 ||| (32 : Int32))), .val (.int (1 : Int32)), .val (.long ((p0.toInt64) - (48 : Int64))), .second, .val (.int (1 : Int32)), .unset] [(.int (95 : Int32)), (.int p0)])) _
                refine XS.icmpYes X0.here hx rfl (pc0 := 54) (pc' := 61) rfl (hb hby d2_54) rfl (feq hc113).2 (by decide) (by decide) ?_
                show Steps p.tables e below (s₁.setTop (mkF m 61 #[.val (.int p0), .val (.int (p0 ||| (32 : Int32))), .val (.int (1 : Int32)), .val (.long ((p0.toInt64) - (48 : Int64))), .second, .val (.int (1 : Int32)), .unset] [])) _
                refine XS.iconst X0.here hx rfl (hb hby d2_61) ?_
                show Steps p.tables e below (s₁.setTop (mkF m 62 #[.val (.int p0), .val (.int (p0 ||| (32 : Int32))), .val (.int (1 : Int32)), .val (.long ((p0.toInt64) - (48 : Int64))), .second, .val (.int (1 : Int32)), .unset] [(.int (0 : Int32))])) _
                refine XS.istore X0.here hx rfl (hb hby d2_62) rfl (l' := #[.val (.int p0), .val (.int (p0 ||| (32 : Int32))), .val (.int (1 : Int32)), .val (.long ((p0.toInt64) - (48 : Int64))), .second, .val (.int (1 : Int32)), .val (.int (0 : Int32))]) rfl ?_
                show Steps p.tables e below (s₁.setTop (mkF m 64 #[.val (.int p0), .val (.int (p0 ||| (32 : Int32))), .val (.int (1 : Int32)), .val (.long ((p0.toInt64) - (48 : Int64))), .second, .val (.int (1 : Int32)), .val (.int (0 : Int32))] [])) _
                refine XS.iloadN X0.here hx rfl (hb hby d2_64) rfl ?_
                show Steps p.tables e below (s₁.setTop (mkF m 65 #[.val (.int p0), .val (.int (p0 ||| (32 : Int32))), .val (.int (1 : Int32)), .val (.long ((p0.toInt64) - (48 : Int64))), .second, .val (.int (1 : Int32)), .val (.int (0 : Int32))] [(.int (1 : Int32))])) _
                refine XS.ifYes X0.here hx rfl (pc0 := 65) (pc' := 78) rfl (hb hby d2_65) rfl ((if0 _ _).trans (feq (show ¬ ((1 : Int32) = (0 : Int32)) from by decide)).2) (by decide) (by decide) ?_
                show Steps p.tables e below (s₁.setTop (mkF m 78 #[.val (.int p0), .val (.int (p0 ||| (32 : Int32))), .val (.int (1 : Int32)), .val (.long ((p0.toInt64) - (48 : Int64))), .second, .val (.int (1 : Int32)), .val (.int (0 : Int32))] [])) _
                refine XS.iconst X0.here hx rfl (hb hby d2_78) ?_
                show Steps p.tables e below (s₁.setTop (mkF m 79 #[.val (.int p0), .val (.int (p0 ||| (32 : Int32))), .val (.int (1 : Int32)), .val (.long ((p0.toInt64) - (48 : Int64))), .second, .val (.int (1 : Int32)), .val (.int (0 : Int32))] [(.int (1 : Int32))])) _
                refine XS.goto X0.here hx rfl (pc0 := 79) (pc' := 83) rfl (hb hby d2_79) (by decide) (by decide) ?_
                exact k
              refine hG (own_fin X0 hlk (some (.int (nar .boolean (1 : Int32)))) (own_hv Bd.returns) ?_ (by decide) (by decide) (fun fs hr => r115 _ (retN X0 hx (t := .boolean) Bd.returns (by simp) (hb hby d2_83) hr)))
              rw [e0]
              refine ⟨?_, N0, rfl⟩
              have ev : (own_exp p0) = (1 : Int32) := by unfold own_exp; rw [if_neg hc69, if_neg hc87, if_neg hc105, if_pos hc111, if_neg hc113]
              rw [ev]
              rfl
          · have r116 : own_R p.tables e below F0 (s₁.setTop (mkF m 54 #[.val (.int p0), .val (.int (p0 ||| (32 : Int32))), .val (.int (1 : Int32)), .val (.long ((p0.toInt64) - (48 : Int64))), .second, .val (.int (0 : Int32)), .unset] [(.int (95 : Int32)), (.int p0)])) := fun t k => by
              refine r110 t ?_
              show Steps p.tables e below (s₁.setTop (mkF m 41 #[.val (.int p0), .val (.int (p0 ||| (32 : Int32))), .val (.int (1 : Int32)), .val (.long ((p0.toInt64) - (48 : Int64))), .second, .unset, .unset] [(.int (lcmpW ((p0.toInt64) - (48 : Int64)) (10 : Int64)))])) _
              refine XS.ifYes X0.here hx rfl (pc0 := 41) (pc' := 48) rfl (hb hby d2_41) rfl (own_l_nlt hc111).2 (by decide) (by decide) ?_
              show Steps p.tables e below (s₁.setTop (mkF m 48 #[.val (.int p0), .val (.int (p0 ||| (32 : Int32))), .val (.int (1 : Int32)), .val (.long ((p0.toInt64) - (48 : Int64))), .second, .unset, .unset] [])) _
              refine XS.iconst X0.here hx rfl (hb hby d2_48) ?_
              show Steps p.tables e below (s₁.setTop (mkF m 49 #[.val (.int p0), .val (.int (p0 ||| (32 : Int32))), .val (.int (1 : Int32)), .val (.long ((p0.toInt64) - (48 : Int64))), .second, .unset, .unset] [(.int (0 : Int32))])) _
              refine XS.istore X0.here hx rfl (hb hby d2_49) rfl (l' := #[.val (.int p0), .val (.int (p0 ||| (32 : Int32))), .val (.int (1 : Int32)), .val (.long ((p0.toInt64) - (48 : Int64))), .second, .val (.int (0 : Int32)), .unset]) rfl ?_
              show Steps p.tables e below (s₁.setTop (mkF m 51 #[.val (.int p0), .val (.int (p0 ||| (32 : Int32))), .val (.int (1 : Int32)), .val (.long ((p0.toInt64) - (48 : Int64))), .second, .val (.int (0 : Int32)), .unset] [])) _
              refine XS.iloadN X0.here hx rfl (hb hby d2_51) rfl ?_
              show Steps p.tables e below (s₁.setTop (mkF m 52 #[.val (.int p0), .val (.int (p0 ||| (32 : Int32))), .val (.int (1 : Int32)), .val (.long ((p0.toInt64) - (48 : Int64))), .second, .val (.int (0 : Int32)), .unset] [(.int p0)])) _
              refine XS.bipush X0.here hx rfl (hb hby d2_52) ?_
              exact k
            by_cases hc117 : p0 = (95 : Int32)
            · have r118 : own_R p.tables e below F0 (s₁.setTop (mkF m 83 #[.val (.int p0), .val (.int (p0 ||| (32 : Int32))), .val (.int (1 : Int32)), .val (.long ((p0.toInt64) - (48 : Int64))), .second, .val (.int (0 : Int32)), .val (.int (1 : Int32))] [(.int (1 : Int32))])) := fun t k => by
                refine r116 t ?_
                show Steps p.tables e below (s₁.setTop (mkF m 54 #[.val (.int p0), .val (.int (p0 ||| (32 : Int32))), .val (.int (1 : Int32)), .val (.long ((p0.toInt64) - (48 : Int64))), .second, .val (.int (0 : Int32)), .unset] [(.int (95 : Int32)), (.int p0)])) _
                refine XS.icmpNo X0.here hx rfl (hb hby d2_54) rfl (teq hc117).2 ?_
                show Steps p.tables e below (s₁.setTop (mkF m 57 #[.val (.int p0), .val (.int (p0 ||| (32 : Int32))), .val (.int (1 : Int32)), .val (.long ((p0.toInt64) - (48 : Int64))), .second, .val (.int (0 : Int32)), .unset] [])) _
                refine XS.iconst X0.here hx rfl (hb hby d2_57) ?_
                show Steps p.tables e below (s₁.setTop (mkF m 58 #[.val (.int p0), .val (.int (p0 ||| (32 : Int32))), .val (.int (1 : Int32)), .val (.long ((p0.toInt64) - (48 : Int64))), .second, .val (.int (0 : Int32)), .unset] [(.int (1 : Int32))])) _
                refine XS.goto X0.here hx rfl (pc0 := 58) (pc' := 62) rfl (hb hby d2_58) (by decide) (by decide) ?_
                show Steps p.tables e below (s₁.setTop (mkF m 62 #[.val (.int p0), .val (.int (p0 ||| (32 : Int32))), .val (.int (1 : Int32)), .val (.long ((p0.toInt64) - (48 : Int64))), .second, .val (.int (0 : Int32)), .unset] [(.int (1 : Int32))])) _
                refine XS.istore X0.here hx rfl (hb hby d2_62) rfl (l' := #[.val (.int p0), .val (.int (p0 ||| (32 : Int32))), .val (.int (1 : Int32)), .val (.long ((p0.toInt64) - (48 : Int64))), .second, .val (.int (0 : Int32)), .val (.int (1 : Int32))]) rfl ?_
                show Steps p.tables e below (s₁.setTop (mkF m 64 #[.val (.int p0), .val (.int (p0 ||| (32 : Int32))), .val (.int (1 : Int32)), .val (.long ((p0.toInt64) - (48 : Int64))), .second, .val (.int (0 : Int32)), .val (.int (1 : Int32))] [])) _
                refine XS.iloadN X0.here hx rfl (hb hby d2_64) rfl ?_
                show Steps p.tables e below (s₁.setTop (mkF m 65 #[.val (.int p0), .val (.int (p0 ||| (32 : Int32))), .val (.int (1 : Int32)), .val (.long ((p0.toInt64) - (48 : Int64))), .second, .val (.int (0 : Int32)), .val (.int (1 : Int32))] [(.int (1 : Int32))])) _
                refine XS.ifYes X0.here hx rfl (pc0 := 65) (pc' := 78) rfl (hb hby d2_65) rfl ((if0 _ _).trans (feq (show ¬ ((1 : Int32) = (0 : Int32)) from by decide)).2) (by decide) (by decide) ?_
                show Steps p.tables e below (s₁.setTop (mkF m 78 #[.val (.int p0), .val (.int (p0 ||| (32 : Int32))), .val (.int (1 : Int32)), .val (.long ((p0.toInt64) - (48 : Int64))), .second, .val (.int (0 : Int32)), .val (.int (1 : Int32))] [])) _
                refine XS.iconst X0.here hx rfl (hb hby d2_78) ?_
                show Steps p.tables e below (s₁.setTop (mkF m 79 #[.val (.int p0), .val (.int (p0 ||| (32 : Int32))), .val (.int (1 : Int32)), .val (.long ((p0.toInt64) - (48 : Int64))), .second, .val (.int (0 : Int32)), .val (.int (1 : Int32))] [(.int (1 : Int32))])) _
                refine XS.goto X0.here hx rfl (pc0 := 79) (pc' := 83) rfl (hb hby d2_79) (by decide) (by decide) ?_
                exact k
              refine hG (own_fin X0 hlk (some (.int (nar .boolean (1 : Int32)))) (own_hv Bd.returns) ?_ (by decide) (by decide) (fun fs hr => r118 _ (retN X0 hx (t := .boolean) Bd.returns (by simp) (hb hby d2_83) hr)))
              rw [e0]
              refine ⟨?_, N0, rfl⟩
              have ev : (own_exp p0) = (1 : Int32) := by unfold own_exp; rw [if_neg hc69, if_neg hc87, if_neg hc105, if_neg hc111, if_pos hc117]
              rw [ev]
              rfl
            · have r119 : own_R p.tables e below F0 (s₁.setTop (mkF m 83 #[.val (.int p0), .val (.int (p0 ||| (32 : Int32))), .val (.int (1 : Int32)), .val (.long ((p0.toInt64) - (48 : Int64))), .second, .val (.int (0 : Int32)), .val (.int (0 : Int32))] [(.int (1 : Int32))])) := fun t k => by
                refine r116 t ?_
                show Steps p.tables e below (s₁.setTop (mkF m 54 #[.val (.int p0), .val (.int (p0 ||| (32 : Int32))), .val (.int (1 : Int32)), .val (.long ((p0.toInt64) - (48 : Int64))), .second, .val (.int (0 : Int32)), .unset] [(.int (95 : Int32)), (.int p0)])) _
                refine XS.icmpYes X0.here hx rfl (pc0 := 54) (pc' := 61) rfl (hb hby d2_54) rfl (feq hc117).2 (by decide) (by decide) ?_
                show Steps p.tables e below (s₁.setTop (mkF m 61 #[.val (.int p0), .val (.int (p0 ||| (32 : Int32))), .val (.int (1 : Int32)), .val (.long ((p0.toInt64) - (48 : Int64))), .second, .val (.int (0 : Int32)), .unset] [])) _
                refine XS.iconst X0.here hx rfl (hb hby d2_61) ?_
                show Steps p.tables e below (s₁.setTop (mkF m 62 #[.val (.int p0), .val (.int (p0 ||| (32 : Int32))), .val (.int (1 : Int32)), .val (.long ((p0.toInt64) - (48 : Int64))), .second, .val (.int (0 : Int32)), .unset] [(.int (0 : Int32))])) _
                refine XS.istore X0.here hx rfl (hb hby d2_62) rfl (l' := #[.val (.int p0), .val (.int (p0 ||| (32 : Int32))), .val (.int (1 : Int32)), .val (.long ((p0.toInt64) - (48 : Int64))), .second, .val (.int (0 : Int32)), .val (.int (0 : Int32))]) rfl ?_
                show Steps p.tables e below (s₁.setTop (mkF m 64 #[.val (.int p0), .val (.int (p0 ||| (32 : Int32))), .val (.int (1 : Int32)), .val (.long ((p0.toInt64) - (48 : Int64))), .second, .val (.int (0 : Int32)), .val (.int (0 : Int32))] [])) _
                refine XS.iloadN X0.here hx rfl (hb hby d2_64) rfl ?_
                show Steps p.tables e below (s₁.setTop (mkF m 65 #[.val (.int p0), .val (.int (p0 ||| (32 : Int32))), .val (.int (1 : Int32)), .val (.long ((p0.toInt64) - (48 : Int64))), .second, .val (.int (0 : Int32)), .val (.int (0 : Int32))] [(.int (1 : Int32))])) _
                refine XS.ifYes X0.here hx rfl (pc0 := 65) (pc' := 78) rfl (hb hby d2_65) rfl ((if0 _ _).trans (feq (show ¬ ((1 : Int32) = (0 : Int32)) from by decide)).2) (by decide) (by decide) ?_
                show Steps p.tables e below (s₁.setTop (mkF m 78 #[.val (.int p0), .val (.int (p0 ||| (32 : Int32))), .val (.int (1 : Int32)), .val (.long ((p0.toInt64) - (48 : Int64))), .second, .val (.int (0 : Int32)), .val (.int (0 : Int32))] [])) _
                refine XS.iconst X0.here hx rfl (hb hby d2_78) ?_
                show Steps p.tables e below (s₁.setTop (mkF m 79 #[.val (.int p0), .val (.int (p0 ||| (32 : Int32))), .val (.int (1 : Int32)), .val (.long ((p0.toInt64) - (48 : Int64))), .second, .val (.int (0 : Int32)), .val (.int (0 : Int32))] [(.int (1 : Int32))])) _
                refine XS.goto X0.here hx rfl (pc0 := 79) (pc' := 83) rfl (hb hby d2_79) (by decide) (by decide) ?_
                exact k
              refine hG (own_fin X0 hlk (some (.int (nar .boolean (1 : Int32)))) (own_hv Bd.returns) ?_ (by decide) (by decide) (fun fs hr => r119 _ (retN X0 hx (t := .boolean) Bd.returns (by simp) (hb hby d2_83) hr)))
              rw [e0]
              refine ⟨?_, N0, rfl⟩
              have ev : (own_exp p0) = (1 : Int32) := by unfold own_exp; rw [if_neg hc69, if_neg hc87, if_neg hc105, if_neg hc111, if_neg hc117]
              rw [ev]
              rfl
  exact key _ _ id (fun t k => castTop (ef_2 m p0) k)
theorem own_fold (c : Int32) : (97 ≤ (c ||| (32 : Int32)).toInt ∧ (c ||| (32 : Int32)).toInt ≤ 122) ↔ ((65 ≤ c.toInt ∧ c.toInt ≤ 90) ∨ (97 ≤ c.toInt ∧ c.toInt ≤ 122)) := by
  have hs := c_orS c 32
  have h0 := c_or0 c 32
  have e32 : (32 : Int32).toInt = 32 := by decide
  rw [e32] at hs h0
  by_cases q : 0 ≤ c.toInt ∧ c.toInt < 128
  · have hb : ∀ n : Fin 128, ((97 ≤ ((Int32.ofNat n.1) ||| (32 : Int32)).toInt ∧ ((Int32.ofNat n.1) ||| (32 : Int32)).toInt ≤ 122) ↔ ((65 ≤ (Int32.ofNat n.1).toInt ∧ (Int32.ofNat n.1).toInt ≤ 90) ∨ (97 ≤ (Int32.ofNat n.1).toInt ∧ (Int32.ofNat n.1).toInt ≤ 122))) := by decide +kernel
    have hc : c = Int32.ofNat c.toInt.toNat := by
      apply Int32.toInt_inj.mp
      rw [Int32.toInt_ofNat_of_lt (by omega)]; omega
    rw [hc]
    exact hb ⟨c.toInt.toNat, by omega⟩
  · omega
set_option maxHeartbeats 4000000 in
theorem own_same (c : Int32) : own_name c = own_exp c := by
  have hf := own_fold c
  have h0 := c_i2l c
  have h1 := c_lsub c.toInt64 48
  have h2 := rng64 (c.toInt64 - 48)
  have h3 := rng32 c
  have l1 : (65 : Int32).toInt = 65 := by decide
  have l2 : (90 : Int32).toInt = 90 := by decide
  have l3 : (97 : Int32).toInt = 97 := by decide
  have l4 : (122 : Int32).toInt = 122 := by decide
  have l5 : (48 : Int32).toInt = 48 := by decide
  have l6 : (57 : Int32).toInt = 57 := by decide
  have l7 : (95 : Int32).toInt = 95 := by decide
  have m1 : (48 : Int64).toInt = 48 := by decide
  have m2 : (0 : Int64).toInt = 0 := by decide
  have m3 : (10 : Int64).toInt = 10 := by decide
  rw [m1] at h1
  unfold own_name own_exp
  simp only [Int32.lt_iff_toInt_lt, Int64.lt_iff_toInt_lt, ← Int32.toInt_inj, l1, l2, l3, l4, l5, l6, l7, m2, m3]
  repeat' split
  all_goals first | rfl | (exfalso; omega)
theorem pd_0 : parseMethodDescriptor "(I)Z" = some ⟨[.int], some .boolean⟩ := by decide +kernel
theorem ef_0 (m : MethodId) (x0 : Int32) (x1 : Int32) : entryFrame m #[(.int x0), (.int x1)] maxLocals = mkF m 0 #[.val (.int x0), .val (.int x1), .unset, .unset, .unset] [] := by first | (simp [entryFrame, mkF, argsToLocals, Value.category, maxLocals]; done) | rfl
def Q0 (Z : State) (p0s : Int32) (p1s : Int32) (h0 : Heap) (n0 : Nat) (v : Option Value) (h : Heap) (L : List Loc) : Prop := v = some (.int (1 : Int32)) ∧ Fr n0 L
set_option maxRecDepth 65536 in
set_option maxHeartbeats 40000000 in
theorem rm0 (l : Launch) (Z : State) (a0 : Array Value) (hw : ∀ d ∈ tables_1, d.before a0 Z = true) (ws : List Jvm.Cond) (p0s : Int32) (p1s : Int32) (h0 : Heap) (n0 : Nat) (Z0 : n0 ≤ h0.size) :
    MetFree l x (head1 (Jvm.Cond.code x code maxLocals ret :: ws) room_1) (fun a U => a = #[(.int p0s), (.int p1s)] ∧ Z.Warmed39 U.vm ∧ U.heap = h0) (fun _ _ _ _ _ => True) (fun _ U o U' => ∃ v L, o = .returned v ∧ Q0 Z p0s p1s h0 n0 v U'.heap L ∧ FrameEnd U o U' L 0 0) := by
  refine MetFree.of_bodySF (plainFor_of_name pn_1) hisR ?_
  intro p e s m args below meth c s₁ Bd hml0 hP hK
  obtain ⟨rfl, hZ, hh⟩ := hP
  have hx := Bd.exec
  have hby := Bd.bytes
  have hml : c.maxLocals = 5 := hml0
  have hown : s.vm.findClass "org/jadoube/io/PgnReaderIsNameCharacterPinLaw" = some m.cls := findClass_of_methodNamed Bd.named
  have hnm := (name_of_methodNamed Bd.named Bd.method).1
  have hlk : meth.locks = false := BodyLoose.notSynchronized Bd
  have X0 : Stand p l e room_1 s m #[(.int p0s), (.int p1s)] below meth c s₁ [] 0 0 := Stand.of_body Bd
  have e0 : s₁.heap = h0 := by rw [← hh, Bd.state]; rfl
  have N0 := Fr.nil n0
  have K0 : Keep h0 h0 [] := Keep.refl h0 _
  have key : ∀ (F0 : State) (G : Prop), (own_G p e below s F0 (Q0 Z p0s p1s h0 n0) 0 0 → G) → own_R p.tables e below F0 (s₁.setTop (mkF m 0 #[.val (.int p0s), .val (.int p1s), .unset, .unset, .unset] [])) → G := by
    intro F0 G hG r0
    have r120 : own_R p.tables e below F0 (s₁.setTop (mkF m 7 #[.val (.int p0s), .val (.int p1s), .val (.int (p1s &&& (255 : Int32))), .unset, .unset] [(.int p0s)])) := fun t k => by
      refine r0 t ?_
      show Steps p.tables e below (s₁.setTop (mkF m 0 #[.val (.int p0s), .val (.int p1s), .unset, .unset, .unset] [])) _
      refine XS.iloadN X0.here hx rfl (hb hby at_0) rfl ?_
      show Steps p.tables e below (s₁.setTop (mkF m 1 #[.val (.int p0s), .val (.int p1s), .unset, .unset, .unset] [(.int p1s)])) _
      refine XS.sipush X0.here hx rfl (hb hby at_1) ?_
      show Steps p.tables e below (s₁.setTop (mkF m 4 #[.val (.int p0s), .val (.int p1s), .unset, .unset, .unset] [(.int (255 : Int32)), (.int p1s)])) _
      refine XS.iand X0.here hx rfl (hb hby at_4) rfl ?_
      show Steps p.tables e below (s₁.setTop (mkF m 5 #[.val (.int p0s), .val (.int p1s), .unset, .unset, .unset] [(.int (p1s &&& (255 : Int32)))])) _
      refine XS.istoreN X0.here hx rfl (hb hby at_5) rfl (l' := #[.val (.int p0s), .val (.int p1s), .val (.int (p1s &&& (255 : Int32))), .unset, .unset]) rfl ?_
      show Steps p.tables e below (s₁.setTop (mkF m 6 #[.val (.int p0s), .val (.int p1s), .val (.int (p1s &&& (255 : Int32))), .unset, .unset] [])) _
      refine XS.iloadN X0.here hx rfl (hb hby at_6) rfl ?_
      exact k
    obtain ⟨_, _, ⟨T121, L121, k121, n121⟩, -, X121, ⟨Lc121, hQ121, l121, y121, z121⟩, st121⟩ := Jvm.LawKit.callS X0 hx (y := (⟨"org/jadoube/io/PgnReader", "isNameCharacter", "(I)Z"⟩ : MethodName)) hown (mvT hZ (hw _ (List.mem_of_getElem? (i := 0) rfl))) (mvT hZ (hw _ (List.mem_of_getElem? (i := 1) rfl))) (mvT hZ (hw _ (List.mem_of_getElem? (i := 2) rfl))) (mvT hZ (hw _ (List.mem_of_getElem? (i := 3) rfl))) (by decide) (backOf (W := 0) (rm1 l Z a0 hw [] p0s h0 n0 Z0 ) hZ (hw _ (List.mem_of_getElem? (i := 3) rfl)) (hw _ (List.mem_of_getElem? (i := 2) rfl)) (by decide) (by decide)) (g := (mkF m 7 #[.val (.int p0s), .val (.int p1s), .val (.int (p1s &&& (255 : Int32))), .unset, .unset] [(.int p0s)])) rfl (by rw [hml]; rfl) (argsL := [(.int p0s)]) (rest := []) (lenOf pd_0 rfl) rfl (by show 2 * 0 + _ ≤ _; exact Nat.le_of_eq rfl) (hb hby at_7) (fun _ _ => ⟨rfl, e0, (by decide : 0 + 0 ≤ _), (by decide : 0 + 0 ≤ _)⟩)
    dsimp only [Pt.U, Pt.locs, Pt.cells, Pt.slots] at X121 l121 y121 z121 st121 hQ121
    subst l121 y121 z121
    obtain ⟨rfl, N121q, I121_0⟩ := hQ121
    have N121 := Fr.app N0 N121q
    have r121 : own_R p.tables e below F0 (T121.setTop (mkF m 10 #[.val (.int p0s), .val (.int p1s), .val (.int (p1s &&& (255 : Int32))), .unset, .unset] [(.int (own_name p0s))])) := fun t k => r120 t (st121 t k)
    have r122 : own_R p.tables e below F0 (T121.setTop (mkF m 11 #[.val (.int p0s), .val (.int p1s), .val (.int (p1s &&& (255 : Int32))), .unset, .unset] [(.int p0s), (.int (own_name p0s))])) := fun t k => by
      refine r121 t ?_
      show Steps p.tables e below (T121.setTop (mkF m 10 #[.val (.int p0s), .val (.int p1s), .val (.int (p1s &&& (255 : Int32))), .unset, .unset] [(.int (own_name p0s))])) _
      refine XS.iloadN X121.here hx rfl (hb hby at_10) rfl ?_
      exact k
    obtain ⟨_, _, ⟨T123, L123, k123, n123⟩, -, X123, ⟨Lc123, hQ123, l123, y123, z123⟩, st123⟩ := Jvm.LawKit.callS X121 hx (y := (⟨"org/jadoube/io/PgnReaderIsNameCharacterPinLaw", "expected", "(I)Z"⟩ : MethodName)) hown (mvT hZ (hw _ (List.mem_of_getElem? (i := 4) rfl))) (mvT hZ (hw _ (List.mem_of_getElem? (i := 5) rfl))) (mvT hZ (hw _ (List.mem_of_getElem? (i := 6) rfl))) (mvT hZ (hw _ (List.mem_of_getElem? (i := 7) rfl))) (by decide) (backOf (W := 1) (rm2 l Z a0 hw [] p0s h0 n0 Z0 ) hZ (hw _ (List.mem_of_getElem? (i := 7) rfl)) (hw _ (List.mem_of_getElem? (i := 6) rfl)) (by decide) (by decide)) (g := (mkF m 11 #[.val (.int p0s), .val (.int p1s), .val (.int (p1s &&& (255 : Int32))), .unset, .unset] [(.int p0s), (.int (own_name p0s))])) rfl (by rw [hml]; rfl) (argsL := [(.int p0s)]) (rest := [(.int (own_name p0s))]) (lenOf pd_0 rfl) rfl (by show 2 * 0 + _ ≤ _; exact Nat.le_of_eq rfl) (hb hby at_11) (fun _ _ => ⟨rfl, I121_0, (by decide : 0 + 0 ≤ _), (by decide : 0 + 0 ≤ _)⟩)
    dsimp only [Pt.U, Pt.locs, Pt.cells, Pt.slots] at X123 l123 y123 z123 st123 hQ123
    subst l123 y123 z123
    obtain ⟨rfl, N123q, I123_0⟩ := hQ123
    have N123 := Fr.app N121 N123q
    have r123 : own_R p.tables e below F0 (T123.setTop (mkF m 14 #[.val (.int p0s), .val (.int p1s), .val (.int (p1s &&& (255 : Int32))), .unset, .unset] [(.int (own_exp p0s)), (.int (own_name p0s))])) := fun t k => r122 t (st123 t k)
    have hc124 : (own_name p0s) = (own_exp p0s) := (own_same _)
    have r125 : own_R p.tables e below F0 (T123.setTop (mkF m 24 #[.val (.int p0s), .val (.int p1s), .val (.int (p1s &&& (255 : Int32))), .val (.int (1 : Int32)), .unset] [(.int (p1s &&& (255 : Int32)))])) := fun t k => by
      refine r123 t ?_
      show Steps p.tables e below (T123.setTop (mkF m 14 #[.val (.int p0s), .val (.int p1s), .val (.int (p1s &&& (255 : Int32))), .unset, .unset] [(.int (own_exp p0s)), (.int (own_name p0s))])) _
      refine XS.icmpNo X123.here hx rfl (hb hby at_14) rfl (teq hc124).2 ?_
      show Steps p.tables e below (T123.setTop (mkF m 17 #[.val (.int p0s), .val (.int p1s), .val (.int (p1s &&& (255 : Int32))), .unset, .unset] [])) _
      refine XS.iconst X123.here hx rfl (hb hby at_17) ?_
      show Steps p.tables e below (T123.setTop (mkF m 18 #[.val (.int p0s), .val (.int p1s), .val (.int (p1s &&& (255 : Int32))), .unset, .unset] [(.int (1 : Int32))])) _
      refine XS.goto X123.here hx rfl (pc0 := 18) (pc' := 22) rfl (hb hby at_18) (by decide) (by decide) ?_
      show Steps p.tables e below (T123.setTop (mkF m 22 #[.val (.int p0s), .val (.int p1s), .val (.int (p1s &&& (255 : Int32))), .unset, .unset] [(.int (1 : Int32))])) _
      refine XS.istoreN X123.here hx rfl (hb hby at_22) rfl (l' := #[.val (.int p0s), .val (.int p1s), .val (.int (p1s &&& (255 : Int32))), .val (.int (1 : Int32)), .unset]) rfl ?_
      show Steps p.tables e below (T123.setTop (mkF m 23 #[.val (.int p0s), .val (.int p1s), .val (.int (p1s &&& (255 : Int32))), .val (.int (1 : Int32)), .unset] [])) _
      refine XS.iloadN X123.here hx rfl (hb hby at_23) rfl ?_
      exact k
    obtain ⟨_, _, ⟨T126, L126, k126, n126⟩, -, X126, ⟨Lc126, hQ126, l126, y126, z126⟩, st126⟩ := Jvm.LawKit.callS X123 hx (y := (⟨"org/jadoube/io/PgnReader", "isNameCharacter", "(I)Z"⟩ : MethodName)) hown (mvT hZ (hw _ (List.mem_of_getElem? (i := 0) rfl))) (mvT hZ (hw _ (List.mem_of_getElem? (i := 1) rfl))) (mvT hZ (hw _ (List.mem_of_getElem? (i := 2) rfl))) (mvT hZ (hw _ (List.mem_of_getElem? (i := 3) rfl))) (by decide) (backOf (W := 0) (rm1 l Z a0 hw [] (p1s &&& (255 : Int32)) h0 n0 Z0 ) hZ (hw _ (List.mem_of_getElem? (i := 3) rfl)) (hw _ (List.mem_of_getElem? (i := 2) rfl)) (by decide) (by decide)) (g := (mkF m 24 #[.val (.int p0s), .val (.int p1s), .val (.int (p1s &&& (255 : Int32))), .val (.int (1 : Int32)), .unset] [(.int (p1s &&& (255 : Int32)))])) rfl (by rw [hml]; rfl) (argsL := [(.int (p1s &&& (255 : Int32)))]) (rest := []) (lenOf pd_0 rfl) rfl (by show 2 * 0 + _ ≤ _; exact Nat.le_of_eq rfl) (hb hby at_24) (fun _ _ => ⟨rfl, I123_0, (by decide : 0 + 0 ≤ _), (by decide : 0 + 0 ≤ _)⟩)
    dsimp only [Pt.U, Pt.locs, Pt.cells, Pt.slots] at X126 l126 y126 z126 st126 hQ126
    subst l126 y126 z126
    obtain ⟨rfl, N126q, I126_0⟩ := hQ126
    have N126 := Fr.app N123 N126q
    have r126 : own_R p.tables e below F0 (T126.setTop (mkF m 27 #[.val (.int p0s), .val (.int p1s), .val (.int (p1s &&& (255 : Int32))), .val (.int (1 : Int32)), .unset] [(.int (own_name (p1s &&& (255 : Int32))))])) := fun t k => r125 t (st126 t k)
    have r127 : own_R p.tables e below F0 (T126.setTop (mkF m 28 #[.val (.int p0s), .val (.int p1s), .val (.int (p1s &&& (255 : Int32))), .val (.int (1 : Int32)), .unset] [(.int (p1s &&& (255 : Int32))), (.int (own_name (p1s &&& (255 : Int32))))])) := fun t k => by
      refine r126 t ?_
      show Steps p.tables e below (T126.setTop (mkF m 27 #[.val (.int p0s), .val (.int p1s), .val (.int (p1s &&& (255 : Int32))), .val (.int (1 : Int32)), .unset] [(.int (own_name (p1s &&& (255 : Int32))))])) _
      refine XS.iloadN X126.here hx rfl (hb hby at_27) rfl ?_
      exact k
    obtain ⟨_, _, ⟨T128, L128, k128, n128⟩, -, X128, ⟨Lc128, hQ128, l128, y128, z128⟩, st128⟩ := Jvm.LawKit.callS X126 hx (y := (⟨"org/jadoube/io/PgnReaderIsNameCharacterPinLaw", "expected", "(I)Z"⟩ : MethodName)) hown (mvT hZ (hw _ (List.mem_of_getElem? (i := 4) rfl))) (mvT hZ (hw _ (List.mem_of_getElem? (i := 5) rfl))) (mvT hZ (hw _ (List.mem_of_getElem? (i := 6) rfl))) (mvT hZ (hw _ (List.mem_of_getElem? (i := 7) rfl))) (by decide) (backOf (W := 1) (rm2 l Z a0 hw [] (p1s &&& (255 : Int32)) h0 n0 Z0 ) hZ (hw _ (List.mem_of_getElem? (i := 7) rfl)) (hw _ (List.mem_of_getElem? (i := 6) rfl)) (by decide) (by decide)) (g := (mkF m 28 #[.val (.int p0s), .val (.int p1s), .val (.int (p1s &&& (255 : Int32))), .val (.int (1 : Int32)), .unset] [(.int (p1s &&& (255 : Int32))), (.int (own_name (p1s &&& (255 : Int32))))])) rfl (by rw [hml]; rfl) (argsL := [(.int (p1s &&& (255 : Int32)))]) (rest := [(.int (own_name (p1s &&& (255 : Int32))))]) (lenOf pd_0 rfl) rfl (by show 2 * 0 + _ ≤ _; exact Nat.le_of_eq rfl) (hb hby at_28) (fun _ _ => ⟨rfl, I126_0, (by decide : 0 + 0 ≤ _), (by decide : 0 + 0 ≤ _)⟩)
    dsimp only [Pt.U, Pt.locs, Pt.cells, Pt.slots] at X128 l128 y128 z128 st128 hQ128
    subst l128 y128 z128
    obtain ⟨rfl, N128q, I128_0⟩ := hQ128
    have N128 := Fr.app N126 N128q
    have r128 : own_R p.tables e below F0 (T128.setTop (mkF m 31 #[.val (.int p0s), .val (.int p1s), .val (.int (p1s &&& (255 : Int32))), .val (.int (1 : Int32)), .unset] [(.int (own_exp (p1s &&& (255 : Int32)))), (.int (own_name (p1s &&& (255 : Int32))))])) := fun t k => r127 t (st128 t k)
    have hc129 : (own_name (p1s &&& (255 : Int32))) = (own_exp (p1s &&& (255 : Int32))) := (own_same _)
    have r130 : own_R p.tables e below F0 (T128.setTop (mkF m 55 #[.val (.int p0s), .val (.int p1s), .val (.int (p1s &&& (255 : Int32))), .val (.int (1 : Int32)), .val (.int (1 : Int32))] [(.int (1 : Int32))])) := fun t k => by
      refine r128 t ?_
      show Steps p.tables e below (T128.setTop (mkF m 31 #[.val (.int p0s), .val (.int p1s), .val (.int (p1s &&& (255 : Int32))), .val (.int (1 : Int32)), .unset] [(.int (own_exp (p1s &&& (255 : Int32)))), (.int (own_name (p1s &&& (255 : Int32))))])) _
      refine XS.icmpNo X128.here hx rfl (hb hby at_31) rfl (teq hc129).2 ?_
      show Steps p.tables e below (T128.setTop (mkF m 34 #[.val (.int p0s), .val (.int p1s), .val (.int (p1s &&& (255 : Int32))), .val (.int (1 : Int32)), .unset] [])) _
      refine XS.iconst X128.here hx rfl (hb hby at_34) ?_
      show Steps p.tables e below (T128.setTop (mkF m 35 #[.val (.int p0s), .val (.int p1s), .val (.int (p1s &&& (255 : Int32))), .val (.int (1 : Int32)), .unset] [(.int (1 : Int32))])) _
      refine XS.goto X128.here hx rfl (pc0 := 35) (pc' := 39) rfl (hb hby at_35) (by decide) (by decide) ?_
      show Steps p.tables e below (T128.setTop (mkF m 39 #[.val (.int p0s), .val (.int p1s), .val (.int (p1s &&& (255 : Int32))), .val (.int (1 : Int32)), .unset] [(.int (1 : Int32))])) _
      refine XS.istore X128.here hx rfl (hb hby at_39) rfl (l' := #[.val (.int p0s), .val (.int p1s), .val (.int (p1s &&& (255 : Int32))), .val (.int (1 : Int32)), .val (.int (1 : Int32))]) rfl ?_
      show Steps p.tables e below (T128.setTop (mkF m 41 #[.val (.int p0s), .val (.int p1s), .val (.int (p1s &&& (255 : Int32))), .val (.int (1 : Int32)), .val (.int (1 : Int32))] [])) _
      refine XS.iloadN X128.here hx rfl (hb hby at_41) rfl ?_
      show Steps p.tables e below (T128.setTop (mkF m 42 #[.val (.int p0s), .val (.int p1s), .val (.int (p1s &&& (255 : Int32))), .val (.int (1 : Int32)), .val (.int (1 : Int32))] [(.int (1 : Int32))])) _
      refine XS.ifNo X128.here hx rfl (hb hby at_42) rfl ((if0 _ _).trans (feq (show ¬ ((1 : Int32) = (0 : Int32)) from by decide)).1) ?_
      show Steps p.tables e below (T128.setTop (mkF m 45 #[.val (.int p0s), .val (.int p1s), .val (.int (p1s &&& (255 : Int32))), .val (.int (1 : Int32)), .val (.int (1 : Int32))] [])) _
      refine XS.iload X128.here hx rfl (hb hby at_45) rfl ?_
      show Steps p.tables e below (T128.setTop (mkF m 47 #[.val (.int p0s), .val (.int p1s), .val (.int (p1s &&& (255 : Int32))), .val (.int (1 : Int32)), .val (.int (1 : Int32))] [(.int (1 : Int32))])) _
      refine XS.ifNo X128.here hx rfl (hb hby at_47) rfl ((if0 _ _).trans (feq (show ¬ ((1 : Int32) = (0 : Int32)) from by decide)).1) ?_
      show Steps p.tables e below (T128.setTop (mkF m 50 #[.val (.int p0s), .val (.int p1s), .val (.int (p1s &&& (255 : Int32))), .val (.int (1 : Int32)), .val (.int (1 : Int32))] [])) _
      refine XS.iconst X128.here hx rfl (hb hby at_50) ?_
      show Steps p.tables e below (T128.setTop (mkF m 51 #[.val (.int p0s), .val (.int p1s), .val (.int (p1s &&& (255 : Int32))), .val (.int (1 : Int32)), .val (.int (1 : Int32))] [(.int (1 : Int32))])) _
      refine XS.goto X128.here hx rfl (pc0 := 51) (pc' := 55) rfl (hb hby at_51) (by decide) (by decide) ?_
      exact k
    refine hG (own_fin X128 hlk (some (.int (nar .boolean (1 : Int32)))) (own_hv Bd.returns) ?_ (by decide) (by decide) (fun fs hr => r130 _ (retN X128 hx (t := .boolean) Bd.returns (by simp) (hb hby at_55) hr)))
    rw [I128_0]
    exact ⟨rfl, N128⟩
  exact key _ _ id (fun t k => castTop (ef_0 m p0s p1s) k)
set_option maxRecDepth 65536 in
set_option maxHeartbeats 40000000 in
theorem comes_1 {Post : Tables → Env → Array Value → State → Outcome → State → Prop} (hpost : ∀ tb e args s v u, (limb_1_1.after args s (.returned v) u = true ∧ limb_1_2.after args s (.returned v) u = true ∧ True) → FrameEnd s (.returned v) u (Jvm.fieldLocs frame_1_writes args s ++ Jvm.arrayLocs frame_1_arrays args s ++ Jvm.staticLocs frame_1_statics s) 0 0 → Post tb e args s (.returned v) u) :
    ArmFor flags0 classFile x code maxLocals ret World_1 tables_1 room_1 Calls_1 rest_1 Pre_1 Post := by
  intro l hfl _ _ p e ha hc hk s m args below hf hA hF happ hP
  obtain ⟨hcalls, hrest, hpre⟩ := hP
  obtain ⟨-, -, -, hnamed, -, -, -, hat⟩ := (Spec.applies_iff hf).mp happ
  obtain ⟨hg, hn⟩ := and_e (Cond.before_iff.mp (show (Jvm.Cond.and given_1 narrow_1).before args s = true from hpre))
  obtain ⟨gw1, gw2⟩ := and_e hg
  obtain ⟨gw3, gw4⟩ := and_e gw2
  obtain ⟨w0, w1, rfl⟩ : ∃ w0 w1 : Value, args = #[w0, w1] := by
    have hs : args.size = 2 := by simpa [Cond.value, given_1] using gw1
    obtain ⟨L⟩ := args
    match L, hs with
    | [w0, w1], _ => exact ⟨w0, w1, rfl⟩
  have hw := fun d (hd : d ∈ tables_1) => atoms_spec (ws := Jvm.Cond.code x code maxLocals ret :: tables_1) hat d (List.mem_cons_of_mem _ hd)
  have hfit : Fit s := fun {y c} hc i hi => by
    obtain ⟨ha, rfl⟩ := Array.getElem?_eq_some_iff.mp hc
    have q := List.all_eq_true.mp ((Array.all_eq_true_iff_forall_mem.mp hF) _ (Array.getElem_mem ha)) i (List.mem_range.mpr hi)
    simpa [Array.getElem?_eq_getElem hi] using q
  obtain ⟨i0, ei0⟩ := is_v gw3
  obtain rfl : w0 = (.int i0) := Option.some.inj ei0
  obtain ⟨i1, ei1⟩ := is_v gw4
  obtain rfl : w1 = (.int i1) := Option.some.inj ei1
  obtain ⟨n, o, h1, h2, h3, _, L, rfl, ⟨rfl, N⟩, hq⟩ := rm0 l s _ hw tables_1 i0 i1  s.heap s.heap.size (Nat.le_refl _)  p e ha hc hk s m _ below hf ((Spec.applies_iff_loose hf).mp happ).1 ⟨rfl, State.Warmed39.refl s, rfl⟩ trivial
  refine ⟨n, _, h1, h2, h3, hpost _ _ _ _ _ _ ⟨Cond.after_iff.mpr rfl, Cond.after_iff.mpr (eq_i res_at (Term.int_eval (1)) rfl), trivial⟩ ⟨hq.1, hq.2.1, (hq.2.2.sift fun y hy => Or.inr (N y hy)).mono (by decide) (by decide)⟩⟩
theorem main_1_1 : Claimed_1_1 := comes_1 fun _ _ _ _ _ _ h hF => ⟨h.1, hF⟩
theorem main_1_2 : Claimed_1_2 := comes_1 fun _ _ _ _ _ _ h hF => ⟨h.2.1, hF⟩
end Jvm.Pilot.@@N@@
namespace Jvm.Pilot.@@N@@
open Jvm Jvm.ClassFile Sem Op Lib Jvm.Free Jvm.Stand Jvm.Pilot.@@N@@.Jvm.D
/-! MADE BY PROGRAM (witnessworld.py) out of the Statement's table words and the real class files: 9 classes; the members and pool entries that the words name. The judged class is class 1, her method 2. -/
namespace start1
open Jvm.ClassFile
def u (s : String) : CpInfo := .utf8 (stringToUtf16 s)
/-- a pool by its gaps: so many unusable entries, then the entry; so many at the end -/
def gap : Nat → List CpInfo → List CpInfo
  | 0, r => r
  | n + 1, r => .unusable :: gap n r
def poolList (es : List (Nat × CpInfo)) (last : Nat) : List CpInfo := es.foldr (fun e r => gap e.1 (e.2 :: r)) (gap last [])
def pool (es : List (Nat × CpInfo)) (last : Nat) : Array CpInfo := ⟨poolList es last⟩
def fileOf (pool : Array CpInfo) (this : Nat) (attrs : Array Attribute := #[]) (ms : Array MethodInfo := #[]) (fl : Nat := 33) (sup : Nat := 0) (ifs : Array Nat := #[]) (fds : Array FieldInfo := #[]) : ClassFile where
  minorVersion := 0
  majorVersion := 65
  constantPool := pool
  accessFlags := fl
  thisClass := this
  superClass := sup
  interfaces := ifs
  fields := fds
  methods := ms
  attributes := attrs
def plain (name : String) (sup : Option ClassId) : Class where
  name := name
  kind := .ordinary
  loader := none
  accessFlags := 33
  super := sup
  interfaces := #[]
  cf := none
  fields := #[]
  methods := #[]
  instanceTypes := #[]
  staticTypes := #[]
  resolved := #[]
  callSites := []
  init := .initialized
  statics := none
  mirror := none

def pool0 : Array CpInfo := pool [(5, u "<init>"), (0, u "()V"), (1, .class_ 10), (1, u "java/lang/Object")] 113

def k0m0 : Method := { name := "<init>", desc := "()V", sig := { parameters := [], returnType := none }, accessFlags := 1, code := none }
/-- java/lang/Object -/
def k0 : Class := { plain "java/lang/Object" none with
  accessFlags := 33
  interfaces := #[]
  cf := some (fileOf pool0 8 #[] #[{ accessFlags := 1, nameIndex := 5, descriptorIndex := 6, attributes := #[] }] 33 0 #[] #[])
  fields := #[]
  methods := #[k0m0]
  instanceTypes := #[]
  staticTypes := #[]
  resolved := Array.replicate 124 none
  statics := none }

def pool1 : Array CpInfo := pool [(2, .class_ 4), (1, u "java/lang/Object"), (0, u "<init>"), (0, u "()V"), (0, .long 48), (1, .long 10), (1, .methodref 12 13), (0, .class_ 14), (0, .nameAndType 15 16), (0, u "org/jadoube/io/PgnReader"), (0, u "isNameCharacter"), (0, u "(I)Z"), (0, .methodref 18 19), (0, .class_ 20), (0, .nameAndType 21 16), (0, u "org/jadoube/io/PgnReaderIsNameCharacterPinLaw"), (0, u "expected"), (3, u "law"), (0, u "(II)Z")] 2

def k1m0 : Method := { name := "<init>", desc := "()V", sig := { parameters := [], returnType := none }, accessFlags := 2, code := none }
def k1c1 : Code := { maxStack := 4, maxLocals := 7, code := method_2_code, exceptionTable := #[], attributes := #[] }
def k1m1 : Method := { name := "expected", desc := "(I)Z", sig := { parameters := [.int], returnType := some .boolean }, accessFlags := 10, code := some k1c1 }
def k1c2 : Code := { maxStack := 2, maxLocals := 5, code := code, exceptionTable := #[], attributes := #[] }
def k1m2 : Method := { name := "law", desc := "(II)Z", sig := { parameters := [.int, .int], returnType := some .boolean }, accessFlags := 9, code := some k1c2 }
/-- org/jadoube/io/PgnReaderIsNameCharacterPinLaw -/
def k1 : Class := { plain "org/jadoube/io/PgnReaderIsNameCharacterPinLaw" (some 0) with
  accessFlags := 49
  interfaces := #[]
  cf := some (fileOf pool1 18 #[] #[{ accessFlags := 2, nameIndex := 5, descriptorIndex := 6, attributes := #[] }, { accessFlags := 10, nameIndex := 21, descriptorIndex := 16, attributes := #[] }, { accessFlags := 9, nameIndex := 25, descriptorIndex := 26, attributes := #[] }] 49 2 #[] #[])
  fields := #[]
  methods := #[k1m0, k1m1, k1m2]
  instanceTypes := #[]
  staticTypes := #[]
  resolved := Array.replicate 29 none
  statics := none }

def pool2 : Array CpInfo := pool [(2, .class_ 4), (1, u "java/lang/Object"), (4, .class_ 11), (1, u "org/jadoube/io/PgnReader"), (0, u "buffer"), (0, u "[C"), (2, u "line"), (0, u "I"), (2, u "in"), (0, u "Ljava/io/Reader;"), (16, u "(I)Z"), (107, u "isNameCharacter"), (44, u "next"), (2, u "afterCr"), (0, u "Z"), (2, u "limit"), (12, u "END"), (2, u "DELIMITERS"), (0, u "Ljava/lang/String;")] 41

def k2c0 : Code := { maxStack := 2, maxLocals := 1, code := prog_30_method_12_code, exceptionTable := #[], attributes := #[] }
def k2m0 : Method := { name := "isNameCharacter", desc := "(I)Z", sig := { parameters := [.int], returnType := some .boolean }, accessFlags := 8, code := some k2c0 }
/-- org/jadoube/io/PgnReader -/
def k2 : Class := { plain "org/jadoube/io/PgnReader" (some 0) with
  accessFlags := 49
  interfaces := #[]
  cf := some (fileOf pool2 9 #[] #[{ accessFlags := 8, nameIndex := 146, descriptorIndex := 38, attributes := #[] }] 49 2 #[] #[{ accessFlags := 26, nameIndex := 211, descriptorIndex := 17, attributes := #[] }, { accessFlags := 26, nameIndex := 214, descriptorIndex := 215, attributes := #[] }, { accessFlags := 18, nameIndex := 20, descriptorIndex := 21, attributes := #[] }, { accessFlags := 18, nameIndex := 12, descriptorIndex := 13, attributes := #[] }, { accessFlags := 2, nameIndex := 191, descriptorIndex := 17, attributes := #[] }, { accessFlags := 2, nameIndex := 198, descriptorIndex := 17, attributes := #[] }, { accessFlags := 2, nameIndex := 16, descriptorIndex := 17, attributes := #[] }, { accessFlags := 2, nameIndex := 194, descriptorIndex := 195, attributes := #[] }])
  fields := #[{ name := "END", type := .int, accessFlags := 26, slot := 0, constantValue := 0 }, { name := "DELIMITERS", type := (.object "java/lang/String"), accessFlags := 26, slot := 1, constantValue := 0 }, { name := "in", type := (.object "java/io/Reader"), accessFlags := 18, slot := 0, constantValue := 0 }, { name := "buffer", type := (.array .char), accessFlags := 18, slot := 1, constantValue := 0 }, { name := "next", type := .int, accessFlags := 2, slot := 2, constantValue := 0 }, { name := "limit", type := .int, accessFlags := 2, slot := 3, constantValue := 0 }, { name := "line", type := .int, accessFlags := 2, slot := 4, constantValue := 0 }, { name := "afterCr", type := .boolean, accessFlags := 2, slot := 5, constantValue := 0 }]
  methods := #[k2m0]
  instanceTypes := #[(.object "java/io/Reader"), (.array .char), .int, .int, .int, .boolean]
  staticTypes := #[.int, (.object "java/lang/String")]
  resolved := Array.replicate 257 none
  statics := none }

def pool3 : Array CpInfo := pool [(1, u "java/lang/Cloneable"), (0, .class_ 1), (0, u "java/lang/Object"), (0, .class_ 3)] 3

/-- java/lang/Cloneable -/
def k3 : Class := { plain "java/lang/Cloneable" (some 0) with
  accessFlags := 1537
  interfaces := #[]
  cf := some (fileOf pool3 2 #[] #[] 1537 4 #[] #[])
  fields := #[]
  methods := #[]
  instanceTypes := #[]
  staticTypes := #[]
  resolved := Array.replicate 8 none
  statics := none }

def pool4 : Array CpInfo := pool [(1, u "java/io/Serializable"), (0, .class_ 1), (0, u "java/lang/Object"), (0, .class_ 3)] 3

/-- java/io/Serializable -/
def k4 : Class := { plain "java/io/Serializable" (some 0) with
  accessFlags := 1537
  interfaces := #[]
  cf := some (fileOf pool4 2 #[] #[] 1537 4 #[] #[])
  fields := #[]
  methods := #[]
  instanceTypes := #[]
  staticTypes := #[]
  resolved := Array.replicate 8 none
  statics := none }

/-- the primitive byte -/
def k5 : Class := { plain "byte" none with kind := .primitive 'B', accessFlags := 0x411 }
/-- [B -/
def k6 : Class := { plain "[B" (some 0) with kind := .array 5 .byte, interfaces := #[3, 4], accessFlags := 1041 }

/-- the primitive int -/
def k7 : Class := { plain "int" none with kind := .primitive 'I', accessFlags := 0x411 }
/-- [I -/
def k8 : Class := { plain "[I" (some 0) with kind := .array 7 .int, interfaces := #[3, 4], accessFlags := 1041 }

def heap : Heap := #[]
def classes : Array Class := #[k0, k1, k2, k3, k4, k5, k6, k7, k8]
def interned : List (Array UInt16 × Addr) := []
def slotsUsed : Nat := 0
def theMethod : MethodId := ⟨1, 2⟩
def args0 : Array Value := #[.int 5, .int 3]
def aboutOver (below : List Frame) : State where
  vm := { classes := classes, interned := interned.toArray }
  heap := heap
  slotsUsed := slotsUsed
  threads := #[{ frames := .invoking theMethod args0 :: below }]
def below0 : List Frame := [.native { method := ⟨0, 0⟩, args := #[] }]
def about1 : State := aboutOver below0
def p0 : Program := .bare "" "" ""
def e0 : Env := launch0.env 0 0 0
theorem w_frames : about1.frames = Frame.invoking theMethod args0 :: below0 := rfl
set_option maxRecDepth 65536 in
theorem w_args : argsFit about1.vm theMethod args0 = true := by decide +kernel
set_option maxRecDepth 65536 in
theorem w_heap : heapFits about1 = true := by decide +kernel
set_option maxRecDepth 65536 in
theorem w_runnable : about1.curStatus? = some .runnable := by decide +kernel
set_option maxRecDepth 65536 in
theorem w_alone : about1.alone = true := by decide +kernel
set_option maxRecDepth 65536 in
theorem w_named : about1.methodNamed? x = some theMethod := by decide +kernel
set_option maxRecDepth 65536 in
theorem w_hears : about1.hears theMethod below0 = true := by decide +kernel
set_option maxRecDepth 65536 in
theorem w_ripe : about1.ripe theMethod args0 below0 = true := by decide +kernel
theorem w_running : about1.status = .running := rfl
set_option maxRecDepth 65536 in
theorem w_room : about1.hasRoom e0.platform room_1 = true :=
  launch0.hasRoom_least _ room_1 (by decide +kernel) (by decide +kernel) (by decide +kernel) (by decide +kernel) (by decide +kernel) (by decide +kernel)
theorem allAtoms_all (ts : List Jvm.Cond) (a : Array Jvm.Value) (st : Jvm.State) : (allAtoms ts).before a st = ts.all (fun c => c.before a st) := by
  induction ts with
  | nil => rfl
  | cons c t ih =>
    show (Jvm.Cond.and c (allAtoms t)).before a st = _
    rw [Jvm.Cond.before_and, ih, List.all_cons]
def words1 : List Jvm.Cond := Jvm.Cond.code x code maxLocals ret :: tables_1
/-- a 'code' word, met by the world's own term for the bytes: nothing is compared byte by byte -/
theorem code_word {y : MethodName} {bytes : ByteArray} {mx : Nat} {rt : Option FieldType} {a : Array Value} {s : State} {m : MethodId} {meth : Method} {c : Code} (h1 : s.methodNamed? y = some m) (h2 : s.vm.method? m = some meth) (h3 : meth.code = some c) (h4 : c.code = bytes)
    (h5 : (c.maxLocals == mx && c.exceptionTable.isEmpty && decide (c.maxStack ≤ mostOperands) && decide (meth.sig.returnType = rt) && !meth.locks && decide (parseMethodDescriptor y.desc = some meth.sig)) = true) : (Jvm.Cond.code y bytes mx rt).before a s = true := by
  simp only [Bool.and_eq_true, beq_iff_eq, Bool.not_eq_true', decide_eq_true_eq] at h5
  obtain ⟨⟨⟨⟨⟨g1, g2⟩, g3⟩, g4⟩, g5⟩, g6⟩ := h5
  simp [Cond.before, Cond.holds, Cond.value, h1, h2, h3, h4, g1, g2, g3, g4, g5, g6]
def isCode : Jvm.Cond → Bool
  | .code _ _ _ _ => true
  | _ => false
theorem all_split {L : List Jvm.Cond} {P : Jvm.Cond → Bool} (h1 : L.all (fun c => isCode c || P c) = true) (h2 : ∀ c ∈ L.filter isCode, P c = true) : L.all P = true := by
  refine List.all_eq_true.mpr fun c hc => ?_
  have h := List.all_eq_true.mp h1 c hc
  rcases Bool.eq_false_or_eq_true (isCode c) with hi | hi
  · exact h2 c (List.mem_filter.mpr ⟨hc, hi⟩)
  · simpa [hi] using h
set_option maxRecDepth 65536 in
theorem w_c0 : (Jvm.Cond.code x code maxLocals ret).before args0 about1 = true := code_word (m := ⟨1, 2⟩) (meth := k1m2) (c := k1c2) (by decide +kernel) rfl rfl rfl (by decide +kernel)
set_option maxRecDepth 65536 in
theorem w_c1 : (Jvm.Cond.code ({ cls := "org/jadoube/io/PgnReader", name := "isNameCharacter", desc := "(I)Z" } : Jvm.MethodName) prog_30_method_12_code (1 : Nat) (Option.some Jvm.ClassFile.FieldType.boolean)).before args0 about1 = true := code_word (m := ⟨2, 0⟩) (meth := k2m0) (c := k2c0) (by decide +kernel) rfl rfl rfl (by decide +kernel)
set_option maxRecDepth 65536 in
theorem w_c2 : (Jvm.Cond.code ({ cls := "org/jadoube/io/PgnReaderIsNameCharacterPinLaw", name := "expected", desc := "(I)Z" } : Jvm.MethodName) method_2_code (7 : Nat) (Option.some Jvm.ClassFile.FieldType.boolean)).before args0 about1 = true := code_word (m := ⟨1, 1⟩) (meth := k1m1) (c := k1c1) (by decide +kernel) rfl rfl rfl (by decide +kernel)
def codes1 : List Jvm.Cond := [Jvm.Cond.code x code maxLocals ret, Jvm.Cond.code ({ cls := "org/jadoube/io/PgnReader", name := "isNameCharacter", desc := "(I)Z" } : Jvm.MethodName) prog_30_method_12_code (1 : Nat) (Option.some Jvm.ClassFile.FieldType.boolean), Jvm.Cond.code ({ cls := "org/jadoube/io/PgnReaderIsNameCharacterPinLaw", name := "expected", desc := "(I)Z" } : Jvm.MethodName) method_2_code (7 : Nat) (Option.some Jvm.ClassFile.FieldType.boolean)]
set_option maxRecDepth 65536 in
theorem codes_eq : words1.filter isCode = codes1 := rfl
theorem w_codes : ∀ c ∈ words1.filter isCode, c.before args0 about1 = true := by
  rw [codes_eq]
  intro c hc
  simp only [codes1, List.mem_cons, List.not_mem_nil, or_false] at hc
  rcases hc with rfl | rfl | rfl
  · exact w_c0
  · exact w_c1
  · exact w_c2
set_option maxRecDepth 65536 in
theorem w_t1 : words1.all (fun c => isCode c || c.before args0 about1) = true := by decide +kernel
theorem w_tables : (allAtoms (Jvm.Cond.code x code maxLocals ret :: tables_1)).before args0 about1 = true := by
  rw [allAtoms_all]
  show words1.all (fun c => c.before args0 about1) = true
  refine all_split ?_ w_codes
  rw [w_t1]
set_option maxRecDepth 65536 in
theorem w_case : (Jvm.Cond.and given_1 narrow_1).before args0 about1 = true := by decide +kernel
theorem w_applies : (headSpec (Jvm.Cond.code x code maxLocals ret :: tables_1) room_1).applies x e0.platform about1 = true :=
  (Spec.applies_iff w_frames).mpr ⟨w_running, w_runnable, w_alone, w_named, w_hears, w_ripe, w_room, w_tables⟩
theorem atStart : AtStart classFile x code maxLocals ret World_1 tables_1 room_1 Calls_1 rest_1 Pre_1 launch0 p0 e0 about1 theMethod args0 below0 :=
  ⟨lists_1, trivial, launch0.admits_env _ _ _, launch0.least_env, fairChoices_fair.cas, fairChoices_fair.clock, w_frames, w_args, w_heap, w_applies, trivial, trivial, w_case⟩
end start1
theorem witness_1 : WitnessClaimed_1 := ⟨start1.p0, start1.e0, start1.about1, start1.theMethod, start1.args0, start1.below0, start1.atStart⟩
end Jvm.Pilot.@@N@@
