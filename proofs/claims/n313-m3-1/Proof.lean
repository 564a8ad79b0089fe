import JvmDerived
import JvmDerived.Pilot.@@N@@Statement
import JvmDerived.Pilot.@@N@@Code
set_option linter.unusedVariables false
set_option linter.unusedSimpArgs false
namespace Jvm.Pilot.@@N@@
open Jvm Jvm.ClassFile Sem Op Lib Jvm.Free Jvm.Stand Jvm.LawKit Jvm.RoadKit Bundle Jvm.Pilot.@@N@@.Jvm.D
-- OWN KIT (mine): reach, finish, weakening of the counters, arrays by a function, arithmetic in omega's form
abbrev own_R (tb : Tables) (e : Env) (below : List Frame) (F0 F : State) : Prop := ∀ t, Steps tb e below F t → Steps tb e below F0 t
abbrev own_G (p : Program) (e : Env) (below : List Frame) (s F0 : State) (Q : Option Value → Heap → List Loc → Prop) (kc ks : Nat) : Prop :=
  ∃ s₂ o, Steps p.tables e below F0 s₂ ∧ s₂.status = .running ∧ Ended s₂ below o ∧ ∃ v L, o = .returned v ∧ Q v s₂.heap L ∧ FrameEnd s o s₂ L kc ks
section OwnKit
variable {p : Program} {l : Launch} {e : Env} {R : Room} {s : State} {m : MethodId} {args : Array Value} {below : List Frame} {meth : Method} {c : Code} {T : State} {locs : List Loc} {cells slots : Nat}
theorem own_fin (X : Stand p l e R s m args below meth c T locs cells slots) (hl : meth.locks = false) {F0 : State} {Q : Option Value → Heap → List Loc → Prop} {kc ks : Nat} (v : Option Value) (hv : meth.sig.returnType = none → v = none) (hq : Q v T.heap locs) (hc : cells ≤ kc) (hs : slots ≤ ks)
    (st : ∀ fs, (∀ (f : JFrame) (acts : List Action), f.method = m → f.locked = none → f.entered = [] → (doReturn e (T.setTop f) acts v).1 = T.setFrames fs) → Steps p.tables e below F0 (T.setFrames fs)) : own_G p e below s F0 Q kc ks := by
  obtain ⟨fs, hr, hrun, hended, hW, hsame⟩ := X.leave hv hl
  exact ⟨_, _, st fs hr, hrun, hended, _, _, rfl, hq, ⟨_, rfl⟩, hW, hsame.mono hc hs⟩
theorem own_mono (X : Stand p l e R s m args below meth c T locs cells slots) {c' s' : Nat} (hc : cells ≤ c') (hs : slots ≤ s') : Stand p l e R s m args below meth c T locs c' s' := { X with same := X.same.mono hc hs }
end OwnKit
theorem own_hv {meth : Method} {t : FieldType} {v : Option Value} (h : meth.sig.returnType = some t) : meth.sig.returnType = none → v = none := fun q => by rw [h] at q; cases q
theorem own_lt32 {a b : Int32} (h : a < b) : a.toInt < b.toInt := Int32.lt_iff_toInt_lt.mp h
theorem own_nlt32 {a b : Int32} (h : ¬ a < b) : b.toInt ≤ a.toInt := Int.not_lt.mp fun q => h (Int32.lt_iff_toInt_lt.mpr q)
theorem own_eq32 {a b : Int32} (h : a = b) : a.toInt = b.toInt := congrArg Int32.toInt h
theorem own_ne32 {a b : Int32} (h : ¬ a = b) : a.toInt ≠ b.toInt := fun q => h (Int32.toInt_inj.mp q)
theorem own_lt64 {a b : Int64} (h : a < b) : a.toInt < b.toInt := Int64.lt_iff_toInt_lt.mp h
theorem own_nlt64 {a b : Int64} (h : ¬ a < b) : b.toInt ≤ a.toInt := Int.not_lt.mp fun q => h (Int64.lt_iff_toInt_lt.mpr q)
theorem own_eq64 {a b : Int64} (h : a = b) : a.toInt = b.toInt := congrArg Int64.toInt h
theorem own_ne64 {a b : Int64} (h : ¬ a = b) : a.toInt ≠ b.toInt := fun q => h (Int64.toInt_inj.mp q)
theorem own_imulc (x y : Int32) (d : Int) (h : y.toInt = d) : ((x * y).toInt - x.toInt * d) % 4294967296 = 0 := by rw [← h]; exact c_imul x y
theorem own_imulc' (x y : Int32) (d : Int) (h : x.toInt = d) : ((x * y).toInt - d * y.toInt) % 4294967296 = 0 := by rw [← h]; exact c_imul x y
theorem own_lmulc (x y : Int64) (d : Int) (h : y.toInt = d) : ((x * y).toInt - x.toInt * d) % 18446744073709551616 = 0 := by rw [← h]; exact c_lmul x y
theorem own_lmulc' (x y : Int64) (d : Int) (h : x.toInt = d) : ((x * y).toInt - d * y.toInt) % 18446744073709551616 = 0 := by rw [← h]; exact c_lmul x y
theorem own_mask (x m : Int32) (k : Nat) (P : Int) (hk : k ≤ 31) (hm : m.toBitVec.toNat = 2 ^ k - 1) (hP : P = ((2 ^ k : Nat) : Int)) : (x &&& m).toInt = x.toInt % P := by rw [hP]; exact c_mask x m k hk hm
theorem own_maskL (x m : Int64) (k : Nat) (P : Int) (hk : k ≤ 63) (hm : m.toBitVec.toNat = 2 ^ k - 1) (hP : P = ((2 ^ k : Nat) : Int)) : (x &&& m).toInt = x.toInt % P := by rw [hP]; exact c_maskL x m k hk hm
theorem own_ishr (x q : Int32) (k : Nat) (P : Int) (hk : q.toBitVec.toNat % 32 = k) (hP : P = ((2 ^ k : Nat) : Int)) : (x >>> (q &&& 31)).toInt = x.toInt / P := by rw [hP]; exact c_ishr x q k hk
theorem own_ishl (x q : Int32) (k : Nat) (P : Int) (hk : q.toBitVec.toNat % 32 = k) (hP : P = ((2 ^ k : Nat) : Int)) : ((x <<< (q &&& 31)).toInt - x.toInt * P) % 4294967296 = 0 := by rw [hP]; exact c_ishl x q k hk
theorem own_iushr (x q : Int32) (k : Nat) (P : Int) (hk : q.toBitVec.toNat % 32 = k) (h0 : 0 < k) (hP : P = ((2 ^ k : Nat) : Int)) : ((x.toUInt32 >>> (q &&& 31).toUInt32).toInt32).toInt = (x.toInt % 4294967296) / P := by rw [hP]; exact c_iushr x q k hk h0
theorem own_lshr (x : Int64) (q : Int32) (k : Nat) (P : Int) (hk : q.toBitVec.toNat % 64 = k) (hP : P = ((2 ^ k : Nat) : Int)) : (x >>> (q &&& 0x3f).toInt64).toInt = x.toInt / P := by rw [hP]; exact c_lshr x q k hk
theorem own_lshl (x : Int64) (q : Int32) (k : Nat) (P : Int) (hk : q.toBitVec.toNat % 64 = k) (hP : P = ((2 ^ k : Nat) : Int)) : ((x <<< (q &&& 0x3f).toInt64).toInt - x.toInt * P) % 18446744073709551616 = 0 := by rw [hP]; exact c_lshl x q k hk
theorem own_lushr (x : Int64) (q : Int32) (k : Nat) (P : Int) (hk : q.toBitVec.toNat % 64 = k) (h0 : 0 < k) (hP : P = ((2 ^ k : Nat) : Int)) : ((x.toUInt64 >>> (q &&& 0x3f).toInt64.toUInt64).toInt64).toInt = (x.toInt % 18446744073709551616) / P := by rw [hP]; exact c_lushr x q k hk h0
theorem own_lc_lt {x y : Int64} {cd : ClassFile.Cond} {b : Bool} (h : if_icmp.holds cd (lcmpW x y) 0 = b) : ifCond.holds cd (lcmpW x y) = b := (if0 _ _).trans h
theorem own_l_lt {x y : Int64} (h : x < y) : ifCond.holds .lt (lcmpW x y) = true ∧ ifCond.holds .ge (lcmpW x y) = false := ⟨(if0 _ _).trans (tlt ((lw_lt x y).mpr h)).1, (if0 _ _).trans (tlt ((lw_lt x y).mpr h)).2.1⟩
theorem own_l_nlt {x y : Int64} (h : ¬ x < y) : ifCond.holds .lt (lcmpW x y) = false ∧ ifCond.holds .ge (lcmpW x y) = true := ⟨(if0 _ _).trans (flt (fun q => h ((lw_lt x y).mp q))).1, (if0 _ _).trans (flt (fun q => h ((lw_lt x y).mp q))).2.1⟩
theorem own_l_gt {x y : Int64} (h : y < x) : ifCond.holds .gt (lcmpW x y) = true ∧ ifCond.holds .le (lcmpW x y) = false := ⟨(if0 _ _).trans (tlt ((lw_gt x y).mpr h)).2.2.1, (if0 _ _).trans (tlt ((lw_gt x y).mpr h)).2.2.2⟩
theorem own_l_ngt {x y : Int64} (h : ¬ y < x) : ifCond.holds .gt (lcmpW x y) = false ∧ ifCond.holds .le (lcmpW x y) = true := ⟨(if0 _ _).trans (flt (fun q => h ((lw_gt x y).mp q))).2.2.1, (if0 _ _).trans (flt (fun q => h ((lw_gt x y).mp q))).2.2.2⟩
theorem own_l_eq {x y : Int64} (h : x = y) : ifCond.holds .eq (lcmpW x y) = true ∧ ifCond.holds .ne (lcmpW x y) = false := ⟨(if0 _ _).trans (teq ((lw_eq x y).mpr h)).1, (if0 _ _).trans (teq ((lw_eq x y).mpr h)).2⟩
theorem own_l_neq {x y : Int64} (h : ¬ x = y) : ifCond.holds .eq (lcmpW x y) = false ∧ ifCond.holds .ne (lcmpW x y) = true := ⟨(if0 _ _).trans (feq (fun q => h ((lw_eq x y).mp q))).1, (if0 _ _).trans (feq (fun q => h ((lw_eq x y).mp q))).2⟩
theorem own_lrem {x y : Int64} {d : Int} (hy : y.toInt = d) : (0 ≤ x.toInt → (x - (x / y) * y).toInt = x.toInt % d) ∧ (x.toInt < 0 → (x - (x / y) * y).toInt = -((-x.toInt) % d)) := c_lrem x y d hy
theorem own_lremf (x y : Int64) (d : Int) (hy : y.toInt = d) : (0 ≤ x.toInt → (x % y).toInt = x.toInt % d) ∧ (x.toInt < 0 → (x % y).toInt = -((-x.toInt) % d)) := by rw [Int64.toInt_mod, hy]; exact tr _ _
theorem own_lremM {p : Program} {l : Launch} {e : Env} {R : Room} {s : State} {m : MethodId} {args : Array Value} {below : List Frame} {meth : Method} {c : Code} {T : State} {locs : List Loc} {cells slots : Nat} {g : JFrame} {target : State} (X : Stand p l e R s m args below meth c T locs cells slots) (hx : p.tables.exec = Jvm.exec) (hg : g.method = m) {x y : Int64} {rest : List Value} (hd : decode c.code g.pc = .ok (.lrem, 1)) (hs : g.stack = .long y :: .long x :: rest) (hy : y ≠ 0)
    (hr : Steps p.tables e below (T.setTop { g with pc := g.pc + 1, stack := .long (x % y) :: rest }) target) : Steps p.tables e below (T.setTop g) target :=
  XS.lrem X.here hx hg hd hs hy (by rw [lrem_mod]; exact hr)
theorem own_R32 (x : Int32) : -2147483648 ≤ x.toInt ∧ x.toInt ≤ 2147483647 := by have := rng32 x; omega
theorem own_R64 (x : Int64) : -9223372036854775808 ≤ x.toInt ∧ x.toInt ≤ 9223372036854775807 := by have := rng64 x; omega
theorem own_iaddR {x y : Int32} {a b c d : Int} (lo hi : Int) (hx : a ≤ x.toInt ∧ x.toInt ≤ b) (hy : c ≤ y.toInt ∧ y.toInt ≤ d) (h1 : -2147483648 ≤ a + c ∧ b + d ≤ 2147483647) (h2 : lo ≤ a + c ∧ b + d ≤ hi) : (x + y).toInt = x.toInt + y.toInt ∧ lo ≤ (x + y).toInt ∧ (x + y).toInt ≤ hi := by have := c_iadd x y; have := rng32 (x + y); omega
theorem own_isubR {x y : Int32} {a b c d : Int} (lo hi : Int) (hx : a ≤ x.toInt ∧ x.toInt ≤ b) (hy : c ≤ y.toInt ∧ y.toInt ≤ d) (h1 : -2147483648 ≤ a - d ∧ b - c ≤ 2147483647) (h2 : lo ≤ a - d ∧ b - c ≤ hi) : (x - y).toInt = x.toInt - y.toInt ∧ lo ≤ (x - y).toInt ∧ (x - y).toInt ≤ hi := by have := c_isub x y; have := rng32 (x - y); omega
theorem own_laddR {x y : Int64} {a b c d : Int} (lo hi : Int) (hx : a ≤ x.toInt ∧ x.toInt ≤ b) (hy : c ≤ y.toInt ∧ y.toInt ≤ d) (h1 : -9223372036854775808 ≤ a + c ∧ b + d ≤ 9223372036854775807) (h2 : lo ≤ a + c ∧ b + d ≤ hi) : (x + y).toInt = x.toInt + y.toInt ∧ lo ≤ (x + y).toInt ∧ (x + y).toInt ≤ hi := by have := c_ladd x y; have := rng64 (x + y); omega
theorem own_lsubR {x y : Int64} {a b c d : Int} (lo hi : Int) (hx : a ≤ x.toInt ∧ x.toInt ≤ b) (hy : c ≤ y.toInt ∧ y.toInt ≤ d) (h1 : -9223372036854775808 ≤ a - d ∧ b - c ≤ 9223372036854775807) (h2 : lo ≤ a - d ∧ b - c ≤ hi) : (x - y).toInt = x.toInt - y.toInt ∧ lo ≤ (x - y).toInt ∧ (x - y).toInt ≤ hi := by have := c_lsub x y; have := rng64 (x - y); omega
theorem own_imulR {x y : Int32} {a b k : Int} (lo hi : Int) (hx : a ≤ x.toInt ∧ x.toInt ≤ b) (hy : y.toInt = k) (hk : 0 ≤ k) (h1 : -2147483648 ≤ a * k ∧ b * k ≤ 2147483647) (h2 : lo ≤ a * k ∧ b * k ≤ hi) : (x * y).toInt = x.toInt * k ∧ lo ≤ (x * y).toInt ∧ (x * y).toInt ≤ hi := by
  have h := c_imul x y; have := rng32 (x * y); rw [hy] at h
  have p1 := Int.mul_le_mul_of_nonneg_right hx.1 hk; have p2 := Int.mul_le_mul_of_nonneg_right hx.2 hk
  generalize x.toInt * k = z at *; generalize a * k = z1 at *; generalize b * k = z2 at *; omega
theorem own_lmulR {x y : Int64} {a b k : Int} (lo hi : Int) (hx : a ≤ x.toInt ∧ x.toInt ≤ b) (hy : y.toInt = k) (hk : 0 ≤ k) (h1 : -9223372036854775808 ≤ a * k ∧ b * k ≤ 9223372036854775807) (h2 : lo ≤ a * k ∧ b * k ≤ hi) : (x * y).toInt = x.toInt * k ∧ lo ≤ (x * y).toInt ∧ (x * y).toInt ≤ hi := by
  have h := c_lmul x y; have := rng64 (x * y); rw [hy] at h
  have p1 := Int.mul_le_mul_of_nonneg_right hx.1 hk; have p2 := Int.mul_le_mul_of_nonneg_right hx.2 hk
  generalize x.toInt * k = z at *; generalize a * k = z1 at *; generalize b * k = z2 at *; omega
theorem own_imulR' {x y : Int32} {a b k : Int} (lo hi : Int) (hx : a ≤ y.toInt ∧ y.toInt ≤ b) (hy : x.toInt = k) (hk : 0 ≤ k) (h1 : -2147483648 ≤ a * k ∧ b * k ≤ 2147483647) (h2 : lo ≤ a * k ∧ b * k ≤ hi) : (x * y).toInt = y.toInt * k ∧ lo ≤ (x * y).toInt ∧ (x * y).toInt ≤ hi := by rw [Int32.mul_comm]; exact own_imulR lo hi hx hy hk h1 h2
theorem own_lmulR' {x y : Int64} {a b k : Int} (lo hi : Int) (hx : a ≤ y.toInt ∧ y.toInt ≤ b) (hy : x.toInt = k) (hk : 0 ≤ k) (h1 : -9223372036854775808 ≤ a * k ∧ b * k ≤ 9223372036854775807) (h2 : lo ≤ a * k ∧ b * k ≤ hi) : (x * y).toInt = y.toInt * k ∧ lo ≤ (x * y).toInt ∧ (x * y).toInt ≤ hi := by rw [Int64.mul_comm]; exact own_lmulR lo hi hx hy hk h1 h2
theorem own_maskR (x m : Int32) (k : Nat) (P : Int) (hk : k ≤ 31) (hm : m.toBitVec.toNat = 2 ^ k - 1) (hP : P = ((2 ^ k : Nat) : Int)) (hi : Int) (h0 : 0 < P) (h : P ≤ hi + 1) : (x &&& m).toInt = x.toInt % P ∧ 0 ≤ (x &&& m).toInt ∧ (x &&& m).toInt ≤ hi := by
  have e := own_mask x m k P hk hm hP; have h1 := Int.emod_nonneg x.toInt (show P ≠ 0 by omega); have h2 := Int.emod_lt_of_pos x.toInt h0; omega
theorem own_maskLR (x m : Int64) (k : Nat) (P : Int) (hk : k ≤ 63) (hm : m.toBitVec.toNat = 2 ^ k - 1) (hP : P = ((2 ^ k : Nat) : Int)) (hi : Int) (h0 : 0 < P) (h : P ≤ hi + 1) : (x &&& m).toInt = x.toInt % P ∧ 0 ≤ (x &&& m).toInt ∧ (x &&& m).toInt ≤ hi := by
  have e := own_maskL x m k P hk hm hP; have h1 := Int.emod_nonneg x.toInt (show P ≠ 0 by omega); have h2 := Int.emod_lt_of_pos x.toInt h0; omega
theorem own_iremR {x y : Int32} {a b d : Int} (hi : Int) (hx : a ≤ x.toInt ∧ x.toInt ≤ b) (hy : y.toInt = d) (ha : 0 ≤ a) (hd : 0 < d) (h : d ≤ hi + 1) : (x % y).toInt = x.toInt % d ∧ 0 ≤ (x % y).toInt ∧ (x % y).toInt ≤ hi := by
  have e := (c_irem x y d hy).1 (by omega); have h1 := Int.emod_nonneg x.toInt (show d ≠ 0 by omega); have h2 := Int.emod_lt_of_pos x.toInt hd; omega
theorem own_lremR {x y : Int64} {a b d : Int} (hi : Int) (hx : a ≤ x.toInt ∧ x.toInt ≤ b) (hy : y.toInt = d) (ha : 0 ≤ a) (hd : 0 < d) (h : d ≤ hi + 1) : (x % y).toInt = x.toInt % d ∧ 0 ≤ (x % y).toInt ∧ (x % y).toInt ≤ hi := by
  have e := (own_lremf x y d hy).1 (by omega); have h1 := Int.emod_nonneg x.toInt (show d ≠ 0 by omega); have h2 := Int.emod_lt_of_pos x.toInt hd; omega
theorem own_idivR {x y : Int32} {a b d : Int} (lo hi : Int) (hx : a ≤ x.toInt ∧ x.toInt ≤ b) (hy : y.toInt = d) (hy1 : y ≠ -1) (ha : 0 ≤ a) (hd : 0 < d) (h : lo ≤ a / d ∧ b / d ≤ hi) : (x / y).toInt = x.toInt / d ∧ lo ≤ (x / y).toInt ∧ (x / y).toInt ≤ hi := by
  have e := (c_idiv x y d hy hy1).1 (by omega); have h1 := Int.ediv_le_ediv hd hx.1; have h2 := Int.ediv_le_ediv hd hx.2; omega
theorem own_ldivR {x y : Int64} {a b d : Int} (lo hi : Int) (hx : a ≤ x.toInt ∧ x.toInt ≤ b) (hy : y.toInt = d) (hy1 : y ≠ -1) (ha : 0 ≤ a) (hd : 0 < d) (h : lo ≤ a / d ∧ b / d ≤ hi) : (x / y).toInt = x.toInt / d ∧ lo ≤ (x / y).toInt ∧ (x / y).toInt ≤ hi := by
  have e := (c_ldiv x y d hy hy1).1 (by omega); have h1 := Int.ediv_le_ediv hd hx.1; have h2 := Int.ediv_le_ediv hd hx.2; omega
theorem own_l2iR {x : Int64} {a b : Int} (hx : a ≤ x.toInt ∧ x.toInt ≤ b) (h1 : -2147483648 ≤ a ∧ b ≤ 2147483647) : x.toInt32.toInt = x.toInt ∧ a ≤ x.toInt32.toInt ∧ x.toInt32.toInt ≤ b := by have := c_l2i x; have := rng32 x.toInt32; omega
theorem own_i2lR {x : Int32} {a b : Int} (hx : a ≤ x.toInt ∧ x.toInt ≤ b) : x.toInt64.toInt = x.toInt ∧ a ≤ x.toInt64.toInt ∧ x.toInt64.toInt ≤ b := by have := c_i2l x; omega
theorem own_eqR32 {x y : Int32} {a b : Int} (h : x = y) (hy : a ≤ y.toInt ∧ y.toInt ≤ b) : x.toInt = y.toInt ∧ a ≤ x.toInt ∧ x.toInt ≤ b := by subst h; exact ⟨rfl, hy⟩
theorem own_eqR64 {x y : Int64} {a b : Int} (h : x = y) (hy : a ≤ y.toInt ∧ y.toInt ≤ b) : x.toInt = y.toInt ∧ a ≤ x.toInt ∧ x.toInt ≤ b := by subst h; exact ⟨rfl, hy⟩
theorem own_lushrR {x : Int64} {a b : Int} (q : Int32) (k : Nat) (P lo hi : Int) (hx : a ≤ x.toInt ∧ x.toInt ≤ b) (ha : 0 ≤ a) (hk : q.toBitVec.toNat % 64 = k) (h0 : 0 < k) (hP : P = ((2 ^ k : Nat) : Int)) (hPp : 0 < P) (h : lo ≤ a / P ∧ b / P ≤ hi) : ((x.toUInt64 >>> (q &&& 0x3f).toInt64.toUInt64).toInt64).toInt = x.toInt / P ∧ lo ≤ ((x.toUInt64 >>> (q &&& 0x3f).toInt64.toUInt64).toInt64).toInt ∧ ((x.toUInt64 >>> (q &&& 0x3f).toInt64.toUInt64).toInt64).toInt ≤ hi := by
  have e := own_lushr x q k P hk h0 hP; have := rng64 x; rw [Int.emod_eq_of_lt (by omega) (by omega)] at e; have h1 := Int.ediv_le_ediv hPp hx.1; have h2 := Int.ediv_le_ediv hPp hx.2; omega
theorem own_iushrR {x : Int32} {a b : Int} (q : Int32) (k : Nat) (P lo hi : Int) (hx : a ≤ x.toInt ∧ x.toInt ≤ b) (ha : 0 ≤ a) (hk : q.toBitVec.toNat % 32 = k) (h0 : 0 < k) (hP : P = ((2 ^ k : Nat) : Int)) (hPp : 0 < P) (h : lo ≤ a / P ∧ b / P ≤ hi) : ((x.toUInt32 >>> (q &&& 31).toUInt32).toInt32).toInt = x.toInt / P ∧ lo ≤ ((x.toUInt32 >>> (q &&& 31).toUInt32).toInt32).toInt ∧ ((x.toUInt32 >>> (q &&& 31).toUInt32).toInt32).toInt ≤ hi := by
  have e := own_iushr x q k P hk h0 hP; have := rng32 x; rw [Int.emod_eq_of_lt (by omega) (by omega)] at e; have h1 := Int.ediv_le_ediv hPp hx.1; have h2 := Int.ediv_le_ediv hPp hx.2; omega
-- OWN KIT 1 (mine): an array by a function of its places
def own_Arf (Z : State) (h : Heap) (a : Addr) (ty : FieldType) (n : Nat) (f : Nat → Value) : Prop := ∃ c : Cell, Arr Z h a c ty ∧ c.slots.size = n ∧ n < 2 ^ 31 ∧ ∀ j, j < n → c.slots[j]? = some (f j)
section OwnArf
variable {Z : State} {h h' : Heap} {a b : Addr} {ty : FieldType} {n : Nat} {f f' : Nat → Value} {sl : Nat} {v : Value} {ws : List Addr}
theorem own_Arf.lt (F : own_Arf Z h a ty n f) : a < h.size := by obtain ⟨c, A, -⟩ := F; exact A.lt
theorem own_Arf.ext (F : own_Arf Z h a ty n f) (E : Ext h h') : own_Arf Z h' a ty n f := by obtain ⟨c, A, r⟩ := F; exact ⟨c, A.ext E, r⟩
theorem own_Arf.other (F : own_Arf Z h b ty n f) (W : Wr h h' a sl v) (q : b ≠ a) : own_Arf Z h' b ty n f := by obtain ⟨c, A, r⟩ := F; exact ⟨c, A.other W q, r⟩
theorem own_Arf.keep (F : own_Arf Z h a ty n f) (K : Keep h h' ws) (q : a ∉ ws) : own_Arf Z h' a ty n f := by obtain ⟨c, A, r⟩ := F; exact ⟨c, ⟨K.2.1 a c A.1 q, A.2⟩, r⟩
theorem own_Arf.cong (F : own_Arf Z h a ty n f) (q : ∀ j, j < n → f j = f' j) : own_Arf Z h a ty n f' := by obtain ⟨c, A, r1, r2, r3⟩ := F; exact ⟨c, A, r1, r2, fun j hj => (q j hj) ▸ r3 j hj⟩
theorem own_Arf.new {k : ClassId} {z : Int32} (A : Arr Z h a (newA k ty z) ty) (q : ¬ z < 0) : own_Arf Z h a ty z.toNatClampNeg (fun _ => defaultValue ty) :=
  ⟨_, A, sz_new _ _ _, (back32 q).2, fun j hj => by simp [newA, hj]⟩
theorem own_inb {j : Int32} {n : Nat} (h1 : 0 ≤ j.toInt) (h2 : j.toInt < n) : ¬ (j < 0 ∨ n ≤ j.toNatClampNeg) := by
  have q : j.toNatClampNeg = j.toInt.toNat := rfl
  rintro (p | p)
  · have := Int32.lt_iff_toInt_lt.mp p; rw [show (0 : Int32).toInt = 0 from rfl] at this; omega
  · rw [q] at p; omega
theorem own_set {c : Cell} {k : Nat} (A : Arr Z h a c ty) (S : c.slots.size = n) (hn : n < 2 ^ 31) (H : ∀ j, j < n → c.slots[j]? = some (f j)) (W : Wr h h' a k v) (hk : k < n) : own_Arf Z h' a ty n (fun i => if i = k then v else f i) := by
  refine ⟨_, A.same W, by rw [sz_set]; exact S, hn, fun j hj => ?_⟩
  by_cases q : j = k
  · subst q; simp [Cell.setSlot, S, hj]
  · show _ = some (if j = k then v else f j)
    rw [if_neg q, ← H j hj]; exact Array.getElem?_setIfInBounds_ne (Ne.symm q)
variable {p : Program} {l : Launch} {e : Env} {R : Room} {s : State} {m : MethodId} {args : Array Value} {below : List Frame} {meth : Method} {c : Code} {T : State} {locs : List Loc} {cells slots : Nat}
theorem own_ld {A : Prop} {j : Int32} (F : own_Arf Z h a ty n f) (h1 : 0 ≤ j.toInt) (h2 : j.toInt < n) (k : ∀ c : Cell, Arr Z h a c ty → ¬ (j < 0 ∨ c.slots.size ≤ j.toNatClampNeg) → c.slots[j.toNatClampNeg]? = some (f j.toNatClampNeg) → A) : A := by
  obtain ⟨c, Ar, S, hn, H⟩ := F
  exact k c Ar (by rw [S]; exact own_inb h1 h2) (H _ (by have q : j.toNatClampNeg = j.toInt.toNat := rfl; omega))
theorem own_iaload (X : Stand p l e R s m args below meth c T locs cells slots) (hx : p.tables.exec = Jvm.exec) (hZ : Z.Warmed39 s.vm) (eT : T.heap = h) {j : Int32} (F : own_Arf Z h a .int n f) (h1 : 0 ≤ j.toInt) (h2 : j.toInt < n) {w : Value} (hv : f j.toNatClampNeg = w) {g : JFrame} (hg : g.method = m) {rest : List Value} (hs : g.stack = .int j :: .ref a :: rest) (hd : decode c.code g.pc = .ok (.iaload, 1)) :
    ∀ target, Steps p.tables e below (T.setTop { g with pc := g.pc + 1, stack := w :: rest }) target → Steps p.tables e below (T.setTop g) target := by
  subst hv
  exact own_ld F h1 h2 fun cl Ar hin hat => X.iaload hx (j := j) (by rw [eT]; exact Ar.1) (State.isArrayOf_alike hZ.alike Ar.2.1) Ar.2.2 hin hat hg hs hd
theorem own_baloadB (X : Stand p l e R s m args below meth c T locs cells slots) (hx : p.tables.exec = Jvm.exec) (hZ : Z.Warmed39 s.vm) (eT : T.heap = h) {j : Int32} (F : own_Arf Z h a .byte n f) (h1 : 0 ≤ j.toInt) (h2 : j.toInt < n) {w : Value} (hv : f j.toNatClampNeg = w) {g : JFrame} (hg : g.method = m) {rest : List Value} (hs : g.stack = .int j :: .ref a :: rest) (hd : decode c.code g.pc = .ok (.baload, 1)) :
    ∀ target, Steps p.tables e below (T.setTop { g with pc := g.pc + 1, stack := w :: rest }) target → Steps p.tables e below (T.setTop g) target := by
  subst hv
  exact own_ld F h1 h2 fun cl Ar hin hat => X.baloadBytes hx (j := j) (by rw [eT]; exact Ar.1) (State.isArrayOf_alike hZ.alike Ar.2.1) Ar.2.2 hin hat hg hs hd
theorem own_baloadZ (X : Stand p l e R s m args below meth c T locs cells slots) (hx : p.tables.exec = Jvm.exec) (hZ : Z.Warmed39 s.vm) (eT : T.heap = h) {j : Int32} (F : own_Arf Z h a .boolean n f) (h1 : 0 ≤ j.toInt) (h2 : j.toInt < n) {w : Value} (hv : f j.toNatClampNeg = w) {g : JFrame} (hg : g.method = m) {rest : List Value} (hs : g.stack = .int j :: .ref a :: rest) (hd : decode c.code g.pc = .ok (.baload, 1)) :
    ∀ target, Steps p.tables e below (T.setTop { g with pc := g.pc + 1, stack := w :: rest }) target → Steps p.tables e below (T.setTop g) target := by
  subst hv
  exact own_ld F h1 h2 fun cl Ar hin hat => X.baloadBooleans hx (j := j) (by rw [eT]; exact Ar.1) (State.isArrayOf_alike hZ.alike Ar.2.1) Ar.2.2 hin hat hg hs hd
theorem own_len32 {c : Cell} {n : Nat} (S : c.slots.size = n) {z : Int32} (hz : z = Int32.ofNat n) : c.slots.size.toInt32 = z := by rw [S, hz]
theorem own_alen (X : Stand p l e R s m args below meth c T locs cells slots) (hx : p.tables.exec = Jvm.exec) (hZ : Z.Warmed39 s.vm) (eT : T.heap = h) (F : own_Arf Z h a ty n f) (z : Int32) (hz : z = Int32.ofNat n) {g : JFrame} (hg : g.method = m) {rest : List Value} (hs : g.stack = .ref a :: rest) (hd : decode c.code g.pc = .ok (.arraylength, 1)) :
    ∀ target, Steps p.tables e below (T.setTop { g with pc := g.pc + 1, stack := .int z :: rest }) target → Steps p.tables e below (T.setTop g) target := by
  obtain ⟨cl, Ar, S, hn, H⟩ := F
  intro t k
  refine X.arraylength hx (cell := cl) (by rw [eT]; exact Ar.1) (State.isArrayOf_alike hZ.alike Ar.2.1) hg hs hd t ?_
  rw [own_len32 S hz]; exact k
theorem own_stI (X : Stand p l e R s m args below meth c T locs cells slots) (hx : p.tables.exec = Jvm.exec) (hZ : Z.Warmed39 s.vm) (eT : T.heap = h) {j x : Int32} (F : own_Arf Z h a .int n f) (h1 : 0 ≤ j.toInt) (h2 : j.toInt < n) {g : JFrame} (hg : g.method = m) {rest : List Value} (hs : g.stack = .int x :: .int j :: .ref a :: rest) (hd : decode c.code g.pc = .ok (.iastore, 1)) :
    ∃ T' h', Stand p l e R s m args below meth c T' (locs ++ [⟨a, j.toNatClampNeg⟩]) cells slots ∧ T'.heap = h' ∧ Wr h h' a j.toNatClampNeg (.int x) ∧ own_Arf Z h' a .int n (fun i => if i = j.toNatClampNeg then .int x else f i) ∧ ∀ target, Steps p.tables e below (T'.setTop { g with pc := g.pc + 1, stack := rest }) target → Steps p.tables e below (T.setTop g) target := by
  obtain ⟨cl, Ar, S, hn, H⟩ := F
  have hin : ¬ (j < 0 ∨ cl.slots.size ≤ j.toNatClampNeg) := by rw [S]; exact own_inb h1 h2
  obtain ⟨T', h', X', e', W, st⟩ := stI X hx hZ eT Ar (j := j) hin hg hs hd
  exact ⟨T', h', X', e', W, own_set Ar S hn H W (by have q : j.toNatClampNeg = j.toInt.toNat := rfl; omega), st⟩
theorem own_stB (X : Stand p l e R s m args below meth c T locs cells slots) (hx : p.tables.exec = Jvm.exec) (hZ : Z.Warmed39 s.vm) (eT : T.heap = h) {j x : Int32} (F : own_Arf Z h a .byte n f) (h1 : 0 ≤ j.toInt) (h2 : j.toInt < n) {g : JFrame} (hg : g.method = m) {rest : List Value} (hs : g.stack = .int x :: .int j :: .ref a :: rest) (hd : decode c.code g.pc = .ok (.bastore, 1)) :
    ∃ T' h', Stand p l e R s m args below meth c T' (locs ++ [⟨a, j.toNatClampNeg⟩]) cells slots ∧ T'.heap = h' ∧ Wr h h' a j.toNatClampNeg (.int (nar .byte x)) ∧ own_Arf Z h' a .byte n (fun i => if i = j.toNatClampNeg then .int (nar .byte x) else f i) ∧ ∀ target, Steps p.tables e below (T'.setTop { g with pc := g.pc + 1, stack := rest }) target → Steps p.tables e below (T.setTop g) target := by
  obtain ⟨cl, Ar, S, hn, H⟩ := F
  have hin : ¬ (j < 0 ∨ cl.slots.size ≤ j.toNatClampNeg) := by rw [S]; exact own_inb h1 h2
  obtain ⟨T', h', X', e', W, st⟩ := stB X hx hZ eT Ar (j := j) hin hg hs hd
  exact ⟨T', h', X', e', W, own_set Ar S hn H W (by have q : j.toNatClampNeg = j.toInt.toNat := rfl; omega), st⟩
theorem own_stZ (X : Stand p l e R s m args below meth c T locs cells slots) (hx : p.tables.exec = Jvm.exec) (hZ : Z.Warmed39 s.vm) (eT : T.heap = h) {j x : Int32} (F : own_Arf Z h a .boolean n f) (h1 : 0 ≤ j.toInt) (h2 : j.toInt < n) {g : JFrame} (hg : g.method = m) {rest : List Value} (hs : g.stack = .int x :: .int j :: .ref a :: rest) (hd : decode c.code g.pc = .ok (.bastore, 1)) :
    ∃ T' h', Stand p l e R s m args below meth c T' (locs ++ [⟨a, j.toNatClampNeg⟩]) cells slots ∧ T'.heap = h' ∧ Wr h h' a j.toNatClampNeg (.int (nar .boolean x)) ∧ own_Arf Z h' a .boolean n (fun i => if i = j.toNatClampNeg then .int (nar .boolean x) else f i) ∧ ∀ target, Steps p.tables e below (T'.setTop { g with pc := g.pc + 1, stack := rest }) target → Steps p.tables e below (T.setTop g) target := by
  obtain ⟨cl, Ar, S, hn, H⟩ := F
  have hin : ¬ (j < 0 ∨ cl.slots.size ≤ j.toNatClampNeg) := by rw [S]; exact own_inb h1 h2
  obtain ⟨T', h', X', e', W, st⟩ := stZ X hx hZ eT Ar (j := j) hin hg hs hd
  exact ⟨T', h', X', e', W, own_set Ar S hn H W (by have q : j.toNatClampNeg = j.toInt.toNat := rfl; omega), st⟩
end OwnArf
theorem own_clamp {i : Int32} {k : Nat} (h : i.toInt = k) : i.toNatClampNeg = k := by show i.toInt.toNat = k; omega
theorem own_tabArf {s : State} {a : Addr} {cl : Cell} {ty : FieldType} {n : Nat} (hf : Fit s) (A : Arr s s.heap a cl ty) (ht : ty = .int ∨ ty = .boolean ∨ ty = .byte ∨ ty = .char ∨ ty = .short) (S : cl.slots.size = n) (hn : n < 2 ^ 31) : ∃ g : Nat → Int32, own_Arf s s.heap a ty n (fun i => .int (g i)) := by
  refine ⟨fun i => atv cl (Int32.ofNat i), cl, A, S, hn, fun j hj => ?_⟩
  have e1 : (Int32.ofNat j).toInt = j := Int32.toInt_ofNat_of_lt (by omega)
  have e2 : (Int32.ofNat j).toNatClampNeg = j := by show (Int32.ofNat j).toInt.toNat = j; omega
  have hin : ¬ (Int32.ofNat j < 0 ∨ cl.slots.size ≤ (Int32.ofNat j).toNatClampNeg) := by rw [S]; exact own_inb (by omega) (by omega)
  obtain ⟨v, h1, h2⟩ := elem_fit hf A hin
  obtain ⟨x, rfl⟩ := fit_I h2 ht
  show cl.slots[j]? = some (.int (atv cl (Int32.ofNat j)))
  rw [atv_of h1, ← e2]; exact h1
theorem own_lenOf {args : Array Value} {s : State} {t : Term} {a : Addr} {cl : Cell} {ty : FieldType} {k : Int32} (ev : t.eval args s none [] s = some (.ref a)) (A : Arr s s.heap a cl ty) (h : (Cond.eq (.length t) (.int k)).value args s none s [] = some true) (hk : 0 ≤ k.toInt) : cl.slots.size = k.toInt.toNat ∧ cl.slots.size < 2 ^ 31 := by
  have ha := A.fin (Vm.Alike.refl _)
  by_cases q : cl.slots.size < 2 ^ 31
  · have e1 : (Term.length t).eval args s none [] s = some (.int cl.slots.size.toInt32) := len_f ev ha q
    have e2 : cl.slots.size.toInt32 = k := by
      have hh := h
      simp only [Cond.value] at hh
      rw [e1] at hh
      simpa [Term.eval] using hh
    have e3 := len_toInt q
    rw [e2] at e3
    exact ⟨by omega, q⟩
  · exfalso
    have e1 : (Term.length t).eval args s none [] s = none := by simp [Term.eval, ev, ha, q]
    simp [Cond.value, e1] at h
theorem own_nameI {Z : State} {h : Heap} {a : Addr} {ty : FieldType} {n k : Nat} {g : Nat → Int32} {x : Int32} (V : own_Arf Z h a ty n (fun i => if i = k then .int x else .int (g i))) : ∃ g' : Nat → Int32, (∀ i, g' i = if i = k then x else g i) ∧ own_Arf Z h a ty n (fun i => .int (g' i)) :=
  ⟨fun i => if i = k then x else g i, fun _ => rfl, V.cong (fun i _ => by by_cases q : i = k <;> simp [q])⟩
theorem own_nameD {Z : State} {h : Heap} {a : Addr} {ty : FieldType} {n k : Nat} {g : Nat → UInt64} {x : UInt64} (V : own_Arf Z h a ty n (fun i => if i = k then .double x else .double (g i))) : ∃ g' : Nat → UInt64, (∀ i, g' i = if i = k then x else g i) ∧ own_Arf Z h a ty n (fun i => .double (g' i)) :=
  ⟨fun i => if i = k then x else g i, fun _ => rfl, V.cong (fun i _ => by by_cases q : i = k <;> simp [q])⟩
theorem own_natOf {i : Int32} {lo hi : Int} (h1 : 0 ≤ i.toInt) : ∃ k : Nat, i.toInt = k := ⟨i.toInt.toNat, by omega⟩
theorem own_tn {i : Int32} {k : Nat} (h : i.toInt = k) : i.toBitVec.toNat = k := by
  have h1 : i.toBitVec.toInt = k := h
  have h2 := BitVec.toInt_eq_toNat_cond i.toBitVec
  have h3 := i.toBitVec.isLt
  rw [h1] at h2
  split at h2 <;> omega
theorem pn_0 : plainName "org/jadoube/rules/MoveGenerator" = true := by first | (simp [plainName, overriddenIn]; done) | decide +kernel
theorem d1_0 : decode prog_71_method_3_code 0 = .ok (.iconst 0, 1) := by decide +kernel
theorem d1_1 : decode prog_71_method_3_code 1 = .ok (.istore_n 3, 1) := by decide +kernel
theorem d1_2 : decode prog_71_method_3_code 2 = .ok (.iload_n 3, 1) := by decide +kernel
theorem d1_3 : decode prog_71_method_3_code 3 = .ok (.iload_n 2, 1) := by decide +kernel
theorem d1_4 : decode prog_71_method_3_code 4 = .ok (.if_icmp .ge 18, 3) := by decide +kernel
theorem d1_7 : decode prog_71_method_3_code 7 = .ok (.aload_n 1, 1) := by decide +kernel
theorem d1_8 : decode prog_71_method_3_code 8 = .ok (.iload_n 3, 1) := by decide +kernel
theorem d1_9 : decode prog_71_method_3_code 9 = .ok (.iaload, 1) := by decide +kernel
theorem d1_10 : decode prog_71_method_3_code 10 = .ok (.iload_n 0, 1) := by decide +kernel
theorem d1_11 : decode prog_71_method_3_code 11 = .ok (.if_icmp .ne 5, 3) := by decide +kernel
theorem d1_14 : decode prog_71_method_3_code 14 = .ok (.iconst 1, 1) := by decide +kernel
theorem d1_15 : decode prog_71_method_3_code 15 = .ok (.ireturn, 1) := by decide +kernel
theorem d1_16 : decode prog_71_method_3_code 16 = .ok (.iinc 3 1, 3) := by decide +kernel
theorem d1_19 : decode prog_71_method_3_code 19 = .ok (.goto (-17), 3) := by decide +kernel
theorem d1_22 : decode prog_71_method_3_code 22 = .ok (.iconst 0, 1) := by decide +kernel
theorem d1_23 : decode prog_71_method_3_code 23 = .ok (.ireturn, 1) := by decide +kernel
theorem ef_1 (m : MethodId) (x0 : Int32) (x1 : Addr) (x2 : Int32) : entryFrame m #[(.int x0), (.ref x1), (.int x2)] 4 = mkF m 0 #[.val (.int x0), .val (.ref x1), .val (.int x2), .unset] [] := by first | (simp [entryFrame, mkF, argsToLocals, Value.category]; done) | rfl
def Q1 (Z : State) (p0 : Int32) (a1 : Addr) (p2 : Int32) (n : Nat) (g : Nat → Int32) (h0 : Heap) (n0 : Nat) (v : Option Value) (h : Heap) (L : List Loc) : Prop := ∃ (r : Int32), v = some (.int r) ∧ Fr n0 L ∧ h = h0 ∧ ((r = 1 ∧ ∃ j : Nat, (j : Int) < p2.toInt ∧ g j = p0) ∨ (r = 0 ∧ ∀ j : Nat, (j : Int) < p2.toInt → g j ≠ p0))
set_option maxRecDepth 65536 in
set_option maxHeartbeats 40000000 in
theorem rm1 (l : Launch) (Z : State) (a0 : Array Value) (hw : ∀ d ∈ tables_1, d.before a0 Z = true) (ws : List Jvm.Cond) (p0 : Int32) (a1 : Addr) (p2 : Int32) (n : Nat) (g : Nat → Int32) (h0 : Heap) (n0 : Nat) (Z0 : n0 ≤ h0.size) (A1 : own_Arf Z h0 a1 .int n (fun i => (.int (g i)))) (hcn : p2.toInt ≤ n) :
    MetFree l (⟨"org/jadoube/rules/MoveGenerator", "isAmong", "(I[II)Z"⟩ : MethodName) (head1 (Jvm.Cond.code (⟨"org/jadoube/rules/MoveGenerator", "isAmong", "(I[II)Z"⟩ : MethodName) prog_71_method_3_code 4 (some .boolean) :: ws) ({ frames := 0, cells := 0, slots := 0, locals := 0 } : Room)) (fun a U => a = #[(.int p0), (.ref a1), (.int p2)] ∧ Z.Warmed39 U.vm ∧ U.heap = h0) (fun _ _ _ _ _ => True) (fun _ U o U' => ∃ v L, o = .returned v ∧ Q1 Z p0 a1 p2 n g h0 n0 v U'.heap L ∧ FrameEnd U o U' L ({ frames := 0, cells := 0, slots := 0, locals := 0 } : Room).cells ({ frames := 0, cells := 0, slots := 0, locals := 0 } : Room).slots) := by
  refine MetFree.of_bodySF (plainFor_of_name pn_0) hisR ?_
  intro p e s m args below meth c s₁ Bd hml0 hP hK
  obtain ⟨rfl, hZ, hh⟩ := hP
  have hx := Bd.exec
  have hby := Bd.bytes
  have hml : c.maxLocals = 4 := hml0
  have hown : s.vm.findClass "org/jadoube/rules/MoveGenerator" = some m.cls := findClass_of_methodNamed Bd.named
  have hnm := (name_of_methodNamed Bd.named Bd.method).1
  have hlk : meth.locks = false := BodyLoose.notSynchronized Bd
  have X0 : Stand p l e ({ frames := 0, cells := 0, slots := 0, locals := 0 } : Room) s m #[(.int p0), (.ref a1), (.int p2)] below meth c s₁ [] 0 0 := Stand.of_body Bd
  have e0 : s₁.heap = h0 := by rw [← hh, Bd.state]; rfl
  have N0 := Fr.nil n0
  have K0 : Keep h0 h0 [] := Keep.refl h0 _
  have key : ∀ (F0 : State) (G : Prop), (own_G p e below s F0 (Q1 Z p0 a1 p2 n g h0 n0) ({ frames := 0, cells := 0, slots := 0, locals := 0 } : Room).cells ({ frames := 0, cells := 0, slots := 0, locals := 0 } : Room).slots → G) → own_R p.tables e below F0 (s₁.setTop (mkF m 0 #[.val (.int p0), .val (.ref a1), .val (.int p2), .unset] [])) → G := by
    intro F0 G hG r0
    have r1 : own_R p.tables e below F0 (s₁.setTop (mkF m 2 #[.val (.int p0), .val (.ref a1), .val (.int p2), .val (.int (0 : Int32))] [])) := fun tg_ kg_ => by
      refine r0 tg_ ?_
      show Steps p.tables e below (s₁.setTop (mkF m 0 #[.val (.int p0), .val (.ref a1), .val (.int p2), .unset] [])) _
      refine XS.iconst X0.here hx rfl (hb hby d1_0) ?_
      show Steps p.tables e below (s₁.setTop (mkF m 1 #[.val (.int p0), .val (.ref a1), .val (.int p2), .unset] [(.int (0 : Int32))])) _
      refine XS.istoreN X0.here hx rfl (hb hby d1_1) rfl (l' := #[.val (.int p0), .val (.ref a1), .val (.int p2), .val (.int (0 : Int32))]) rfl ?_
      exact kg_
    have J2 : ∀ (k5 : Nat) (i : Int32) (k : Nat) (hi : i.toInt = k) (hk : ∀ j, j < k → g j ≠ p0) (_ : n + 1 - k = k5) (r3 : own_R p.tables e below F0 (s₁.setTop (mkF m 2 #[.val (.int p0), .val (.ref a1), .val (.int p2), .val (.int i)] []))), G := by
      intro k5
      induction k5 using Nat.strongRecOn with
      | ind k5 ih4 =>
        intro i k hi hk hm6 r3
        have r7 : own_R p.tables e below F0 (s₁.setTop (mkF m 4 #[.val (.int p0), .val (.ref a1), .val (.int p2), .val (.int i)] [(.int p2), (.int i)])) := fun tg_ kg_ => by
          refine r3 tg_ ?_
          show Steps p.tables e below (s₁.setTop (mkF m 2 #[.val (.int p0), .val (.ref a1), .val (.int p2), .val (.int i)] [])) _
          refine XS.iloadN X0.here hx rfl (hb hby d1_2) rfl ?_
          show Steps p.tables e below (s₁.setTop (mkF m 3 #[.val (.int p0), .val (.ref a1), .val (.int p2), .val (.int i)] [(.int i)])) _
          refine XS.iloadN X0.here hx rfl (hb hby d1_3) rfl ?_
          exact kg_
        by_cases hc8 : i < p2
        · have r9 : own_R p.tables e below F0 (s₁.setTop (mkF m 11 #[.val (.int p0), .val (.ref a1), .val (.int p2), .val (.int i)] [(.int p0), (.int (g k))])) := fun tg_ kg_ => by
            refine r7 tg_ ?_
            show Steps p.tables e below (s₁.setTop (mkF m 4 #[.val (.int p0), .val (.ref a1), .val (.int p2), .val (.int i)] [(.int p2), (.int i)])) _
            refine XS.icmpNo X0.here hx rfl (hb hby d1_4) rfl (tlt hc8).2.1 ?_
            show Steps p.tables e below (s₁.setTop (mkF m 7 #[.val (.int p0), .val (.ref a1), .val (.int p2), .val (.int i)] [])) _
            refine XS.aloadN X0.here hx rfl (hb hby d1_7) rfl rfl ?_
            show Steps p.tables e below (s₁.setTop (mkF m 8 #[.val (.int p0), .val (.ref a1), .val (.int p2), .val (.int i)] [(.ref a1)])) _
            refine XS.iloadN X0.here hx rfl (hb hby d1_8) rfl ?_
            show Steps p.tables e below (s₁.setTop (mkF m 9 #[.val (.int p0), .val (.ref a1), .val (.int p2), .val (.int i)] [(.int i), (.ref a1)])) _
            refine own_iaload X0 hx hZ e0 (j := i) A1 (by
                        have q25_r := own_R32 i
                        have q26_r := own_R32 p2
                        have q27_c := own_lt32 hc8
                        omega) (by
                        have q28_r := own_R32 i
                        have q29_r := own_R32 p2
                        have q30_c := own_lt32 hc8
                        omega) (w := (.int (g k))) (congrArg (fun j => Value.int (g j)) (own_clamp hi)) (g := (mkF m 9 #[.val (.int p0), .val (.ref a1), .val (.int p2), .val (.int i)] [(.int i), (.ref a1)])) rfl rfl (hb hby d1_9) _ ?_
            show Steps p.tables e below (s₁.setTop (mkF m 10 #[.val (.int p0), .val (.ref a1), .val (.int p2), .val (.int i)] [(.int (g k))])) _
            refine XS.iloadN X0.here hx rfl (hb hby d1_10) rfl ?_
            exact kg_
          by_cases hc10 : (g k) = p0
          · have r11 : own_R p.tables e below F0 (s₁.setTop (mkF m 15 #[.val (.int p0), .val (.ref a1), .val (.int p2), .val (.int i)] [(.int (1 : Int32))])) := fun tg_ kg_ => by
              refine r9 tg_ ?_
              show Steps p.tables e below (s₁.setTop (mkF m 11 #[.val (.int p0), .val (.ref a1), .val (.int p2), .val (.int i)] [(.int p0), (.int (g k))])) _
              refine XS.icmpNo X0.here hx rfl (hb hby d1_11) rfl (teq hc10).2 ?_
              show Steps p.tables e below (s₁.setTop (mkF m 14 #[.val (.int p0), .val (.ref a1), .val (.int p2), .val (.int i)] [])) _
              refine XS.iconst X0.here hx rfl (hb hby d1_14) ?_
              exact kg_
            refine hG (own_fin X0 hlk (some (.int (nar .boolean (1 : Int32)))) (own_hv Bd.returns) ?_ (by decide) (by decide) (fun fs hr => r11 _ (retN X0 hx (t := .boolean) Bd.returns (by simp) (hb hby d1_15) hr)))
            rw [e0]
            refine ⟨(1 : Int32), ?_, N0, rfl, (Or.inl ⟨rfl, k, (by
                            have q31_r := own_R32 i
                            have q32_r := own_R32 p2
                            have q33_r := own_R32 (g k)
                            have q34_r := own_R32 p0
                            have q35_c := own_lt32 hc8
                            have q36_c := own_eq32 hc10
                            omega), hc10⟩)⟩
            rfl
          · have r12 : own_R p.tables e below F0 (s₁.setTop (mkF m 2 #[.val (.int p0), .val (.ref a1), .val (.int p2), .val (.int (i + (1 : Int32)))] [])) := fun tg_ kg_ => by
              refine r9 tg_ ?_
              show Steps p.tables e below (s₁.setTop (mkF m 11 #[.val (.int p0), .val (.ref a1), .val (.int p2), .val (.int i)] [(.int p0), (.int (g k))])) _
              refine XS.icmpYes X0.here hx rfl (pc0 := 11) (pc' := 16) rfl (hb hby d1_11) rfl (feq hc10).2 (by decide) (by decide) ?_
              show Steps p.tables e below (s₁.setTop (mkF m 16 #[.val (.int p0), .val (.ref a1), .val (.int p2), .val (.int i)] [])) _
              refine XS.iinc X0.here hx rfl (hb hby d1_16) rfl (l' := #[.val (.int p0), .val (.ref a1), .val (.int p2), .val (.int (i + (1 : Int32)))]) rfl ?_
              show Steps p.tables e below (s₁.setTop (mkF m 19 #[.val (.int p0), .val (.ref a1), .val (.int p2), .val (.int (i + (1 : Int32)))] [])) _
              refine XS.goto X0.here hx rfl (pc0 := 19) (pc' := 2) rfl (hb hby d1_19) (by decide) (by decide) ?_
              exact kg_
            have q37_r := own_R32 i
            have q38_r := own_R32 p2
            have q39_r := own_R32 (g k)
            have q40_r := own_R32 p0
            have q41_e : (1 : Int32).toInt = 1 := (by decide)
            have q41_r : (1 : Int) ≤ (1 : Int32).toInt ∧ (1 : Int32).toInt ≤ 1 := ⟨Int.le_of_eq q41_e.symm, Int.le_of_eq q41_e⟩
            have q42_r := own_R32 (i + (1 : Int32))
            have q43_ := c_iadd i (1 : Int32)
            have q44_c := own_lt32 hc8
            have q45_c := own_ne32 hc10
            exact ih4 _ (by omega) (i + (1 : Int32)) (k + 1) (by omega) (fun j hj => by
              rcases Nat.lt_succ_iff_lt_or_eq.mp hj with q | q
              · exact hk j q
              · subst q; exact hc10) rfl r12
        · have r13 : own_R p.tables e below F0 (s₁.setTop (mkF m 23 #[.val (.int p0), .val (.ref a1), .val (.int p2), .val (.int i)] [(.int (0 : Int32))])) := fun tg_ kg_ => by
            refine r7 tg_ ?_
            show Steps p.tables e below (s₁.setTop (mkF m 4 #[.val (.int p0), .val (.ref a1), .val (.int p2), .val (.int i)] [(.int p2), (.int i)])) _
            refine XS.icmpYes X0.here hx rfl (pc0 := 4) (pc' := 22) rfl (hb hby d1_4) rfl (flt hc8).2.1 (by decide) (by decide) ?_
            show Steps p.tables e below (s₁.setTop (mkF m 22 #[.val (.int p0), .val (.ref a1), .val (.int p2), .val (.int i)] [])) _
            refine XS.iconst X0.here hx rfl (hb hby d1_22) ?_
            exact kg_
          refine hG (own_fin X0 hlk (some (.int (nar .boolean (0 : Int32)))) (own_hv Bd.returns) ?_ (by decide) (by decide) (fun fs hr => r13 _ (retN X0 hx (t := .boolean) Bd.returns (by simp) (hb hby d1_23) hr)))
          rw [e0]
          refine ⟨(0 : Int32), ?_, N0, rfl, (Or.inr ⟨rfl, fun j hj => hk j (by
                        have q46_r := own_R32 i
                        have q47_r := own_R32 p2
                        have q48_c := own_nlt32 hc8
                        omega)⟩)⟩
          rfl
    exact J2 _ (0 : Int32) 0 (by decide) (fun j hj => absurd hj (by omega)) rfl r1
  exact key _ _ id (fun t k => castTop (ef_1 m p0 a1 p2) k)
theorem own_amg (cnt p l0 l1 l2 l3 : Int32) (hc : 0 ≤ cnt.toInt ∧ cnt.toInt ≤ 4) (g : Nat → Int32) (h0 : g 0 = l0) (h1 : g 1 = l1) (h2 : g 2 = l2) (h3 : g 3 = l3) :
    (∃ j : Nat, (j : Int) < cnt.toInt ∧ g j = p) ↔ (((((0 : Int32) < cnt ∧ l0 = p) ∨ ((1 : Int32) < cnt ∧ l1 = p)) ∨ ((2 : Int32) < cnt ∧ l2 = p)) ∨ ((3 : Int32) < cnt ∧ l3 = p)) := by
  simp only [Int32.lt_iff_toInt_lt, show (0 : Int32).toInt = 0 from rfl, show (1 : Int32).toInt = 1 from rfl, show (2 : Int32).toInt = 2 from rfl, show (3 : Int32).toInt = 3 from rfl]
  constructor
  · rintro ⟨j, q1, q2⟩
    have : j = 0 ∨ j = 1 ∨ j = 2 ∨ j = 3 := by omega
    rcases this with rfl | rfl | rfl | rfl
    · exact Or.inl (Or.inl (Or.inl ⟨by omega, h0 ▸ q2⟩))
    · exact Or.inl (Or.inl (Or.inr ⟨by omega, h1 ▸ q2⟩))
    · exact Or.inl (Or.inr ⟨by omega, h2 ▸ q2⟩)
    · exact Or.inr ⟨by omega, h3 ▸ q2⟩
  · rintro (((q | q) | q) | q)
    · exact ⟨0, by omega, h0.trans q.2⟩
    · exact ⟨1, by omega, h1.trans q.2⟩
    · exact ⟨2, by omega, h2.trans q.2⟩
    · exact ⟨3, by omega, h3.trans q.2⟩
theorem pn_1 : plainName "org/jadoube/rules/MoveGeneratorIsAmongPinLaw" = true := by first | (simp [plainName, overriddenIn]; done) | decide +kernel
theorem pd_0 : parseMethodDescriptor "(I[II)Z" = some ⟨[.int, (.array .int), .int], some .boolean⟩ := by decide +kernel
theorem ef_0 (m : MethodId) (x0 : Int32) (x1 : Int32) (x2 : Int32) (x3 : Int32) (x4 : Int32) (x5 : Int32) : entryFrame m #[(.int x0), (.int x1), (.int x2), (.int x3), (.int x4), (.int x5)] maxLocals = mkF m 0 #[.val (.int x0), .val (.int x1), .val (.int x2), .val (.int x3), .val (.int x4), .val (.int x5), .unset, .unset, .unset, .unset, .unset, .unset, .unset, .unset] [] := by first | (simp [entryFrame, mkF, argsToLocals, Value.category, maxLocals]; done) | rfl
def Q0 (Z : State) (p0s : Int32) (p1s : Int32) (p2s : Int32) (p3s : Int32) (p4s : Int32) (p5s : Int32) (h0 : Heap) (n0 : Nat) (v : Option Value) (h : Heap) (L : List Loc) : Prop := v = some (.int (1 : Int32)) ∧ Fr n0 L
set_option maxRecDepth 65536 in
set_option maxHeartbeats 40000000 in
theorem rm0 (l : Launch) (Z : State) (a0 : Array Value) (hw : ∀ d ∈ tables_1, d.before a0 Z = true) (ws : List Jvm.Cond) (p0s : Int32) (p1s : Int32) (p2s : Int32) (p3s : Int32) (p4s : Int32) (p5s : Int32) (h0 : Heap) (n0 : Nat) (Z0 : n0 ≤ h0.size) :
    MetFree l x (head1 (Jvm.Cond.code x code maxLocals ret :: ws) room_1) (fun a U => a = #[(.int p0s), (.int p1s), (.int p2s), (.int p3s), (.int p4s), (.int p5s)] ∧ Z.Warmed39 U.vm ∧ U.heap = h0) (fun _ _ _ _ _ => True) (fun _ U o U' => ∃ v L, o = .returned v ∧ Q0 Z p0s p1s p2s p3s p4s p5s h0 n0 v U'.heap L ∧ FrameEnd U o U' L 16 128) := by
  refine MetFree.of_bodySF (plainFor_of_name pn_1) hisR ?_
  intro p e s m args below meth c s₁ Bd hml0 hP hK
  obtain ⟨rfl, hZ, hh⟩ := hP
  have hx := Bd.exec
  have hby := Bd.bytes
  have hml : c.maxLocals = 14 := hml0
  have hown : s.vm.findClass "org/jadoube/rules/MoveGeneratorIsAmongPinLaw" = some m.cls := findClass_of_methodNamed Bd.named
  have hnm := (name_of_methodNamed Bd.named Bd.method).1
  have hlk : meth.locks = false := BodyLoose.notSynchronized Bd
  have X0 : Stand p l e room_1 s m #[(.int p0s), (.int p1s), (.int p2s), (.int p3s), (.int p4s), (.int p5s)] below meth c s₁ [] 0 0 := Stand.of_body Bd
  have e0 : s₁.heap = h0 := by rw [← hh, Bd.state]; rfl
  have N0 := Fr.nil n0
  have K0 : Keep h0 h0 [] := Keep.refl h0 _
  have key : ∀ (F0 : State) (G : Prop), (own_G p e below s F0 (Q0 Z p0s p1s p2s p3s p4s p5s h0 n0) 16 128 → G) → own_R p.tables e below F0 (s₁.setTop (mkF m 0 #[.val (.int p0s), .val (.int p1s), .val (.int p2s), .val (.int p3s), .val (.int p4s), .val (.int p5s), .unset, .unset, .unset, .unset, .unset, .unset, .unset, .unset] [])) → G := by
    intro F0 G hG r0
    have r14 : own_R p.tables e below F0 (s₁.setTop (mkF m 4 #[.val (.int p0s), .val (.int p1s), .val (.int p2s), .val (.int p3s), .val (.int p4s), .val (.int p5s), .unset, .unset, .unset, .unset, .unset, .unset, .unset, .unset] [(.int (p4s &&& (1 : Int32)))])) := fun tg_ kg_ => by
      refine r0 tg_ ?_
      show Steps p.tables e below (s₁.setTop (mkF m 0 #[.val (.int p0s), .val (.int p1s), .val (.int p2s), .val (.int p3s), .val (.int p4s), .val (.int p5s), .unset, .unset, .unset, .unset, .unset, .unset, .unset, .unset] [])) _
      refine XS.iload X0.here hx rfl (hb hby at_0) rfl ?_
      show Steps p.tables e below (s₁.setTop (mkF m 2 #[.val (.int p0s), .val (.int p1s), .val (.int p2s), .val (.int p3s), .val (.int p4s), .val (.int p5s), .unset, .unset, .unset, .unset, .unset, .unset, .unset, .unset] [(.int p4s)])) _
      refine XS.iconst X0.here hx rfl (hb hby at_2) ?_
      show Steps p.tables e below (s₁.setTop (mkF m 3 #[.val (.int p0s), .val (.int p1s), .val (.int p2s), .val (.int p3s), .val (.int p4s), .val (.int p5s), .unset, .unset, .unset, .unset, .unset, .unset, .unset, .unset] [(.int (1 : Int32)), (.int p4s)])) _
      refine XS.iand X0.here hx rfl (hb hby at_3) rfl ?_
      exact kg_
    have J15 : ∀ (l0 : Int32)  (r16 : own_R p.tables e below F0 (s₁.setTop (mkF m 12 #[.val (.int p0s), .val (.int p1s), .val (.int p2s), .val (.int p3s), .val (.int p4s), .val (.int p5s), .unset, .unset, .unset, .unset, .unset, .unset, .unset, .unset] [(.int l0)]))), G := by
      intro l0 r16
      have r17 : own_R p.tables e below F0 (s₁.setTop (mkF m 18 #[.val (.int p0s), .val (.int p1s), .val (.int p2s), .val (.int p3s), .val (.int p4s), .val (.int p5s), .val (.int l0), .unset, .unset, .unset, .unset, .unset, .unset, .unset] [(.int (p4s &&& (2 : Int32)))])) := fun tg_ kg_ => by
        refine r16 tg_ ?_
        show Steps p.tables e below (s₁.setTop (mkF m 12 #[.val (.int p0s), .val (.int p1s), .val (.int p2s), .val (.int p3s), .val (.int p4s), .val (.int p5s), .unset, .unset, .unset, .unset, .unset, .unset, .unset, .unset] [(.int l0)])) _
        refine XS.istore X0.here hx rfl (hb hby at_12) rfl (l' := #[.val (.int p0s), .val (.int p1s), .val (.int p2s), .val (.int p3s), .val (.int p4s), .val (.int p5s), .val (.int l0), .unset, .unset, .unset, .unset, .unset, .unset, .unset]) rfl ?_
        show Steps p.tables e below (s₁.setTop (mkF m 14 #[.val (.int p0s), .val (.int p1s), .val (.int p2s), .val (.int p3s), .val (.int p4s), .val (.int p5s), .val (.int l0), .unset, .unset, .unset, .unset, .unset, .unset, .unset] [])) _
        refine XS.iload X0.here hx rfl (hb hby at_14) rfl ?_
        show Steps p.tables e below (s₁.setTop (mkF m 16 #[.val (.int p0s), .val (.int p1s), .val (.int p2s), .val (.int p3s), .val (.int p4s), .val (.int p5s), .val (.int l0), .unset, .unset, .unset, .unset, .unset, .unset, .unset] [(.int p4s)])) _
        refine XS.iconst X0.here hx rfl (hb hby at_16) ?_
        show Steps p.tables e below (s₁.setTop (mkF m 17 #[.val (.int p0s), .val (.int p1s), .val (.int p2s), .val (.int p3s), .val (.int p4s), .val (.int p5s), .val (.int l0), .unset, .unset, .unset, .unset, .unset, .unset, .unset] [(.int (2 : Int32)), (.int p4s)])) _
        refine XS.iand X0.here hx rfl (hb hby at_17) rfl ?_
        exact kg_
      have J18 : ∀ (l1 : Int32)  (r19 : own_R p.tables e below F0 (s₁.setTop (mkF m 26 #[.val (.int p0s), .val (.int p1s), .val (.int p2s), .val (.int p3s), .val (.int p4s), .val (.int p5s), .val (.int l0), .unset, .unset, .unset, .unset, .unset, .unset, .unset] [(.int l1)]))), G := by
        intro l1 r19
        have r20 : own_R p.tables e below F0 (s₁.setTop (mkF m 32 #[.val (.int p0s), .val (.int p1s), .val (.int p2s), .val (.int p3s), .val (.int p4s), .val (.int p5s), .val (.int l0), .val (.int l1), .unset, .unset, .unset, .unset, .unset, .unset] [(.int (p4s &&& (4 : Int32)))])) := fun tg_ kg_ => by
          refine r19 tg_ ?_
          show Steps p.tables e below (s₁.setTop (mkF m 26 #[.val (.int p0s), .val (.int p1s), .val (.int p2s), .val (.int p3s), .val (.int p4s), .val (.int p5s), .val (.int l0), .unset, .unset, .unset, .unset, .unset, .unset, .unset] [(.int l1)])) _
          refine XS.istore X0.here hx rfl (hb hby at_26) rfl (l' := #[.val (.int p0s), .val (.int p1s), .val (.int p2s), .val (.int p3s), .val (.int p4s), .val (.int p5s), .val (.int l0), .val (.int l1), .unset, .unset, .unset, .unset, .unset, .unset]) rfl ?_
          show Steps p.tables e below (s₁.setTop (mkF m 28 #[.val (.int p0s), .val (.int p1s), .val (.int p2s), .val (.int p3s), .val (.int p4s), .val (.int p5s), .val (.int l0), .val (.int l1), .unset, .unset, .unset, .unset, .unset, .unset] [])) _
          refine XS.iload X0.here hx rfl (hb hby at_28) rfl ?_
          show Steps p.tables e below (s₁.setTop (mkF m 30 #[.val (.int p0s), .val (.int p1s), .val (.int p2s), .val (.int p3s), .val (.int p4s), .val (.int p5s), .val (.int l0), .val (.int l1), .unset, .unset, .unset, .unset, .unset, .unset] [(.int p4s)])) _
          refine XS.iconst X0.here hx rfl (hb hby at_30) ?_
          show Steps p.tables e below (s₁.setTop (mkF m 31 #[.val (.int p0s), .val (.int p1s), .val (.int p2s), .val (.int p3s), .val (.int p4s), .val (.int p5s), .val (.int l0), .val (.int l1), .unset, .unset, .unset, .unset, .unset, .unset] [(.int (4 : Int32)), (.int p4s)])) _
          refine XS.iand X0.here hx rfl (hb hby at_31) rfl ?_
          exact kg_
        have J21 : ∀ (l2 : Int32)  (r22 : own_R p.tables e below F0 (s₁.setTop (mkF m 40 #[.val (.int p0s), .val (.int p1s), .val (.int p2s), .val (.int p3s), .val (.int p4s), .val (.int p5s), .val (.int l0), .val (.int l1), .unset, .unset, .unset, .unset, .unset, .unset] [(.int l2)]))), G := by
          intro l2 r22
          have r23 : own_R p.tables e below F0 (s₁.setTop (mkF m 47 #[.val (.int p0s), .val (.int p1s), .val (.int p2s), .val (.int p3s), .val (.int p4s), .val (.int p5s), .val (.int l0), .val (.int l1), .val (.int l2), .unset, .unset, .unset, .unset, .unset] [(.int (p4s &&& (8 : Int32)))])) := fun tg_ kg_ => by
            refine r22 tg_ ?_
            show Steps p.tables e below (s₁.setTop (mkF m 40 #[.val (.int p0s), .val (.int p1s), .val (.int p2s), .val (.int p3s), .val (.int p4s), .val (.int p5s), .val (.int l0), .val (.int l1), .unset, .unset, .unset, .unset, .unset, .unset] [(.int l2)])) _
            refine XS.istore X0.here hx rfl (hb hby at_40) rfl (l' := #[.val (.int p0s), .val (.int p1s), .val (.int p2s), .val (.int p3s), .val (.int p4s), .val (.int p5s), .val (.int l0), .val (.int l1), .val (.int l2), .unset, .unset, .unset, .unset, .unset]) rfl ?_
            show Steps p.tables e below (s₁.setTop (mkF m 42 #[.val (.int p0s), .val (.int p1s), .val (.int p2s), .val (.int p3s), .val (.int p4s), .val (.int p5s), .val (.int l0), .val (.int l1), .val (.int l2), .unset, .unset, .unset, .unset, .unset] [])) _
            refine XS.iload X0.here hx rfl (hb hby at_42) rfl ?_
            show Steps p.tables e below (s₁.setTop (mkF m 44 #[.val (.int p0s), .val (.int p1s), .val (.int p2s), .val (.int p3s), .val (.int p4s), .val (.int p5s), .val (.int l0), .val (.int l1), .val (.int l2), .unset, .unset, .unset, .unset, .unset] [(.int p4s)])) _
            refine XS.bipush X0.here hx rfl (hb hby at_44) ?_
            show Steps p.tables e below (s₁.setTop (mkF m 46 #[.val (.int p0s), .val (.int p1s), .val (.int p2s), .val (.int p3s), .val (.int p4s), .val (.int p5s), .val (.int l0), .val (.int l1), .val (.int l2), .unset, .unset, .unset, .unset, .unset] [(.int (8 : Int32)), (.int p4s)])) _
            refine XS.iand X0.here hx rfl (hb hby at_46) rfl ?_
            exact kg_
          have J24 : ∀ (l3 : Int32)  (r25 : own_R p.tables e below F0 (s₁.setTop (mkF m 57 #[.val (.int p0s), .val (.int p1s), .val (.int p2s), .val (.int p3s), .val (.int p4s), .val (.int p5s), .val (.int l0), .val (.int l1), .val (.int l2), .unset, .unset, .unset, .unset, .unset] [(.int l3)]))), G := by
            intro l3 r25
            have r26 : own_R p.tables e below F0 (s₁.setTop (mkF m 60 #[.val (.int p0s), .val (.int p1s), .val (.int p2s), .val (.int p3s), .val (.int p4s), .val (.int p5s), .val (.int l0), .val (.int l1), .val (.int l2), .val (.int l3), .unset, .unset, .unset, .unset] [(.int (4 : Int32))])) := fun tg_ kg_ => by
              refine r25 tg_ ?_
              show Steps p.tables e below (s₁.setTop (mkF m 57 #[.val (.int p0s), .val (.int p1s), .val (.int p2s), .val (.int p3s), .val (.int p4s), .val (.int p5s), .val (.int l0), .val (.int l1), .val (.int l2), .unset, .unset, .unset, .unset, .unset] [(.int l3)])) _
              refine XS.istore X0.here hx rfl (hb hby at_57) rfl (l' := #[.val (.int p0s), .val (.int p1s), .val (.int p2s), .val (.int p3s), .val (.int p4s), .val (.int p5s), .val (.int l0), .val (.int l1), .val (.int l2), .val (.int l3), .unset, .unset, .unset, .unset]) rfl ?_
              show Steps p.tables e below (s₁.setTop (mkF m 59 #[.val (.int p0s), .val (.int p1s), .val (.int p2s), .val (.int p3s), .val (.int p4s), .val (.int p5s), .val (.int l0), .val (.int l1), .val (.int l2), .val (.int l3), .unset, .unset, .unset, .unset] [])) _
              refine XS.iconst X0.here hx rfl (hb hby at_59) ?_
              exact kg_
            obtain ⟨T27, h27, k27, X27, e27, E27, A27, st27⟩ := newP X0 hx hZ (hw _ (List.mem_of_getElem? (i := 0) rfl)) e0 (g := (mkF m 60 #[.val (.int p0s), .val (.int p1s), .val (.int p2s), .val (.int p3s), .val (.int p4s), .val (.int p5s), .val (.int l0), .val (.int l1), .val (.int l2), .val (.int l3), .unset, .unset, .unset, .unset] [(.int (4 : Int32))])) rfl (hb hby at_60) rfl (by decide) (cap := 4) (by decide) (by decide) (by decide) (by decide)
            obtain ⟨b27, g27⟩ : ∃ z, z = h0.size := ⟨_, rfl⟩
            rw [← g27] at A27 st27
            have ge27 : n0 ≤ b27 := Nat.le_trans Z0 (Nat.le_of_eq g27.symm)
            have old27 : h0.size ≤ b27 := Nat.le_trans K0.1 (Nat.le_of_eq g27.symm)
            have K27 : Keep h0 h27 [] := K0.ext E27
            have Zs28 : n0 ≤ h27.size := Nat.le_trans Z0 E27.1
            have F29 : own_Arf Z h27 b27 .int 4 (fun i => (.int ((fun _ => (0 : Int32)) i))) := by
              have q := own_Arf.new A27 (by decide)
              rw [show ((4 : Int32)).toNatClampNeg = 4 from rfl] at q
              exact q
            have r27 : own_R p.tables e below F0 (T27.setTop (mkF m 62 #[.val (.int p0s), .val (.int p1s), .val (.int p2s), .val (.int p3s), .val (.int p4s), .val (.int p5s), .val (.int l0), .val (.int l1), .val (.int l2), .val (.int l3), .unset, .unset, .unset, .unset] [(.ref b27)])) := fun tg_ kg_ => r26 tg_ (st27 tg_ kg_)
            have r30 : own_R p.tables e below F0 (T27.setTop (mkF m 66 #[.val (.int p0s), .val (.int p1s), .val (.int p2s), .val (.int p3s), .val (.int p4s), .val (.int p5s), .val (.int l0), .val (.int l1), .val (.int l2), .val (.int l3), .unset, .unset, .unset, .unset] [(.int l0), (.int (0 : Int32)), (.ref b27), (.ref b27)])) := fun tg_ kg_ => by
              refine r27 tg_ ?_
              show Steps p.tables e below (T27.setTop (mkF m 62 #[.val (.int p0s), .val (.int p1s), .val (.int p2s), .val (.int p3s), .val (.int p4s), .val (.int p5s), .val (.int l0), .val (.int l1), .val (.int l2), .val (.int l3), .unset, .unset, .unset, .unset] [(.ref b27)])) _
              refine XS.dup X27.here hx rfl (hb hby at_62) rfl rfl ?_
              show Steps p.tables e below (T27.setTop (mkF m 63 #[.val (.int p0s), .val (.int p1s), .val (.int p2s), .val (.int p3s), .val (.int p4s), .val (.int p5s), .val (.int l0), .val (.int l1), .val (.int l2), .val (.int l3), .unset, .unset, .unset, .unset] [(.ref b27), (.ref b27)])) _
              refine XS.iconst X27.here hx rfl (hb hby at_63) ?_
              show Steps p.tables e below (T27.setTop (mkF m 64 #[.val (.int p0s), .val (.int p1s), .val (.int p2s), .val (.int p3s), .val (.int p4s), .val (.int p5s), .val (.int l0), .val (.int l1), .val (.int l2), .val (.int l3), .unset, .unset, .unset, .unset] [(.int (0 : Int32)), (.ref b27), (.ref b27)])) _
              refine XS.iload X27.here hx rfl (hb hby at_64) rfl ?_
              exact kg_
            obtain ⟨T31, h31, X31, e31, W31, V31, st31⟩ := own_stI X27 hx hZ e27 (j := (0 : Int32)) F29 (by decide) (by decide) (g := (mkF m 66 #[.val (.int p0s), .val (.int p1s), .val (.int p2s), .val (.int p3s), .val (.int p4s), .val (.int p5s), .val (.int l0), .val (.int l1), .val (.int l2), .val (.int l3), .unset, .unset, .unset, .unset] [(.int l0), (.int (0 : Int32)), (.ref b27), (.ref b27)])) rfl rfl (hb hby at_66)
            have V31 : own_Arf Z h31 b27 .int 4 (fun i => if i = 0 then (.int l0) else (.int ((fun _ => (0 : Int32)) i))) := V31
            obtain ⟨gf31, hgf31, V31'⟩ := own_nameI (g := (fun _ => (0 : Int32))) V31
            have F32 : own_Arf Z h31 b27 .int 4 (fun i => (.int (gf31 i))) := V31'
            have Zs33 : n0 ≤ h31.size := by rw [W31.size]; exact Zs28
            have N34 := Fr.snoc X31 N0 ge27
            have K35 : Keep h0 h31 [] := K27.wr W31 (Or.inr old27)
            have r31 : own_R p.tables e below F0 (T31.setTop (mkF m 67 #[.val (.int p0s), .val (.int p1s), .val (.int p2s), .val (.int p3s), .val (.int p4s), .val (.int p5s), .val (.int l0), .val (.int l1), .val (.int l2), .val (.int l3), .unset, .unset, .unset, .unset] [(.ref b27)])) := fun tg_ kg_ => r30 tg_ (st31 tg_ kg_)
            have r36 : own_R p.tables e below F0 (T31.setTop (mkF m 71 #[.val (.int p0s), .val (.int p1s), .val (.int p2s), .val (.int p3s), .val (.int p4s), .val (.int p5s), .val (.int l0), .val (.int l1), .val (.int l2), .val (.int l3), .unset, .unset, .unset, .unset] [(.int l1), (.int (1 : Int32)), (.ref b27), (.ref b27)])) := fun tg_ kg_ => by
              refine r31 tg_ ?_
              show Steps p.tables e below (T31.setTop (mkF m 67 #[.val (.int p0s), .val (.int p1s), .val (.int p2s), .val (.int p3s), .val (.int p4s), .val (.int p5s), .val (.int l0), .val (.int l1), .val (.int l2), .val (.int l3), .unset, .unset, .unset, .unset] [(.ref b27)])) _
              refine XS.dup X31.here hx rfl (hb hby at_67) rfl rfl ?_
              show Steps p.tables e below (T31.setTop (mkF m 68 #[.val (.int p0s), .val (.int p1s), .val (.int p2s), .val (.int p3s), .val (.int p4s), .val (.int p5s), .val (.int l0), .val (.int l1), .val (.int l2), .val (.int l3), .unset, .unset, .unset, .unset] [(.ref b27), (.ref b27)])) _
              refine XS.iconst X31.here hx rfl (hb hby at_68) ?_
              show Steps p.tables e below (T31.setTop (mkF m 69 #[.val (.int p0s), .val (.int p1s), .val (.int p2s), .val (.int p3s), .val (.int p4s), .val (.int p5s), .val (.int l0), .val (.int l1), .val (.int l2), .val (.int l3), .unset, .unset, .unset, .unset] [(.int (1 : Int32)), (.ref b27), (.ref b27)])) _
              refine XS.iload X31.here hx rfl (hb hby at_69) rfl ?_
              exact kg_
            obtain ⟨T37, h37, X37, e37, W37, V37, st37⟩ := own_stI X31 hx hZ e31 (j := (1 : Int32)) F32 (by decide) (by decide) (g := (mkF m 71 #[.val (.int p0s), .val (.int p1s), .val (.int p2s), .val (.int p3s), .val (.int p4s), .val (.int p5s), .val (.int l0), .val (.int l1), .val (.int l2), .val (.int l3), .unset, .unset, .unset, .unset] [(.int l1), (.int (1 : Int32)), (.ref b27), (.ref b27)])) rfl rfl (hb hby at_71)
            have V37 : own_Arf Z h37 b27 .int 4 (fun i => if i = 1 then (.int l1) else (.int (gf31 i))) := V37
            obtain ⟨gf37, hgf37, V37'⟩ := own_nameI (g := gf31) V37
            have F38 : own_Arf Z h37 b27 .int 4 (fun i => (.int (gf37 i))) := V37'
            have Zs39 : n0 ≤ h37.size := by rw [W37.size]; exact Zs33
            have N40 := Fr.snoc X37 N34 ge27
            have K41 : Keep h0 h37 [] := K35.wr W37 (Or.inr old27)
            have r37 : own_R p.tables e below F0 (T37.setTop (mkF m 72 #[.val (.int p0s), .val (.int p1s), .val (.int p2s), .val (.int p3s), .val (.int p4s), .val (.int p5s), .val (.int l0), .val (.int l1), .val (.int l2), .val (.int l3), .unset, .unset, .unset, .unset] [(.ref b27)])) := fun tg_ kg_ => r36 tg_ (st37 tg_ kg_)
            have r42 : own_R p.tables e below F0 (T37.setTop (mkF m 76 #[.val (.int p0s), .val (.int p1s), .val (.int p2s), .val (.int p3s), .val (.int p4s), .val (.int p5s), .val (.int l0), .val (.int l1), .val (.int l2), .val (.int l3), .unset, .unset, .unset, .unset] [(.int l2), (.int (2 : Int32)), (.ref b27), (.ref b27)])) := fun tg_ kg_ => by
              refine r37 tg_ ?_
              show Steps p.tables e below (T37.setTop (mkF m 72 #[.val (.int p0s), .val (.int p1s), .val (.int p2s), .val (.int p3s), .val (.int p4s), .val (.int p5s), .val (.int l0), .val (.int l1), .val (.int l2), .val (.int l3), .unset, .unset, .unset, .unset] [(.ref b27)])) _
              refine XS.dup X37.here hx rfl (hb hby at_72) rfl rfl ?_
              show Steps p.tables e below (T37.setTop (mkF m 73 #[.val (.int p0s), .val (.int p1s), .val (.int p2s), .val (.int p3s), .val (.int p4s), .val (.int p5s), .val (.int l0), .val (.int l1), .val (.int l2), .val (.int l3), .unset, .unset, .unset, .unset] [(.ref b27), (.ref b27)])) _
              refine XS.iconst X37.here hx rfl (hb hby at_73) ?_
              show Steps p.tables e below (T37.setTop (mkF m 74 #[.val (.int p0s), .val (.int p1s), .val (.int p2s), .val (.int p3s), .val (.int p4s), .val (.int p5s), .val (.int l0), .val (.int l1), .val (.int l2), .val (.int l3), .unset, .unset, .unset, .unset] [(.int (2 : Int32)), (.ref b27), (.ref b27)])) _
              refine XS.iload X37.here hx rfl (hb hby at_74) rfl ?_
              exact kg_
            obtain ⟨T43, h43, X43, e43, W43, V43, st43⟩ := own_stI X37 hx hZ e37 (j := (2 : Int32)) F38 (by decide) (by decide) (g := (mkF m 76 #[.val (.int p0s), .val (.int p1s), .val (.int p2s), .val (.int p3s), .val (.int p4s), .val (.int p5s), .val (.int l0), .val (.int l1), .val (.int l2), .val (.int l3), .unset, .unset, .unset, .unset] [(.int l2), (.int (2 : Int32)), (.ref b27), (.ref b27)])) rfl rfl (hb hby at_76)
            have V43 : own_Arf Z h43 b27 .int 4 (fun i => if i = 2 then (.int l2) else (.int (gf37 i))) := V43
            obtain ⟨gf43, hgf43, V43'⟩ := own_nameI (g := gf37) V43
            have F44 : own_Arf Z h43 b27 .int 4 (fun i => (.int (gf43 i))) := V43'
            have Zs45 : n0 ≤ h43.size := by rw [W43.size]; exact Zs39
            have N46 := Fr.snoc X43 N40 ge27
            have K47 : Keep h0 h43 [] := K41.wr W43 (Or.inr old27)
            have r43 : own_R p.tables e below F0 (T43.setTop (mkF m 77 #[.val (.int p0s), .val (.int p1s), .val (.int p2s), .val (.int p3s), .val (.int p4s), .val (.int p5s), .val (.int l0), .val (.int l1), .val (.int l2), .val (.int l3), .unset, .unset, .unset, .unset] [(.ref b27)])) := fun tg_ kg_ => r42 tg_ (st43 tg_ kg_)
            have r48 : own_R p.tables e below F0 (T43.setTop (mkF m 81 #[.val (.int p0s), .val (.int p1s), .val (.int p2s), .val (.int p3s), .val (.int p4s), .val (.int p5s), .val (.int l0), .val (.int l1), .val (.int l2), .val (.int l3), .unset, .unset, .unset, .unset] [(.int l3), (.int (3 : Int32)), (.ref b27), (.ref b27)])) := fun tg_ kg_ => by
              refine r43 tg_ ?_
              show Steps p.tables e below (T43.setTop (mkF m 77 #[.val (.int p0s), .val (.int p1s), .val (.int p2s), .val (.int p3s), .val (.int p4s), .val (.int p5s), .val (.int l0), .val (.int l1), .val (.int l2), .val (.int l3), .unset, .unset, .unset, .unset] [(.ref b27)])) _
              refine XS.dup X43.here hx rfl (hb hby at_77) rfl rfl ?_
              show Steps p.tables e below (T43.setTop (mkF m 78 #[.val (.int p0s), .val (.int p1s), .val (.int p2s), .val (.int p3s), .val (.int p4s), .val (.int p5s), .val (.int l0), .val (.int l1), .val (.int l2), .val (.int l3), .unset, .unset, .unset, .unset] [(.ref b27), (.ref b27)])) _
              refine XS.iconst X43.here hx rfl (hb hby at_78) ?_
              show Steps p.tables e below (T43.setTop (mkF m 79 #[.val (.int p0s), .val (.int p1s), .val (.int p2s), .val (.int p3s), .val (.int p4s), .val (.int p5s), .val (.int l0), .val (.int l1), .val (.int l2), .val (.int l3), .unset, .unset, .unset, .unset] [(.int (3 : Int32)), (.ref b27), (.ref b27)])) _
              refine XS.iload X43.here hx rfl (hb hby at_79) rfl ?_
              exact kg_
            obtain ⟨T49, h49, X49, e49, W49, V49, st49⟩ := own_stI X43 hx hZ e43 (j := (3 : Int32)) F44 (by decide) (by decide) (g := (mkF m 81 #[.val (.int p0s), .val (.int p1s), .val (.int p2s), .val (.int p3s), .val (.int p4s), .val (.int p5s), .val (.int l0), .val (.int l1), .val (.int l2), .val (.int l3), .unset, .unset, .unset, .unset] [(.int l3), (.int (3 : Int32)), (.ref b27), (.ref b27)])) rfl rfl (hb hby at_81)
            have V49 : own_Arf Z h49 b27 .int 4 (fun i => if i = 3 then (.int l3) else (.int (gf43 i))) := V49
            obtain ⟨gf49, hgf49, V49'⟩ := own_nameI (g := gf43) V49
            have F50 : own_Arf Z h49 b27 .int 4 (fun i => (.int (gf49 i))) := V49'
            have Zs51 : n0 ≤ h49.size := by rw [W49.size]; exact Zs45
            have N52 := Fr.snoc X49 N46 ge27
            have K53 : Keep h0 h49 [] := K47.wr W49 (Or.inr old27)
            have r49 : own_R p.tables e below F0 (T49.setTop (mkF m 82 #[.val (.int p0s), .val (.int p1s), .val (.int p2s), .val (.int p3s), .val (.int p4s), .val (.int p5s), .val (.int l0), .val (.int l1), .val (.int l2), .val (.int l3), .unset, .unset, .unset, .unset] [(.ref b27)])) := fun tg_ kg_ => r48 tg_ (st49 tg_ kg_)
            obtain ⟨z54, hz54⟩ : ∃ z : Int32, z = ((p5s &&& (2147483647 : Int32)) % (5 : Int32)) := ⟨_, rfl⟩
            have r55 : own_R p.tables e below F0 (T49.setTop (mkF m 98 #[.val (.int p0s), .val (.int p1s), .val (.int p2s), .val (.int p3s), .val (.int p4s), .val (.int p5s), .val (.int l0), .val (.int l1), .val (.int l2), .val (.int l3), .val (.ref b27), .val (.int z54), .val (.int (0 : Int32)), .unset] [(.int z54)])) := fun tg_ kg_ => by
              refine r49 tg_ ?_
              show Steps p.tables e below (T49.setTop (mkF m 82 #[.val (.int p0s), .val (.int p1s), .val (.int p2s), .val (.int p3s), .val (.int p4s), .val (.int p5s), .val (.int l0), .val (.int l1), .val (.int l2), .val (.int l3), .unset, .unset, .unset, .unset] [(.ref b27)])) _
              refine XS.astore X49.here hx rfl (hb hby at_82) rfl rfl (l' := #[.val (.int p0s), .val (.int p1s), .val (.int p2s), .val (.int p3s), .val (.int p4s), .val (.int p5s), .val (.int l0), .val (.int l1), .val (.int l2), .val (.int l3), .val (.ref b27), .unset, .unset, .unset]) rfl ?_
              show Steps p.tables e below (T49.setTop (mkF m 84 #[.val (.int p0s), .val (.int p1s), .val (.int p2s), .val (.int p3s), .val (.int p4s), .val (.int p5s), .val (.int l0), .val (.int l1), .val (.int l2), .val (.int l3), .val (.ref b27), .unset, .unset, .unset] [])) _
              refine XS.iload X49.here hx rfl (hb hby at_84) rfl ?_
              show Steps p.tables e below (T49.setTop (mkF m 86 #[.val (.int p0s), .val (.int p1s), .val (.int p2s), .val (.int p3s), .val (.int p4s), .val (.int p5s), .val (.int l0), .val (.int l1), .val (.int l2), .val (.int l3), .val (.ref b27), .unset, .unset, .unset] [(.int p5s)])) _
              refine X49.ldcI hx hown (mvT hZ (hw _ (List.mem_of_getElem? (i := 1) rfl))) rfl (hb hby at_86) ?_
              show Steps p.tables e below (T49.setTop (mkF m 88 #[.val (.int p0s), .val (.int p1s), .val (.int p2s), .val (.int p3s), .val (.int p4s), .val (.int p5s), .val (.int l0), .val (.int l1), .val (.int l2), .val (.int l3), .val (.ref b27), .unset, .unset, .unset] [(.int (2147483647 : Int32)), (.int p5s)])) _
              refine XS.iand X49.here hx rfl (hb hby at_88) rfl ?_
              show Steps p.tables e below (T49.setTop (mkF m 89 #[.val (.int p0s), .val (.int p1s), .val (.int p2s), .val (.int p3s), .val (.int p4s), .val (.int p5s), .val (.int l0), .val (.int l1), .val (.int l2), .val (.int l3), .val (.ref b27), .unset, .unset, .unset] [(.int (p5s &&& (2147483647 : Int32)))])) _
              refine XS.iconst X49.here hx rfl (hb hby at_89) ?_
              show Steps p.tables e below (T49.setTop (mkF m 90 #[.val (.int p0s), .val (.int p1s), .val (.int p2s), .val (.int p3s), .val (.int p4s), .val (.int p5s), .val (.int l0), .val (.int l1), .val (.int l2), .val (.int l3), .val (.ref b27), .unset, .unset, .unset] [(.int (5 : Int32)), (.int (p5s &&& (2147483647 : Int32)))])) _
              refine iremM X49 hx rfl (hb hby at_90) rfl (by decide) ?_
              show Steps p.tables e below (T49.setTop (mkF m 91 #[.val (.int p0s), .val (.int p1s), .val (.int p2s), .val (.int p3s), .val (.int p4s), .val (.int p5s), .val (.int l0), .val (.int l1), .val (.int l2), .val (.int l3), .val (.ref b27), .unset, .unset, .unset] [(.int ((p5s &&& (2147483647 : Int32)) % (5 : Int32)))])) _
              refine XS.istore X49.here hx rfl (hb hby at_91) (x := z54) (rest := []) (by subst hz54; rfl) (l' := #[.val (.int p0s), .val (.int p1s), .val (.int p2s), .val (.int p3s), .val (.int p4s), .val (.int p5s), .val (.int l0), .val (.int l1), .val (.int l2), .val (.int l3), .val (.ref b27), .val (.int z54), .unset, .unset]) rfl ?_
              show Steps p.tables e below (T49.setTop (mkF m 93 #[.val (.int p0s), .val (.int p1s), .val (.int p2s), .val (.int p3s), .val (.int p4s), .val (.int p5s), .val (.int l0), .val (.int l1), .val (.int l2), .val (.int l3), .val (.ref b27), .val (.int z54), .unset, .unset] [])) _
              refine XS.iconst X49.here hx rfl (hb hby at_93) ?_
              show Steps p.tables e below (T49.setTop (mkF m 94 #[.val (.int p0s), .val (.int p1s), .val (.int p2s), .val (.int p3s), .val (.int p4s), .val (.int p5s), .val (.int l0), .val (.int l1), .val (.int l2), .val (.int l3), .val (.ref b27), .val (.int z54), .unset, .unset] [(.int (0 : Int32))])) _
              refine XS.istore X49.here hx rfl (hb hby at_94) rfl (l' := #[.val (.int p0s), .val (.int p1s), .val (.int p2s), .val (.int p3s), .val (.int p4s), .val (.int p5s), .val (.int l0), .val (.int l1), .val (.int l2), .val (.int l3), .val (.ref b27), .val (.int z54), .val (.int (0 : Int32)), .unset]) rfl ?_
              show Steps p.tables e below (T49.setTop (mkF m 96 #[.val (.int p0s), .val (.int p1s), .val (.int p2s), .val (.int p3s), .val (.int p4s), .val (.int p5s), .val (.int l0), .val (.int l1), .val (.int l2), .val (.int l3), .val (.ref b27), .val (.int z54), .val (.int (0 : Int32)), .unset] [])) _
              refine XS.iload X49.here hx rfl (hb hby at_96) rfl ?_
              exact kg_
            have J56 : ∀ (e1 : Int32) (hE1 : (e1 = 1 ∧ ((0 : Int32) < z54 ∧ l0 = p0s)) ∨ (e1 = 0 ∧ ¬ ((0 : Int32) < z54 ∧ l0 = p0s))) (r57 : own_R p.tables e below F0 (T49.setTop (mkF m 110 #[.val (.int p0s), .val (.int p1s), .val (.int p2s), .val (.int p3s), .val (.int p4s), .val (.int p5s), .val (.int l0), .val (.int l1), .val (.int l2), .val (.int l3), .val (.ref b27), .val (.int z54), .val (.int e1), .unset] []))), G := by
              intro e1 hE1 r57
              have r58 : own_R p.tables e below F0 (T49.setTop (mkF m 113 #[.val (.int p0s), .val (.int p1s), .val (.int p2s), .val (.int p3s), .val (.int p4s), .val (.int p5s), .val (.int l0), .val (.int l1), .val (.int l2), .val (.int l3), .val (.ref b27), .val (.int z54), .val (.int e1), .unset] [(.int (1 : Int32)), (.int z54)])) := fun tg_ kg_ => by
                refine r57 tg_ ?_
                show Steps p.tables e below (T49.setTop (mkF m 110 #[.val (.int p0s), .val (.int p1s), .val (.int p2s), .val (.int p3s), .val (.int p4s), .val (.int p5s), .val (.int l0), .val (.int l1), .val (.int l2), .val (.int l3), .val (.ref b27), .val (.int z54), .val (.int e1), .unset] [])) _
                refine XS.iload X49.here hx rfl (hb hby at_110) rfl ?_
                show Steps p.tables e below (T49.setTop (mkF m 112 #[.val (.int p0s), .val (.int p1s), .val (.int p2s), .val (.int p3s), .val (.int p4s), .val (.int p5s), .val (.int l0), .val (.int l1), .val (.int l2), .val (.int l3), .val (.ref b27), .val (.int z54), .val (.int e1), .unset] [(.int z54)])) _
                refine XS.iconst X49.here hx rfl (hb hby at_112) ?_
                exact kg_
              have J59 : ∀ (e2 : Int32) (hE2 : (e2 = 1 ∧ (((0 : Int32) < z54 ∧ l0 = p0s) ∨ ((1 : Int32) < z54 ∧ l1 = p0s))) ∨ (e2 = 0 ∧ ¬ (((0 : Int32) < z54 ∧ l0 = p0s) ∨ ((1 : Int32) < z54 ∧ l1 = p0s)))) (r60 : own_R p.tables e below F0 (T49.setTop (mkF m 125 #[.val (.int p0s), .val (.int p1s), .val (.int p2s), .val (.int p3s), .val (.int p4s), .val (.int p5s), .val (.int l0), .val (.int l1), .val (.int l2), .val (.int l3), .val (.ref b27), .val (.int z54), .val (.int e2), .unset] []))), G := by
                intro e2 hE2 r60
                have r61 : own_R p.tables e below F0 (T49.setTop (mkF m 128 #[.val (.int p0s), .val (.int p1s), .val (.int p2s), .val (.int p3s), .val (.int p4s), .val (.int p5s), .val (.int l0), .val (.int l1), .val (.int l2), .val (.int l3), .val (.ref b27), .val (.int z54), .val (.int e2), .unset] [(.int (2 : Int32)), (.int z54)])) := fun tg_ kg_ => by
                  refine r60 tg_ ?_
                  show Steps p.tables e below (T49.setTop (mkF m 125 #[.val (.int p0s), .val (.int p1s), .val (.int p2s), .val (.int p3s), .val (.int p4s), .val (.int p5s), .val (.int l0), .val (.int l1), .val (.int l2), .val (.int l3), .val (.ref b27), .val (.int z54), .val (.int e2), .unset] [])) _
                  refine XS.iload X49.here hx rfl (hb hby at_125) rfl ?_
                  show Steps p.tables e below (T49.setTop (mkF m 127 #[.val (.int p0s), .val (.int p1s), .val (.int p2s), .val (.int p3s), .val (.int p4s), .val (.int p5s), .val (.int l0), .val (.int l1), .val (.int l2), .val (.int l3), .val (.ref b27), .val (.int z54), .val (.int e2), .unset] [(.int z54)])) _
                  refine XS.iconst X49.here hx rfl (hb hby at_127) ?_
                  exact kg_
                have J62 : ∀ (e3 : Int32) (hE3 : (e3 = 1 ∧ ((((0 : Int32) < z54 ∧ l0 = p0s) ∨ ((1 : Int32) < z54 ∧ l1 = p0s)) ∨ ((2 : Int32) < z54 ∧ l2 = p0s))) ∨ (e3 = 0 ∧ ¬ ((((0 : Int32) < z54 ∧ l0 = p0s) ∨ ((1 : Int32) < z54 ∧ l1 = p0s)) ∨ ((2 : Int32) < z54 ∧ l2 = p0s)))) (r63 : own_R p.tables e below F0 (T49.setTop (mkF m 140 #[.val (.int p0s), .val (.int p1s), .val (.int p2s), .val (.int p3s), .val (.int p4s), .val (.int p5s), .val (.int l0), .val (.int l1), .val (.int l2), .val (.int l3), .val (.ref b27), .val (.int z54), .val (.int e3), .unset] []))), G := by
                  intro e3 hE3 r63
                  have r64 : own_R p.tables e below F0 (T49.setTop (mkF m 143 #[.val (.int p0s), .val (.int p1s), .val (.int p2s), .val (.int p3s), .val (.int p4s), .val (.int p5s), .val (.int l0), .val (.int l1), .val (.int l2), .val (.int l3), .val (.ref b27), .val (.int z54), .val (.int e3), .unset] [(.int (3 : Int32)), (.int z54)])) := fun tg_ kg_ => by
                    refine r63 tg_ ?_
                    show Steps p.tables e below (T49.setTop (mkF m 140 #[.val (.int p0s), .val (.int p1s), .val (.int p2s), .val (.int p3s), .val (.int p4s), .val (.int p5s), .val (.int l0), .val (.int l1), .val (.int l2), .val (.int l3), .val (.ref b27), .val (.int z54), .val (.int e3), .unset] [])) _
                    refine XS.iload X49.here hx rfl (hb hby at_140) rfl ?_
                    show Steps p.tables e below (T49.setTop (mkF m 142 #[.val (.int p0s), .val (.int p1s), .val (.int p2s), .val (.int p3s), .val (.int p4s), .val (.int p5s), .val (.int l0), .val (.int l1), .val (.int l2), .val (.int l3), .val (.ref b27), .val (.int z54), .val (.int e3), .unset] [(.int z54)])) _
                    refine XS.iconst X49.here hx rfl (hb hby at_142) ?_
                    exact kg_
                  have J65 : ∀ (e4 : Int32) (hE4 : (e4 = 1 ∧ (((((0 : Int32) < z54 ∧ l0 = p0s) ∨ ((1 : Int32) < z54 ∧ l1 = p0s)) ∨ ((2 : Int32) < z54 ∧ l2 = p0s)) ∨ ((3 : Int32) < z54 ∧ l3 = p0s))) ∨ (e4 = 0 ∧ ¬ (((((0 : Int32) < z54 ∧ l0 = p0s) ∨ ((1 : Int32) < z54 ∧ l1 = p0s)) ∨ ((2 : Int32) < z54 ∧ l2 = p0s)) ∨ ((3 : Int32) < z54 ∧ l3 = p0s)))) (r66 : own_R p.tables e below F0 (T49.setTop (mkF m 155 #[.val (.int p0s), .val (.int p1s), .val (.int p2s), .val (.int p3s), .val (.int p4s), .val (.int p5s), .val (.int l0), .val (.int l1), .val (.int l2), .val (.int l3), .val (.ref b27), .val (.int z54), .val (.int e4), .unset] []))), G := by
                    intro e4 hE4 r66
                    have r67 : own_R p.tables e below F0 (T49.setTop (mkF m 160 #[.val (.int p0s), .val (.int p1s), .val (.int p2s), .val (.int p3s), .val (.int p4s), .val (.int p5s), .val (.int l0), .val (.int l1), .val (.int l2), .val (.int l3), .val (.ref b27), .val (.int z54), .val (.int e4), .unset] [(.int z54), (.ref b27), (.int p0s)])) := fun tg_ kg_ => by
                      refine r66 tg_ ?_
                      show Steps p.tables e below (T49.setTop (mkF m 155 #[.val (.int p0s), .val (.int p1s), .val (.int p2s), .val (.int p3s), .val (.int p4s), .val (.int p5s), .val (.int l0), .val (.int l1), .val (.int l2), .val (.int l3), .val (.ref b27), .val (.int z54), .val (.int e4), .unset] [])) _
                      refine XS.iloadN X49.here hx rfl (hb hby at_155) rfl ?_
                      show Steps p.tables e below (T49.setTop (mkF m 156 #[.val (.int p0s), .val (.int p1s), .val (.int p2s), .val (.int p3s), .val (.int p4s), .val (.int p5s), .val (.int l0), .val (.int l1), .val (.int l2), .val (.int l3), .val (.ref b27), .val (.int z54), .val (.int e4), .unset] [(.int p0s)])) _
                      refine XS.aload X49.here hx rfl (hb hby at_156) rfl rfl ?_
                      show Steps p.tables e below (T49.setTop (mkF m 158 #[.val (.int p0s), .val (.int p1s), .val (.int p2s), .val (.int p3s), .val (.int p4s), .val (.int p5s), .val (.int l0), .val (.int l1), .val (.int l2), .val (.int l3), .val (.ref b27), .val (.int z54), .val (.int e4), .unset] [(.ref b27), (.int p0s)])) _
                      refine XS.iload X49.here hx rfl (hb hby at_158) rfl ?_
                      exact kg_
                    obtain ⟨_, _, ⟨T68, L68, k68, n68⟩, -, X68, ⟨Lc68, hQ68, l68, y68, z68⟩, st68⟩ := Jvm.LawKit.callS X49 hx (y := (⟨"org/jadoube/rules/MoveGenerator", "isAmong", "(I[II)Z"⟩ : MethodName)) hown (mvT hZ (hw _ (List.mem_of_getElem? (i := 2) rfl))) (mvT hZ (hw _ (List.mem_of_getElem? (i := 3) rfl))) (mvT hZ (hw _ (List.mem_of_getElem? (i := 4) rfl))) (mvT hZ (hw _ (List.mem_of_getElem? (i := 5) rfl))) (by decide) (backOf (W := 0) (rm1 l Z a0 hw [] p0s b27 z54 (4) (gf49) h49 n0 Zs51 F50 (by
                                            have q61_r := own_R32 p5s
                                            have q62_e : (2147483647 : Int32).toInt = 2147483647 := (by decide)
                                            have q62_r : (2147483647 : Int) ≤ (2147483647 : Int32).toInt ∧ (2147483647 : Int32).toInt ≤ 2147483647 := ⟨Int.le_of_eq q62_e.symm, Int.le_of_eq q62_e⟩
                                            have q63_ := own_maskR p5s (2147483647 : Int32) 31 2147483648 (by decide) (by decide) (by decide) 2147483647 (by decide) (by decide)
                                            have q63_e := q63_.1
                                            have q63_r := q63_.2
                                            have q64_e : (5 : Int32).toInt = 5 := (by decide)
                                            have q64_r : (5 : Int) ≤ (5 : Int32).toInt ∧ (5 : Int32).toInt ≤ 5 := ⟨Int.le_of_eq q64_e.symm, Int.le_of_eq q64_e⟩
                                            have q65_ := own_iremR 4 q63_r (show (5 : Int32).toInt = 5 from by decide) (by decide) (by decide) (by decide)
                                            have q65_e := q65_.1
                                            have q65_r := q65_.2
                                            have q66_ := own_eqR32 hz54 q65_r
                                            have q66_e := q66_.1
                                            have q66_r := q66_.2
                                            omega)) hZ (hw _ (List.mem_of_getElem? (i := 5) rfl)) (hw _ (List.mem_of_getElem? (i := 4) rfl)) (by decide) (by decide)) (g := (mkF m 160 #[.val (.int p0s), .val (.int p1s), .val (.int p2s), .val (.int p3s), .val (.int p4s), .val (.int p5s), .val (.int l0), .val (.int l1), .val (.int l2), .val (.int l3), .val (.ref b27), .val (.int z54), .val (.int e4), .unset] [(.int z54), (.ref b27), (.int p0s)])) rfl (by rw [hml]; rfl) (argsL := [(.int p0s), (.ref b27), (.int z54)]) (rest := []) (lenOf pd_0 rfl) rfl (by show 2 * 0 + _ ≤ _; exact Nat.le_of_eq rfl) (hb hby at_160) (fun _ _ => ⟨rfl, e49, (by decide : 1 + 0 ≤ _), (by decide : 4 + 0 ≤ _)⟩)
                    dsimp only [Pt.U, Pt.locs, Pt.cells, Pt.slots] at X68 l68 y68 z68 st68 hQ68
                    subst l68 y68 z68
                    obtain ⟨r_68, rfl, N68q, I68_0, I68_1⟩ := hQ68
                    have N68 := Fr.app N52 N68q
                    have r68 : own_R p.tables e below F0 (T68.setTop (mkF m 163 #[.val (.int p0s), .val (.int p1s), .val (.int p2s), .val (.int p3s), .val (.int p4s), .val (.int p5s), .val (.int l0), .val (.int l1), .val (.int l2), .val (.int l3), .val (.ref b27), .val (.int z54), .val (.int e4), .unset] [(.int r_68)])) := fun tg_ kg_ => r67 tg_ (st68 tg_ kg_)
                    have r69 : own_R p.tables e below F0 (T68.setTop (mkF m 169 #[.val (.int p0s), .val (.int p1s), .val (.int p2s), .val (.int p3s), .val (.int p4s), .val (.int p5s), .val (.int l0), .val (.int l1), .val (.int l2), .val (.int l3), .val (.ref b27), .val (.int z54), .val (.int e4), .val (.int r_68)] [(.int e4), (.int r_68)])) := fun tg_ kg_ => by
                      refine r68 tg_ ?_
                      show Steps p.tables e below (T68.setTop (mkF m 163 #[.val (.int p0s), .val (.int p1s), .val (.int p2s), .val (.int p3s), .val (.int p4s), .val (.int p5s), .val (.int l0), .val (.int l1), .val (.int l2), .val (.int l3), .val (.ref b27), .val (.int z54), .val (.int e4), .unset] [(.int r_68)])) _
                      refine XS.istore X68.here hx rfl (hb hby at_163) rfl (l' := #[.val (.int p0s), .val (.int p1s), .val (.int p2s), .val (.int p3s), .val (.int p4s), .val (.int p5s), .val (.int l0), .val (.int l1), .val (.int l2), .val (.int l3), .val (.ref b27), .val (.int z54), .val (.int e4), .val (.int r_68)]) rfl ?_
                      show Steps p.tables e below (T68.setTop (mkF m 165 #[.val (.int p0s), .val (.int p1s), .val (.int p2s), .val (.int p3s), .val (.int p4s), .val (.int p5s), .val (.int l0), .val (.int l1), .val (.int l2), .val (.int l3), .val (.ref b27), .val (.int z54), .val (.int e4), .val (.int r_68)] [])) _
                      refine XS.iload X68.here hx rfl (hb hby at_165) rfl ?_
                      show Steps p.tables e below (T68.setTop (mkF m 167 #[.val (.int p0s), .val (.int p1s), .val (.int p2s), .val (.int p3s), .val (.int p4s), .val (.int p5s), .val (.int l0), .val (.int l1), .val (.int l2), .val (.int l3), .val (.ref b27), .val (.int z54), .val (.int e4), .val (.int r_68)] [(.int r_68)])) _
                      refine XS.iload X68.here hx rfl (hb hby at_167) rfl ?_
                      exact kg_
                    by_cases hc70 : r_68 = e4
                    · have r71 : own_R p.tables e below F0 (T68.setTop (mkF m 177 #[.val (.int p0s), .val (.int p1s), .val (.int p2s), .val (.int p3s), .val (.int p4s), .val (.int p5s), .val (.int l0), .val (.int l1), .val (.int l2), .val (.int l3), .val (.ref b27), .val (.int z54), .val (.int e4), .val (.int r_68)] [(.int (1 : Int32))])) := fun tg_ kg_ => by
                        refine r69 tg_ ?_
                        show Steps p.tables e below (T68.setTop (mkF m 169 #[.val (.int p0s), .val (.int p1s), .val (.int p2s), .val (.int p3s), .val (.int p4s), .val (.int p5s), .val (.int l0), .val (.int l1), .val (.int l2), .val (.int l3), .val (.ref b27), .val (.int z54), .val (.int e4), .val (.int r_68)] [(.int e4), (.int r_68)])) _
                        refine XS.icmpNo X68.here hx rfl (hb hby at_169) rfl (teq hc70).2 ?_
                        show Steps p.tables e below (T68.setTop (mkF m 172 #[.val (.int p0s), .val (.int p1s), .val (.int p2s), .val (.int p3s), .val (.int p4s), .val (.int p5s), .val (.int l0), .val (.int l1), .val (.int l2), .val (.int l3), .val (.ref b27), .val (.int z54), .val (.int e4), .val (.int r_68)] [])) _
                        refine XS.iconst X68.here hx rfl (hb hby at_172) ?_
                        show Steps p.tables e below (T68.setTop (mkF m 173 #[.val (.int p0s), .val (.int p1s), .val (.int p2s), .val (.int p3s), .val (.int p4s), .val (.int p5s), .val (.int l0), .val (.int l1), .val (.int l2), .val (.int l3), .val (.ref b27), .val (.int z54), .val (.int e4), .val (.int r_68)] [(.int (1 : Int32))])) _
                        refine XS.goto X68.here hx rfl (pc0 := 173) (pc' := 177) rfl (hb hby at_173) (by decide) (by decide) ?_
                        exact kg_
                      refine hG (own_fin X68 hlk (some (.int (nar .boolean (1 : Int32)))) (own_hv Bd.returns) ?_ (by decide) (by decide) (fun fs hr => r71 _ (retN X68 hx (t := .boolean) Bd.returns (by simp) (hb hby at_177) hr)))
                      rw [I68_0]
                      exact ⟨rfl, N68⟩
                    · have r72 : own_R p.tables e below F0 (T68.setTop (mkF m 177 #[.val (.int p0s), .val (.int p1s), .val (.int p2s), .val (.int p3s), .val (.int p4s), .val (.int p5s), .val (.int l0), .val (.int l1), .val (.int l2), .val (.int l3), .val (.ref b27), .val (.int z54), .val (.int e4), .val (.int r_68)] [(.int (0 : Int32))])) := fun tg_ kg_ => by
                        refine r69 tg_ ?_
                        show Steps p.tables e below (T68.setTop (mkF m 169 #[.val (.int p0s), .val (.int p1s), .val (.int p2s), .val (.int p3s), .val (.int p4s), .val (.int p5s), .val (.int l0), .val (.int l1), .val (.int l2), .val (.int l3), .val (.ref b27), .val (.int z54), .val (.int e4), .val (.int r_68)] [(.int e4), (.int r_68)])) _
                        refine XS.icmpYes X68.here hx rfl (pc0 := 169) (pc' := 176) rfl (hb hby at_169) rfl (feq hc70).2 (by decide) (by decide) ?_
                        show Steps p.tables e below (T68.setTop (mkF m 176 #[.val (.int p0s), .val (.int p1s), .val (.int p2s), .val (.int p3s), .val (.int p4s), .val (.int p5s), .val (.int l0), .val (.int l1), .val (.int l2), .val (.int l3), .val (.ref b27), .val (.int z54), .val (.int e4), .val (.int r_68)] [])) _
                        refine XS.iconst X68.here hx rfl (hb hby at_176) ?_
                        exact kg_
                      exfalso
                      have q67_r := own_R32 p5s
                      have q68_e : (2147483647 : Int32).toInt = 2147483647 := (by decide)
                      have q68_r : (2147483647 : Int) ≤ (2147483647 : Int32).toInt ∧ (2147483647 : Int32).toInt ≤ 2147483647 := ⟨Int.le_of_eq q68_e.symm, Int.le_of_eq q68_e⟩
                      have q69_ := own_maskR p5s (2147483647 : Int32) 31 2147483648 (by decide) (by decide) (by decide) 2147483647 (by decide) (by decide)
                      have q69_e := q69_.1
                      have q69_r := q69_.2
                      have q70_e : (5 : Int32).toInt = 5 := (by decide)
                      have q70_r : (5 : Int) ≤ (5 : Int32).toInt ∧ (5 : Int32).toInt ≤ 5 := ⟨Int.le_of_eq q70_e.symm, Int.le_of_eq q70_e⟩
                      have q71_ := own_iremR 4 q69_r (show (5 : Int32).toInt = 5 from by decide) (by decide) (by decide) (by decide)
                      have q71_e := q71_.1
                      have q71_r := q71_.2
                      have q72_ := own_eqR32 hz54 q71_r
                      have q72_e := q72_.1
                      have q72_r := q72_.2
                      have am := own_amg z54 p0s l0 l1 l2 l3 (by omega) (gf49) (by rw [hgf49, if_neg (by decide), hgf43, if_neg (by decide), hgf37, if_neg (by decide), hgf31, if_pos rfl]) (by rw [hgf49, if_neg (by decide), hgf43, if_neg (by decide), hgf37, if_pos rfl]) (by rw [hgf49, if_neg (by decide), hgf43, if_pos rfl]) (by rw [hgf49, if_pos rfl])
                      rcases hE4 with ⟨q1, q2⟩ | ⟨q1, q2⟩ <;> rcases I68_1 with ⟨p1, p2⟩ | ⟨p1, p2⟩
                      · exact hc70 (p1.trans q1.symm)
                      · obtain ⟨j, j1, j2⟩ := am.mpr q2; exact p2 j j1 j2
                      · exact q2 (am.mp p2)
                      · exact hc70 (p1.trans q1.symm)
                  by_cases hc73 : (3 : Int32) < z54
                  · have r74 : own_R p.tables e below F0 (T49.setTop (mkF m 149 #[.val (.int p0s), .val (.int p1s), .val (.int p2s), .val (.int p3s), .val (.int p4s), .val (.int p5s), .val (.int l0), .val (.int l1), .val (.int l2), .val (.int l3), .val (.ref b27), .val (.int z54), .val (.int e3), .unset] [(.int p0s), (.int l3)])) := fun tg_ kg_ => by
                      refine r64 tg_ ?_
                      show Steps p.tables e below (T49.setTop (mkF m 143 #[.val (.int p0s), .val (.int p1s), .val (.int p2s), .val (.int p3s), .val (.int p4s), .val (.int p5s), .val (.int l0), .val (.int l1), .val (.int l2), .val (.int l3), .val (.ref b27), .val (.int z54), .val (.int e3), .unset] [(.int (3 : Int32)), (.int z54)])) _
                      refine XS.icmpNo X49.here hx rfl (hb hby at_143) rfl (tlt hc73).2.2.2 ?_
                      show Steps p.tables e below (T49.setTop (mkF m 146 #[.val (.int p0s), .val (.int p1s), .val (.int p2s), .val (.int p3s), .val (.int p4s), .val (.int p5s), .val (.int l0), .val (.int l1), .val (.int l2), .val (.int l3), .val (.ref b27), .val (.int z54), .val (.int e3), .unset] [])) _
                      refine XS.iload X49.here hx rfl (hb hby at_146) rfl ?_
                      show Steps p.tables e below (T49.setTop (mkF m 148 #[.val (.int p0s), .val (.int p1s), .val (.int p2s), .val (.int p3s), .val (.int p4s), .val (.int p5s), .val (.int l0), .val (.int l1), .val (.int l2), .val (.int l3), .val (.ref b27), .val (.int z54), .val (.int e3), .unset] [(.int l3)])) _
                      refine XS.iloadN X49.here hx rfl (hb hby at_148) rfl ?_
                      exact kg_
                    by_cases hc75 : l3 = p0s
                    · have r76 : own_R p.tables e below F0 (T49.setTop (mkF m 155 #[.val (.int p0s), .val (.int p1s), .val (.int p2s), .val (.int p3s), .val (.int p4s), .val (.int p5s), .val (.int l0), .val (.int l1), .val (.int l2), .val (.int l3), .val (.ref b27), .val (.int z54), .val (.int (1 : Int32)), .unset] [])) := fun tg_ kg_ => by
                        refine r74 tg_ ?_
                        show Steps p.tables e below (T49.setTop (mkF m 149 #[.val (.int p0s), .val (.int p1s), .val (.int p2s), .val (.int p3s), .val (.int p4s), .val (.int p5s), .val (.int l0), .val (.int l1), .val (.int l2), .val (.int l3), .val (.ref b27), .val (.int z54), .val (.int e3), .unset] [(.int p0s), (.int l3)])) _
                        refine XS.icmpNo X49.here hx rfl (hb hby at_149) rfl (teq hc75).2 ?_
                        show Steps p.tables e below (T49.setTop (mkF m 152 #[.val (.int p0s), .val (.int p1s), .val (.int p2s), .val (.int p3s), .val (.int p4s), .val (.int p5s), .val (.int l0), .val (.int l1), .val (.int l2), .val (.int l3), .val (.ref b27), .val (.int z54), .val (.int e3), .unset] [])) _
                        refine XS.iconst X49.here hx rfl (hb hby at_152) ?_
                        show Steps p.tables e below (T49.setTop (mkF m 153 #[.val (.int p0s), .val (.int p1s), .val (.int p2s), .val (.int p3s), .val (.int p4s), .val (.int p5s), .val (.int l0), .val (.int l1), .val (.int l2), .val (.int l3), .val (.ref b27), .val (.int z54), .val (.int e3), .unset] [(.int (1 : Int32))])) _
                        refine XS.istore X49.here hx rfl (hb hby at_153) rfl (l' := #[.val (.int p0s), .val (.int p1s), .val (.int p2s), .val (.int p3s), .val (.int p4s), .val (.int p5s), .val (.int l0), .val (.int l1), .val (.int l2), .val (.int l3), .val (.ref b27), .val (.int z54), .val (.int (1 : Int32)), .unset]) rfl ?_
                        exact kg_
                      exact J65 (1 : Int32) (Or.inl ⟨rfl, Or.inr ⟨hc73, hc75⟩⟩) r76
                    · have r77 : own_R p.tables e below F0 (T49.setTop (mkF m 155 #[.val (.int p0s), .val (.int p1s), .val (.int p2s), .val (.int p3s), .val (.int p4s), .val (.int p5s), .val (.int l0), .val (.int l1), .val (.int l2), .val (.int l3), .val (.ref b27), .val (.int z54), .val (.int e3), .unset] [])) := fun tg_ kg_ => by
                        refine r74 tg_ ?_
                        show Steps p.tables e below (T49.setTop (mkF m 149 #[.val (.int p0s), .val (.int p1s), .val (.int p2s), .val (.int p3s), .val (.int p4s), .val (.int p5s), .val (.int l0), .val (.int l1), .val (.int l2), .val (.int l3), .val (.ref b27), .val (.int z54), .val (.int e3), .unset] [(.int p0s), (.int l3)])) _
                        refine XS.icmpYes X49.here hx rfl (pc0 := 149) (pc' := 155) rfl (hb hby at_149) rfl (feq hc75).2 (by decide) (by decide) ?_
                        exact kg_
                      exact J65 e3 (hE3.imp (fun q => ⟨q.1, Or.inl q.2⟩) (fun q => ⟨q.1, fun z => z.elim q.2 (fun y => hc75 y.2)⟩)) r77
                  · have r78 : own_R p.tables e below F0 (T49.setTop (mkF m 155 #[.val (.int p0s), .val (.int p1s), .val (.int p2s), .val (.int p3s), .val (.int p4s), .val (.int p5s), .val (.int l0), .val (.int l1), .val (.int l2), .val (.int l3), .val (.ref b27), .val (.int z54), .val (.int e3), .unset] [])) := fun tg_ kg_ => by
                      refine r64 tg_ ?_
                      show Steps p.tables e below (T49.setTop (mkF m 143 #[.val (.int p0s), .val (.int p1s), .val (.int p2s), .val (.int p3s), .val (.int p4s), .val (.int p5s), .val (.int l0), .val (.int l1), .val (.int l2), .val (.int l3), .val (.ref b27), .val (.int z54), .val (.int e3), .unset] [(.int (3 : Int32)), (.int z54)])) _
                      refine XS.icmpYes X49.here hx rfl (pc0 := 143) (pc' := 155) rfl (hb hby at_143) rfl (flt hc73).2.2.2 (by decide) (by decide) ?_
                      exact kg_
                    exact J65 e3 (hE3.imp (fun q => ⟨q.1, Or.inl q.2⟩) (fun q => ⟨q.1, fun z => z.elim q.2 (fun y => hc73 y.1)⟩)) r78
                by_cases hc79 : (2 : Int32) < z54
                · have r80 : own_R p.tables e below F0 (T49.setTop (mkF m 134 #[.val (.int p0s), .val (.int p1s), .val (.int p2s), .val (.int p3s), .val (.int p4s), .val (.int p5s), .val (.int l0), .val (.int l1), .val (.int l2), .val (.int l3), .val (.ref b27), .val (.int z54), .val (.int e2), .unset] [(.int p0s), (.int l2)])) := fun tg_ kg_ => by
                    refine r61 tg_ ?_
                    show Steps p.tables e below (T49.setTop (mkF m 128 #[.val (.int p0s), .val (.int p1s), .val (.int p2s), .val (.int p3s), .val (.int p4s), .val (.int p5s), .val (.int l0), .val (.int l1), .val (.int l2), .val (.int l3), .val (.ref b27), .val (.int z54), .val (.int e2), .unset] [(.int (2 : Int32)), (.int z54)])) _
                    refine XS.icmpNo X49.here hx rfl (hb hby at_128) rfl (tlt hc79).2.2.2 ?_
                    show Steps p.tables e below (T49.setTop (mkF m 131 #[.val (.int p0s), .val (.int p1s), .val (.int p2s), .val (.int p3s), .val (.int p4s), .val (.int p5s), .val (.int l0), .val (.int l1), .val (.int l2), .val (.int l3), .val (.ref b27), .val (.int z54), .val (.int e2), .unset] [])) _
                    refine XS.iload X49.here hx rfl (hb hby at_131) rfl ?_
                    show Steps p.tables e below (T49.setTop (mkF m 133 #[.val (.int p0s), .val (.int p1s), .val (.int p2s), .val (.int p3s), .val (.int p4s), .val (.int p5s), .val (.int l0), .val (.int l1), .val (.int l2), .val (.int l3), .val (.ref b27), .val (.int z54), .val (.int e2), .unset] [(.int l2)])) _
                    refine XS.iloadN X49.here hx rfl (hb hby at_133) rfl ?_
                    exact kg_
                  by_cases hc81 : l2 = p0s
                  · have r82 : own_R p.tables e below F0 (T49.setTop (mkF m 140 #[.val (.int p0s), .val (.int p1s), .val (.int p2s), .val (.int p3s), .val (.int p4s), .val (.int p5s), .val (.int l0), .val (.int l1), .val (.int l2), .val (.int l3), .val (.ref b27), .val (.int z54), .val (.int (1 : Int32)), .unset] [])) := fun tg_ kg_ => by
                      refine r80 tg_ ?_
                      show Steps p.tables e below (T49.setTop (mkF m 134 #[.val (.int p0s), .val (.int p1s), .val (.int p2s), .val (.int p3s), .val (.int p4s), .val (.int p5s), .val (.int l0), .val (.int l1), .val (.int l2), .val (.int l3), .val (.ref b27), .val (.int z54), .val (.int e2), .unset] [(.int p0s), (.int l2)])) _
                      refine XS.icmpNo X49.here hx rfl (hb hby at_134) rfl (teq hc81).2 ?_
                      show Steps p.tables e below (T49.setTop (mkF m 137 #[.val (.int p0s), .val (.int p1s), .val (.int p2s), .val (.int p3s), .val (.int p4s), .val (.int p5s), .val (.int l0), .val (.int l1), .val (.int l2), .val (.int l3), .val (.ref b27), .val (.int z54), .val (.int e2), .unset] [])) _
                      refine XS.iconst X49.here hx rfl (hb hby at_137) ?_
                      show Steps p.tables e below (T49.setTop (mkF m 138 #[.val (.int p0s), .val (.int p1s), .val (.int p2s), .val (.int p3s), .val (.int p4s), .val (.int p5s), .val (.int l0), .val (.int l1), .val (.int l2), .val (.int l3), .val (.ref b27), .val (.int z54), .val (.int e2), .unset] [(.int (1 : Int32))])) _
                      refine XS.istore X49.here hx rfl (hb hby at_138) rfl (l' := #[.val (.int p0s), .val (.int p1s), .val (.int p2s), .val (.int p3s), .val (.int p4s), .val (.int p5s), .val (.int l0), .val (.int l1), .val (.int l2), .val (.int l3), .val (.ref b27), .val (.int z54), .val (.int (1 : Int32)), .unset]) rfl ?_
                      exact kg_
                    exact J62 (1 : Int32) (Or.inl ⟨rfl, Or.inr ⟨hc79, hc81⟩⟩) r82
                  · have r83 : own_R p.tables e below F0 (T49.setTop (mkF m 140 #[.val (.int p0s), .val (.int p1s), .val (.int p2s), .val (.int p3s), .val (.int p4s), .val (.int p5s), .val (.int l0), .val (.int l1), .val (.int l2), .val (.int l3), .val (.ref b27), .val (.int z54), .val (.int e2), .unset] [])) := fun tg_ kg_ => by
                      refine r80 tg_ ?_
                      show Steps p.tables e below (T49.setTop (mkF m 134 #[.val (.int p0s), .val (.int p1s), .val (.int p2s), .val (.int p3s), .val (.int p4s), .val (.int p5s), .val (.int l0), .val (.int l1), .val (.int l2), .val (.int l3), .val (.ref b27), .val (.int z54), .val (.int e2), .unset] [(.int p0s), (.int l2)])) _
                      refine XS.icmpYes X49.here hx rfl (pc0 := 134) (pc' := 140) rfl (hb hby at_134) rfl (feq hc81).2 (by decide) (by decide) ?_
                      exact kg_
                    exact J62 e2 (hE2.imp (fun q => ⟨q.1, Or.inl q.2⟩) (fun q => ⟨q.1, fun z => z.elim q.2 (fun y => hc81 y.2)⟩)) r83
                · have r84 : own_R p.tables e below F0 (T49.setTop (mkF m 140 #[.val (.int p0s), .val (.int p1s), .val (.int p2s), .val (.int p3s), .val (.int p4s), .val (.int p5s), .val (.int l0), .val (.int l1), .val (.int l2), .val (.int l3), .val (.ref b27), .val (.int z54), .val (.int e2), .unset] [])) := fun tg_ kg_ => by
                    refine r61 tg_ ?_
                    show Steps p.tables e below (T49.setTop (mkF m 128 #[.val (.int p0s), .val (.int p1s), .val (.int p2s), .val (.int p3s), .val (.int p4s), .val (.int p5s), .val (.int l0), .val (.int l1), .val (.int l2), .val (.int l3), .val (.ref b27), .val (.int z54), .val (.int e2), .unset] [(.int (2 : Int32)), (.int z54)])) _
                    refine XS.icmpYes X49.here hx rfl (pc0 := 128) (pc' := 140) rfl (hb hby at_128) rfl (flt hc79).2.2.2 (by decide) (by decide) ?_
                    exact kg_
                  exact J62 e2 (hE2.imp (fun q => ⟨q.1, Or.inl q.2⟩) (fun q => ⟨q.1, fun z => z.elim q.2 (fun y => hc79 y.1)⟩)) r84
              by_cases hc85 : (1 : Int32) < z54
              · have r86 : own_R p.tables e below F0 (T49.setTop (mkF m 119 #[.val (.int p0s), .val (.int p1s), .val (.int p2s), .val (.int p3s), .val (.int p4s), .val (.int p5s), .val (.int l0), .val (.int l1), .val (.int l2), .val (.int l3), .val (.ref b27), .val (.int z54), .val (.int e1), .unset] [(.int p0s), (.int l1)])) := fun tg_ kg_ => by
                  refine r58 tg_ ?_
                  show Steps p.tables e below (T49.setTop (mkF m 113 #[.val (.int p0s), .val (.int p1s), .val (.int p2s), .val (.int p3s), .val (.int p4s), .val (.int p5s), .val (.int l0), .val (.int l1), .val (.int l2), .val (.int l3), .val (.ref b27), .val (.int z54), .val (.int e1), .unset] [(.int (1 : Int32)), (.int z54)])) _
                  refine XS.icmpNo X49.here hx rfl (hb hby at_113) rfl (tlt hc85).2.2.2 ?_
                  show Steps p.tables e below (T49.setTop (mkF m 116 #[.val (.int p0s), .val (.int p1s), .val (.int p2s), .val (.int p3s), .val (.int p4s), .val (.int p5s), .val (.int l0), .val (.int l1), .val (.int l2), .val (.int l3), .val (.ref b27), .val (.int z54), .val (.int e1), .unset] [])) _
                  refine XS.iload X49.here hx rfl (hb hby at_116) rfl ?_
                  show Steps p.tables e below (T49.setTop (mkF m 118 #[.val (.int p0s), .val (.int p1s), .val (.int p2s), .val (.int p3s), .val (.int p4s), .val (.int p5s), .val (.int l0), .val (.int l1), .val (.int l2), .val (.int l3), .val (.ref b27), .val (.int z54), .val (.int e1), .unset] [(.int l1)])) _
                  refine XS.iloadN X49.here hx rfl (hb hby at_118) rfl ?_
                  exact kg_
                by_cases hc87 : l1 = p0s
                · have r88 : own_R p.tables e below F0 (T49.setTop (mkF m 125 #[.val (.int p0s), .val (.int p1s), .val (.int p2s), .val (.int p3s), .val (.int p4s), .val (.int p5s), .val (.int l0), .val (.int l1), .val (.int l2), .val (.int l3), .val (.ref b27), .val (.int z54), .val (.int (1 : Int32)), .unset] [])) := fun tg_ kg_ => by
                    refine r86 tg_ ?_
                    show Steps p.tables e below (T49.setTop (mkF m 119 #[.val (.int p0s), .val (.int p1s), .val (.int p2s), .val (.int p3s), .val (.int p4s), .val (.int p5s), .val (.int l0), .val (.int l1), .val (.int l2), .val (.int l3), .val (.ref b27), .val (.int z54), .val (.int e1), .unset] [(.int p0s), (.int l1)])) _
                    refine XS.icmpNo X49.here hx rfl (hb hby at_119) rfl (teq hc87).2 ?_
                    show Steps p.tables e below (T49.setTop (mkF m 122 #[.val (.int p0s), .val (.int p1s), .val (.int p2s), .val (.int p3s), .val (.int p4s), .val (.int p5s), .val (.int l0), .val (.int l1), .val (.int l2), .val (.int l3), .val (.ref b27), .val (.int z54), .val (.int e1), .unset] [])) _
                    refine XS.iconst X49.here hx rfl (hb hby at_122) ?_
                    show Steps p.tables e below (T49.setTop (mkF m 123 #[.val (.int p0s), .val (.int p1s), .val (.int p2s), .val (.int p3s), .val (.int p4s), .val (.int p5s), .val (.int l0), .val (.int l1), .val (.int l2), .val (.int l3), .val (.ref b27), .val (.int z54), .val (.int e1), .unset] [(.int (1 : Int32))])) _
                    refine XS.istore X49.here hx rfl (hb hby at_123) rfl (l' := #[.val (.int p0s), .val (.int p1s), .val (.int p2s), .val (.int p3s), .val (.int p4s), .val (.int p5s), .val (.int l0), .val (.int l1), .val (.int l2), .val (.int l3), .val (.ref b27), .val (.int z54), .val (.int (1 : Int32)), .unset]) rfl ?_
                    exact kg_
                  exact J59 (1 : Int32) (Or.inl ⟨rfl, Or.inr ⟨hc85, hc87⟩⟩) r88
                · have r89 : own_R p.tables e below F0 (T49.setTop (mkF m 125 #[.val (.int p0s), .val (.int p1s), .val (.int p2s), .val (.int p3s), .val (.int p4s), .val (.int p5s), .val (.int l0), .val (.int l1), .val (.int l2), .val (.int l3), .val (.ref b27), .val (.int z54), .val (.int e1), .unset] [])) := fun tg_ kg_ => by
                    refine r86 tg_ ?_
                    show Steps p.tables e below (T49.setTop (mkF m 119 #[.val (.int p0s), .val (.int p1s), .val (.int p2s), .val (.int p3s), .val (.int p4s), .val (.int p5s), .val (.int l0), .val (.int l1), .val (.int l2), .val (.int l3), .val (.ref b27), .val (.int z54), .val (.int e1), .unset] [(.int p0s), (.int l1)])) _
                    refine XS.icmpYes X49.here hx rfl (pc0 := 119) (pc' := 125) rfl (hb hby at_119) rfl (feq hc87).2 (by decide) (by decide) ?_
                    exact kg_
                  exact J59 e1 (hE1.imp (fun q => ⟨q.1, Or.inl q.2⟩) (fun q => ⟨q.1, fun z => z.elim q.2 (fun y => hc87 y.2)⟩)) r89
              · have r90 : own_R p.tables e below F0 (T49.setTop (mkF m 125 #[.val (.int p0s), .val (.int p1s), .val (.int p2s), .val (.int p3s), .val (.int p4s), .val (.int p5s), .val (.int l0), .val (.int l1), .val (.int l2), .val (.int l3), .val (.ref b27), .val (.int z54), .val (.int e1), .unset] [])) := fun tg_ kg_ => by
                  refine r58 tg_ ?_
                  show Steps p.tables e below (T49.setTop (mkF m 113 #[.val (.int p0s), .val (.int p1s), .val (.int p2s), .val (.int p3s), .val (.int p4s), .val (.int p5s), .val (.int l0), .val (.int l1), .val (.int l2), .val (.int l3), .val (.ref b27), .val (.int z54), .val (.int e1), .unset] [(.int (1 : Int32)), (.int z54)])) _
                  refine XS.icmpYes X49.here hx rfl (pc0 := 113) (pc' := 125) rfl (hb hby at_113) rfl (flt hc85).2.2.2 (by decide) (by decide) ?_
                  exact kg_
                exact J59 e1 (hE1.imp (fun q => ⟨q.1, Or.inl q.2⟩) (fun q => ⟨q.1, fun z => z.elim q.2 (fun y => hc85 y.1)⟩)) r90
            by_cases hc91 : (0 : Int32) < z54
            · have r92 : own_R p.tables e below F0 (T49.setTop (mkF m 104 #[.val (.int p0s), .val (.int p1s), .val (.int p2s), .val (.int p3s), .val (.int p4s), .val (.int p5s), .val (.int l0), .val (.int l1), .val (.int l2), .val (.int l3), .val (.ref b27), .val (.int z54), .val (.int (0 : Int32)), .unset] [(.int p0s), (.int l0)])) := fun tg_ kg_ => by
                refine r55 tg_ ?_
                show Steps p.tables e below (T49.setTop (mkF m 98 #[.val (.int p0s), .val (.int p1s), .val (.int p2s), .val (.int p3s), .val (.int p4s), .val (.int p5s), .val (.int l0), .val (.int l1), .val (.int l2), .val (.int l3), .val (.ref b27), .val (.int z54), .val (.int (0 : Int32)), .unset] [(.int z54)])) _
                refine XS.ifNo X49.here hx rfl (hb hby at_98) rfl ((if0 _ _).trans (tlt hc91).2.2.2) ?_
                show Steps p.tables e below (T49.setTop (mkF m 101 #[.val (.int p0s), .val (.int p1s), .val (.int p2s), .val (.int p3s), .val (.int p4s), .val (.int p5s), .val (.int l0), .val (.int l1), .val (.int l2), .val (.int l3), .val (.ref b27), .val (.int z54), .val (.int (0 : Int32)), .unset] [])) _
                refine XS.iload X49.here hx rfl (hb hby at_101) rfl ?_
                show Steps p.tables e below (T49.setTop (mkF m 103 #[.val (.int p0s), .val (.int p1s), .val (.int p2s), .val (.int p3s), .val (.int p4s), .val (.int p5s), .val (.int l0), .val (.int l1), .val (.int l2), .val (.int l3), .val (.ref b27), .val (.int z54), .val (.int (0 : Int32)), .unset] [(.int l0)])) _
                refine XS.iloadN X49.here hx rfl (hb hby at_103) rfl ?_
                exact kg_
              by_cases hc93 : l0 = p0s
              · have r94 : own_R p.tables e below F0 (T49.setTop (mkF m 110 #[.val (.int p0s), .val (.int p1s), .val (.int p2s), .val (.int p3s), .val (.int p4s), .val (.int p5s), .val (.int l0), .val (.int l1), .val (.int l2), .val (.int l3), .val (.ref b27), .val (.int z54), .val (.int (1 : Int32)), .unset] [])) := fun tg_ kg_ => by
                  refine r92 tg_ ?_
                  show Steps p.tables e below (T49.setTop (mkF m 104 #[.val (.int p0s), .val (.int p1s), .val (.int p2s), .val (.int p3s), .val (.int p4s), .val (.int p5s), .val (.int l0), .val (.int l1), .val (.int l2), .val (.int l3), .val (.ref b27), .val (.int z54), .val (.int (0 : Int32)), .unset] [(.int p0s), (.int l0)])) _
                  refine XS.icmpNo X49.here hx rfl (hb hby at_104) rfl (teq hc93).2 ?_
                  show Steps p.tables e below (T49.setTop (mkF m 107 #[.val (.int p0s), .val (.int p1s), .val (.int p2s), .val (.int p3s), .val (.int p4s), .val (.int p5s), .val (.int l0), .val (.int l1), .val (.int l2), .val (.int l3), .val (.ref b27), .val (.int z54), .val (.int (0 : Int32)), .unset] [])) _
                  refine XS.iconst X49.here hx rfl (hb hby at_107) ?_
                  show Steps p.tables e below (T49.setTop (mkF m 108 #[.val (.int p0s), .val (.int p1s), .val (.int p2s), .val (.int p3s), .val (.int p4s), .val (.int p5s), .val (.int l0), .val (.int l1), .val (.int l2), .val (.int l3), .val (.ref b27), .val (.int z54), .val (.int (0 : Int32)), .unset] [(.int (1 : Int32))])) _
                  refine XS.istore X49.here hx rfl (hb hby at_108) rfl (l' := #[.val (.int p0s), .val (.int p1s), .val (.int p2s), .val (.int p3s), .val (.int p4s), .val (.int p5s), .val (.int l0), .val (.int l1), .val (.int l2), .val (.int l3), .val (.ref b27), .val (.int z54), .val (.int (1 : Int32)), .unset]) rfl ?_
                  exact kg_
                exact J56 (1 : Int32) (Or.inl ⟨rfl, ⟨hc91, hc93⟩⟩) r94
              · have r95 : own_R p.tables e below F0 (T49.setTop (mkF m 110 #[.val (.int p0s), .val (.int p1s), .val (.int p2s), .val (.int p3s), .val (.int p4s), .val (.int p5s), .val (.int l0), .val (.int l1), .val (.int l2), .val (.int l3), .val (.ref b27), .val (.int z54), .val (.int (0 : Int32)), .unset] [])) := fun tg_ kg_ => by
                  refine r92 tg_ ?_
                  show Steps p.tables e below (T49.setTop (mkF m 104 #[.val (.int p0s), .val (.int p1s), .val (.int p2s), .val (.int p3s), .val (.int p4s), .val (.int p5s), .val (.int l0), .val (.int l1), .val (.int l2), .val (.int l3), .val (.ref b27), .val (.int z54), .val (.int (0 : Int32)), .unset] [(.int p0s), (.int l0)])) _
                  refine XS.icmpYes X49.here hx rfl (pc0 := 104) (pc' := 110) rfl (hb hby at_104) rfl (feq hc93).2 (by decide) (by decide) ?_
                  exact kg_
                exact J56 (0 : Int32) (Or.inr ⟨rfl, fun y => hc93 y.2⟩) r95
            · have r96 : own_R p.tables e below F0 (T49.setTop (mkF m 110 #[.val (.int p0s), .val (.int p1s), .val (.int p2s), .val (.int p3s), .val (.int p4s), .val (.int p5s), .val (.int l0), .val (.int l1), .val (.int l2), .val (.int l3), .val (.ref b27), .val (.int z54), .val (.int (0 : Int32)), .unset] [])) := fun tg_ kg_ => by
                refine r55 tg_ ?_
                show Steps p.tables e below (T49.setTop (mkF m 98 #[.val (.int p0s), .val (.int p1s), .val (.int p2s), .val (.int p3s), .val (.int p4s), .val (.int p5s), .val (.int l0), .val (.int l1), .val (.int l2), .val (.int l3), .val (.ref b27), .val (.int z54), .val (.int (0 : Int32)), .unset] [(.int z54)])) _
                refine XS.ifYes X49.here hx rfl (pc0 := 98) (pc' := 110) rfl (hb hby at_98) rfl ((if0 _ _).trans (flt hc91).2.2.2) (by decide) (by decide) ?_
                exact kg_
              exact J56 (0 : Int32) (Or.inr ⟨rfl, fun y => hc91 y.1⟩) r96
          by_cases hc97 : (p4s &&& (8 : Int32)) = (0 : Int32)
          · have r98 : own_R p.tables e below F0 (s₁.setTop (mkF m 57 #[.val (.int p0s), .val (.int p1s), .val (.int p2s), .val (.int p3s), .val (.int p4s), .val (.int p5s), .val (.int l0), .val (.int l1), .val (.int l2), .unset, .unset, .unset, .unset, .unset] [(.int (p2s ^^^ p3s))])) := fun tg_ kg_ => by
              refine r23 tg_ ?_
              show Steps p.tables e below (s₁.setTop (mkF m 47 #[.val (.int p0s), .val (.int p1s), .val (.int p2s), .val (.int p3s), .val (.int p4s), .val (.int p5s), .val (.int l0), .val (.int l1), .val (.int l2), .unset, .unset, .unset, .unset, .unset] [(.int (p4s &&& (8 : Int32)))])) _
              refine XS.ifYes X0.here hx rfl (pc0 := 47) (pc' := 54) rfl (hb hby at_47) rfl ((if0 _ _).trans (teq hc97).1) (by decide) (by decide) ?_
              show Steps p.tables e below (s₁.setTop (mkF m 54 #[.val (.int p0s), .val (.int p1s), .val (.int p2s), .val (.int p3s), .val (.int p4s), .val (.int p5s), .val (.int l0), .val (.int l1), .val (.int l2), .unset, .unset, .unset, .unset, .unset] [])) _
              refine XS.iloadN X0.here hx rfl (hb hby at_54) rfl ?_
              show Steps p.tables e below (s₁.setTop (mkF m 55 #[.val (.int p0s), .val (.int p1s), .val (.int p2s), .val (.int p3s), .val (.int p4s), .val (.int p5s), .val (.int l0), .val (.int l1), .val (.int l2), .unset, .unset, .unset, .unset, .unset] [(.int p2s)])) _
              refine XS.iloadN X0.here hx rfl (hb hby at_55) rfl ?_
              show Steps p.tables e below (s₁.setTop (mkF m 56 #[.val (.int p0s), .val (.int p1s), .val (.int p2s), .val (.int p3s), .val (.int p4s), .val (.int p5s), .val (.int l0), .val (.int l1), .val (.int l2), .unset, .unset, .unset, .unset, .unset] [(.int p3s), (.int p2s)])) _
              refine XS.ixor X0.here hx rfl (hb hby at_56) rfl ?_
              exact kg_
            exact J24 (p2s ^^^ p3s) r98
          · have r99 : own_R p.tables e below F0 (s₁.setTop (mkF m 57 #[.val (.int p0s), .val (.int p1s), .val (.int p2s), .val (.int p3s), .val (.int p4s), .val (.int p5s), .val (.int l0), .val (.int l1), .val (.int l2), .unset, .unset, .unset, .unset, .unset] [(.int p0s)])) := fun tg_ kg_ => by
              refine r23 tg_ ?_
              show Steps p.tables e below (s₁.setTop (mkF m 47 #[.val (.int p0s), .val (.int p1s), .val (.int p2s), .val (.int p3s), .val (.int p4s), .val (.int p5s), .val (.int l0), .val (.int l1), .val (.int l2), .unset, .unset, .unset, .unset, .unset] [(.int (p4s &&& (8 : Int32)))])) _
              refine XS.ifNo X0.here hx rfl (hb hby at_47) rfl ((if0 _ _).trans (feq hc97).1) ?_
              show Steps p.tables e below (s₁.setTop (mkF m 50 #[.val (.int p0s), .val (.int p1s), .val (.int p2s), .val (.int p3s), .val (.int p4s), .val (.int p5s), .val (.int l0), .val (.int l1), .val (.int l2), .unset, .unset, .unset, .unset, .unset] [])) _
              refine XS.iloadN X0.here hx rfl (hb hby at_50) rfl ?_
              show Steps p.tables e below (s₁.setTop (mkF m 51 #[.val (.int p0s), .val (.int p1s), .val (.int p2s), .val (.int p3s), .val (.int p4s), .val (.int p5s), .val (.int l0), .val (.int l1), .val (.int l2), .unset, .unset, .unset, .unset, .unset] [(.int p0s)])) _
              refine XS.goto X0.here hx rfl (pc0 := 51) (pc' := 57) rfl (hb hby at_51) (by decide) (by decide) ?_
              exact kg_
            exact J24 p0s r99
        by_cases hc100 : (p4s &&& (4 : Int32)) = (0 : Int32)
        · have r101 : own_R p.tables e below F0 (s₁.setTop (mkF m 40 #[.val (.int p0s), .val (.int p1s), .val (.int p2s), .val (.int p3s), .val (.int p4s), .val (.int p5s), .val (.int l0), .val (.int l1), .unset, .unset, .unset, .unset, .unset, .unset] [(.int p3s)])) := fun tg_ kg_ => by
            refine r20 tg_ ?_
            show Steps p.tables e below (s₁.setTop (mkF m 32 #[.val (.int p0s), .val (.int p1s), .val (.int p2s), .val (.int p3s), .val (.int p4s), .val (.int p5s), .val (.int l0), .val (.int l1), .unset, .unset, .unset, .unset, .unset, .unset] [(.int (p4s &&& (4 : Int32)))])) _
            refine XS.ifYes X0.here hx rfl (pc0 := 32) (pc' := 39) rfl (hb hby at_32) rfl ((if0 _ _).trans (teq hc100).1) (by decide) (by decide) ?_
            show Steps p.tables e below (s₁.setTop (mkF m 39 #[.val (.int p0s), .val (.int p1s), .val (.int p2s), .val (.int p3s), .val (.int p4s), .val (.int p5s), .val (.int l0), .val (.int l1), .unset, .unset, .unset, .unset, .unset, .unset] [])) _
            refine XS.iloadN X0.here hx rfl (hb hby at_39) rfl ?_
            exact kg_
          exact J21 p3s r101
        · have r102 : own_R p.tables e below F0 (s₁.setTop (mkF m 40 #[.val (.int p0s), .val (.int p1s), .val (.int p2s), .val (.int p3s), .val (.int p4s), .val (.int p5s), .val (.int l0), .val (.int l1), .unset, .unset, .unset, .unset, .unset, .unset] [(.int p0s)])) := fun tg_ kg_ => by
            refine r20 tg_ ?_
            show Steps p.tables e below (s₁.setTop (mkF m 32 #[.val (.int p0s), .val (.int p1s), .val (.int p2s), .val (.int p3s), .val (.int p4s), .val (.int p5s), .val (.int l0), .val (.int l1), .unset, .unset, .unset, .unset, .unset, .unset] [(.int (p4s &&& (4 : Int32)))])) _
            refine XS.ifNo X0.here hx rfl (hb hby at_32) rfl ((if0 _ _).trans (feq hc100).1) ?_
            show Steps p.tables e below (s₁.setTop (mkF m 35 #[.val (.int p0s), .val (.int p1s), .val (.int p2s), .val (.int p3s), .val (.int p4s), .val (.int p5s), .val (.int l0), .val (.int l1), .unset, .unset, .unset, .unset, .unset, .unset] [])) _
            refine XS.iloadN X0.here hx rfl (hb hby at_35) rfl ?_
            show Steps p.tables e below (s₁.setTop (mkF m 36 #[.val (.int p0s), .val (.int p1s), .val (.int p2s), .val (.int p3s), .val (.int p4s), .val (.int p5s), .val (.int l0), .val (.int l1), .unset, .unset, .unset, .unset, .unset, .unset] [(.int p0s)])) _
            refine XS.goto X0.here hx rfl (pc0 := 36) (pc' := 40) rfl (hb hby at_36) (by decide) (by decide) ?_
            exact kg_
          exact J21 p0s r102
      by_cases hc103 : (p4s &&& (2 : Int32)) = (0 : Int32)
      · have r104 : own_R p.tables e below F0 (s₁.setTop (mkF m 26 #[.val (.int p0s), .val (.int p1s), .val (.int p2s), .val (.int p3s), .val (.int p4s), .val (.int p5s), .val (.int l0), .unset, .unset, .unset, .unset, .unset, .unset, .unset] [(.int p2s)])) := fun tg_ kg_ => by
          refine r17 tg_ ?_
          show Steps p.tables e below (s₁.setTop (mkF m 18 #[.val (.int p0s), .val (.int p1s), .val (.int p2s), .val (.int p3s), .val (.int p4s), .val (.int p5s), .val (.int l0), .unset, .unset, .unset, .unset, .unset, .unset, .unset] [(.int (p4s &&& (2 : Int32)))])) _
          refine XS.ifYes X0.here hx rfl (pc0 := 18) (pc' := 25) rfl (hb hby at_18) rfl ((if0 _ _).trans (teq hc103).1) (by decide) (by decide) ?_
          show Steps p.tables e below (s₁.setTop (mkF m 25 #[.val (.int p0s), .val (.int p1s), .val (.int p2s), .val (.int p3s), .val (.int p4s), .val (.int p5s), .val (.int l0), .unset, .unset, .unset, .unset, .unset, .unset, .unset] [])) _
          refine XS.iloadN X0.here hx rfl (hb hby at_25) rfl ?_
          exact kg_
        exact J18 p2s r104
      · have r105 : own_R p.tables e below F0 (s₁.setTop (mkF m 26 #[.val (.int p0s), .val (.int p1s), .val (.int p2s), .val (.int p3s), .val (.int p4s), .val (.int p5s), .val (.int l0), .unset, .unset, .unset, .unset, .unset, .unset, .unset] [(.int p0s)])) := fun tg_ kg_ => by
          refine r17 tg_ ?_
          show Steps p.tables e below (s₁.setTop (mkF m 18 #[.val (.int p0s), .val (.int p1s), .val (.int p2s), .val (.int p3s), .val (.int p4s), .val (.int p5s), .val (.int l0), .unset, .unset, .unset, .unset, .unset, .unset, .unset] [(.int (p4s &&& (2 : Int32)))])) _
          refine XS.ifNo X0.here hx rfl (hb hby at_18) rfl ((if0 _ _).trans (feq hc103).1) ?_
          show Steps p.tables e below (s₁.setTop (mkF m 21 #[.val (.int p0s), .val (.int p1s), .val (.int p2s), .val (.int p3s), .val (.int p4s), .val (.int p5s), .val (.int l0), .unset, .unset, .unset, .unset, .unset, .unset, .unset] [])) _
          refine XS.iloadN X0.here hx rfl (hb hby at_21) rfl ?_
          show Steps p.tables e below (s₁.setTop (mkF m 22 #[.val (.int p0s), .val (.int p1s), .val (.int p2s), .val (.int p3s), .val (.int p4s), .val (.int p5s), .val (.int l0), .unset, .unset, .unset, .unset, .unset, .unset, .unset] [(.int p0s)])) _
          refine XS.goto X0.here hx rfl (pc0 := 22) (pc' := 26) rfl (hb hby at_22) (by decide) (by decide) ?_
          exact kg_
        exact J18 p0s r105
    by_cases hc106 : (p4s &&& (1 : Int32)) = (0 : Int32)
    · have r107 : own_R p.tables e below F0 (s₁.setTop (mkF m 12 #[.val (.int p0s), .val (.int p1s), .val (.int p2s), .val (.int p3s), .val (.int p4s), .val (.int p5s), .unset, .unset, .unset, .unset, .unset, .unset, .unset, .unset] [(.int p1s)])) := fun tg_ kg_ => by
        refine r14 tg_ ?_
        show Steps p.tables e below (s₁.setTop (mkF m 4 #[.val (.int p0s), .val (.int p1s), .val (.int p2s), .val (.int p3s), .val (.int p4s), .val (.int p5s), .unset, .unset, .unset, .unset, .unset, .unset, .unset, .unset] [(.int (p4s &&& (1 : Int32)))])) _
        refine XS.ifYes X0.here hx rfl (pc0 := 4) (pc' := 11) rfl (hb hby at_4) rfl ((if0 _ _).trans (teq hc106).1) (by decide) (by decide) ?_
        show Steps p.tables e below (s₁.setTop (mkF m 11 #[.val (.int p0s), .val (.int p1s), .val (.int p2s), .val (.int p3s), .val (.int p4s), .val (.int p5s), .unset, .unset, .unset, .unset, .unset, .unset, .unset, .unset] [])) _
        refine XS.iloadN X0.here hx rfl (hb hby at_11) rfl ?_
        exact kg_
      exact J15 p1s r107
    · have r108 : own_R p.tables e below F0 (s₁.setTop (mkF m 12 #[.val (.int p0s), .val (.int p1s), .val (.int p2s), .val (.int p3s), .val (.int p4s), .val (.int p5s), .unset, .unset, .unset, .unset, .unset, .unset, .unset, .unset] [(.int p0s)])) := fun tg_ kg_ => by
        refine r14 tg_ ?_
        show Steps p.tables e below (s₁.setTop (mkF m 4 #[.val (.int p0s), .val (.int p1s), .val (.int p2s), .val (.int p3s), .val (.int p4s), .val (.int p5s), .unset, .unset, .unset, .unset, .unset, .unset, .unset, .unset] [(.int (p4s &&& (1 : Int32)))])) _
        refine XS.ifNo X0.here hx rfl (hb hby at_4) rfl ((if0 _ _).trans (feq hc106).1) ?_
        show Steps p.tables e below (s₁.setTop (mkF m 7 #[.val (.int p0s), .val (.int p1s), .val (.int p2s), .val (.int p3s), .val (.int p4s), .val (.int p5s), .unset, .unset, .unset, .unset, .unset, .unset, .unset, .unset] [])) _
        refine XS.iloadN X0.here hx rfl (hb hby at_7) rfl ?_
        show Steps p.tables e below (s₁.setTop (mkF m 8 #[.val (.int p0s), .val (.int p1s), .val (.int p2s), .val (.int p3s), .val (.int p4s), .val (.int p5s), .unset, .unset, .unset, .unset, .unset, .unset, .unset, .unset] [(.int p0s)])) _
        refine XS.goto X0.here hx rfl (pc0 := 8) (pc' := 12) rfl (hb hby at_8) (by decide) (by decide) ?_
        exact kg_
      exact J15 p0s r108
  exact key _ _ id (fun t k => castTop (ef_0 m p0s p1s p2s p3s p4s p5s) k)
set_option maxRecDepth 65536 in
set_option maxHeartbeats 40000000 in
theorem comes_1 {Post : Tables → Env → Array Value → State → Outcome → State → Prop} (hpost : ∀ tb e args s v u, (limb_1_1.after args s (.returned v) u = true ∧ limb_1_2.after args s (.returned v) u = true ∧ True) → FrameEnd s (.returned v) u (Jvm.fieldLocs frame_1_writes args s ++ Jvm.arrayLocs frame_1_arrays args s ++ Jvm.staticLocs frame_1_statics s) 16 128 → Post tb e args s (.returned v) u) :
    ArmFor flags0 classFile x code maxLocals ret World_1 tables_1 room_1 Calls_1 rest_1 Pre_1 Post := by
  intro l hfl _ _ p e ha hc hk s m args below hf hA hF happ hP
  obtain ⟨hcalls, hrest, hpre⟩ := hP
  obtain ⟨-, -, -, hnamed, -, -, -, hat⟩ := (Spec.applies_iff hf).mp happ
  obtain ⟨hg, hn⟩ := and_e (Cond.before_iff.mp (show (Jvm.Cond.and given_1 narrow_1).before args s = true from hpre))
  obtain ⟨gw1, gw2⟩ := and_e hg
  obtain ⟨gw3, gw4⟩ := and_e gw2
  obtain ⟨gw5, gw6⟩ := and_e gw4
  obtain ⟨gw7, gw8⟩ := and_e gw6
  obtain ⟨gw9, gw10⟩ := and_e gw8
  obtain ⟨gw11, gw12⟩ := and_e gw10
  obtain ⟨w0, w1, w2, w3, w4, w5, rfl⟩ : ∃ w0 w1 w2 w3 w4 w5 : Value, args = #[w0, w1, w2, w3, w4, w5] := by
    have hs : args.size = 6 := by simpa [Cond.value, given_1] using gw1
    obtain ⟨L⟩ := args
    match L, hs with
    | [w0, w1, w2, w3, w4, w5], _ => exact ⟨w0, w1, w2, w3, w4, w5, rfl⟩
  have hw := fun d (hd : d ∈ tables_1) => atoms_spec (ws := Jvm.Cond.code x code maxLocals ret :: tables_1) hat d (List.mem_cons_of_mem _ hd)
  have hfit : Fit s := fun {y c} hc i hi => by
    obtain ⟨ha, rfl⟩ := Array.getElem?_eq_some_iff.mp hc
    have q := List.all_eq_true.mp ((Array.all_eq_true_iff_forall_mem.mp hF) _ (Array.getElem_mem ha)) i (List.mem_range.mpr hi)
    simpa [Array.getElem?_eq_getElem hi] using q
  obtain ⟨i0, ei0⟩ := is_v gw3
  obtain rfl : w0 = (.int i0) := Option.some.inj ei0
  obtain ⟨i1, ei1⟩ := is_v gw5
  obtain rfl : w1 = (.int i1) := Option.some.inj ei1
  obtain ⟨i2, ei2⟩ := is_v gw7
  obtain rfl : w2 = (.int i2) := Option.some.inj ei2
  obtain ⟨i3, ei3⟩ := is_v gw9
  obtain rfl : w3 = (.int i3) := Option.some.inj ei3
  obtain ⟨i4, ei4⟩ := is_v gw11
  obtain rfl : w4 = (.int i4) := Option.some.inj ei4
  obtain ⟨i5, ei5⟩ := is_v gw12
  obtain rfl : w5 = (.int i5) := Option.some.inj ei5
  obtain ⟨n, o, h1, h2, h3, _, L, rfl, ⟨rfl, N⟩, hq⟩ := rm0 l s _ hw tables_1 i0 i1 i2 i3 i4 i5  s.heap s.heap.size (Nat.le_refl _)  p e ha hc hk s m _ below hf ((Spec.applies_iff_loose hf).mp happ).1 ⟨rfl, State.Warmed39.refl s, rfl⟩ trivial
  refine ⟨n, _, h1, h2, h3, hpost _ _ _ _ _ _ ⟨Cond.after_iff.mpr rfl, Cond.after_iff.mpr (eq_i res_at (Term.int_eval (1)) rfl), trivial⟩ ⟨hq.1, hq.2.1, (hq.2.2.sift fun y hy => Or.inr (N y hy)).mono (by decide) (by decide)⟩⟩
theorem main_1_1 : Claimed_1_1 := comes_1 fun _ _ _ _ _ _ h hF => ⟨h.1, hF⟩
theorem main_1_2 : Claimed_1_2 := comes_1 fun _ _ _ _ _ _ h hF => ⟨h.2.1, hF⟩
end Jvm.Pilot.@@N@@
namespace Jvm.Pilot.@@N@@
open Jvm Jvm.ClassFile Sem Op Lib Jvm.Free Jvm.Stand Jvm.Pilot.@@N@@.Jvm.D
/-! MADE BY PROGRAM (witnessworld.py) out of the Statement's table words and the real class files: 9 classes; the members and pool entries that the words name. The judged class is class 1, her method 1. -/
namespace start1
open Jvm.ClassFile
def u (s : String) : CpInfo := .utf8 (stringToUtf16 s)
/-- a pool by its gaps: so many unusable entries, then the entry; so many at the end -/
def gap : Nat → List CpInfo → List CpInfo
  | 0, r => r
  | n + 1, r => .unusable :: gap n r
def poolList (es : List (Nat × CpInfo)) (last : Nat) : List CpInfo := es.foldr (fun e r => gap e.1 (e.2 :: r)) (gap last [])
def pool (es : List (Nat × CpInfo)) (last : Nat) : Array CpInfo := ⟨poolList es last⟩
def fileOf (pool : Array CpInfo) (this : Nat) (attrs : Array Attribute := #[]) (ms : Array MethodInfo := #[]) (fl : Nat := 33) (sup : Nat := 0) (ifs : Array Nat := #[]) (fds : Array FieldInfo := #[]) : ClassFile where
  minorVersion := 0
  majorVersion := 65
  constantPool := pool
  accessFlags := fl
  thisClass := this
  superClass := sup
  interfaces := ifs
  fields := fds
  methods := ms
  attributes := attrs
def plain (name : String) (sup : Option ClassId) : Class where
  name := name
  kind := .ordinary
  loader := none
  accessFlags := 33
  super := sup
  interfaces := #[]
  cf := none
  fields := #[]
  methods := #[]
  instanceTypes := #[]
  staticTypes := #[]
  resolved := #[]
  callSites := []
  init := .initialized
  statics := none
  mirror := none

def pool0 : Array CpInfo := pool [(5, u "<init>"), (0, u "()V"), (1, .class_ 10), (1, u "java/lang/Object")] 113

def k0m0 : Method := { name := "<init>", desc := "()V", sig := { parameters := [], returnType := none }, accessFlags := 1, code := none }
/-- java/lang/Object -/
def k0 : Class := { plain "java/lang/Object" none with
  accessFlags := 33
  interfaces := #[]
  cf := some (fileOf pool0 8 #[] #[{ accessFlags := 1, nameIndex := 5, descriptorIndex := 6, attributes := #[] }] 33 0 #[] #[])
  fields := #[]
  methods := #[k0m0]
  instanceTypes := #[]
  staticTypes := #[]
  resolved := Array.replicate 124 none
  statics := none }

def pool1 : Array CpInfo := pool [(2, .class_ 4), (1, u "java/lang/Object"), (0, u "<init>"), (0, u "()V"), (0, .integer 2147483647), (0, .methodref 9 10), (0, .class_ 11), (0, .nameAndType 12 13), (0, u "org/jadoube/rules/MoveGenerator"), (0, u "isAmong"), (0, u "(I[II)Z"), (0, .class_ 15), (0, u "org/jadoube/rules/MoveGeneratorIsAmongPinLaw"), (2, u "law"), (0, u "(IIIIII)Z")] 5

def k1m0 : Method := { name := "<init>", desc := "()V", sig := { parameters := [], returnType := none }, accessFlags := 2, code := none }
def k1c1 : Code := { maxStack := 4, maxLocals := 14, code := code, exceptionTable := #[], attributes := #[] }
def k1m1 : Method := { name := "law", desc := "(IIIIII)Z", sig := { parameters := [.int, .int, .int, .int, .int, .int], returnType := some .boolean }, accessFlags := 9, code := some k1c1 }
/-- org/jadoube/rules/MoveGeneratorIsAmongPinLaw -/
def k1 : Class := { plain "org/jadoube/rules/MoveGeneratorIsAmongPinLaw" (some 0) with
  accessFlags := 49
  interfaces := #[]
  cf := some (fileOf pool1 14 #[] #[{ accessFlags := 2, nameIndex := 5, descriptorIndex := 6, attributes := #[] }, { accessFlags := 9, nameIndex := 18, descriptorIndex := 19, attributes := #[] }] 49 2 #[] #[])
  fields := #[]
  methods := #[k1m0, k1m1]
  instanceTypes := #[]
  staticTypes := #[]
  resolved := Array.replicate 25 none
  statics := none }

def pool2 : Array CpInfo := pool [(2, .class_ 4), (1, u "java/lang/Object"), (0, u "<init>"), (0, u "()V"), (45, .class_ 54), (1, u "org/jadoube/rules/MoveGenerator"), (107, u "MAX_MOVES"), (0, u "I"), (2, u "FIRST_RANK"), (0, u "J"), (0, u "LAST_RANK"), (7, u "isAmong"), (0, u "(I[II)Z")] 2

def k2m0 : Method := { name := "<init>", desc := "()V", sig := { parameters := [], returnType := none }, accessFlags := 2, code := none }
def k2c1 : Code := { maxStack := 2, maxLocals := 4, code := prog_71_method_3_code, exceptionTable := #[], attributes := #[] }
def k2m1 : Method := { name := "isAmong", desc := "(I[II)Z", sig := { parameters := [.int, (.array .int), .int], returnType := some .boolean }, accessFlags := 9, code := some k2c1 }
/-- org/jadoube/rules/MoveGenerator -/
def k2 : Class := { plain "org/jadoube/rules/MoveGenerator" (some 0) with
  accessFlags := 49
  interfaces := #[]
  cf := some (fileOf pool2 52 #[] #[{ accessFlags := 2, nameIndex := 5, descriptorIndex := 6, attributes := #[] }, { accessFlags := 9, nameIndex := 176, descriptorIndex := 177, attributes := #[] }] 49 2 #[] #[{ accessFlags := 25, nameIndex := 162, descriptorIndex := 163, attributes := #[] }, { accessFlags := 26, nameIndex := 166, descriptorIndex := 167, attributes := #[] }, { accessFlags := 26, nameIndex := 168, descriptorIndex := 167, attributes := #[] }])
  fields := #[{ name := "MAX_MOVES", type := .int, accessFlags := 25, slot := 0, constantValue := 0 }, { name := "FIRST_RANK", type := .long, accessFlags := 26, slot := 1, constantValue := 0 }, { name := "LAST_RANK", type := .long, accessFlags := 26, slot := 2, constantValue := 0 }]
  methods := #[k2m0, k2m1]
  instanceTypes := #[]
  staticTypes := #[.int, .long, .long]
  resolved := Array.replicate 180 none
  statics := none }

def pool3 : Array CpInfo := pool [(1, u "java/lang/Cloneable"), (0, .class_ 1), (0, u "java/lang/Object"), (0, .class_ 3)] 3

/-- java/lang/Cloneable -/
def k3 : Class := { plain "java/lang/Cloneable" (some 0) with
  accessFlags := 1537
  interfaces := #[]
  cf := some (fileOf pool3 2 #[] #[] 1537 4 #[] #[])
  fields := #[]
  methods := #[]
  instanceTypes := #[]
  staticTypes := #[]
  resolved := Array.replicate 8 none
  statics := none }

def pool4 : Array CpInfo := pool [(1, u "java/io/Serializable"), (0, .class_ 1), (0, u "java/lang/Object"), (0, .class_ 3)] 3

/-- java/io/Serializable -/
def k4 : Class := { plain "java/io/Serializable" (some 0) with
  accessFlags := 1537
  interfaces := #[]
  cf := some (fileOf pool4 2 #[] #[] 1537 4 #[] #[])
  fields := #[]
  methods := #[]
  instanceTypes := #[]
  staticTypes := #[]
  resolved := Array.replicate 8 none
  statics := none }

/-- the primitive byte -/
def k5 : Class := { plain "byte" none with kind := .primitive 'B', accessFlags := 0x411 }
/-- [B -/
def k6 : Class := { plain "[B" (some 0) with kind := .array 5 .byte, interfaces := #[3, 4], accessFlags := 1041 }

/-- the primitive int -/
def k7 : Class := { plain "int" none with kind := .primitive 'I', accessFlags := 0x411 }
/-- [I -/
def k8 : Class := { plain "[I" (some 0) with kind := .array 7 .int, interfaces := #[3, 4], accessFlags := 1041 }

def heap : Heap := #[]
def classes : Array Class := #[k0, k1, k2, k3, k4, k5, k6, k7, k8]
def interned : List (Array UInt16 × Addr) := []
def slotsUsed : Nat := 0
def theMethod : MethodId := ⟨1, 1⟩
def args0 : Array Value := #[.int 5, .int 3, .int 3, .int 9, .int 4, .int 2]
def aboutOver (below : List Frame) : State where
  vm := { classes := classes, interned := interned.toArray }
  heap := heap
  slotsUsed := slotsUsed
  threads := #[{ frames := .invoking theMethod args0 :: below }]
def below0 : List Frame := [.native { method := ⟨0, 0⟩, args := #[] }]
def about1 : State := aboutOver below0
def p0 : Program := .bare "" "" ""
def e0 : Env := launch0.env 0 0 0
theorem w_frames : about1.frames = Frame.invoking theMethod args0 :: below0 := rfl
set_option maxRecDepth 65536 in
theorem w_args : argsFit about1.vm theMethod args0 = true := by decide +kernel
set_option maxRecDepth 65536 in
theorem w_heap : heapFits about1 = true := by decide +kernel
set_option maxRecDepth 65536 in
theorem w_runnable : about1.curStatus? = some .runnable := by decide +kernel
set_option maxRecDepth 65536 in
theorem w_alone : about1.alone = true := by decide +kernel
set_option maxRecDepth 65536 in
theorem w_named : about1.methodNamed? x = some theMethod := by decide +kernel
set_option maxRecDepth 65536 in
theorem w_hears : about1.hears theMethod below0 = true := by decide +kernel
set_option maxRecDepth 65536 in
theorem w_ripe : about1.ripe theMethod args0 below0 = true := by decide +kernel
theorem w_running : about1.status = .running := rfl
set_option maxRecDepth 65536 in
theorem w_room : about1.hasRoom e0.platform room_1 = true :=
  launch0.hasRoom_least _ room_1 (by decide +kernel) (by decide +kernel) (by decide +kernel) (by decide +kernel) (by decide +kernel) (by decide +kernel)
theorem allAtoms_all (ts : List Jvm.Cond) (a : Array Jvm.Value) (st : Jvm.State) : (allAtoms ts).before a st = ts.all (fun c => c.before a st) := by
  induction ts with
  | nil => rfl
  | cons c t ih =>
    show (Jvm.Cond.and c (allAtoms t)).before a st = _
    rw [Jvm.Cond.before_and, ih, List.all_cons]
def words1 : List Jvm.Cond := Jvm.Cond.code x code maxLocals ret :: tables_1
/-- a 'code' word, met by the world's own term for the bytes: nothing is compared byte by byte -/
theorem code_word {y : MethodName} {bytes : ByteArray} {mx : Nat} {rt : Option FieldType} {a : Array Value} {s : State} {m : MethodId} {meth : Method} {c : Code} (h1 : s.methodNamed? y = some m) (h2 : s.vm.method? m = some meth) (h3 : meth.code = some c) (h4 : c.code = bytes)
    (h5 : (c.maxLocals == mx && c.exceptionTable.isEmpty && decide (c.maxStack ≤ mostOperands) && decide (meth.sig.returnType = rt) && !meth.locks && decide (parseMethodDescriptor y.desc = some meth.sig)) = true) : (Jvm.Cond.code y bytes mx rt).before a s = true := by
  simp only [Bool.and_eq_true, beq_iff_eq, Bool.not_eq_true', decide_eq_true_eq] at h5
  obtain ⟨⟨⟨⟨⟨g1, g2⟩, g3⟩, g4⟩, g5⟩, g6⟩ := h5
  simp [Cond.before, Cond.holds, Cond.value, h1, h2, h3, h4, g1, g2, g3, g4, g5, g6]
def isCode : Jvm.Cond → Bool
  | .code _ _ _ _ => true
  | _ => false
theorem all_split {L : List Jvm.Cond} {P : Jvm.Cond → Bool} (h1 : L.all (fun c => isCode c || P c) = true) (h2 : ∀ c ∈ L.filter isCode, P c = true) : L.all P = true := by
  refine List.all_eq_true.mpr fun c hc => ?_
  have h := List.all_eq_true.mp h1 c hc
  rcases Bool.eq_false_or_eq_true (isCode c) with hi | hi
  · exact h2 c (List.mem_filter.mpr ⟨hc, hi⟩)
  · simpa [hi] using h
set_option maxRecDepth 65536 in
theorem w_c0 : (Jvm.Cond.code x code maxLocals ret).before args0 about1 = true := code_word (m := ⟨1, 1⟩) (meth := k1m1) (c := k1c1) (by decide +kernel) rfl rfl rfl (by decide +kernel)
set_option maxRecDepth 65536 in
theorem w_c1 : (Jvm.Cond.code ({ cls := "org/jadoube/rules/MoveGenerator", name := "isAmong", desc := "(I[II)Z" } : Jvm.MethodName) prog_71_method_3_code (4 : Nat) (Option.some Jvm.ClassFile.FieldType.boolean)).before args0 about1 = true := code_word (m := ⟨2, 1⟩) (meth := k2m1) (c := k2c1) (by decide +kernel) rfl rfl rfl (by decide +kernel)
def codes1 : List Jvm.Cond := [Jvm.Cond.code x code maxLocals ret, Jvm.Cond.code ({ cls := "org/jadoube/rules/MoveGenerator", name := "isAmong", desc := "(I[II)Z" } : Jvm.MethodName) prog_71_method_3_code (4 : Nat) (Option.some Jvm.ClassFile.FieldType.boolean)]
set_option maxRecDepth 65536 in
theorem codes_eq : words1.filter isCode = codes1 := rfl
theorem w_codes : ∀ c ∈ words1.filter isCode, c.before args0 about1 = true := by
  rw [codes_eq]
  intro c hc
  simp only [codes1, List.mem_cons, List.not_mem_nil, or_false] at hc
  rcases hc with rfl | rfl
  · exact w_c0
  · exact w_c1
set_option maxRecDepth 65536 in
theorem w_t1 : words1.all (fun c => isCode c || c.before args0 about1) = true := by decide +kernel
theorem w_tables : (allAtoms (Jvm.Cond.code x code maxLocals ret :: tables_1)).before args0 about1 = true := by
  rw [allAtoms_all]
  show words1.all (fun c => c.before args0 about1) = true
  refine all_split ?_ w_codes
  rw [w_t1]
set_option maxRecDepth 65536 in
theorem w_case : (Jvm.Cond.and given_1 narrow_1).before args0 about1 = true := by decide +kernel
theorem w_applies : (headSpec (Jvm.Cond.code x code maxLocals ret :: tables_1) room_1).applies x e0.platform about1 = true :=
  (Spec.applies_iff w_frames).mpr ⟨w_running, w_runnable, w_alone, w_named, w_hears, w_ripe, w_room, w_tables⟩
theorem atStart : AtStart classFile x code maxLocals ret World_1 tables_1 room_1 Calls_1 rest_1 Pre_1 launch0 p0 e0 about1 theMethod args0 below0 :=
  ⟨lists_1, trivial, launch0.admits_env _ _ _, launch0.least_env, fairChoices_fair.cas, fairChoices_fair.clock, w_frames, w_args, w_heap, w_applies, trivial, trivial, w_case⟩
end start1
theorem witness_1 : WitnessClaimed_1 := ⟨start1.p0, start1.e0, start1.about1, start1.theMethod, start1.args0, start1.below0, start1.atStart⟩
end Jvm.Pilot.@@N@@
