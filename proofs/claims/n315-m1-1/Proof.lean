import JvmDerived
import JvmDerived.Pilot.@@N@@Statement
import JvmDerived.Pilot.@@N@@Code
set_option linter.unusedVariables false
set_option linter.unusedSimpArgs false
namespace Jvm.Pilot.@@N@@
open Jvm Jvm.ClassFile Sem Op Lib Jvm.Free Jvm.Stand Jvm.LawKit Jvm.RoadKit Bundle Jvm.Pilot.@@N@@.Jvm.D
-- OWN KIT (mine): reach, finish, weakening of the counters, arrays by a function, arithmetic in omega's form
abbrev own_R (tb : Tables) (e : Env) (below : List Frame) (F0 F : State) : Prop := ∀ t, Steps tb e below F t → Steps tb e below F0 t
abbrev own_G (p : Program) (e : Env) (below : List Frame) (s F0 : State) (Q : Option Value → Heap → List Loc → Prop) (kc ks : Nat) : Prop :=
  ∃ s₂ o, Steps p.tables e below F0 s₂ ∧ s₂.status = .running ∧ Ended s₂ below o ∧ ∃ v L, o = .returned v ∧ Q v s₂.heap L ∧ FrameEnd s o s₂ L kc ks
section OwnKit
variable {p : Program} {l : Launch} {e : Env} {R : Room} {s : State} {m : MethodId} {args : Array Value} {below : List Frame} {meth : Method} {c : Code} {T : State} {locs : List Loc} {cells slots : Nat}
theorem own_fin (X : Stand p l e R s m args below meth c T locs cells slots) (hl : meth.locks = false) {F0 : State} {Q : Option Value → Heap → List Loc → Prop} {kc ks : Nat} (v : Option Value) (hv : meth.sig.returnType = none → v = none) (hq : Q v T.heap locs) (hc : cells ≤ kc) (hs : slots ≤ ks)
    (st : ∀ fs, (∀ (f : JFrame) (acts : List Action), f.method = m → f.locked = none → f.entered = [] → (doReturn e (T.setTop f) acts v).1 = T.setFrames fs) → Steps p.tables e below F0 (T.setFrames fs)) : own_G p e below s F0 Q kc ks := by
  obtain ⟨fs, hr, hrun, hended, hW, hsame⟩ := X.leave hv hl
  exact ⟨_, _, st fs hr, hrun, hended, _, _, rfl, hq, ⟨_, rfl⟩, hW, hsame.mono hc hs⟩
theorem own_mono (X : Stand p l e R s m args below meth c T locs cells slots) {c' s' : Nat} (hc : cells ≤ c') (hs : slots ≤ s') : Stand p l e R s m args below meth c T locs c' s' := { X with same := X.same.mono hc hs }
end OwnKit
theorem own_hv {meth : Method} {t : FieldType} {v : Option Value} (h : meth.sig.returnType = some t) : meth.sig.returnType = none → v = none := fun q => by rw [h] at q; cases q
theorem own_lt32 {a b : Int32} (h : a < b) : a.toInt < b.toInt := Int32.lt_iff_toInt_lt.mp h
theorem own_nlt32 {a b : Int32} (h : ¬ a < b) : b.toInt ≤ a.toInt := Int.not_lt.mp fun q => h (Int32.lt_iff_toInt_lt.mpr q)
theorem own_eq32 {a b : Int32} (h : a = b) : a.toInt = b.toInt := congrArg Int32.toInt h
theorem own_ne32 {a b : Int32} (h : ¬ a = b) : a.toInt ≠ b.toInt := fun q => h (Int32.toInt_inj.mp q)
theorem own_lt64 {a b : Int64} (h : a < b) : a.toInt < b.toInt := Int64.lt_iff_toInt_lt.mp h
theorem own_nlt64 {a b : Int64} (h : ¬ a < b) : b.toInt ≤ a.toInt := Int.not_lt.mp fun q => h (Int64.lt_iff_toInt_lt.mpr q)
theorem own_eq64 {a b : Int64} (h : a = b) : a.toInt = b.toInt := congrArg Int64.toInt h
theorem own_ne64 {a b : Int64} (h : ¬ a = b) : a.toInt ≠ b.toInt := fun q => h (Int64.toInt_inj.mp q)
theorem own_imulc (x y : Int32) (d : Int) (h : y.toInt = d) : ((x * y).toInt - x.toInt * d) % 4294967296 = 0 := by rw [← h]; exact c_imul x y
theorem own_imulc' (x y : Int32) (d : Int) (h : x.toInt = d) : ((x * y).toInt - d * y.toInt) % 4294967296 = 0 := by rw [← h]; exact c_imul x y
theorem own_lmulc (x y : Int64) (d : Int) (h : y.toInt = d) : ((x * y).toInt - x.toInt * d) % 18446744073709551616 = 0 := by rw [← h]; exact c_lmul x y
theorem own_lmulc' (x y : Int64) (d : Int) (h : x.toInt = d) : ((x * y).toInt - d * y.toInt) % 18446744073709551616 = 0 := by rw [← h]; exact c_lmul x y
theorem own_mask (x m : Int32) (k : Nat) (P : Int) (hk : k ≤ 31) (hm : m.toBitVec.toNat = 2 ^ k - 1) (hP : P = ((2 ^ k : Nat) : Int)) : (x &&& m).toInt = x.toInt % P := by rw [hP]; exact c_mask x m k hk hm
theorem own_maskL (x m : Int64) (k : Nat) (P : Int) (hk : k ≤ 63) (hm : m.toBitVec.toNat = 2 ^ k - 1) (hP : P = ((2 ^ k : Nat) : Int)) : (x &&& m).toInt = x.toInt % P := by rw [hP]; exact c_maskL x m k hk hm
theorem own_ishr (x q : Int32) (k : Nat) (P : Int) (hk : q.toBitVec.toNat % 32 = k) (hP : P = ((2 ^ k : Nat) : Int)) : (x >>> (q &&& 31)).toInt = x.toInt / P := by rw [hP]; exact c_ishr x q k hk
theorem own_ishl (x q : Int32) (k : Nat) (P : Int) (hk : q.toBitVec.toNat % 32 = k) (hP : P = ((2 ^ k : Nat) : Int)) : ((x <<< (q &&& 31)).toInt - x.toInt * P) % 4294967296 = 0 := by rw [hP]; exact c_ishl x q k hk
theorem own_iushr (x q : Int32) (k : Nat) (P : Int) (hk : q.toBitVec.toNat % 32 = k) (h0 : 0 < k) (hP : P = ((2 ^ k : Nat) : Int)) : ((x.toUInt32 >>> (q &&& 31).toUInt32).toInt32).toInt = (x.toInt % 4294967296) / P := by rw [hP]; exact c_iushr x q k hk h0
theorem own_lshr (x : Int64) (q : Int32) (k : Nat) (P : Int) (hk : q.toBitVec.toNat % 64 = k) (hP : P = ((2 ^ k : Nat) : Int)) : (x >>> (q &&& 0x3f).toInt64).toInt = x.toInt / P := by rw [hP]; exact c_lshr x q k hk
theorem own_lshl (x : Int64) (q : Int32) (k : Nat) (P : Int) (hk : q.toBitVec.toNat % 64 = k) (hP : P = ((2 ^ k : Nat) : Int)) : ((x <<< (q &&& 0x3f).toInt64).toInt - x.toInt * P) % 18446744073709551616 = 0 := by rw [hP]; exact c_lshl x q k hk
theorem own_lushr (x : Int64) (q : Int32) (k : Nat) (P : Int) (hk : q.toBitVec.toNat % 64 = k) (h0 : 0 < k) (hP : P = ((2 ^ k : Nat) : Int)) : ((x.toUInt64 >>> (q &&& 0x3f).toInt64.toUInt64).toInt64).toInt = (x.toInt % 18446744073709551616) / P := by rw [hP]; exact c_lushr x q k hk h0
theorem own_lc_lt {x y : Int64} {cd : ClassFile.Cond} {b : Bool} (h : if_icmp.holds cd (lcmpW x y) 0 = b) : ifCond.holds cd (lcmpW x y) = b := (if0 _ _).trans h
theorem own_l_lt {x y : Int64} (h : x < y) : ifCond.holds .lt (lcmpW x y) = true ∧ ifCond.holds .ge (lcmpW x y) = false := ⟨(if0 _ _).trans (tlt ((lw_lt x y).mpr h)).1, (if0 _ _).trans (tlt ((lw_lt x y).mpr h)).2.1⟩
theorem own_l_nlt {x y : Int64} (h : ¬ x < y) : ifCond.holds .lt (lcmpW x y) = false ∧ ifCond.holds .ge (lcmpW x y) = true := ⟨(if0 _ _).trans (flt (fun q => h ((lw_lt x y).mp q))).1, (if0 _ _).trans (flt (fun q => h ((lw_lt x y).mp q))).2.1⟩
theorem own_l_gt {x y : Int64} (h : y < x) : ifCond.holds .gt (lcmpW x y) = true ∧ ifCond.holds .le (lcmpW x y) = false := ⟨(if0 _ _).trans (tlt ((lw_gt x y).mpr h)).2.2.1, (if0 _ _).trans (tlt ((lw_gt x y).mpr h)).2.2.2⟩
theorem own_l_ngt {x y : Int64} (h : ¬ y < x) : ifCond.holds .gt (lcmpW x y) = false ∧ ifCond.holds .le (lcmpW x y) = true := ⟨(if0 _ _).trans (flt (fun q => h ((lw_gt x y).mp q))).2.2.1, (if0 _ _).trans (flt (fun q => h ((lw_gt x y).mp q))).2.2.2⟩
theorem own_l_eq {x y : Int64} (h : x = y) : ifCond.holds .eq (lcmpW x y) = true ∧ ifCond.holds .ne (lcmpW x y) = false := ⟨(if0 _ _).trans (teq ((lw_eq x y).mpr h)).1, (if0 _ _).trans (teq ((lw_eq x y).mpr h)).2⟩
theorem own_l_neq {x y : Int64} (h : ¬ x = y) : ifCond.holds .eq (lcmpW x y) = false ∧ ifCond.holds .ne (lcmpW x y) = true := ⟨(if0 _ _).trans (feq (fun q => h ((lw_eq x y).mp q))).1, (if0 _ _).trans (feq (fun q => h ((lw_eq x y).mp q))).2⟩
theorem own_lrem {x y : Int64} {d : Int} (hy : y.toInt = d) : (0 ≤ x.toInt → (x - (x / y) * y).toInt = x.toInt % d) ∧ (x.toInt < 0 → (x - (x / y) * y).toInt = -((-x.toInt) % d)) := c_lrem x y d hy
theorem own_lremf (x y : Int64) (d : Int) (hy : y.toInt = d) : (0 ≤ x.toInt → (x % y).toInt = x.toInt % d) ∧ (x.toInt < 0 → (x % y).toInt = -((-x.toInt) % d)) := by rw [Int64.toInt_mod, hy]; exact tr _ _
theorem own_lremM {p : Program} {l : Launch} {e : Env} {R : Room} {s : State} {m : MethodId} {args : Array Value} {below : List Frame} {meth : Method} {c : Code} {T : State} {locs : List Loc} {cells slots : Nat} {g : JFrame} {target : State} (X : Stand p l e R s m args below meth c T locs cells slots) (hx : p.tables.exec = Jvm.exec) (hg : g.method = m) {x y : Int64} {rest : List Value} (hd : decode c.code g.pc = .ok (.lrem, 1)) (hs : g.stack = .long y :: .long x :: rest) (hy : y ≠ 0)
    (hr : Steps p.tables e below (T.setTop { g with pc := g.pc + 1, stack := .long (x % y) :: rest }) target) : Steps p.tables e below (T.setTop g) target :=
  XS.lrem X.here hx hg hd hs hy (by rw [lrem_mod]; exact hr)
theorem own_R32 (x : Int32) : -2147483648 ≤ x.toInt ∧ x.toInt ≤ 2147483647 := by have := rng32 x; omega
theorem own_R64 (x : Int64) : -9223372036854775808 ≤ x.toInt ∧ x.toInt ≤ 9223372036854775807 := by have := rng64 x; omega
theorem own_iaddR {x y : Int32} {a b c d : Int} (lo hi : Int) (hx : a ≤ x.toInt ∧ x.toInt ≤ b) (hy : c ≤ y.toInt ∧ y.toInt ≤ d) (h1 : -2147483648 ≤ a + c ∧ b + d ≤ 2147483647) (h2 : lo ≤ a + c ∧ b + d ≤ hi) : (x + y).toInt = x.toInt + y.toInt ∧ lo ≤ (x + y).toInt ∧ (x + y).toInt ≤ hi := by have := c_iadd x y; have := rng32 (x + y); omega
theorem own_isubR {x y : Int32} {a b c d : Int} (lo hi : Int) (hx : a ≤ x.toInt ∧ x.toInt ≤ b) (hy : c ≤ y.toInt ∧ y.toInt ≤ d) (h1 : -2147483648 ≤ a - d ∧ b - c ≤ 2147483647) (h2 : lo ≤ a - d ∧ b - c ≤ hi) : (x - y).toInt = x.toInt - y.toInt ∧ lo ≤ (x - y).toInt ∧ (x - y).toInt ≤ hi := by have := c_isub x y; have := rng32 (x - y); omega
theorem own_laddR {x y : Int64} {a b c d : Int} (lo hi : Int) (hx : a ≤ x.toInt ∧ x.toInt ≤ b) (hy : c ≤ y.toInt ∧ y.toInt ≤ d) (h1 : -9223372036854775808 ≤ a + c ∧ b + d ≤ 9223372036854775807) (h2 : lo ≤ a + c ∧ b + d ≤ hi) : (x + y).toInt = x.toInt + y.toInt ∧ lo ≤ (x + y).toInt ∧ (x + y).toInt ≤ hi := by have := c_ladd x y; have := rng64 (x + y); omega
theorem own_lsubR {x y : Int64} {a b c d : Int} (lo hi : Int) (hx : a ≤ x.toInt ∧ x.toInt ≤ b) (hy : c ≤ y.toInt ∧ y.toInt ≤ d) (h1 : -9223372036854775808 ≤ a - d ∧ b - c ≤ 9223372036854775807) (h2 : lo ≤ a - d ∧ b - c ≤ hi) : (x - y).toInt = x.toInt - y.toInt ∧ lo ≤ (x - y).toInt ∧ (x - y).toInt ≤ hi := by have := c_lsub x y; have := rng64 (x - y); omega
theorem own_imulR {x y : Int32} {a b k : Int} (lo hi : Int) (hx : a ≤ x.toInt ∧ x.toInt ≤ b) (hy : y.toInt = k) (hk : 0 ≤ k) (h1 : -2147483648 ≤ a * k ∧ b * k ≤ 2147483647) (h2 : lo ≤ a * k ∧ b * k ≤ hi) : (x * y).toInt = x.toInt * k ∧ lo ≤ (x * y).toInt ∧ (x * y).toInt ≤ hi := by
  have h := c_imul x y; have := rng32 (x * y); rw [hy] at h
  have p1 := Int.mul_le_mul_of_nonneg_right hx.1 hk; have p2 := Int.mul_le_mul_of_nonneg_right hx.2 hk
  generalize x.toInt * k = z at *; generalize a * k = z1 at *; generalize b * k = z2 at *; omega
theorem own_lmulR {x y : Int64} {a b k : Int} (lo hi : Int) (hx : a ≤ x.toInt ∧ x.toInt ≤ b) (hy : y.toInt = k) (hk : 0 ≤ k) (h1 : -9223372036854775808 ≤ a * k ∧ b * k ≤ 9223372036854775807) (h2 : lo ≤ a * k ∧ b * k ≤ hi) : (x * y).toInt = x.toInt * k ∧ lo ≤ (x * y).toInt ∧ (x * y).toInt ≤ hi := by
  have h := c_lmul x y; have := rng64 (x * y); rw [hy] at h
  have p1 := Int.mul_le_mul_of_nonneg_right hx.1 hk; have p2 := Int.mul_le_mul_of_nonneg_right hx.2 hk
  generalize x.toInt * k = z at *; generalize a * k = z1 at *; generalize b * k = z2 at *; omega
theorem own_imulR' {x y : Int32} {a b k : Int} (lo hi : Int) (hx : a ≤ y.toInt ∧ y.toInt ≤ b) (hy : x.toInt = k) (hk : 0 ≤ k) (h1 : -2147483648 ≤ a * k ∧ b * k ≤ 2147483647) (h2 : lo ≤ a * k ∧ b * k ≤ hi) : (x * y).toInt = y.toInt * k ∧ lo ≤ (x * y).toInt ∧ (x * y).toInt ≤ hi := by rw [Int32.mul_comm]; exact own_imulR lo hi hx hy hk h1 h2
theorem own_lmulR' {x y : Int64} {a b k : Int} (lo hi : Int) (hx : a ≤ y.toInt ∧ y.toInt ≤ b) (hy : x.toInt = k) (hk : 0 ≤ k) (h1 : -9223372036854775808 ≤ a * k ∧ b * k ≤ 9223372036854775807) (h2 : lo ≤ a * k ∧ b * k ≤ hi) : (x * y).toInt = y.toInt * k ∧ lo ≤ (x * y).toInt ∧ (x * y).toInt ≤ hi := by rw [Int64.mul_comm]; exact own_lmulR lo hi hx hy hk h1 h2
theorem own_maskR (x m : Int32) (k : Nat) (P : Int) (hk : k ≤ 31) (hm : m.toBitVec.toNat = 2 ^ k - 1) (hP : P = ((2 ^ k : Nat) : Int)) (hi : Int) (h0 : 0 < P) (h : P ≤ hi + 1) : (x &&& m).toInt = x.toInt % P ∧ 0 ≤ (x &&& m).toInt ∧ (x &&& m).toInt ≤ hi := by
  have e := own_mask x m k P hk hm hP; have h1 := Int.emod_nonneg x.toInt (show P ≠ 0 by omega); have h2 := Int.emod_lt_of_pos x.toInt h0; omega
theorem own_maskLR (x m : Int64) (k : Nat) (P : Int) (hk : k ≤ 63) (hm : m.toBitVec.toNat = 2 ^ k - 1) (hP : P = ((2 ^ k : Nat) : Int)) (hi : Int) (h0 : 0 < P) (h : P ≤ hi + 1) : (x &&& m).toInt = x.toInt % P ∧ 0 ≤ (x &&& m).toInt ∧ (x &&& m).toInt ≤ hi := by
  have e := own_maskL x m k P hk hm hP; have h1 := Int.emod_nonneg x.toInt (show P ≠ 0 by omega); have h2 := Int.emod_lt_of_pos x.toInt h0; omega
theorem own_iremR {x y : Int32} {a b d : Int} (hi : Int) (hx : a ≤ x.toInt ∧ x.toInt ≤ b) (hy : y.toInt = d) (ha : 0 ≤ a) (hd : 0 < d) (h : d ≤ hi + 1) : (x % y).toInt = x.toInt % d ∧ 0 ≤ (x % y).toInt ∧ (x % y).toInt ≤ hi := by
  have e := (c_irem x y d hy).1 (by omega); have h1 := Int.emod_nonneg x.toInt (show d ≠ 0 by omega); have h2 := Int.emod_lt_of_pos x.toInt hd; omega
theorem own_lremR {x y : Int64} {a b d : Int} (hi : Int) (hx : a ≤ x.toInt ∧ x.toInt ≤ b) (hy : y.toInt = d) (ha : 0 ≤ a) (hd : 0 < d) (h : d ≤ hi + 1) : (x % y).toInt = x.toInt % d ∧ 0 ≤ (x % y).toInt ∧ (x % y).toInt ≤ hi := by
  have e := (own_lremf x y d hy).1 (by omega); have h1 := Int.emod_nonneg x.toInt (show d ≠ 0 by omega); have h2 := Int.emod_lt_of_pos x.toInt hd; omega
theorem own_idivR {x y : Int32} {a b d : Int} (lo hi : Int) (hx : a ≤ x.toInt ∧ x.toInt ≤ b) (hy : y.toInt = d) (hy1 : y ≠ -1) (ha : 0 ≤ a) (hd : 0 < d) (h : lo ≤ a / d ∧ b / d ≤ hi) : (x / y).toInt = x.toInt / d ∧ lo ≤ (x / y).toInt ∧ (x / y).toInt ≤ hi := by
  have e := (c_idiv x y d hy hy1).1 (by omega); have h1 := Int.ediv_le_ediv hd hx.1; have h2 := Int.ediv_le_ediv hd hx.2; omega
theorem own_ldivR {x y : Int64} {a b d : Int} (lo hi : Int) (hx : a ≤ x.toInt ∧ x.toInt ≤ b) (hy : y.toInt = d) (hy1 : y ≠ -1) (ha : 0 ≤ a) (hd : 0 < d) (h : lo ≤ a / d ∧ b / d ≤ hi) : (x / y).toInt = x.toInt / d ∧ lo ≤ (x / y).toInt ∧ (x / y).toInt ≤ hi := by
  have e := (c_ldiv x y d hy hy1).1 (by omega); have h1 := Int.ediv_le_ediv hd hx.1; have h2 := Int.ediv_le_ediv hd hx.2; omega
theorem own_l2iR {x : Int64} {a b : Int} (hx : a ≤ x.toInt ∧ x.toInt ≤ b) (h1 : -2147483648 ≤ a ∧ b ≤ 2147483647) : x.toInt32.toInt = x.toInt ∧ a ≤ x.toInt32.toInt ∧ x.toInt32.toInt ≤ b := by have := c_l2i x; have := rng32 x.toInt32; omega
theorem own_i2lR {x : Int32} {a b : Int} (hx : a ≤ x.toInt ∧ x.toInt ≤ b) : x.toInt64.toInt = x.toInt ∧ a ≤ x.toInt64.toInt ∧ x.toInt64.toInt ≤ b := by have := c_i2l x; omega
theorem own_eqR32 {x y : Int32} {a b : Int} (h : x = y) (hy : a ≤ y.toInt ∧ y.toInt ≤ b) : x.toInt = y.toInt ∧ a ≤ x.toInt ∧ x.toInt ≤ b := by subst h; exact ⟨rfl, hy⟩
theorem own_eqR64 {x y : Int64} {a b : Int} (h : x = y) (hy : a ≤ y.toInt ∧ y.toInt ≤ b) : x.toInt = y.toInt ∧ a ≤ x.toInt ∧ x.toInt ≤ b := by subst h; exact ⟨rfl, hy⟩
theorem own_lushrR {x : Int64} {a b : Int} (q : Int32) (k : Nat) (P lo hi : Int) (hx : a ≤ x.toInt ∧ x.toInt ≤ b) (ha : 0 ≤ a) (hk : q.toBitVec.toNat % 64 = k) (h0 : 0 < k) (hP : P = ((2 ^ k : Nat) : Int)) (hPp : 0 < P) (h : lo ≤ a / P ∧ b / P ≤ hi) : ((x.toUInt64 >>> (q &&& 0x3f).toInt64.toUInt64).toInt64).toInt = x.toInt / P ∧ lo ≤ ((x.toUInt64 >>> (q &&& 0x3f).toInt64.toUInt64).toInt64).toInt ∧ ((x.toUInt64 >>> (q &&& 0x3f).toInt64.toUInt64).toInt64).toInt ≤ hi := by
  have e := own_lushr x q k P hk h0 hP; have := rng64 x; rw [Int.emod_eq_of_lt (by omega) (by omega)] at e; have h1 := Int.ediv_le_ediv hPp hx.1; have h2 := Int.ediv_le_ediv hPp hx.2; omega
theorem own_iushrR {x : Int32} {a b : Int} (q : Int32) (k : Nat) (P lo hi : Int) (hx : a ≤ x.toInt ∧ x.toInt ≤ b) (ha : 0 ≤ a) (hk : q.toBitVec.toNat % 32 = k) (h0 : 0 < k) (hP : P = ((2 ^ k : Nat) : Int)) (hPp : 0 < P) (h : lo ≤ a / P ∧ b / P ≤ hi) : ((x.toUInt32 >>> (q &&& 31).toUInt32).toInt32).toInt = x.toInt / P ∧ lo ≤ ((x.toUInt32 >>> (q &&& 31).toUInt32).toInt32).toInt ∧ ((x.toUInt32 >>> (q &&& 31).toUInt32).toInt32).toInt ≤ hi := by
  have e := own_iushr x q k P hk h0 hP; have := rng32 x; rw [Int.emod_eq_of_lt (by omega) (by omega)] at e; have h1 := Int.ediv_le_ediv hPp hx.1; have h2 := Int.ediv_le_ediv hPp hx.2; omega
-- OWN KIT 1 (mine): an array by a function of its places
def own_Arf (Z : State) (h : Heap) (a : Addr) (ty : FieldType) (n : Nat) (f : Nat → Value) : Prop := ∃ c : Cell, Arr Z h a c ty ∧ c.slots.size = n ∧ n < 2 ^ 31 ∧ ∀ j, j < n → c.slots[j]? = some (f j)
section OwnArf
variable {Z : State} {h h' : Heap} {a b : Addr} {ty : FieldType} {n : Nat} {f f' : Nat → Value} {sl : Nat} {v : Value} {ws : List Addr}
theorem own_Arf.lt (F : own_Arf Z h a ty n f) : a < h.size := by obtain ⟨c, A, -⟩ := F; exact A.lt
theorem own_Arf.ext (F : own_Arf Z h a ty n f) (E : Ext h h') : own_Arf Z h' a ty n f := by obtain ⟨c, A, r⟩ := F; exact ⟨c, A.ext E, r⟩
theorem own_Arf.other (F : own_Arf Z h b ty n f) (W : Wr h h' a sl v) (q : b ≠ a) : own_Arf Z h' b ty n f := by obtain ⟨c, A, r⟩ := F; exact ⟨c, A.other W q, r⟩
theorem own_Arf.keep (F : own_Arf Z h a ty n f) (K : Keep h h' ws) (q : a ∉ ws) : own_Arf Z h' a ty n f := by obtain ⟨c, A, r⟩ := F; exact ⟨c, ⟨K.2.1 a c A.1 q, A.2⟩, r⟩
theorem own_Arf.cong (F : own_Arf Z h a ty n f) (q : ∀ j, j < n → f j = f' j) : own_Arf Z h a ty n f' := by obtain ⟨c, A, r1, r2, r3⟩ := F; exact ⟨c, A, r1, r2, fun j hj => (q j hj) ▸ r3 j hj⟩
theorem own_Arf.new {k : ClassId} {z : Int32} (A : Arr Z h a (newA k ty z) ty) (q : ¬ z < 0) : own_Arf Z h a ty z.toNatClampNeg (fun _ => defaultValue ty) :=
  ⟨_, A, sz_new _ _ _, (back32 q).2, fun j hj => by simp [newA, hj]⟩
theorem own_inb {j : Int32} {n : Nat} (h1 : 0 ≤ j.toInt) (h2 : j.toInt < n) : ¬ (j < 0 ∨ n ≤ j.toNatClampNeg) := by
  have q : j.toNatClampNeg = j.toInt.toNat := rfl
  rintro (p | p)
  · have := Int32.lt_iff_toInt_lt.mp p; rw [show (0 : Int32).toInt = 0 from rfl] at this; omega
  · rw [q] at p; omega
theorem own_set {c : Cell} {k : Nat} (A : Arr Z h a c ty) (S : c.slots.size = n) (hn : n < 2 ^ 31) (H : ∀ j, j < n → c.slots[j]? = some (f j)) (W : Wr h h' a k v) (hk : k < n) : own_Arf Z h' a ty n (fun i => if i = k then v else f i) := by
  refine ⟨_, A.same W, by rw [sz_set]; exact S, hn, fun j hj => ?_⟩
  by_cases q : j = k
  · subst q; simp [Cell.setSlot, S, hj]
  · show _ = some (if j = k then v else f j)
    rw [if_neg q, ← H j hj]; exact Array.getElem?_setIfInBounds_ne (Ne.symm q)
variable {p : Program} {l : Launch} {e : Env} {R : Room} {s : State} {m : MethodId} {args : Array Value} {below : List Frame} {meth : Method} {c : Code} {T : State} {locs : List Loc} {cells slots : Nat}
theorem own_ld {A : Prop} {j : Int32} (F : own_Arf Z h a ty n f) (h1 : 0 ≤ j.toInt) (h2 : j.toInt < n) (k : ∀ c : Cell, Arr Z h a c ty → ¬ (j < 0 ∨ c.slots.size ≤ j.toNatClampNeg) → c.slots[j.toNatClampNeg]? = some (f j.toNatClampNeg) → A) : A := by
  obtain ⟨c, Ar, S, hn, H⟩ := F
  exact k c Ar (by rw [S]; exact own_inb h1 h2) (H _ (by have q : j.toNatClampNeg = j.toInt.toNat := rfl; omega))
theorem own_iaload (X : Stand p l e R s m args below meth c T locs cells slots) (hx : p.tables.exec = Jvm.exec) (hZ : Z.Warmed39 s.vm) (eT : T.heap = h) {j : Int32} (F : own_Arf Z h a .int n f) (h1 : 0 ≤ j.toInt) (h2 : j.toInt < n) {w : Value} (hv : f j.toNatClampNeg = w) {g : JFrame} (hg : g.method = m) {rest : List Value} (hs : g.stack = .int j :: .ref a :: rest) (hd : decode c.code g.pc = .ok (.iaload, 1)) :
    ∀ target, Steps p.tables e below (T.setTop { g with pc := g.pc + 1, stack := w :: rest }) target → Steps p.tables e below (T.setTop g) target := by
  subst hv
  exact own_ld F h1 h2 fun cl Ar hin hat => X.iaload hx (j := j) (by rw [eT]; exact Ar.1) (State.isArrayOf_alike hZ.alike Ar.2.1) Ar.2.2 hin hat hg hs hd
theorem own_baloadB (X : Stand p l e R s m args below meth c T locs cells slots) (hx : p.tables.exec = Jvm.exec) (hZ : Z.Warmed39 s.vm) (eT : T.heap = h) {j : Int32} (F : own_Arf Z h a .byte n f) (h1 : 0 ≤ j.toInt) (h2 : j.toInt < n) {w : Value} (hv : f j.toNatClampNeg = w) {g : JFrame} (hg : g.method = m) {rest : List Value} (hs : g.stack = .int j :: .ref a :: rest) (hd : decode c.code g.pc = .ok (.baload, 1)) :
    ∀ target, Steps p.tables e below (T.setTop { g with pc := g.pc + 1, stack := w :: rest }) target → Steps p.tables e below (T.setTop g) target := by
  subst hv
  exact own_ld F h1 h2 fun cl Ar hin hat => X.baloadBytes hx (j := j) (by rw [eT]; exact Ar.1) (State.isArrayOf_alike hZ.alike Ar.2.1) Ar.2.2 hin hat hg hs hd
theorem own_baloadZ (X : Stand p l e R s m args below meth c T locs cells slots) (hx : p.tables.exec = Jvm.exec) (hZ : Z.Warmed39 s.vm) (eT : T.heap = h) {j : Int32} (F : own_Arf Z h a .boolean n f) (h1 : 0 ≤ j.toInt) (h2 : j.toInt < n) {w : Value} (hv : f j.toNatClampNeg = w) {g : JFrame} (hg : g.method = m) {rest : List Value} (hs : g.stack = .int j :: .ref a :: rest) (hd : decode c.code g.pc = .ok (.baload, 1)) :
    ∀ target, Steps p.tables e below (T.setTop { g with pc := g.pc + 1, stack := w :: rest }) target → Steps p.tables e below (T.setTop g) target := by
  subst hv
  exact own_ld F h1 h2 fun cl Ar hin hat => X.baloadBooleans hx (j := j) (by rw [eT]; exact Ar.1) (State.isArrayOf_alike hZ.alike Ar.2.1) Ar.2.2 hin hat hg hs hd
theorem own_len32 {c : Cell} {n : Nat} (S : c.slots.size = n) {z : Int32} (hz : z = Int32.ofNat n) : c.slots.size.toInt32 = z := by rw [S, hz]
theorem own_alen (X : Stand p l e R s m args below meth c T locs cells slots) (hx : p.tables.exec = Jvm.exec) (hZ : Z.Warmed39 s.vm) (eT : T.heap = h) (F : own_Arf Z h a ty n f) (z : Int32) (hz : z = Int32.ofNat n) {g : JFrame} (hg : g.method = m) {rest : List Value} (hs : g.stack = .ref a :: rest) (hd : decode c.code g.pc = .ok (.arraylength, 1)) :
    ∀ target, Steps p.tables e below (T.setTop { g with pc := g.pc + 1, stack := .int z :: rest }) target → Steps p.tables e below (T.setTop g) target := by
  obtain ⟨cl, Ar, S, hn, H⟩ := F
  intro t k
  refine X.arraylength hx (cell := cl) (by rw [eT]; exact Ar.1) (State.isArrayOf_alike hZ.alike Ar.2.1) hg hs hd t ?_
  rw [own_len32 S hz]; exact k
theorem own_stI (X : Stand p l e R s m args below meth c T locs cells slots) (hx : p.tables.exec = Jvm.exec) (hZ : Z.Warmed39 s.vm) (eT : T.heap = h) {j x : Int32} (F : own_Arf Z h a .int n f) (h1 : 0 ≤ j.toInt) (h2 : j.toInt < n) {g : JFrame} (hg : g.method = m) {rest : List Value} (hs : g.stack = .int x :: .int j :: .ref a :: rest) (hd : decode c.code g.pc = .ok (.iastore, 1)) :
    ∃ T' h', Stand p l e R s m args below meth c T' (locs ++ [⟨a, j.toNatClampNeg⟩]) cells slots ∧ T'.heap = h' ∧ Wr h h' a j.toNatClampNeg (.int x) ∧ own_Arf Z h' a .int n (fun i => if i = j.toNatClampNeg then .int x else f i) ∧ ∀ target, Steps p.tables e below (T'.setTop { g with pc := g.pc + 1, stack := rest }) target → Steps p.tables e below (T.setTop g) target := by
  obtain ⟨cl, Ar, S, hn, H⟩ := F
  have hin : ¬ (j < 0 ∨ cl.slots.size ≤ j.toNatClampNeg) := by rw [S]; exact own_inb h1 h2
  obtain ⟨T', h', X', e', W, st⟩ := stI X hx hZ eT Ar (j := j) hin hg hs hd
  exact ⟨T', h', X', e', W, own_set Ar S hn H W (by have q : j.toNatClampNeg = j.toInt.toNat := rfl; omega), st⟩
theorem own_stB (X : Stand p l e R s m args below meth c T locs cells slots) (hx : p.tables.exec = Jvm.exec) (hZ : Z.Warmed39 s.vm) (eT : T.heap = h) {j x : Int32} (F : own_Arf Z h a .byte n f) (h1 : 0 ≤ j.toInt) (h2 : j.toInt < n) {g : JFrame} (hg : g.method = m) {rest : List Value} (hs : g.stack = .int x :: .int j :: .ref a :: rest) (hd : decode c.code g.pc = .ok (.bastore, 1)) :
    ∃ T' h', Stand p l e R s m args below meth c T' (locs ++ [⟨a, j.toNatClampNeg⟩]) cells slots ∧ T'.heap = h' ∧ Wr h h' a j.toNatClampNeg (.int (nar .byte x)) ∧ own_Arf Z h' a .byte n (fun i => if i = j.toNatClampNeg then .int (nar .byte x) else f i) ∧ ∀ target, Steps p.tables e below (T'.setTop { g with pc := g.pc + 1, stack := rest }) target → Steps p.tables e below (T.setTop g) target := by
  obtain ⟨cl, Ar, S, hn, H⟩ := F
  have hin : ¬ (j < 0 ∨ cl.slots.size ≤ j.toNatClampNeg) := by rw [S]; exact own_inb h1 h2
  obtain ⟨T', h', X', e', W, st⟩ := stB X hx hZ eT Ar (j := j) hin hg hs hd
  exact ⟨T', h', X', e', W, own_set Ar S hn H W (by have q : j.toNatClampNeg = j.toInt.toNat := rfl; omega), st⟩
theorem own_stZ (X : Stand p l e R s m args below meth c T locs cells slots) (hx : p.tables.exec = Jvm.exec) (hZ : Z.Warmed39 s.vm) (eT : T.heap = h) {j x : Int32} (F : own_Arf Z h a .boolean n f) (h1 : 0 ≤ j.toInt) (h2 : j.toInt < n) {g : JFrame} (hg : g.method = m) {rest : List Value} (hs : g.stack = .int x :: .int j :: .ref a :: rest) (hd : decode c.code g.pc = .ok (.bastore, 1)) :
    ∃ T' h', Stand p l e R s m args below meth c T' (locs ++ [⟨a, j.toNatClampNeg⟩]) cells slots ∧ T'.heap = h' ∧ Wr h h' a j.toNatClampNeg (.int (nar .boolean x)) ∧ own_Arf Z h' a .boolean n (fun i => if i = j.toNatClampNeg then .int (nar .boolean x) else f i) ∧ ∀ target, Steps p.tables e below (T'.setTop { g with pc := g.pc + 1, stack := rest }) target → Steps p.tables e below (T.setTop g) target := by
  obtain ⟨cl, Ar, S, hn, H⟩ := F
  have hin : ¬ (j < 0 ∨ cl.slots.size ≤ j.toNatClampNeg) := by rw [S]; exact own_inb h1 h2
  obtain ⟨T', h', X', e', W, st⟩ := stZ X hx hZ eT Ar (j := j) hin hg hs hd
  exact ⟨T', h', X', e', W, own_set Ar S hn H W (by have q : j.toNatClampNeg = j.toInt.toNat := rfl; omega), st⟩
end OwnArf
theorem own_clamp {i : Int32} {k : Nat} (h : i.toInt = k) : i.toNatClampNeg = k := by show i.toInt.toNat = k; omega
theorem own_tabArf {s : State} {a : Addr} {cl : Cell} {ty : FieldType} {n : Nat} (hf : Fit s) (A : Arr s s.heap a cl ty) (ht : ty = .int ∨ ty = .boolean ∨ ty = .byte ∨ ty = .char ∨ ty = .short) (S : cl.slots.size = n) (hn : n < 2 ^ 31) : ∃ g : Nat → Int32, own_Arf s s.heap a ty n (fun i => .int (g i)) := by
  refine ⟨fun i => atv cl (Int32.ofNat i), cl, A, S, hn, fun j hj => ?_⟩
  have e1 : (Int32.ofNat j).toInt = j := Int32.toInt_ofNat_of_lt (by omega)
  have e2 : (Int32.ofNat j).toNatClampNeg = j := by show (Int32.ofNat j).toInt.toNat = j; omega
  have hin : ¬ (Int32.ofNat j < 0 ∨ cl.slots.size ≤ (Int32.ofNat j).toNatClampNeg) := by rw [S]; exact own_inb (by omega) (by omega)
  obtain ⟨v, h1, h2⟩ := elem_fit hf A hin
  obtain ⟨x, rfl⟩ := fit_I h2 ht
  show cl.slots[j]? = some (.int (atv cl (Int32.ofNat j)))
  rw [atv_of h1, ← e2]; exact h1
theorem own_lenOf {args : Array Value} {s : State} {t : Term} {a : Addr} {cl : Cell} {ty : FieldType} {k : Int32} (ev : t.eval args s none [] s = some (.ref a)) (A : Arr s s.heap a cl ty) (h : (Cond.eq (.length t) (.int k)).value args s none s [] = some true) (hk : 0 ≤ k.toInt) : cl.slots.size = k.toInt.toNat ∧ cl.slots.size < 2 ^ 31 := by
  have ha := A.fin (Vm.Alike.refl _)
  by_cases q : cl.slots.size < 2 ^ 31
  · have e1 : (Term.length t).eval args s none [] s = some (.int cl.slots.size.toInt32) := len_f ev ha q
    have e2 : cl.slots.size.toInt32 = k := by
      have hh := h
      simp only [Cond.value] at hh
      rw [e1] at hh
      simpa [Term.eval] using hh
    have e3 := len_toInt q
    rw [e2] at e3
    exact ⟨by omega, q⟩
  · exfalso
    have e1 : (Term.length t).eval args s none [] s = none := by simp [Term.eval, ev, ha, q]
    simp [Cond.value, e1] at h
theorem own_nameI {Z : State} {h : Heap} {a : Addr} {ty : FieldType} {n k : Nat} {g : Nat → Int32} {x : Int32} (V : own_Arf Z h a ty n (fun i => if i = k then .int x else .int (g i))) : ∃ g' : Nat → Int32, (∀ i, g' i = if i = k then x else g i) ∧ own_Arf Z h a ty n (fun i => .int (g' i)) :=
  ⟨fun i => if i = k then x else g i, fun _ => rfl, V.cong (fun i _ => by by_cases q : i = k <;> simp [q])⟩
theorem own_nameD {Z : State} {h : Heap} {a : Addr} {ty : FieldType} {n k : Nat} {g : Nat → UInt64} {x : UInt64} (V : own_Arf Z h a ty n (fun i => if i = k then .double x else .double (g i))) : ∃ g' : Nat → UInt64, (∀ i, g' i = if i = k then x else g i) ∧ own_Arf Z h a ty n (fun i => .double (g' i)) :=
  ⟨fun i => if i = k then x else g i, fun _ => rfl, V.cong (fun i _ => by by_cases q : i = k <;> simp [q])⟩
theorem own_natOf {i : Int32} {lo hi : Int} (h1 : 0 ≤ i.toInt) : ∃ k : Nat, i.toInt = k := ⟨i.toInt.toNat, by omega⟩
theorem own_tn {i : Int32} {k : Nat} (h : i.toInt = k) : i.toBitVec.toNat = k := by
  have h1 : i.toBitVec.toInt = k := h
  have h2 := BitVec.toInt_eq_toNat_cond i.toBitVec
  have h3 := i.toBitVec.isLt
  rw [h1] at h2
  split at h2 <;> omega
theorem pn_0 : plainName "java/lang/Record" = true := by first | (simp [plainName, overriddenIn]; done) | decide +kernel
theorem d2_0 : decode jdk_30_method_1_code 0 = .ok (.aload_n 0, 1) := by decide +kernel
theorem d2_1 : decode jdk_30_method_1_code 1 = .ok (.invokespecial 1, 3) := by decide +kernel
theorem d2_4 : decode jdk_30_method_1_code 4 = .ok (.return_, 1) := by decide +kernel
theorem ef_2 (m : MethodId) (x0 : Addr) : entryFrame m #[(.ref x0)] 1 = mkF m 0 #[.val (.ref x0)] [] := by first | (simp [entryFrame, mkF, argsToLocals, Value.category]; done) | rfl
def Q2 (Z : State) (a1 : Addr) (h0 : Heap) (n0 : Nat) (v : Option Value) (h : Heap) (L : List Loc) : Prop := v = none ∧ Fr n0 L ∧ h = h0
set_option maxRecDepth 65536 in
set_option maxHeartbeats 40000000 in
theorem rm2 (l : Launch) (Z : State) (a0 : Array Value) (hw : ∀ d ∈ tables_1, d.before a0 Z = true) (ws : List Jvm.Cond) (a1 : Addr) (h0 : Heap) (n0 : Nat) (Z0 : n0 ≤ h0.size) :
    MetFree l (⟨"java/lang/Record", "<init>", "()V"⟩ : MethodName) (head1 (Jvm.Cond.code (⟨"java/lang/Record", "<init>", "()V"⟩ : MethodName) jdk_30_method_1_code 1 none :: ws) ({ frames := 1, cells := 0, slots := 0, locals := 12 } : Room)) (fun a U => a = #[(.ref a1)] ∧ Z.Warmed39 U.vm ∧ U.heap = h0) (fun _ _ _ _ _ => True) (fun _ U o U' => ∃ v L, o = .returned v ∧ Q2 Z a1 h0 n0 v U'.heap L ∧ FrameEnd U o U' L ({ frames := 1, cells := 0, slots := 0, locals := 12 } : Room).cells ({ frames := 1, cells := 0, slots := 0, locals := 12 } : Room).slots) := by
  refine MetFree.of_bodySF (plainFor_of_name pn_0) hisR ?_
  intro p e s m args below meth c s₁ Bd hml0 hP hK
  obtain ⟨rfl, hZ, hh⟩ := hP
  have hx := Bd.exec
  have hby := Bd.bytes
  have hml : c.maxLocals = 1 := hml0
  have hown : s.vm.findClass "java/lang/Record" = some m.cls := findClass_of_methodNamed Bd.named
  have hnm := (name_of_methodNamed Bd.named Bd.method).1
  have hlk : meth.locks = false := BodyLoose.notSynchronized Bd
  have X0 : Stand p l e ({ frames := 1, cells := 0, slots := 0, locals := 12 } : Room) s m #[(.ref a1)] below meth c s₁ [] 0 0 := Stand.of_body Bd
  have e0 : s₁.heap = h0 := by rw [← hh, Bd.state]; rfl
  have N0 := Fr.nil n0
  have K0 : Keep h0 h0 [] := Keep.refl h0 _
  have key : ∀ (F0 : State) (G : Prop), (own_G p e below s F0 (Q2 Z a1 h0 n0) ({ frames := 1, cells := 0, slots := 0, locals := 12 } : Room).cells ({ frames := 1, cells := 0, slots := 0, locals := 12 } : Room).slots → G) → own_R p.tables e below F0 (s₁.setTop (mkF m 0 #[.val (.ref a1)] [])) → G := by
    intro F0 G hG r0
    have r1 : own_R p.tables e below F0 (s₁.setTop (mkF m 1 #[.val (.ref a1)] [(.ref a1)])) := fun t k => by
      refine r0 t ?_
      show Steps p.tables e below (s₁.setTop (mkF m 0 #[.val (.ref a1)] [])) _
      refine XS.aloadN X0.here hx rfl (hb hby d2_0) rfl rfl ?_
      exact k
    obtain ⟨T2, X2, e2, st2⟩ := initO X0 hx hZ hown (hw _ (List.mem_of_getElem? (i := 12) rfl)) (hw _ (List.mem_of_getElem? (i := 13) rfl)) (hw _ (List.mem_of_getElem? (i := 14) rfl)) e0 (g := (mkF m 1 #[.val (.ref a1)] [(.ref a1)])) rfl (by rw [hml]; rfl) rfl (hb hby d2_1) (by decide) (W := 0) (by show 2 * 0 + _ ≤ _; exact Nat.le_of_eq rfl) (by decide)
    have r2 : own_R p.tables e below F0 (T2.setTop (mkF m 4 #[.val (.ref a1)] [])) := fun t k => r1 t (st2 t k)
    refine hG (own_fin X2 hlk (none) (fun _ => rfl) ?_ (by decide) (by decide) (fun fs hr => r2 _ (X2.returnOut hx Bd.returns (hb hby d2_4) hr)))
    rw [e2]
    refine ⟨?_, N0, rfl⟩
    rfl
  exact key _ _ id (fun t k => castTop (ef_2 m a1) k)
theorem pn_1 : plainName "com/example/invites_to_friends/invitestofriends/bench/Call" = true := by first | (simp [plainName, overriddenIn]; done) | decide +kernel
theorem pd_0 : parseMethodDescriptor "()V" = some ⟨[], none⟩ := by decide +kernel
theorem d1_0 : decode prog_5_method_1_code 0 = .ok (.aload_n 0, 1) := by decide +kernel
theorem d1_1 : decode prog_5_method_1_code 1 = .ok (.invokespecial 1, 3) := by decide +kernel
theorem d1_4 : decode prog_5_method_1_code 4 = .ok (.aload_n 0, 1) := by decide +kernel
theorem d1_5 : decode prog_5_method_1_code 5 = .ok (.lload_n 1, 1) := by decide +kernel
theorem d1_6 : decode prog_5_method_1_code 6 = .ok (.putfield 7, 3) := by decide +kernel
theorem d1_9 : decode prog_5_method_1_code 9 = .ok (.aload_n 0, 1) := by decide +kernel
theorem d1_10 : decode prog_5_method_1_code 10 = .ok (.lload_n 3, 1) := by decide +kernel
theorem d1_11 : decode prog_5_method_1_code 11 = .ok (.putfield 13, 3) := by decide +kernel
theorem d1_14 : decode prog_5_method_1_code 14 = .ok (.aload_n 0, 1) := by decide +kernel
theorem d1_15 : decode prog_5_method_1_code 15 = .ok (.iload 5, 2) := by decide +kernel
theorem d1_17 : decode prog_5_method_1_code 17 = .ok (.putfield 16, 3) := by decide +kernel
theorem d1_20 : decode prog_5_method_1_code 20 = .ok (.aload_n 0, 1) := by decide +kernel
theorem d1_21 : decode prog_5_method_1_code 21 = .ok (.aload 6, 2) := by decide +kernel
theorem d1_23 : decode prog_5_method_1_code 23 = .ok (.putfield 20, 3) := by decide +kernel
theorem d1_26 : decode prog_5_method_1_code 26 = .ok (.return_, 1) := by decide +kernel
theorem ef_1 (m : MethodId) (x0 : Addr) (x1 : Int64) (x2 : Int64) (x3 : Int32) (x4 : Addr) : entryFrame m #[(.ref x0), (.long x1), (.long x2), (.int x3), (.ref x4)] 7 = mkF m 0 #[.val (.ref x0), .val (.long x1), .second, .val (.long x2), .second, .val (.int x3), .val (.ref x4)] [] := by first | (simp [entryFrame, mkF, argsToLocals, Value.category]; done) | rfl
def Q1 (Z : State) (a1 : Addr) (p2 : Int64) (p3 : Int64) (p4 : Int32) (p5 : Addr) (h0 : Heap) (n0 : Nat) (v : Option Value) (h : Heap) (L : List Loc) : Prop := v = none ∧ Fr n0 L ∧ Keep h0 h [a1] ∧ Exa Z h a1 "com/example/invites_to_friends/invitestofriends/bench/Call" ∧ Fld Z h a1 "com/example/invites_to_friends/invitestofriends/bench/Call" "started" "J" (.long p2) ∧ Fld Z h a1 "com/example/invites_to_friends/invitestofriends/bench/Call" "ended" "J" (.long p3) ∧ Fld Z h a1 "com/example/invites_to_friends/invitestofriends/bench/Call" "status" "I" (.int p4) ∧ Fld Z h a1 "com/example/invites_to_friends/invitestofriends/bench/Call" "body" "[B" (.ref p5)
set_option maxRecDepth 65536 in
set_option maxHeartbeats 40000000 in
theorem rm1 (l : Launch) (Z : State) (a0 : Array Value) (hw : ∀ d ∈ tables_1, d.before a0 Z = true) (ws : List Jvm.Cond) (a1 : Addr) (p2 : Int64) (p3 : Int64) (p4 : Int32) (p5 : Addr) (h0 : Heap) (n0 : Nat) (Z0 : n0 ≤ h0.size) (E1 : Exa Z h0 a1 "com/example/invites_to_friends/invitestofriends/bench/Call") (Fp0 : Fld Z h0 a1 "com/example/invites_to_friends/invitestofriends/bench/Call" "started" "J" (.long (0 : Int64))) (Fp1 : Fld Z h0 a1 "com/example/invites_to_friends/invitestofriends/bench/Call" "ended" "J" (.long (0 : Int64))) (Fp2 : Fld Z h0 a1 "com/example/invites_to_friends/invitestofriends/bench/Call" "status" "I" (.int (0 : Int32))) (Fp3 : Fld Z h0 a1 "com/example/invites_to_friends/invitestofriends/bench/Call" "body" "[B" .null) (ga1 : n0 ≤ a1) :
    MetFree l (⟨"com/example/invites_to_friends/invitestofriends/bench/Call", "<init>", "(JJI[B)V"⟩ : MethodName) (head1 (Jvm.Cond.code (⟨"com/example/invites_to_friends/invitestofriends/bench/Call", "<init>", "(JJI[B)V"⟩ : MethodName) prog_5_method_1_code 7 none :: ws) ({ frames := 2, cells := 0, slots := 0, locals := 24 } : Room)) (fun a U => a = #[(.ref a1), (.long p2), (.long p3), (.int p4), (.ref p5)] ∧ Z.Warmed39 U.vm ∧ U.heap = h0) (fun _ _ _ _ _ => True) (fun _ U o U' => ∃ v L, o = .returned v ∧ Q1 Z a1 p2 p3 p4 p5 h0 n0 v U'.heap L ∧ FrameEnd U o U' L ({ frames := 2, cells := 0, slots := 0, locals := 24 } : Room).cells ({ frames := 2, cells := 0, slots := 0, locals := 24 } : Room).slots) := by
  refine MetFree.of_bodySF (plainFor_of_name pn_1) hisR ?_
  intro p e s m args below meth c s₁ Bd hml0 hP hK
  obtain ⟨rfl, hZ, hh⟩ := hP
  have hx := Bd.exec
  have hby := Bd.bytes
  have hml : c.maxLocals = 7 := hml0
  have hown : s.vm.findClass "com/example/invites_to_friends/invitestofriends/bench/Call" = some m.cls := findClass_of_methodNamed Bd.named
  have hnm := (name_of_methodNamed Bd.named Bd.method).1
  have hlk : meth.locks = false := BodyLoose.notSynchronized Bd
  have X0 : Stand p l e ({ frames := 2, cells := 0, slots := 0, locals := 24 } : Room) s m #[(.ref a1), (.long p2), (.long p3), (.int p4), (.ref p5)] below meth c s₁ [] 0 0 := Stand.of_body Bd
  have e0 : s₁.heap = h0 := by rw [← hh, Bd.state]; rfl
  have N0 := Fr.nil n0
  have K0 : Keep h0 h0 [a1] := Keep.refl h0 _
  have key : ∀ (F0 : State) (G : Prop), (own_G p e below s F0 (Q1 Z a1 p2 p3 p4 p5 h0 n0) ({ frames := 2, cells := 0, slots := 0, locals := 24 } : Room).cells ({ frames := 2, cells := 0, slots := 0, locals := 24 } : Room).slots → G) → own_R p.tables e below F0 (s₁.setTop (mkF m 0 #[.val (.ref a1), .val (.long p2), .second, .val (.long p3), .second, .val (.int p4), .val (.ref p5)] [])) → G := by
    intro F0 G hG r0
    have r3 : own_R p.tables e below F0 (s₁.setTop (mkF m 1 #[.val (.ref a1), .val (.long p2), .second, .val (.long p3), .second, .val (.int p4), .val (.ref p5)] [(.ref a1)])) := fun t k => by
      refine r0 t ?_
      show Steps p.tables e below (s₁.setTop (mkF m 0 #[.val (.ref a1), .val (.long p2), .second, .val (.long p3), .second, .val (.int p4), .val (.ref p5)] [])) _
      refine XS.aloadN X0.here hx rfl (hb hby d1_0) rfl rfl ?_
      exact k
    obtain ⟨_, _, ⟨T4, L4, k4, n4⟩, -, X4, ⟨Lc4, hQ4, l4, y4, z4⟩, st4⟩ := X0.specialBack hx (y := (⟨"java/lang/Record", "<init>", "()V"⟩ : MethodName)) rfl hown (mvT hZ (hw _ (List.mem_of_getElem? (i := 7) rfl))) (mvT hZ (hw _ (List.mem_of_getElem? (i := 8) rfl))) (mvT hZ (hw _ (List.mem_of_getElem? (i := 11) rfl))) (by decide) (backOf (W := 0) (rm2 l Z a0 hw [] a1 h0 n0 Z0 ) hZ (hw _ (List.mem_of_getElem? (i := 11) rfl)) (hw _ (List.mem_of_getElem? (i := 10) rfl)) (by decide) (by decide)) (g := (mkF m 1 #[.val (.ref a1), .val (.long p2), .second, .val (.long p3), .second, .val (.int p4), .val (.ref p5)] [(.ref a1)])) rfl (by rw [hml]; rfl) (Steps.refl _) (a := a1) (argsL := []) (rest := []) (lenOf pd_0 rfl) rfl (by show 2 * 0 + _ ≤ _; exact Nat.le_of_eq rfl) (hb hby d1_1) (fun _ _ => ⟨rfl, e0, (by decide : 0 + 0 ≤ _), (by decide : 0 + 0 ≤ _)⟩)
    dsimp only [Pt.U, Pt.locs, Pt.cells, Pt.slots] at X4 l4 y4 z4 st4 hQ4
    subst l4 y4 z4
    obtain ⟨rfl, N4q, I4_0⟩ := hQ4
    have N4 := Fr.app N0 N4q
    have r4 : own_R p.tables e below F0 (T4.setTop (mkF m 4 #[.val (.ref a1), .val (.long p2), .second, .val (.long p3), .second, .val (.int p4), .val (.ref p5)] [])) := fun t k => r3 t (st4.trans k)
    have r5 : own_R p.tables e below F0 (T4.setTop (mkF m 6 #[.val (.ref a1), .val (.long p2), .second, .val (.long p3), .second, .val (.int p4), .val (.ref p5)] [(.long p2), (.ref a1)])) := fun t k => by
      refine r4 t ?_
      show Steps p.tables e below (T4.setTop (mkF m 4 #[.val (.ref a1), .val (.long p2), .second, .val (.long p3), .second, .val (.int p4), .val (.ref p5)] [])) _
      refine XS.aloadN X4.here hx rfl (hb hby d1_4) rfl rfl ?_
      show Steps p.tables e below (T4.setTop (mkF m 5 #[.val (.ref a1), .val (.long p2), .second, .val (.long p3), .second, .val (.int p4), .val (.ref p5)] [(.ref a1)])) _
      refine XS.lloadN X4.here hx rfl (hb hby d1_5) rfl ?_
      exact k
    obtain ⟨T6, h6, X6, e6, W6, st6⟩ := putF X4 hx hZ hown (host := "") (Or.inl (hw _ (List.mem_of_getElem? (i := 15) rfl))) Via.refl I4_0 Fp0 E1 (Or.inr ⟨(hw _ (List.mem_of_getElem? (i := 16) rfl)), rfl, hnm⟩) (hw _ (List.mem_of_getElem? (i := 1) rfl)) (ty := .long) (by decide) rfl rfl (g := (mkF m 6 #[.val (.ref a1), .val (.long p2), .second, .val (.long p3), .second, .val (.int p4), .val (.ref p5)] [(.long p2), (.ref a1)])) rfl rfl (hb hby d1_6)
    have F7 : Exa Z h6 a1 "com/example/invites_to_friends/invitestofriends/bench/Call" := E1.wr W6
    have F8 : Fld Z h6 a1 "com/example/invites_to_friends/invitestofriends/bench/Call" "started" "J" (.long p2) := Fp0.same W6
    have F9 : Fld Z h6 a1 "com/example/invites_to_friends/invitestofriends/bench/Call" "ended" "J" (.long (0 : Int64)) := Fp1.other W6 (Or.inr (slot_ne (Or.inr (hw _ (List.mem_of_getElem? (i := 18) rfl))) (Or.inr (hw _ (List.mem_of_getElem? (i := 16) rfl))) (by decide) (t := .long) (t' := .long) (by decide) (by decide)))
    have F10 : Fld Z h6 a1 "com/example/invites_to_friends/invitestofriends/bench/Call" "status" "I" (.int (0 : Int32)) := Fp2.other W6 (Or.inr (slot_ne (Or.inr (hw _ (List.mem_of_getElem? (i := 20) rfl))) (Or.inr (hw _ (List.mem_of_getElem? (i := 16) rfl))) (by decide) (t := .int) (t' := .long) (by decide) (by decide)))
    have F11 : Fld Z h6 a1 "com/example/invites_to_friends/invitestofriends/bench/Call" "body" "[B" .null := Fp3.other W6 (Or.inr (slot_ne (Or.inr (hw _ (List.mem_of_getElem? (i := 22) rfl))) (Or.inr (hw _ (List.mem_of_getElem? (i := 16) rfl))) (by decide) (t := (.array .byte)) (t' := .long) (by decide) (by decide)))
    have Zs12 : n0 ≤ h6.size := by rw [W6.size]; exact Z0
    have N13 := Fr.snoc X6 N4 ga1
    have K14 : Keep h0 h6 [a1] := K0.wr W6 (Or.inl (List.mem_of_getElem? (i := 0) rfl))
    have r6 : own_R p.tables e below F0 (T6.setTop (mkF m 9 #[.val (.ref a1), .val (.long p2), .second, .val (.long p3), .second, .val (.int p4), .val (.ref p5)] [])) := fun t k => r5 t (st6 t k)
    have r15 : own_R p.tables e below F0 (T6.setTop (mkF m 11 #[.val (.ref a1), .val (.long p2), .second, .val (.long p3), .second, .val (.int p4), .val (.ref p5)] [(.long p3), (.ref a1)])) := fun t k => by
      refine r6 t ?_
      show Steps p.tables e below (T6.setTop (mkF m 9 #[.val (.ref a1), .val (.long p2), .second, .val (.long p3), .second, .val (.int p4), .val (.ref p5)] [])) _
      refine XS.aloadN X6.here hx rfl (hb hby d1_9) rfl rfl ?_
      show Steps p.tables e below (T6.setTop (mkF m 10 #[.val (.ref a1), .val (.long p2), .second, .val (.long p3), .second, .val (.int p4), .val (.ref p5)] [(.ref a1)])) _
      refine XS.lloadN X6.here hx rfl (hb hby d1_10) rfl ?_
      exact k
    obtain ⟨T16, h16, X16, e16, W16, st16⟩ := putF X6 hx hZ hown (host := "") (Or.inl (hw _ (List.mem_of_getElem? (i := 17) rfl))) Via.refl e6 F9 F7 (Or.inr ⟨(hw _ (List.mem_of_getElem? (i := 18) rfl)), rfl, hnm⟩) (hw _ (List.mem_of_getElem? (i := 1) rfl)) (ty := .long) (by decide) rfl rfl (g := (mkF m 11 #[.val (.ref a1), .val (.long p2), .second, .val (.long p3), .second, .val (.int p4), .val (.ref p5)] [(.long p3), (.ref a1)])) rfl rfl (hb hby d1_11)
    have F17 : Exa Z h16 a1 "com/example/invites_to_friends/invitestofriends/bench/Call" := F7.wr W16
    have F18 : Fld Z h16 a1 "com/example/invites_to_friends/invitestofriends/bench/Call" "started" "J" (.long p2) := F8.other W16 (Or.inr (slot_ne (Or.inr (hw _ (List.mem_of_getElem? (i := 16) rfl))) (Or.inr (hw _ (List.mem_of_getElem? (i := 18) rfl))) (by decide) (t := .long) (t' := .long) (by decide) (by decide)))
    have F19 : Fld Z h16 a1 "com/example/invites_to_friends/invitestofriends/bench/Call" "ended" "J" (.long p3) := F9.same W16
    have F20 : Fld Z h16 a1 "com/example/invites_to_friends/invitestofriends/bench/Call" "status" "I" (.int (0 : Int32)) := F10.other W16 (Or.inr (slot_ne (Or.inr (hw _ (List.mem_of_getElem? (i := 20) rfl))) (Or.inr (hw _ (List.mem_of_getElem? (i := 18) rfl))) (by decide) (t := .int) (t' := .long) (by decide) (by decide)))
    have F21 : Fld Z h16 a1 "com/example/invites_to_friends/invitestofriends/bench/Call" "body" "[B" .null := F11.other W16 (Or.inr (slot_ne (Or.inr (hw _ (List.mem_of_getElem? (i := 22) rfl))) (Or.inr (hw _ (List.mem_of_getElem? (i := 18) rfl))) (by decide) (t := (.array .byte)) (t' := .long) (by decide) (by decide)))
    have Zs22 : n0 ≤ h16.size := by rw [W16.size]; exact Zs12
    have N23 := Fr.snoc X16 N13 ga1
    have K24 : Keep h0 h16 [a1] := K14.wr W16 (Or.inl (List.mem_of_getElem? (i := 0) rfl))
    have r16 : own_R p.tables e below F0 (T16.setTop (mkF m 14 #[.val (.ref a1), .val (.long p2), .second, .val (.long p3), .second, .val (.int p4), .val (.ref p5)] [])) := fun t k => r15 t (st16 t k)
    have r25 : own_R p.tables e below F0 (T16.setTop (mkF m 17 #[.val (.ref a1), .val (.long p2), .second, .val (.long p3), .second, .val (.int p4), .val (.ref p5)] [(.int p4), (.ref a1)])) := fun t k => by
      refine r16 t ?_
      show Steps p.tables e below (T16.setTop (mkF m 14 #[.val (.ref a1), .val (.long p2), .second, .val (.long p3), .second, .val (.int p4), .val (.ref p5)] [])) _
      refine XS.aloadN X16.here hx rfl (hb hby d1_14) rfl rfl ?_
      show Steps p.tables e below (T16.setTop (mkF m 15 #[.val (.ref a1), .val (.long p2), .second, .val (.long p3), .second, .val (.int p4), .val (.ref p5)] [(.ref a1)])) _
      refine XS.iload X16.here hx rfl (hb hby d1_15) rfl ?_
      exact k
    obtain ⟨T26, h26, X26, e26, W26, st26⟩ := putF X16 hx hZ hown (host := "") (Or.inl (hw _ (List.mem_of_getElem? (i := 19) rfl))) Via.refl e16 F20 F17 (Or.inr ⟨(hw _ (List.mem_of_getElem? (i := 20) rfl)), rfl, hnm⟩) (hw _ (List.mem_of_getElem? (i := 1) rfl)) (ty := .int) (by decide) rfl rfl (g := (mkF m 17 #[.val (.ref a1), .val (.long p2), .second, .val (.long p3), .second, .val (.int p4), .val (.ref p5)] [(.int p4), (.ref a1)])) rfl rfl (hb hby d1_17)
    have F27 : Exa Z h26 a1 "com/example/invites_to_friends/invitestofriends/bench/Call" := F17.wr W26
    have F28 : Fld Z h26 a1 "com/example/invites_to_friends/invitestofriends/bench/Call" "started" "J" (.long p2) := F18.other W26 (Or.inr (slot_ne (Or.inr (hw _ (List.mem_of_getElem? (i := 16) rfl))) (Or.inr (hw _ (List.mem_of_getElem? (i := 20) rfl))) (by decide) (t := .long) (t' := .int) (by decide) (by decide)))
    have F29 : Fld Z h26 a1 "com/example/invites_to_friends/invitestofriends/bench/Call" "ended" "J" (.long p3) := F19.other W26 (Or.inr (slot_ne (Or.inr (hw _ (List.mem_of_getElem? (i := 18) rfl))) (Or.inr (hw _ (List.mem_of_getElem? (i := 20) rfl))) (by decide) (t := .long) (t' := .int) (by decide) (by decide)))
    have F30 : Fld Z h26 a1 "com/example/invites_to_friends/invitestofriends/bench/Call" "status" "I" (.int p4) := F20.same W26
    have F31 : Fld Z h26 a1 "com/example/invites_to_friends/invitestofriends/bench/Call" "body" "[B" .null := F21.other W26 (Or.inr (slot_ne (Or.inr (hw _ (List.mem_of_getElem? (i := 22) rfl))) (Or.inr (hw _ (List.mem_of_getElem? (i := 20) rfl))) (by decide) (t := (.array .byte)) (t' := .int) (by decide) (by decide)))
    have Zs32 : n0 ≤ h26.size := by rw [W26.size]; exact Zs22
    have N33 := Fr.snoc X26 N23 ga1
    have K34 : Keep h0 h26 [a1] := K24.wr W26 (Or.inl (List.mem_of_getElem? (i := 0) rfl))
    have r26 : own_R p.tables e below F0 (T26.setTop (mkF m 20 #[.val (.ref a1), .val (.long p2), .second, .val (.long p3), .second, .val (.int p4), .val (.ref p5)] [])) := fun t k => r25 t (st26 t k)
    have r35 : own_R p.tables e below F0 (T26.setTop (mkF m 23 #[.val (.ref a1), .val (.long p2), .second, .val (.long p3), .second, .val (.int p4), .val (.ref p5)] [(.ref p5), (.ref a1)])) := fun t k => by
      refine r26 t ?_
      show Steps p.tables e below (T26.setTop (mkF m 20 #[.val (.ref a1), .val (.long p2), .second, .val (.long p3), .second, .val (.int p4), .val (.ref p5)] [])) _
      refine XS.aloadN X26.here hx rfl (hb hby d1_20) rfl rfl ?_
      show Steps p.tables e below (T26.setTop (mkF m 21 #[.val (.ref a1), .val (.long p2), .second, .val (.long p3), .second, .val (.int p4), .val (.ref p5)] [(.ref a1)])) _
      refine XS.aload X26.here hx rfl (hb hby d1_21) rfl rfl ?_
      exact k
    obtain ⟨T36, h36, X36, e36, W36, st36⟩ := putF X26 hx hZ hown (host := "") (Or.inl (hw _ (List.mem_of_getElem? (i := 21) rfl))) Via.refl e26 F31 F27 (Or.inr ⟨(hw _ (List.mem_of_getElem? (i := 22) rfl)), rfl, hnm⟩) (hw _ (List.mem_of_getElem? (i := 1) rfl)) (ty := (.array .byte)) (by decide) rfl rfl (g := (mkF m 23 #[.val (.ref a1), .val (.long p2), .second, .val (.long p3), .second, .val (.int p4), .val (.ref p5)] [(.ref p5), (.ref a1)])) rfl rfl (hb hby d1_23)
    have F37 : Exa Z h36 a1 "com/example/invites_to_friends/invitestofriends/bench/Call" := F27.wr W36
    have F38 : Fld Z h36 a1 "com/example/invites_to_friends/invitestofriends/bench/Call" "started" "J" (.long p2) := F28.other W36 (Or.inr (slot_ne (Or.inr (hw _ (List.mem_of_getElem? (i := 16) rfl))) (Or.inr (hw _ (List.mem_of_getElem? (i := 22) rfl))) (by decide) (t := .long) (t' := (.array .byte)) (by decide) (by decide)))
    have F39 : Fld Z h36 a1 "com/example/invites_to_friends/invitestofriends/bench/Call" "ended" "J" (.long p3) := F29.other W36 (Or.inr (slot_ne (Or.inr (hw _ (List.mem_of_getElem? (i := 18) rfl))) (Or.inr (hw _ (List.mem_of_getElem? (i := 22) rfl))) (by decide) (t := .long) (t' := (.array .byte)) (by decide) (by decide)))
    have F40 : Fld Z h36 a1 "com/example/invites_to_friends/invitestofriends/bench/Call" "status" "I" (.int p4) := F30.other W36 (Or.inr (slot_ne (Or.inr (hw _ (List.mem_of_getElem? (i := 20) rfl))) (Or.inr (hw _ (List.mem_of_getElem? (i := 22) rfl))) (by decide) (t := .int) (t' := (.array .byte)) (by decide) (by decide)))
    have F41 : Fld Z h36 a1 "com/example/invites_to_friends/invitestofriends/bench/Call" "body" "[B" (.ref p5) := F31.same W36
    have Zs42 : n0 ≤ h36.size := by rw [W36.size]; exact Zs32
    have N43 := Fr.snoc X36 N33 ga1
    have K44 : Keep h0 h36 [a1] := K34.wr W36 (Or.inl (List.mem_of_getElem? (i := 0) rfl))
    have r36 : own_R p.tables e below F0 (T36.setTop (mkF m 26 #[.val (.ref a1), .val (.long p2), .second, .val (.long p3), .second, .val (.int p4), .val (.ref p5)] [])) := fun t k => r35 t (st36 t k)
    refine hG (own_fin X36 hlk (none) (fun _ => rfl) ?_ (by decide) (by decide) (fun fs hr => r36 _ (X36.returnOut hx Bd.returns (hb hby d1_26) hr)))
    rw [e36]
    refine ⟨?_, N43, K44, F37, F38, F39, F40, F41⟩
    rfl
  exact key _ _ id (fun t k => castTop (ef_1 m a1 p2 p3 p4 p5) k)
def own_over (s1 : Int64) (e1 : Int64) (s2 : Int64) (e2 : Int64) : Int32 := (if s1 < e2 then (if s2 < e1 then (1 : Int32) else (0 : Int32)) else (0 : Int32))
theorem d4_0 : decode prog_5_method_5_code 0 = .ok (.aload_n 0, 1) := by decide +kernel
theorem d4_1 : decode prog_5_method_5_code 1 = .ok (.getfield 7, 3) := by decide +kernel
theorem d4_4 : decode prog_5_method_5_code 4 = .ok (.aload_n 1, 1) := by decide +kernel
theorem d4_5 : decode prog_5_method_5_code 5 = .ok (.getfield 13, 3) := by decide +kernel
theorem d4_8 : decode prog_5_method_5_code 8 = .ok (.lcmp, 1) := by decide +kernel
theorem d4_9 : decode prog_5_method_5_code 9 = .ok (.ifCond .ge 19, 3) := by decide +kernel
theorem d4_12 : decode prog_5_method_5_code 12 = .ok (.aload_n 1, 1) := by decide +kernel
theorem d4_13 : decode prog_5_method_5_code 13 = .ok (.getfield 7, 3) := by decide +kernel
theorem d4_16 : decode prog_5_method_5_code 16 = .ok (.aload_n 0, 1) := by decide +kernel
theorem d4_17 : decode prog_5_method_5_code 17 = .ok (.getfield 13, 3) := by decide +kernel
theorem d4_20 : decode prog_5_method_5_code 20 = .ok (.lcmp, 1) := by decide +kernel
theorem d4_21 : decode prog_5_method_5_code 21 = .ok (.ifCond .ge 7, 3) := by decide +kernel
theorem d4_24 : decode prog_5_method_5_code 24 = .ok (.iconst 1, 1) := by decide +kernel
theorem d4_25 : decode prog_5_method_5_code 25 = .ok (.goto 4, 3) := by decide +kernel
theorem d4_28 : decode prog_5_method_5_code 28 = .ok (.iconst 0, 1) := by decide +kernel
theorem d4_29 : decode prog_5_method_5_code 29 = .ok (.ireturn, 1) := by decide +kernel
theorem ef_4 (m : MethodId) (x0 : Addr) (x1 : Addr) : entryFrame m #[(.ref x0), (.ref x1)] 2 = mkF m 0 #[.val (.ref x0), .val (.ref x1)] [] := by first | (simp [entryFrame, mkF, argsToLocals, Value.category]; done) | rfl
def Q4 (Z : State) (a1 : Addr) (a2 : Addr) (s1 : Int64) (e1 : Int64) (s2 : Int64) (e2 : Int64) (h0 : Heap) (n0 : Nat) (v : Option Value) (h : Heap) (L : List Loc) : Prop := v = some (.int (own_over s1 e1 s2 e2)) ∧ Fr n0 L ∧ h = h0
set_option maxRecDepth 65536 in
set_option maxHeartbeats 40000000 in
theorem rm4 (l : Launch) (Z : State) (a0 : Array Value) (hw : ∀ d ∈ tables_1, d.before a0 Z = true) (ws : List Jvm.Cond) (a1 : Addr) (a2 : Addr) (s1 : Int64) (e1 : Int64) (s2 : Int64) (e2 : Int64) (h0 : Heap) (n0 : Nat) (Z0 : n0 ≤ h0.size) (F_s1 : Fld Z h0 a1 "com/example/invites_to_friends/invitestofriends/bench/Call" "started" "J" (.long s1)) (F_e1 : Fld Z h0 a1 "com/example/invites_to_friends/invitestofriends/bench/Call" "ended" "J" (.long e1)) (F_s2 : Fld Z h0 a2 "com/example/invites_to_friends/invitestofriends/bench/Call" "started" "J" (.long s2)) (F_e2 : Fld Z h0 a2 "com/example/invites_to_friends/invitestofriends/bench/Call" "ended" "J" (.long e2)) :
    MetFree l (⟨"com/example/invites_to_friends/invitestofriends/bench/Call", "overlaps", "(Lcom/example/invites_to_friends/invitestofriends/bench/Call;)Z"⟩ : MethodName) (head1 (Jvm.Cond.code (⟨"com/example/invites_to_friends/invitestofriends/bench/Call", "overlaps", "(Lcom/example/invites_to_friends/invitestofriends/bench/Call;)Z"⟩ : MethodName) prog_5_method_5_code 2 (some .boolean) :: ws) ({ frames := 0, cells := 0, slots := 0, locals := 0 } : Room)) (fun a U => a = #[(.ref a1), (.ref a2)] ∧ Z.Warmed39 U.vm ∧ U.heap = h0) (fun _ _ _ _ _ => True) (fun _ U o U' => ∃ v L, o = .returned v ∧ Q4 Z a1 a2 s1 e1 s2 e2 h0 n0 v U'.heap L ∧ FrameEnd U o U' L ({ frames := 0, cells := 0, slots := 0, locals := 0 } : Room).cells ({ frames := 0, cells := 0, slots := 0, locals := 0 } : Room).slots) := by
  refine MetFree.of_bodySF (plainFor_of_name pn_1) hisR ?_
  intro p e s m args below meth c s₁ Bd hml0 hP hK
  obtain ⟨rfl, hZ, hh⟩ := hP
  have hx := Bd.exec
  have hby := Bd.bytes
  have hml : c.maxLocals = 2 := hml0
  have hown : s.vm.findClass "com/example/invites_to_friends/invitestofriends/bench/Call" = some m.cls := findClass_of_methodNamed Bd.named
  have hnm := (name_of_methodNamed Bd.named Bd.method).1
  have hlk : meth.locks = false := BodyLoose.notSynchronized Bd
  have X0 : Stand p l e ({ frames := 0, cells := 0, slots := 0, locals := 0 } : Room) s m #[(.ref a1), (.ref a2)] below meth c s₁ [] 0 0 := Stand.of_body Bd
  have e0 : s₁.heap = h0 := by rw [← hh, Bd.state]; rfl
  have N0 := Fr.nil n0
  have K0 : Keep h0 h0 [] := Keep.refl h0 _
  have key : ∀ (F0 : State) (G : Prop), (own_G p e below s F0 (Q4 Z a1 a2 s1 e1 s2 e2 h0 n0) ({ frames := 0, cells := 0, slots := 0, locals := 0 } : Room).cells ({ frames := 0, cells := 0, slots := 0, locals := 0 } : Room).slots → G) → own_R p.tables e below F0 (s₁.setTop (mkF m 0 #[.val (.ref a1), .val (.ref a2)] [])) → G := by
    intro F0 G hG r0
    have r45 : own_R p.tables e below F0 (s₁.setTop (mkF m 1 #[.val (.ref a1), .val (.ref a2)] [(.ref a1)])) := fun t k => by
      refine r0 t ?_
      show Steps p.tables e below (s₁.setTop (mkF m 0 #[.val (.ref a1), .val (.ref a2)] [])) _
      refine XS.aloadN X0.here hx rfl (hb hby d4_0) rfl rfl ?_
      exact k
    obtain ⟨T46, X46, e46, st46⟩ := getF X0 hx hZ hown (host := "") (Or.inl (hw _ (List.mem_of_getElem? (i := 15) rfl))) Via.refl e0 F_s1 (g := (mkF m 1 #[.val (.ref a1), .val (.ref a2)] [(.ref a1)])) rfl rfl (hb hby d4_1)
    have r46 : own_R p.tables e below F0 (T46.setTop (mkF m 4 #[.val (.ref a1), .val (.ref a2)] [(.long s1)])) := fun t k => r45 t (st46 t k)
    have r47 : own_R p.tables e below F0 (T46.setTop (mkF m 5 #[.val (.ref a1), .val (.ref a2)] [(.ref a2), (.long s1)])) := fun t k => by
      refine r46 t ?_
      show Steps p.tables e below (T46.setTop (mkF m 4 #[.val (.ref a1), .val (.ref a2)] [(.long s1)])) _
      refine XS.aloadN X46.here hx rfl (hb hby d4_4) rfl rfl ?_
      exact k
    obtain ⟨T48, X48, e48, st48⟩ := getF X46 hx hZ hown (host := "") (Or.inl (hw _ (List.mem_of_getElem? (i := 17) rfl))) Via.refl e46 F_e2 (g := (mkF m 5 #[.val (.ref a1), .val (.ref a2)] [(.ref a2), (.long s1)])) rfl rfl (hb hby d4_5)
    have r48 : own_R p.tables e below F0 (T48.setTop (mkF m 8 #[.val (.ref a1), .val (.ref a2)] [(.long e2), (.long s1)])) := fun t k => r47 t (st48 t k)
    have r49 : own_R p.tables e below F0 (T48.setTop (mkF m 9 #[.val (.ref a1), .val (.ref a2)] [(.int (lcmpW s1 e2))])) := fun t k => by
      refine r48 t ?_
      show Steps p.tables e below (T48.setTop (mkF m 8 #[.val (.ref a1), .val (.ref a2)] [(.long e2), (.long s1)])) _
      refine XS.lcmp X48.here hx rfl (hb hby d4_8) rfl ?_
      exact k
    by_cases hc50 : s1 < e2
    · have r51 : own_R p.tables e below F0 (T48.setTop (mkF m 13 #[.val (.ref a1), .val (.ref a2)] [(.ref a2)])) := fun t k => by
        refine r49 t ?_
        show Steps p.tables e below (T48.setTop (mkF m 9 #[.val (.ref a1), .val (.ref a2)] [(.int (lcmpW s1 e2))])) _
        refine XS.ifNo X48.here hx rfl (hb hby d4_9) rfl (own_l_lt hc50).2 ?_
        show Steps p.tables e below (T48.setTop (mkF m 12 #[.val (.ref a1), .val (.ref a2)] [])) _
        refine XS.aloadN X48.here hx rfl (hb hby d4_12) rfl rfl ?_
        exact k
      obtain ⟨T52, X52, e52, st52⟩ := getF X48 hx hZ hown (host := "") (Or.inl (hw _ (List.mem_of_getElem? (i := 15) rfl))) Via.refl e48 F_s2 (g := (mkF m 13 #[.val (.ref a1), .val (.ref a2)] [(.ref a2)])) rfl rfl (hb hby d4_13)
      have r52 : own_R p.tables e below F0 (T52.setTop (mkF m 16 #[.val (.ref a1), .val (.ref a2)] [(.long s2)])) := fun t k => r51 t (st52 t k)
      have r53 : own_R p.tables e below F0 (T52.setTop (mkF m 17 #[.val (.ref a1), .val (.ref a2)] [(.ref a1), (.long s2)])) := fun t k => by
        refine r52 t ?_
        show Steps p.tables e below (T52.setTop (mkF m 16 #[.val (.ref a1), .val (.ref a2)] [(.long s2)])) _
        refine XS.aloadN X52.here hx rfl (hb hby d4_16) rfl rfl ?_
        exact k
      obtain ⟨T54, X54, e54, st54⟩ := getF X52 hx hZ hown (host := "") (Or.inl (hw _ (List.mem_of_getElem? (i := 17) rfl))) Via.refl e52 F_e1 (g := (mkF m 17 #[.val (.ref a1), .val (.ref a2)] [(.ref a1), (.long s2)])) rfl rfl (hb hby d4_17)
      have r54 : own_R p.tables e below F0 (T54.setTop (mkF m 20 #[.val (.ref a1), .val (.ref a2)] [(.long e1), (.long s2)])) := fun t k => r53 t (st54 t k)
      have r55 : own_R p.tables e below F0 (T54.setTop (mkF m 21 #[.val (.ref a1), .val (.ref a2)] [(.int (lcmpW s2 e1))])) := fun t k => by
        refine r54 t ?_
        show Steps p.tables e below (T54.setTop (mkF m 20 #[.val (.ref a1), .val (.ref a2)] [(.long e1), (.long s2)])) _
        refine XS.lcmp X54.here hx rfl (hb hby d4_20) rfl ?_
        exact k
      by_cases hc56 : s2 < e1
      · have r57 : own_R p.tables e below F0 (T54.setTop (mkF m 29 #[.val (.ref a1), .val (.ref a2)] [(.int (1 : Int32))])) := fun t k => by
          refine r55 t ?_
          show Steps p.tables e below (T54.setTop (mkF m 21 #[.val (.ref a1), .val (.ref a2)] [(.int (lcmpW s2 e1))])) _
          refine XS.ifNo X54.here hx rfl (hb hby d4_21) rfl (own_l_lt hc56).2 ?_
          show Steps p.tables e below (T54.setTop (mkF m 24 #[.val (.ref a1), .val (.ref a2)] [])) _
          refine XS.iconst X54.here hx rfl (hb hby d4_24) ?_
          show Steps p.tables e below (T54.setTop (mkF m 25 #[.val (.ref a1), .val (.ref a2)] [(.int (1 : Int32))])) _
          refine XS.goto X54.here hx rfl (pc0 := 25) (pc' := 29) rfl (hb hby d4_25) (by decide) (by decide) ?_
          exact k
        refine hG (own_fin X54 hlk (some (.int (nar .boolean (1 : Int32)))) (own_hv Bd.returns) ?_ (by decide) (by decide) (fun fs hr => r57 _ (retN X54 hx (t := .boolean) Bd.returns (by simp) (hb hby d4_29) hr)))
        rw [e54]
        refine ⟨?_, N0, rfl⟩
        have ev : (own_over s1 e1 s2 e2) = (1 : Int32) := by unfold own_over; rw [if_pos hc50, if_pos hc56]
        rw [ev]
        rfl
      · have r58 : own_R p.tables e below F0 (T54.setTop (mkF m 29 #[.val (.ref a1), .val (.ref a2)] [(.int (0 : Int32))])) := fun t k => by
          refine r55 t ?_
          show Steps p.tables e below (T54.setTop (mkF m 21 #[.val (.ref a1), .val (.ref a2)] [(.int (lcmpW s2 e1))])) _
          refine XS.ifYes X54.here hx rfl (pc0 := 21) (pc' := 28) rfl (hb hby d4_21) rfl (own_l_nlt hc56).2 (by decide) (by decide) ?_
          show Steps p.tables e below (T54.setTop (mkF m 28 #[.val (.ref a1), .val (.ref a2)] [])) _
          refine XS.iconst X54.here hx rfl (hb hby d4_28) ?_
          exact k
        refine hG (own_fin X54 hlk (some (.int (nar .boolean (0 : Int32)))) (own_hv Bd.returns) ?_ (by decide) (by decide) (fun fs hr => r58 _ (retN X54 hx (t := .boolean) Bd.returns (by simp) (hb hby d4_29) hr)))
        rw [e54]
        refine ⟨?_, N0, rfl⟩
        have ev : (own_over s1 e1 s2 e2) = (0 : Int32) := by unfold own_over; rw [if_pos hc50, if_neg hc56]
        rw [ev]
        rfl
    · have r59 : own_R p.tables e below F0 (T48.setTop (mkF m 29 #[.val (.ref a1), .val (.ref a2)] [(.int (0 : Int32))])) := fun t k => by
        refine r49 t ?_
        show Steps p.tables e below (T48.setTop (mkF m 9 #[.val (.ref a1), .val (.ref a2)] [(.int (lcmpW s1 e2))])) _
        refine XS.ifYes X48.here hx rfl (pc0 := 9) (pc' := 28) rfl (hb hby d4_9) rfl (own_l_nlt hc50).2 (by decide) (by decide) ?_
        show Steps p.tables e below (T48.setTop (mkF m 28 #[.val (.ref a1), .val (.ref a2)] [])) _
        refine XS.iconst X48.here hx rfl (hb hby d4_28) ?_
        exact k
      refine hG (own_fin X48 hlk (some (.int (nar .boolean (0 : Int32)))) (own_hv Bd.returns) ?_ (by decide) (by decide) (fun fs hr => r59 _ (retN X48 hx (t := .boolean) Bd.returns (by simp) (hb hby d4_29) hr)))
      rw [e48]
      refine ⟨?_, N0, rfl⟩
      have ev : (own_over s1 e1 s2 e2) = (0 : Int32) := by unfold own_over; rw [if_neg hc50]
      rw [ev]
      rfl
  exact key _ _ id (fun t k => castTop (ef_4 m a1 a2) k)
def own_max (p0 : Int64) (p1 : Int64) : Int64 := (if p0 < p1 then p1 else p0)
theorem d5_0 : decode jdk_29_method_66_code 0 = .ok (.lload_n 0, 1) := by decide +kernel
theorem d5_1 : decode jdk_29_method_66_code 1 = .ok (.lload_n 2, 1) := by decide +kernel
theorem d5_2 : decode jdk_29_method_66_code 2 = .ok (.lcmp, 1) := by decide +kernel
theorem d5_3 : decode jdk_29_method_66_code 3 = .ok (.ifCond .lt 7, 3) := by decide +kernel
theorem d5_6 : decode jdk_29_method_66_code 6 = .ok (.lload_n 0, 1) := by decide +kernel
theorem d5_7 : decode jdk_29_method_66_code 7 = .ok (.goto 4, 3) := by decide +kernel
theorem d5_10 : decode jdk_29_method_66_code 10 = .ok (.lload_n 2, 1) := by decide +kernel
theorem d5_11 : decode jdk_29_method_66_code 11 = .ok (.lreturn, 1) := by decide +kernel
theorem ef_5 (m : MethodId) (x0 : Int64) (x1 : Int64) : entryFrame m #[(.long x0), (.long x1)] 4 = mkF m 0 #[.val (.long x0), .second, .val (.long x1), .second] [] := by first | (simp [entryFrame, mkF, argsToLocals, Value.category]; done) | rfl
def Q5 (Z : State) (p0 : Int64) (p1 : Int64) (h0 : Heap) (n0 : Nat) (v : Option Value) (h : Heap) (L : List Loc) : Prop := v = some (.long (own_max p0 p1)) ∧ Fr n0 L ∧ h = h0
set_option maxRecDepth 65536 in
set_option maxHeartbeats 40000000 in
theorem rm5 (l : Launch) (Z : State) (a0 : Array Value) (hw : ∀ d ∈ tables_1, d.before a0 Z = true) (ws : List Jvm.Cond) (p0 : Int64) (p1 : Int64) (h0 : Heap) (n0 : Nat) (Z0 : n0 ≤ h0.size) :
    MetFree l (⟨"java/lang/Math", "max", "(JJ)J"⟩ : MethodName) (head1 (Jvm.Cond.code (⟨"java/lang/Math", "max", "(JJ)J"⟩ : MethodName) jdk_29_method_66_code 4 (some .long) :: ws) ({ frames := 0, cells := 0, slots := 0, locals := 0 } : Room)) (fun a U => a = #[(.long p0), (.long p1)] ∧ Z.Warmed39 U.vm ∧ U.heap = h0) (fun _ _ _ _ _ => True) (fun _ U o U' => ∃ v L, o = .returned v ∧ Q5 Z p0 p1 h0 n0 v U'.heap L ∧ FrameEnd U o U' L ({ frames := 0, cells := 0, slots := 0, locals := 0 } : Room).cells ({ frames := 0, cells := 0, slots := 0, locals := 0 } : Room).slots) := by
  refine MetFree.of_bodySF (Jvm.Free.JP.mathPlain rfl (by decide +kernel)) hisR ?_
  intro p e s m args below meth c s₁ Bd hml0 hP hK
  obtain ⟨rfl, hZ, hh⟩ := hP
  have hx := Bd.exec
  have hby := Bd.bytes
  have hml : c.maxLocals = 4 := hml0
  have hown : s.vm.findClass "java/lang/Math" = some m.cls := findClass_of_methodNamed Bd.named
  have hnm := (name_of_methodNamed Bd.named Bd.method).1
  have hlk : meth.locks = false := BodyLoose.notSynchronized Bd
  have X0 : Stand p l e ({ frames := 0, cells := 0, slots := 0, locals := 0 } : Room) s m #[(.long p0), (.long p1)] below meth c s₁ [] 0 0 := Stand.of_body Bd
  have e0 : s₁.heap = h0 := by rw [← hh, Bd.state]; rfl
  have N0 := Fr.nil n0
  have K0 : Keep h0 h0 [] := Keep.refl h0 _
  have key : ∀ (F0 : State) (G : Prop), (own_G p e below s F0 (Q5 Z p0 p1 h0 n0) ({ frames := 0, cells := 0, slots := 0, locals := 0 } : Room).cells ({ frames := 0, cells := 0, slots := 0, locals := 0 } : Room).slots → G) → own_R p.tables e below F0 (s₁.setTop (mkF m 0 #[.val (.long p0), .second, .val (.long p1), .second] [])) → G := by
    intro F0 G hG r0
    have r60 : own_R p.tables e below F0 (s₁.setTop (mkF m 3 #[.val (.long p0), .second, .val (.long p1), .second] [(.int (lcmpW p0 p1))])) := fun t k => by
      refine r0 t ?_
      show Steps p.tables e below (s₁.setTop (mkF m 0 #[.val (.long p0), .second, .val (.long p1), .second] [])) _
      refine XS.lloadN X0.here hx rfl (hb hby d5_0) rfl ?_
      show Steps p.tables e below (s₁.setTop (mkF m 1 #[.val (.long p0), .second, .val (.long p1), .second] [(.long p0)])) _
      refine XS.lloadN X0.here hx rfl (hb hby d5_1) rfl ?_
      show Steps p.tables e below (s₁.setTop (mkF m 2 #[.val (.long p0), .second, .val (.long p1), .second] [(.long p1), (.long p0)])) _
      refine XS.lcmp X0.here hx rfl (hb hby d5_2) rfl ?_
      exact k
    by_cases hc61 : p0 < p1
    · have r62 : own_R p.tables e below F0 (s₁.setTop (mkF m 11 #[.val (.long p0), .second, .val (.long p1), .second] [(.long p1)])) := fun t k => by
        refine r60 t ?_
        show Steps p.tables e below (s₁.setTop (mkF m 3 #[.val (.long p0), .second, .val (.long p1), .second] [(.int (lcmpW p0 p1))])) _
        refine XS.ifYes X0.here hx rfl (pc0 := 3) (pc' := 10) rfl (hb hby d5_3) rfl (own_l_lt hc61).1 (by decide) (by decide) ?_
        show Steps p.tables e below (s₁.setTop (mkF m 10 #[.val (.long p0), .second, .val (.long p1), .second] [])) _
        refine XS.lloadN X0.here hx rfl (hb hby d5_10) rfl ?_
        exact k
      refine hG (own_fin X0 hlk (some (.long p1)) (own_hv Bd.returns) ?_ (by decide) (by decide) (fun fs hr => r62 _ (retOut X0 hx Bd.returns rfl (Or.inr (Or.inl ⟨rfl, rfl, _, rfl⟩)) (hb hby d5_11) hr)))
      rw [e0]
      refine ⟨?_, N0, rfl⟩
      have ev : (own_max p0 p1) = p1 := by unfold own_max; rw [if_pos hc61]
      rw [ev]
    · have r63 : own_R p.tables e below F0 (s₁.setTop (mkF m 11 #[.val (.long p0), .second, .val (.long p1), .second] [(.long p0)])) := fun t k => by
        refine r60 t ?_
        show Steps p.tables e below (s₁.setTop (mkF m 3 #[.val (.long p0), .second, .val (.long p1), .second] [(.int (lcmpW p0 p1))])) _
        refine XS.ifNo X0.here hx rfl (hb hby d5_3) rfl (own_l_nlt hc61).1 ?_
        show Steps p.tables e below (s₁.setTop (mkF m 6 #[.val (.long p0), .second, .val (.long p1), .second] [])) _
        refine XS.lloadN X0.here hx rfl (hb hby d5_6) rfl ?_
        show Steps p.tables e below (s₁.setTop (mkF m 7 #[.val (.long p0), .second, .val (.long p1), .second] [(.long p0)])) _
        refine XS.goto X0.here hx rfl (pc0 := 7) (pc' := 11) rfl (hb hby d5_7) (by decide) (by decide) ?_
        exact k
      refine hG (own_fin X0 hlk (some (.long p0)) (own_hv Bd.returns) ?_ (by decide) (by decide) (fun fs hr => r63 _ (retOut X0 hx Bd.returns rfl (Or.inr (Or.inl ⟨rfl, rfl, _, rfl⟩)) (hb hby d5_11) hr)))
      rw [e0]
      refine ⟨?_, N0, rfl⟩
      have ev : (own_max p0 p1) = p0 := by unfold own_max; rw [if_neg hc61]
      rw [ev]
  exact key _ _ id (fun t k => castTop (ef_5 m p0 p1) k)
def own_min (p0 : Int64) (p1 : Int64) : Int64 := (if p1 < p0 then p1 else p0)
theorem d6_0 : decode jdk_29_method_70_code 0 = .ok (.lload_n 0, 1) := by decide +kernel
theorem d6_1 : decode jdk_29_method_70_code 1 = .ok (.lload_n 2, 1) := by decide +kernel
theorem d6_2 : decode jdk_29_method_70_code 2 = .ok (.lcmp, 1) := by decide +kernel
theorem d6_3 : decode jdk_29_method_70_code 3 = .ok (.ifCond .gt 7, 3) := by decide +kernel
theorem d6_6 : decode jdk_29_method_70_code 6 = .ok (.lload_n 0, 1) := by decide +kernel
theorem d6_7 : decode jdk_29_method_70_code 7 = .ok (.goto 4, 3) := by decide +kernel
theorem d6_10 : decode jdk_29_method_70_code 10 = .ok (.lload_n 2, 1) := by decide +kernel
theorem d6_11 : decode jdk_29_method_70_code 11 = .ok (.lreturn, 1) := by decide +kernel
theorem ef_6 (m : MethodId) (x0 : Int64) (x1 : Int64) : entryFrame m #[(.long x0), (.long x1)] 4 = mkF m 0 #[.val (.long x0), .second, .val (.long x1), .second] [] := by first | (simp [entryFrame, mkF, argsToLocals, Value.category]; done) | rfl
def Q6 (Z : State) (p0 : Int64) (p1 : Int64) (h0 : Heap) (n0 : Nat) (v : Option Value) (h : Heap) (L : List Loc) : Prop := v = some (.long (own_min p0 p1)) ∧ Fr n0 L ∧ h = h0
set_option maxRecDepth 65536 in
set_option maxHeartbeats 40000000 in
theorem rm6 (l : Launch) (Z : State) (a0 : Array Value) (hw : ∀ d ∈ tables_1, d.before a0 Z = true) (ws : List Jvm.Cond) (p0 : Int64) (p1 : Int64) (h0 : Heap) (n0 : Nat) (Z0 : n0 ≤ h0.size) :
    MetFree l (⟨"java/lang/Math", "min", "(JJ)J"⟩ : MethodName) (head1 (Jvm.Cond.code (⟨"java/lang/Math", "min", "(JJ)J"⟩ : MethodName) jdk_29_method_70_code 4 (some .long) :: ws) ({ frames := 0, cells := 0, slots := 0, locals := 0 } : Room)) (fun a U => a = #[(.long p0), (.long p1)] ∧ Z.Warmed39 U.vm ∧ U.heap = h0) (fun _ _ _ _ _ => True) (fun _ U o U' => ∃ v L, o = .returned v ∧ Q6 Z p0 p1 h0 n0 v U'.heap L ∧ FrameEnd U o U' L ({ frames := 0, cells := 0, slots := 0, locals := 0 } : Room).cells ({ frames := 0, cells := 0, slots := 0, locals := 0 } : Room).slots) := by
  refine MetFree.of_bodySF (Jvm.Free.JP.mathPlain rfl (by decide +kernel)) hisR ?_
  intro p e s m args below meth c s₁ Bd hml0 hP hK
  obtain ⟨rfl, hZ, hh⟩ := hP
  have hx := Bd.exec
  have hby := Bd.bytes
  have hml : c.maxLocals = 4 := hml0
  have hown : s.vm.findClass "java/lang/Math" = some m.cls := findClass_of_methodNamed Bd.named
  have hnm := (name_of_methodNamed Bd.named Bd.method).1
  have hlk : meth.locks = false := BodyLoose.notSynchronized Bd
  have X0 : Stand p l e ({ frames := 0, cells := 0, slots := 0, locals := 0 } : Room) s m #[(.long p0), (.long p1)] below meth c s₁ [] 0 0 := Stand.of_body Bd
  have e0 : s₁.heap = h0 := by rw [← hh, Bd.state]; rfl
  have N0 := Fr.nil n0
  have K0 : Keep h0 h0 [] := Keep.refl h0 _
  have key : ∀ (F0 : State) (G : Prop), (own_G p e below s F0 (Q6 Z p0 p1 h0 n0) ({ frames := 0, cells := 0, slots := 0, locals := 0 } : Room).cells ({ frames := 0, cells := 0, slots := 0, locals := 0 } : Room).slots → G) → own_R p.tables e below F0 (s₁.setTop (mkF m 0 #[.val (.long p0), .second, .val (.long p1), .second] [])) → G := by
    intro F0 G hG r0
    have r64 : own_R p.tables e below F0 (s₁.setTop (mkF m 3 #[.val (.long p0), .second, .val (.long p1), .second] [(.int (lcmpW p0 p1))])) := fun t k => by
      refine r0 t ?_
      show Steps p.tables e below (s₁.setTop (mkF m 0 #[.val (.long p0), .second, .val (.long p1), .second] [])) _
      refine XS.lloadN X0.here hx rfl (hb hby d6_0) rfl ?_
      show Steps p.tables e below (s₁.setTop (mkF m 1 #[.val (.long p0), .second, .val (.long p1), .second] [(.long p0)])) _
      refine XS.lloadN X0.here hx rfl (hb hby d6_1) rfl ?_
      show Steps p.tables e below (s₁.setTop (mkF m 2 #[.val (.long p0), .second, .val (.long p1), .second] [(.long p1), (.long p0)])) _
      refine XS.lcmp X0.here hx rfl (hb hby d6_2) rfl ?_
      exact k
    by_cases hc65 : p1 < p0
    · have r66 : own_R p.tables e below F0 (s₁.setTop (mkF m 11 #[.val (.long p0), .second, .val (.long p1), .second] [(.long p1)])) := fun t k => by
        refine r64 t ?_
        show Steps p.tables e below (s₁.setTop (mkF m 3 #[.val (.long p0), .second, .val (.long p1), .second] [(.int (lcmpW p0 p1))])) _
        refine XS.ifYes X0.here hx rfl (pc0 := 3) (pc' := 10) rfl (hb hby d6_3) rfl (own_l_gt hc65).1 (by decide) (by decide) ?_
        show Steps p.tables e below (s₁.setTop (mkF m 10 #[.val (.long p0), .second, .val (.long p1), .second] [])) _
        refine XS.lloadN X0.here hx rfl (hb hby d6_10) rfl ?_
        exact k
      refine hG (own_fin X0 hlk (some (.long p1)) (own_hv Bd.returns) ?_ (by decide) (by decide) (fun fs hr => r66 _ (retOut X0 hx Bd.returns rfl (Or.inr (Or.inl ⟨rfl, rfl, _, rfl⟩)) (hb hby d6_11) hr)))
      rw [e0]
      refine ⟨?_, N0, rfl⟩
      have ev : (own_min p0 p1) = p1 := by unfold own_min; rw [if_pos hc65]
      rw [ev]
    · have r67 : own_R p.tables e below F0 (s₁.setTop (mkF m 11 #[.val (.long p0), .second, .val (.long p1), .second] [(.long p0)])) := fun t k => by
        refine r64 t ?_
        show Steps p.tables e below (s₁.setTop (mkF m 3 #[.val (.long p0), .second, .val (.long p1), .second] [(.int (lcmpW p0 p1))])) _
        refine XS.ifNo X0.here hx rfl (hb hby d6_3) rfl (own_l_ngt hc65).1 ?_
        show Steps p.tables e below (s₁.setTop (mkF m 6 #[.val (.long p0), .second, .val (.long p1), .second] [])) _
        refine XS.lloadN X0.here hx rfl (hb hby d6_6) rfl ?_
        show Steps p.tables e below (s₁.setTop (mkF m 7 #[.val (.long p0), .second, .val (.long p1), .second] [(.long p0)])) _
        refine XS.goto X0.here hx rfl (pc0 := 7) (pc' := 11) rfl (hb hby d6_7) (by decide) (by decide) ?_
        exact k
      refine hG (own_fin X0 hlk (some (.long p0)) (own_hv Bd.returns) ?_ (by decide) (by decide) (fun fs hr => r67 _ (retOut X0 hx Bd.returns rfl (Or.inr (Or.inl ⟨rfl, rfl, _, rfl⟩)) (hb hby d6_11) hr)))
      rw [e0]
      refine ⟨?_, N0, rfl⟩
      have ev : (own_min p0 p1) = p0 := by unfold own_min; rw [if_neg hc65]
      rw [ev]
  exact key _ _ id (fun t k => castTop (ef_6 m p0 p1) k)
theorem pn_2 : plainName "com/example/invites_to_friends/invitestofriends/bench/CallOverlapsPinLaw" = true := by first | (simp [plainName, overriddenIn]; done) | decide +kernel
theorem pd_1 : parseMethodDescriptor "(JJI[B)V" = some ⟨[.long, .long, .int, (.array .byte)], none⟩ := by decide +kernel
theorem pd_2 : parseMethodDescriptor "(Lcom/example/invites_to_friends/invitestofriends/bench/Call;)Z" = some ⟨[(.object "com/example/invites_to_friends/invitestofriends/bench/Call")], some .boolean⟩ := by decide +kernel
theorem pd_3 : parseMethodDescriptor "(JJ)J" = some ⟨[.long, .long], some .long⟩ := by decide +kernel
theorem ef_0 (m : MethodId) (x0 : Int64) (x1 : Int64) (x2 : Int64) (x3 : Int64) (x4 : Int32) : entryFrame m #[(.long x0), (.long x1), (.long x2), (.long x3), (.int x4)] maxLocals = mkF m 0 #[.val (.long x0), .second, .val (.long x1), .second, .val (.long x2), .second, .val (.long x3), .second, .val (.int x4), .unset, .unset, .unset, .unset, .unset, .unset] [] := by first | (simp [entryFrame, mkF, argsToLocals, Value.category, maxLocals]; done) | rfl
def Q0 (Z : State) (p0s : Int64) (p1s : Int64) (p2s : Int64) (p3s : Int64) (p4s : Int32) (h0 : Heap) (n0 : Nat) (v : Option Value) (h : Heap) (L : List Loc) : Prop := v = some (.int (1 : Int32)) ∧ Fr n0 L
set_option maxRecDepth 65536 in
set_option maxHeartbeats 40000000 in
theorem rm0 (l : Launch) (Z : State) (a0 : Array Value) (hw : ∀ d ∈ tables_1, d.before a0 Z = true) (ws : List Jvm.Cond) (p0s : Int64) (p1s : Int64) (p2s : Int64) (p3s : Int64) (p4s : Int32) (h0 : Heap) (n0 : Nat) (Z0 : n0 ≤ h0.size) :
    MetFree l x (head1 (Jvm.Cond.code x code maxLocals ret :: ws) room_1) (fun a U => a = #[(.long p0s), (.long p1s), (.long p2s), (.long p3s), (.int p4s)] ∧ Z.Warmed39 U.vm ∧ U.heap = h0) (fun _ _ _ _ _ => True) (fun _ U o U' => ∃ v L, o = .returned v ∧ Q0 Z p0s p1s p2s p3s p4s h0 n0 v U'.heap L ∧ FrameEnd U o U' L 16 128) := by
  refine MetFree.of_bodySF (plainFor_of_name pn_2) hisR ?_
  intro p e s m args below meth c s₁ Bd hml0 hP hK
  obtain ⟨rfl, hZ, hh⟩ := hP
  have hx := Bd.exec
  have hby := Bd.bytes
  have hml : c.maxLocals = 15 := hml0
  have hown : s.vm.findClass "com/example/invites_to_friends/invitestofriends/bench/CallOverlapsPinLaw" = some m.cls := findClass_of_methodNamed Bd.named
  have hnm := (name_of_methodNamed Bd.named Bd.method).1
  have hlk : meth.locks = false := BodyLoose.notSynchronized Bd
  have X0 : Stand p l e room_1 s m #[(.long p0s), (.long p1s), (.long p2s), (.long p3s), (.int p4s)] below meth c s₁ [] 0 0 := Stand.of_body Bd
  have e0 : s₁.heap = h0 := by rw [← hh, Bd.state]; rfl
  have N0 := Fr.nil n0
  have K0 : Keep h0 h0 [] := Keep.refl h0 _
  have key : ∀ (F0 : State) (G : Prop), (own_G p e below s F0 (Q0 Z p0s p1s p2s p3s p4s h0 n0) 16 128 → G) → own_R p.tables e below F0 (s₁.setTop (mkF m 0 #[.val (.long p0s), .second, .val (.long p1s), .second, .val (.long p2s), .second, .val (.long p3s), .second, .val (.int p4s), .unset, .unset, .unset, .unset, .unset, .unset] [])) → G := by
    intro F0 G hG r0
    obtain ⟨T68, h68, X68, e68, E68, A68, D68, -, st68⟩ := newO X0 hx hZ hown (hw _ (List.mem_of_getElem? (i := 0) rfl)) (hw _ (List.mem_of_getElem? (i := 1) rfl)) (hw _ (List.mem_of_getElem? (i := 2) rfl)) e0 (g := (mkF m 0 #[.val (.long p0s), .second, .val (.long p1s), .second, .val (.long p2s), .second, .val (.long p3s), .second, .val (.int p4s), .unset, .unset, .unset, .unset, .unset, .unset] [])) rfl (hb hby at_0) (by decide) (by decide)
    obtain ⟨b68, g68⟩ : ∃ z, z = h0.size := ⟨_, rfl⟩
    rw [← g68] at A68 D68 st68
    have ge68 : n0 ≤ b68 := Nat.le_trans Z0 (Nat.le_of_eq g68.symm)
    have old68 : h0.size ≤ b68 := Nat.le_trans K0.1 (Nat.le_of_eq g68.symm)
    have K68 : Keep h0 h68 [] := K0.ext E68
    have Zs69 : n0 ≤ h68.size := Nat.le_trans Z0 E68.1
    have F70 : Fld Z h68 b68 "com/example/invites_to_friends/invitestofriends/bench/Call" "started" "J" (.long (0 : Int64)) := D68 (Or.inr (hw _ (List.mem_of_getElem? (i := 16) rfl))) (ty := .long) (by decide)
    have F71 : Fld Z h68 b68 "com/example/invites_to_friends/invitestofriends/bench/Call" "ended" "J" (.long (0 : Int64)) := D68 (Or.inr (hw _ (List.mem_of_getElem? (i := 18) rfl))) (ty := .long) (by decide)
    have F72 : Fld Z h68 b68 "com/example/invites_to_friends/invitestofriends/bench/Call" "status" "I" (.int (0 : Int32)) := D68 (Or.inr (hw _ (List.mem_of_getElem? (i := 20) rfl))) (ty := .int) (by decide)
    have F73 : Fld Z h68 b68 "com/example/invites_to_friends/invitestofriends/bench/Call" "body" "[B" .null := D68 (Or.inr (hw _ (List.mem_of_getElem? (i := 22) rfl))) (ty := (.array .byte)) (by decide)
    have r68 : own_R p.tables e below F0 (T68.setTop (mkF m 3 #[.val (.long p0s), .second, .val (.long p1s), .second, .val (.long p2s), .second, .val (.long p3s), .second, .val (.int p4s), .unset, .unset, .unset, .unset, .unset, .unset] [(.ref b68)])) := fun t k => r0 t (st68 t k)
    have r74 : own_R p.tables e below F0 (T68.setTop (mkF m 9 #[.val (.long p0s), .second, .val (.long p1s), .second, .val (.long p2s), .second, .val (.long p3s), .second, .val (.int p4s), .unset, .unset, .unset, .unset, .unset, .unset] [(.int (0 : Int32)), (.int p4s), (.long p1s), (.long p0s), (.ref b68), (.ref b68)])) := fun t k => by
      refine r68 t ?_
      show Steps p.tables e below (T68.setTop (mkF m 3 #[.val (.long p0s), .second, .val (.long p1s), .second, .val (.long p2s), .second, .val (.long p3s), .second, .val (.int p4s), .unset, .unset, .unset, .unset, .unset, .unset] [(.ref b68)])) _
      refine XS.dup X68.here hx rfl (hb hby at_3) rfl rfl ?_
      show Steps p.tables e below (T68.setTop (mkF m 4 #[.val (.long p0s), .second, .val (.long p1s), .second, .val (.long p2s), .second, .val (.long p3s), .second, .val (.int p4s), .unset, .unset, .unset, .unset, .unset, .unset] [(.ref b68), (.ref b68)])) _
      refine XS.lloadN X68.here hx rfl (hb hby at_4) rfl ?_
      show Steps p.tables e below (T68.setTop (mkF m 5 #[.val (.long p0s), .second, .val (.long p1s), .second, .val (.long p2s), .second, .val (.long p3s), .second, .val (.int p4s), .unset, .unset, .unset, .unset, .unset, .unset] [(.long p0s), (.ref b68), (.ref b68)])) _
      refine XS.lloadN X68.here hx rfl (hb hby at_5) rfl ?_
      show Steps p.tables e below (T68.setTop (mkF m 6 #[.val (.long p0s), .second, .val (.long p1s), .second, .val (.long p2s), .second, .val (.long p3s), .second, .val (.int p4s), .unset, .unset, .unset, .unset, .unset, .unset] [(.long p1s), (.long p0s), (.ref b68), (.ref b68)])) _
      refine XS.iload X68.here hx rfl (hb hby at_6) rfl ?_
      show Steps p.tables e below (T68.setTop (mkF m 8 #[.val (.long p0s), .second, .val (.long p1s), .second, .val (.long p2s), .second, .val (.long p3s), .second, .val (.int p4s), .unset, .unset, .unset, .unset, .unset, .unset] [(.int p4s), (.long p1s), (.long p0s), (.ref b68), (.ref b68)])) _
      refine XS.iconst X68.here hx rfl (hb hby at_8) ?_
      exact k
    obtain ⟨T75, h75, k75, X75, e75, E75, A75, st75⟩ := newP X68 hx hZ (hw _ (List.mem_of_getElem? (i := 3) rfl)) e68 (g := (mkF m 9 #[.val (.long p0s), .second, .val (.long p1s), .second, .val (.long p2s), .second, .val (.long p3s), .second, .val (.int p4s), .unset, .unset, .unset, .unset, .unset, .unset] [(.int (0 : Int32)), (.int p4s), (.long p1s), (.long p0s), (.ref b68), (.ref b68)])) rfl (hb hby at_9) rfl (by decide) (cap := 0) (by decide) (by decide) (by decide) (by decide)
    obtain ⟨b75, g75⟩ : ∃ z, z = h68.size := ⟨_, rfl⟩
    rw [← g75] at A75 st75
    have ne76 : b68 ≠ b75 := Nat.ne_of_lt (Nat.lt_of_lt_of_le A68.lt (Nat.le_of_eq g75.symm))
    have ge75 : n0 ≤ b75 := Nat.le_trans Zs69 (Nat.le_of_eq g75.symm)
    have old75 : h0.size ≤ b75 := Nat.le_trans K68.1 (Nat.le_of_eq g75.symm)
    have K75 : Keep h0 h75 [] := K68.ext E75
    have F77 : Exa Z h75 b68 "com/example/invites_to_friends/invitestofriends/bench/Call" := A68.ext E75
    have F78 : Fld Z h75 b68 "com/example/invites_to_friends/invitestofriends/bench/Call" "started" "J" (.long (0 : Int64)) := F70.ext E75
    have F79 : Fld Z h75 b68 "com/example/invites_to_friends/invitestofriends/bench/Call" "ended" "J" (.long (0 : Int64)) := F71.ext E75
    have F80 : Fld Z h75 b68 "com/example/invites_to_friends/invitestofriends/bench/Call" "status" "I" (.int (0 : Int32)) := F72.ext E75
    have F81 : Fld Z h75 b68 "com/example/invites_to_friends/invitestofriends/bench/Call" "body" "[B" .null := F73.ext E75
    have Zs82 : n0 ≤ h75.size := Nat.le_trans Zs69 E75.1
    have F83 : own_Arf Z h75 b75 .byte 0 (fun i => (.int ((fun _ => (0 : Int32)) i))) := by
      have q := own_Arf.new A75 (by decide)
      rw [show ((0 : Int32)).toNatClampNeg = 0 from rfl] at q
      exact q
    have r75 : own_R p.tables e below F0 (T75.setTop (mkF m 11 #[.val (.long p0s), .second, .val (.long p1s), .second, .val (.long p2s), .second, .val (.long p3s), .second, .val (.int p4s), .unset, .unset, .unset, .unset, .unset, .unset] [(.ref b75), (.int p4s), (.long p1s), (.long p0s), (.ref b68), (.ref b68)])) := fun t k => r74 t (st75 t k)
    obtain ⟨_, _, ⟨T84, L84, k84, n84⟩, -, X84, ⟨Lc84, hQ84, l84, y84, z84⟩, st84⟩ := X75.specialBack hx (y := (⟨"com/example/invites_to_friends/invitestofriends/bench/Call", "<init>", "(JJI[B)V"⟩ : MethodName)) rfl hown (mvT hZ (hw _ (List.mem_of_getElem? (i := 4) rfl))) (mvT hZ (hw _ (List.mem_of_getElem? (i := 5) rfl))) (mvT hZ (hw _ (List.mem_of_getElem? (i := 6) rfl))) (by decide) (backOf (W := 1) (rm1 l Z a0 hw [] b68 p0s p1s p4s b75 h75 n0 Zs82 F77 F78 F79 F80 F81 ge68) hZ (hw _ (List.mem_of_getElem? (i := 6) rfl)) (hw _ (List.mem_of_getElem? (i := 2) rfl)) (by decide) (by decide)) (g := (mkF m 11 #[.val (.long p0s), .second, .val (.long p1s), .second, .val (.long p2s), .second, .val (.long p3s), .second, .val (.int p4s), .unset, .unset, .unset, .unset, .unset, .unset] [(.ref b75), (.int p4s), (.long p1s), (.long p0s), (.ref b68), (.ref b68)])) rfl (by rw [hml]; rfl) (Steps.refl _) (a := b68) (argsL := [(.long p0s), (.long p1s), (.int p4s), (.ref b75)]) (rest := [(.ref b68)]) (lenOf pd_1 rfl) rfl (by show 2 * 0 + _ ≤ _; exact Nat.le_of_eq rfl) (hb hby at_11) (fun _ _ => ⟨rfl, e75, (by decide : 2 + 0 ≤ _), (by decide : 4 + 0 ≤ _)⟩)
    dsimp only [Pt.U, Pt.locs, Pt.cells, Pt.slots] at X84 l84 y84 z84 st84 hQ84
    subst l84 y84 z84
    obtain ⟨rfl, N84q, I84_0, I84_1, I84_2, I84_3, I84_4, I84_5⟩ := hQ84
    have N84 := Fr.app N0 N84q
    obtain ⟨h84, e84⟩ : ∃ z, T84.heap = z := ⟨_, rfl⟩
    rw [e84] at I84_0 I84_1 I84_2 I84_3 I84_4 I84_5
    have F85 : own_Arf Z h84 b75 .byte 0 (fun i => (.int ((fun _ => (0 : Int32)) i))) := F83.keep I84_0 (ninS (Ne.symm ne76) nin0)
    have K86 : Keep h0 h84 [] := K75.trans I84_0 (allS (Or.inr old68) all0)
    have Zs87 : n0 ≤ h84.size := Nat.le_trans Zs82 I84_0.1
    have r84 : own_R p.tables e below F0 (T84.setTop (mkF m 14 #[.val (.long p0s), .second, .val (.long p1s), .second, .val (.long p2s), .second, .val (.long p3s), .second, .val (.int p4s), .unset, .unset, .unset, .unset, .unset, .unset] [(.ref b68)])) := fun t k => r75 t (st84.trans k)
    have r88 : own_R p.tables e below F0 (T84.setTop (mkF m 16 #[.val (.long p0s), .second, .val (.long p1s), .second, .val (.long p2s), .second, .val (.long p3s), .second, .val (.int p4s), .val (.ref b68), .unset, .unset, .unset, .unset, .unset] [])) := fun t k => by
      refine r84 t ?_
      show Steps p.tables e below (T84.setTop (mkF m 14 #[.val (.long p0s), .second, .val (.long p1s), .second, .val (.long p2s), .second, .val (.long p3s), .second, .val (.int p4s), .unset, .unset, .unset, .unset, .unset, .unset] [(.ref b68)])) _
      refine XS.astore X84.here hx rfl (hb hby at_14) rfl rfl (l' := #[.val (.long p0s), .second, .val (.long p1s), .second, .val (.long p2s), .second, .val (.long p3s), .second, .val (.int p4s), .val (.ref b68), .unset, .unset, .unset, .unset, .unset]) rfl ?_
      exact k
    obtain ⟨T89, h89, X89, e89, E89, A89, D89, -, st89⟩ := newO X84 hx hZ hown (hw _ (List.mem_of_getElem? (i := 0) rfl)) (hw _ (List.mem_of_getElem? (i := 1) rfl)) (hw _ (List.mem_of_getElem? (i := 2) rfl)) e84 (g := (mkF m 16 #[.val (.long p0s), .second, .val (.long p1s), .second, .val (.long p2s), .second, .val (.long p3s), .second, .val (.int p4s), .val (.ref b68), .unset, .unset, .unset, .unset, .unset] [])) rfl (hb hby at_16) (by decide) (by decide)
    obtain ⟨b89, g89⟩ : ∃ z, z = h84.size := ⟨_, rfl⟩
    rw [← g89] at A89 D89 st89
    have ne90 : b75 ≠ b89 := Nat.ne_of_lt (Nat.lt_of_lt_of_le F85.lt (Nat.le_of_eq g89.symm))
    have ne91 : b68 ≠ b89 := Nat.ne_of_lt (Nat.lt_of_lt_of_le I84_1.lt (Nat.le_of_eq g89.symm))
    have ge89 : n0 ≤ b89 := Nat.le_trans Zs87 (Nat.le_of_eq g89.symm)
    have old89 : h0.size ≤ b89 := Nat.le_trans K86.1 (Nat.le_of_eq g89.symm)
    have K89 : Keep h0 h89 [] := K86.ext E89
    have F92 : own_Arf Z h89 b75 .byte 0 (fun i => (.int ((fun _ => (0 : Int32)) i))) := F85.ext E89
    have F93 : Exa Z h89 b68 "com/example/invites_to_friends/invitestofriends/bench/Call" := I84_1.ext E89
    have F94 : Fld Z h89 b68 "com/example/invites_to_friends/invitestofriends/bench/Call" "started" "J" (.long p0s) := I84_2.ext E89
    have F95 : Fld Z h89 b68 "com/example/invites_to_friends/invitestofriends/bench/Call" "ended" "J" (.long p1s) := I84_3.ext E89
    have F96 : Fld Z h89 b68 "com/example/invites_to_friends/invitestofriends/bench/Call" "status" "I" (.int p4s) := I84_4.ext E89
    have F97 : Fld Z h89 b68 "com/example/invites_to_friends/invitestofriends/bench/Call" "body" "[B" (.ref b75) := I84_5.ext E89
    have Zs98 : n0 ≤ h89.size := Nat.le_trans Zs87 E89.1
    have F99 : Fld Z h89 b89 "com/example/invites_to_friends/invitestofriends/bench/Call" "started" "J" (.long (0 : Int64)) := D89 (Or.inr (hw _ (List.mem_of_getElem? (i := 16) rfl))) (ty := .long) (by decide)
    have F100 : Fld Z h89 b89 "com/example/invites_to_friends/invitestofriends/bench/Call" "ended" "J" (.long (0 : Int64)) := D89 (Or.inr (hw _ (List.mem_of_getElem? (i := 18) rfl))) (ty := .long) (by decide)
    have F101 : Fld Z h89 b89 "com/example/invites_to_friends/invitestofriends/bench/Call" "status" "I" (.int (0 : Int32)) := D89 (Or.inr (hw _ (List.mem_of_getElem? (i := 20) rfl))) (ty := .int) (by decide)
    have F102 : Fld Z h89 b89 "com/example/invites_to_friends/invitestofriends/bench/Call" "body" "[B" .null := D89 (Or.inr (hw _ (List.mem_of_getElem? (i := 22) rfl))) (ty := (.array .byte)) (by decide)
    have r89 : own_R p.tables e below F0 (T89.setTop (mkF m 19 #[.val (.long p0s), .second, .val (.long p1s), .second, .val (.long p2s), .second, .val (.long p3s), .second, .val (.int p4s), .val (.ref b68), .unset, .unset, .unset, .unset, .unset] [(.ref b89)])) := fun t k => r88 t (st89 t k)
    have r103 : own_R p.tables e below F0 (T89.setTop (mkF m 29 #[.val (.long p0s), .second, .val (.long p1s), .second, .val (.long p2s), .second, .val (.long p3s), .second, .val (.int p4s), .val (.ref b68), .unset, .unset, .unset, .unset, .unset] [(.int (0 : Int32)), (.int (p4s ^^^ (1 : Int32))), (.long p3s), (.long p2s), (.ref b89), (.ref b89)])) := fun t k => by
      refine r89 t ?_
      show Steps p.tables e below (T89.setTop (mkF m 19 #[.val (.long p0s), .second, .val (.long p1s), .second, .val (.long p2s), .second, .val (.long p3s), .second, .val (.int p4s), .val (.ref b68), .unset, .unset, .unset, .unset, .unset] [(.ref b89)])) _
      refine XS.dup X89.here hx rfl (hb hby at_19) rfl rfl ?_
      show Steps p.tables e below (T89.setTop (mkF m 20 #[.val (.long p0s), .second, .val (.long p1s), .second, .val (.long p2s), .second, .val (.long p3s), .second, .val (.int p4s), .val (.ref b68), .unset, .unset, .unset, .unset, .unset] [(.ref b89), (.ref b89)])) _
      refine XS.lload X89.here hx rfl (hb hby at_20) rfl ?_
      show Steps p.tables e below (T89.setTop (mkF m 22 #[.val (.long p0s), .second, .val (.long p1s), .second, .val (.long p2s), .second, .val (.long p3s), .second, .val (.int p4s), .val (.ref b68), .unset, .unset, .unset, .unset, .unset] [(.long p2s), (.ref b89), (.ref b89)])) _
      refine XS.lload X89.here hx rfl (hb hby at_22) rfl ?_
      show Steps p.tables e below (T89.setTop (mkF m 24 #[.val (.long p0s), .second, .val (.long p1s), .second, .val (.long p2s), .second, .val (.long p3s), .second, .val (.int p4s), .val (.ref b68), .unset, .unset, .unset, .unset, .unset] [(.long p3s), (.long p2s), (.ref b89), (.ref b89)])) _
      refine XS.iload X89.here hx rfl (hb hby at_24) rfl ?_
      show Steps p.tables e below (T89.setTop (mkF m 26 #[.val (.long p0s), .second, .val (.long p1s), .second, .val (.long p2s), .second, .val (.long p3s), .second, .val (.int p4s), .val (.ref b68), .unset, .unset, .unset, .unset, .unset] [(.int p4s), (.long p3s), (.long p2s), (.ref b89), (.ref b89)])) _
      refine XS.iconst X89.here hx rfl (hb hby at_26) ?_
      show Steps p.tables e below (T89.setTop (mkF m 27 #[.val (.long p0s), .second, .val (.long p1s), .second, .val (.long p2s), .second, .val (.long p3s), .second, .val (.int p4s), .val (.ref b68), .unset, .unset, .unset, .unset, .unset] [(.int (1 : Int32)), (.int p4s), (.long p3s), (.long p2s), (.ref b89), (.ref b89)])) _
      refine XS.ixor X89.here hx rfl (hb hby at_27) rfl ?_
      show Steps p.tables e below (T89.setTop (mkF m 28 #[.val (.long p0s), .second, .val (.long p1s), .second, .val (.long p2s), .second, .val (.long p3s), .second, .val (.int p4s), .val (.ref b68), .unset, .unset, .unset, .unset, .unset] [(.int (p4s ^^^ (1 : Int32))), (.long p3s), (.long p2s), (.ref b89), (.ref b89)])) _
      refine XS.iconst X89.here hx rfl (hb hby at_28) ?_
      exact k
    obtain ⟨T104, h104, k104, X104, e104, E104, A104, st104⟩ := newP X89 hx hZ (hw _ (List.mem_of_getElem? (i := 3) rfl)) e89 (g := (mkF m 29 #[.val (.long p0s), .second, .val (.long p1s), .second, .val (.long p2s), .second, .val (.long p3s), .second, .val (.int p4s), .val (.ref b68), .unset, .unset, .unset, .unset, .unset] [(.int (0 : Int32)), (.int (p4s ^^^ (1 : Int32))), (.long p3s), (.long p2s), (.ref b89), (.ref b89)])) rfl (hb hby at_29) rfl (by decide) (cap := 0) (by decide) (by decide) (by decide) (by decide)
    obtain ⟨b104, g104⟩ : ∃ z, z = h89.size := ⟨_, rfl⟩
    rw [← g104] at A104 st104
    have ne105 : b75 ≠ b104 := Nat.ne_of_lt (Nat.lt_of_lt_of_le F92.lt (Nat.le_of_eq g104.symm))
    have ne106 : b68 ≠ b104 := Nat.ne_of_lt (Nat.lt_of_lt_of_le F93.lt (Nat.le_of_eq g104.symm))
    have ne107 : b89 ≠ b104 := Nat.ne_of_lt (Nat.lt_of_lt_of_le A89.lt (Nat.le_of_eq g104.symm))
    have ge104 : n0 ≤ b104 := Nat.le_trans Zs98 (Nat.le_of_eq g104.symm)
    have old104 : h0.size ≤ b104 := Nat.le_trans K89.1 (Nat.le_of_eq g104.symm)
    have K104 : Keep h0 h104 [] := K89.ext E104
    have F108 : own_Arf Z h104 b75 .byte 0 (fun i => (.int ((fun _ => (0 : Int32)) i))) := F92.ext E104
    have F109 : Exa Z h104 b68 "com/example/invites_to_friends/invitestofriends/bench/Call" := F93.ext E104
    have F110 : Fld Z h104 b68 "com/example/invites_to_friends/invitestofriends/bench/Call" "started" "J" (.long p0s) := F94.ext E104
    have F111 : Fld Z h104 b68 "com/example/invites_to_friends/invitestofriends/bench/Call" "ended" "J" (.long p1s) := F95.ext E104
    have F112 : Fld Z h104 b68 "com/example/invites_to_friends/invitestofriends/bench/Call" "status" "I" (.int p4s) := F96.ext E104
    have F113 : Fld Z h104 b68 "com/example/invites_to_friends/invitestofriends/bench/Call" "body" "[B" (.ref b75) := F97.ext E104
    have F114 : Exa Z h104 b89 "com/example/invites_to_friends/invitestofriends/bench/Call" := A89.ext E104
    have F115 : Fld Z h104 b89 "com/example/invites_to_friends/invitestofriends/bench/Call" "started" "J" (.long (0 : Int64)) := F99.ext E104
    have F116 : Fld Z h104 b89 "com/example/invites_to_friends/invitestofriends/bench/Call" "ended" "J" (.long (0 : Int64)) := F100.ext E104
    have F117 : Fld Z h104 b89 "com/example/invites_to_friends/invitestofriends/bench/Call" "status" "I" (.int (0 : Int32)) := F101.ext E104
    have F118 : Fld Z h104 b89 "com/example/invites_to_friends/invitestofriends/bench/Call" "body" "[B" .null := F102.ext E104
    have Zs119 : n0 ≤ h104.size := Nat.le_trans Zs98 E104.1
    have F120 : own_Arf Z h104 b104 .byte 0 (fun i => (.int ((fun _ => (0 : Int32)) i))) := by
      have q := own_Arf.new A104 (by decide)
      rw [show ((0 : Int32)).toNatClampNeg = 0 from rfl] at q
      exact q
    have r104 : own_R p.tables e below F0 (T104.setTop (mkF m 31 #[.val (.long p0s), .second, .val (.long p1s), .second, .val (.long p2s), .second, .val (.long p3s), .second, .val (.int p4s), .val (.ref b68), .unset, .unset, .unset, .unset, .unset] [(.ref b104), (.int (p4s ^^^ (1 : Int32))), (.long p3s), (.long p2s), (.ref b89), (.ref b89)])) := fun t k => r103 t (st104 t k)
    obtain ⟨_, _, ⟨T121, L121, k121, n121⟩, -, X121, ⟨Lc121, hQ121, l121, y121, z121⟩, st121⟩ := X104.specialBack hx (y := (⟨"com/example/invites_to_friends/invitestofriends/bench/Call", "<init>", "(JJI[B)V"⟩ : MethodName)) rfl hown (mvT hZ (hw _ (List.mem_of_getElem? (i := 4) rfl))) (mvT hZ (hw _ (List.mem_of_getElem? (i := 5) rfl))) (mvT hZ (hw _ (List.mem_of_getElem? (i := 6) rfl))) (by decide) (backOf (W := 1) (rm1 l Z a0 hw [] b89 p2s p3s (p4s ^^^ (1 : Int32)) b104 h104 n0 Zs119 F114 F115 F116 F117 F118 ge89) hZ (hw _ (List.mem_of_getElem? (i := 6) rfl)) (hw _ (List.mem_of_getElem? (i := 2) rfl)) (by decide) (by decide)) (g := (mkF m 31 #[.val (.long p0s), .second, .val (.long p1s), .second, .val (.long p2s), .second, .val (.long p3s), .second, .val (.int p4s), .val (.ref b68), .unset, .unset, .unset, .unset, .unset] [(.ref b104), (.int (p4s ^^^ (1 : Int32))), (.long p3s), (.long p2s), (.ref b89), (.ref b89)])) rfl (by rw [hml]; rfl) (Steps.refl _) (a := b89) (argsL := [(.long p2s), (.long p3s), (.int (p4s ^^^ (1 : Int32))), (.ref b104)]) (rest := [(.ref b89)]) (lenOf pd_1 rfl) rfl (by show 2 * 0 + _ ≤ _; exact Nat.le_of_eq rfl) (hb hby at_31) (fun _ _ => ⟨rfl, e104, (by decide : 4 + 0 ≤ _), (by decide : 8 + 0 ≤ _)⟩)
    dsimp only [Pt.U, Pt.locs, Pt.cells, Pt.slots] at X121 l121 y121 z121 st121 hQ121
    subst l121 y121 z121
    obtain ⟨rfl, N121q, I121_0, I121_1, I121_2, I121_3, I121_4, I121_5⟩ := hQ121
    have N121 := Fr.app N84 N121q
    obtain ⟨h121, e121⟩ : ∃ z, T121.heap = z := ⟨_, rfl⟩
    rw [e121] at I121_0 I121_1 I121_2 I121_3 I121_4 I121_5
    have F122 : own_Arf Z h121 b75 .byte 0 (fun i => (.int ((fun _ => (0 : Int32)) i))) := F108.keep I121_0 (ninS ne90 nin0)
    have F123 : Exa Z h121 b68 "com/example/invites_to_friends/invitestofriends/bench/Call" := F109.keep I121_0
    have F124 : Fld Z h121 b68 "com/example/invites_to_friends/invitestofriends/bench/Call" "started" "J" (.long p0s) := F110.keep I121_0 (ninS ne91 nin0)
    have F125 : Fld Z h121 b68 "com/example/invites_to_friends/invitestofriends/bench/Call" "ended" "J" (.long p1s) := F111.keep I121_0 (ninS ne91 nin0)
    have F126 : Fld Z h121 b68 "com/example/invites_to_friends/invitestofriends/bench/Call" "status" "I" (.int p4s) := F112.keep I121_0 (ninS ne91 nin0)
    have F127 : Fld Z h121 b68 "com/example/invites_to_friends/invitestofriends/bench/Call" "body" "[B" (.ref b75) := F113.keep I121_0 (ninS ne91 nin0)
    have F128 : own_Arf Z h121 b104 .byte 0 (fun i => (.int ((fun _ => (0 : Int32)) i))) := F120.keep I121_0 (ninS (Ne.symm ne107) nin0)
    have K129 : Keep h0 h121 [] := K104.trans I121_0 (allS (Or.inr old89) all0)
    have Zs130 : n0 ≤ h121.size := Nat.le_trans Zs119 I121_0.1
    have r121 : own_R p.tables e below F0 (T121.setTop (mkF m 34 #[.val (.long p0s), .second, .val (.long p1s), .second, .val (.long p2s), .second, .val (.long p3s), .second, .val (.int p4s), .val (.ref b68), .unset, .unset, .unset, .unset, .unset] [(.ref b89)])) := fun t k => r104 t (st121.trans k)
    have r131 : own_R p.tables e below F0 (T121.setTop (mkF m 40 #[.val (.long p0s), .second, .val (.long p1s), .second, .val (.long p2s), .second, .val (.long p3s), .second, .val (.int p4s), .val (.ref b68), .val (.ref b89), .unset, .unset, .unset, .unset] [(.ref b89), (.ref b68)])) := fun t k => by
      refine r121 t ?_
      show Steps p.tables e below (T121.setTop (mkF m 34 #[.val (.long p0s), .second, .val (.long p1s), .second, .val (.long p2s), .second, .val (.long p3s), .second, .val (.int p4s), .val (.ref b68), .unset, .unset, .unset, .unset, .unset] [(.ref b89)])) _
      refine XS.astore X121.here hx rfl (hb hby at_34) rfl rfl (l' := #[.val (.long p0s), .second, .val (.long p1s), .second, .val (.long p2s), .second, .val (.long p3s), .second, .val (.int p4s), .val (.ref b68), .val (.ref b89), .unset, .unset, .unset, .unset]) rfl ?_
      show Steps p.tables e below (T121.setTop (mkF m 36 #[.val (.long p0s), .second, .val (.long p1s), .second, .val (.long p2s), .second, .val (.long p3s), .second, .val (.int p4s), .val (.ref b68), .val (.ref b89), .unset, .unset, .unset, .unset] [])) _
      refine XS.aload X121.here hx rfl (hb hby at_36) rfl rfl ?_
      show Steps p.tables e below (T121.setTop (mkF m 38 #[.val (.long p0s), .second, .val (.long p1s), .second, .val (.long p2s), .second, .val (.long p3s), .second, .val (.int p4s), .val (.ref b68), .val (.ref b89), .unset, .unset, .unset, .unset] [(.ref b68)])) _
      refine XS.aload X121.here hx rfl (hb hby at_38) rfl rfl ?_
      exact k
    obtain ⟨cq132, kq132, q132a, q132b, q132c⟩ := isOf hZ e121 F123
    obtain ⟨_, _, ⟨T132, L132, k132, n132⟩, -, X132, ⟨Lc132, hQ132, l132, y132, z132⟩, st132⟩ := X121.virtualBack hx (y := (⟨"com/example/invites_to_friends/invitestofriends/bench/Call", "overlaps", "(Lcom/example/invites_to_friends/invitestofriends/bench/Call;)Z"⟩ : MethodName)) (z := (⟨"com/example/invites_to_friends/invitestofriends/bench/Call", "overlaps", "(Lcom/example/invites_to_friends/invitestofriends/bench/Call;)Z"⟩ : MethodName)) hown (mvT hZ (hw _ (List.mem_of_getElem? (i := 23) rfl))) (mvT hZ (hw _ (List.mem_of_getElem? (i := 24) rfl))) (notFace_of_selects (args := #[]) (mvT hZ (hw _ (List.mem_of_getElem? (i := 26) rfl)))) (mvT hZ (hw _ (List.mem_of_getElem? (i := 26) rfl))) (mvT hZ (hw _ (List.mem_of_getElem? (i := 25) rfl))) (by decide) (backOf (W := 0) (rm4 l Z a0 hw [] b68 b89 (p0s) (p1s) (p2s) (p3s) h121 n0 Zs130 F124 F125 I121_2 I121_3) hZ (hw _ (List.mem_of_getElem? (i := 27) rfl)) (hw _ (List.mem_of_getElem? (i := 2) rfl)) (by decide) (by decide)) q132a q132c (g := (mkF m 40 #[.val (.long p0s), .second, .val (.long p1s), .second, .val (.long p2s), .second, .val (.long p3s), .second, .val (.int p4s), .val (.ref b68), .val (.ref b89), .unset, .unset, .unset, .unset] [(.ref b89), (.ref b68)])) rfl (by rw [hml]; rfl) (Steps.refl _) (argsL := [(.ref b89)]) (rest := []) (lenOf pd_2 rfl) rfl (by show 2 * 0 + _ ≤ _; exact Nat.le_of_eq rfl) (hb hby at_40) (fun _ _ => ⟨rfl, e121, (by decide : 4 + 0 ≤ _), (by decide : 8 + 0 ≤ _)⟩)
    dsimp only [Pt.U, Pt.locs, Pt.cells, Pt.slots] at X132 l132 y132 z132 st132 hQ132
    subst l132 y132 z132
    obtain ⟨rfl, N132q, I132_0⟩ := hQ132
    have N132 := Fr.app N121 N132q
    have r132 : own_R p.tables e below F0 (T132.setTop (mkF m 43 #[.val (.long p0s), .second, .val (.long p1s), .second, .val (.long p2s), .second, .val (.long p3s), .second, .val (.int p4s), .val (.ref b68), .val (.ref b89), .unset, .unset, .unset, .unset] [(.int (own_over p0s p1s p2s p3s))])) := fun t k => r131 t (st132.trans k)
    by_cases hc133 : p0s < p3s
    · by_cases hc134 : p2s < p1s
      · have ev135 : (own_over p0s p1s p2s p3s) = (1 : Int32) := by unfold own_over; rw [if_pos hc133, if_pos hc134]
        have r136 : own_R p.tables e below F0 (T132.setTop (mkF m 43 #[.val (.long p0s), .second, .val (.long p1s), .second, .val (.long p2s), .second, .val (.long p3s), .second, .val (.int p4s), .val (.ref b68), .val (.ref b89), .unset, .unset, .unset, .unset] [(.int (1 : Int32))])) := by have q := r132; rw [ev135] at q; exact q
        have r137 : own_R p.tables e below F0 (T132.setTop (mkF m 49 #[.val (.long p0s), .second, .val (.long p1s), .second, .val (.long p2s), .second, .val (.long p3s), .second, .val (.int p4s), .val (.ref b68), .val (.ref b89), .val (.int (1 : Int32)), .unset, .unset, .unset] [(.ref b68), (.ref b89)])) := fun t k => by
          refine r136 t ?_
          show Steps p.tables e below (T132.setTop (mkF m 43 #[.val (.long p0s), .second, .val (.long p1s), .second, .val (.long p2s), .second, .val (.long p3s), .second, .val (.int p4s), .val (.ref b68), .val (.ref b89), .unset, .unset, .unset, .unset] [(.int (1 : Int32))])) _
          refine XS.istore X132.here hx rfl (hb hby at_43) rfl (l' := #[.val (.long p0s), .second, .val (.long p1s), .second, .val (.long p2s), .second, .val (.long p3s), .second, .val (.int p4s), .val (.ref b68), .val (.ref b89), .val (.int (1 : Int32)), .unset, .unset, .unset]) rfl ?_
          show Steps p.tables e below (T132.setTop (mkF m 45 #[.val (.long p0s), .second, .val (.long p1s), .second, .val (.long p2s), .second, .val (.long p3s), .second, .val (.int p4s), .val (.ref b68), .val (.ref b89), .val (.int (1 : Int32)), .unset, .unset, .unset] [])) _
          refine XS.aload X132.here hx rfl (hb hby at_45) rfl rfl ?_
          show Steps p.tables e below (T132.setTop (mkF m 47 #[.val (.long p0s), .second, .val (.long p1s), .second, .val (.long p2s), .second, .val (.long p3s), .second, .val (.int p4s), .val (.ref b68), .val (.ref b89), .val (.int (1 : Int32)), .unset, .unset, .unset] [(.ref b89)])) _
          refine XS.aload X132.here hx rfl (hb hby at_47) rfl rfl ?_
          exact k
        obtain ⟨cq138, kq138, q138a, q138b, q138c⟩ := isOf hZ I132_0 I121_1
        obtain ⟨_, _, ⟨T138, L138, k138, n138⟩, -, X138, ⟨Lc138, hQ138, l138, y138, z138⟩, st138⟩ := X132.virtualBack hx (y := (⟨"com/example/invites_to_friends/invitestofriends/bench/Call", "overlaps", "(Lcom/example/invites_to_friends/invitestofriends/bench/Call;)Z"⟩ : MethodName)) (z := (⟨"com/example/invites_to_friends/invitestofriends/bench/Call", "overlaps", "(Lcom/example/invites_to_friends/invitestofriends/bench/Call;)Z"⟩ : MethodName)) hown (mvT hZ (hw _ (List.mem_of_getElem? (i := 23) rfl))) (mvT hZ (hw _ (List.mem_of_getElem? (i := 24) rfl))) (notFace_of_selects (args := #[]) (mvT hZ (hw _ (List.mem_of_getElem? (i := 26) rfl)))) (mvT hZ (hw _ (List.mem_of_getElem? (i := 26) rfl))) (mvT hZ (hw _ (List.mem_of_getElem? (i := 25) rfl))) (by decide) (backOf (W := 0) (rm4 l Z a0 hw [] b89 b68 (p2s) (p3s) (p0s) (p1s) h121 n0 Zs130 I121_2 I121_3 F124 F125) hZ (hw _ (List.mem_of_getElem? (i := 27) rfl)) (hw _ (List.mem_of_getElem? (i := 2) rfl)) (by decide) (by decide)) q138a q138c (g := (mkF m 49 #[.val (.long p0s), .second, .val (.long p1s), .second, .val (.long p2s), .second, .val (.long p3s), .second, .val (.int p4s), .val (.ref b68), .val (.ref b89), .val (.int (1 : Int32)), .unset, .unset, .unset] [(.ref b68), (.ref b89)])) rfl (by rw [hml]; rfl) (Steps.refl _) (argsL := [(.ref b68)]) (rest := []) (lenOf pd_2 rfl) rfl (by show 2 * 0 + _ ≤ _; exact Nat.le_of_eq rfl) (hb hby at_49) (fun _ _ => ⟨rfl, I132_0, (by decide : 4 + 0 ≤ _), (by decide : 8 + 0 ≤ _)⟩)
        dsimp only [Pt.U, Pt.locs, Pt.cells, Pt.slots] at X138 l138 y138 z138 st138 hQ138
        subst l138 y138 z138
        obtain ⟨rfl, N138q, I138_0⟩ := hQ138
        have N138 := Fr.app N132 N138q
        have r138 : own_R p.tables e below F0 (T138.setTop (mkF m 52 #[.val (.long p0s), .second, .val (.long p1s), .second, .val (.long p2s), .second, .val (.long p3s), .second, .val (.int p4s), .val (.ref b68), .val (.ref b89), .val (.int (1 : Int32)), .unset, .unset, .unset] [(.int (own_over p2s p3s p0s p1s))])) := fun t k => r137 t (st138.trans k)
        have ev139 : (own_over p2s p3s p0s p1s) = (1 : Int32) := by unfold own_over; rw [if_pos hc134, if_pos hc133]
        have r140 : own_R p.tables e below F0 (T138.setTop (mkF m 52 #[.val (.long p0s), .second, .val (.long p1s), .second, .val (.long p2s), .second, .val (.long p3s), .second, .val (.int p4s), .val (.ref b68), .val (.ref b89), .val (.int (1 : Int32)), .unset, .unset, .unset] [(.int (1 : Int32))])) := by have q := r138; rw [ev139] at q; exact q
        have r141 : own_R p.tables e below F0 (T138.setTop (mkF m 58 #[.val (.long p0s), .second, .val (.long p1s), .second, .val (.long p2s), .second, .val (.long p3s), .second, .val (.int p4s), .val (.ref b68), .val (.ref b89), .val (.int (1 : Int32)), .val (.int (1 : Int32)), .unset, .unset] [(.ref b68), (.ref b68)])) := fun t k => by
          refine r140 t ?_
          show Steps p.tables e below (T138.setTop (mkF m 52 #[.val (.long p0s), .second, .val (.long p1s), .second, .val (.long p2s), .second, .val (.long p3s), .second, .val (.int p4s), .val (.ref b68), .val (.ref b89), .val (.int (1 : Int32)), .unset, .unset, .unset] [(.int (1 : Int32))])) _
          refine XS.istore X138.here hx rfl (hb hby at_52) rfl (l' := #[.val (.long p0s), .second, .val (.long p1s), .second, .val (.long p2s), .second, .val (.long p3s), .second, .val (.int p4s), .val (.ref b68), .val (.ref b89), .val (.int (1 : Int32)), .val (.int (1 : Int32)), .unset, .unset]) rfl ?_
          show Steps p.tables e below (T138.setTop (mkF m 54 #[.val (.long p0s), .second, .val (.long p1s), .second, .val (.long p2s), .second, .val (.long p3s), .second, .val (.int p4s), .val (.ref b68), .val (.ref b89), .val (.int (1 : Int32)), .val (.int (1 : Int32)), .unset, .unset] [])) _
          refine XS.aload X138.here hx rfl (hb hby at_54) rfl rfl ?_
          show Steps p.tables e below (T138.setTop (mkF m 56 #[.val (.long p0s), .second, .val (.long p1s), .second, .val (.long p2s), .second, .val (.long p3s), .second, .val (.int p4s), .val (.ref b68), .val (.ref b89), .val (.int (1 : Int32)), .val (.int (1 : Int32)), .unset, .unset] [(.ref b68)])) _
          refine XS.aload X138.here hx rfl (hb hby at_56) rfl rfl ?_
          exact k
        obtain ⟨cq142, kq142, q142a, q142b, q142c⟩ := isOf hZ I138_0 F123
        obtain ⟨_, _, ⟨T142, L142, k142, n142⟩, -, X142, ⟨Lc142, hQ142, l142, y142, z142⟩, st142⟩ := X138.virtualBack hx (y := (⟨"com/example/invites_to_friends/invitestofriends/bench/Call", "overlaps", "(Lcom/example/invites_to_friends/invitestofriends/bench/Call;)Z"⟩ : MethodName)) (z := (⟨"com/example/invites_to_friends/invitestofriends/bench/Call", "overlaps", "(Lcom/example/invites_to_friends/invitestofriends/bench/Call;)Z"⟩ : MethodName)) hown (mvT hZ (hw _ (List.mem_of_getElem? (i := 23) rfl))) (mvT hZ (hw _ (List.mem_of_getElem? (i := 24) rfl))) (notFace_of_selects (args := #[]) (mvT hZ (hw _ (List.mem_of_getElem? (i := 26) rfl)))) (mvT hZ (hw _ (List.mem_of_getElem? (i := 26) rfl))) (mvT hZ (hw _ (List.mem_of_getElem? (i := 25) rfl))) (by decide) (backOf (W := 0) (rm4 l Z a0 hw [] b68 b68 (p0s) (p1s) (p0s) (p1s) h121 n0 Zs130 F124 F125 F124 F125) hZ (hw _ (List.mem_of_getElem? (i := 27) rfl)) (hw _ (List.mem_of_getElem? (i := 2) rfl)) (by decide) (by decide)) q142a q142c (g := (mkF m 58 #[.val (.long p0s), .second, .val (.long p1s), .second, .val (.long p2s), .second, .val (.long p3s), .second, .val (.int p4s), .val (.ref b68), .val (.ref b89), .val (.int (1 : Int32)), .val (.int (1 : Int32)), .unset, .unset] [(.ref b68), (.ref b68)])) rfl (by rw [hml]; rfl) (Steps.refl _) (argsL := [(.ref b68)]) (rest := []) (lenOf pd_2 rfl) rfl (by show 2 * 0 + _ ≤ _; exact Nat.le_of_eq rfl) (hb hby at_58) (fun _ _ => ⟨rfl, I138_0, (by decide : 4 + 0 ≤ _), (by decide : 8 + 0 ≤ _)⟩)
        dsimp only [Pt.U, Pt.locs, Pt.cells, Pt.slots] at X142 l142 y142 z142 st142 hQ142
        subst l142 y142 z142
        obtain ⟨rfl, N142q, I142_0⟩ := hQ142
        have N142 := Fr.app N138 N142q
        have r142 : own_R p.tables e below F0 (T142.setTop (mkF m 61 #[.val (.long p0s), .second, .val (.long p1s), .second, .val (.long p2s), .second, .val (.long p3s), .second, .val (.int p4s), .val (.ref b68), .val (.ref b89), .val (.int (1 : Int32)), .val (.int (1 : Int32)), .unset, .unset] [(.int (own_over p0s p1s p0s p1s))])) := fun t k => r141 t (st142.trans k)
        by_cases hc143 : p0s < p1s
        · have ev144 : (own_over p0s p1s p0s p1s) = (1 : Int32) := by unfold own_over; rw [if_pos hc143, if_pos hc143]
          have r145 : own_R p.tables e below F0 (T142.setTop (mkF m 61 #[.val (.long p0s), .second, .val (.long p1s), .second, .val (.long p2s), .second, .val (.long p3s), .second, .val (.int p4s), .val (.ref b68), .val (.ref b89), .val (.int (1 : Int32)), .val (.int (1 : Int32)), .unset, .unset] [(.int (1 : Int32))])) := by have q := r142; rw [ev144] at q; exact q
          have r146 : own_R p.tables e below F0 (T142.setTop (mkF m 101 #[.val (.long p0s), .second, .val (.long p1s), .second, .val (.long p2s), .second, .val (.long p3s), .second, .val (.int p4s), .val (.ref b68), .val (.ref b89), .val (.int (1 : Int32)), .val (.int (1 : Int32)), .val (.int (1 : Int32)), .unset] [(.int (lcmpW p2s p3s))])) := fun t k => by
            refine r145 t ?_
            show Steps p.tables e below (T142.setTop (mkF m 61 #[.val (.long p0s), .second, .val (.long p1s), .second, .val (.long p2s), .second, .val (.long p3s), .second, .val (.int p4s), .val (.ref b68), .val (.ref b89), .val (.int (1 : Int32)), .val (.int (1 : Int32)), .unset, .unset] [(.int (1 : Int32))])) _
            refine XS.istore X142.here hx rfl (hb hby at_61) rfl (l' := #[.val (.long p0s), .second, .val (.long p1s), .second, .val (.long p2s), .second, .val (.long p3s), .second, .val (.int p4s), .val (.ref b68), .val (.ref b89), .val (.int (1 : Int32)), .val (.int (1 : Int32)), .val (.int (1 : Int32)), .unset]) rfl ?_
            show Steps p.tables e below (T142.setTop (mkF m 63 #[.val (.long p0s), .second, .val (.long p1s), .second, .val (.long p2s), .second, .val (.long p3s), .second, .val (.int p4s), .val (.ref b68), .val (.ref b89), .val (.int (1 : Int32)), .val (.int (1 : Int32)), .val (.int (1 : Int32)), .unset] [])) _
            refine XS.iload X142.here hx rfl (hb hby at_63) rfl ?_
            show Steps p.tables e below (T142.setTop (mkF m 65 #[.val (.long p0s), .second, .val (.long p1s), .second, .val (.long p2s), .second, .val (.long p3s), .second, .val (.int p4s), .val (.ref b68), .val (.ref b89), .val (.int (1 : Int32)), .val (.int (1 : Int32)), .val (.int (1 : Int32)), .unset] [(.int (1 : Int32))])) _
            refine XS.iload X142.here hx rfl (hb hby at_65) rfl ?_
            show Steps p.tables e below (T142.setTop (mkF m 67 #[.val (.long p0s), .second, .val (.long p1s), .second, .val (.long p2s), .second, .val (.long p3s), .second, .val (.int p4s), .val (.ref b68), .val (.ref b89), .val (.int (1 : Int32)), .val (.int (1 : Int32)), .val (.int (1 : Int32)), .unset] [(.int (1 : Int32)), (.int (1 : Int32))])) _
            refine XS.icmpYes X142.here hx rfl (pc0 := 67) (pc' := 72) rfl (hb hby at_67) rfl (teq (show (1 : Int32) = (1 : Int32) from by decide)).1 (by decide) (by decide) ?_
            show Steps p.tables e below (T142.setTop (mkF m 72 #[.val (.long p0s), .second, .val (.long p1s), .second, .val (.long p2s), .second, .val (.long p3s), .second, .val (.int p4s), .val (.ref b68), .val (.ref b89), .val (.int (1 : Int32)), .val (.int (1 : Int32)), .val (.int (1 : Int32)), .unset] [])) _
            refine XS.iload X142.here hx rfl (hb hby at_72) rfl ?_
            show Steps p.tables e below (T142.setTop (mkF m 74 #[.val (.long p0s), .second, .val (.long p1s), .second, .val (.long p2s), .second, .val (.long p3s), .second, .val (.int p4s), .val (.ref b68), .val (.ref b89), .val (.int (1 : Int32)), .val (.int (1 : Int32)), .val (.int (1 : Int32)), .unset] [(.int (1 : Int32))])) _
            refine XS.lloadN X142.here hx rfl (hb hby at_74) rfl ?_
            show Steps p.tables e below (T142.setTop (mkF m 75 #[.val (.long p0s), .second, .val (.long p1s), .second, .val (.long p2s), .second, .val (.long p3s), .second, .val (.int p4s), .val (.ref b68), .val (.ref b89), .val (.int (1 : Int32)), .val (.int (1 : Int32)), .val (.int (1 : Int32)), .unset] [(.long p0s), (.int (1 : Int32))])) _
            refine XS.lloadN X142.here hx rfl (hb hby at_75) rfl ?_
            show Steps p.tables e below (T142.setTop (mkF m 76 #[.val (.long p0s), .second, .val (.long p1s), .second, .val (.long p2s), .second, .val (.long p3s), .second, .val (.int p4s), .val (.ref b68), .val (.ref b89), .val (.int (1 : Int32)), .val (.int (1 : Int32)), .val (.int (1 : Int32)), .unset] [(.long p1s), (.long p0s), (.int (1 : Int32))])) _
            refine XS.lcmp X142.here hx rfl (hb hby at_76) rfl ?_
            show Steps p.tables e below (T142.setTop (mkF m 77 #[.val (.long p0s), .second, .val (.long p1s), .second, .val (.long p2s), .second, .val (.long p3s), .second, .val (.int p4s), .val (.ref b68), .val (.ref b89), .val (.int (1 : Int32)), .val (.int (1 : Int32)), .val (.int (1 : Int32)), .unset] [(.int (lcmpW p0s p1s)), (.int (1 : Int32))])) _
            refine XS.ifNo X142.here hx rfl (hb hby at_77) rfl (own_l_lt hc143).2 ?_
            show Steps p.tables e below (T142.setTop (mkF m 80 #[.val (.long p0s), .second, .val (.long p1s), .second, .val (.long p2s), .second, .val (.long p3s), .second, .val (.int p4s), .val (.ref b68), .val (.ref b89), .val (.int (1 : Int32)), .val (.int (1 : Int32)), .val (.int (1 : Int32)), .unset] [(.int (1 : Int32))])) _
            refine XS.iconst X142.here hx rfl (hb hby at_80) ?_
            show Steps p.tables e below (T142.setTop (mkF m 81 #[.val (.long p0s), .second, .val (.long p1s), .second, .val (.long p2s), .second, .val (.long p3s), .second, .val (.int p4s), .val (.ref b68), .val (.ref b89), .val (.int (1 : Int32)), .val (.int (1 : Int32)), .val (.int (1 : Int32)), .unset] [(.int (1 : Int32)), (.int (1 : Int32))])) _
            refine XS.goto X142.here hx rfl (pc0 := 81) (pc' := 85) rfl (hb hby at_81) (by decide) (by decide) ?_
            show Steps p.tables e below (T142.setTop (mkF m 85 #[.val (.long p0s), .second, .val (.long p1s), .second, .val (.long p2s), .second, .val (.long p3s), .second, .val (.int p4s), .val (.ref b68), .val (.ref b89), .val (.int (1 : Int32)), .val (.int (1 : Int32)), .val (.int (1 : Int32)), .unset] [(.int (1 : Int32)), (.int (1 : Int32))])) _
            refine XS.icmpYes X142.here hx rfl (pc0 := 85) (pc' := 90) rfl (hb hby at_85) rfl (teq (show (1 : Int32) = (1 : Int32) from by decide)).1 (by decide) (by decide) ?_
            show Steps p.tables e below (T142.setTop (mkF m 90 #[.val (.long p0s), .second, .val (.long p1s), .second, .val (.long p2s), .second, .val (.long p3s), .second, .val (.int p4s), .val (.ref b68), .val (.ref b89), .val (.int (1 : Int32)), .val (.int (1 : Int32)), .val (.int (1 : Int32)), .unset] [])) _
            refine XS.lloadN X142.here hx rfl (hb hby at_90) rfl ?_
            show Steps p.tables e below (T142.setTop (mkF m 91 #[.val (.long p0s), .second, .val (.long p1s), .second, .val (.long p2s), .second, .val (.long p3s), .second, .val (.int p4s), .val (.ref b68), .val (.ref b89), .val (.int (1 : Int32)), .val (.int (1 : Int32)), .val (.int (1 : Int32)), .unset] [(.long p0s)])) _
            refine XS.lloadN X142.here hx rfl (hb hby at_91) rfl ?_
            show Steps p.tables e below (T142.setTop (mkF m 92 #[.val (.long p0s), .second, .val (.long p1s), .second, .val (.long p2s), .second, .val (.long p3s), .second, .val (.int p4s), .val (.ref b68), .val (.ref b89), .val (.int (1 : Int32)), .val (.int (1 : Int32)), .val (.int (1 : Int32)), .unset] [(.long p1s), (.long p0s)])) _
            refine XS.lcmp X142.here hx rfl (hb hby at_92) rfl ?_
            show Steps p.tables e below (T142.setTop (mkF m 93 #[.val (.long p0s), .second, .val (.long p1s), .second, .val (.long p2s), .second, .val (.long p3s), .second, .val (.int p4s), .val (.ref b68), .val (.ref b89), .val (.int (1 : Int32)), .val (.int (1 : Int32)), .val (.int (1 : Int32)), .unset] [(.int (lcmpW p0s p1s))])) _
            refine XS.ifNo X142.here hx rfl (hb hby at_93) rfl (own_l_lt hc143).2 ?_
            show Steps p.tables e below (T142.setTop (mkF m 96 #[.val (.long p0s), .second, .val (.long p1s), .second, .val (.long p2s), .second, .val (.long p3s), .second, .val (.int p4s), .val (.ref b68), .val (.ref b89), .val (.int (1 : Int32)), .val (.int (1 : Int32)), .val (.int (1 : Int32)), .unset] [])) _
            refine XS.lload X142.here hx rfl (hb hby at_96) rfl ?_
            show Steps p.tables e below (T142.setTop (mkF m 98 #[.val (.long p0s), .second, .val (.long p1s), .second, .val (.long p2s), .second, .val (.long p3s), .second, .val (.int p4s), .val (.ref b68), .val (.ref b89), .val (.int (1 : Int32)), .val (.int (1 : Int32)), .val (.int (1 : Int32)), .unset] [(.long p2s)])) _
            refine XS.lload X142.here hx rfl (hb hby at_98) rfl ?_
            show Steps p.tables e below (T142.setTop (mkF m 100 #[.val (.long p0s), .second, .val (.long p1s), .second, .val (.long p2s), .second, .val (.long p3s), .second, .val (.int p4s), .val (.ref b68), .val (.ref b89), .val (.int (1 : Int32)), .val (.int (1 : Int32)), .val (.int (1 : Int32)), .unset] [(.long p3s), (.long p2s)])) _
            refine XS.lcmp X142.here hx rfl (hb hby at_100) rfl ?_
            exact k
          by_cases hc147 : p2s < p3s
          · have r148 : own_R p.tables e below F0 (T142.setTop (mkF m 107 #[.val (.long p0s), .second, .val (.long p1s), .second, .val (.long p2s), .second, .val (.long p3s), .second, .val (.int p4s), .val (.ref b68), .val (.ref b89), .val (.int (1 : Int32)), .val (.int (1 : Int32)), .val (.int (1 : Int32)), .unset] [(.long p2s), (.long p0s)])) := fun t k => by
              refine r146 t ?_
              show Steps p.tables e below (T142.setTop (mkF m 101 #[.val (.long p0s), .second, .val (.long p1s), .second, .val (.long p2s), .second, .val (.long p3s), .second, .val (.int p4s), .val (.ref b68), .val (.ref b89), .val (.int (1 : Int32)), .val (.int (1 : Int32)), .val (.int (1 : Int32)), .unset] [(.int (lcmpW p2s p3s))])) _
              refine XS.ifNo X142.here hx rfl (hb hby at_101) rfl (own_l_lt hc147).2 ?_
              show Steps p.tables e below (T142.setTop (mkF m 104 #[.val (.long p0s), .second, .val (.long p1s), .second, .val (.long p2s), .second, .val (.long p3s), .second, .val (.int p4s), .val (.ref b68), .val (.ref b89), .val (.int (1 : Int32)), .val (.int (1 : Int32)), .val (.int (1 : Int32)), .unset] [])) _
              refine XS.lloadN X142.here hx rfl (hb hby at_104) rfl ?_
              show Steps p.tables e below (T142.setTop (mkF m 105 #[.val (.long p0s), .second, .val (.long p1s), .second, .val (.long p2s), .second, .val (.long p3s), .second, .val (.int p4s), .val (.ref b68), .val (.ref b89), .val (.int (1 : Int32)), .val (.int (1 : Int32)), .val (.int (1 : Int32)), .unset] [(.long p0s)])) _
              refine XS.lload X142.here hx rfl (hb hby at_105) rfl ?_
              exact k
            obtain ⟨_, _, ⟨T149, L149, k149, n149⟩, -, X149, ⟨Lc149, hQ149, l149, y149, z149⟩, st149⟩ := Jvm.LawKit.callS X142 hx (y := (⟨"java/lang/Math", "max", "(JJ)J"⟩ : MethodName)) hown (mvT hZ (hw _ (List.mem_of_getElem? (i := 28) rfl))) (mvT hZ (hw _ (List.mem_of_getElem? (i := 29) rfl))) (mvT hZ (hw _ (List.mem_of_getElem? (i := 30) rfl))) (mvT hZ (hw _ (List.mem_of_getElem? (i := 31) rfl))) (by decide) (backOf (W := 0) (rm5 l Z a0 hw [] p0s p2s h121 n0 Zs130 ) hZ (hw _ (List.mem_of_getElem? (i := 31) rfl)) (hw _ (List.mem_of_getElem? (i := 30) rfl)) (by decide) (by decide)) (g := (mkF m 107 #[.val (.long p0s), .second, .val (.long p1s), .second, .val (.long p2s), .second, .val (.long p3s), .second, .val (.int p4s), .val (.ref b68), .val (.ref b89), .val (.int (1 : Int32)), .val (.int (1 : Int32)), .val (.int (1 : Int32)), .unset] [(.long p2s), (.long p0s)])) rfl (by rw [hml]; rfl) (argsL := [(.long p0s), (.long p2s)]) (rest := []) (lenOf pd_3 rfl) rfl (by show 2 * 0 + _ ≤ _; exact Nat.le_of_eq rfl) (hb hby at_107) (fun _ _ => ⟨rfl, I142_0, (by decide : 4 + 0 ≤ _), (by decide : 8 + 0 ≤ _)⟩)
            dsimp only [Pt.U, Pt.locs, Pt.cells, Pt.slots] at X149 l149 y149 z149 st149 hQ149
            subst l149 y149 z149
            obtain ⟨rfl, N149q, I149_0⟩ := hQ149
            have N149 := Fr.app N142 N149q
            have r149 : own_R p.tables e below F0 (T149.setTop (mkF m 110 #[.val (.long p0s), .second, .val (.long p1s), .second, .val (.long p2s), .second, .val (.long p3s), .second, .val (.int p4s), .val (.ref b68), .val (.ref b89), .val (.int (1 : Int32)), .val (.int (1 : Int32)), .val (.int (1 : Int32)), .unset] [(.long (own_max p0s p2s))])) := fun t k => r148 t (st149 t k)
            by_cases hc150 : p0s < p2s
            · have ev151 : (own_max p0s p2s) = p2s := by unfold own_max; rw [if_pos hc150]
              have r152 : own_R p.tables e below F0 (T149.setTop (mkF m 110 #[.val (.long p0s), .second, .val (.long p1s), .second, .val (.long p2s), .second, .val (.long p3s), .second, .val (.int p4s), .val (.ref b68), .val (.ref b89), .val (.int (1 : Int32)), .val (.int (1 : Int32)), .val (.int (1 : Int32)), .unset] [(.long p2s)])) := by have q := r149; rw [ev151] at q; exact q
              have r153 : own_R p.tables e below F0 (T149.setTop (mkF m 113 #[.val (.long p0s), .second, .val (.long p1s), .second, .val (.long p2s), .second, .val (.long p3s), .second, .val (.int p4s), .val (.ref b68), .val (.ref b89), .val (.int (1 : Int32)), .val (.int (1 : Int32)), .val (.int (1 : Int32)), .unset] [(.long p3s), (.long p1s), (.long p2s)])) := fun t k => by
                refine r152 t ?_
                show Steps p.tables e below (T149.setTop (mkF m 110 #[.val (.long p0s), .second, .val (.long p1s), .second, .val (.long p2s), .second, .val (.long p3s), .second, .val (.int p4s), .val (.ref b68), .val (.ref b89), .val (.int (1 : Int32)), .val (.int (1 : Int32)), .val (.int (1 : Int32)), .unset] [(.long p2s)])) _
                refine XS.lloadN X149.here hx rfl (hb hby at_110) rfl ?_
                show Steps p.tables e below (T149.setTop (mkF m 111 #[.val (.long p0s), .second, .val (.long p1s), .second, .val (.long p2s), .second, .val (.long p3s), .second, .val (.int p4s), .val (.ref b68), .val (.ref b89), .val (.int (1 : Int32)), .val (.int (1 : Int32)), .val (.int (1 : Int32)), .unset] [(.long p1s), (.long p2s)])) _
                refine XS.lload X149.here hx rfl (hb hby at_111) rfl ?_
                exact k
              obtain ⟨_, _, ⟨T154, L154, k154, n154⟩, -, X154, ⟨Lc154, hQ154, l154, y154, z154⟩, st154⟩ := Jvm.LawKit.callS X149 hx (y := (⟨"java/lang/Math", "min", "(JJ)J"⟩ : MethodName)) hown (mvT hZ (hw _ (List.mem_of_getElem? (i := 32) rfl))) (mvT hZ (hw _ (List.mem_of_getElem? (i := 33) rfl))) (mvT hZ (hw _ (List.mem_of_getElem? (i := 30) rfl))) (mvT hZ (hw _ (List.mem_of_getElem? (i := 34) rfl))) (by decide) (backOf (W := 2) (rm6 l Z a0 hw [] p1s p3s h121 n0 Zs130 ) hZ (hw _ (List.mem_of_getElem? (i := 34) rfl)) (hw _ (List.mem_of_getElem? (i := 30) rfl)) (by decide) (by decide)) (g := (mkF m 113 #[.val (.long p0s), .second, .val (.long p1s), .second, .val (.long p2s), .second, .val (.long p3s), .second, .val (.int p4s), .val (.ref b68), .val (.ref b89), .val (.int (1 : Int32)), .val (.int (1 : Int32)), .val (.int (1 : Int32)), .unset] [(.long p3s), (.long p1s), (.long p2s)])) rfl (by rw [hml]; rfl) (argsL := [(.long p1s), (.long p3s)]) (rest := [(.long p2s)]) (lenOf pd_3 rfl) rfl (by show 2 * 0 + _ ≤ _; exact Nat.le_of_eq rfl) (hb hby at_113) (fun _ _ => ⟨rfl, I149_0, (by decide : 4 + 0 ≤ _), (by decide : 8 + 0 ≤ _)⟩)
              dsimp only [Pt.U, Pt.locs, Pt.cells, Pt.slots] at X154 l154 y154 z154 st154 hQ154
              subst l154 y154 z154
              obtain ⟨rfl, N154q, I154_0⟩ := hQ154
              have N154 := Fr.app N149 N154q
              have r154 : own_R p.tables e below F0 (T154.setTop (mkF m 116 #[.val (.long p0s), .second, .val (.long p1s), .second, .val (.long p2s), .second, .val (.long p3s), .second, .val (.int p4s), .val (.ref b68), .val (.ref b89), .val (.int (1 : Int32)), .val (.int (1 : Int32)), .val (.int (1 : Int32)), .unset] [(.long (own_min p1s p3s)), (.long p2s)])) := fun t k => r153 t (st154 t k)
              by_cases hc155 : p3s < p1s
              · have ev156 : (own_min p1s p3s) = p3s := by unfold own_min; rw [if_pos hc155]
                have r157 : own_R p.tables e below F0 (T154.setTop (mkF m 116 #[.val (.long p0s), .second, .val (.long p1s), .second, .val (.long p2s), .second, .val (.long p3s), .second, .val (.int p4s), .val (.ref b68), .val (.ref b89), .val (.int (1 : Int32)), .val (.int (1 : Int32)), .val (.int (1 : Int32)), .unset] [(.long p3s), (.long p2s)])) := by have q := r154; rw [ev156] at q; exact q
                have r158 : own_R p.tables e below F0 (T154.setTop (mkF m 137 #[.val (.long p0s), .second, .val (.long p1s), .second, .val (.long p2s), .second, .val (.long p3s), .second, .val (.int p4s), .val (.ref b68), .val (.ref b89), .val (.int (1 : Int32)), .val (.int (1 : Int32)), .val (.int (1 : Int32)), .val (.int (1 : Int32))] [(.int (1 : Int32))])) := fun t k => by
                  refine r157 t ?_
                  show Steps p.tables e below (T154.setTop (mkF m 116 #[.val (.long p0s), .second, .val (.long p1s), .second, .val (.long p2s), .second, .val (.long p3s), .second, .val (.int p4s), .val (.ref b68), .val (.ref b89), .val (.int (1 : Int32)), .val (.int (1 : Int32)), .val (.int (1 : Int32)), .unset] [(.long p3s), (.long p2s)])) _
                  refine XS.lcmp X154.here hx rfl (hb hby at_116) rfl ?_
                  show Steps p.tables e below (T154.setTop (mkF m 117 #[.val (.long p0s), .second, .val (.long p1s), .second, .val (.long p2s), .second, .val (.long p3s), .second, .val (.int p4s), .val (.ref b68), .val (.ref b89), .val (.int (1 : Int32)), .val (.int (1 : Int32)), .val (.int (1 : Int32)), .unset] [(.int (lcmpW p2s p3s))])) _
                  refine XS.ifNo X154.here hx rfl (hb hby at_117) rfl (own_l_lt hc147).2 ?_
                  show Steps p.tables e below (T154.setTop (mkF m 120 #[.val (.long p0s), .second, .val (.long p1s), .second, .val (.long p2s), .second, .val (.long p3s), .second, .val (.int p4s), .val (.ref b68), .val (.ref b89), .val (.int (1 : Int32)), .val (.int (1 : Int32)), .val (.int (1 : Int32)), .unset] [])) _
                  refine XS.iconst X154.here hx rfl (hb hby at_120) ?_
                  show Steps p.tables e below (T154.setTop (mkF m 121 #[.val (.long p0s), .second, .val (.long p1s), .second, .val (.long p2s), .second, .val (.long p3s), .second, .val (.int p4s), .val (.ref b68), .val (.ref b89), .val (.int (1 : Int32)), .val (.int (1 : Int32)), .val (.int (1 : Int32)), .unset] [(.int (1 : Int32))])) _
                  refine XS.goto X154.here hx rfl (pc0 := 121) (pc' := 125) rfl (hb hby at_121) (by decide) (by decide) ?_
                  show Steps p.tables e below (T154.setTop (mkF m 125 #[.val (.long p0s), .second, .val (.long p1s), .second, .val (.long p2s), .second, .val (.long p3s), .second, .val (.int p4s), .val (.ref b68), .val (.ref b89), .val (.int (1 : Int32)), .val (.int (1 : Int32)), .val (.int (1 : Int32)), .unset] [(.int (1 : Int32))])) _
                  refine XS.istore X154.here hx rfl (hb hby at_125) rfl (l' := #[.val (.long p0s), .second, .val (.long p1s), .second, .val (.long p2s), .second, .val (.long p3s), .second, .val (.int p4s), .val (.ref b68), .val (.ref b89), .val (.int (1 : Int32)), .val (.int (1 : Int32)), .val (.int (1 : Int32)), .val (.int (1 : Int32))]) rfl ?_
                  show Steps p.tables e below (T154.setTop (mkF m 127 #[.val (.long p0s), .second, .val (.long p1s), .second, .val (.long p2s), .second, .val (.long p3s), .second, .val (.int p4s), .val (.ref b68), .val (.ref b89), .val (.int (1 : Int32)), .val (.int (1 : Int32)), .val (.int (1 : Int32)), .val (.int (1 : Int32))] [])) _
                  refine XS.iload X154.here hx rfl (hb hby at_127) rfl ?_
                  show Steps p.tables e below (T154.setTop (mkF m 129 #[.val (.long p0s), .second, .val (.long p1s), .second, .val (.long p2s), .second, .val (.long p3s), .second, .val (.int p4s), .val (.ref b68), .val (.ref b89), .val (.int (1 : Int32)), .val (.int (1 : Int32)), .val (.int (1 : Int32)), .val (.int (1 : Int32))] [(.int (1 : Int32))])) _
                  refine XS.iload X154.here hx rfl (hb hby at_129) rfl ?_
                  show Steps p.tables e below (T154.setTop (mkF m 131 #[.val (.long p0s), .second, .val (.long p1s), .second, .val (.long p2s), .second, .val (.long p3s), .second, .val (.int p4s), .val (.ref b68), .val (.ref b89), .val (.int (1 : Int32)), .val (.int (1 : Int32)), .val (.int (1 : Int32)), .val (.int (1 : Int32))] [(.int (1 : Int32)), (.int (1 : Int32))])) _
                  refine XS.icmpYes X154.here hx rfl (pc0 := 131) (pc' := 136) rfl (hb hby at_131) rfl (teq (show (1 : Int32) = (1 : Int32) from by decide)).1 (by decide) (by decide) ?_
                  show Steps p.tables e below (T154.setTop (mkF m 136 #[.val (.long p0s), .second, .val (.long p1s), .second, .val (.long p2s), .second, .val (.long p3s), .second, .val (.int p4s), .val (.ref b68), .val (.ref b89), .val (.int (1 : Int32)), .val (.int (1 : Int32)), .val (.int (1 : Int32)), .val (.int (1 : Int32))] [])) _
                  refine XS.iconst X154.here hx rfl (hb hby at_136) ?_
                  exact k
                refine hG (own_fin X154 hlk (some (.int (nar .boolean (1 : Int32)))) (own_hv Bd.returns) ?_ (by decide) (by decide) (fun fs hr => r158 _ (retN X154 hx (t := .boolean) Bd.returns (by simp) (hb hby at_137) hr)))
                rw [I154_0]
                exact ⟨rfl, N154⟩
              · have ev159 : (own_min p1s p3s) = p1s := by unfold own_min; rw [if_neg hc155]
                have r160 : own_R p.tables e below F0 (T154.setTop (mkF m 116 #[.val (.long p0s), .second, .val (.long p1s), .second, .val (.long p2s), .second, .val (.long p3s), .second, .val (.int p4s), .val (.ref b68), .val (.ref b89), .val (.int (1 : Int32)), .val (.int (1 : Int32)), .val (.int (1 : Int32)), .unset] [(.long p1s), (.long p2s)])) := by have q := r154; rw [ev159] at q; exact q
                have r161 : own_R p.tables e below F0 (T154.setTop (mkF m 137 #[.val (.long p0s), .second, .val (.long p1s), .second, .val (.long p2s), .second, .val (.long p3s), .second, .val (.int p4s), .val (.ref b68), .val (.ref b89), .val (.int (1 : Int32)), .val (.int (1 : Int32)), .val (.int (1 : Int32)), .val (.int (1 : Int32))] [(.int (1 : Int32))])) := fun t k => by
                  refine r160 t ?_
                  show Steps p.tables e below (T154.setTop (mkF m 116 #[.val (.long p0s), .second, .val (.long p1s), .second, .val (.long p2s), .second, .val (.long p3s), .second, .val (.int p4s), .val (.ref b68), .val (.ref b89), .val (.int (1 : Int32)), .val (.int (1 : Int32)), .val (.int (1 : Int32)), .unset] [(.long p1s), (.long p2s)])) _
                  refine XS.lcmp X154.here hx rfl (hb hby at_116) rfl ?_
                  show Steps p.tables e below (T154.setTop (mkF m 117 #[.val (.long p0s), .second, .val (.long p1s), .second, .val (.long p2s), .second, .val (.long p3s), .second, .val (.int p4s), .val (.ref b68), .val (.ref b89), .val (.int (1 : Int32)), .val (.int (1 : Int32)), .val (.int (1 : Int32)), .unset] [(.int (lcmpW p2s p1s))])) _
                  refine XS.ifNo X154.here hx rfl (hb hby at_117) rfl (own_l_lt hc134).2 ?_
                  show Steps p.tables e below (T154.setTop (mkF m 120 #[.val (.long p0s), .second, .val (.long p1s), .second, .val (.long p2s), .second, .val (.long p3s), .second, .val (.int p4s), .val (.ref b68), .val (.ref b89), .val (.int (1 : Int32)), .val (.int (1 : Int32)), .val (.int (1 : Int32)), .unset] [])) _
                  refine XS.iconst X154.here hx rfl (hb hby at_120) ?_
                  show Steps p.tables e below (T154.setTop (mkF m 121 #[.val (.long p0s), .second, .val (.long p1s), .second, .val (.long p2s), .second, .val (.long p3s), .second, .val (.int p4s), .val (.ref b68), .val (.ref b89), .val (.int (1 : Int32)), .val (.int (1 : Int32)), .val (.int (1 : Int32)), .unset] [(.int (1 : Int32))])) _
                  refine XS.goto X154.here hx rfl (pc0 := 121) (pc' := 125) rfl (hb hby at_121) (by decide) (by decide) ?_
                  show Steps p.tables e below (T154.setTop (mkF m 125 #[.val (.long p0s), .second, .val (.long p1s), .second, .val (.long p2s), .second, .val (.long p3s), .second, .val (.int p4s), .val (.ref b68), .val (.ref b89), .val (.int (1 : Int32)), .val (.int (1 : Int32)), .val (.int (1 : Int32)), .unset] [(.int (1 : Int32))])) _
                  refine XS.istore X154.here hx rfl (hb hby at_125) rfl (l' := #[.val (.long p0s), .second, .val (.long p1s), .second, .val (.long p2s), .second, .val (.long p3s), .second, .val (.int p4s), .val (.ref b68), .val (.ref b89), .val (.int (1 : Int32)), .val (.int (1 : Int32)), .val (.int (1 : Int32)), .val (.int (1 : Int32))]) rfl ?_
                  show Steps p.tables e below (T154.setTop (mkF m 127 #[.val (.long p0s), .second, .val (.long p1s), .second, .val (.long p2s), .second, .val (.long p3s), .second, .val (.int p4s), .val (.ref b68), .val (.ref b89), .val (.int (1 : Int32)), .val (.int (1 : Int32)), .val (.int (1 : Int32)), .val (.int (1 : Int32))] [])) _
                  refine XS.iload X154.here hx rfl (hb hby at_127) rfl ?_
                  show Steps p.tables e below (T154.setTop (mkF m 129 #[.val (.long p0s), .second, .val (.long p1s), .second, .val (.long p2s), .second, .val (.long p3s), .second, .val (.int p4s), .val (.ref b68), .val (.ref b89), .val (.int (1 : Int32)), .val (.int (1 : Int32)), .val (.int (1 : Int32)), .val (.int (1 : Int32))] [(.int (1 : Int32))])) _
                  refine XS.iload X154.here hx rfl (hb hby at_129) rfl ?_
                  show Steps p.tables e below (T154.setTop (mkF m 131 #[.val (.long p0s), .second, .val (.long p1s), .second, .val (.long p2s), .second, .val (.long p3s), .second, .val (.int p4s), .val (.ref b68), .val (.ref b89), .val (.int (1 : Int32)), .val (.int (1 : Int32)), .val (.int (1 : Int32)), .val (.int (1 : Int32))] [(.int (1 : Int32)), (.int (1 : Int32))])) _
                  refine XS.icmpYes X154.here hx rfl (pc0 := 131) (pc' := 136) rfl (hb hby at_131) rfl (teq (show (1 : Int32) = (1 : Int32) from by decide)).1 (by decide) (by decide) ?_
                  show Steps p.tables e below (T154.setTop (mkF m 136 #[.val (.long p0s), .second, .val (.long p1s), .second, .val (.long p2s), .second, .val (.long p3s), .second, .val (.int p4s), .val (.ref b68), .val (.ref b89), .val (.int (1 : Int32)), .val (.int (1 : Int32)), .val (.int (1 : Int32)), .val (.int (1 : Int32))] [])) _
                  refine XS.iconst X154.here hx rfl (hb hby at_136) ?_
                  exact k
                refine hG (own_fin X154 hlk (some (.int (nar .boolean (1 : Int32)))) (own_hv Bd.returns) ?_ (by decide) (by decide) (fun fs hr => r161 _ (retN X154 hx (t := .boolean) Bd.returns (by simp) (hb hby at_137) hr)))
                rw [I154_0]
                exact ⟨rfl, N154⟩
            · have ev162 : (own_max p0s p2s) = p0s := by unfold own_max; rw [if_neg hc150]
              have r163 : own_R p.tables e below F0 (T149.setTop (mkF m 110 #[.val (.long p0s), .second, .val (.long p1s), .second, .val (.long p2s), .second, .val (.long p3s), .second, .val (.int p4s), .val (.ref b68), .val (.ref b89), .val (.int (1 : Int32)), .val (.int (1 : Int32)), .val (.int (1 : Int32)), .unset] [(.long p0s)])) := by have q := r149; rw [ev162] at q; exact q
              have r164 : own_R p.tables e below F0 (T149.setTop (mkF m 113 #[.val (.long p0s), .second, .val (.long p1s), .second, .val (.long p2s), .second, .val (.long p3s), .second, .val (.int p4s), .val (.ref b68), .val (.ref b89), .val (.int (1 : Int32)), .val (.int (1 : Int32)), .val (.int (1 : Int32)), .unset] [(.long p3s), (.long p1s), (.long p0s)])) := fun t k => by
                refine r163 t ?_
                show Steps p.tables e below (T149.setTop (mkF m 110 #[.val (.long p0s), .second, .val (.long p1s), .second, .val (.long p2s), .second, .val (.long p3s), .second, .val (.int p4s), .val (.ref b68), .val (.ref b89), .val (.int (1 : Int32)), .val (.int (1 : Int32)), .val (.int (1 : Int32)), .unset] [(.long p0s)])) _
                refine XS.lloadN X149.here hx rfl (hb hby at_110) rfl ?_
                show Steps p.tables e below (T149.setTop (mkF m 111 #[.val (.long p0s), .second, .val (.long p1s), .second, .val (.long p2s), .second, .val (.long p3s), .second, .val (.int p4s), .val (.ref b68), .val (.ref b89), .val (.int (1 : Int32)), .val (.int (1 : Int32)), .val (.int (1 : Int32)), .unset] [(.long p1s), (.long p0s)])) _
                refine XS.lload X149.here hx rfl (hb hby at_111) rfl ?_
                exact k
              obtain ⟨_, _, ⟨T165, L165, k165, n165⟩, -, X165, ⟨Lc165, hQ165, l165, y165, z165⟩, st165⟩ := Jvm.LawKit.callS X149 hx (y := (⟨"java/lang/Math", "min", "(JJ)J"⟩ : MethodName)) hown (mvT hZ (hw _ (List.mem_of_getElem? (i := 32) rfl))) (mvT hZ (hw _ (List.mem_of_getElem? (i := 33) rfl))) (mvT hZ (hw _ (List.mem_of_getElem? (i := 30) rfl))) (mvT hZ (hw _ (List.mem_of_getElem? (i := 34) rfl))) (by decide) (backOf (W := 2) (rm6 l Z a0 hw [] p1s p3s h121 n0 Zs130 ) hZ (hw _ (List.mem_of_getElem? (i := 34) rfl)) (hw _ (List.mem_of_getElem? (i := 30) rfl)) (by decide) (by decide)) (g := (mkF m 113 #[.val (.long p0s), .second, .val (.long p1s), .second, .val (.long p2s), .second, .val (.long p3s), .second, .val (.int p4s), .val (.ref b68), .val (.ref b89), .val (.int (1 : Int32)), .val (.int (1 : Int32)), .val (.int (1 : Int32)), .unset] [(.long p3s), (.long p1s), (.long p0s)])) rfl (by rw [hml]; rfl) (argsL := [(.long p1s), (.long p3s)]) (rest := [(.long p0s)]) (lenOf pd_3 rfl) rfl (by show 2 * 0 + _ ≤ _; exact Nat.le_of_eq rfl) (hb hby at_113) (fun _ _ => ⟨rfl, I149_0, (by decide : 4 + 0 ≤ _), (by decide : 8 + 0 ≤ _)⟩)
              dsimp only [Pt.U, Pt.locs, Pt.cells, Pt.slots] at X165 l165 y165 z165 st165 hQ165
              subst l165 y165 z165
              obtain ⟨rfl, N165q, I165_0⟩ := hQ165
              have N165 := Fr.app N149 N165q
              have r165 : own_R p.tables e below F0 (T165.setTop (mkF m 116 #[.val (.long p0s), .second, .val (.long p1s), .second, .val (.long p2s), .second, .val (.long p3s), .second, .val (.int p4s), .val (.ref b68), .val (.ref b89), .val (.int (1 : Int32)), .val (.int (1 : Int32)), .val (.int (1 : Int32)), .unset] [(.long (own_min p1s p3s)), (.long p0s)])) := fun t k => r164 t (st165 t k)
              by_cases hc166 : p3s < p1s
              · have ev167 : (own_min p1s p3s) = p3s := by unfold own_min; rw [if_pos hc166]
                have r168 : own_R p.tables e below F0 (T165.setTop (mkF m 116 #[.val (.long p0s), .second, .val (.long p1s), .second, .val (.long p2s), .second, .val (.long p3s), .second, .val (.int p4s), .val (.ref b68), .val (.ref b89), .val (.int (1 : Int32)), .val (.int (1 : Int32)), .val (.int (1 : Int32)), .unset] [(.long p3s), (.long p0s)])) := by have q := r165; rw [ev167] at q; exact q
                have r169 : own_R p.tables e below F0 (T165.setTop (mkF m 137 #[.val (.long p0s), .second, .val (.long p1s), .second, .val (.long p2s), .second, .val (.long p3s), .second, .val (.int p4s), .val (.ref b68), .val (.ref b89), .val (.int (1 : Int32)), .val (.int (1 : Int32)), .val (.int (1 : Int32)), .val (.int (1 : Int32))] [(.int (1 : Int32))])) := fun t k => by
                  refine r168 t ?_
                  show Steps p.tables e below (T165.setTop (mkF m 116 #[.val (.long p0s), .second, .val (.long p1s), .second, .val (.long p2s), .second, .val (.long p3s), .second, .val (.int p4s), .val (.ref b68), .val (.ref b89), .val (.int (1 : Int32)), .val (.int (1 : Int32)), .val (.int (1 : Int32)), .unset] [(.long p3s), (.long p0s)])) _
                  refine XS.lcmp X165.here hx rfl (hb hby at_116) rfl ?_
                  show Steps p.tables e below (T165.setTop (mkF m 117 #[.val (.long p0s), .second, .val (.long p1s), .second, .val (.long p2s), .second, .val (.long p3s), .second, .val (.int p4s), .val (.ref b68), .val (.ref b89), .val (.int (1 : Int32)), .val (.int (1 : Int32)), .val (.int (1 : Int32)), .unset] [(.int (lcmpW p0s p3s))])) _
                  refine XS.ifNo X165.here hx rfl (hb hby at_117) rfl (own_l_lt hc133).2 ?_
                  show Steps p.tables e below (T165.setTop (mkF m 120 #[.val (.long p0s), .second, .val (.long p1s), .second, .val (.long p2s), .second, .val (.long p3s), .second, .val (.int p4s), .val (.ref b68), .val (.ref b89), .val (.int (1 : Int32)), .val (.int (1 : Int32)), .val (.int (1 : Int32)), .unset] [])) _
                  refine XS.iconst X165.here hx rfl (hb hby at_120) ?_
                  show Steps p.tables e below (T165.setTop (mkF m 121 #[.val (.long p0s), .second, .val (.long p1s), .second, .val (.long p2s), .second, .val (.long p3s), .second, .val (.int p4s), .val (.ref b68), .val (.ref b89), .val (.int (1 : Int32)), .val (.int (1 : Int32)), .val (.int (1 : Int32)), .unset] [(.int (1 : Int32))])) _
                  refine XS.goto X165.here hx rfl (pc0 := 121) (pc' := 125) rfl (hb hby at_121) (by decide) (by decide) ?_
                  show Steps p.tables e below (T165.setTop (mkF m 125 #[.val (.long p0s), .second, .val (.long p1s), .second, .val (.long p2s), .second, .val (.long p3s), .second, .val (.int p4s), .val (.ref b68), .val (.ref b89), .val (.int (1 : Int32)), .val (.int (1 : Int32)), .val (.int (1 : Int32)), .unset] [(.int (1 : Int32))])) _
                  refine XS.istore X165.here hx rfl (hb hby at_125) rfl (l' := #[.val (.long p0s), .second, .val (.long p1s), .second, .val (.long p2s), .second, .val (.long p3s), .second, .val (.int p4s), .val (.ref b68), .val (.ref b89), .val (.int (1 : Int32)), .val (.int (1 : Int32)), .val (.int (1 : Int32)), .val (.int (1 : Int32))]) rfl ?_
                  show Steps p.tables e below (T165.setTop (mkF m 127 #[.val (.long p0s), .second, .val (.long p1s), .second, .val (.long p2s), .second, .val (.long p3s), .second, .val (.int p4s), .val (.ref b68), .val (.ref b89), .val (.int (1 : Int32)), .val (.int (1 : Int32)), .val (.int (1 : Int32)), .val (.int (1 : Int32))] [])) _
                  refine XS.iload X165.here hx rfl (hb hby at_127) rfl ?_
                  show Steps p.tables e below (T165.setTop (mkF m 129 #[.val (.long p0s), .second, .val (.long p1s), .second, .val (.long p2s), .second, .val (.long p3s), .second, .val (.int p4s), .val (.ref b68), .val (.ref b89), .val (.int (1 : Int32)), .val (.int (1 : Int32)), .val (.int (1 : Int32)), .val (.int (1 : Int32))] [(.int (1 : Int32))])) _
                  refine XS.iload X165.here hx rfl (hb hby at_129) rfl ?_
                  show Steps p.tables e below (T165.setTop (mkF m 131 #[.val (.long p0s), .second, .val (.long p1s), .second, .val (.long p2s), .second, .val (.long p3s), .second, .val (.int p4s), .val (.ref b68), .val (.ref b89), .val (.int (1 : Int32)), .val (.int (1 : Int32)), .val (.int (1 : Int32)), .val (.int (1 : Int32))] [(.int (1 : Int32)), (.int (1 : Int32))])) _
                  refine XS.icmpYes X165.here hx rfl (pc0 := 131) (pc' := 136) rfl (hb hby at_131) rfl (teq (show (1 : Int32) = (1 : Int32) from by decide)).1 (by decide) (by decide) ?_
                  show Steps p.tables e below (T165.setTop (mkF m 136 #[.val (.long p0s), .second, .val (.long p1s), .second, .val (.long p2s), .second, .val (.long p3s), .second, .val (.int p4s), .val (.ref b68), .val (.ref b89), .val (.int (1 : Int32)), .val (.int (1 : Int32)), .val (.int (1 : Int32)), .val (.int (1 : Int32))] [])) _
                  refine XS.iconst X165.here hx rfl (hb hby at_136) ?_
                  exact k
                refine hG (own_fin X165 hlk (some (.int (nar .boolean (1 : Int32)))) (own_hv Bd.returns) ?_ (by decide) (by decide) (fun fs hr => r169 _ (retN X165 hx (t := .boolean) Bd.returns (by simp) (hb hby at_137) hr)))
                rw [I165_0]
                exact ⟨rfl, N165⟩
              · have ev170 : (own_min p1s p3s) = p1s := by unfold own_min; rw [if_neg hc166]
                have r171 : own_R p.tables e below F0 (T165.setTop (mkF m 116 #[.val (.long p0s), .second, .val (.long p1s), .second, .val (.long p2s), .second, .val (.long p3s), .second, .val (.int p4s), .val (.ref b68), .val (.ref b89), .val (.int (1 : Int32)), .val (.int (1 : Int32)), .val (.int (1 : Int32)), .unset] [(.long p1s), (.long p0s)])) := by have q := r165; rw [ev170] at q; exact q
                have r172 : own_R p.tables e below F0 (T165.setTop (mkF m 137 #[.val (.long p0s), .second, .val (.long p1s), .second, .val (.long p2s), .second, .val (.long p3s), .second, .val (.int p4s), .val (.ref b68), .val (.ref b89), .val (.int (1 : Int32)), .val (.int (1 : Int32)), .val (.int (1 : Int32)), .val (.int (1 : Int32))] [(.int (1 : Int32))])) := fun t k => by
                  refine r171 t ?_
                  show Steps p.tables e below (T165.setTop (mkF m 116 #[.val (.long p0s), .second, .val (.long p1s), .second, .val (.long p2s), .second, .val (.long p3s), .second, .val (.int p4s), .val (.ref b68), .val (.ref b89), .val (.int (1 : Int32)), .val (.int (1 : Int32)), .val (.int (1 : Int32)), .unset] [(.long p1s), (.long p0s)])) _
                  refine XS.lcmp X165.here hx rfl (hb hby at_116) rfl ?_
                  show Steps p.tables e below (T165.setTop (mkF m 117 #[.val (.long p0s), .second, .val (.long p1s), .second, .val (.long p2s), .second, .val (.long p3s), .second, .val (.int p4s), .val (.ref b68), .val (.ref b89), .val (.int (1 : Int32)), .val (.int (1 : Int32)), .val (.int (1 : Int32)), .unset] [(.int (lcmpW p0s p1s))])) _
                  refine XS.ifNo X165.here hx rfl (hb hby at_117) rfl (own_l_lt hc143).2 ?_
                  show Steps p.tables e below (T165.setTop (mkF m 120 #[.val (.long p0s), .second, .val (.long p1s), .second, .val (.long p2s), .second, .val (.long p3s), .second, .val (.int p4s), .val (.ref b68), .val (.ref b89), .val (.int (1 : Int32)), .val (.int (1 : Int32)), .val (.int (1 : Int32)), .unset] [])) _
                  refine XS.iconst X165.here hx rfl (hb hby at_120) ?_
                  show Steps p.tables e below (T165.setTop (mkF m 121 #[.val (.long p0s), .second, .val (.long p1s), .second, .val (.long p2s), .second, .val (.long p3s), .second, .val (.int p4s), .val (.ref b68), .val (.ref b89), .val (.int (1 : Int32)), .val (.int (1 : Int32)), .val (.int (1 : Int32)), .unset] [(.int (1 : Int32))])) _
                  refine XS.goto X165.here hx rfl (pc0 := 121) (pc' := 125) rfl (hb hby at_121) (by decide) (by decide) ?_
                  show Steps p.tables e below (T165.setTop (mkF m 125 #[.val (.long p0s), .second, .val (.long p1s), .second, .val (.long p2s), .second, .val (.long p3s), .second, .val (.int p4s), .val (.ref b68), .val (.ref b89), .val (.int (1 : Int32)), .val (.int (1 : Int32)), .val (.int (1 : Int32)), .unset] [(.int (1 : Int32))])) _
                  refine XS.istore X165.here hx rfl (hb hby at_125) rfl (l' := #[.val (.long p0s), .second, .val (.long p1s), .second, .val (.long p2s), .second, .val (.long p3s), .second, .val (.int p4s), .val (.ref b68), .val (.ref b89), .val (.int (1 : Int32)), .val (.int (1 : Int32)), .val (.int (1 : Int32)), .val (.int (1 : Int32))]) rfl ?_
                  show Steps p.tables e below (T165.setTop (mkF m 127 #[.val (.long p0s), .second, .val (.long p1s), .second, .val (.long p2s), .second, .val (.long p3s), .second, .val (.int p4s), .val (.ref b68), .val (.ref b89), .val (.int (1 : Int32)), .val (.int (1 : Int32)), .val (.int (1 : Int32)), .val (.int (1 : Int32))] [])) _
                  refine XS.iload X165.here hx rfl (hb hby at_127) rfl ?_
                  show Steps p.tables e below (T165.setTop (mkF m 129 #[.val (.long p0s), .second, .val (.long p1s), .second, .val (.long p2s), .second, .val (.long p3s), .second, .val (.int p4s), .val (.ref b68), .val (.ref b89), .val (.int (1 : Int32)), .val (.int (1 : Int32)), .val (.int (1 : Int32)), .val (.int (1 : Int32))] [(.int (1 : Int32))])) _
                  refine XS.iload X165.here hx rfl (hb hby at_129) rfl ?_
                  show Steps p.tables e below (T165.setTop (mkF m 131 #[.val (.long p0s), .second, .val (.long p1s), .second, .val (.long p2s), .second, .val (.long p3s), .second, .val (.int p4s), .val (.ref b68), .val (.ref b89), .val (.int (1 : Int32)), .val (.int (1 : Int32)), .val (.int (1 : Int32)), .val (.int (1 : Int32))] [(.int (1 : Int32)), (.int (1 : Int32))])) _
                  refine XS.icmpYes X165.here hx rfl (pc0 := 131) (pc' := 136) rfl (hb hby at_131) rfl (teq (show (1 : Int32) = (1 : Int32) from by decide)).1 (by decide) (by decide) ?_
                  show Steps p.tables e below (T165.setTop (mkF m 136 #[.val (.long p0s), .second, .val (.long p1s), .second, .val (.long p2s), .second, .val (.long p3s), .second, .val (.int p4s), .val (.ref b68), .val (.ref b89), .val (.int (1 : Int32)), .val (.int (1 : Int32)), .val (.int (1 : Int32)), .val (.int (1 : Int32))] [])) _
                  refine XS.iconst X165.here hx rfl (hb hby at_136) ?_
                  exact k
                refine hG (own_fin X165 hlk (some (.int (nar .boolean (1 : Int32)))) (own_hv Bd.returns) ?_ (by decide) (by decide) (fun fs hr => r172 _ (retN X165 hx (t := .boolean) Bd.returns (by simp) (hb hby at_137) hr)))
                rw [I165_0]
                exact ⟨rfl, N165⟩
          · have r173 : own_R p.tables e below F0 (T142.setTop (mkF m 137 #[.val (.long p0s), .second, .val (.long p1s), .second, .val (.long p2s), .second, .val (.long p3s), .second, .val (.int p4s), .val (.ref b68), .val (.ref b89), .val (.int (1 : Int32)), .val (.int (1 : Int32)), .val (.int (1 : Int32)), .unset] [(.int (1 : Int32))])) := fun t k => by
              refine r146 t ?_
              show Steps p.tables e below (T142.setTop (mkF m 101 #[.val (.long p0s), .second, .val (.long p1s), .second, .val (.long p2s), .second, .val (.long p3s), .second, .val (.int p4s), .val (.ref b68), .val (.ref b89), .val (.int (1 : Int32)), .val (.int (1 : Int32)), .val (.int (1 : Int32)), .unset] [(.int (lcmpW p2s p3s))])) _
              refine XS.ifYes X142.here hx rfl (pc0 := 101) (pc' := 136) rfl (hb hby at_101) rfl (own_l_nlt hc147).2 (by decide) (by decide) ?_
              show Steps p.tables e below (T142.setTop (mkF m 136 #[.val (.long p0s), .second, .val (.long p1s), .second, .val (.long p2s), .second, .val (.long p3s), .second, .val (.int p4s), .val (.ref b68), .val (.ref b89), .val (.int (1 : Int32)), .val (.int (1 : Int32)), .val (.int (1 : Int32)), .unset] [])) _
              refine XS.iconst X142.here hx rfl (hb hby at_136) ?_
              exact k
            refine hG (own_fin X142 hlk (some (.int (nar .boolean (1 : Int32)))) (own_hv Bd.returns) ?_ (by decide) (by decide) (fun fs hr => r173 _ (retN X142 hx (t := .boolean) Bd.returns (by simp) (hb hby at_137) hr)))
            rw [I142_0]
            exact ⟨rfl, N142⟩
        · have ev174 : (own_over p0s p1s p0s p1s) = (0 : Int32) := by unfold own_over; rw [if_neg hc143]
          have r175 : own_R p.tables e below F0 (T142.setTop (mkF m 61 #[.val (.long p0s), .second, .val (.long p1s), .second, .val (.long p2s), .second, .val (.long p3s), .second, .val (.int p4s), .val (.ref b68), .val (.ref b89), .val (.int (1 : Int32)), .val (.int (1 : Int32)), .unset, .unset] [(.int (0 : Int32))])) := by have q := r142; rw [ev174] at q; exact q
          have r176 : own_R p.tables e below F0 (T142.setTop (mkF m 137 #[.val (.long p0s), .second, .val (.long p1s), .second, .val (.long p2s), .second, .val (.long p3s), .second, .val (.int p4s), .val (.ref b68), .val (.ref b89), .val (.int (1 : Int32)), .val (.int (1 : Int32)), .val (.int (0 : Int32)), .unset] [(.int (1 : Int32))])) := fun t k => by
            refine r175 t ?_
            show Steps p.tables e below (T142.setTop (mkF m 61 #[.val (.long p0s), .second, .val (.long p1s), .second, .val (.long p2s), .second, .val (.long p3s), .second, .val (.int p4s), .val (.ref b68), .val (.ref b89), .val (.int (1 : Int32)), .val (.int (1 : Int32)), .unset, .unset] [(.int (0 : Int32))])) _
            refine XS.istore X142.here hx rfl (hb hby at_61) rfl (l' := #[.val (.long p0s), .second, .val (.long p1s), .second, .val (.long p2s), .second, .val (.long p3s), .second, .val (.int p4s), .val (.ref b68), .val (.ref b89), .val (.int (1 : Int32)), .val (.int (1 : Int32)), .val (.int (0 : Int32)), .unset]) rfl ?_
            show Steps p.tables e below (T142.setTop (mkF m 63 #[.val (.long p0s), .second, .val (.long p1s), .second, .val (.long p2s), .second, .val (.long p3s), .second, .val (.int p4s), .val (.ref b68), .val (.ref b89), .val (.int (1 : Int32)), .val (.int (1 : Int32)), .val (.int (0 : Int32)), .unset] [])) _
            refine XS.iload X142.here hx rfl (hb hby at_63) rfl ?_
            show Steps p.tables e below (T142.setTop (mkF m 65 #[.val (.long p0s), .second, .val (.long p1s), .second, .val (.long p2s), .second, .val (.long p3s), .second, .val (.int p4s), .val (.ref b68), .val (.ref b89), .val (.int (1 : Int32)), .val (.int (1 : Int32)), .val (.int (0 : Int32)), .unset] [(.int (1 : Int32))])) _
            refine XS.iload X142.here hx rfl (hb hby at_65) rfl ?_
            show Steps p.tables e below (T142.setTop (mkF m 67 #[.val (.long p0s), .second, .val (.long p1s), .second, .val (.long p2s), .second, .val (.long p3s), .second, .val (.int p4s), .val (.ref b68), .val (.ref b89), .val (.int (1 : Int32)), .val (.int (1 : Int32)), .val (.int (0 : Int32)), .unset] [(.int (1 : Int32)), (.int (1 : Int32))])) _
            refine XS.icmpYes X142.here hx rfl (pc0 := 67) (pc' := 72) rfl (hb hby at_67) rfl (teq (show (1 : Int32) = (1 : Int32) from by decide)).1 (by decide) (by decide) ?_
            show Steps p.tables e below (T142.setTop (mkF m 72 #[.val (.long p0s), .second, .val (.long p1s), .second, .val (.long p2s), .second, .val (.long p3s), .second, .val (.int p4s), .val (.ref b68), .val (.ref b89), .val (.int (1 : Int32)), .val (.int (1 : Int32)), .val (.int (0 : Int32)), .unset] [])) _
            refine XS.iload X142.here hx rfl (hb hby at_72) rfl ?_
            show Steps p.tables e below (T142.setTop (mkF m 74 #[.val (.long p0s), .second, .val (.long p1s), .second, .val (.long p2s), .second, .val (.long p3s), .second, .val (.int p4s), .val (.ref b68), .val (.ref b89), .val (.int (1 : Int32)), .val (.int (1 : Int32)), .val (.int (0 : Int32)), .unset] [(.int (0 : Int32))])) _
            refine XS.lloadN X142.here hx rfl (hb hby at_74) rfl ?_
            show Steps p.tables e below (T142.setTop (mkF m 75 #[.val (.long p0s), .second, .val (.long p1s), .second, .val (.long p2s), .second, .val (.long p3s), .second, .val (.int p4s), .val (.ref b68), .val (.ref b89), .val (.int (1 : Int32)), .val (.int (1 : Int32)), .val (.int (0 : Int32)), .unset] [(.long p0s), (.int (0 : Int32))])) _
            refine XS.lloadN X142.here hx rfl (hb hby at_75) rfl ?_
            show Steps p.tables e below (T142.setTop (mkF m 76 #[.val (.long p0s), .second, .val (.long p1s), .second, .val (.long p2s), .second, .val (.long p3s), .second, .val (.int p4s), .val (.ref b68), .val (.ref b89), .val (.int (1 : Int32)), .val (.int (1 : Int32)), .val (.int (0 : Int32)), .unset] [(.long p1s), (.long p0s), (.int (0 : Int32))])) _
            refine XS.lcmp X142.here hx rfl (hb hby at_76) rfl ?_
            show Steps p.tables e below (T142.setTop (mkF m 77 #[.val (.long p0s), .second, .val (.long p1s), .second, .val (.long p2s), .second, .val (.long p3s), .second, .val (.int p4s), .val (.ref b68), .val (.ref b89), .val (.int (1 : Int32)), .val (.int (1 : Int32)), .val (.int (0 : Int32)), .unset] [(.int (lcmpW p0s p1s)), (.int (0 : Int32))])) _
            refine XS.ifYes X142.here hx rfl (pc0 := 77) (pc' := 84) rfl (hb hby at_77) rfl (own_l_nlt hc143).2 (by decide) (by decide) ?_
            show Steps p.tables e below (T142.setTop (mkF m 84 #[.val (.long p0s), .second, .val (.long p1s), .second, .val (.long p2s), .second, .val (.long p3s), .second, .val (.int p4s), .val (.ref b68), .val (.ref b89), .val (.int (1 : Int32)), .val (.int (1 : Int32)), .val (.int (0 : Int32)), .unset] [(.int (0 : Int32))])) _
            refine XS.iconst X142.here hx rfl (hb hby at_84) ?_
            show Steps p.tables e below (T142.setTop (mkF m 85 #[.val (.long p0s), .second, .val (.long p1s), .second, .val (.long p2s), .second, .val (.long p3s), .second, .val (.int p4s), .val (.ref b68), .val (.ref b89), .val (.int (1 : Int32)), .val (.int (1 : Int32)), .val (.int (0 : Int32)), .unset] [(.int (0 : Int32)), (.int (0 : Int32))])) _
            refine XS.icmpYes X142.here hx rfl (pc0 := 85) (pc' := 90) rfl (hb hby at_85) rfl (teq (show (0 : Int32) = (0 : Int32) from by decide)).1 (by decide) (by decide) ?_
            show Steps p.tables e below (T142.setTop (mkF m 90 #[.val (.long p0s), .second, .val (.long p1s), .second, .val (.long p2s), .second, .val (.long p3s), .second, .val (.int p4s), .val (.ref b68), .val (.ref b89), .val (.int (1 : Int32)), .val (.int (1 : Int32)), .val (.int (0 : Int32)), .unset] [])) _
            refine XS.lloadN X142.here hx rfl (hb hby at_90) rfl ?_
            show Steps p.tables e below (T142.setTop (mkF m 91 #[.val (.long p0s), .second, .val (.long p1s), .second, .val (.long p2s), .second, .val (.long p3s), .second, .val (.int p4s), .val (.ref b68), .val (.ref b89), .val (.int (1 : Int32)), .val (.int (1 : Int32)), .val (.int (0 : Int32)), .unset] [(.long p0s)])) _
            refine XS.lloadN X142.here hx rfl (hb hby at_91) rfl ?_
            show Steps p.tables e below (T142.setTop (mkF m 92 #[.val (.long p0s), .second, .val (.long p1s), .second, .val (.long p2s), .second, .val (.long p3s), .second, .val (.int p4s), .val (.ref b68), .val (.ref b89), .val (.int (1 : Int32)), .val (.int (1 : Int32)), .val (.int (0 : Int32)), .unset] [(.long p1s), (.long p0s)])) _
            refine XS.lcmp X142.here hx rfl (hb hby at_92) rfl ?_
            show Steps p.tables e below (T142.setTop (mkF m 93 #[.val (.long p0s), .second, .val (.long p1s), .second, .val (.long p2s), .second, .val (.long p3s), .second, .val (.int p4s), .val (.ref b68), .val (.ref b89), .val (.int (1 : Int32)), .val (.int (1 : Int32)), .val (.int (0 : Int32)), .unset] [(.int (lcmpW p0s p1s))])) _
            refine XS.ifYes X142.here hx rfl (pc0 := 93) (pc' := 136) rfl (hb hby at_93) rfl (own_l_nlt hc143).2 (by decide) (by decide) ?_
            show Steps p.tables e below (T142.setTop (mkF m 136 #[.val (.long p0s), .second, .val (.long p1s), .second, .val (.long p2s), .second, .val (.long p3s), .second, .val (.int p4s), .val (.ref b68), .val (.ref b89), .val (.int (1 : Int32)), .val (.int (1 : Int32)), .val (.int (0 : Int32)), .unset] [])) _
            refine XS.iconst X142.here hx rfl (hb hby at_136) ?_
            exact k
          refine hG (own_fin X142 hlk (some (.int (nar .boolean (1 : Int32)))) (own_hv Bd.returns) ?_ (by decide) (by decide) (fun fs hr => r176 _ (retN X142 hx (t := .boolean) Bd.returns (by simp) (hb hby at_137) hr)))
          rw [I142_0]
          exact ⟨rfl, N142⟩
      · have ev177 : (own_over p0s p1s p2s p3s) = (0 : Int32) := by unfold own_over; rw [if_pos hc133, if_neg hc134]
        have r178 : own_R p.tables e below F0 (T132.setTop (mkF m 43 #[.val (.long p0s), .second, .val (.long p1s), .second, .val (.long p2s), .second, .val (.long p3s), .second, .val (.int p4s), .val (.ref b68), .val (.ref b89), .unset, .unset, .unset, .unset] [(.int (0 : Int32))])) := by have q := r132; rw [ev177] at q; exact q
        have r179 : own_R p.tables e below F0 (T132.setTop (mkF m 49 #[.val (.long p0s), .second, .val (.long p1s), .second, .val (.long p2s), .second, .val (.long p3s), .second, .val (.int p4s), .val (.ref b68), .val (.ref b89), .val (.int (0 : Int32)), .unset, .unset, .unset] [(.ref b68), (.ref b89)])) := fun t k => by
          refine r178 t ?_
          show Steps p.tables e below (T132.setTop (mkF m 43 #[.val (.long p0s), .second, .val (.long p1s), .second, .val (.long p2s), .second, .val (.long p3s), .second, .val (.int p4s), .val (.ref b68), .val (.ref b89), .unset, .unset, .unset, .unset] [(.int (0 : Int32))])) _
          refine XS.istore X132.here hx rfl (hb hby at_43) rfl (l' := #[.val (.long p0s), .second, .val (.long p1s), .second, .val (.long p2s), .second, .val (.long p3s), .second, .val (.int p4s), .val (.ref b68), .val (.ref b89), .val (.int (0 : Int32)), .unset, .unset, .unset]) rfl ?_
          show Steps p.tables e below (T132.setTop (mkF m 45 #[.val (.long p0s), .second, .val (.long p1s), .second, .val (.long p2s), .second, .val (.long p3s), .second, .val (.int p4s), .val (.ref b68), .val (.ref b89), .val (.int (0 : Int32)), .unset, .unset, .unset] [])) _
          refine XS.aload X132.here hx rfl (hb hby at_45) rfl rfl ?_
          show Steps p.tables e below (T132.setTop (mkF m 47 #[.val (.long p0s), .second, .val (.long p1s), .second, .val (.long p2s), .second, .val (.long p3s), .second, .val (.int p4s), .val (.ref b68), .val (.ref b89), .val (.int (0 : Int32)), .unset, .unset, .unset] [(.ref b89)])) _
          refine XS.aload X132.here hx rfl (hb hby at_47) rfl rfl ?_
          exact k
        obtain ⟨cq180, kq180, q180a, q180b, q180c⟩ := isOf hZ I132_0 I121_1
        obtain ⟨_, _, ⟨T180, L180, k180, n180⟩, -, X180, ⟨Lc180, hQ180, l180, y180, z180⟩, st180⟩ := X132.virtualBack hx (y := (⟨"com/example/invites_to_friends/invitestofriends/bench/Call", "overlaps", "(Lcom/example/invites_to_friends/invitestofriends/bench/Call;)Z"⟩ : MethodName)) (z := (⟨"com/example/invites_to_friends/invitestofriends/bench/Call", "overlaps", "(Lcom/example/invites_to_friends/invitestofriends/bench/Call;)Z"⟩ : MethodName)) hown (mvT hZ (hw _ (List.mem_of_getElem? (i := 23) rfl))) (mvT hZ (hw _ (List.mem_of_getElem? (i := 24) rfl))) (notFace_of_selects (args := #[]) (mvT hZ (hw _ (List.mem_of_getElem? (i := 26) rfl)))) (mvT hZ (hw _ (List.mem_of_getElem? (i := 26) rfl))) (mvT hZ (hw _ (List.mem_of_getElem? (i := 25) rfl))) (by decide) (backOf (W := 0) (rm4 l Z a0 hw [] b89 b68 (p2s) (p3s) (p0s) (p1s) h121 n0 Zs130 I121_2 I121_3 F124 F125) hZ (hw _ (List.mem_of_getElem? (i := 27) rfl)) (hw _ (List.mem_of_getElem? (i := 2) rfl)) (by decide) (by decide)) q180a q180c (g := (mkF m 49 #[.val (.long p0s), .second, .val (.long p1s), .second, .val (.long p2s), .second, .val (.long p3s), .second, .val (.int p4s), .val (.ref b68), .val (.ref b89), .val (.int (0 : Int32)), .unset, .unset, .unset] [(.ref b68), (.ref b89)])) rfl (by rw [hml]; rfl) (Steps.refl _) (argsL := [(.ref b68)]) (rest := []) (lenOf pd_2 rfl) rfl (by show 2 * 0 + _ ≤ _; exact Nat.le_of_eq rfl) (hb hby at_49) (fun _ _ => ⟨rfl, I132_0, (by decide : 4 + 0 ≤ _), (by decide : 8 + 0 ≤ _)⟩)
        dsimp only [Pt.U, Pt.locs, Pt.cells, Pt.slots] at X180 l180 y180 z180 st180 hQ180
        subst l180 y180 z180
        obtain ⟨rfl, N180q, I180_0⟩ := hQ180
        have N180 := Fr.app N132 N180q
        have r180 : own_R p.tables e below F0 (T180.setTop (mkF m 52 #[.val (.long p0s), .second, .val (.long p1s), .second, .val (.long p2s), .second, .val (.long p3s), .second, .val (.int p4s), .val (.ref b68), .val (.ref b89), .val (.int (0 : Int32)), .unset, .unset, .unset] [(.int (own_over p2s p3s p0s p1s))])) := fun t k => r179 t (st180.trans k)
        have ev181 : (own_over p2s p3s p0s p1s) = (0 : Int32) := by unfold own_over; rw [if_neg hc134]
        have r182 : own_R p.tables e below F0 (T180.setTop (mkF m 52 #[.val (.long p0s), .second, .val (.long p1s), .second, .val (.long p2s), .second, .val (.long p3s), .second, .val (.int p4s), .val (.ref b68), .val (.ref b89), .val (.int (0 : Int32)), .unset, .unset, .unset] [(.int (0 : Int32))])) := by have q := r180; rw [ev181] at q; exact q
        have r183 : own_R p.tables e below F0 (T180.setTop (mkF m 58 #[.val (.long p0s), .second, .val (.long p1s), .second, .val (.long p2s), .second, .val (.long p3s), .second, .val (.int p4s), .val (.ref b68), .val (.ref b89), .val (.int (0 : Int32)), .val (.int (0 : Int32)), .unset, .unset] [(.ref b68), (.ref b68)])) := fun t k => by
          refine r182 t ?_
          show Steps p.tables e below (T180.setTop (mkF m 52 #[.val (.long p0s), .second, .val (.long p1s), .second, .val (.long p2s), .second, .val (.long p3s), .second, .val (.int p4s), .val (.ref b68), .val (.ref b89), .val (.int (0 : Int32)), .unset, .unset, .unset] [(.int (0 : Int32))])) _
          refine XS.istore X180.here hx rfl (hb hby at_52) rfl (l' := #[.val (.long p0s), .second, .val (.long p1s), .second, .val (.long p2s), .second, .val (.long p3s), .second, .val (.int p4s), .val (.ref b68), .val (.ref b89), .val (.int (0 : Int32)), .val (.int (0 : Int32)), .unset, .unset]) rfl ?_
          show Steps p.tables e below (T180.setTop (mkF m 54 #[.val (.long p0s), .second, .val (.long p1s), .second, .val (.long p2s), .second, .val (.long p3s), .second, .val (.int p4s), .val (.ref b68), .val (.ref b89), .val (.int (0 : Int32)), .val (.int (0 : Int32)), .unset, .unset] [])) _
          refine XS.aload X180.here hx rfl (hb hby at_54) rfl rfl ?_
          show Steps p.tables e below (T180.setTop (mkF m 56 #[.val (.long p0s), .second, .val (.long p1s), .second, .val (.long p2s), .second, .val (.long p3s), .second, .val (.int p4s), .val (.ref b68), .val (.ref b89), .val (.int (0 : Int32)), .val (.int (0 : Int32)), .unset, .unset] [(.ref b68)])) _
          refine XS.aload X180.here hx rfl (hb hby at_56) rfl rfl ?_
          exact k
        obtain ⟨cq184, kq184, q184a, q184b, q184c⟩ := isOf hZ I180_0 F123
        obtain ⟨_, _, ⟨T184, L184, k184, n184⟩, -, X184, ⟨Lc184, hQ184, l184, y184, z184⟩, st184⟩ := X180.virtualBack hx (y := (⟨"com/example/invites_to_friends/invitestofriends/bench/Call", "overlaps", "(Lcom/example/invites_to_friends/invitestofriends/bench/Call;)Z"⟩ : MethodName)) (z := (⟨"com/example/invites_to_friends/invitestofriends/bench/Call", "overlaps", "(Lcom/example/invites_to_friends/invitestofriends/bench/Call;)Z"⟩ : MethodName)) hown (mvT hZ (hw _ (List.mem_of_getElem? (i := 23) rfl))) (mvT hZ (hw _ (List.mem_of_getElem? (i := 24) rfl))) (notFace_of_selects (args := #[]) (mvT hZ (hw _ (List.mem_of_getElem? (i := 26) rfl)))) (mvT hZ (hw _ (List.mem_of_getElem? (i := 26) rfl))) (mvT hZ (hw _ (List.mem_of_getElem? (i := 25) rfl))) (by decide) (backOf (W := 0) (rm4 l Z a0 hw [] b68 b68 (p0s) (p1s) (p0s) (p1s) h121 n0 Zs130 F124 F125 F124 F125) hZ (hw _ (List.mem_of_getElem? (i := 27) rfl)) (hw _ (List.mem_of_getElem? (i := 2) rfl)) (by decide) (by decide)) q184a q184c (g := (mkF m 58 #[.val (.long p0s), .second, .val (.long p1s), .second, .val (.long p2s), .second, .val (.long p3s), .second, .val (.int p4s), .val (.ref b68), .val (.ref b89), .val (.int (0 : Int32)), .val (.int (0 : Int32)), .unset, .unset] [(.ref b68), (.ref b68)])) rfl (by rw [hml]; rfl) (Steps.refl _) (argsL := [(.ref b68)]) (rest := []) (lenOf pd_2 rfl) rfl (by show 2 * 0 + _ ≤ _; exact Nat.le_of_eq rfl) (hb hby at_58) (fun _ _ => ⟨rfl, I180_0, (by decide : 4 + 0 ≤ _), (by decide : 8 + 0 ≤ _)⟩)
        dsimp only [Pt.U, Pt.locs, Pt.cells, Pt.slots] at X184 l184 y184 z184 st184 hQ184
        subst l184 y184 z184
        obtain ⟨rfl, N184q, I184_0⟩ := hQ184
        have N184 := Fr.app N180 N184q
        have r184 : own_R p.tables e below F0 (T184.setTop (mkF m 61 #[.val (.long p0s), .second, .val (.long p1s), .second, .val (.long p2s), .second, .val (.long p3s), .second, .val (.int p4s), .val (.ref b68), .val (.ref b89), .val (.int (0 : Int32)), .val (.int (0 : Int32)), .unset, .unset] [(.int (own_over p0s p1s p0s p1s))])) := fun t k => r183 t (st184.trans k)
        by_cases hc185 : p0s < p1s
        · have ev186 : (own_over p0s p1s p0s p1s) = (1 : Int32) := by unfold own_over; rw [if_pos hc185, if_pos hc185]
          have r187 : own_R p.tables e below F0 (T184.setTop (mkF m 61 #[.val (.long p0s), .second, .val (.long p1s), .second, .val (.long p2s), .second, .val (.long p3s), .second, .val (.int p4s), .val (.ref b68), .val (.ref b89), .val (.int (0 : Int32)), .val (.int (0 : Int32)), .unset, .unset] [(.int (1 : Int32))])) := by have q := r184; rw [ev186] at q; exact q
          have r188 : own_R p.tables e below F0 (T184.setTop (mkF m 101 #[.val (.long p0s), .second, .val (.long p1s), .second, .val (.long p2s), .second, .val (.long p3s), .second, .val (.int p4s), .val (.ref b68), .val (.ref b89), .val (.int (0 : Int32)), .val (.int (0 : Int32)), .val (.int (1 : Int32)), .unset] [(.int (lcmpW p2s p3s))])) := fun t k => by
            refine r187 t ?_
            show Steps p.tables e below (T184.setTop (mkF m 61 #[.val (.long p0s), .second, .val (.long p1s), .second, .val (.long p2s), .second, .val (.long p3s), .second, .val (.int p4s), .val (.ref b68), .val (.ref b89), .val (.int (0 : Int32)), .val (.int (0 : Int32)), .unset, .unset] [(.int (1 : Int32))])) _
            refine XS.istore X184.here hx rfl (hb hby at_61) rfl (l' := #[.val (.long p0s), .second, .val (.long p1s), .second, .val (.long p2s), .second, .val (.long p3s), .second, .val (.int p4s), .val (.ref b68), .val (.ref b89), .val (.int (0 : Int32)), .val (.int (0 : Int32)), .val (.int (1 : Int32)), .unset]) rfl ?_
            show Steps p.tables e below (T184.setTop (mkF m 63 #[.val (.long p0s), .second, .val (.long p1s), .second, .val (.long p2s), .second, .val (.long p3s), .second, .val (.int p4s), .val (.ref b68), .val (.ref b89), .val (.int (0 : Int32)), .val (.int (0 : Int32)), .val (.int (1 : Int32)), .unset] [])) _
            refine XS.iload X184.here hx rfl (hb hby at_63) rfl ?_
            show Steps p.tables e below (T184.setTop (mkF m 65 #[.val (.long p0s), .second, .val (.long p1s), .second, .val (.long p2s), .second, .val (.long p3s), .second, .val (.int p4s), .val (.ref b68), .val (.ref b89), .val (.int (0 : Int32)), .val (.int (0 : Int32)), .val (.int (1 : Int32)), .unset] [(.int (0 : Int32))])) _
            refine XS.iload X184.here hx rfl (hb hby at_65) rfl ?_
            show Steps p.tables e below (T184.setTop (mkF m 67 #[.val (.long p0s), .second, .val (.long p1s), .second, .val (.long p2s), .second, .val (.long p3s), .second, .val (.int p4s), .val (.ref b68), .val (.ref b89), .val (.int (0 : Int32)), .val (.int (0 : Int32)), .val (.int (1 : Int32)), .unset] [(.int (0 : Int32)), (.int (0 : Int32))])) _
            refine XS.icmpYes X184.here hx rfl (pc0 := 67) (pc' := 72) rfl (hb hby at_67) rfl (teq (show (0 : Int32) = (0 : Int32) from by decide)).1 (by decide) (by decide) ?_
            show Steps p.tables e below (T184.setTop (mkF m 72 #[.val (.long p0s), .second, .val (.long p1s), .second, .val (.long p2s), .second, .val (.long p3s), .second, .val (.int p4s), .val (.ref b68), .val (.ref b89), .val (.int (0 : Int32)), .val (.int (0 : Int32)), .val (.int (1 : Int32)), .unset] [])) _
            refine XS.iload X184.here hx rfl (hb hby at_72) rfl ?_
            show Steps p.tables e below (T184.setTop (mkF m 74 #[.val (.long p0s), .second, .val (.long p1s), .second, .val (.long p2s), .second, .val (.long p3s), .second, .val (.int p4s), .val (.ref b68), .val (.ref b89), .val (.int (0 : Int32)), .val (.int (0 : Int32)), .val (.int (1 : Int32)), .unset] [(.int (1 : Int32))])) _
            refine XS.lloadN X184.here hx rfl (hb hby at_74) rfl ?_
            show Steps p.tables e below (T184.setTop (mkF m 75 #[.val (.long p0s), .second, .val (.long p1s), .second, .val (.long p2s), .second, .val (.long p3s), .second, .val (.int p4s), .val (.ref b68), .val (.ref b89), .val (.int (0 : Int32)), .val (.int (0 : Int32)), .val (.int (1 : Int32)), .unset] [(.long p0s), (.int (1 : Int32))])) _
            refine XS.lloadN X184.here hx rfl (hb hby at_75) rfl ?_
            show Steps p.tables e below (T184.setTop (mkF m 76 #[.val (.long p0s), .second, .val (.long p1s), .second, .val (.long p2s), .second, .val (.long p3s), .second, .val (.int p4s), .val (.ref b68), .val (.ref b89), .val (.int (0 : Int32)), .val (.int (0 : Int32)), .val (.int (1 : Int32)), .unset] [(.long p1s), (.long p0s), (.int (1 : Int32))])) _
            refine XS.lcmp X184.here hx rfl (hb hby at_76) rfl ?_
            show Steps p.tables e below (T184.setTop (mkF m 77 #[.val (.long p0s), .second, .val (.long p1s), .second, .val (.long p2s), .second, .val (.long p3s), .second, .val (.int p4s), .val (.ref b68), .val (.ref b89), .val (.int (0 : Int32)), .val (.int (0 : Int32)), .val (.int (1 : Int32)), .unset] [(.int (lcmpW p0s p1s)), (.int (1 : Int32))])) _
            refine XS.ifNo X184.here hx rfl (hb hby at_77) rfl (own_l_lt hc185).2 ?_
            show Steps p.tables e below (T184.setTop (mkF m 80 #[.val (.long p0s), .second, .val (.long p1s), .second, .val (.long p2s), .second, .val (.long p3s), .second, .val (.int p4s), .val (.ref b68), .val (.ref b89), .val (.int (0 : Int32)), .val (.int (0 : Int32)), .val (.int (1 : Int32)), .unset] [(.int (1 : Int32))])) _
            refine XS.iconst X184.here hx rfl (hb hby at_80) ?_
            show Steps p.tables e below (T184.setTop (mkF m 81 #[.val (.long p0s), .second, .val (.long p1s), .second, .val (.long p2s), .second, .val (.long p3s), .second, .val (.int p4s), .val (.ref b68), .val (.ref b89), .val (.int (0 : Int32)), .val (.int (0 : Int32)), .val (.int (1 : Int32)), .unset] [(.int (1 : Int32)), (.int (1 : Int32))])) _
            refine XS.goto X184.here hx rfl (pc0 := 81) (pc' := 85) rfl (hb hby at_81) (by decide) (by decide) ?_
            show Steps p.tables e below (T184.setTop (mkF m 85 #[.val (.long p0s), .second, .val (.long p1s), .second, .val (.long p2s), .second, .val (.long p3s), .second, .val (.int p4s), .val (.ref b68), .val (.ref b89), .val (.int (0 : Int32)), .val (.int (0 : Int32)), .val (.int (1 : Int32)), .unset] [(.int (1 : Int32)), (.int (1 : Int32))])) _
            refine XS.icmpYes X184.here hx rfl (pc0 := 85) (pc' := 90) rfl (hb hby at_85) rfl (teq (show (1 : Int32) = (1 : Int32) from by decide)).1 (by decide) (by decide) ?_
            show Steps p.tables e below (T184.setTop (mkF m 90 #[.val (.long p0s), .second, .val (.long p1s), .second, .val (.long p2s), .second, .val (.long p3s), .second, .val (.int p4s), .val (.ref b68), .val (.ref b89), .val (.int (0 : Int32)), .val (.int (0 : Int32)), .val (.int (1 : Int32)), .unset] [])) _
            refine XS.lloadN X184.here hx rfl (hb hby at_90) rfl ?_
            show Steps p.tables e below (T184.setTop (mkF m 91 #[.val (.long p0s), .second, .val (.long p1s), .second, .val (.long p2s), .second, .val (.long p3s), .second, .val (.int p4s), .val (.ref b68), .val (.ref b89), .val (.int (0 : Int32)), .val (.int (0 : Int32)), .val (.int (1 : Int32)), .unset] [(.long p0s)])) _
            refine XS.lloadN X184.here hx rfl (hb hby at_91) rfl ?_
            show Steps p.tables e below (T184.setTop (mkF m 92 #[.val (.long p0s), .second, .val (.long p1s), .second, .val (.long p2s), .second, .val (.long p3s), .second, .val (.int p4s), .val (.ref b68), .val (.ref b89), .val (.int (0 : Int32)), .val (.int (0 : Int32)), .val (.int (1 : Int32)), .unset] [(.long p1s), (.long p0s)])) _
            refine XS.lcmp X184.here hx rfl (hb hby at_92) rfl ?_
            show Steps p.tables e below (T184.setTop (mkF m 93 #[.val (.long p0s), .second, .val (.long p1s), .second, .val (.long p2s), .second, .val (.long p3s), .second, .val (.int p4s), .val (.ref b68), .val (.ref b89), .val (.int (0 : Int32)), .val (.int (0 : Int32)), .val (.int (1 : Int32)), .unset] [(.int (lcmpW p0s p1s))])) _
            refine XS.ifNo X184.here hx rfl (hb hby at_93) rfl (own_l_lt hc185).2 ?_
            show Steps p.tables e below (T184.setTop (mkF m 96 #[.val (.long p0s), .second, .val (.long p1s), .second, .val (.long p2s), .second, .val (.long p3s), .second, .val (.int p4s), .val (.ref b68), .val (.ref b89), .val (.int (0 : Int32)), .val (.int (0 : Int32)), .val (.int (1 : Int32)), .unset] [])) _
            refine XS.lload X184.here hx rfl (hb hby at_96) rfl ?_
            show Steps p.tables e below (T184.setTop (mkF m 98 #[.val (.long p0s), .second, .val (.long p1s), .second, .val (.long p2s), .second, .val (.long p3s), .second, .val (.int p4s), .val (.ref b68), .val (.ref b89), .val (.int (0 : Int32)), .val (.int (0 : Int32)), .val (.int (1 : Int32)), .unset] [(.long p2s)])) _
            refine XS.lload X184.here hx rfl (hb hby at_98) rfl ?_
            show Steps p.tables e below (T184.setTop (mkF m 100 #[.val (.long p0s), .second, .val (.long p1s), .second, .val (.long p2s), .second, .val (.long p3s), .second, .val (.int p4s), .val (.ref b68), .val (.ref b89), .val (.int (0 : Int32)), .val (.int (0 : Int32)), .val (.int (1 : Int32)), .unset] [(.long p3s), (.long p2s)])) _
            refine XS.lcmp X184.here hx rfl (hb hby at_100) rfl ?_
            exact k
          by_cases hc189 : p2s < p3s
          · have r190 : own_R p.tables e below F0 (T184.setTop (mkF m 107 #[.val (.long p0s), .second, .val (.long p1s), .second, .val (.long p2s), .second, .val (.long p3s), .second, .val (.int p4s), .val (.ref b68), .val (.ref b89), .val (.int (0 : Int32)), .val (.int (0 : Int32)), .val (.int (1 : Int32)), .unset] [(.long p2s), (.long p0s)])) := fun t k => by
              refine r188 t ?_
              show Steps p.tables e below (T184.setTop (mkF m 101 #[.val (.long p0s), .second, .val (.long p1s), .second, .val (.long p2s), .second, .val (.long p3s), .second, .val (.int p4s), .val (.ref b68), .val (.ref b89), .val (.int (0 : Int32)), .val (.int (0 : Int32)), .val (.int (1 : Int32)), .unset] [(.int (lcmpW p2s p3s))])) _
              refine XS.ifNo X184.here hx rfl (hb hby at_101) rfl (own_l_lt hc189).2 ?_
              show Steps p.tables e below (T184.setTop (mkF m 104 #[.val (.long p0s), .second, .val (.long p1s), .second, .val (.long p2s), .second, .val (.long p3s), .second, .val (.int p4s), .val (.ref b68), .val (.ref b89), .val (.int (0 : Int32)), .val (.int (0 : Int32)), .val (.int (1 : Int32)), .unset] [])) _
              refine XS.lloadN X184.here hx rfl (hb hby at_104) rfl ?_
              show Steps p.tables e below (T184.setTop (mkF m 105 #[.val (.long p0s), .second, .val (.long p1s), .second, .val (.long p2s), .second, .val (.long p3s), .second, .val (.int p4s), .val (.ref b68), .val (.ref b89), .val (.int (0 : Int32)), .val (.int (0 : Int32)), .val (.int (1 : Int32)), .unset] [(.long p0s)])) _
              refine XS.lload X184.here hx rfl (hb hby at_105) rfl ?_
              exact k
            obtain ⟨_, _, ⟨T191, L191, k191, n191⟩, -, X191, ⟨Lc191, hQ191, l191, y191, z191⟩, st191⟩ := Jvm.LawKit.callS X184 hx (y := (⟨"java/lang/Math", "max", "(JJ)J"⟩ : MethodName)) hown (mvT hZ (hw _ (List.mem_of_getElem? (i := 28) rfl))) (mvT hZ (hw _ (List.mem_of_getElem? (i := 29) rfl))) (mvT hZ (hw _ (List.mem_of_getElem? (i := 30) rfl))) (mvT hZ (hw _ (List.mem_of_getElem? (i := 31) rfl))) (by decide) (backOf (W := 0) (rm5 l Z a0 hw [] p0s p2s h121 n0 Zs130 ) hZ (hw _ (List.mem_of_getElem? (i := 31) rfl)) (hw _ (List.mem_of_getElem? (i := 30) rfl)) (by decide) (by decide)) (g := (mkF m 107 #[.val (.long p0s), .second, .val (.long p1s), .second, .val (.long p2s), .second, .val (.long p3s), .second, .val (.int p4s), .val (.ref b68), .val (.ref b89), .val (.int (0 : Int32)), .val (.int (0 : Int32)), .val (.int (1 : Int32)), .unset] [(.long p2s), (.long p0s)])) rfl (by rw [hml]; rfl) (argsL := [(.long p0s), (.long p2s)]) (rest := []) (lenOf pd_3 rfl) rfl (by show 2 * 0 + _ ≤ _; exact Nat.le_of_eq rfl) (hb hby at_107) (fun _ _ => ⟨rfl, I184_0, (by decide : 4 + 0 ≤ _), (by decide : 8 + 0 ≤ _)⟩)
            dsimp only [Pt.U, Pt.locs, Pt.cells, Pt.slots] at X191 l191 y191 z191 st191 hQ191
            subst l191 y191 z191
            obtain ⟨rfl, N191q, I191_0⟩ := hQ191
            have N191 := Fr.app N184 N191q
            have r191 : own_R p.tables e below F0 (T191.setTop (mkF m 110 #[.val (.long p0s), .second, .val (.long p1s), .second, .val (.long p2s), .second, .val (.long p3s), .second, .val (.int p4s), .val (.ref b68), .val (.ref b89), .val (.int (0 : Int32)), .val (.int (0 : Int32)), .val (.int (1 : Int32)), .unset] [(.long (own_max p0s p2s))])) := fun t k => r190 t (st191 t k)
            by_cases hc192 : p0s < p2s
            · have ev193 : (own_max p0s p2s) = p2s := by unfold own_max; rw [if_pos hc192]
              have r194 : own_R p.tables e below F0 (T191.setTop (mkF m 110 #[.val (.long p0s), .second, .val (.long p1s), .second, .val (.long p2s), .second, .val (.long p3s), .second, .val (.int p4s), .val (.ref b68), .val (.ref b89), .val (.int (0 : Int32)), .val (.int (0 : Int32)), .val (.int (1 : Int32)), .unset] [(.long p2s)])) := by have q := r191; rw [ev193] at q; exact q
              have r195 : own_R p.tables e below F0 (T191.setTop (mkF m 113 #[.val (.long p0s), .second, .val (.long p1s), .second, .val (.long p2s), .second, .val (.long p3s), .second, .val (.int p4s), .val (.ref b68), .val (.ref b89), .val (.int (0 : Int32)), .val (.int (0 : Int32)), .val (.int (1 : Int32)), .unset] [(.long p3s), (.long p1s), (.long p2s)])) := fun t k => by
                refine r194 t ?_
                show Steps p.tables e below (T191.setTop (mkF m 110 #[.val (.long p0s), .second, .val (.long p1s), .second, .val (.long p2s), .second, .val (.long p3s), .second, .val (.int p4s), .val (.ref b68), .val (.ref b89), .val (.int (0 : Int32)), .val (.int (0 : Int32)), .val (.int (1 : Int32)), .unset] [(.long p2s)])) _
                refine XS.lloadN X191.here hx rfl (hb hby at_110) rfl ?_
                show Steps p.tables e below (T191.setTop (mkF m 111 #[.val (.long p0s), .second, .val (.long p1s), .second, .val (.long p2s), .second, .val (.long p3s), .second, .val (.int p4s), .val (.ref b68), .val (.ref b89), .val (.int (0 : Int32)), .val (.int (0 : Int32)), .val (.int (1 : Int32)), .unset] [(.long p1s), (.long p2s)])) _
                refine XS.lload X191.here hx rfl (hb hby at_111) rfl ?_
                exact k
              obtain ⟨_, _, ⟨T196, L196, k196, n196⟩, -, X196, ⟨Lc196, hQ196, l196, y196, z196⟩, st196⟩ := Jvm.LawKit.callS X191 hx (y := (⟨"java/lang/Math", "min", "(JJ)J"⟩ : MethodName)) hown (mvT hZ (hw _ (List.mem_of_getElem? (i := 32) rfl))) (mvT hZ (hw _ (List.mem_of_getElem? (i := 33) rfl))) (mvT hZ (hw _ (List.mem_of_getElem? (i := 30) rfl))) (mvT hZ (hw _ (List.mem_of_getElem? (i := 34) rfl))) (by decide) (backOf (W := 2) (rm6 l Z a0 hw [] p1s p3s h121 n0 Zs130 ) hZ (hw _ (List.mem_of_getElem? (i := 34) rfl)) (hw _ (List.mem_of_getElem? (i := 30) rfl)) (by decide) (by decide)) (g := (mkF m 113 #[.val (.long p0s), .second, .val (.long p1s), .second, .val (.long p2s), .second, .val (.long p3s), .second, .val (.int p4s), .val (.ref b68), .val (.ref b89), .val (.int (0 : Int32)), .val (.int (0 : Int32)), .val (.int (1 : Int32)), .unset] [(.long p3s), (.long p1s), (.long p2s)])) rfl (by rw [hml]; rfl) (argsL := [(.long p1s), (.long p3s)]) (rest := [(.long p2s)]) (lenOf pd_3 rfl) rfl (by show 2 * 0 + _ ≤ _; exact Nat.le_of_eq rfl) (hb hby at_113) (fun _ _ => ⟨rfl, I191_0, (by decide : 4 + 0 ≤ _), (by decide : 8 + 0 ≤ _)⟩)
              dsimp only [Pt.U, Pt.locs, Pt.cells, Pt.slots] at X196 l196 y196 z196 st196 hQ196
              subst l196 y196 z196
              obtain ⟨rfl, N196q, I196_0⟩ := hQ196
              have N196 := Fr.app N191 N196q
              have r196 : own_R p.tables e below F0 (T196.setTop (mkF m 116 #[.val (.long p0s), .second, .val (.long p1s), .second, .val (.long p2s), .second, .val (.long p3s), .second, .val (.int p4s), .val (.ref b68), .val (.ref b89), .val (.int (0 : Int32)), .val (.int (0 : Int32)), .val (.int (1 : Int32)), .unset] [(.long (own_min p1s p3s)), (.long p2s)])) := fun t k => r195 t (st196 t k)
              by_cases hc197 : p3s < p1s
              · have ev198 : (own_min p1s p3s) = p3s := by unfold own_min; rw [if_pos hc197]
                have r199 : own_R p.tables e below F0 (T196.setTop (mkF m 116 #[.val (.long p0s), .second, .val (.long p1s), .second, .val (.long p2s), .second, .val (.long p3s), .second, .val (.int p4s), .val (.ref b68), .val (.ref b89), .val (.int (0 : Int32)), .val (.int (0 : Int32)), .val (.int (1 : Int32)), .unset] [(.long p3s), (.long p2s)])) := by have q := r196; rw [ev198] at q; exact q
                have r200 : own_R p.tables e below F0 (T196.setTop (mkF m 135 #[.val (.long p0s), .second, .val (.long p1s), .second, .val (.long p2s), .second, .val (.long p3s), .second, .val (.int p4s), .val (.ref b68), .val (.ref b89), .val (.int (0 : Int32)), .val (.int (0 : Int32)), .val (.int (1 : Int32)), .val (.int (1 : Int32))] [(.int (0 : Int32))])) := fun t k => by
                  refine r199 t ?_
                  show Steps p.tables e below (T196.setTop (mkF m 116 #[.val (.long p0s), .second, .val (.long p1s), .second, .val (.long p2s), .second, .val (.long p3s), .second, .val (.int p4s), .val (.ref b68), .val (.ref b89), .val (.int (0 : Int32)), .val (.int (0 : Int32)), .val (.int (1 : Int32)), .unset] [(.long p3s), (.long p2s)])) _
                  refine XS.lcmp X196.here hx rfl (hb hby at_116) rfl ?_
                  show Steps p.tables e below (T196.setTop (mkF m 117 #[.val (.long p0s), .second, .val (.long p1s), .second, .val (.long p2s), .second, .val (.long p3s), .second, .val (.int p4s), .val (.ref b68), .val (.ref b89), .val (.int (0 : Int32)), .val (.int (0 : Int32)), .val (.int (1 : Int32)), .unset] [(.int (lcmpW p2s p3s))])) _
                  refine XS.ifNo X196.here hx rfl (hb hby at_117) rfl (own_l_lt hc189).2 ?_
                  show Steps p.tables e below (T196.setTop (mkF m 120 #[.val (.long p0s), .second, .val (.long p1s), .second, .val (.long p2s), .second, .val (.long p3s), .second, .val (.int p4s), .val (.ref b68), .val (.ref b89), .val (.int (0 : Int32)), .val (.int (0 : Int32)), .val (.int (1 : Int32)), .unset] [])) _
                  refine XS.iconst X196.here hx rfl (hb hby at_120) ?_
                  show Steps p.tables e below (T196.setTop (mkF m 121 #[.val (.long p0s), .second, .val (.long p1s), .second, .val (.long p2s), .second, .val (.long p3s), .second, .val (.int p4s), .val (.ref b68), .val (.ref b89), .val (.int (0 : Int32)), .val (.int (0 : Int32)), .val (.int (1 : Int32)), .unset] [(.int (1 : Int32))])) _
                  refine XS.goto X196.here hx rfl (pc0 := 121) (pc' := 125) rfl (hb hby at_121) (by decide) (by decide) ?_
                  show Steps p.tables e below (T196.setTop (mkF m 125 #[.val (.long p0s), .second, .val (.long p1s), .second, .val (.long p2s), .second, .val (.long p3s), .second, .val (.int p4s), .val (.ref b68), .val (.ref b89), .val (.int (0 : Int32)), .val (.int (0 : Int32)), .val (.int (1 : Int32)), .unset] [(.int (1 : Int32))])) _
                  refine XS.istore X196.here hx rfl (hb hby at_125) rfl (l' := #[.val (.long p0s), .second, .val (.long p1s), .second, .val (.long p2s), .second, .val (.long p3s), .second, .val (.int p4s), .val (.ref b68), .val (.ref b89), .val (.int (0 : Int32)), .val (.int (0 : Int32)), .val (.int (1 : Int32)), .val (.int (1 : Int32))]) rfl ?_
                  show Steps p.tables e below (T196.setTop (mkF m 127 #[.val (.long p0s), .second, .val (.long p1s), .second, .val (.long p2s), .second, .val (.long p3s), .second, .val (.int p4s), .val (.ref b68), .val (.ref b89), .val (.int (0 : Int32)), .val (.int (0 : Int32)), .val (.int (1 : Int32)), .val (.int (1 : Int32))] [])) _
                  refine XS.iload X196.here hx rfl (hb hby at_127) rfl ?_
                  show Steps p.tables e below (T196.setTop (mkF m 129 #[.val (.long p0s), .second, .val (.long p1s), .second, .val (.long p2s), .second, .val (.long p3s), .second, .val (.int p4s), .val (.ref b68), .val (.ref b89), .val (.int (0 : Int32)), .val (.int (0 : Int32)), .val (.int (1 : Int32)), .val (.int (1 : Int32))] [(.int (0 : Int32))])) _
                  refine XS.iload X196.here hx rfl (hb hby at_129) rfl ?_
                  show Steps p.tables e below (T196.setTop (mkF m 131 #[.val (.long p0s), .second, .val (.long p1s), .second, .val (.long p2s), .second, .val (.long p3s), .second, .val (.int p4s), .val (.ref b68), .val (.ref b89), .val (.int (0 : Int32)), .val (.int (0 : Int32)), .val (.int (1 : Int32)), .val (.int (1 : Int32))] [(.int (1 : Int32)), (.int (0 : Int32))])) _
                  refine XS.icmpNo X196.here hx rfl (hb hby at_131) rfl (feq (show ¬ ((0 : Int32) = (1 : Int32)) from by decide)).1 ?_
                  show Steps p.tables e below (T196.setTop (mkF m 134 #[.val (.long p0s), .second, .val (.long p1s), .second, .val (.long p2s), .second, .val (.long p3s), .second, .val (.int p4s), .val (.ref b68), .val (.ref b89), .val (.int (0 : Int32)), .val (.int (0 : Int32)), .val (.int (1 : Int32)), .val (.int (1 : Int32))] [])) _
                  refine XS.iconst X196.here hx rfl (hb hby at_134) ?_
                  exact k
                exfalso
                have q81_r := own_R64 p0s
                have q82_r := own_R64 p3s
                have q83_r := own_R64 p2s
                have q84_r := own_R64 p1s
                have q85_c := own_lt64 hc133
                have q86_c := own_nlt64 hc134
                have q87_c := own_lt64 hc185
                have q88_c := own_lt64 hc189
                have q89_c := own_lt64 hc192
                have q90_c := own_lt64 hc197
                omega
              · have ev201 : (own_min p1s p3s) = p1s := by unfold own_min; rw [if_neg hc197]
                have r202 : own_R p.tables e below F0 (T196.setTop (mkF m 116 #[.val (.long p0s), .second, .val (.long p1s), .second, .val (.long p2s), .second, .val (.long p3s), .second, .val (.int p4s), .val (.ref b68), .val (.ref b89), .val (.int (0 : Int32)), .val (.int (0 : Int32)), .val (.int (1 : Int32)), .unset] [(.long p1s), (.long p2s)])) := by have q := r196; rw [ev201] at q; exact q
                have r203 : own_R p.tables e below F0 (T196.setTop (mkF m 137 #[.val (.long p0s), .second, .val (.long p1s), .second, .val (.long p2s), .second, .val (.long p3s), .second, .val (.int p4s), .val (.ref b68), .val (.ref b89), .val (.int (0 : Int32)), .val (.int (0 : Int32)), .val (.int (1 : Int32)), .val (.int (0 : Int32))] [(.int (1 : Int32))])) := fun t k => by
                  refine r202 t ?_
                  show Steps p.tables e below (T196.setTop (mkF m 116 #[.val (.long p0s), .second, .val (.long p1s), .second, .val (.long p2s), .second, .val (.long p3s), .second, .val (.int p4s), .val (.ref b68), .val (.ref b89), .val (.int (0 : Int32)), .val (.int (0 : Int32)), .val (.int (1 : Int32)), .unset] [(.long p1s), (.long p2s)])) _
                  refine XS.lcmp X196.here hx rfl (hb hby at_116) rfl ?_
                  show Steps p.tables e below (T196.setTop (mkF m 117 #[.val (.long p0s), .second, .val (.long p1s), .second, .val (.long p2s), .second, .val (.long p3s), .second, .val (.int p4s), .val (.ref b68), .val (.ref b89), .val (.int (0 : Int32)), .val (.int (0 : Int32)), .val (.int (1 : Int32)), .unset] [(.int (lcmpW p2s p1s))])) _
                  refine XS.ifYes X196.here hx rfl (pc0 := 117) (pc' := 124) rfl (hb hby at_117) rfl (own_l_nlt hc134).2 (by decide) (by decide) ?_
                  show Steps p.tables e below (T196.setTop (mkF m 124 #[.val (.long p0s), .second, .val (.long p1s), .second, .val (.long p2s), .second, .val (.long p3s), .second, .val (.int p4s), .val (.ref b68), .val (.ref b89), .val (.int (0 : Int32)), .val (.int (0 : Int32)), .val (.int (1 : Int32)), .unset] [])) _
                  refine XS.iconst X196.here hx rfl (hb hby at_124) ?_
                  show Steps p.tables e below (T196.setTop (mkF m 125 #[.val (.long p0s), .second, .val (.long p1s), .second, .val (.long p2s), .second, .val (.long p3s), .second, .val (.int p4s), .val (.ref b68), .val (.ref b89), .val (.int (0 : Int32)), .val (.int (0 : Int32)), .val (.int (1 : Int32)), .unset] [(.int (0 : Int32))])) _
                  refine XS.istore X196.here hx rfl (hb hby at_125) rfl (l' := #[.val (.long p0s), .second, .val (.long p1s), .second, .val (.long p2s), .second, .val (.long p3s), .second, .val (.int p4s), .val (.ref b68), .val (.ref b89), .val (.int (0 : Int32)), .val (.int (0 : Int32)), .val (.int (1 : Int32)), .val (.int (0 : Int32))]) rfl ?_
                  show Steps p.tables e below (T196.setTop (mkF m 127 #[.val (.long p0s), .second, .val (.long p1s), .second, .val (.long p2s), .second, .val (.long p3s), .second, .val (.int p4s), .val (.ref b68), .val (.ref b89), .val (.int (0 : Int32)), .val (.int (0 : Int32)), .val (.int (1 : Int32)), .val (.int (0 : Int32))] [])) _
                  refine XS.iload X196.here hx rfl (hb hby at_127) rfl ?_
                  show Steps p.tables e below (T196.setTop (mkF m 129 #[.val (.long p0s), .second, .val (.long p1s), .second, .val (.long p2s), .second, .val (.long p3s), .second, .val (.int p4s), .val (.ref b68), .val (.ref b89), .val (.int (0 : Int32)), .val (.int (0 : Int32)), .val (.int (1 : Int32)), .val (.int (0 : Int32))] [(.int (0 : Int32))])) _
                  refine XS.iload X196.here hx rfl (hb hby at_129) rfl ?_
                  show Steps p.tables e below (T196.setTop (mkF m 131 #[.val (.long p0s), .second, .val (.long p1s), .second, .val (.long p2s), .second, .val (.long p3s), .second, .val (.int p4s), .val (.ref b68), .val (.ref b89), .val (.int (0 : Int32)), .val (.int (0 : Int32)), .val (.int (1 : Int32)), .val (.int (0 : Int32))] [(.int (0 : Int32)), (.int (0 : Int32))])) _
                  refine XS.icmpYes X196.here hx rfl (pc0 := 131) (pc' := 136) rfl (hb hby at_131) rfl (teq (show (0 : Int32) = (0 : Int32) from by decide)).1 (by decide) (by decide) ?_
                  show Steps p.tables e below (T196.setTop (mkF m 136 #[.val (.long p0s), .second, .val (.long p1s), .second, .val (.long p2s), .second, .val (.long p3s), .second, .val (.int p4s), .val (.ref b68), .val (.ref b89), .val (.int (0 : Int32)), .val (.int (0 : Int32)), .val (.int (1 : Int32)), .val (.int (0 : Int32))] [])) _
                  refine XS.iconst X196.here hx rfl (hb hby at_136) ?_
                  exact k
                refine hG (own_fin X196 hlk (some (.int (nar .boolean (1 : Int32)))) (own_hv Bd.returns) ?_ (by decide) (by decide) (fun fs hr => r203 _ (retN X196 hx (t := .boolean) Bd.returns (by simp) (hb hby at_137) hr)))
                rw [I196_0]
                exact ⟨rfl, N196⟩
            · have ev204 : (own_max p0s p2s) = p0s := by unfold own_max; rw [if_neg hc192]
              have r205 : own_R p.tables e below F0 (T191.setTop (mkF m 110 #[.val (.long p0s), .second, .val (.long p1s), .second, .val (.long p2s), .second, .val (.long p3s), .second, .val (.int p4s), .val (.ref b68), .val (.ref b89), .val (.int (0 : Int32)), .val (.int (0 : Int32)), .val (.int (1 : Int32)), .unset] [(.long p0s)])) := by have q := r191; rw [ev204] at q; exact q
              have r206 : own_R p.tables e below F0 (T191.setTop (mkF m 113 #[.val (.long p0s), .second, .val (.long p1s), .second, .val (.long p2s), .second, .val (.long p3s), .second, .val (.int p4s), .val (.ref b68), .val (.ref b89), .val (.int (0 : Int32)), .val (.int (0 : Int32)), .val (.int (1 : Int32)), .unset] [(.long p3s), (.long p1s), (.long p0s)])) := fun t k => by
                refine r205 t ?_
                show Steps p.tables e below (T191.setTop (mkF m 110 #[.val (.long p0s), .second, .val (.long p1s), .second, .val (.long p2s), .second, .val (.long p3s), .second, .val (.int p4s), .val (.ref b68), .val (.ref b89), .val (.int (0 : Int32)), .val (.int (0 : Int32)), .val (.int (1 : Int32)), .unset] [(.long p0s)])) _
                refine XS.lloadN X191.here hx rfl (hb hby at_110) rfl ?_
                show Steps p.tables e below (T191.setTop (mkF m 111 #[.val (.long p0s), .second, .val (.long p1s), .second, .val (.long p2s), .second, .val (.long p3s), .second, .val (.int p4s), .val (.ref b68), .val (.ref b89), .val (.int (0 : Int32)), .val (.int (0 : Int32)), .val (.int (1 : Int32)), .unset] [(.long p1s), (.long p0s)])) _
                refine XS.lload X191.here hx rfl (hb hby at_111) rfl ?_
                exact k
              obtain ⟨_, _, ⟨T207, L207, k207, n207⟩, -, X207, ⟨Lc207, hQ207, l207, y207, z207⟩, st207⟩ := Jvm.LawKit.callS X191 hx (y := (⟨"java/lang/Math", "min", "(JJ)J"⟩ : MethodName)) hown (mvT hZ (hw _ (List.mem_of_getElem? (i := 32) rfl))) (mvT hZ (hw _ (List.mem_of_getElem? (i := 33) rfl))) (mvT hZ (hw _ (List.mem_of_getElem? (i := 30) rfl))) (mvT hZ (hw _ (List.mem_of_getElem? (i := 34) rfl))) (by decide) (backOf (W := 2) (rm6 l Z a0 hw [] p1s p3s h121 n0 Zs130 ) hZ (hw _ (List.mem_of_getElem? (i := 34) rfl)) (hw _ (List.mem_of_getElem? (i := 30) rfl)) (by decide) (by decide)) (g := (mkF m 113 #[.val (.long p0s), .second, .val (.long p1s), .second, .val (.long p2s), .second, .val (.long p3s), .second, .val (.int p4s), .val (.ref b68), .val (.ref b89), .val (.int (0 : Int32)), .val (.int (0 : Int32)), .val (.int (1 : Int32)), .unset] [(.long p3s), (.long p1s), (.long p0s)])) rfl (by rw [hml]; rfl) (argsL := [(.long p1s), (.long p3s)]) (rest := [(.long p0s)]) (lenOf pd_3 rfl) rfl (by show 2 * 0 + _ ≤ _; exact Nat.le_of_eq rfl) (hb hby at_113) (fun _ _ => ⟨rfl, I191_0, (by decide : 4 + 0 ≤ _), (by decide : 8 + 0 ≤ _)⟩)
              dsimp only [Pt.U, Pt.locs, Pt.cells, Pt.slots] at X207 l207 y207 z207 st207 hQ207
              subst l207 y207 z207
              obtain ⟨rfl, N207q, I207_0⟩ := hQ207
              have N207 := Fr.app N191 N207q
              have r207 : own_R p.tables e below F0 (T207.setTop (mkF m 116 #[.val (.long p0s), .second, .val (.long p1s), .second, .val (.long p2s), .second, .val (.long p3s), .second, .val (.int p4s), .val (.ref b68), .val (.ref b89), .val (.int (0 : Int32)), .val (.int (0 : Int32)), .val (.int (1 : Int32)), .unset] [(.long (own_min p1s p3s)), (.long p0s)])) := fun t k => r206 t (st207 t k)
              by_cases hc208 : p3s < p1s
              · have ev209 : (own_min p1s p3s) = p3s := by unfold own_min; rw [if_pos hc208]
                have r210 : own_R p.tables e below F0 (T207.setTop (mkF m 116 #[.val (.long p0s), .second, .val (.long p1s), .second, .val (.long p2s), .second, .val (.long p3s), .second, .val (.int p4s), .val (.ref b68), .val (.ref b89), .val (.int (0 : Int32)), .val (.int (0 : Int32)), .val (.int (1 : Int32)), .unset] [(.long p3s), (.long p0s)])) := by have q := r207; rw [ev209] at q; exact q
                have r211 : own_R p.tables e below F0 (T207.setTop (mkF m 135 #[.val (.long p0s), .second, .val (.long p1s), .second, .val (.long p2s), .second, .val (.long p3s), .second, .val (.int p4s), .val (.ref b68), .val (.ref b89), .val (.int (0 : Int32)), .val (.int (0 : Int32)), .val (.int (1 : Int32)), .val (.int (1 : Int32))] [(.int (0 : Int32))])) := fun t k => by
                  refine r210 t ?_
                  show Steps p.tables e below (T207.setTop (mkF m 116 #[.val (.long p0s), .second, .val (.long p1s), .second, .val (.long p2s), .second, .val (.long p3s), .second, .val (.int p4s), .val (.ref b68), .val (.ref b89), .val (.int (0 : Int32)), .val (.int (0 : Int32)), .val (.int (1 : Int32)), .unset] [(.long p3s), (.long p0s)])) _
                  refine XS.lcmp X207.here hx rfl (hb hby at_116) rfl ?_
                  show Steps p.tables e below (T207.setTop (mkF m 117 #[.val (.long p0s), .second, .val (.long p1s), .second, .val (.long p2s), .second, .val (.long p3s), .second, .val (.int p4s), .val (.ref b68), .val (.ref b89), .val (.int (0 : Int32)), .val (.int (0 : Int32)), .val (.int (1 : Int32)), .unset] [(.int (lcmpW p0s p3s))])) _
                  refine XS.ifNo X207.here hx rfl (hb hby at_117) rfl (own_l_lt hc133).2 ?_
                  show Steps p.tables e below (T207.setTop (mkF m 120 #[.val (.long p0s), .second, .val (.long p1s), .second, .val (.long p2s), .second, .val (.long p3s), .second, .val (.int p4s), .val (.ref b68), .val (.ref b89), .val (.int (0 : Int32)), .val (.int (0 : Int32)), .val (.int (1 : Int32)), .unset] [])) _
                  refine XS.iconst X207.here hx rfl (hb hby at_120) ?_
                  show Steps p.tables e below (T207.setTop (mkF m 121 #[.val (.long p0s), .second, .val (.long p1s), .second, .val (.long p2s), .second, .val (.long p3s), .second, .val (.int p4s), .val (.ref b68), .val (.ref b89), .val (.int (0 : Int32)), .val (.int (0 : Int32)), .val (.int (1 : Int32)), .unset] [(.int (1 : Int32))])) _
                  refine XS.goto X207.here hx rfl (pc0 := 121) (pc' := 125) rfl (hb hby at_121) (by decide) (by decide) ?_
                  show Steps p.tables e below (T207.setTop (mkF m 125 #[.val (.long p0s), .second, .val (.long p1s), .second, .val (.long p2s), .second, .val (.long p3s), .second, .val (.int p4s), .val (.ref b68), .val (.ref b89), .val (.int (0 : Int32)), .val (.int (0 : Int32)), .val (.int (1 : Int32)), .unset] [(.int (1 : Int32))])) _
                  refine XS.istore X207.here hx rfl (hb hby at_125) rfl (l' := #[.val (.long p0s), .second, .val (.long p1s), .second, .val (.long p2s), .second, .val (.long p3s), .second, .val (.int p4s), .val (.ref b68), .val (.ref b89), .val (.int (0 : Int32)), .val (.int (0 : Int32)), .val (.int (1 : Int32)), .val (.int (1 : Int32))]) rfl ?_
                  show Steps p.tables e below (T207.setTop (mkF m 127 #[.val (.long p0s), .second, .val (.long p1s), .second, .val (.long p2s), .second, .val (.long p3s), .second, .val (.int p4s), .val (.ref b68), .val (.ref b89), .val (.int (0 : Int32)), .val (.int (0 : Int32)), .val (.int (1 : Int32)), .val (.int (1 : Int32))] [])) _
                  refine XS.iload X207.here hx rfl (hb hby at_127) rfl ?_
                  show Steps p.tables e below (T207.setTop (mkF m 129 #[.val (.long p0s), .second, .val (.long p1s), .second, .val (.long p2s), .second, .val (.long p3s), .second, .val (.int p4s), .val (.ref b68), .val (.ref b89), .val (.int (0 : Int32)), .val (.int (0 : Int32)), .val (.int (1 : Int32)), .val (.int (1 : Int32))] [(.int (0 : Int32))])) _
                  refine XS.iload X207.here hx rfl (hb hby at_129) rfl ?_
                  show Steps p.tables e below (T207.setTop (mkF m 131 #[.val (.long p0s), .second, .val (.long p1s), .second, .val (.long p2s), .second, .val (.long p3s), .second, .val (.int p4s), .val (.ref b68), .val (.ref b89), .val (.int (0 : Int32)), .val (.int (0 : Int32)), .val (.int (1 : Int32)), .val (.int (1 : Int32))] [(.int (1 : Int32)), (.int (0 : Int32))])) _
                  refine XS.icmpNo X207.here hx rfl (hb hby at_131) rfl (feq (show ¬ ((0 : Int32) = (1 : Int32)) from by decide)).1 ?_
                  show Steps p.tables e below (T207.setTop (mkF m 134 #[.val (.long p0s), .second, .val (.long p1s), .second, .val (.long p2s), .second, .val (.long p3s), .second, .val (.int p4s), .val (.ref b68), .val (.ref b89), .val (.int (0 : Int32)), .val (.int (0 : Int32)), .val (.int (1 : Int32)), .val (.int (1 : Int32))] [])) _
                  refine XS.iconst X207.here hx rfl (hb hby at_134) ?_
                  exact k
                exfalso
                have q91_r := own_R64 p0s
                have q92_r := own_R64 p3s
                have q93_r := own_R64 p2s
                have q94_r := own_R64 p1s
                have q95_c := own_lt64 hc133
                have q96_c := own_nlt64 hc134
                have q97_c := own_lt64 hc185
                have q98_c := own_lt64 hc189
                have q99_c := own_nlt64 hc192
                have q100_c := own_lt64 hc208
                omega
              · have ev212 : (own_min p1s p3s) = p1s := by unfold own_min; rw [if_neg hc208]
                have r213 : own_R p.tables e below F0 (T207.setTop (mkF m 116 #[.val (.long p0s), .second, .val (.long p1s), .second, .val (.long p2s), .second, .val (.long p3s), .second, .val (.int p4s), .val (.ref b68), .val (.ref b89), .val (.int (0 : Int32)), .val (.int (0 : Int32)), .val (.int (1 : Int32)), .unset] [(.long p1s), (.long p0s)])) := by have q := r207; rw [ev212] at q; exact q
                have r214 : own_R p.tables e below F0 (T207.setTop (mkF m 135 #[.val (.long p0s), .second, .val (.long p1s), .second, .val (.long p2s), .second, .val (.long p3s), .second, .val (.int p4s), .val (.ref b68), .val (.ref b89), .val (.int (0 : Int32)), .val (.int (0 : Int32)), .val (.int (1 : Int32)), .val (.int (1 : Int32))] [(.int (0 : Int32))])) := fun t k => by
                  refine r213 t ?_
                  show Steps p.tables e below (T207.setTop (mkF m 116 #[.val (.long p0s), .second, .val (.long p1s), .second, .val (.long p2s), .second, .val (.long p3s), .second, .val (.int p4s), .val (.ref b68), .val (.ref b89), .val (.int (0 : Int32)), .val (.int (0 : Int32)), .val (.int (1 : Int32)), .unset] [(.long p1s), (.long p0s)])) _
                  refine XS.lcmp X207.here hx rfl (hb hby at_116) rfl ?_
                  show Steps p.tables e below (T207.setTop (mkF m 117 #[.val (.long p0s), .second, .val (.long p1s), .second, .val (.long p2s), .second, .val (.long p3s), .second, .val (.int p4s), .val (.ref b68), .val (.ref b89), .val (.int (0 : Int32)), .val (.int (0 : Int32)), .val (.int (1 : Int32)), .unset] [(.int (lcmpW p0s p1s))])) _
                  refine XS.ifNo X207.here hx rfl (hb hby at_117) rfl (own_l_lt hc185).2 ?_
                  show Steps p.tables e below (T207.setTop (mkF m 120 #[.val (.long p0s), .second, .val (.long p1s), .second, .val (.long p2s), .second, .val (.long p3s), .second, .val (.int p4s), .val (.ref b68), .val (.ref b89), .val (.int (0 : Int32)), .val (.int (0 : Int32)), .val (.int (1 : Int32)), .unset] [])) _
                  refine XS.iconst X207.here hx rfl (hb hby at_120) ?_
                  show Steps p.tables e below (T207.setTop (mkF m 121 #[.val (.long p0s), .second, .val (.long p1s), .second, .val (.long p2s), .second, .val (.long p3s), .second, .val (.int p4s), .val (.ref b68), .val (.ref b89), .val (.int (0 : Int32)), .val (.int (0 : Int32)), .val (.int (1 : Int32)), .unset] [(.int (1 : Int32))])) _
                  refine XS.goto X207.here hx rfl (pc0 := 121) (pc' := 125) rfl (hb hby at_121) (by decide) (by decide) ?_
                  show Steps p.tables e below (T207.setTop (mkF m 125 #[.val (.long p0s), .second, .val (.long p1s), .second, .val (.long p2s), .second, .val (.long p3s), .second, .val (.int p4s), .val (.ref b68), .val (.ref b89), .val (.int (0 : Int32)), .val (.int (0 : Int32)), .val (.int (1 : Int32)), .unset] [(.int (1 : Int32))])) _
                  refine XS.istore X207.here hx rfl (hb hby at_125) rfl (l' := #[.val (.long p0s), .second, .val (.long p1s), .second, .val (.long p2s), .second, .val (.long p3s), .second, .val (.int p4s), .val (.ref b68), .val (.ref b89), .val (.int (0 : Int32)), .val (.int (0 : Int32)), .val (.int (1 : Int32)), .val (.int (1 : Int32))]) rfl ?_
                  show Steps p.tables e below (T207.setTop (mkF m 127 #[.val (.long p0s), .second, .val (.long p1s), .second, .val (.long p2s), .second, .val (.long p3s), .second, .val (.int p4s), .val (.ref b68), .val (.ref b89), .val (.int (0 : Int32)), .val (.int (0 : Int32)), .val (.int (1 : Int32)), .val (.int (1 : Int32))] [])) _
                  refine XS.iload X207.here hx rfl (hb hby at_127) rfl ?_
                  show Steps p.tables e below (T207.setTop (mkF m 129 #[.val (.long p0s), .second, .val (.long p1s), .second, .val (.long p2s), .second, .val (.long p3s), .second, .val (.int p4s), .val (.ref b68), .val (.ref b89), .val (.int (0 : Int32)), .val (.int (0 : Int32)), .val (.int (1 : Int32)), .val (.int (1 : Int32))] [(.int (0 : Int32))])) _
                  refine XS.iload X207.here hx rfl (hb hby at_129) rfl ?_
                  show Steps p.tables e below (T207.setTop (mkF m 131 #[.val (.long p0s), .second, .val (.long p1s), .second, .val (.long p2s), .second, .val (.long p3s), .second, .val (.int p4s), .val (.ref b68), .val (.ref b89), .val (.int (0 : Int32)), .val (.int (0 : Int32)), .val (.int (1 : Int32)), .val (.int (1 : Int32))] [(.int (1 : Int32)), (.int (0 : Int32))])) _
                  refine XS.icmpNo X207.here hx rfl (hb hby at_131) rfl (feq (show ¬ ((0 : Int32) = (1 : Int32)) from by decide)).1 ?_
                  show Steps p.tables e below (T207.setTop (mkF m 134 #[.val (.long p0s), .second, .val (.long p1s), .second, .val (.long p2s), .second, .val (.long p3s), .second, .val (.int p4s), .val (.ref b68), .val (.ref b89), .val (.int (0 : Int32)), .val (.int (0 : Int32)), .val (.int (1 : Int32)), .val (.int (1 : Int32))] [])) _
                  refine XS.iconst X207.here hx rfl (hb hby at_134) ?_
                  exact k
                exfalso
                have q101_r := own_R64 p0s
                have q102_r := own_R64 p3s
                have q103_r := own_R64 p2s
                have q104_r := own_R64 p1s
                have q105_c := own_lt64 hc133
                have q106_c := own_nlt64 hc134
                have q107_c := own_lt64 hc185
                have q108_c := own_lt64 hc189
                have q109_c := own_nlt64 hc192
                have q110_c := own_nlt64 hc208
                omega
          · have r215 : own_R p.tables e below F0 (T184.setTop (mkF m 137 #[.val (.long p0s), .second, .val (.long p1s), .second, .val (.long p2s), .second, .val (.long p3s), .second, .val (.int p4s), .val (.ref b68), .val (.ref b89), .val (.int (0 : Int32)), .val (.int (0 : Int32)), .val (.int (1 : Int32)), .unset] [(.int (1 : Int32))])) := fun t k => by
              refine r188 t ?_
              show Steps p.tables e below (T184.setTop (mkF m 101 #[.val (.long p0s), .second, .val (.long p1s), .second, .val (.long p2s), .second, .val (.long p3s), .second, .val (.int p4s), .val (.ref b68), .val (.ref b89), .val (.int (0 : Int32)), .val (.int (0 : Int32)), .val (.int (1 : Int32)), .unset] [(.int (lcmpW p2s p3s))])) _
              refine XS.ifYes X184.here hx rfl (pc0 := 101) (pc' := 136) rfl (hb hby at_101) rfl (own_l_nlt hc189).2 (by decide) (by decide) ?_
              show Steps p.tables e below (T184.setTop (mkF m 136 #[.val (.long p0s), .second, .val (.long p1s), .second, .val (.long p2s), .second, .val (.long p3s), .second, .val (.int p4s), .val (.ref b68), .val (.ref b89), .val (.int (0 : Int32)), .val (.int (0 : Int32)), .val (.int (1 : Int32)), .unset] [])) _
              refine XS.iconst X184.here hx rfl (hb hby at_136) ?_
              exact k
            refine hG (own_fin X184 hlk (some (.int (nar .boolean (1 : Int32)))) (own_hv Bd.returns) ?_ (by decide) (by decide) (fun fs hr => r215 _ (retN X184 hx (t := .boolean) Bd.returns (by simp) (hb hby at_137) hr)))
            rw [I184_0]
            exact ⟨rfl, N184⟩
        · have ev216 : (own_over p0s p1s p0s p1s) = (0 : Int32) := by unfold own_over; rw [if_neg hc185]
          have r217 : own_R p.tables e below F0 (T184.setTop (mkF m 61 #[.val (.long p0s), .second, .val (.long p1s), .second, .val (.long p2s), .second, .val (.long p3s), .second, .val (.int p4s), .val (.ref b68), .val (.ref b89), .val (.int (0 : Int32)), .val (.int (0 : Int32)), .unset, .unset] [(.int (0 : Int32))])) := by have q := r184; rw [ev216] at q; exact q
          have r218 : own_R p.tables e below F0 (T184.setTop (mkF m 137 #[.val (.long p0s), .second, .val (.long p1s), .second, .val (.long p2s), .second, .val (.long p3s), .second, .val (.int p4s), .val (.ref b68), .val (.ref b89), .val (.int (0 : Int32)), .val (.int (0 : Int32)), .val (.int (0 : Int32)), .unset] [(.int (1 : Int32))])) := fun t k => by
            refine r217 t ?_
            show Steps p.tables e below (T184.setTop (mkF m 61 #[.val (.long p0s), .second, .val (.long p1s), .second, .val (.long p2s), .second, .val (.long p3s), .second, .val (.int p4s), .val (.ref b68), .val (.ref b89), .val (.int (0 : Int32)), .val (.int (0 : Int32)), .unset, .unset] [(.int (0 : Int32))])) _
            refine XS.istore X184.here hx rfl (hb hby at_61) rfl (l' := #[.val (.long p0s), .second, .val (.long p1s), .second, .val (.long p2s), .second, .val (.long p3s), .second, .val (.int p4s), .val (.ref b68), .val (.ref b89), .val (.int (0 : Int32)), .val (.int (0 : Int32)), .val (.int (0 : Int32)), .unset]) rfl ?_
            show Steps p.tables e below (T184.setTop (mkF m 63 #[.val (.long p0s), .second, .val (.long p1s), .second, .val (.long p2s), .second, .val (.long p3s), .second, .val (.int p4s), .val (.ref b68), .val (.ref b89), .val (.int (0 : Int32)), .val (.int (0 : Int32)), .val (.int (0 : Int32)), .unset] [])) _
            refine XS.iload X184.here hx rfl (hb hby at_63) rfl ?_
            show Steps p.tables e below (T184.setTop (mkF m 65 #[.val (.long p0s), .second, .val (.long p1s), .second, .val (.long p2s), .second, .val (.long p3s), .second, .val (.int p4s), .val (.ref b68), .val (.ref b89), .val (.int (0 : Int32)), .val (.int (0 : Int32)), .val (.int (0 : Int32)), .unset] [(.int (0 : Int32))])) _
            refine XS.iload X184.here hx rfl (hb hby at_65) rfl ?_
            show Steps p.tables e below (T184.setTop (mkF m 67 #[.val (.long p0s), .second, .val (.long p1s), .second, .val (.long p2s), .second, .val (.long p3s), .second, .val (.int p4s), .val (.ref b68), .val (.ref b89), .val (.int (0 : Int32)), .val (.int (0 : Int32)), .val (.int (0 : Int32)), .unset] [(.int (0 : Int32)), (.int (0 : Int32))])) _
            refine XS.icmpYes X184.here hx rfl (pc0 := 67) (pc' := 72) rfl (hb hby at_67) rfl (teq (show (0 : Int32) = (0 : Int32) from by decide)).1 (by decide) (by decide) ?_
            show Steps p.tables e below (T184.setTop (mkF m 72 #[.val (.long p0s), .second, .val (.long p1s), .second, .val (.long p2s), .second, .val (.long p3s), .second, .val (.int p4s), .val (.ref b68), .val (.ref b89), .val (.int (0 : Int32)), .val (.int (0 : Int32)), .val (.int (0 : Int32)), .unset] [])) _
            refine XS.iload X184.here hx rfl (hb hby at_72) rfl ?_
            show Steps p.tables e below (T184.setTop (mkF m 74 #[.val (.long p0s), .second, .val (.long p1s), .second, .val (.long p2s), .second, .val (.long p3s), .second, .val (.int p4s), .val (.ref b68), .val (.ref b89), .val (.int (0 : Int32)), .val (.int (0 : Int32)), .val (.int (0 : Int32)), .unset] [(.int (0 : Int32))])) _
            refine XS.lloadN X184.here hx rfl (hb hby at_74) rfl ?_
            show Steps p.tables e below (T184.setTop (mkF m 75 #[.val (.long p0s), .second, .val (.long p1s), .second, .val (.long p2s), .second, .val (.long p3s), .second, .val (.int p4s), .val (.ref b68), .val (.ref b89), .val (.int (0 : Int32)), .val (.int (0 : Int32)), .val (.int (0 : Int32)), .unset] [(.long p0s), (.int (0 : Int32))])) _
            refine XS.lloadN X184.here hx rfl (hb hby at_75) rfl ?_
            show Steps p.tables e below (T184.setTop (mkF m 76 #[.val (.long p0s), .second, .val (.long p1s), .second, .val (.long p2s), .second, .val (.long p3s), .second, .val (.int p4s), .val (.ref b68), .val (.ref b89), .val (.int (0 : Int32)), .val (.int (0 : Int32)), .val (.int (0 : Int32)), .unset] [(.long p1s), (.long p0s), (.int (0 : Int32))])) _
            refine XS.lcmp X184.here hx rfl (hb hby at_76) rfl ?_
            show Steps p.tables e below (T184.setTop (mkF m 77 #[.val (.long p0s), .second, .val (.long p1s), .second, .val (.long p2s), .second, .val (.long p3s), .second, .val (.int p4s), .val (.ref b68), .val (.ref b89), .val (.int (0 : Int32)), .val (.int (0 : Int32)), .val (.int (0 : Int32)), .unset] [(.int (lcmpW p0s p1s)), (.int (0 : Int32))])) _
            refine XS.ifYes X184.here hx rfl (pc0 := 77) (pc' := 84) rfl (hb hby at_77) rfl (own_l_nlt hc185).2 (by decide) (by decide) ?_
            show Steps p.tables e below (T184.setTop (mkF m 84 #[.val (.long p0s), .second, .val (.long p1s), .second, .val (.long p2s), .second, .val (.long p3s), .second, .val (.int p4s), .val (.ref b68), .val (.ref b89), .val (.int (0 : Int32)), .val (.int (0 : Int32)), .val (.int (0 : Int32)), .unset] [(.int (0 : Int32))])) _
            refine XS.iconst X184.here hx rfl (hb hby at_84) ?_
            show Steps p.tables e below (T184.setTop (mkF m 85 #[.val (.long p0s), .second, .val (.long p1s), .second, .val (.long p2s), .second, .val (.long p3s), .second, .val (.int p4s), .val (.ref b68), .val (.ref b89), .val (.int (0 : Int32)), .val (.int (0 : Int32)), .val (.int (0 : Int32)), .unset] [(.int (0 : Int32)), (.int (0 : Int32))])) _
            refine XS.icmpYes X184.here hx rfl (pc0 := 85) (pc' := 90) rfl (hb hby at_85) rfl (teq (show (0 : Int32) = (0 : Int32) from by decide)).1 (by decide) (by decide) ?_
            show Steps p.tables e below (T184.setTop (mkF m 90 #[.val (.long p0s), .second, .val (.long p1s), .second, .val (.long p2s), .second, .val (.long p3s), .second, .val (.int p4s), .val (.ref b68), .val (.ref b89), .val (.int (0 : Int32)), .val (.int (0 : Int32)), .val (.int (0 : Int32)), .unset] [])) _
            refine XS.lloadN X184.here hx rfl (hb hby at_90) rfl ?_
            show Steps p.tables e below (T184.setTop (mkF m 91 #[.val (.long p0s), .second, .val (.long p1s), .second, .val (.long p2s), .second, .val (.long p3s), .second, .val (.int p4s), .val (.ref b68), .val (.ref b89), .val (.int (0 : Int32)), .val (.int (0 : Int32)), .val (.int (0 : Int32)), .unset] [(.long p0s)])) _
            refine XS.lloadN X184.here hx rfl (hb hby at_91) rfl ?_
            show Steps p.tables e below (T184.setTop (mkF m 92 #[.val (.long p0s), .second, .val (.long p1s), .second, .val (.long p2s), .second, .val (.long p3s), .second, .val (.int p4s), .val (.ref b68), .val (.ref b89), .val (.int (0 : Int32)), .val (.int (0 : Int32)), .val (.int (0 : Int32)), .unset] [(.long p1s), (.long p0s)])) _
            refine XS.lcmp X184.here hx rfl (hb hby at_92) rfl ?_
            show Steps p.tables e below (T184.setTop (mkF m 93 #[.val (.long p0s), .second, .val (.long p1s), .second, .val (.long p2s), .second, .val (.long p3s), .second, .val (.int p4s), .val (.ref b68), .val (.ref b89), .val (.int (0 : Int32)), .val (.int (0 : Int32)), .val (.int (0 : Int32)), .unset] [(.int (lcmpW p0s p1s))])) _
            refine XS.ifYes X184.here hx rfl (pc0 := 93) (pc' := 136) rfl (hb hby at_93) rfl (own_l_nlt hc185).2 (by decide) (by decide) ?_
            show Steps p.tables e below (T184.setTop (mkF m 136 #[.val (.long p0s), .second, .val (.long p1s), .second, .val (.long p2s), .second, .val (.long p3s), .second, .val (.int p4s), .val (.ref b68), .val (.ref b89), .val (.int (0 : Int32)), .val (.int (0 : Int32)), .val (.int (0 : Int32)), .unset] [])) _
            refine XS.iconst X184.here hx rfl (hb hby at_136) ?_
            exact k
          refine hG (own_fin X184 hlk (some (.int (nar .boolean (1 : Int32)))) (own_hv Bd.returns) ?_ (by decide) (by decide) (fun fs hr => r218 _ (retN X184 hx (t := .boolean) Bd.returns (by simp) (hb hby at_137) hr)))
          rw [I184_0]
          exact ⟨rfl, N184⟩
    · have ev219 : (own_over p0s p1s p2s p3s) = (0 : Int32) := by unfold own_over; rw [if_neg hc133]
      have r220 : own_R p.tables e below F0 (T132.setTop (mkF m 43 #[.val (.long p0s), .second, .val (.long p1s), .second, .val (.long p2s), .second, .val (.long p3s), .second, .val (.int p4s), .val (.ref b68), .val (.ref b89), .unset, .unset, .unset, .unset] [(.int (0 : Int32))])) := by have q := r132; rw [ev219] at q; exact q
      have r221 : own_R p.tables e below F0 (T132.setTop (mkF m 49 #[.val (.long p0s), .second, .val (.long p1s), .second, .val (.long p2s), .second, .val (.long p3s), .second, .val (.int p4s), .val (.ref b68), .val (.ref b89), .val (.int (0 : Int32)), .unset, .unset, .unset] [(.ref b68), (.ref b89)])) := fun t k => by
        refine r220 t ?_
        show Steps p.tables e below (T132.setTop (mkF m 43 #[.val (.long p0s), .second, .val (.long p1s), .second, .val (.long p2s), .second, .val (.long p3s), .second, .val (.int p4s), .val (.ref b68), .val (.ref b89), .unset, .unset, .unset, .unset] [(.int (0 : Int32))])) _
        refine XS.istore X132.here hx rfl (hb hby at_43) rfl (l' := #[.val (.long p0s), .second, .val (.long p1s), .second, .val (.long p2s), .second, .val (.long p3s), .second, .val (.int p4s), .val (.ref b68), .val (.ref b89), .val (.int (0 : Int32)), .unset, .unset, .unset]) rfl ?_
        show Steps p.tables e below (T132.setTop (mkF m 45 #[.val (.long p0s), .second, .val (.long p1s), .second, .val (.long p2s), .second, .val (.long p3s), .second, .val (.int p4s), .val (.ref b68), .val (.ref b89), .val (.int (0 : Int32)), .unset, .unset, .unset] [])) _
        refine XS.aload X132.here hx rfl (hb hby at_45) rfl rfl ?_
        show Steps p.tables e below (T132.setTop (mkF m 47 #[.val (.long p0s), .second, .val (.long p1s), .second, .val (.long p2s), .second, .val (.long p3s), .second, .val (.int p4s), .val (.ref b68), .val (.ref b89), .val (.int (0 : Int32)), .unset, .unset, .unset] [(.ref b89)])) _
        refine XS.aload X132.here hx rfl (hb hby at_47) rfl rfl ?_
        exact k
      obtain ⟨cq222, kq222, q222a, q222b, q222c⟩ := isOf hZ I132_0 I121_1
      obtain ⟨_, _, ⟨T222, L222, k222, n222⟩, -, X222, ⟨Lc222, hQ222, l222, y222, z222⟩, st222⟩ := X132.virtualBack hx (y := (⟨"com/example/invites_to_friends/invitestofriends/bench/Call", "overlaps", "(Lcom/example/invites_to_friends/invitestofriends/bench/Call;)Z"⟩ : MethodName)) (z := (⟨"com/example/invites_to_friends/invitestofriends/bench/Call", "overlaps", "(Lcom/example/invites_to_friends/invitestofriends/bench/Call;)Z"⟩ : MethodName)) hown (mvT hZ (hw _ (List.mem_of_getElem? (i := 23) rfl))) (mvT hZ (hw _ (List.mem_of_getElem? (i := 24) rfl))) (notFace_of_selects (args := #[]) (mvT hZ (hw _ (List.mem_of_getElem? (i := 26) rfl)))) (mvT hZ (hw _ (List.mem_of_getElem? (i := 26) rfl))) (mvT hZ (hw _ (List.mem_of_getElem? (i := 25) rfl))) (by decide) (backOf (W := 0) (rm4 l Z a0 hw [] b89 b68 (p2s) (p3s) (p0s) (p1s) h121 n0 Zs130 I121_2 I121_3 F124 F125) hZ (hw _ (List.mem_of_getElem? (i := 27) rfl)) (hw _ (List.mem_of_getElem? (i := 2) rfl)) (by decide) (by decide)) q222a q222c (g := (mkF m 49 #[.val (.long p0s), .second, .val (.long p1s), .second, .val (.long p2s), .second, .val (.long p3s), .second, .val (.int p4s), .val (.ref b68), .val (.ref b89), .val (.int (0 : Int32)), .unset, .unset, .unset] [(.ref b68), (.ref b89)])) rfl (by rw [hml]; rfl) (Steps.refl _) (argsL := [(.ref b68)]) (rest := []) (lenOf pd_2 rfl) rfl (by show 2 * 0 + _ ≤ _; exact Nat.le_of_eq rfl) (hb hby at_49) (fun _ _ => ⟨rfl, I132_0, (by decide : 4 + 0 ≤ _), (by decide : 8 + 0 ≤ _)⟩)
      dsimp only [Pt.U, Pt.locs, Pt.cells, Pt.slots] at X222 l222 y222 z222 st222 hQ222
      subst l222 y222 z222
      obtain ⟨rfl, N222q, I222_0⟩ := hQ222
      have N222 := Fr.app N132 N222q
      have r222 : own_R p.tables e below F0 (T222.setTop (mkF m 52 #[.val (.long p0s), .second, .val (.long p1s), .second, .val (.long p2s), .second, .val (.long p3s), .second, .val (.int p4s), .val (.ref b68), .val (.ref b89), .val (.int (0 : Int32)), .unset, .unset, .unset] [(.int (own_over p2s p3s p0s p1s))])) := fun t k => r221 t (st222.trans k)
      by_cases hc223 : p2s < p1s
      · have ev224 : (own_over p2s p3s p0s p1s) = (0 : Int32) := by unfold own_over; rw [if_pos hc223, if_neg hc133]
        have r225 : own_R p.tables e below F0 (T222.setTop (mkF m 52 #[.val (.long p0s), .second, .val (.long p1s), .second, .val (.long p2s), .second, .val (.long p3s), .second, .val (.int p4s), .val (.ref b68), .val (.ref b89), .val (.int (0 : Int32)), .unset, .unset, .unset] [(.int (0 : Int32))])) := by have q := r222; rw [ev224] at q; exact q
        have r226 : own_R p.tables e below F0 (T222.setTop (mkF m 58 #[.val (.long p0s), .second, .val (.long p1s), .second, .val (.long p2s), .second, .val (.long p3s), .second, .val (.int p4s), .val (.ref b68), .val (.ref b89), .val (.int (0 : Int32)), .val (.int (0 : Int32)), .unset, .unset] [(.ref b68), (.ref b68)])) := fun t k => by
          refine r225 t ?_
          show Steps p.tables e below (T222.setTop (mkF m 52 #[.val (.long p0s), .second, .val (.long p1s), .second, .val (.long p2s), .second, .val (.long p3s), .second, .val (.int p4s), .val (.ref b68), .val (.ref b89), .val (.int (0 : Int32)), .unset, .unset, .unset] [(.int (0 : Int32))])) _
          refine XS.istore X222.here hx rfl (hb hby at_52) rfl (l' := #[.val (.long p0s), .second, .val (.long p1s), .second, .val (.long p2s), .second, .val (.long p3s), .second, .val (.int p4s), .val (.ref b68), .val (.ref b89), .val (.int (0 : Int32)), .val (.int (0 : Int32)), .unset, .unset]) rfl ?_
          show Steps p.tables e below (T222.setTop (mkF m 54 #[.val (.long p0s), .second, .val (.long p1s), .second, .val (.long p2s), .second, .val (.long p3s), .second, .val (.int p4s), .val (.ref b68), .val (.ref b89), .val (.int (0 : Int32)), .val (.int (0 : Int32)), .unset, .unset] [])) _
          refine XS.aload X222.here hx rfl (hb hby at_54) rfl rfl ?_
          show Steps p.tables e below (T222.setTop (mkF m 56 #[.val (.long p0s), .second, .val (.long p1s), .second, .val (.long p2s), .second, .val (.long p3s), .second, .val (.int p4s), .val (.ref b68), .val (.ref b89), .val (.int (0 : Int32)), .val (.int (0 : Int32)), .unset, .unset] [(.ref b68)])) _
          refine XS.aload X222.here hx rfl (hb hby at_56) rfl rfl ?_
          exact k
        obtain ⟨cq227, kq227, q227a, q227b, q227c⟩ := isOf hZ I222_0 F123
        obtain ⟨_, _, ⟨T227, L227, k227, n227⟩, -, X227, ⟨Lc227, hQ227, l227, y227, z227⟩, st227⟩ := X222.virtualBack hx (y := (⟨"com/example/invites_to_friends/invitestofriends/bench/Call", "overlaps", "(Lcom/example/invites_to_friends/invitestofriends/bench/Call;)Z"⟩ : MethodName)) (z := (⟨"com/example/invites_to_friends/invitestofriends/bench/Call", "overlaps", "(Lcom/example/invites_to_friends/invitestofriends/bench/Call;)Z"⟩ : MethodName)) hown (mvT hZ (hw _ (List.mem_of_getElem? (i := 23) rfl))) (mvT hZ (hw _ (List.mem_of_getElem? (i := 24) rfl))) (notFace_of_selects (args := #[]) (mvT hZ (hw _ (List.mem_of_getElem? (i := 26) rfl)))) (mvT hZ (hw _ (List.mem_of_getElem? (i := 26) rfl))) (mvT hZ (hw _ (List.mem_of_getElem? (i := 25) rfl))) (by decide) (backOf (W := 0) (rm4 l Z a0 hw [] b68 b68 (p0s) (p1s) (p0s) (p1s) h121 n0 Zs130 F124 F125 F124 F125) hZ (hw _ (List.mem_of_getElem? (i := 27) rfl)) (hw _ (List.mem_of_getElem? (i := 2) rfl)) (by decide) (by decide)) q227a q227c (g := (mkF m 58 #[.val (.long p0s), .second, .val (.long p1s), .second, .val (.long p2s), .second, .val (.long p3s), .second, .val (.int p4s), .val (.ref b68), .val (.ref b89), .val (.int (0 : Int32)), .val (.int (0 : Int32)), .unset, .unset] [(.ref b68), (.ref b68)])) rfl (by rw [hml]; rfl) (Steps.refl _) (argsL := [(.ref b68)]) (rest := []) (lenOf pd_2 rfl) rfl (by show 2 * 0 + _ ≤ _; exact Nat.le_of_eq rfl) (hb hby at_58) (fun _ _ => ⟨rfl, I222_0, (by decide : 4 + 0 ≤ _), (by decide : 8 + 0 ≤ _)⟩)
        dsimp only [Pt.U, Pt.locs, Pt.cells, Pt.slots] at X227 l227 y227 z227 st227 hQ227
        subst l227 y227 z227
        obtain ⟨rfl, N227q, I227_0⟩ := hQ227
        have N227 := Fr.app N222 N227q
        have r227 : own_R p.tables e below F0 (T227.setTop (mkF m 61 #[.val (.long p0s), .second, .val (.long p1s), .second, .val (.long p2s), .second, .val (.long p3s), .second, .val (.int p4s), .val (.ref b68), .val (.ref b89), .val (.int (0 : Int32)), .val (.int (0 : Int32)), .unset, .unset] [(.int (own_over p0s p1s p0s p1s))])) := fun t k => r226 t (st227.trans k)
        by_cases hc228 : p0s < p1s
        · have ev229 : (own_over p0s p1s p0s p1s) = (1 : Int32) := by unfold own_over; rw [if_pos hc228, if_pos hc228]
          have r230 : own_R p.tables e below F0 (T227.setTop (mkF m 61 #[.val (.long p0s), .second, .val (.long p1s), .second, .val (.long p2s), .second, .val (.long p3s), .second, .val (.int p4s), .val (.ref b68), .val (.ref b89), .val (.int (0 : Int32)), .val (.int (0 : Int32)), .unset, .unset] [(.int (1 : Int32))])) := by have q := r227; rw [ev229] at q; exact q
          have r231 : own_R p.tables e below F0 (T227.setTop (mkF m 101 #[.val (.long p0s), .second, .val (.long p1s), .second, .val (.long p2s), .second, .val (.long p3s), .second, .val (.int p4s), .val (.ref b68), .val (.ref b89), .val (.int (0 : Int32)), .val (.int (0 : Int32)), .val (.int (1 : Int32)), .unset] [(.int (lcmpW p2s p3s))])) := fun t k => by
            refine r230 t ?_
            show Steps p.tables e below (T227.setTop (mkF m 61 #[.val (.long p0s), .second, .val (.long p1s), .second, .val (.long p2s), .second, .val (.long p3s), .second, .val (.int p4s), .val (.ref b68), .val (.ref b89), .val (.int (0 : Int32)), .val (.int (0 : Int32)), .unset, .unset] [(.int (1 : Int32))])) _
            refine XS.istore X227.here hx rfl (hb hby at_61) rfl (l' := #[.val (.long p0s), .second, .val (.long p1s), .second, .val (.long p2s), .second, .val (.long p3s), .second, .val (.int p4s), .val (.ref b68), .val (.ref b89), .val (.int (0 : Int32)), .val (.int (0 : Int32)), .val (.int (1 : Int32)), .unset]) rfl ?_
            show Steps p.tables e below (T227.setTop (mkF m 63 #[.val (.long p0s), .second, .val (.long p1s), .second, .val (.long p2s), .second, .val (.long p3s), .second, .val (.int p4s), .val (.ref b68), .val (.ref b89), .val (.int (0 : Int32)), .val (.int (0 : Int32)), .val (.int (1 : Int32)), .unset] [])) _
            refine XS.iload X227.here hx rfl (hb hby at_63) rfl ?_
            show Steps p.tables e below (T227.setTop (mkF m 65 #[.val (.long p0s), .second, .val (.long p1s), .second, .val (.long p2s), .second, .val (.long p3s), .second, .val (.int p4s), .val (.ref b68), .val (.ref b89), .val (.int (0 : Int32)), .val (.int (0 : Int32)), .val (.int (1 : Int32)), .unset] [(.int (0 : Int32))])) _
            refine XS.iload X227.here hx rfl (hb hby at_65) rfl ?_
            show Steps p.tables e below (T227.setTop (mkF m 67 #[.val (.long p0s), .second, .val (.long p1s), .second, .val (.long p2s), .second, .val (.long p3s), .second, .val (.int p4s), .val (.ref b68), .val (.ref b89), .val (.int (0 : Int32)), .val (.int (0 : Int32)), .val (.int (1 : Int32)), .unset] [(.int (0 : Int32)), (.int (0 : Int32))])) _
            refine XS.icmpYes X227.here hx rfl (pc0 := 67) (pc' := 72) rfl (hb hby at_67) rfl (teq (show (0 : Int32) = (0 : Int32) from by decide)).1 (by decide) (by decide) ?_
            show Steps p.tables e below (T227.setTop (mkF m 72 #[.val (.long p0s), .second, .val (.long p1s), .second, .val (.long p2s), .second, .val (.long p3s), .second, .val (.int p4s), .val (.ref b68), .val (.ref b89), .val (.int (0 : Int32)), .val (.int (0 : Int32)), .val (.int (1 : Int32)), .unset] [])) _
            refine XS.iload X227.here hx rfl (hb hby at_72) rfl ?_
            show Steps p.tables e below (T227.setTop (mkF m 74 #[.val (.long p0s), .second, .val (.long p1s), .second, .val (.long p2s), .second, .val (.long p3s), .second, .val (.int p4s), .val (.ref b68), .val (.ref b89), .val (.int (0 : Int32)), .val (.int (0 : Int32)), .val (.int (1 : Int32)), .unset] [(.int (1 : Int32))])) _
            refine XS.lloadN X227.here hx rfl (hb hby at_74) rfl ?_
            show Steps p.tables e below (T227.setTop (mkF m 75 #[.val (.long p0s), .second, .val (.long p1s), .second, .val (.long p2s), .second, .val (.long p3s), .second, .val (.int p4s), .val (.ref b68), .val (.ref b89), .val (.int (0 : Int32)), .val (.int (0 : Int32)), .val (.int (1 : Int32)), .unset] [(.long p0s), (.int (1 : Int32))])) _
            refine XS.lloadN X227.here hx rfl (hb hby at_75) rfl ?_
            show Steps p.tables e below (T227.setTop (mkF m 76 #[.val (.long p0s), .second, .val (.long p1s), .second, .val (.long p2s), .second, .val (.long p3s), .second, .val (.int p4s), .val (.ref b68), .val (.ref b89), .val (.int (0 : Int32)), .val (.int (0 : Int32)), .val (.int (1 : Int32)), .unset] [(.long p1s), (.long p0s), (.int (1 : Int32))])) _
            refine XS.lcmp X227.here hx rfl (hb hby at_76) rfl ?_
            show Steps p.tables e below (T227.setTop (mkF m 77 #[.val (.long p0s), .second, .val (.long p1s), .second, .val (.long p2s), .second, .val (.long p3s), .second, .val (.int p4s), .val (.ref b68), .val (.ref b89), .val (.int (0 : Int32)), .val (.int (0 : Int32)), .val (.int (1 : Int32)), .unset] [(.int (lcmpW p0s p1s)), (.int (1 : Int32))])) _
            refine XS.ifNo X227.here hx rfl (hb hby at_77) rfl (own_l_lt hc228).2 ?_
            show Steps p.tables e below (T227.setTop (mkF m 80 #[.val (.long p0s), .second, .val (.long p1s), .second, .val (.long p2s), .second, .val (.long p3s), .second, .val (.int p4s), .val (.ref b68), .val (.ref b89), .val (.int (0 : Int32)), .val (.int (0 : Int32)), .val (.int (1 : Int32)), .unset] [(.int (1 : Int32))])) _
            refine XS.iconst X227.here hx rfl (hb hby at_80) ?_
            show Steps p.tables e below (T227.setTop (mkF m 81 #[.val (.long p0s), .second, .val (.long p1s), .second, .val (.long p2s), .second, .val (.long p3s), .second, .val (.int p4s), .val (.ref b68), .val (.ref b89), .val (.int (0 : Int32)), .val (.int (0 : Int32)), .val (.int (1 : Int32)), .unset] [(.int (1 : Int32)), (.int (1 : Int32))])) _
            refine XS.goto X227.here hx rfl (pc0 := 81) (pc' := 85) rfl (hb hby at_81) (by decide) (by decide) ?_
            show Steps p.tables e below (T227.setTop (mkF m 85 #[.val (.long p0s), .second, .val (.long p1s), .second, .val (.long p2s), .second, .val (.long p3s), .second, .val (.int p4s), .val (.ref b68), .val (.ref b89), .val (.int (0 : Int32)), .val (.int (0 : Int32)), .val (.int (1 : Int32)), .unset] [(.int (1 : Int32)), (.int (1 : Int32))])) _
            refine XS.icmpYes X227.here hx rfl (pc0 := 85) (pc' := 90) rfl (hb hby at_85) rfl (teq (show (1 : Int32) = (1 : Int32) from by decide)).1 (by decide) (by decide) ?_
            show Steps p.tables e below (T227.setTop (mkF m 90 #[.val (.long p0s), .second, .val (.long p1s), .second, .val (.long p2s), .second, .val (.long p3s), .second, .val (.int p4s), .val (.ref b68), .val (.ref b89), .val (.int (0 : Int32)), .val (.int (0 : Int32)), .val (.int (1 : Int32)), .unset] [])) _
            refine XS.lloadN X227.here hx rfl (hb hby at_90) rfl ?_
            show Steps p.tables e below (T227.setTop (mkF m 91 #[.val (.long p0s), .second, .val (.long p1s), .second, .val (.long p2s), .second, .val (.long p3s), .second, .val (.int p4s), .val (.ref b68), .val (.ref b89), .val (.int (0 : Int32)), .val (.int (0 : Int32)), .val (.int (1 : Int32)), .unset] [(.long p0s)])) _
            refine XS.lloadN X227.here hx rfl (hb hby at_91) rfl ?_
            show Steps p.tables e below (T227.setTop (mkF m 92 #[.val (.long p0s), .second, .val (.long p1s), .second, .val (.long p2s), .second, .val (.long p3s), .second, .val (.int p4s), .val (.ref b68), .val (.ref b89), .val (.int (0 : Int32)), .val (.int (0 : Int32)), .val (.int (1 : Int32)), .unset] [(.long p1s), (.long p0s)])) _
            refine XS.lcmp X227.here hx rfl (hb hby at_92) rfl ?_
            show Steps p.tables e below (T227.setTop (mkF m 93 #[.val (.long p0s), .second, .val (.long p1s), .second, .val (.long p2s), .second, .val (.long p3s), .second, .val (.int p4s), .val (.ref b68), .val (.ref b89), .val (.int (0 : Int32)), .val (.int (0 : Int32)), .val (.int (1 : Int32)), .unset] [(.int (lcmpW p0s p1s))])) _
            refine XS.ifNo X227.here hx rfl (hb hby at_93) rfl (own_l_lt hc228).2 ?_
            show Steps p.tables e below (T227.setTop (mkF m 96 #[.val (.long p0s), .second, .val (.long p1s), .second, .val (.long p2s), .second, .val (.long p3s), .second, .val (.int p4s), .val (.ref b68), .val (.ref b89), .val (.int (0 : Int32)), .val (.int (0 : Int32)), .val (.int (1 : Int32)), .unset] [])) _
            refine XS.lload X227.here hx rfl (hb hby at_96) rfl ?_
            show Steps p.tables e below (T227.setTop (mkF m 98 #[.val (.long p0s), .second, .val (.long p1s), .second, .val (.long p2s), .second, .val (.long p3s), .second, .val (.int p4s), .val (.ref b68), .val (.ref b89), .val (.int (0 : Int32)), .val (.int (0 : Int32)), .val (.int (1 : Int32)), .unset] [(.long p2s)])) _
            refine XS.lload X227.here hx rfl (hb hby at_98) rfl ?_
            show Steps p.tables e below (T227.setTop (mkF m 100 #[.val (.long p0s), .second, .val (.long p1s), .second, .val (.long p2s), .second, .val (.long p3s), .second, .val (.int p4s), .val (.ref b68), .val (.ref b89), .val (.int (0 : Int32)), .val (.int (0 : Int32)), .val (.int (1 : Int32)), .unset] [(.long p3s), (.long p2s)])) _
            refine XS.lcmp X227.here hx rfl (hb hby at_100) rfl ?_
            exact k
          by_cases hc232 : p2s < p3s
          · have r233 : own_R p.tables e below F0 (T227.setTop (mkF m 107 #[.val (.long p0s), .second, .val (.long p1s), .second, .val (.long p2s), .second, .val (.long p3s), .second, .val (.int p4s), .val (.ref b68), .val (.ref b89), .val (.int (0 : Int32)), .val (.int (0 : Int32)), .val (.int (1 : Int32)), .unset] [(.long p2s), (.long p0s)])) := fun t k => by
              refine r231 t ?_
              show Steps p.tables e below (T227.setTop (mkF m 101 #[.val (.long p0s), .second, .val (.long p1s), .second, .val (.long p2s), .second, .val (.long p3s), .second, .val (.int p4s), .val (.ref b68), .val (.ref b89), .val (.int (0 : Int32)), .val (.int (0 : Int32)), .val (.int (1 : Int32)), .unset] [(.int (lcmpW p2s p3s))])) _
              refine XS.ifNo X227.here hx rfl (hb hby at_101) rfl (own_l_lt hc232).2 ?_
              show Steps p.tables e below (T227.setTop (mkF m 104 #[.val (.long p0s), .second, .val (.long p1s), .second, .val (.long p2s), .second, .val (.long p3s), .second, .val (.int p4s), .val (.ref b68), .val (.ref b89), .val (.int (0 : Int32)), .val (.int (0 : Int32)), .val (.int (1 : Int32)), .unset] [])) _
              refine XS.lloadN X227.here hx rfl (hb hby at_104) rfl ?_
              show Steps p.tables e below (T227.setTop (mkF m 105 #[.val (.long p0s), .second, .val (.long p1s), .second, .val (.long p2s), .second, .val (.long p3s), .second, .val (.int p4s), .val (.ref b68), .val (.ref b89), .val (.int (0 : Int32)), .val (.int (0 : Int32)), .val (.int (1 : Int32)), .unset] [(.long p0s)])) _
              refine XS.lload X227.here hx rfl (hb hby at_105) rfl ?_
              exact k
            obtain ⟨_, _, ⟨T234, L234, k234, n234⟩, -, X234, ⟨Lc234, hQ234, l234, y234, z234⟩, st234⟩ := Jvm.LawKit.callS X227 hx (y := (⟨"java/lang/Math", "max", "(JJ)J"⟩ : MethodName)) hown (mvT hZ (hw _ (List.mem_of_getElem? (i := 28) rfl))) (mvT hZ (hw _ (List.mem_of_getElem? (i := 29) rfl))) (mvT hZ (hw _ (List.mem_of_getElem? (i := 30) rfl))) (mvT hZ (hw _ (List.mem_of_getElem? (i := 31) rfl))) (by decide) (backOf (W := 0) (rm5 l Z a0 hw [] p0s p2s h121 n0 Zs130 ) hZ (hw _ (List.mem_of_getElem? (i := 31) rfl)) (hw _ (List.mem_of_getElem? (i := 30) rfl)) (by decide) (by decide)) (g := (mkF m 107 #[.val (.long p0s), .second, .val (.long p1s), .second, .val (.long p2s), .second, .val (.long p3s), .second, .val (.int p4s), .val (.ref b68), .val (.ref b89), .val (.int (0 : Int32)), .val (.int (0 : Int32)), .val (.int (1 : Int32)), .unset] [(.long p2s), (.long p0s)])) rfl (by rw [hml]; rfl) (argsL := [(.long p0s), (.long p2s)]) (rest := []) (lenOf pd_3 rfl) rfl (by show 2 * 0 + _ ≤ _; exact Nat.le_of_eq rfl) (hb hby at_107) (fun _ _ => ⟨rfl, I227_0, (by decide : 4 + 0 ≤ _), (by decide : 8 + 0 ≤ _)⟩)
            dsimp only [Pt.U, Pt.locs, Pt.cells, Pt.slots] at X234 l234 y234 z234 st234 hQ234
            subst l234 y234 z234
            obtain ⟨rfl, N234q, I234_0⟩ := hQ234
            have N234 := Fr.app N227 N234q
            have r234 : own_R p.tables e below F0 (T234.setTop (mkF m 110 #[.val (.long p0s), .second, .val (.long p1s), .second, .val (.long p2s), .second, .val (.long p3s), .second, .val (.int p4s), .val (.ref b68), .val (.ref b89), .val (.int (0 : Int32)), .val (.int (0 : Int32)), .val (.int (1 : Int32)), .unset] [(.long (own_max p0s p2s))])) := fun t k => r233 t (st234 t k)
            by_cases hc235 : p0s < p2s
            · have ev236 : (own_max p0s p2s) = p2s := by unfold own_max; rw [if_pos hc235]
              have r237 : own_R p.tables e below F0 (T234.setTop (mkF m 110 #[.val (.long p0s), .second, .val (.long p1s), .second, .val (.long p2s), .second, .val (.long p3s), .second, .val (.int p4s), .val (.ref b68), .val (.ref b89), .val (.int (0 : Int32)), .val (.int (0 : Int32)), .val (.int (1 : Int32)), .unset] [(.long p2s)])) := by have q := r234; rw [ev236] at q; exact q
              have r238 : own_R p.tables e below F0 (T234.setTop (mkF m 113 #[.val (.long p0s), .second, .val (.long p1s), .second, .val (.long p2s), .second, .val (.long p3s), .second, .val (.int p4s), .val (.ref b68), .val (.ref b89), .val (.int (0 : Int32)), .val (.int (0 : Int32)), .val (.int (1 : Int32)), .unset] [(.long p3s), (.long p1s), (.long p2s)])) := fun t k => by
                refine r237 t ?_
                show Steps p.tables e below (T234.setTop (mkF m 110 #[.val (.long p0s), .second, .val (.long p1s), .second, .val (.long p2s), .second, .val (.long p3s), .second, .val (.int p4s), .val (.ref b68), .val (.ref b89), .val (.int (0 : Int32)), .val (.int (0 : Int32)), .val (.int (1 : Int32)), .unset] [(.long p2s)])) _
                refine XS.lloadN X234.here hx rfl (hb hby at_110) rfl ?_
                show Steps p.tables e below (T234.setTop (mkF m 111 #[.val (.long p0s), .second, .val (.long p1s), .second, .val (.long p2s), .second, .val (.long p3s), .second, .val (.int p4s), .val (.ref b68), .val (.ref b89), .val (.int (0 : Int32)), .val (.int (0 : Int32)), .val (.int (1 : Int32)), .unset] [(.long p1s), (.long p2s)])) _
                refine XS.lload X234.here hx rfl (hb hby at_111) rfl ?_
                exact k
              obtain ⟨_, _, ⟨T239, L239, k239, n239⟩, -, X239, ⟨Lc239, hQ239, l239, y239, z239⟩, st239⟩ := Jvm.LawKit.callS X234 hx (y := (⟨"java/lang/Math", "min", "(JJ)J"⟩ : MethodName)) hown (mvT hZ (hw _ (List.mem_of_getElem? (i := 32) rfl))) (mvT hZ (hw _ (List.mem_of_getElem? (i := 33) rfl))) (mvT hZ (hw _ (List.mem_of_getElem? (i := 30) rfl))) (mvT hZ (hw _ (List.mem_of_getElem? (i := 34) rfl))) (by decide) (backOf (W := 2) (rm6 l Z a0 hw [] p1s p3s h121 n0 Zs130 ) hZ (hw _ (List.mem_of_getElem? (i := 34) rfl)) (hw _ (List.mem_of_getElem? (i := 30) rfl)) (by decide) (by decide)) (g := (mkF m 113 #[.val (.long p0s), .second, .val (.long p1s), .second, .val (.long p2s), .second, .val (.long p3s), .second, .val (.int p4s), .val (.ref b68), .val (.ref b89), .val (.int (0 : Int32)), .val (.int (0 : Int32)), .val (.int (1 : Int32)), .unset] [(.long p3s), (.long p1s), (.long p2s)])) rfl (by rw [hml]; rfl) (argsL := [(.long p1s), (.long p3s)]) (rest := [(.long p2s)]) (lenOf pd_3 rfl) rfl (by show 2 * 0 + _ ≤ _; exact Nat.le_of_eq rfl) (hb hby at_113) (fun _ _ => ⟨rfl, I234_0, (by decide : 4 + 0 ≤ _), (by decide : 8 + 0 ≤ _)⟩)
              dsimp only [Pt.U, Pt.locs, Pt.cells, Pt.slots] at X239 l239 y239 z239 st239 hQ239
              subst l239 y239 z239
              obtain ⟨rfl, N239q, I239_0⟩ := hQ239
              have N239 := Fr.app N234 N239q
              have r239 : own_R p.tables e below F0 (T239.setTop (mkF m 116 #[.val (.long p0s), .second, .val (.long p1s), .second, .val (.long p2s), .second, .val (.long p3s), .second, .val (.int p4s), .val (.ref b68), .val (.ref b89), .val (.int (0 : Int32)), .val (.int (0 : Int32)), .val (.int (1 : Int32)), .unset] [(.long (own_min p1s p3s)), (.long p2s)])) := fun t k => r238 t (st239 t k)
              by_cases hc240 : p3s < p1s
              · have ev241 : (own_min p1s p3s) = p3s := by unfold own_min; rw [if_pos hc240]
                have r242 : own_R p.tables e below F0 (T239.setTop (mkF m 116 #[.val (.long p0s), .second, .val (.long p1s), .second, .val (.long p2s), .second, .val (.long p3s), .second, .val (.int p4s), .val (.ref b68), .val (.ref b89), .val (.int (0 : Int32)), .val (.int (0 : Int32)), .val (.int (1 : Int32)), .unset] [(.long p3s), (.long p2s)])) := by have q := r239; rw [ev241] at q; exact q
                have r243 : own_R p.tables e below F0 (T239.setTop (mkF m 135 #[.val (.long p0s), .second, .val (.long p1s), .second, .val (.long p2s), .second, .val (.long p3s), .second, .val (.int p4s), .val (.ref b68), .val (.ref b89), .val (.int (0 : Int32)), .val (.int (0 : Int32)), .val (.int (1 : Int32)), .val (.int (1 : Int32))] [(.int (0 : Int32))])) := fun t k => by
                  refine r242 t ?_
                  show Steps p.tables e below (T239.setTop (mkF m 116 #[.val (.long p0s), .second, .val (.long p1s), .second, .val (.long p2s), .second, .val (.long p3s), .second, .val (.int p4s), .val (.ref b68), .val (.ref b89), .val (.int (0 : Int32)), .val (.int (0 : Int32)), .val (.int (1 : Int32)), .unset] [(.long p3s), (.long p2s)])) _
                  refine XS.lcmp X239.here hx rfl (hb hby at_116) rfl ?_
                  show Steps p.tables e below (T239.setTop (mkF m 117 #[.val (.long p0s), .second, .val (.long p1s), .second, .val (.long p2s), .second, .val (.long p3s), .second, .val (.int p4s), .val (.ref b68), .val (.ref b89), .val (.int (0 : Int32)), .val (.int (0 : Int32)), .val (.int (1 : Int32)), .unset] [(.int (lcmpW p2s p3s))])) _
                  refine XS.ifNo X239.here hx rfl (hb hby at_117) rfl (own_l_lt hc232).2 ?_
                  show Steps p.tables e below (T239.setTop (mkF m 120 #[.val (.long p0s), .second, .val (.long p1s), .second, .val (.long p2s), .second, .val (.long p3s), .second, .val (.int p4s), .val (.ref b68), .val (.ref b89), .val (.int (0 : Int32)), .val (.int (0 : Int32)), .val (.int (1 : Int32)), .unset] [])) _
                  refine XS.iconst X239.here hx rfl (hb hby at_120) ?_
                  show Steps p.tables e below (T239.setTop (mkF m 121 #[.val (.long p0s), .second, .val (.long p1s), .second, .val (.long p2s), .second, .val (.long p3s), .second, .val (.int p4s), .val (.ref b68), .val (.ref b89), .val (.int (0 : Int32)), .val (.int (0 : Int32)), .val (.int (1 : Int32)), .unset] [(.int (1 : Int32))])) _
                  refine XS.goto X239.here hx rfl (pc0 := 121) (pc' := 125) rfl (hb hby at_121) (by decide) (by decide) ?_
                  show Steps p.tables e below (T239.setTop (mkF m 125 #[.val (.long p0s), .second, .val (.long p1s), .second, .val (.long p2s), .second, .val (.long p3s), .second, .val (.int p4s), .val (.ref b68), .val (.ref b89), .val (.int (0 : Int32)), .val (.int (0 : Int32)), .val (.int (1 : Int32)), .unset] [(.int (1 : Int32))])) _
                  refine XS.istore X239.here hx rfl (hb hby at_125) rfl (l' := #[.val (.long p0s), .second, .val (.long p1s), .second, .val (.long p2s), .second, .val (.long p3s), .second, .val (.int p4s), .val (.ref b68), .val (.ref b89), .val (.int (0 : Int32)), .val (.int (0 : Int32)), .val (.int (1 : Int32)), .val (.int (1 : Int32))]) rfl ?_
                  show Steps p.tables e below (T239.setTop (mkF m 127 #[.val (.long p0s), .second, .val (.long p1s), .second, .val (.long p2s), .second, .val (.long p3s), .second, .val (.int p4s), .val (.ref b68), .val (.ref b89), .val (.int (0 : Int32)), .val (.int (0 : Int32)), .val (.int (1 : Int32)), .val (.int (1 : Int32))] [])) _
                  refine XS.iload X239.here hx rfl (hb hby at_127) rfl ?_
                  show Steps p.tables e below (T239.setTop (mkF m 129 #[.val (.long p0s), .second, .val (.long p1s), .second, .val (.long p2s), .second, .val (.long p3s), .second, .val (.int p4s), .val (.ref b68), .val (.ref b89), .val (.int (0 : Int32)), .val (.int (0 : Int32)), .val (.int (1 : Int32)), .val (.int (1 : Int32))] [(.int (0 : Int32))])) _
                  refine XS.iload X239.here hx rfl (hb hby at_129) rfl ?_
                  show Steps p.tables e below (T239.setTop (mkF m 131 #[.val (.long p0s), .second, .val (.long p1s), .second, .val (.long p2s), .second, .val (.long p3s), .second, .val (.int p4s), .val (.ref b68), .val (.ref b89), .val (.int (0 : Int32)), .val (.int (0 : Int32)), .val (.int (1 : Int32)), .val (.int (1 : Int32))] [(.int (1 : Int32)), (.int (0 : Int32))])) _
                  refine XS.icmpNo X239.here hx rfl (hb hby at_131) rfl (feq (show ¬ ((0 : Int32) = (1 : Int32)) from by decide)).1 ?_
                  show Steps p.tables e below (T239.setTop (mkF m 134 #[.val (.long p0s), .second, .val (.long p1s), .second, .val (.long p2s), .second, .val (.long p3s), .second, .val (.int p4s), .val (.ref b68), .val (.ref b89), .val (.int (0 : Int32)), .val (.int (0 : Int32)), .val (.int (1 : Int32)), .val (.int (1 : Int32))] [])) _
                  refine XS.iconst X239.here hx rfl (hb hby at_134) ?_
                  exact k
                exfalso
                have q111_r := own_R64 p0s
                have q112_r := own_R64 p3s
                have q113_r := own_R64 p2s
                have q114_r := own_R64 p1s
                have q115_c := own_nlt64 hc133
                have q116_c := own_lt64 hc223
                have q117_c := own_lt64 hc228
                have q118_c := own_lt64 hc232
                have q119_c := own_lt64 hc235
                have q120_c := own_lt64 hc240
                omega
              · have ev244 : (own_min p1s p3s) = p1s := by unfold own_min; rw [if_neg hc240]
                have r245 : own_R p.tables e below F0 (T239.setTop (mkF m 116 #[.val (.long p0s), .second, .val (.long p1s), .second, .val (.long p2s), .second, .val (.long p3s), .second, .val (.int p4s), .val (.ref b68), .val (.ref b89), .val (.int (0 : Int32)), .val (.int (0 : Int32)), .val (.int (1 : Int32)), .unset] [(.long p1s), (.long p2s)])) := by have q := r239; rw [ev244] at q; exact q
                have r246 : own_R p.tables e below F0 (T239.setTop (mkF m 135 #[.val (.long p0s), .second, .val (.long p1s), .second, .val (.long p2s), .second, .val (.long p3s), .second, .val (.int p4s), .val (.ref b68), .val (.ref b89), .val (.int (0 : Int32)), .val (.int (0 : Int32)), .val (.int (1 : Int32)), .val (.int (1 : Int32))] [(.int (0 : Int32))])) := fun t k => by
                  refine r245 t ?_
                  show Steps p.tables e below (T239.setTop (mkF m 116 #[.val (.long p0s), .second, .val (.long p1s), .second, .val (.long p2s), .second, .val (.long p3s), .second, .val (.int p4s), .val (.ref b68), .val (.ref b89), .val (.int (0 : Int32)), .val (.int (0 : Int32)), .val (.int (1 : Int32)), .unset] [(.long p1s), (.long p2s)])) _
                  refine XS.lcmp X239.here hx rfl (hb hby at_116) rfl ?_
                  show Steps p.tables e below (T239.setTop (mkF m 117 #[.val (.long p0s), .second, .val (.long p1s), .second, .val (.long p2s), .second, .val (.long p3s), .second, .val (.int p4s), .val (.ref b68), .val (.ref b89), .val (.int (0 : Int32)), .val (.int (0 : Int32)), .val (.int (1 : Int32)), .unset] [(.int (lcmpW p2s p1s))])) _
                  refine XS.ifNo X239.here hx rfl (hb hby at_117) rfl (own_l_lt hc223).2 ?_
                  show Steps p.tables e below (T239.setTop (mkF m 120 #[.val (.long p0s), .second, .val (.long p1s), .second, .val (.long p2s), .second, .val (.long p3s), .second, .val (.int p4s), .val (.ref b68), .val (.ref b89), .val (.int (0 : Int32)), .val (.int (0 : Int32)), .val (.int (1 : Int32)), .unset] [])) _
                  refine XS.iconst X239.here hx rfl (hb hby at_120) ?_
                  show Steps p.tables e below (T239.setTop (mkF m 121 #[.val (.long p0s), .second, .val (.long p1s), .second, .val (.long p2s), .second, .val (.long p3s), .second, .val (.int p4s), .val (.ref b68), .val (.ref b89), .val (.int (0 : Int32)), .val (.int (0 : Int32)), .val (.int (1 : Int32)), .unset] [(.int (1 : Int32))])) _
                  refine XS.goto X239.here hx rfl (pc0 := 121) (pc' := 125) rfl (hb hby at_121) (by decide) (by decide) ?_
                  show Steps p.tables e below (T239.setTop (mkF m 125 #[.val (.long p0s), .second, .val (.long p1s), .second, .val (.long p2s), .second, .val (.long p3s), .second, .val (.int p4s), .val (.ref b68), .val (.ref b89), .val (.int (0 : Int32)), .val (.int (0 : Int32)), .val (.int (1 : Int32)), .unset] [(.int (1 : Int32))])) _
                  refine XS.istore X239.here hx rfl (hb hby at_125) rfl (l' := #[.val (.long p0s), .second, .val (.long p1s), .second, .val (.long p2s), .second, .val (.long p3s), .second, .val (.int p4s), .val (.ref b68), .val (.ref b89), .val (.int (0 : Int32)), .val (.int (0 : Int32)), .val (.int (1 : Int32)), .val (.int (1 : Int32))]) rfl ?_
                  show Steps p.tables e below (T239.setTop (mkF m 127 #[.val (.long p0s), .second, .val (.long p1s), .second, .val (.long p2s), .second, .val (.long p3s), .second, .val (.int p4s), .val (.ref b68), .val (.ref b89), .val (.int (0 : Int32)), .val (.int (0 : Int32)), .val (.int (1 : Int32)), .val (.int (1 : Int32))] [])) _
                  refine XS.iload X239.here hx rfl (hb hby at_127) rfl ?_
                  show Steps p.tables e below (T239.setTop (mkF m 129 #[.val (.long p0s), .second, .val (.long p1s), .second, .val (.long p2s), .second, .val (.long p3s), .second, .val (.int p4s), .val (.ref b68), .val (.ref b89), .val (.int (0 : Int32)), .val (.int (0 : Int32)), .val (.int (1 : Int32)), .val (.int (1 : Int32))] [(.int (0 : Int32))])) _
                  refine XS.iload X239.here hx rfl (hb hby at_129) rfl ?_
                  show Steps p.tables e below (T239.setTop (mkF m 131 #[.val (.long p0s), .second, .val (.long p1s), .second, .val (.long p2s), .second, .val (.long p3s), .second, .val (.int p4s), .val (.ref b68), .val (.ref b89), .val (.int (0 : Int32)), .val (.int (0 : Int32)), .val (.int (1 : Int32)), .val (.int (1 : Int32))] [(.int (1 : Int32)), (.int (0 : Int32))])) _
                  refine XS.icmpNo X239.here hx rfl (hb hby at_131) rfl (feq (show ¬ ((0 : Int32) = (1 : Int32)) from by decide)).1 ?_
                  show Steps p.tables e below (T239.setTop (mkF m 134 #[.val (.long p0s), .second, .val (.long p1s), .second, .val (.long p2s), .second, .val (.long p3s), .second, .val (.int p4s), .val (.ref b68), .val (.ref b89), .val (.int (0 : Int32)), .val (.int (0 : Int32)), .val (.int (1 : Int32)), .val (.int (1 : Int32))] [])) _
                  refine XS.iconst X239.here hx rfl (hb hby at_134) ?_
                  exact k
                exfalso
                have q121_r := own_R64 p0s
                have q122_r := own_R64 p3s
                have q123_r := own_R64 p2s
                have q124_r := own_R64 p1s
                have q125_c := own_nlt64 hc133
                have q126_c := own_lt64 hc223
                have q127_c := own_lt64 hc228
                have q128_c := own_lt64 hc232
                have q129_c := own_lt64 hc235
                have q130_c := own_nlt64 hc240
                omega
            · have ev247 : (own_max p0s p2s) = p0s := by unfold own_max; rw [if_neg hc235]
              have r248 : own_R p.tables e below F0 (T234.setTop (mkF m 110 #[.val (.long p0s), .second, .val (.long p1s), .second, .val (.long p2s), .second, .val (.long p3s), .second, .val (.int p4s), .val (.ref b68), .val (.ref b89), .val (.int (0 : Int32)), .val (.int (0 : Int32)), .val (.int (1 : Int32)), .unset] [(.long p0s)])) := by have q := r234; rw [ev247] at q; exact q
              have r249 : own_R p.tables e below F0 (T234.setTop (mkF m 113 #[.val (.long p0s), .second, .val (.long p1s), .second, .val (.long p2s), .second, .val (.long p3s), .second, .val (.int p4s), .val (.ref b68), .val (.ref b89), .val (.int (0 : Int32)), .val (.int (0 : Int32)), .val (.int (1 : Int32)), .unset] [(.long p3s), (.long p1s), (.long p0s)])) := fun t k => by
                refine r248 t ?_
                show Steps p.tables e below (T234.setTop (mkF m 110 #[.val (.long p0s), .second, .val (.long p1s), .second, .val (.long p2s), .second, .val (.long p3s), .second, .val (.int p4s), .val (.ref b68), .val (.ref b89), .val (.int (0 : Int32)), .val (.int (0 : Int32)), .val (.int (1 : Int32)), .unset] [(.long p0s)])) _
                refine XS.lloadN X234.here hx rfl (hb hby at_110) rfl ?_
                show Steps p.tables e below (T234.setTop (mkF m 111 #[.val (.long p0s), .second, .val (.long p1s), .second, .val (.long p2s), .second, .val (.long p3s), .second, .val (.int p4s), .val (.ref b68), .val (.ref b89), .val (.int (0 : Int32)), .val (.int (0 : Int32)), .val (.int (1 : Int32)), .unset] [(.long p1s), (.long p0s)])) _
                refine XS.lload X234.here hx rfl (hb hby at_111) rfl ?_
                exact k
              obtain ⟨_, _, ⟨T250, L250, k250, n250⟩, -, X250, ⟨Lc250, hQ250, l250, y250, z250⟩, st250⟩ := Jvm.LawKit.callS X234 hx (y := (⟨"java/lang/Math", "min", "(JJ)J"⟩ : MethodName)) hown (mvT hZ (hw _ (List.mem_of_getElem? (i := 32) rfl))) (mvT hZ (hw _ (List.mem_of_getElem? (i := 33) rfl))) (mvT hZ (hw _ (List.mem_of_getElem? (i := 30) rfl))) (mvT hZ (hw _ (List.mem_of_getElem? (i := 34) rfl))) (by decide) (backOf (W := 2) (rm6 l Z a0 hw [] p1s p3s h121 n0 Zs130 ) hZ (hw _ (List.mem_of_getElem? (i := 34) rfl)) (hw _ (List.mem_of_getElem? (i := 30) rfl)) (by decide) (by decide)) (g := (mkF m 113 #[.val (.long p0s), .second, .val (.long p1s), .second, .val (.long p2s), .second, .val (.long p3s), .second, .val (.int p4s), .val (.ref b68), .val (.ref b89), .val (.int (0 : Int32)), .val (.int (0 : Int32)), .val (.int (1 : Int32)), .unset] [(.long p3s), (.long p1s), (.long p0s)])) rfl (by rw [hml]; rfl) (argsL := [(.long p1s), (.long p3s)]) (rest := [(.long p0s)]) (lenOf pd_3 rfl) rfl (by show 2 * 0 + _ ≤ _; exact Nat.le_of_eq rfl) (hb hby at_113) (fun _ _ => ⟨rfl, I234_0, (by decide : 4 + 0 ≤ _), (by decide : 8 + 0 ≤ _)⟩)
              dsimp only [Pt.U, Pt.locs, Pt.cells, Pt.slots] at X250 l250 y250 z250 st250 hQ250
              subst l250 y250 z250
              obtain ⟨rfl, N250q, I250_0⟩ := hQ250
              have N250 := Fr.app N234 N250q
              have r250 : own_R p.tables e below F0 (T250.setTop (mkF m 116 #[.val (.long p0s), .second, .val (.long p1s), .second, .val (.long p2s), .second, .val (.long p3s), .second, .val (.int p4s), .val (.ref b68), .val (.ref b89), .val (.int (0 : Int32)), .val (.int (0 : Int32)), .val (.int (1 : Int32)), .unset] [(.long (own_min p1s p3s)), (.long p0s)])) := fun t k => r249 t (st250 t k)
              by_cases hc251 : p3s < p1s
              · have ev252 : (own_min p1s p3s) = p3s := by unfold own_min; rw [if_pos hc251]
                have r253 : own_R p.tables e below F0 (T250.setTop (mkF m 116 #[.val (.long p0s), .second, .val (.long p1s), .second, .val (.long p2s), .second, .val (.long p3s), .second, .val (.int p4s), .val (.ref b68), .val (.ref b89), .val (.int (0 : Int32)), .val (.int (0 : Int32)), .val (.int (1 : Int32)), .unset] [(.long p3s), (.long p0s)])) := by have q := r250; rw [ev252] at q; exact q
                have r254 : own_R p.tables e below F0 (T250.setTop (mkF m 137 #[.val (.long p0s), .second, .val (.long p1s), .second, .val (.long p2s), .second, .val (.long p3s), .second, .val (.int p4s), .val (.ref b68), .val (.ref b89), .val (.int (0 : Int32)), .val (.int (0 : Int32)), .val (.int (1 : Int32)), .val (.int (0 : Int32))] [(.int (1 : Int32))])) := fun t k => by
                  refine r253 t ?_
                  show Steps p.tables e below (T250.setTop (mkF m 116 #[.val (.long p0s), .second, .val (.long p1s), .second, .val (.long p2s), .second, .val (.long p3s), .second, .val (.int p4s), .val (.ref b68), .val (.ref b89), .val (.int (0 : Int32)), .val (.int (0 : Int32)), .val (.int (1 : Int32)), .unset] [(.long p3s), (.long p0s)])) _
                  refine XS.lcmp X250.here hx rfl (hb hby at_116) rfl ?_
                  show Steps p.tables e below (T250.setTop (mkF m 117 #[.val (.long p0s), .second, .val (.long p1s), .second, .val (.long p2s), .second, .val (.long p3s), .second, .val (.int p4s), .val (.ref b68), .val (.ref b89), .val (.int (0 : Int32)), .val (.int (0 : Int32)), .val (.int (1 : Int32)), .unset] [(.int (lcmpW p0s p3s))])) _
                  refine XS.ifYes X250.here hx rfl (pc0 := 117) (pc' := 124) rfl (hb hby at_117) rfl (own_l_nlt hc133).2 (by decide) (by decide) ?_
                  show Steps p.tables e below (T250.setTop (mkF m 124 #[.val (.long p0s), .second, .val (.long p1s), .second, .val (.long p2s), .second, .val (.long p3s), .second, .val (.int p4s), .val (.ref b68), .val (.ref b89), .val (.int (0 : Int32)), .val (.int (0 : Int32)), .val (.int (1 : Int32)), .unset] [])) _
                  refine XS.iconst X250.here hx rfl (hb hby at_124) ?_
                  show Steps p.tables e below (T250.setTop (mkF m 125 #[.val (.long p0s), .second, .val (.long p1s), .second, .val (.long p2s), .second, .val (.long p3s), .second, .val (.int p4s), .val (.ref b68), .val (.ref b89), .val (.int (0 : Int32)), .val (.int (0 : Int32)), .val (.int (1 : Int32)), .unset] [(.int (0 : Int32))])) _
                  refine XS.istore X250.here hx rfl (hb hby at_125) rfl (l' := #[.val (.long p0s), .second, .val (.long p1s), .second, .val (.long p2s), .second, .val (.long p3s), .second, .val (.int p4s), .val (.ref b68), .val (.ref b89), .val (.int (0 : Int32)), .val (.int (0 : Int32)), .val (.int (1 : Int32)), .val (.int (0 : Int32))]) rfl ?_
                  show Steps p.tables e below (T250.setTop (mkF m 127 #[.val (.long p0s), .second, .val (.long p1s), .second, .val (.long p2s), .second, .val (.long p3s), .second, .val (.int p4s), .val (.ref b68), .val (.ref b89), .val (.int (0 : Int32)), .val (.int (0 : Int32)), .val (.int (1 : Int32)), .val (.int (0 : Int32))] [])) _
                  refine XS.iload X250.here hx rfl (hb hby at_127) rfl ?_
                  show Steps p.tables e below (T250.setTop (mkF m 129 #[.val (.long p0s), .second, .val (.long p1s), .second, .val (.long p2s), .second, .val (.long p3s), .second, .val (.int p4s), .val (.ref b68), .val (.ref b89), .val (.int (0 : Int32)), .val (.int (0 : Int32)), .val (.int (1 : Int32)), .val (.int (0 : Int32))] [(.int (0 : Int32))])) _
                  refine XS.iload X250.here hx rfl (hb hby at_129) rfl ?_
                  show Steps p.tables e below (T250.setTop (mkF m 131 #[.val (.long p0s), .second, .val (.long p1s), .second, .val (.long p2s), .second, .val (.long p3s), .second, .val (.int p4s), .val (.ref b68), .val (.ref b89), .val (.int (0 : Int32)), .val (.int (0 : Int32)), .val (.int (1 : Int32)), .val (.int (0 : Int32))] [(.int (0 : Int32)), (.int (0 : Int32))])) _
                  refine XS.icmpYes X250.here hx rfl (pc0 := 131) (pc' := 136) rfl (hb hby at_131) rfl (teq (show (0 : Int32) = (0 : Int32) from by decide)).1 (by decide) (by decide) ?_
                  show Steps p.tables e below (T250.setTop (mkF m 136 #[.val (.long p0s), .second, .val (.long p1s), .second, .val (.long p2s), .second, .val (.long p3s), .second, .val (.int p4s), .val (.ref b68), .val (.ref b89), .val (.int (0 : Int32)), .val (.int (0 : Int32)), .val (.int (1 : Int32)), .val (.int (0 : Int32))] [])) _
                  refine XS.iconst X250.here hx rfl (hb hby at_136) ?_
                  exact k
                refine hG (own_fin X250 hlk (some (.int (nar .boolean (1 : Int32)))) (own_hv Bd.returns) ?_ (by decide) (by decide) (fun fs hr => r254 _ (retN X250 hx (t := .boolean) Bd.returns (by simp) (hb hby at_137) hr)))
                rw [I250_0]
                exact ⟨rfl, N250⟩
              · have ev255 : (own_min p1s p3s) = p1s := by unfold own_min; rw [if_neg hc251]
                have r256 : own_R p.tables e below F0 (T250.setTop (mkF m 116 #[.val (.long p0s), .second, .val (.long p1s), .second, .val (.long p2s), .second, .val (.long p3s), .second, .val (.int p4s), .val (.ref b68), .val (.ref b89), .val (.int (0 : Int32)), .val (.int (0 : Int32)), .val (.int (1 : Int32)), .unset] [(.long p1s), (.long p0s)])) := by have q := r250; rw [ev255] at q; exact q
                have r257 : own_R p.tables e below F0 (T250.setTop (mkF m 135 #[.val (.long p0s), .second, .val (.long p1s), .second, .val (.long p2s), .second, .val (.long p3s), .second, .val (.int p4s), .val (.ref b68), .val (.ref b89), .val (.int (0 : Int32)), .val (.int (0 : Int32)), .val (.int (1 : Int32)), .val (.int (1 : Int32))] [(.int (0 : Int32))])) := fun t k => by
                  refine r256 t ?_
                  show Steps p.tables e below (T250.setTop (mkF m 116 #[.val (.long p0s), .second, .val (.long p1s), .second, .val (.long p2s), .second, .val (.long p3s), .second, .val (.int p4s), .val (.ref b68), .val (.ref b89), .val (.int (0 : Int32)), .val (.int (0 : Int32)), .val (.int (1 : Int32)), .unset] [(.long p1s), (.long p0s)])) _
                  refine XS.lcmp X250.here hx rfl (hb hby at_116) rfl ?_
                  show Steps p.tables e below (T250.setTop (mkF m 117 #[.val (.long p0s), .second, .val (.long p1s), .second, .val (.long p2s), .second, .val (.long p3s), .second, .val (.int p4s), .val (.ref b68), .val (.ref b89), .val (.int (0 : Int32)), .val (.int (0 : Int32)), .val (.int (1 : Int32)), .unset] [(.int (lcmpW p0s p1s))])) _
                  refine XS.ifNo X250.here hx rfl (hb hby at_117) rfl (own_l_lt hc228).2 ?_
                  show Steps p.tables e below (T250.setTop (mkF m 120 #[.val (.long p0s), .second, .val (.long p1s), .second, .val (.long p2s), .second, .val (.long p3s), .second, .val (.int p4s), .val (.ref b68), .val (.ref b89), .val (.int (0 : Int32)), .val (.int (0 : Int32)), .val (.int (1 : Int32)), .unset] [])) _
                  refine XS.iconst X250.here hx rfl (hb hby at_120) ?_
                  show Steps p.tables e below (T250.setTop (mkF m 121 #[.val (.long p0s), .second, .val (.long p1s), .second, .val (.long p2s), .second, .val (.long p3s), .second, .val (.int p4s), .val (.ref b68), .val (.ref b89), .val (.int (0 : Int32)), .val (.int (0 : Int32)), .val (.int (1 : Int32)), .unset] [(.int (1 : Int32))])) _
                  refine XS.goto X250.here hx rfl (pc0 := 121) (pc' := 125) rfl (hb hby at_121) (by decide) (by decide) ?_
                  show Steps p.tables e below (T250.setTop (mkF m 125 #[.val (.long p0s), .second, .val (.long p1s), .second, .val (.long p2s), .second, .val (.long p3s), .second, .val (.int p4s), .val (.ref b68), .val (.ref b89), .val (.int (0 : Int32)), .val (.int (0 : Int32)), .val (.int (1 : Int32)), .unset] [(.int (1 : Int32))])) _
                  refine XS.istore X250.here hx rfl (hb hby at_125) rfl (l' := #[.val (.long p0s), .second, .val (.long p1s), .second, .val (.long p2s), .second, .val (.long p3s), .second, .val (.int p4s), .val (.ref b68), .val (.ref b89), .val (.int (0 : Int32)), .val (.int (0 : Int32)), .val (.int (1 : Int32)), .val (.int (1 : Int32))]) rfl ?_
                  show Steps p.tables e below (T250.setTop (mkF m 127 #[.val (.long p0s), .second, .val (.long p1s), .second, .val (.long p2s), .second, .val (.long p3s), .second, .val (.int p4s), .val (.ref b68), .val (.ref b89), .val (.int (0 : Int32)), .val (.int (0 : Int32)), .val (.int (1 : Int32)), .val (.int (1 : Int32))] [])) _
                  refine XS.iload X250.here hx rfl (hb hby at_127) rfl ?_
                  show Steps p.tables e below (T250.setTop (mkF m 129 #[.val (.long p0s), .second, .val (.long p1s), .second, .val (.long p2s), .second, .val (.long p3s), .second, .val (.int p4s), .val (.ref b68), .val (.ref b89), .val (.int (0 : Int32)), .val (.int (0 : Int32)), .val (.int (1 : Int32)), .val (.int (1 : Int32))] [(.int (0 : Int32))])) _
                  refine XS.iload X250.here hx rfl (hb hby at_129) rfl ?_
                  show Steps p.tables e below (T250.setTop (mkF m 131 #[.val (.long p0s), .second, .val (.long p1s), .second, .val (.long p2s), .second, .val (.long p3s), .second, .val (.int p4s), .val (.ref b68), .val (.ref b89), .val (.int (0 : Int32)), .val (.int (0 : Int32)), .val (.int (1 : Int32)), .val (.int (1 : Int32))] [(.int (1 : Int32)), (.int (0 : Int32))])) _
                  refine XS.icmpNo X250.here hx rfl (hb hby at_131) rfl (feq (show ¬ ((0 : Int32) = (1 : Int32)) from by decide)).1 ?_
                  show Steps p.tables e below (T250.setTop (mkF m 134 #[.val (.long p0s), .second, .val (.long p1s), .second, .val (.long p2s), .second, .val (.long p3s), .second, .val (.int p4s), .val (.ref b68), .val (.ref b89), .val (.int (0 : Int32)), .val (.int (0 : Int32)), .val (.int (1 : Int32)), .val (.int (1 : Int32))] [])) _
                  refine XS.iconst X250.here hx rfl (hb hby at_134) ?_
                  exact k
                exfalso
                have q131_r := own_R64 p0s
                have q132_r := own_R64 p3s
                have q133_r := own_R64 p2s
                have q134_r := own_R64 p1s
                have q135_c := own_nlt64 hc133
                have q136_c := own_lt64 hc223
                have q137_c := own_lt64 hc228
                have q138_c := own_lt64 hc232
                have q139_c := own_nlt64 hc235
                have q140_c := own_nlt64 hc251
                omega
          · have r258 : own_R p.tables e below F0 (T227.setTop (mkF m 137 #[.val (.long p0s), .second, .val (.long p1s), .second, .val (.long p2s), .second, .val (.long p3s), .second, .val (.int p4s), .val (.ref b68), .val (.ref b89), .val (.int (0 : Int32)), .val (.int (0 : Int32)), .val (.int (1 : Int32)), .unset] [(.int (1 : Int32))])) := fun t k => by
              refine r231 t ?_
              show Steps p.tables e below (T227.setTop (mkF m 101 #[.val (.long p0s), .second, .val (.long p1s), .second, .val (.long p2s), .second, .val (.long p3s), .second, .val (.int p4s), .val (.ref b68), .val (.ref b89), .val (.int (0 : Int32)), .val (.int (0 : Int32)), .val (.int (1 : Int32)), .unset] [(.int (lcmpW p2s p3s))])) _
              refine XS.ifYes X227.here hx rfl (pc0 := 101) (pc' := 136) rfl (hb hby at_101) rfl (own_l_nlt hc232).2 (by decide) (by decide) ?_
              show Steps p.tables e below (T227.setTop (mkF m 136 #[.val (.long p0s), .second, .val (.long p1s), .second, .val (.long p2s), .second, .val (.long p3s), .second, .val (.int p4s), .val (.ref b68), .val (.ref b89), .val (.int (0 : Int32)), .val (.int (0 : Int32)), .val (.int (1 : Int32)), .unset] [])) _
              refine XS.iconst X227.here hx rfl (hb hby at_136) ?_
              exact k
            refine hG (own_fin X227 hlk (some (.int (nar .boolean (1 : Int32)))) (own_hv Bd.returns) ?_ (by decide) (by decide) (fun fs hr => r258 _ (retN X227 hx (t := .boolean) Bd.returns (by simp) (hb hby at_137) hr)))
            rw [I227_0]
            exact ⟨rfl, N227⟩
        · have ev259 : (own_over p0s p1s p0s p1s) = (0 : Int32) := by unfold own_over; rw [if_neg hc228]
          have r260 : own_R p.tables e below F0 (T227.setTop (mkF m 61 #[.val (.long p0s), .second, .val (.long p1s), .second, .val (.long p2s), .second, .val (.long p3s), .second, .val (.int p4s), .val (.ref b68), .val (.ref b89), .val (.int (0 : Int32)), .val (.int (0 : Int32)), .unset, .unset] [(.int (0 : Int32))])) := by have q := r227; rw [ev259] at q; exact q
          have r261 : own_R p.tables e below F0 (T227.setTop (mkF m 137 #[.val (.long p0s), .second, .val (.long p1s), .second, .val (.long p2s), .second, .val (.long p3s), .second, .val (.int p4s), .val (.ref b68), .val (.ref b89), .val (.int (0 : Int32)), .val (.int (0 : Int32)), .val (.int (0 : Int32)), .unset] [(.int (1 : Int32))])) := fun t k => by
            refine r260 t ?_
            show Steps p.tables e below (T227.setTop (mkF m 61 #[.val (.long p0s), .second, .val (.long p1s), .second, .val (.long p2s), .second, .val (.long p3s), .second, .val (.int p4s), .val (.ref b68), .val (.ref b89), .val (.int (0 : Int32)), .val (.int (0 : Int32)), .unset, .unset] [(.int (0 : Int32))])) _
            refine XS.istore X227.here hx rfl (hb hby at_61) rfl (l' := #[.val (.long p0s), .second, .val (.long p1s), .second, .val (.long p2s), .second, .val (.long p3s), .second, .val (.int p4s), .val (.ref b68), .val (.ref b89), .val (.int (0 : Int32)), .val (.int (0 : Int32)), .val (.int (0 : Int32)), .unset]) rfl ?_
            show Steps p.tables e below (T227.setTop (mkF m 63 #[.val (.long p0s), .second, .val (.long p1s), .second, .val (.long p2s), .second, .val (.long p3s), .second, .val (.int p4s), .val (.ref b68), .val (.ref b89), .val (.int (0 : Int32)), .val (.int (0 : Int32)), .val (.int (0 : Int32)), .unset] [])) _
            refine XS.iload X227.here hx rfl (hb hby at_63) rfl ?_
            show Steps p.tables e below (T227.setTop (mkF m 65 #[.val (.long p0s), .second, .val (.long p1s), .second, .val (.long p2s), .second, .val (.long p3s), .second, .val (.int p4s), .val (.ref b68), .val (.ref b89), .val (.int (0 : Int32)), .val (.int (0 : Int32)), .val (.int (0 : Int32)), .unset] [(.int (0 : Int32))])) _
            refine XS.iload X227.here hx rfl (hb hby at_65) rfl ?_
            show Steps p.tables e below (T227.setTop (mkF m 67 #[.val (.long p0s), .second, .val (.long p1s), .second, .val (.long p2s), .second, .val (.long p3s), .second, .val (.int p4s), .val (.ref b68), .val (.ref b89), .val (.int (0 : Int32)), .val (.int (0 : Int32)), .val (.int (0 : Int32)), .unset] [(.int (0 : Int32)), (.int (0 : Int32))])) _
            refine XS.icmpYes X227.here hx rfl (pc0 := 67) (pc' := 72) rfl (hb hby at_67) rfl (teq (show (0 : Int32) = (0 : Int32) from by decide)).1 (by decide) (by decide) ?_
            show Steps p.tables e below (T227.setTop (mkF m 72 #[.val (.long p0s), .second, .val (.long p1s), .second, .val (.long p2s), .second, .val (.long p3s), .second, .val (.int p4s), .val (.ref b68), .val (.ref b89), .val (.int (0 : Int32)), .val (.int (0 : Int32)), .val (.int (0 : Int32)), .unset] [])) _
            refine XS.iload X227.here hx rfl (hb hby at_72) rfl ?_
            show Steps p.tables e below (T227.setTop (mkF m 74 #[.val (.long p0s), .second, .val (.long p1s), .second, .val (.long p2s), .second, .val (.long p3s), .second, .val (.int p4s), .val (.ref b68), .val (.ref b89), .val (.int (0 : Int32)), .val (.int (0 : Int32)), .val (.int (0 : Int32)), .unset] [(.int (0 : Int32))])) _
            refine XS.lloadN X227.here hx rfl (hb hby at_74) rfl ?_
            show Steps p.tables e below (T227.setTop (mkF m 75 #[.val (.long p0s), .second, .val (.long p1s), .second, .val (.long p2s), .second, .val (.long p3s), .second, .val (.int p4s), .val (.ref b68), .val (.ref b89), .val (.int (0 : Int32)), .val (.int (0 : Int32)), .val (.int (0 : Int32)), .unset] [(.long p0s), (.int (0 : Int32))])) _
            refine XS.lloadN X227.here hx rfl (hb hby at_75) rfl ?_
            show Steps p.tables e below (T227.setTop (mkF m 76 #[.val (.long p0s), .second, .val (.long p1s), .second, .val (.long p2s), .second, .val (.long p3s), .second, .val (.int p4s), .val (.ref b68), .val (.ref b89), .val (.int (0 : Int32)), .val (.int (0 : Int32)), .val (.int (0 : Int32)), .unset] [(.long p1s), (.long p0s), (.int (0 : Int32))])) _
            refine XS.lcmp X227.here hx rfl (hb hby at_76) rfl ?_
            show Steps p.tables e below (T227.setTop (mkF m 77 #[.val (.long p0s), .second, .val (.long p1s), .second, .val (.long p2s), .second, .val (.long p3s), .second, .val (.int p4s), .val (.ref b68), .val (.ref b89), .val (.int (0 : Int32)), .val (.int (0 : Int32)), .val (.int (0 : Int32)), .unset] [(.int (lcmpW p0s p1s)), (.int (0 : Int32))])) _
            refine XS.ifYes X227.here hx rfl (pc0 := 77) (pc' := 84) rfl (hb hby at_77) rfl (own_l_nlt hc228).2 (by decide) (by decide) ?_
            show Steps p.tables e below (T227.setTop (mkF m 84 #[.val (.long p0s), .second, .val (.long p1s), .second, .val (.long p2s), .second, .val (.long p3s), .second, .val (.int p4s), .val (.ref b68), .val (.ref b89), .val (.int (0 : Int32)), .val (.int (0 : Int32)), .val (.int (0 : Int32)), .unset] [(.int (0 : Int32))])) _
            refine XS.iconst X227.here hx rfl (hb hby at_84) ?_
            show Steps p.tables e below (T227.setTop (mkF m 85 #[.val (.long p0s), .second, .val (.long p1s), .second, .val (.long p2s), .second, .val (.long p3s), .second, .val (.int p4s), .val (.ref b68), .val (.ref b89), .val (.int (0 : Int32)), .val (.int (0 : Int32)), .val (.int (0 : Int32)), .unset] [(.int (0 : Int32)), (.int (0 : Int32))])) _
            refine XS.icmpYes X227.here hx rfl (pc0 := 85) (pc' := 90) rfl (hb hby at_85) rfl (teq (show (0 : Int32) = (0 : Int32) from by decide)).1 (by decide) (by decide) ?_
            show Steps p.tables e below (T227.setTop (mkF m 90 #[.val (.long p0s), .second, .val (.long p1s), .second, .val (.long p2s), .second, .val (.long p3s), .second, .val (.int p4s), .val (.ref b68), .val (.ref b89), .val (.int (0 : Int32)), .val (.int (0 : Int32)), .val (.int (0 : Int32)), .unset] [])) _
            refine XS.lloadN X227.here hx rfl (hb hby at_90) rfl ?_
            show Steps p.tables e below (T227.setTop (mkF m 91 #[.val (.long p0s), .second, .val (.long p1s), .second, .val (.long p2s), .second, .val (.long p3s), .second, .val (.int p4s), .val (.ref b68), .val (.ref b89), .val (.int (0 : Int32)), .val (.int (0 : Int32)), .val (.int (0 : Int32)), .unset] [(.long p0s)])) _
            refine XS.lloadN X227.here hx rfl (hb hby at_91) rfl ?_
            show Steps p.tables e below (T227.setTop (mkF m 92 #[.val (.long p0s), .second, .val (.long p1s), .second, .val (.long p2s), .second, .val (.long p3s), .second, .val (.int p4s), .val (.ref b68), .val (.ref b89), .val (.int (0 : Int32)), .val (.int (0 : Int32)), .val (.int (0 : Int32)), .unset] [(.long p1s), (.long p0s)])) _
            refine XS.lcmp X227.here hx rfl (hb hby at_92) rfl ?_
            show Steps p.tables e below (T227.setTop (mkF m 93 #[.val (.long p0s), .second, .val (.long p1s), .second, .val (.long p2s), .second, .val (.long p3s), .second, .val (.int p4s), .val (.ref b68), .val (.ref b89), .val (.int (0 : Int32)), .val (.int (0 : Int32)), .val (.int (0 : Int32)), .unset] [(.int (lcmpW p0s p1s))])) _
            refine XS.ifYes X227.here hx rfl (pc0 := 93) (pc' := 136) rfl (hb hby at_93) rfl (own_l_nlt hc228).2 (by decide) (by decide) ?_
            show Steps p.tables e below (T227.setTop (mkF m 136 #[.val (.long p0s), .second, .val (.long p1s), .second, .val (.long p2s), .second, .val (.long p3s), .second, .val (.int p4s), .val (.ref b68), .val (.ref b89), .val (.int (0 : Int32)), .val (.int (0 : Int32)), .val (.int (0 : Int32)), .unset] [])) _
            refine XS.iconst X227.here hx rfl (hb hby at_136) ?_
            exact k
          refine hG (own_fin X227 hlk (some (.int (nar .boolean (1 : Int32)))) (own_hv Bd.returns) ?_ (by decide) (by decide) (fun fs hr => r261 _ (retN X227 hx (t := .boolean) Bd.returns (by simp) (hb hby at_137) hr)))
          rw [I227_0]
          exact ⟨rfl, N227⟩
      · have ev262 : (own_over p2s p3s p0s p1s) = (0 : Int32) := by unfold own_over; rw [if_neg hc223]
        have r263 : own_R p.tables e below F0 (T222.setTop (mkF m 52 #[.val (.long p0s), .second, .val (.long p1s), .second, .val (.long p2s), .second, .val (.long p3s), .second, .val (.int p4s), .val (.ref b68), .val (.ref b89), .val (.int (0 : Int32)), .unset, .unset, .unset] [(.int (0 : Int32))])) := by have q := r222; rw [ev262] at q; exact q
        have r264 : own_R p.tables e below F0 (T222.setTop (mkF m 58 #[.val (.long p0s), .second, .val (.long p1s), .second, .val (.long p2s), .second, .val (.long p3s), .second, .val (.int p4s), .val (.ref b68), .val (.ref b89), .val (.int (0 : Int32)), .val (.int (0 : Int32)), .unset, .unset] [(.ref b68), (.ref b68)])) := fun t k => by
          refine r263 t ?_
          show Steps p.tables e below (T222.setTop (mkF m 52 #[.val (.long p0s), .second, .val (.long p1s), .second, .val (.long p2s), .second, .val (.long p3s), .second, .val (.int p4s), .val (.ref b68), .val (.ref b89), .val (.int (0 : Int32)), .unset, .unset, .unset] [(.int (0 : Int32))])) _
          refine XS.istore X222.here hx rfl (hb hby at_52) rfl (l' := #[.val (.long p0s), .second, .val (.long p1s), .second, .val (.long p2s), .second, .val (.long p3s), .second, .val (.int p4s), .val (.ref b68), .val (.ref b89), .val (.int (0 : Int32)), .val (.int (0 : Int32)), .unset, .unset]) rfl ?_
          show Steps p.tables e below (T222.setTop (mkF m 54 #[.val (.long p0s), .second, .val (.long p1s), .second, .val (.long p2s), .second, .val (.long p3s), .second, .val (.int p4s), .val (.ref b68), .val (.ref b89), .val (.int (0 : Int32)), .val (.int (0 : Int32)), .unset, .unset] [])) _
          refine XS.aload X222.here hx rfl (hb hby at_54) rfl rfl ?_
          show Steps p.tables e below (T222.setTop (mkF m 56 #[.val (.long p0s), .second, .val (.long p1s), .second, .val (.long p2s), .second, .val (.long p3s), .second, .val (.int p4s), .val (.ref b68), .val (.ref b89), .val (.int (0 : Int32)), .val (.int (0 : Int32)), .unset, .unset] [(.ref b68)])) _
          refine XS.aload X222.here hx rfl (hb hby at_56) rfl rfl ?_
          exact k
        obtain ⟨cq265, kq265, q265a, q265b, q265c⟩ := isOf hZ I222_0 F123
        obtain ⟨_, _, ⟨T265, L265, k265, n265⟩, -, X265, ⟨Lc265, hQ265, l265, y265, z265⟩, st265⟩ := X222.virtualBack hx (y := (⟨"com/example/invites_to_friends/invitestofriends/bench/Call", "overlaps", "(Lcom/example/invites_to_friends/invitestofriends/bench/Call;)Z"⟩ : MethodName)) (z := (⟨"com/example/invites_to_friends/invitestofriends/bench/Call", "overlaps", "(Lcom/example/invites_to_friends/invitestofriends/bench/Call;)Z"⟩ : MethodName)) hown (mvT hZ (hw _ (List.mem_of_getElem? (i := 23) rfl))) (mvT hZ (hw _ (List.mem_of_getElem? (i := 24) rfl))) (notFace_of_selects (args := #[]) (mvT hZ (hw _ (List.mem_of_getElem? (i := 26) rfl)))) (mvT hZ (hw _ (List.mem_of_getElem? (i := 26) rfl))) (mvT hZ (hw _ (List.mem_of_getElem? (i := 25) rfl))) (by decide) (backOf (W := 0) (rm4 l Z a0 hw [] b68 b68 (p0s) (p1s) (p0s) (p1s) h121 n0 Zs130 F124 F125 F124 F125) hZ (hw _ (List.mem_of_getElem? (i := 27) rfl)) (hw _ (List.mem_of_getElem? (i := 2) rfl)) (by decide) (by decide)) q265a q265c (g := (mkF m 58 #[.val (.long p0s), .second, .val (.long p1s), .second, .val (.long p2s), .second, .val (.long p3s), .second, .val (.int p4s), .val (.ref b68), .val (.ref b89), .val (.int (0 : Int32)), .val (.int (0 : Int32)), .unset, .unset] [(.ref b68), (.ref b68)])) rfl (by rw [hml]; rfl) (Steps.refl _) (argsL := [(.ref b68)]) (rest := []) (lenOf pd_2 rfl) rfl (by show 2 * 0 + _ ≤ _; exact Nat.le_of_eq rfl) (hb hby at_58) (fun _ _ => ⟨rfl, I222_0, (by decide : 4 + 0 ≤ _), (by decide : 8 + 0 ≤ _)⟩)
        dsimp only [Pt.U, Pt.locs, Pt.cells, Pt.slots] at X265 l265 y265 z265 st265 hQ265
        subst l265 y265 z265
        obtain ⟨rfl, N265q, I265_0⟩ := hQ265
        have N265 := Fr.app N222 N265q
        have r265 : own_R p.tables e below F0 (T265.setTop (mkF m 61 #[.val (.long p0s), .second, .val (.long p1s), .second, .val (.long p2s), .second, .val (.long p3s), .second, .val (.int p4s), .val (.ref b68), .val (.ref b89), .val (.int (0 : Int32)), .val (.int (0 : Int32)), .unset, .unset] [(.int (own_over p0s p1s p0s p1s))])) := fun t k => r264 t (st265.trans k)
        by_cases hc266 : p0s < p1s
        · have ev267 : (own_over p0s p1s p0s p1s) = (1 : Int32) := by unfold own_over; rw [if_pos hc266, if_pos hc266]
          have r268 : own_R p.tables e below F0 (T265.setTop (mkF m 61 #[.val (.long p0s), .second, .val (.long p1s), .second, .val (.long p2s), .second, .val (.long p3s), .second, .val (.int p4s), .val (.ref b68), .val (.ref b89), .val (.int (0 : Int32)), .val (.int (0 : Int32)), .unset, .unset] [(.int (1 : Int32))])) := by have q := r265; rw [ev267] at q; exact q
          have r269 : own_R p.tables e below F0 (T265.setTop (mkF m 101 #[.val (.long p0s), .second, .val (.long p1s), .second, .val (.long p2s), .second, .val (.long p3s), .second, .val (.int p4s), .val (.ref b68), .val (.ref b89), .val (.int (0 : Int32)), .val (.int (0 : Int32)), .val (.int (1 : Int32)), .unset] [(.int (lcmpW p2s p3s))])) := fun t k => by
            refine r268 t ?_
            show Steps p.tables e below (T265.setTop (mkF m 61 #[.val (.long p0s), .second, .val (.long p1s), .second, .val (.long p2s), .second, .val (.long p3s), .second, .val (.int p4s), .val (.ref b68), .val (.ref b89), .val (.int (0 : Int32)), .val (.int (0 : Int32)), .unset, .unset] [(.int (1 : Int32))])) _
            refine XS.istore X265.here hx rfl (hb hby at_61) rfl (l' := #[.val (.long p0s), .second, .val (.long p1s), .second, .val (.long p2s), .second, .val (.long p3s), .second, .val (.int p4s), .val (.ref b68), .val (.ref b89), .val (.int (0 : Int32)), .val (.int (0 : Int32)), .val (.int (1 : Int32)), .unset]) rfl ?_
            show Steps p.tables e below (T265.setTop (mkF m 63 #[.val (.long p0s), .second, .val (.long p1s), .second, .val (.long p2s), .second, .val (.long p3s), .second, .val (.int p4s), .val (.ref b68), .val (.ref b89), .val (.int (0 : Int32)), .val (.int (0 : Int32)), .val (.int (1 : Int32)), .unset] [])) _
            refine XS.iload X265.here hx rfl (hb hby at_63) rfl ?_
            show Steps p.tables e below (T265.setTop (mkF m 65 #[.val (.long p0s), .second, .val (.long p1s), .second, .val (.long p2s), .second, .val (.long p3s), .second, .val (.int p4s), .val (.ref b68), .val (.ref b89), .val (.int (0 : Int32)), .val (.int (0 : Int32)), .val (.int (1 : Int32)), .unset] [(.int (0 : Int32))])) _
            refine XS.iload X265.here hx rfl (hb hby at_65) rfl ?_
            show Steps p.tables e below (T265.setTop (mkF m 67 #[.val (.long p0s), .second, .val (.long p1s), .second, .val (.long p2s), .second, .val (.long p3s), .second, .val (.int p4s), .val (.ref b68), .val (.ref b89), .val (.int (0 : Int32)), .val (.int (0 : Int32)), .val (.int (1 : Int32)), .unset] [(.int (0 : Int32)), (.int (0 : Int32))])) _
            refine XS.icmpYes X265.here hx rfl (pc0 := 67) (pc' := 72) rfl (hb hby at_67) rfl (teq (show (0 : Int32) = (0 : Int32) from by decide)).1 (by decide) (by decide) ?_
            show Steps p.tables e below (T265.setTop (mkF m 72 #[.val (.long p0s), .second, .val (.long p1s), .second, .val (.long p2s), .second, .val (.long p3s), .second, .val (.int p4s), .val (.ref b68), .val (.ref b89), .val (.int (0 : Int32)), .val (.int (0 : Int32)), .val (.int (1 : Int32)), .unset] [])) _
            refine XS.iload X265.here hx rfl (hb hby at_72) rfl ?_
            show Steps p.tables e below (T265.setTop (mkF m 74 #[.val (.long p0s), .second, .val (.long p1s), .second, .val (.long p2s), .second, .val (.long p3s), .second, .val (.int p4s), .val (.ref b68), .val (.ref b89), .val (.int (0 : Int32)), .val (.int (0 : Int32)), .val (.int (1 : Int32)), .unset] [(.int (1 : Int32))])) _
            refine XS.lloadN X265.here hx rfl (hb hby at_74) rfl ?_
            show Steps p.tables e below (T265.setTop (mkF m 75 #[.val (.long p0s), .second, .val (.long p1s), .second, .val (.long p2s), .second, .val (.long p3s), .second, .val (.int p4s), .val (.ref b68), .val (.ref b89), .val (.int (0 : Int32)), .val (.int (0 : Int32)), .val (.int (1 : Int32)), .unset] [(.long p0s), (.int (1 : Int32))])) _
            refine XS.lloadN X265.here hx rfl (hb hby at_75) rfl ?_
            show Steps p.tables e below (T265.setTop (mkF m 76 #[.val (.long p0s), .second, .val (.long p1s), .second, .val (.long p2s), .second, .val (.long p3s), .second, .val (.int p4s), .val (.ref b68), .val (.ref b89), .val (.int (0 : Int32)), .val (.int (0 : Int32)), .val (.int (1 : Int32)), .unset] [(.long p1s), (.long p0s), (.int (1 : Int32))])) _
            refine XS.lcmp X265.here hx rfl (hb hby at_76) rfl ?_
            show Steps p.tables e below (T265.setTop (mkF m 77 #[.val (.long p0s), .second, .val (.long p1s), .second, .val (.long p2s), .second, .val (.long p3s), .second, .val (.int p4s), .val (.ref b68), .val (.ref b89), .val (.int (0 : Int32)), .val (.int (0 : Int32)), .val (.int (1 : Int32)), .unset] [(.int (lcmpW p0s p1s)), (.int (1 : Int32))])) _
            refine XS.ifNo X265.here hx rfl (hb hby at_77) rfl (own_l_lt hc266).2 ?_
            show Steps p.tables e below (T265.setTop (mkF m 80 #[.val (.long p0s), .second, .val (.long p1s), .second, .val (.long p2s), .second, .val (.long p3s), .second, .val (.int p4s), .val (.ref b68), .val (.ref b89), .val (.int (0 : Int32)), .val (.int (0 : Int32)), .val (.int (1 : Int32)), .unset] [(.int (1 : Int32))])) _
            refine XS.iconst X265.here hx rfl (hb hby at_80) ?_
            show Steps p.tables e below (T265.setTop (mkF m 81 #[.val (.long p0s), .second, .val (.long p1s), .second, .val (.long p2s), .second, .val (.long p3s), .second, .val (.int p4s), .val (.ref b68), .val (.ref b89), .val (.int (0 : Int32)), .val (.int (0 : Int32)), .val (.int (1 : Int32)), .unset] [(.int (1 : Int32)), (.int (1 : Int32))])) _
            refine XS.goto X265.here hx rfl (pc0 := 81) (pc' := 85) rfl (hb hby at_81) (by decide) (by decide) ?_
            show Steps p.tables e below (T265.setTop (mkF m 85 #[.val (.long p0s), .second, .val (.long p1s), .second, .val (.long p2s), .second, .val (.long p3s), .second, .val (.int p4s), .val (.ref b68), .val (.ref b89), .val (.int (0 : Int32)), .val (.int (0 : Int32)), .val (.int (1 : Int32)), .unset] [(.int (1 : Int32)), (.int (1 : Int32))])) _
            refine XS.icmpYes X265.here hx rfl (pc0 := 85) (pc' := 90) rfl (hb hby at_85) rfl (teq (show (1 : Int32) = (1 : Int32) from by decide)).1 (by decide) (by decide) ?_
            show Steps p.tables e below (T265.setTop (mkF m 90 #[.val (.long p0s), .second, .val (.long p1s), .second, .val (.long p2s), .second, .val (.long p3s), .second, .val (.int p4s), .val (.ref b68), .val (.ref b89), .val (.int (0 : Int32)), .val (.int (0 : Int32)), .val (.int (1 : Int32)), .unset] [])) _
            refine XS.lloadN X265.here hx rfl (hb hby at_90) rfl ?_
            show Steps p.tables e below (T265.setTop (mkF m 91 #[.val (.long p0s), .second, .val (.long p1s), .second, .val (.long p2s), .second, .val (.long p3s), .second, .val (.int p4s), .val (.ref b68), .val (.ref b89), .val (.int (0 : Int32)), .val (.int (0 : Int32)), .val (.int (1 : Int32)), .unset] [(.long p0s)])) _
            refine XS.lloadN X265.here hx rfl (hb hby at_91) rfl ?_
            show Steps p.tables e below (T265.setTop (mkF m 92 #[.val (.long p0s), .second, .val (.long p1s), .second, .val (.long p2s), .second, .val (.long p3s), .second, .val (.int p4s), .val (.ref b68), .val (.ref b89), .val (.int (0 : Int32)), .val (.int (0 : Int32)), .val (.int (1 : Int32)), .unset] [(.long p1s), (.long p0s)])) _
            refine XS.lcmp X265.here hx rfl (hb hby at_92) rfl ?_
            show Steps p.tables e below (T265.setTop (mkF m 93 #[.val (.long p0s), .second, .val (.long p1s), .second, .val (.long p2s), .second, .val (.long p3s), .second, .val (.int p4s), .val (.ref b68), .val (.ref b89), .val (.int (0 : Int32)), .val (.int (0 : Int32)), .val (.int (1 : Int32)), .unset] [(.int (lcmpW p0s p1s))])) _
            refine XS.ifNo X265.here hx rfl (hb hby at_93) rfl (own_l_lt hc266).2 ?_
            show Steps p.tables e below (T265.setTop (mkF m 96 #[.val (.long p0s), .second, .val (.long p1s), .second, .val (.long p2s), .second, .val (.long p3s), .second, .val (.int p4s), .val (.ref b68), .val (.ref b89), .val (.int (0 : Int32)), .val (.int (0 : Int32)), .val (.int (1 : Int32)), .unset] [])) _
            refine XS.lload X265.here hx rfl (hb hby at_96) rfl ?_
            show Steps p.tables e below (T265.setTop (mkF m 98 #[.val (.long p0s), .second, .val (.long p1s), .second, .val (.long p2s), .second, .val (.long p3s), .second, .val (.int p4s), .val (.ref b68), .val (.ref b89), .val (.int (0 : Int32)), .val (.int (0 : Int32)), .val (.int (1 : Int32)), .unset] [(.long p2s)])) _
            refine XS.lload X265.here hx rfl (hb hby at_98) rfl ?_
            show Steps p.tables e below (T265.setTop (mkF m 100 #[.val (.long p0s), .second, .val (.long p1s), .second, .val (.long p2s), .second, .val (.long p3s), .second, .val (.int p4s), .val (.ref b68), .val (.ref b89), .val (.int (0 : Int32)), .val (.int (0 : Int32)), .val (.int (1 : Int32)), .unset] [(.long p3s), (.long p2s)])) _
            refine XS.lcmp X265.here hx rfl (hb hby at_100) rfl ?_
            exact k
          by_cases hc270 : p2s < p3s
          · have r271 : own_R p.tables e below F0 (T265.setTop (mkF m 107 #[.val (.long p0s), .second, .val (.long p1s), .second, .val (.long p2s), .second, .val (.long p3s), .second, .val (.int p4s), .val (.ref b68), .val (.ref b89), .val (.int (0 : Int32)), .val (.int (0 : Int32)), .val (.int (1 : Int32)), .unset] [(.long p2s), (.long p0s)])) := fun t k => by
              refine r269 t ?_
              show Steps p.tables e below (T265.setTop (mkF m 101 #[.val (.long p0s), .second, .val (.long p1s), .second, .val (.long p2s), .second, .val (.long p3s), .second, .val (.int p4s), .val (.ref b68), .val (.ref b89), .val (.int (0 : Int32)), .val (.int (0 : Int32)), .val (.int (1 : Int32)), .unset] [(.int (lcmpW p2s p3s))])) _
              refine XS.ifNo X265.here hx rfl (hb hby at_101) rfl (own_l_lt hc270).2 ?_
              show Steps p.tables e below (T265.setTop (mkF m 104 #[.val (.long p0s), .second, .val (.long p1s), .second, .val (.long p2s), .second, .val (.long p3s), .second, .val (.int p4s), .val (.ref b68), .val (.ref b89), .val (.int (0 : Int32)), .val (.int (0 : Int32)), .val (.int (1 : Int32)), .unset] [])) _
              refine XS.lloadN X265.here hx rfl (hb hby at_104) rfl ?_
              show Steps p.tables e below (T265.setTop (mkF m 105 #[.val (.long p0s), .second, .val (.long p1s), .second, .val (.long p2s), .second, .val (.long p3s), .second, .val (.int p4s), .val (.ref b68), .val (.ref b89), .val (.int (0 : Int32)), .val (.int (0 : Int32)), .val (.int (1 : Int32)), .unset] [(.long p0s)])) _
              refine XS.lload X265.here hx rfl (hb hby at_105) rfl ?_
              exact k
            obtain ⟨_, _, ⟨T272, L272, k272, n272⟩, -, X272, ⟨Lc272, hQ272, l272, y272, z272⟩, st272⟩ := Jvm.LawKit.callS X265 hx (y := (⟨"java/lang/Math", "max", "(JJ)J"⟩ : MethodName)) hown (mvT hZ (hw _ (List.mem_of_getElem? (i := 28) rfl))) (mvT hZ (hw _ (List.mem_of_getElem? (i := 29) rfl))) (mvT hZ (hw _ (List.mem_of_getElem? (i := 30) rfl))) (mvT hZ (hw _ (List.mem_of_getElem? (i := 31) rfl))) (by decide) (backOf (W := 0) (rm5 l Z a0 hw [] p0s p2s h121 n0 Zs130 ) hZ (hw _ (List.mem_of_getElem? (i := 31) rfl)) (hw _ (List.mem_of_getElem? (i := 30) rfl)) (by decide) (by decide)) (g := (mkF m 107 #[.val (.long p0s), .second, .val (.long p1s), .second, .val (.long p2s), .second, .val (.long p3s), .second, .val (.int p4s), .val (.ref b68), .val (.ref b89), .val (.int (0 : Int32)), .val (.int (0 : Int32)), .val (.int (1 : Int32)), .unset] [(.long p2s), (.long p0s)])) rfl (by rw [hml]; rfl) (argsL := [(.long p0s), (.long p2s)]) (rest := []) (lenOf pd_3 rfl) rfl (by show 2 * 0 + _ ≤ _; exact Nat.le_of_eq rfl) (hb hby at_107) (fun _ _ => ⟨rfl, I265_0, (by decide : 4 + 0 ≤ _), (by decide : 8 + 0 ≤ _)⟩)
            dsimp only [Pt.U, Pt.locs, Pt.cells, Pt.slots] at X272 l272 y272 z272 st272 hQ272
            subst l272 y272 z272
            obtain ⟨rfl, N272q, I272_0⟩ := hQ272
            have N272 := Fr.app N265 N272q
            have r272 : own_R p.tables e below F0 (T272.setTop (mkF m 110 #[.val (.long p0s), .second, .val (.long p1s), .second, .val (.long p2s), .second, .val (.long p3s), .second, .val (.int p4s), .val (.ref b68), .val (.ref b89), .val (.int (0 : Int32)), .val (.int (0 : Int32)), .val (.int (1 : Int32)), .unset] [(.long (own_max p0s p2s))])) := fun t k => r271 t (st272 t k)
            by_cases hc273 : p0s < p2s
            · have ev274 : (own_max p0s p2s) = p2s := by unfold own_max; rw [if_pos hc273]
              have r275 : own_R p.tables e below F0 (T272.setTop (mkF m 110 #[.val (.long p0s), .second, .val (.long p1s), .second, .val (.long p2s), .second, .val (.long p3s), .second, .val (.int p4s), .val (.ref b68), .val (.ref b89), .val (.int (0 : Int32)), .val (.int (0 : Int32)), .val (.int (1 : Int32)), .unset] [(.long p2s)])) := by have q := r272; rw [ev274] at q; exact q
              have r276 : own_R p.tables e below F0 (T272.setTop (mkF m 113 #[.val (.long p0s), .second, .val (.long p1s), .second, .val (.long p2s), .second, .val (.long p3s), .second, .val (.int p4s), .val (.ref b68), .val (.ref b89), .val (.int (0 : Int32)), .val (.int (0 : Int32)), .val (.int (1 : Int32)), .unset] [(.long p3s), (.long p1s), (.long p2s)])) := fun t k => by
                refine r275 t ?_
                show Steps p.tables e below (T272.setTop (mkF m 110 #[.val (.long p0s), .second, .val (.long p1s), .second, .val (.long p2s), .second, .val (.long p3s), .second, .val (.int p4s), .val (.ref b68), .val (.ref b89), .val (.int (0 : Int32)), .val (.int (0 : Int32)), .val (.int (1 : Int32)), .unset] [(.long p2s)])) _
                refine XS.lloadN X272.here hx rfl (hb hby at_110) rfl ?_
                show Steps p.tables e below (T272.setTop (mkF m 111 #[.val (.long p0s), .second, .val (.long p1s), .second, .val (.long p2s), .second, .val (.long p3s), .second, .val (.int p4s), .val (.ref b68), .val (.ref b89), .val (.int (0 : Int32)), .val (.int (0 : Int32)), .val (.int (1 : Int32)), .unset] [(.long p1s), (.long p2s)])) _
                refine XS.lload X272.here hx rfl (hb hby at_111) rfl ?_
                exact k
              obtain ⟨_, _, ⟨T277, L277, k277, n277⟩, -, X277, ⟨Lc277, hQ277, l277, y277, z277⟩, st277⟩ := Jvm.LawKit.callS X272 hx (y := (⟨"java/lang/Math", "min", "(JJ)J"⟩ : MethodName)) hown (mvT hZ (hw _ (List.mem_of_getElem? (i := 32) rfl))) (mvT hZ (hw _ (List.mem_of_getElem? (i := 33) rfl))) (mvT hZ (hw _ (List.mem_of_getElem? (i := 30) rfl))) (mvT hZ (hw _ (List.mem_of_getElem? (i := 34) rfl))) (by decide) (backOf (W := 2) (rm6 l Z a0 hw [] p1s p3s h121 n0 Zs130 ) hZ (hw _ (List.mem_of_getElem? (i := 34) rfl)) (hw _ (List.mem_of_getElem? (i := 30) rfl)) (by decide) (by decide)) (g := (mkF m 113 #[.val (.long p0s), .second, .val (.long p1s), .second, .val (.long p2s), .second, .val (.long p3s), .second, .val (.int p4s), .val (.ref b68), .val (.ref b89), .val (.int (0 : Int32)), .val (.int (0 : Int32)), .val (.int (1 : Int32)), .unset] [(.long p3s), (.long p1s), (.long p2s)])) rfl (by rw [hml]; rfl) (argsL := [(.long p1s), (.long p3s)]) (rest := [(.long p2s)]) (lenOf pd_3 rfl) rfl (by show 2 * 0 + _ ≤ _; exact Nat.le_of_eq rfl) (hb hby at_113) (fun _ _ => ⟨rfl, I272_0, (by decide : 4 + 0 ≤ _), (by decide : 8 + 0 ≤ _)⟩)
              dsimp only [Pt.U, Pt.locs, Pt.cells, Pt.slots] at X277 l277 y277 z277 st277 hQ277
              subst l277 y277 z277
              obtain ⟨rfl, N277q, I277_0⟩ := hQ277
              have N277 := Fr.app N272 N277q
              have r277 : own_R p.tables e below F0 (T277.setTop (mkF m 116 #[.val (.long p0s), .second, .val (.long p1s), .second, .val (.long p2s), .second, .val (.long p3s), .second, .val (.int p4s), .val (.ref b68), .val (.ref b89), .val (.int (0 : Int32)), .val (.int (0 : Int32)), .val (.int (1 : Int32)), .unset] [(.long (own_min p1s p3s)), (.long p2s)])) := fun t k => r276 t (st277 t k)
              by_cases hc278 : p3s < p1s
              · have ev279 : (own_min p1s p3s) = p3s := by unfold own_min; rw [if_pos hc278]
                have r280 : own_R p.tables e below F0 (T277.setTop (mkF m 116 #[.val (.long p0s), .second, .val (.long p1s), .second, .val (.long p2s), .second, .val (.long p3s), .second, .val (.int p4s), .val (.ref b68), .val (.ref b89), .val (.int (0 : Int32)), .val (.int (0 : Int32)), .val (.int (1 : Int32)), .unset] [(.long p3s), (.long p2s)])) := by have q := r277; rw [ev279] at q; exact q
                have r281 : own_R p.tables e below F0 (T277.setTop (mkF m 135 #[.val (.long p0s), .second, .val (.long p1s), .second, .val (.long p2s), .second, .val (.long p3s), .second, .val (.int p4s), .val (.ref b68), .val (.ref b89), .val (.int (0 : Int32)), .val (.int (0 : Int32)), .val (.int (1 : Int32)), .val (.int (1 : Int32))] [(.int (0 : Int32))])) := fun t k => by
                  refine r280 t ?_
                  show Steps p.tables e below (T277.setTop (mkF m 116 #[.val (.long p0s), .second, .val (.long p1s), .second, .val (.long p2s), .second, .val (.long p3s), .second, .val (.int p4s), .val (.ref b68), .val (.ref b89), .val (.int (0 : Int32)), .val (.int (0 : Int32)), .val (.int (1 : Int32)), .unset] [(.long p3s), (.long p2s)])) _
                  refine XS.lcmp X277.here hx rfl (hb hby at_116) rfl ?_
                  show Steps p.tables e below (T277.setTop (mkF m 117 #[.val (.long p0s), .second, .val (.long p1s), .second, .val (.long p2s), .second, .val (.long p3s), .second, .val (.int p4s), .val (.ref b68), .val (.ref b89), .val (.int (0 : Int32)), .val (.int (0 : Int32)), .val (.int (1 : Int32)), .unset] [(.int (lcmpW p2s p3s))])) _
                  refine XS.ifNo X277.here hx rfl (hb hby at_117) rfl (own_l_lt hc270).2 ?_
                  show Steps p.tables e below (T277.setTop (mkF m 120 #[.val (.long p0s), .second, .val (.long p1s), .second, .val (.long p2s), .second, .val (.long p3s), .second, .val (.int p4s), .val (.ref b68), .val (.ref b89), .val (.int (0 : Int32)), .val (.int (0 : Int32)), .val (.int (1 : Int32)), .unset] [])) _
                  refine XS.iconst X277.here hx rfl (hb hby at_120) ?_
                  show Steps p.tables e below (T277.setTop (mkF m 121 #[.val (.long p0s), .second, .val (.long p1s), .second, .val (.long p2s), .second, .val (.long p3s), .second, .val (.int p4s), .val (.ref b68), .val (.ref b89), .val (.int (0 : Int32)), .val (.int (0 : Int32)), .val (.int (1 : Int32)), .unset] [(.int (1 : Int32))])) _
                  refine XS.goto X277.here hx rfl (pc0 := 121) (pc' := 125) rfl (hb hby at_121) (by decide) (by decide) ?_
                  show Steps p.tables e below (T277.setTop (mkF m 125 #[.val (.long p0s), .second, .val (.long p1s), .second, .val (.long p2s), .second, .val (.long p3s), .second, .val (.int p4s), .val (.ref b68), .val (.ref b89), .val (.int (0 : Int32)), .val (.int (0 : Int32)), .val (.int (1 : Int32)), .unset] [(.int (1 : Int32))])) _
                  refine XS.istore X277.here hx rfl (hb hby at_125) rfl (l' := #[.val (.long p0s), .second, .val (.long p1s), .second, .val (.long p2s), .second, .val (.long p3s), .second, .val (.int p4s), .val (.ref b68), .val (.ref b89), .val (.int (0 : Int32)), .val (.int (0 : Int32)), .val (.int (1 : Int32)), .val (.int (1 : Int32))]) rfl ?_
                  show Steps p.tables e below (T277.setTop (mkF m 127 #[.val (.long p0s), .second, .val (.long p1s), .second, .val (.long p2s), .second, .val (.long p3s), .second, .val (.int p4s), .val (.ref b68), .val (.ref b89), .val (.int (0 : Int32)), .val (.int (0 : Int32)), .val (.int (1 : Int32)), .val (.int (1 : Int32))] [])) _
                  refine XS.iload X277.here hx rfl (hb hby at_127) rfl ?_
                  show Steps p.tables e below (T277.setTop (mkF m 129 #[.val (.long p0s), .second, .val (.long p1s), .second, .val (.long p2s), .second, .val (.long p3s), .second, .val (.int p4s), .val (.ref b68), .val (.ref b89), .val (.int (0 : Int32)), .val (.int (0 : Int32)), .val (.int (1 : Int32)), .val (.int (1 : Int32))] [(.int (0 : Int32))])) _
                  refine XS.iload X277.here hx rfl (hb hby at_129) rfl ?_
                  show Steps p.tables e below (T277.setTop (mkF m 131 #[.val (.long p0s), .second, .val (.long p1s), .second, .val (.long p2s), .second, .val (.long p3s), .second, .val (.int p4s), .val (.ref b68), .val (.ref b89), .val (.int (0 : Int32)), .val (.int (0 : Int32)), .val (.int (1 : Int32)), .val (.int (1 : Int32))] [(.int (1 : Int32)), (.int (0 : Int32))])) _
                  refine XS.icmpNo X277.here hx rfl (hb hby at_131) rfl (feq (show ¬ ((0 : Int32) = (1 : Int32)) from by decide)).1 ?_
                  show Steps p.tables e below (T277.setTop (mkF m 134 #[.val (.long p0s), .second, .val (.long p1s), .second, .val (.long p2s), .second, .val (.long p3s), .second, .val (.int p4s), .val (.ref b68), .val (.ref b89), .val (.int (0 : Int32)), .val (.int (0 : Int32)), .val (.int (1 : Int32)), .val (.int (1 : Int32))] [])) _
                  refine XS.iconst X277.here hx rfl (hb hby at_134) ?_
                  exact k
                exfalso
                have q141_r := own_R64 p0s
                have q142_r := own_R64 p3s
                have q143_r := own_R64 p2s
                have q144_r := own_R64 p1s
                have q145_c := own_nlt64 hc133
                have q146_c := own_nlt64 hc223
                have q147_c := own_lt64 hc266
                have q148_c := own_lt64 hc270
                have q149_c := own_lt64 hc273
                have q150_c := own_lt64 hc278
                omega
              · have ev282 : (own_min p1s p3s) = p1s := by unfold own_min; rw [if_neg hc278]
                have r283 : own_R p.tables e below F0 (T277.setTop (mkF m 116 #[.val (.long p0s), .second, .val (.long p1s), .second, .val (.long p2s), .second, .val (.long p3s), .second, .val (.int p4s), .val (.ref b68), .val (.ref b89), .val (.int (0 : Int32)), .val (.int (0 : Int32)), .val (.int (1 : Int32)), .unset] [(.long p1s), (.long p2s)])) := by have q := r277; rw [ev282] at q; exact q
                have r284 : own_R p.tables e below F0 (T277.setTop (mkF m 137 #[.val (.long p0s), .second, .val (.long p1s), .second, .val (.long p2s), .second, .val (.long p3s), .second, .val (.int p4s), .val (.ref b68), .val (.ref b89), .val (.int (0 : Int32)), .val (.int (0 : Int32)), .val (.int (1 : Int32)), .val (.int (0 : Int32))] [(.int (1 : Int32))])) := fun t k => by
                  refine r283 t ?_
                  show Steps p.tables e below (T277.setTop (mkF m 116 #[.val (.long p0s), .second, .val (.long p1s), .second, .val (.long p2s), .second, .val (.long p3s), .second, .val (.int p4s), .val (.ref b68), .val (.ref b89), .val (.int (0 : Int32)), .val (.int (0 : Int32)), .val (.int (1 : Int32)), .unset] [(.long p1s), (.long p2s)])) _
                  refine XS.lcmp X277.here hx rfl (hb hby at_116) rfl ?_
                  show Steps p.tables e below (T277.setTop (mkF m 117 #[.val (.long p0s), .second, .val (.long p1s), .second, .val (.long p2s), .second, .val (.long p3s), .second, .val (.int p4s), .val (.ref b68), .val (.ref b89), .val (.int (0 : Int32)), .val (.int (0 : Int32)), .val (.int (1 : Int32)), .unset] [(.int (lcmpW p2s p1s))])) _
                  refine XS.ifYes X277.here hx rfl (pc0 := 117) (pc' := 124) rfl (hb hby at_117) rfl (own_l_nlt hc223).2 (by decide) (by decide) ?_
                  show Steps p.tables e below (T277.setTop (mkF m 124 #[.val (.long p0s), .second, .val (.long p1s), .second, .val (.long p2s), .second, .val (.long p3s), .second, .val (.int p4s), .val (.ref b68), .val (.ref b89), .val (.int (0 : Int32)), .val (.int (0 : Int32)), .val (.int (1 : Int32)), .unset] [])) _
                  refine XS.iconst X277.here hx rfl (hb hby at_124) ?_
                  show Steps p.tables e below (T277.setTop (mkF m 125 #[.val (.long p0s), .second, .val (.long p1s), .second, .val (.long p2s), .second, .val (.long p3s), .second, .val (.int p4s), .val (.ref b68), .val (.ref b89), .val (.int (0 : Int32)), .val (.int (0 : Int32)), .val (.int (1 : Int32)), .unset] [(.int (0 : Int32))])) _
                  refine XS.istore X277.here hx rfl (hb hby at_125) rfl (l' := #[.val (.long p0s), .second, .val (.long p1s), .second, .val (.long p2s), .second, .val (.long p3s), .second, .val (.int p4s), .val (.ref b68), .val (.ref b89), .val (.int (0 : Int32)), .val (.int (0 : Int32)), .val (.int (1 : Int32)), .val (.int (0 : Int32))]) rfl ?_
                  show Steps p.tables e below (T277.setTop (mkF m 127 #[.val (.long p0s), .second, .val (.long p1s), .second, .val (.long p2s), .second, .val (.long p3s), .second, .val (.int p4s), .val (.ref b68), .val (.ref b89), .val (.int (0 : Int32)), .val (.int (0 : Int32)), .val (.int (1 : Int32)), .val (.int (0 : Int32))] [])) _
                  refine XS.iload X277.here hx rfl (hb hby at_127) rfl ?_
                  show Steps p.tables e below (T277.setTop (mkF m 129 #[.val (.long p0s), .second, .val (.long p1s), .second, .val (.long p2s), .second, .val (.long p3s), .second, .val (.int p4s), .val (.ref b68), .val (.ref b89), .val (.int (0 : Int32)), .val (.int (0 : Int32)), .val (.int (1 : Int32)), .val (.int (0 : Int32))] [(.int (0 : Int32))])) _
                  refine XS.iload X277.here hx rfl (hb hby at_129) rfl ?_
                  show Steps p.tables e below (T277.setTop (mkF m 131 #[.val (.long p0s), .second, .val (.long p1s), .second, .val (.long p2s), .second, .val (.long p3s), .second, .val (.int p4s), .val (.ref b68), .val (.ref b89), .val (.int (0 : Int32)), .val (.int (0 : Int32)), .val (.int (1 : Int32)), .val (.int (0 : Int32))] [(.int (0 : Int32)), (.int (0 : Int32))])) _
                  refine XS.icmpYes X277.here hx rfl (pc0 := 131) (pc' := 136) rfl (hb hby at_131) rfl (teq (show (0 : Int32) = (0 : Int32) from by decide)).1 (by decide) (by decide) ?_
                  show Steps p.tables e below (T277.setTop (mkF m 136 #[.val (.long p0s), .second, .val (.long p1s), .second, .val (.long p2s), .second, .val (.long p3s), .second, .val (.int p4s), .val (.ref b68), .val (.ref b89), .val (.int (0 : Int32)), .val (.int (0 : Int32)), .val (.int (1 : Int32)), .val (.int (0 : Int32))] [])) _
                  refine XS.iconst X277.here hx rfl (hb hby at_136) ?_
                  exact k
                refine hG (own_fin X277 hlk (some (.int (nar .boolean (1 : Int32)))) (own_hv Bd.returns) ?_ (by decide) (by decide) (fun fs hr => r284 _ (retN X277 hx (t := .boolean) Bd.returns (by simp) (hb hby at_137) hr)))
                rw [I277_0]
                exact ⟨rfl, N277⟩
            · have ev285 : (own_max p0s p2s) = p0s := by unfold own_max; rw [if_neg hc273]
              have r286 : own_R p.tables e below F0 (T272.setTop (mkF m 110 #[.val (.long p0s), .second, .val (.long p1s), .second, .val (.long p2s), .second, .val (.long p3s), .second, .val (.int p4s), .val (.ref b68), .val (.ref b89), .val (.int (0 : Int32)), .val (.int (0 : Int32)), .val (.int (1 : Int32)), .unset] [(.long p0s)])) := by have q := r272; rw [ev285] at q; exact q
              have r287 : own_R p.tables e below F0 (T272.setTop (mkF m 113 #[.val (.long p0s), .second, .val (.long p1s), .second, .val (.long p2s), .second, .val (.long p3s), .second, .val (.int p4s), .val (.ref b68), .val (.ref b89), .val (.int (0 : Int32)), .val (.int (0 : Int32)), .val (.int (1 : Int32)), .unset] [(.long p3s), (.long p1s), (.long p0s)])) := fun t k => by
                refine r286 t ?_
                show Steps p.tables e below (T272.setTop (mkF m 110 #[.val (.long p0s), .second, .val (.long p1s), .second, .val (.long p2s), .second, .val (.long p3s), .second, .val (.int p4s), .val (.ref b68), .val (.ref b89), .val (.int (0 : Int32)), .val (.int (0 : Int32)), .val (.int (1 : Int32)), .unset] [(.long p0s)])) _
                refine XS.lloadN X272.here hx rfl (hb hby at_110) rfl ?_
                show Steps p.tables e below (T272.setTop (mkF m 111 #[.val (.long p0s), .second, .val (.long p1s), .second, .val (.long p2s), .second, .val (.long p3s), .second, .val (.int p4s), .val (.ref b68), .val (.ref b89), .val (.int (0 : Int32)), .val (.int (0 : Int32)), .val (.int (1 : Int32)), .unset] [(.long p1s), (.long p0s)])) _
                refine XS.lload X272.here hx rfl (hb hby at_111) rfl ?_
                exact k
              obtain ⟨_, _, ⟨T288, L288, k288, n288⟩, -, X288, ⟨Lc288, hQ288, l288, y288, z288⟩, st288⟩ := Jvm.LawKit.callS X272 hx (y := (⟨"java/lang/Math", "min", "(JJ)J"⟩ : MethodName)) hown (mvT hZ (hw _ (List.mem_of_getElem? (i := 32) rfl))) (mvT hZ (hw _ (List.mem_of_getElem? (i := 33) rfl))) (mvT hZ (hw _ (List.mem_of_getElem? (i := 30) rfl))) (mvT hZ (hw _ (List.mem_of_getElem? (i := 34) rfl))) (by decide) (backOf (W := 2) (rm6 l Z a0 hw [] p1s p3s h121 n0 Zs130 ) hZ (hw _ (List.mem_of_getElem? (i := 34) rfl)) (hw _ (List.mem_of_getElem? (i := 30) rfl)) (by decide) (by decide)) (g := (mkF m 113 #[.val (.long p0s), .second, .val (.long p1s), .second, .val (.long p2s), .second, .val (.long p3s), .second, .val (.int p4s), .val (.ref b68), .val (.ref b89), .val (.int (0 : Int32)), .val (.int (0 : Int32)), .val (.int (1 : Int32)), .unset] [(.long p3s), (.long p1s), (.long p0s)])) rfl (by rw [hml]; rfl) (argsL := [(.long p1s), (.long p3s)]) (rest := [(.long p0s)]) (lenOf pd_3 rfl) rfl (by show 2 * 0 + _ ≤ _; exact Nat.le_of_eq rfl) (hb hby at_113) (fun _ _ => ⟨rfl, I272_0, (by decide : 4 + 0 ≤ _), (by decide : 8 + 0 ≤ _)⟩)
              dsimp only [Pt.U, Pt.locs, Pt.cells, Pt.slots] at X288 l288 y288 z288 st288 hQ288
              subst l288 y288 z288
              obtain ⟨rfl, N288q, I288_0⟩ := hQ288
              have N288 := Fr.app N272 N288q
              have r288 : own_R p.tables e below F0 (T288.setTop (mkF m 116 #[.val (.long p0s), .second, .val (.long p1s), .second, .val (.long p2s), .second, .val (.long p3s), .second, .val (.int p4s), .val (.ref b68), .val (.ref b89), .val (.int (0 : Int32)), .val (.int (0 : Int32)), .val (.int (1 : Int32)), .unset] [(.long (own_min p1s p3s)), (.long p0s)])) := fun t k => r287 t (st288 t k)
              by_cases hc289 : p3s < p1s
              · have ev290 : (own_min p1s p3s) = p3s := by unfold own_min; rw [if_pos hc289]
                have r291 : own_R p.tables e below F0 (T288.setTop (mkF m 116 #[.val (.long p0s), .second, .val (.long p1s), .second, .val (.long p2s), .second, .val (.long p3s), .second, .val (.int p4s), .val (.ref b68), .val (.ref b89), .val (.int (0 : Int32)), .val (.int (0 : Int32)), .val (.int (1 : Int32)), .unset] [(.long p3s), (.long p0s)])) := by have q := r288; rw [ev290] at q; exact q
                have r292 : own_R p.tables e below F0 (T288.setTop (mkF m 137 #[.val (.long p0s), .second, .val (.long p1s), .second, .val (.long p2s), .second, .val (.long p3s), .second, .val (.int p4s), .val (.ref b68), .val (.ref b89), .val (.int (0 : Int32)), .val (.int (0 : Int32)), .val (.int (1 : Int32)), .val (.int (0 : Int32))] [(.int (1 : Int32))])) := fun t k => by
                  refine r291 t ?_
                  show Steps p.tables e below (T288.setTop (mkF m 116 #[.val (.long p0s), .second, .val (.long p1s), .second, .val (.long p2s), .second, .val (.long p3s), .second, .val (.int p4s), .val (.ref b68), .val (.ref b89), .val (.int (0 : Int32)), .val (.int (0 : Int32)), .val (.int (1 : Int32)), .unset] [(.long p3s), (.long p0s)])) _
                  refine XS.lcmp X288.here hx rfl (hb hby at_116) rfl ?_
                  show Steps p.tables e below (T288.setTop (mkF m 117 #[.val (.long p0s), .second, .val (.long p1s), .second, .val (.long p2s), .second, .val (.long p3s), .second, .val (.int p4s), .val (.ref b68), .val (.ref b89), .val (.int (0 : Int32)), .val (.int (0 : Int32)), .val (.int (1 : Int32)), .unset] [(.int (lcmpW p0s p3s))])) _
                  refine XS.ifYes X288.here hx rfl (pc0 := 117) (pc' := 124) rfl (hb hby at_117) rfl (own_l_nlt hc133).2 (by decide) (by decide) ?_
                  show Steps p.tables e below (T288.setTop (mkF m 124 #[.val (.long p0s), .second, .val (.long p1s), .second, .val (.long p2s), .second, .val (.long p3s), .second, .val (.int p4s), .val (.ref b68), .val (.ref b89), .val (.int (0 : Int32)), .val (.int (0 : Int32)), .val (.int (1 : Int32)), .unset] [])) _
                  refine XS.iconst X288.here hx rfl (hb hby at_124) ?_
                  show Steps p.tables e below (T288.setTop (mkF m 125 #[.val (.long p0s), .second, .val (.long p1s), .second, .val (.long p2s), .second, .val (.long p3s), .second, .val (.int p4s), .val (.ref b68), .val (.ref b89), .val (.int (0 : Int32)), .val (.int (0 : Int32)), .val (.int (1 : Int32)), .unset] [(.int (0 : Int32))])) _
                  refine XS.istore X288.here hx rfl (hb hby at_125) rfl (l' := #[.val (.long p0s), .second, .val (.long p1s), .second, .val (.long p2s), .second, .val (.long p3s), .second, .val (.int p4s), .val (.ref b68), .val (.ref b89), .val (.int (0 : Int32)), .val (.int (0 : Int32)), .val (.int (1 : Int32)), .val (.int (0 : Int32))]) rfl ?_
                  show Steps p.tables e below (T288.setTop (mkF m 127 #[.val (.long p0s), .second, .val (.long p1s), .second, .val (.long p2s), .second, .val (.long p3s), .second, .val (.int p4s), .val (.ref b68), .val (.ref b89), .val (.int (0 : Int32)), .val (.int (0 : Int32)), .val (.int (1 : Int32)), .val (.int (0 : Int32))] [])) _
                  refine XS.iload X288.here hx rfl (hb hby at_127) rfl ?_
                  show Steps p.tables e below (T288.setTop (mkF m 129 #[.val (.long p0s), .second, .val (.long p1s), .second, .val (.long p2s), .second, .val (.long p3s), .second, .val (.int p4s), .val (.ref b68), .val (.ref b89), .val (.int (0 : Int32)), .val (.int (0 : Int32)), .val (.int (1 : Int32)), .val (.int (0 : Int32))] [(.int (0 : Int32))])) _
                  refine XS.iload X288.here hx rfl (hb hby at_129) rfl ?_
                  show Steps p.tables e below (T288.setTop (mkF m 131 #[.val (.long p0s), .second, .val (.long p1s), .second, .val (.long p2s), .second, .val (.long p3s), .second, .val (.int p4s), .val (.ref b68), .val (.ref b89), .val (.int (0 : Int32)), .val (.int (0 : Int32)), .val (.int (1 : Int32)), .val (.int (0 : Int32))] [(.int (0 : Int32)), (.int (0 : Int32))])) _
                  refine XS.icmpYes X288.here hx rfl (pc0 := 131) (pc' := 136) rfl (hb hby at_131) rfl (teq (show (0 : Int32) = (0 : Int32) from by decide)).1 (by decide) (by decide) ?_
                  show Steps p.tables e below (T288.setTop (mkF m 136 #[.val (.long p0s), .second, .val (.long p1s), .second, .val (.long p2s), .second, .val (.long p3s), .second, .val (.int p4s), .val (.ref b68), .val (.ref b89), .val (.int (0 : Int32)), .val (.int (0 : Int32)), .val (.int (1 : Int32)), .val (.int (0 : Int32))] [])) _
                  refine XS.iconst X288.here hx rfl (hb hby at_136) ?_
                  exact k
                refine hG (own_fin X288 hlk (some (.int (nar .boolean (1 : Int32)))) (own_hv Bd.returns) ?_ (by decide) (by decide) (fun fs hr => r292 _ (retN X288 hx (t := .boolean) Bd.returns (by simp) (hb hby at_137) hr)))
                rw [I288_0]
                exact ⟨rfl, N288⟩
              · have ev293 : (own_min p1s p3s) = p1s := by unfold own_min; rw [if_neg hc289]
                have r294 : own_R p.tables e below F0 (T288.setTop (mkF m 116 #[.val (.long p0s), .second, .val (.long p1s), .second, .val (.long p2s), .second, .val (.long p3s), .second, .val (.int p4s), .val (.ref b68), .val (.ref b89), .val (.int (0 : Int32)), .val (.int (0 : Int32)), .val (.int (1 : Int32)), .unset] [(.long p1s), (.long p0s)])) := by have q := r288; rw [ev293] at q; exact q
                have r295 : own_R p.tables e below F0 (T288.setTop (mkF m 135 #[.val (.long p0s), .second, .val (.long p1s), .second, .val (.long p2s), .second, .val (.long p3s), .second, .val (.int p4s), .val (.ref b68), .val (.ref b89), .val (.int (0 : Int32)), .val (.int (0 : Int32)), .val (.int (1 : Int32)), .val (.int (1 : Int32))] [(.int (0 : Int32))])) := fun t k => by
                  refine r294 t ?_
                  show Steps p.tables e below (T288.setTop (mkF m 116 #[.val (.long p0s), .second, .val (.long p1s), .second, .val (.long p2s), .second, .val (.long p3s), .second, .val (.int p4s), .val (.ref b68), .val (.ref b89), .val (.int (0 : Int32)), .val (.int (0 : Int32)), .val (.int (1 : Int32)), .unset] [(.long p1s), (.long p0s)])) _
                  refine XS.lcmp X288.here hx rfl (hb hby at_116) rfl ?_
                  show Steps p.tables e below (T288.setTop (mkF m 117 #[.val (.long p0s), .second, .val (.long p1s), .second, .val (.long p2s), .second, .val (.long p3s), .second, .val (.int p4s), .val (.ref b68), .val (.ref b89), .val (.int (0 : Int32)), .val (.int (0 : Int32)), .val (.int (1 : Int32)), .unset] [(.int (lcmpW p0s p1s))])) _
                  refine XS.ifNo X288.here hx rfl (hb hby at_117) rfl (own_l_lt hc266).2 ?_
                  show Steps p.tables e below (T288.setTop (mkF m 120 #[.val (.long p0s), .second, .val (.long p1s), .second, .val (.long p2s), .second, .val (.long p3s), .second, .val (.int p4s), .val (.ref b68), .val (.ref b89), .val (.int (0 : Int32)), .val (.int (0 : Int32)), .val (.int (1 : Int32)), .unset] [])) _
                  refine XS.iconst X288.here hx rfl (hb hby at_120) ?_
                  show Steps p.tables e below (T288.setTop (mkF m 121 #[.val (.long p0s), .second, .val (.long p1s), .second, .val (.long p2s), .second, .val (.long p3s), .second, .val (.int p4s), .val (.ref b68), .val (.ref b89), .val (.int (0 : Int32)), .val (.int (0 : Int32)), .val (.int (1 : Int32)), .unset] [(.int (1 : Int32))])) _
                  refine XS.goto X288.here hx rfl (pc0 := 121) (pc' := 125) rfl (hb hby at_121) (by decide) (by decide) ?_
                  show Steps p.tables e below (T288.setTop (mkF m 125 #[.val (.long p0s), .second, .val (.long p1s), .second, .val (.long p2s), .second, .val (.long p3s), .second, .val (.int p4s), .val (.ref b68), .val (.ref b89), .val (.int (0 : Int32)), .val (.int (0 : Int32)), .val (.int (1 : Int32)), .unset] [(.int (1 : Int32))])) _
                  refine XS.istore X288.here hx rfl (hb hby at_125) rfl (l' := #[.val (.long p0s), .second, .val (.long p1s), .second, .val (.long p2s), .second, .val (.long p3s), .second, .val (.int p4s), .val (.ref b68), .val (.ref b89), .val (.int (0 : Int32)), .val (.int (0 : Int32)), .val (.int (1 : Int32)), .val (.int (1 : Int32))]) rfl ?_
                  show Steps p.tables e below (T288.setTop (mkF m 127 #[.val (.long p0s), .second, .val (.long p1s), .second, .val (.long p2s), .second, .val (.long p3s), .second, .val (.int p4s), .val (.ref b68), .val (.ref b89), .val (.int (0 : Int32)), .val (.int (0 : Int32)), .val (.int (1 : Int32)), .val (.int (1 : Int32))] [])) _
                  refine XS.iload X288.here hx rfl (hb hby at_127) rfl ?_
                  show Steps p.tables e below (T288.setTop (mkF m 129 #[.val (.long p0s), .second, .val (.long p1s), .second, .val (.long p2s), .second, .val (.long p3s), .second, .val (.int p4s), .val (.ref b68), .val (.ref b89), .val (.int (0 : Int32)), .val (.int (0 : Int32)), .val (.int (1 : Int32)), .val (.int (1 : Int32))] [(.int (0 : Int32))])) _
                  refine XS.iload X288.here hx rfl (hb hby at_129) rfl ?_
                  show Steps p.tables e below (T288.setTop (mkF m 131 #[.val (.long p0s), .second, .val (.long p1s), .second, .val (.long p2s), .second, .val (.long p3s), .second, .val (.int p4s), .val (.ref b68), .val (.ref b89), .val (.int (0 : Int32)), .val (.int (0 : Int32)), .val (.int (1 : Int32)), .val (.int (1 : Int32))] [(.int (1 : Int32)), (.int (0 : Int32))])) _
                  refine XS.icmpNo X288.here hx rfl (hb hby at_131) rfl (feq (show ¬ ((0 : Int32) = (1 : Int32)) from by decide)).1 ?_
                  show Steps p.tables e below (T288.setTop (mkF m 134 #[.val (.long p0s), .second, .val (.long p1s), .second, .val (.long p2s), .second, .val (.long p3s), .second, .val (.int p4s), .val (.ref b68), .val (.ref b89), .val (.int (0 : Int32)), .val (.int (0 : Int32)), .val (.int (1 : Int32)), .val (.int (1 : Int32))] [])) _
                  refine XS.iconst X288.here hx rfl (hb hby at_134) ?_
                  exact k
                exfalso
                have q151_r := own_R64 p0s
                have q152_r := own_R64 p3s
                have q153_r := own_R64 p2s
                have q154_r := own_R64 p1s
                have q155_c := own_nlt64 hc133
                have q156_c := own_nlt64 hc223
                have q157_c := own_lt64 hc266
                have q158_c := own_lt64 hc270
                have q159_c := own_nlt64 hc273
                have q160_c := own_nlt64 hc289
                omega
          · have r296 : own_R p.tables e below F0 (T265.setTop (mkF m 137 #[.val (.long p0s), .second, .val (.long p1s), .second, .val (.long p2s), .second, .val (.long p3s), .second, .val (.int p4s), .val (.ref b68), .val (.ref b89), .val (.int (0 : Int32)), .val (.int (0 : Int32)), .val (.int (1 : Int32)), .unset] [(.int (1 : Int32))])) := fun t k => by
              refine r269 t ?_
              show Steps p.tables e below (T265.setTop (mkF m 101 #[.val (.long p0s), .second, .val (.long p1s), .second, .val (.long p2s), .second, .val (.long p3s), .second, .val (.int p4s), .val (.ref b68), .val (.ref b89), .val (.int (0 : Int32)), .val (.int (0 : Int32)), .val (.int (1 : Int32)), .unset] [(.int (lcmpW p2s p3s))])) _
              refine XS.ifYes X265.here hx rfl (pc0 := 101) (pc' := 136) rfl (hb hby at_101) rfl (own_l_nlt hc270).2 (by decide) (by decide) ?_
              show Steps p.tables e below (T265.setTop (mkF m 136 #[.val (.long p0s), .second, .val (.long p1s), .second, .val (.long p2s), .second, .val (.long p3s), .second, .val (.int p4s), .val (.ref b68), .val (.ref b89), .val (.int (0 : Int32)), .val (.int (0 : Int32)), .val (.int (1 : Int32)), .unset] [])) _
              refine XS.iconst X265.here hx rfl (hb hby at_136) ?_
              exact k
            refine hG (own_fin X265 hlk (some (.int (nar .boolean (1 : Int32)))) (own_hv Bd.returns) ?_ (by decide) (by decide) (fun fs hr => r296 _ (retN X265 hx (t := .boolean) Bd.returns (by simp) (hb hby at_137) hr)))
            rw [I265_0]
            exact ⟨rfl, N265⟩
        · have ev297 : (own_over p0s p1s p0s p1s) = (0 : Int32) := by unfold own_over; rw [if_neg hc266]
          have r298 : own_R p.tables e below F0 (T265.setTop (mkF m 61 #[.val (.long p0s), .second, .val (.long p1s), .second, .val (.long p2s), .second, .val (.long p3s), .second, .val (.int p4s), .val (.ref b68), .val (.ref b89), .val (.int (0 : Int32)), .val (.int (0 : Int32)), .unset, .unset] [(.int (0 : Int32))])) := by have q := r265; rw [ev297] at q; exact q
          have r299 : own_R p.tables e below F0 (T265.setTop (mkF m 137 #[.val (.long p0s), .second, .val (.long p1s), .second, .val (.long p2s), .second, .val (.long p3s), .second, .val (.int p4s), .val (.ref b68), .val (.ref b89), .val (.int (0 : Int32)), .val (.int (0 : Int32)), .val (.int (0 : Int32)), .unset] [(.int (1 : Int32))])) := fun t k => by
            refine r298 t ?_
            show Steps p.tables e below (T265.setTop (mkF m 61 #[.val (.long p0s), .second, .val (.long p1s), .second, .val (.long p2s), .second, .val (.long p3s), .second, .val (.int p4s), .val (.ref b68), .val (.ref b89), .val (.int (0 : Int32)), .val (.int (0 : Int32)), .unset, .unset] [(.int (0 : Int32))])) _
            refine XS.istore X265.here hx rfl (hb hby at_61) rfl (l' := #[.val (.long p0s), .second, .val (.long p1s), .second, .val (.long p2s), .second, .val (.long p3s), .second, .val (.int p4s), .val (.ref b68), .val (.ref b89), .val (.int (0 : Int32)), .val (.int (0 : Int32)), .val (.int (0 : Int32)), .unset]) rfl ?_
            show Steps p.tables e below (T265.setTop (mkF m 63 #[.val (.long p0s), .second, .val (.long p1s), .second, .val (.long p2s), .second, .val (.long p3s), .second, .val (.int p4s), .val (.ref b68), .val (.ref b89), .val (.int (0 : Int32)), .val (.int (0 : Int32)), .val (.int (0 : Int32)), .unset] [])) _
            refine XS.iload X265.here hx rfl (hb hby at_63) rfl ?_
            show Steps p.tables e below (T265.setTop (mkF m 65 #[.val (.long p0s), .second, .val (.long p1s), .second, .val (.long p2s), .second, .val (.long p3s), .second, .val (.int p4s), .val (.ref b68), .val (.ref b89), .val (.int (0 : Int32)), .val (.int (0 : Int32)), .val (.int (0 : Int32)), .unset] [(.int (0 : Int32))])) _
            refine XS.iload X265.here hx rfl (hb hby at_65) rfl ?_
            show Steps p.tables e below (T265.setTop (mkF m 67 #[.val (.long p0s), .second, .val (.long p1s), .second, .val (.long p2s), .second, .val (.long p3s), .second, .val (.int p4s), .val (.ref b68), .val (.ref b89), .val (.int (0 : Int32)), .val (.int (0 : Int32)), .val (.int (0 : Int32)), .unset] [(.int (0 : Int32)), (.int (0 : Int32))])) _
            refine XS.icmpYes X265.here hx rfl (pc0 := 67) (pc' := 72) rfl (hb hby at_67) rfl (teq (show (0 : Int32) = (0 : Int32) from by decide)).1 (by decide) (by decide) ?_
            show Steps p.tables e below (T265.setTop (mkF m 72 #[.val (.long p0s), .second, .val (.long p1s), .second, .val (.long p2s), .second, .val (.long p3s), .second, .val (.int p4s), .val (.ref b68), .val (.ref b89), .val (.int (0 : Int32)), .val (.int (0 : Int32)), .val (.int (0 : Int32)), .unset] [])) _
            refine XS.iload X265.here hx rfl (hb hby at_72) rfl ?_
            show Steps p.tables e below (T265.setTop (mkF m 74 #[.val (.long p0s), .second, .val (.long p1s), .second, .val (.long p2s), .second, .val (.long p3s), .second, .val (.int p4s), .val (.ref b68), .val (.ref b89), .val (.int (0 : Int32)), .val (.int (0 : Int32)), .val (.int (0 : Int32)), .unset] [(.int (0 : Int32))])) _
            refine XS.lloadN X265.here hx rfl (hb hby at_74) rfl ?_
            show Steps p.tables e below (T265.setTop (mkF m 75 #[.val (.long p0s), .second, .val (.long p1s), .second, .val (.long p2s), .second, .val (.long p3s), .second, .val (.int p4s), .val (.ref b68), .val (.ref b89), .val (.int (0 : Int32)), .val (.int (0 : Int32)), .val (.int (0 : Int32)), .unset] [(.long p0s), (.int (0 : Int32))])) _
            refine XS.lloadN X265.here hx rfl (hb hby at_75) rfl ?_
            show Steps p.tables e below (T265.setTop (mkF m 76 #[.val (.long p0s), .second, .val (.long p1s), .second, .val (.long p2s), .second, .val (.long p3s), .second, .val (.int p4s), .val (.ref b68), .val (.ref b89), .val (.int (0 : Int32)), .val (.int (0 : Int32)), .val (.int (0 : Int32)), .unset] [(.long p1s), (.long p0s), (.int (0 : Int32))])) _
            refine XS.lcmp X265.here hx rfl (hb hby at_76) rfl ?_
            show Steps p.tables e below (T265.setTop (mkF m 77 #[.val (.long p0s), .second, .val (.long p1s), .second, .val (.long p2s), .second, .val (.long p3s), .second, .val (.int p4s), .val (.ref b68), .val (.ref b89), .val (.int (0 : Int32)), .val (.int (0 : Int32)), .val (.int (0 : Int32)), .unset] [(.int (lcmpW p0s p1s)), (.int (0 : Int32))])) _
            refine XS.ifYes X265.here hx rfl (pc0 := 77) (pc' := 84) rfl (hb hby at_77) rfl (own_l_nlt hc266).2 (by decide) (by decide) ?_
            show Steps p.tables e below (T265.setTop (mkF m 84 #[.val (.long p0s), .second, .val (.long p1s), .second, .val (.long p2s), .second, .val (.long p3s), .second, .val (.int p4s), .val (.ref b68), .val (.ref b89), .val (.int (0 : Int32)), .val (.int (0 : Int32)), .val (.int (0 : Int32)), .unset] [(.int (0 : Int32))])) _
            refine XS.iconst X265.here hx rfl (hb hby at_84) ?_
            show Steps p.tables e below (T265.setTop (mkF m 85 #[.val (.long p0s), .second, .val (.long p1s), .second, .val (.long p2s), .second, .val (.long p3s), .second, .val (.int p4s), .val (.ref b68), .val (.ref b89), .val (.int (0 : Int32)), .val (.int (0 : Int32)), .val (.int (0 : Int32)), .unset] [(.int (0 : Int32)), (.int (0 : Int32))])) _
            refine XS.icmpYes X265.here hx rfl (pc0 := 85) (pc' := 90) rfl (hb hby at_85) rfl (teq (show (0 : Int32) = (0 : Int32) from by decide)).1 (by decide) (by decide) ?_
            show Steps p.tables e below (T265.setTop (mkF m 90 #[.val (.long p0s), .second, .val (.long p1s), .second, .val (.long p2s), .second, .val (.long p3s), .second, .val (.int p4s), .val (.ref b68), .val (.ref b89), .val (.int (0 : Int32)), .val (.int (0 : Int32)), .val (.int (0 : Int32)), .unset] [])) _
            refine XS.lloadN X265.here hx rfl (hb hby at_90) rfl ?_
            show Steps p.tables e below (T265.setTop (mkF m 91 #[.val (.long p0s), .second, .val (.long p1s), .second, .val (.long p2s), .second, .val (.long p3s), .second, .val (.int p4s), .val (.ref b68), .val (.ref b89), .val (.int (0 : Int32)), .val (.int (0 : Int32)), .val (.int (0 : Int32)), .unset] [(.long p0s)])) _
            refine XS.lloadN X265.here hx rfl (hb hby at_91) rfl ?_
            show Steps p.tables e below (T265.setTop (mkF m 92 #[.val (.long p0s), .second, .val (.long p1s), .second, .val (.long p2s), .second, .val (.long p3s), .second, .val (.int p4s), .val (.ref b68), .val (.ref b89), .val (.int (0 : Int32)), .val (.int (0 : Int32)), .val (.int (0 : Int32)), .unset] [(.long p1s), (.long p0s)])) _
            refine XS.lcmp X265.here hx rfl (hb hby at_92) rfl ?_
            show Steps p.tables e below (T265.setTop (mkF m 93 #[.val (.long p0s), .second, .val (.long p1s), .second, .val (.long p2s), .second, .val (.long p3s), .second, .val (.int p4s), .val (.ref b68), .val (.ref b89), .val (.int (0 : Int32)), .val (.int (0 : Int32)), .val (.int (0 : Int32)), .unset] [(.int (lcmpW p0s p1s))])) _
            refine XS.ifYes X265.here hx rfl (pc0 := 93) (pc' := 136) rfl (hb hby at_93) rfl (own_l_nlt hc266).2 (by decide) (by decide) ?_
            show Steps p.tables e below (T265.setTop (mkF m 136 #[.val (.long p0s), .second, .val (.long p1s), .second, .val (.long p2s), .second, .val (.long p3s), .second, .val (.int p4s), .val (.ref b68), .val (.ref b89), .val (.int (0 : Int32)), .val (.int (0 : Int32)), .val (.int (0 : Int32)), .unset] [])) _
            refine XS.iconst X265.here hx rfl (hb hby at_136) ?_
            exact k
          refine hG (own_fin X265 hlk (some (.int (nar .boolean (1 : Int32)))) (own_hv Bd.returns) ?_ (by decide) (by decide) (fun fs hr => r299 _ (retN X265 hx (t := .boolean) Bd.returns (by simp) (hb hby at_137) hr)))
          rw [I265_0]
          exact ⟨rfl, N265⟩
  exact key _ _ id (fun t k => castTop (ef_0 m p0s p1s p2s p3s p4s) k)
set_option maxRecDepth 65536 in
set_option maxHeartbeats 40000000 in
theorem comes_1 {Post : Tables → Env → Array Value → State → Outcome → State → Prop} (hpost : ∀ tb e args s v u, (limb_1_1.after args s (.returned v) u = true ∧ limb_1_2.after args s (.returned v) u = true ∧ True) → FrameEnd s (.returned v) u (Jvm.fieldLocs frame_1_writes args s ++ Jvm.arrayLocs frame_1_arrays args s ++ Jvm.staticLocs frame_1_statics s) 16 128 → Post tb e args s (.returned v) u) :
    ArmFor flags0 classFile x code maxLocals ret World_1 tables_1 room_1 Calls_1 rest_1 Pre_1 Post := by
  intro l hfl _ _ p e ha hc hk s m args below hf hA hF happ hP
  obtain ⟨hcalls, hrest, hpre⟩ := hP
  obtain ⟨-, -, -, hnamed, -, -, -, hat⟩ := (Spec.applies_iff hf).mp happ
  obtain ⟨hg, hn⟩ := and_e (Cond.before_iff.mp (show (Jvm.Cond.and given_1 narrow_1).before args s = true from hpre))
  obtain ⟨gw1, gw2⟩ := and_e hg
  obtain ⟨gw3, gw4⟩ := and_e gw2
  obtain ⟨gw5, gw6⟩ := and_e gw4
  obtain ⟨gw7, gw8⟩ := and_e gw6
  obtain ⟨gw9, gw10⟩ := and_e gw8
  obtain ⟨w0, w1, w2, w3, w4, rfl⟩ : ∃ w0 w1 w2 w3 w4 : Value, args = #[w0, w1, w2, w3, w4] := by
    have hs : args.size = 5 := by simpa [Cond.value, given_1] using gw1
    obtain ⟨L⟩ := args
    match L, hs with
    | [w0, w1, w2, w3, w4], _ => exact ⟨w0, w1, w2, w3, w4, rfl⟩
  have hw := fun d (hd : d ∈ tables_1) => atoms_spec (ws := Jvm.Cond.code x code maxLocals ret :: tables_1) hat d (List.mem_cons_of_mem _ hd)
  have hfit : Fit s := fun {y c} hc i hi => by
    obtain ⟨ha, rfl⟩ := Array.getElem?_eq_some_iff.mp hc
    have q := List.all_eq_true.mp ((Array.all_eq_true_iff_forall_mem.mp hF) _ (Array.getElem_mem ha)) i (List.mem_range.mpr hi)
    simpa [Array.getElem?_eq_getElem hi] using q
  obtain ⟨i0, ei0⟩ := isL_v gw3
  obtain rfl : w0 = (.long i0) := Option.some.inj ei0
  obtain ⟨i1, ei1⟩ := isL_v gw5
  obtain rfl : w1 = (.long i1) := Option.some.inj ei1
  obtain ⟨i2, ei2⟩ := isL_v gw7
  obtain rfl : w2 = (.long i2) := Option.some.inj ei2
  obtain ⟨i3, ei3⟩ := isL_v gw9
  obtain rfl : w3 = (.long i3) := Option.some.inj ei3
  obtain ⟨i4, ei4⟩ := is_v gw10
  obtain rfl : w4 = (.int i4) := Option.some.inj ei4
  obtain ⟨n, o, h1, h2, h3, _, L, rfl, ⟨rfl, N⟩, hq⟩ := rm0 l s _ hw tables_1 i0 i1 i2 i3 i4  s.heap s.heap.size (Nat.le_refl _)  p e ha hc hk s m _ below hf ((Spec.applies_iff_loose hf).mp happ).1 ⟨rfl, State.Warmed39.refl s, rfl⟩ trivial
  refine ⟨n, _, h1, h2, h3, hpost _ _ _ _ _ _ ⟨Cond.after_iff.mpr rfl, Cond.after_iff.mpr (eq_i res_at (Term.int_eval (1)) rfl), trivial⟩ ⟨hq.1, hq.2.1, (hq.2.2.sift fun y hy => Or.inr (N y hy)).mono (by decide) (by decide)⟩⟩
theorem main_1_1 : Claimed_1_1 := comes_1 fun _ _ _ _ _ _ h hF => ⟨h.1, hF⟩
theorem main_1_2 : Claimed_1_2 := comes_1 fun _ _ _ _ _ _ h hF => ⟨h.2.1, hF⟩
end Jvm.Pilot.@@N@@
namespace Jvm.Pilot.@@N@@
open Jvm Jvm.ClassFile Sem Op Lib Jvm.Free Jvm.Stand Jvm.Pilot.@@N@@.Jvm.D
/-! MADE BY PROGRAM (witnessworld.py) out of the Statement's table words and the real class files: 11 classes; the members and pool entries that the words name. The judged class is class 1, her method 1. -/
namespace start1
open Jvm.ClassFile
def u (s : String) : CpInfo := .utf8 (stringToUtf16 s)
/-- a pool by its gaps: so many unusable entries, then the entry; so many at the end -/
def gap : Nat → List CpInfo → List CpInfo
  | 0, r => r
  | n + 1, r => .unusable :: gap n r
def poolList (es : List (Nat × CpInfo)) (last : Nat) : List CpInfo := es.foldr (fun e r => gap e.1 (e.2 :: r)) (gap last [])
def pool (es : List (Nat × CpInfo)) (last : Nat) : Array CpInfo := ⟨poolList es last⟩
def fileOf (pool : Array CpInfo) (this : Nat) (attrs : Array Attribute := #[]) (ms : Array MethodInfo := #[]) (fl : Nat := 33) (sup : Nat := 0) (ifs : Array Nat := #[]) (fds : Array FieldInfo := #[]) : ClassFile where
  minorVersion := 0
  majorVersion := 65
  constantPool := pool
  accessFlags := fl
  thisClass := this
  superClass := sup
  interfaces := ifs
  fields := fds
  methods := ms
  attributes := attrs
def plain (name : String) (sup : Option ClassId) : Class where
  name := name
  kind := .ordinary
  loader := none
  accessFlags := 33
  super := sup
  interfaces := #[]
  cf := none
  fields := #[]
  methods := #[]
  instanceTypes := #[]
  staticTypes := #[]
  resolved := #[]
  callSites := []
  init := .initialized
  statics := none
  mirror := none

def pool0 : Array CpInfo := pool [(5, u "<init>"), (0, u "()V"), (1, .class_ 10), (1, u "java/lang/Object")] 113

def k0c0 : Code := { maxStack := 0, maxLocals := 1, code := object_method_1_code, exceptionTable := #[], attributes := #[] }
def k0m0 : Method := { name := "<init>", desc := "()V", sig := { parameters := [], returnType := none }, accessFlags := 1, code := some k0c0 }
/-- java/lang/Object -/
def k0 : Class := { plain "java/lang/Object" none with
  accessFlags := 33
  interfaces := #[]
  cf := some (fileOf pool0 8 #[] #[{ accessFlags := 1, nameIndex := 5, descriptorIndex := 6, attributes := #[] }] 33 0 #[] #[])
  fields := #[]
  methods := #[k0m0]
  instanceTypes := #[]
  staticTypes := #[]
  resolved := Array.replicate 124 none
  statics := none }

def pool1 : Array CpInfo := pool [(2, .class_ 4), (1, u "java/lang/Object"), (0, u "<init>"), (0, u "()V"), (0, .class_ 8), (0, u "com/example/invites_to_friends/invitestofriends/bench/Call"), (0, .methodref 7 10), (0, .nameAndType 5 11), (0, u "(JJI[B)V"), (0, .methodref 7 13), (0, .nameAndType 14 15), (0, u "overlaps"), (0, u "(Lcom/example/invites_to_friends/invitestofriends/bench/Call;)Z"), (0, .methodref 17 18), (0, .class_ 19), (0, .nameAndType 20 21), (0, u "java/lang/Math"), (0, u "max"), (0, u "(JJ)J"), (0, .methodref 17 23), (0, .nameAndType 24 21), (0, u "min"), (0, .class_ 26), (0, u "com/example/invites_to_friends/invitestofriends/bench/CallOverlapsPinLaw"), (2, u "law"), (0, u "(JJJJI)Z")] 3

def k1m0 : Method := { name := "<init>", desc := "()V", sig := { parameters := [], returnType := none }, accessFlags := 1, code := none }
def k1c1 : Code := { maxStack := 8, maxLocals := 15, code := code, exceptionTable := #[], attributes := #[] }
def k1m1 : Method := { name := "law", desc := "(JJJJI)Z", sig := { parameters := [.long, .long, .long, .long, .int], returnType := some .boolean }, accessFlags := 9, code := some k1c1 }
/-- com/example/invites_to_friends/invitestofriends/bench/CallOverlapsPinLaw -/
def k1 : Class := { plain "com/example/invites_to_friends/invitestofriends/bench/CallOverlapsPinLaw" (some 0) with
  accessFlags := 49
  interfaces := #[]
  cf := some (fileOf pool1 25 #[] #[{ accessFlags := 1, nameIndex := 5, descriptorIndex := 6, attributes := #[] }, { accessFlags := 9, nameIndex := 29, descriptorIndex := 30, attributes := #[] }] 49 2 #[] #[])
  fields := #[]
  methods := #[k1m0, k1m1]
  instanceTypes := #[]
  staticTypes := #[]
  resolved := Array.replicate 34 none
  statics := none }

def pool2 : Array CpInfo := pool [(1, .methodref 2 3), (0, .class_ 4), (0, .nameAndType 5 6), (0, u "java/lang/Object"), (0, u "<init>"), (0, u "()V"), (0, .class_ 8), (0, u "java/lang/Record")] 13

def k2c0 : Code := { maxStack := 1, maxLocals := 1, code := jdk_30_method_1_code, exceptionTable := #[], attributes := #[] }
def k2m0 : Method := { name := "<init>", desc := "()V", sig := { parameters := [], returnType := none }, accessFlags := 4, code := some k2c0 }
/-- java/lang/Record -/
def k2 : Class := { plain "java/lang/Record" (some 0) with
  accessFlags := 1057
  interfaces := #[]
  cf := some (fileOf pool2 7 #[] #[{ accessFlags := 4, nameIndex := 5, descriptorIndex := 6, attributes := #[] }] 1057 2 #[] #[])
  fields := #[]
  methods := #[k2m0]
  instanceTypes := #[]
  staticTypes := #[]
  resolved := Array.replicate 22 none
  statics := none }

def pool3 : Array CpInfo := pool [(1, .methodref 2 3), (0, .class_ 4), (0, .nameAndType 5 6), (0, u "java/lang/Record"), (0, u "<init>"), (0, u "()V"), (0, .fieldref 8 9), (0, .class_ 10), (0, .nameAndType 11 12), (0, u "com/example/invites_to_friends/invitestofriends/bench/Call"), (0, u "started"), (0, u "J"), (0, .fieldref 8 14), (0, .nameAndType 15 12), (0, u "ended"), (0, .fieldref 8 17), (0, .nameAndType 18 19), (0, u "status"), (0, u "I"), (0, .fieldref 8 21), (0, .nameAndType 22 23), (0, u "body"), (0, u "[B"), (12, u "NO_ANSWER"), (2, u "(JJI[B)V"), (9, u "overlaps"), (0, u "(Lcom/example/invites_to_friends/invitestofriends/bench/Call;)Z")] 27

def k3c0 : Code := { maxStack := 3, maxLocals := 7, code := prog_5_method_1_code, exceptionTable := #[], attributes := #[] }
def k3m0 : Method := { name := "<init>", desc := "(JJI[B)V", sig := { parameters := [.long, .long, .int, (.array .byte)], returnType := none }, accessFlags := 0, code := some k3c0 }
def k3c1 : Code := { maxStack := 4, maxLocals := 2, code := prog_5_method_5_code, exceptionTable := #[], attributes := #[] }
def k3m1 : Method := { name := "overlaps", desc := "(Lcom/example/invites_to_friends/invitestofriends/bench/Call;)Z", sig := { parameters := [(.object "com/example/invites_to_friends/invitestofriends/bench/Call")], returnType := some .boolean }, accessFlags := 0, code := some k3c1 }
/-- com/example/invites_to_friends/invitestofriends/bench/Call -/
def k3 : Class := { plain "com/example/invites_to_friends/invitestofriends/bench/Call" (some 2) with
  accessFlags := 48
  interfaces := #[]
  cf := some (fileOf pool3 8 #[] #[{ accessFlags := 0, nameIndex := 5, descriptorIndex := 39, attributes := #[] }, { accessFlags := 0, nameIndex := 49, descriptorIndex := 50, attributes := #[] }] 48 2 #[] #[{ accessFlags := 18, nameIndex := 11, descriptorIndex := 12, attributes := #[] }, { accessFlags := 18, nameIndex := 15, descriptorIndex := 12, attributes := #[] }, { accessFlags := 18, nameIndex := 18, descriptorIndex := 19, attributes := #[] }, { accessFlags := 18, nameIndex := 22, descriptorIndex := 23, attributes := #[] }, { accessFlags := 24, nameIndex := 36, descriptorIndex := 19, attributes := #[] }])
  fields := #[{ name := "started", type := .long, accessFlags := 18, slot := 0, constantValue := 0 }, { name := "ended", type := .long, accessFlags := 18, slot := 1, constantValue := 0 }, { name := "status", type := .int, accessFlags := 18, slot := 2, constantValue := 0 }, { name := "body", type := (.array .byte), accessFlags := 18, slot := 3, constantValue := 0 }, { name := "NO_ANSWER", type := .int, accessFlags := 24, slot := 0, constantValue := 0 }]
  methods := #[k3m0, k3m1]
  instanceTypes := #[.long, .long, .int, (.array .byte)]
  staticTypes := #[.int]
  resolved := Array.replicate 78 none
  statics := none }

def pool4 : Array CpInfo := pool [(1, .class_ 2), (0, u "java/lang/Math"), (1, .class_ 6), (1, u "java/lang/Object"), (0, u "<init>"), (0, u "()V"), (89, .class_ 100), (1, u "java/lang/Math$RandomNumberGeneratorHolder"), (20, u "(JJ)J"), (50, u "negativeZeroFloatBits"), (0, u "J"), (2, u "negativeZeroDoubleBits"), (21, u "max"), (2, u "min"), (43, u "$assertionsDisabled"), (0, u "Z"), (91, u "twoToTheDoubleScaleDown"), (0, u "D"), (4, u "twoToTheDoubleScaleUp"), (9, u "E"), (3, u "PI"), (2, u "TAU"), (2, u "DEGREES_TO_RADIANS"), (0, u "RADIANS_TO_DEGREES")] 94

def k4m0 : Method := { name := "<init>", desc := "()V", sig := { parameters := [], returnType := none }, accessFlags := 2, code := none }
def k4c1 : Code := { maxStack := 4, maxLocals := 4, code := jdk_29_method_66_code, exceptionTable := #[], attributes := #[] }
def k4m1 : Method := { name := "max", desc := "(JJ)J", sig := { parameters := [.long, .long], returnType := some .long }, accessFlags := 9, code := some k4c1 }
def k4c2 : Code := { maxStack := 4, maxLocals := 4, code := jdk_29_method_70_code, exceptionTable := #[], attributes := #[] }
def k4m2 : Method := { name := "min", desc := "(JJ)J", sig := { parameters := [.long, .long], returnType := some .long }, accessFlags := 9, code := some k4c2 }
/-- java/lang/Math -/
def k4 : Class := { plain "java/lang/Math" (some 0) with
  accessFlags := 49
  interfaces := #[]
  cf := some (fileOf pool4 1 #[.nestMembers #[98]] #[{ accessFlags := 2, nameIndex := 7, descriptorIndex := 8, attributes := #[] }, { accessFlags := 9, nameIndex := 198, descriptorIndex := 121, attributes := #[] }, { accessFlags := 9, nameIndex := 201, descriptorIndex := 121, attributes := #[] }] 49 4 #[] #[{ accessFlags := 25, nameIndex := 354, descriptorIndex := 339, attributes := #[] }, { accessFlags := 25, nameIndex := 358, descriptorIndex := 339, attributes := #[] }, { accessFlags := 25, nameIndex := 361, descriptorIndex := 339, attributes := #[] }, { accessFlags := 26, nameIndex := 364, descriptorIndex := 339, attributes := #[] }, { accessFlags := 26, nameIndex := 365, descriptorIndex := 339, attributes := #[] }, { accessFlags := 26, nameIndex := 172, descriptorIndex := 173, attributes := #[] }, { accessFlags := 26, nameIndex := 176, descriptorIndex := 173, attributes := #[] }, { accessFlags := 8, nameIndex := 344, descriptorIndex := 339, attributes := #[] }, { accessFlags := 8, nameIndex := 338, descriptorIndex := 339, attributes := #[] }, { accessFlags := 4120, nameIndex := 245, descriptorIndex := 246, attributes := #[] }])
  fields := #[{ name := "E", type := .double, accessFlags := 25, slot := 0, constantValue := 0 }, { name := "PI", type := .double, accessFlags := 25, slot := 1, constantValue := 0 }, { name := "TAU", type := .double, accessFlags := 25, slot := 2, constantValue := 0 }, { name := "DEGREES_TO_RADIANS", type := .double, accessFlags := 26, slot := 3, constantValue := 0 }, { name := "RADIANS_TO_DEGREES", type := .double, accessFlags := 26, slot := 4, constantValue := 0 }, { name := "negativeZeroFloatBits", type := .long, accessFlags := 26, slot := 5, constantValue := 0 }, { name := "negativeZeroDoubleBits", type := .long, accessFlags := 26, slot := 6, constantValue := 0 }, { name := "twoToTheDoubleScaleUp", type := .double, accessFlags := 8, slot := 7, constantValue := 0 }, { name := "twoToTheDoubleScaleDown", type := .double, accessFlags := 8, slot := 8, constantValue := 0 }, { name := "$assertionsDisabled", type := .boolean, accessFlags := 4120, slot := 9, constantValue := 0 }]
  methods := #[k4m0, k4m1, k4m2]
  instanceTypes := #[]
  staticTypes := #[.double, .double, .double, .double, .double, .long, .long, .double, .double, .boolean]
  resolved := Array.replicate 460 none
  statics := none }

def pool5 : Array CpInfo := pool [(1, u "java/lang/Cloneable"), (0, .class_ 1), (0, u "java/lang/Object"), (0, .class_ 3)] 3

/-- java/lang/Cloneable -/
def k5 : Class := { plain "java/lang/Cloneable" (some 0) with
  accessFlags := 1537
  interfaces := #[]
  cf := some (fileOf pool5 2 #[] #[] 1537 4 #[] #[])
  fields := #[]
  methods := #[]
  instanceTypes := #[]
  staticTypes := #[]
  resolved := Array.replicate 8 none
  statics := none }

def pool6 : Array CpInfo := pool [(1, u "java/io/Serializable"), (0, .class_ 1), (0, u "java/lang/Object"), (0, .class_ 3)] 3

/-- java/io/Serializable -/
def k6 : Class := { plain "java/io/Serializable" (some 0) with
  accessFlags := 1537
  interfaces := #[]
  cf := some (fileOf pool6 2 #[] #[] 1537 4 #[] #[])
  fields := #[]
  methods := #[]
  instanceTypes := #[]
  staticTypes := #[]
  resolved := Array.replicate 8 none
  statics := none }

/-- the primitive byte -/
def k7 : Class := { plain "byte" none with kind := .primitive 'B', accessFlags := 0x411 }
/-- [B -/
def k8 : Class := { plain "[B" (some 0) with kind := .array 7 .byte, interfaces := #[5, 6], accessFlags := 1041 }

/-- the primitive int -/
def k9 : Class := { plain "int" none with kind := .primitive 'I', accessFlags := 0x411 }
/-- [I -/
def k10 : Class := { plain "[I" (some 0) with kind := .array 9 .int, interfaces := #[5, 6], accessFlags := 1041 }

def heap : Heap := #[]
def classes : Array Class := #[k0, k1, k2, k3, k4, k5, k6, k7, k8, k9, k10]
def interned : List (Array UInt16 × Addr) := []
def slotsUsed : Nat := 0
def theMethod : MethodId := ⟨1, 1⟩
def args0 : Array Value := #[.long 5, .long 3, .long 3, .long 9, .int 4]
def aboutOver (below : List Frame) : State where
  vm := { classes := classes, interned := interned.toArray }
  heap := heap
  slotsUsed := slotsUsed
  threads := #[{ frames := .invoking theMethod args0 :: below }]
def below0 : List Frame := [.native { method := ⟨0, 0⟩, args := #[] }]
def about1 : State := aboutOver below0
def p0 : Program := .bare "" "" ""
def e0 : Env := launch0.env 0 0 0
theorem w_frames : about1.frames = Frame.invoking theMethod args0 :: below0 := rfl
set_option maxRecDepth 65536 in
theorem w_args : argsFit about1.vm theMethod args0 = true := by decide +kernel
set_option maxRecDepth 65536 in
theorem w_heap : heapFits about1 = true := by decide +kernel
set_option maxRecDepth 65536 in
theorem w_runnable : about1.curStatus? = some .runnable := by decide +kernel
set_option maxRecDepth 65536 in
theorem w_alone : about1.alone = true := by decide +kernel
set_option maxRecDepth 65536 in
theorem w_named : about1.methodNamed? x = some theMethod := by decide +kernel
set_option maxRecDepth 65536 in
theorem w_hears : about1.hears theMethod below0 = true := by decide +kernel
set_option maxRecDepth 65536 in
theorem w_ripe : about1.ripe theMethod args0 below0 = true := by decide +kernel
theorem w_running : about1.status = .running := rfl
set_option maxRecDepth 65536 in
theorem w_room : about1.hasRoom e0.platform room_1 = true :=
  launch0.hasRoom_least _ room_1 (by decide +kernel) (by decide +kernel) (by decide +kernel) (by decide +kernel) (by decide +kernel) (by decide +kernel)
theorem allAtoms_all (ts : List Jvm.Cond) (a : Array Jvm.Value) (st : Jvm.State) : (allAtoms ts).before a st = ts.all (fun c => c.before a st) := by
  induction ts with
  | nil => rfl
  | cons c t ih =>
    show (Jvm.Cond.and c (allAtoms t)).before a st = _
    rw [Jvm.Cond.before_and, ih, List.all_cons]
def words1 : List Jvm.Cond := Jvm.Cond.code x code maxLocals ret :: tables_1
/-- a 'code' word, met by the world's own term for the bytes: nothing is compared byte by byte -/
theorem code_word {y : MethodName} {bytes : ByteArray} {mx : Nat} {rt : Option FieldType} {a : Array Value} {s : State} {m : MethodId} {meth : Method} {c : Code} (h1 : s.methodNamed? y = some m) (h2 : s.vm.method? m = some meth) (h3 : meth.code = some c) (h4 : c.code = bytes)
    (h5 : (c.maxLocals == mx && c.exceptionTable.isEmpty && decide (c.maxStack ≤ mostOperands) && decide (meth.sig.returnType = rt) && !meth.locks && decide (parseMethodDescriptor y.desc = some meth.sig)) = true) : (Jvm.Cond.code y bytes mx rt).before a s = true := by
  simp only [Bool.and_eq_true, beq_iff_eq, Bool.not_eq_true', decide_eq_true_eq] at h5
  obtain ⟨⟨⟨⟨⟨g1, g2⟩, g3⟩, g4⟩, g5⟩, g6⟩ := h5
  simp [Cond.before, Cond.holds, Cond.value, h1, h2, h3, h4, g1, g2, g3, g4, g5, g6]
def isCode : Jvm.Cond → Bool
  | .code _ _ _ _ => true
  | _ => false
theorem all_split {L : List Jvm.Cond} {P : Jvm.Cond → Bool} (h1 : L.all (fun c => isCode c || P c) = true) (h2 : ∀ c ∈ L.filter isCode, P c = true) : L.all P = true := by
  refine List.all_eq_true.mpr fun c hc => ?_
  have h := List.all_eq_true.mp h1 c hc
  rcases Bool.eq_false_or_eq_true (isCode c) with hi | hi
  · exact h2 c (List.mem_filter.mpr ⟨hc, hi⟩)
  · simpa [hi] using h
set_option maxRecDepth 65536 in
theorem w_c0 : (Jvm.Cond.code x code maxLocals ret).before args0 about1 = true := code_word (m := ⟨1, 1⟩) (meth := k1m1) (c := k1c1) (by decide +kernel) rfl rfl rfl (by decide +kernel)
set_option maxRecDepth 65536 in
theorem w_c1 : (Jvm.Cond.code ({ cls := "com/example/invites_to_friends/invitestofriends/bench/Call", name := "<init>", desc := "(JJI[B)V" } : Jvm.MethodName) prog_5_method_1_code (7 : Nat) (Option.none : Option Jvm.ClassFile.FieldType)).before args0 about1 = true := code_word (m := ⟨3, 0⟩) (meth := k3m0) (c := k3c0) (by decide +kernel) rfl rfl rfl (by decide +kernel)
set_option maxRecDepth 65536 in
theorem w_c2 : (Jvm.Cond.code ({ cls := "java/lang/Record", name := "<init>", desc := "()V" } : Jvm.MethodName) jdk_30_method_1_code (1 : Nat) (Option.none : Option Jvm.ClassFile.FieldType)).before args0 about1 = true := code_word (m := ⟨2, 0⟩) (meth := k2m0) (c := k2c0) (by decide +kernel) rfl rfl rfl (by decide +kernel)
set_option maxRecDepth 65536 in
theorem w_c3 : (Jvm.Cond.code ({ cls := "java/lang/Object", name := "<init>", desc := "()V" } : Jvm.MethodName) object_method_1_code (1 : Nat) (Option.none : Option Jvm.ClassFile.FieldType)).before args0 about1 = true := code_word (m := ⟨0, 0⟩) (meth := k0m0) (c := k0c0) (by decide +kernel) rfl rfl rfl (by decide +kernel)
set_option maxRecDepth 65536 in
theorem w_c4 : (Jvm.Cond.code ({ cls := "com/example/invites_to_friends/invitestofriends/bench/Call", name := "overlaps", desc := "(Lcom/example/invites_to_friends/invitestofriends/bench/Call;)Z" } : Jvm.MethodName) prog_5_method_5_code (2 : Nat) (Option.some Jvm.ClassFile.FieldType.boolean)).before args0 about1 = true := code_word (m := ⟨3, 1⟩) (meth := k3m1) (c := k3c1) (by decide +kernel) rfl rfl rfl (by decide +kernel)
set_option maxRecDepth 65536 in
theorem w_c5 : (Jvm.Cond.code ({ cls := "java/lang/Math", name := "max", desc := "(JJ)J" } : Jvm.MethodName) jdk_29_method_66_code (4 : Nat) (Option.some Jvm.ClassFile.FieldType.long)).before args0 about1 = true := code_word (m := ⟨4, 1⟩) (meth := k4m1) (c := k4c1) (by decide +kernel) rfl rfl rfl (by decide +kernel)
set_option maxRecDepth 65536 in
theorem w_c6 : (Jvm.Cond.code ({ cls := "java/lang/Math", name := "min", desc := "(JJ)J" } : Jvm.MethodName) jdk_29_method_70_code (4 : Nat) (Option.some Jvm.ClassFile.FieldType.long)).before args0 about1 = true := code_word (m := ⟨4, 2⟩) (meth := k4m2) (c := k4c2) (by decide +kernel) rfl rfl rfl (by decide +kernel)
def codes1 : List Jvm.Cond := [Jvm.Cond.code x code maxLocals ret, Jvm.Cond.code ({ cls := "com/example/invites_to_friends/invitestofriends/bench/Call", name := "<init>", desc := "(JJI[B)V" } : Jvm.MethodName) prog_5_method_1_code (7 : Nat) (Option.none : Option Jvm.ClassFile.FieldType), Jvm.Cond.code ({ cls := "java/lang/Record", name := "<init>", desc := "()V" } : Jvm.MethodName) jdk_30_method_1_code (1 : Nat) (Option.none : Option Jvm.ClassFile.FieldType), Jvm.Cond.code ({ cls := "java/lang/Object", name := "<init>", desc := "()V" } : Jvm.MethodName) object_method_1_code (1 : Nat) (Option.none : Option Jvm.ClassFile.FieldType), Jvm.Cond.code ({ cls := "com/example/invites_to_friends/invitestofriends/bench/Call", name := "overlaps", desc := "(Lcom/example/invites_to_friends/invitestofriends/bench/Call;)Z" } : Jvm.MethodName) prog_5_method_5_code (2 : Nat) (Option.some Jvm.ClassFile.FieldType.boolean), Jvm.Cond.code ({ cls := "java/lang/Math", name := "max", desc := "(JJ)J" } : Jvm.MethodName) jdk_29_method_66_code (4 : Nat) (Option.some Jvm.ClassFile.FieldType.long), Jvm.Cond.code ({ cls := "java/lang/Math", name := "min", desc := "(JJ)J" } : Jvm.MethodName) jdk_29_method_70_code (4 : Nat) (Option.some Jvm.ClassFile.FieldType.long)]
set_option maxRecDepth 65536 in
theorem codes_eq : words1.filter isCode = codes1 := rfl
theorem w_codes : ∀ c ∈ words1.filter isCode, c.before args0 about1 = true := by
  rw [codes_eq]
  intro c hc
  simp only [codes1, List.mem_cons, List.not_mem_nil, or_false] at hc
  rcases hc with rfl | rfl | rfl | rfl | rfl | rfl | rfl
  · exact w_c0
  · exact w_c1
  · exact w_c2
  · exact w_c3
  · exact w_c4
  · exact w_c5
  · exact w_c6
set_option maxRecDepth 65536 in
theorem w_t1 : (words1.take 24).all (fun c => isCode c || c.before args0 about1) = true := by decide +kernel
set_option maxRecDepth 65536 in
theorem w_t2 : (words1.drop 24).all (fun c => isCode c || c.before args0 about1) = true := by decide +kernel
theorem w_tables : (allAtoms (Jvm.Cond.code x code maxLocals ret :: tables_1)).before args0 about1 = true := by
  rw [allAtoms_all]
  show words1.all (fun c => c.before args0 about1) = true
  refine all_split ?_ w_codes
  rw [← List.take_append_drop 24 words1, List.all_append, w_t1, w_t2]
  rfl
set_option maxRecDepth 65536 in
theorem w_case : (Jvm.Cond.and given_1 narrow_1).before args0 about1 = true := by decide +kernel
theorem w_applies : (headSpec (Jvm.Cond.code x code maxLocals ret :: tables_1) room_1).applies x e0.platform about1 = true :=
  (Spec.applies_iff w_frames).mpr ⟨w_running, w_runnable, w_alone, w_named, w_hears, w_ripe, w_room, w_tables⟩
theorem atStart : AtStart classFile x code maxLocals ret World_1 tables_1 room_1 Calls_1 rest_1 Pre_1 launch0 p0 e0 about1 theMethod args0 below0 :=
  ⟨lists_1, trivial, launch0.admits_env _ _ _, launch0.least_env, fairChoices_fair.cas, fairChoices_fair.clock, w_frames, w_args, w_heap, w_applies, trivial, trivial, w_case⟩
end start1
theorem witness_1 : WitnessClaimed_1 := ⟨start1.p0, start1.e0, start1.about1, start1.theMethod, start1.args0, start1.below0, start1.atStart⟩
end Jvm.Pilot.@@N@@
