import JvmDerived
import JvmDerived.Pilot.@@N@@Statement
import JvmDerived.Pilot.@@N@@Code
set_option linter.unusedVariables false
set_option linter.unusedSimpArgs false
namespace Jvm.Pilot.@@N@@
open Jvm Jvm.ClassFile Sem Op Lib Jvm.Free Jvm.Stand Jvm.LawKit Jvm.RoadKit Bundle Jvm.Pilot.@@N@@.Jvm.D
-- OWN KIT (mine): reach, finish, weakening of the counters, arrays by a function, arithmetic in omega's form
abbrev own_R (tb : Tables) (e : Env) (below : List Frame) (F0 F : State) : Prop := ∀ t, Steps tb e below F t → Steps tb e below F0 t
abbrev own_G (p : Program) (e : Env) (below : List Frame) (s F0 : State) (Q : Option Value → Heap → List Loc → Prop) (kc ks : Nat) : Prop :=
  ∃ s₂ o, Steps p.tables e below F0 s₂ ∧ s₂.status = .running ∧ Ended s₂ below o ∧ ∃ v L, o = .returned v ∧ Q v s₂.heap L ∧ FrameEnd s o s₂ L kc ks
section OwnKit
variable {p : Program} {l : Launch} {e : Env} {R : Room} {s : State} {m : MethodId} {args : Array Value} {below : List Frame} {meth : Method} {c : Code} {T : State} {locs : List Loc} {cells slots : Nat}
theorem own_fin (X : Stand p l e R s m args below meth c T locs cells slots) (hl : meth.locks = false) {F0 : State} {Q : Option Value → Heap → List Loc → Prop} {kc ks : Nat} (v : Option Value) (hv : meth.sig.returnType = none → v = none) (hq : Q v T.heap locs) (hc : cells ≤ kc) (hs : slots ≤ ks)
    (st : ∀ fs, (∀ (f : JFrame) (acts : List Action), f.method = m → f.locked = none → f.entered = [] → (doReturn e (T.setTop f) acts v).1 = T.setFrames fs) → Steps p.tables e below F0 (T.setFrames fs)) : own_G p e below s F0 Q kc ks := by
  obtain ⟨fs, hr, hrun, hended, hW, hsame⟩ := X.leave hv hl
  exact ⟨_, _, st fs hr, hrun, hended, _, _, rfl, hq, ⟨_, rfl⟩, hW, hsame.mono hc hs⟩
theorem own_mono (X : Stand p l e R s m args below meth c T locs cells slots) {c' s' : Nat} (hc : cells ≤ c') (hs : slots ≤ s') : Stand p l e R s m args below meth c T locs c' s' := { X with same := X.same.mono hc hs }
end OwnKit
theorem own_hv {meth : Method} {t : FieldType} {v : Option Value} (h : meth.sig.returnType = some t) : meth.sig.returnType = none → v = none := fun q => by rw [h] at q; cases q
theorem own_lt32 {a b : Int32} (h : a < b) : a.toInt < b.toInt := Int32.lt_iff_toInt_lt.mp h
theorem own_nlt32 {a b : Int32} (h : ¬ a < b) : b.toInt ≤ a.toInt := Int.not_lt.mp fun q => h (Int32.lt_iff_toInt_lt.mpr q)
theorem own_eq32 {a b : Int32} (h : a = b) : a.toInt = b.toInt := congrArg Int32.toInt h
theorem own_ne32 {a b : Int32} (h : ¬ a = b) : a.toInt ≠ b.toInt := fun q => h (Int32.toInt_inj.mp q)
theorem own_lt64 {a b : Int64} (h : a < b) : a.toInt < b.toInt := Int64.lt_iff_toInt_lt.mp h
theorem own_nlt64 {a b : Int64} (h : ¬ a < b) : b.toInt ≤ a.toInt := Int.not_lt.mp fun q => h (Int64.lt_iff_toInt_lt.mpr q)
theorem own_eq64 {a b : Int64} (h : a = b) : a.toInt = b.toInt := congrArg Int64.toInt h
theorem own_ne64 {a b : Int64} (h : ¬ a = b) : a.toInt ≠ b.toInt := fun q => h (Int64.toInt_inj.mp q)
theorem own_imulc (x y : Int32) (d : Int) (h : y.toInt = d) : ((x * y).toInt - x.toInt * d) % 4294967296 = 0 := by rw [← h]; exact c_imul x y
theorem own_imulc' (x y : Int32) (d : Int) (h : x.toInt = d) : ((x * y).toInt - d * y.toInt) % 4294967296 = 0 := by rw [← h]; exact c_imul x y
theorem own_lmulc (x y : Int64) (d : Int) (h : y.toInt = d) : ((x * y).toInt - x.toInt * d) % 18446744073709551616 = 0 := by rw [← h]; exact c_lmul x y
theorem own_lmulc' (x y : Int64) (d : Int) (h : x.toInt = d) : ((x * y).toInt - d * y.toInt) % 18446744073709551616 = 0 := by rw [← h]; exact c_lmul x y
theorem own_mask (x m : Int32) (k : Nat) (P : Int) (hk : k ≤ 31) (hm : m.toBitVec.toNat = 2 ^ k - 1) (hP : P = ((2 ^ k : Nat) : Int)) : (x &&& m).toInt = x.toInt % P := by rw [hP]; exact c_mask x m k hk hm
theorem own_maskL (x m : Int64) (k : Nat) (P : Int) (hk : k ≤ 63) (hm : m.toBitVec.toNat = 2 ^ k - 1) (hP : P = ((2 ^ k : Nat) : Int)) : (x &&& m).toInt = x.toInt % P := by rw [hP]; exact c_maskL x m k hk hm
theorem own_ishr (x q : Int32) (k : Nat) (P : Int) (hk : q.toBitVec.toNat % 32 = k) (hP : P = ((2 ^ k : Nat) : Int)) : (x >>> (q &&& 31)).toInt = x.toInt / P := by rw [hP]; exact c_ishr x q k hk
theorem own_ishl (x q : Int32) (k : Nat) (P : Int) (hk : q.toBitVec.toNat % 32 = k) (hP : P = ((2 ^ k : Nat) : Int)) : ((x <<< (q &&& 31)).toInt - x.toInt * P) % 4294967296 = 0 := by rw [hP]; exact c_ishl x q k hk
theorem own_iushr (x q : Int32) (k : Nat) (P : Int) (hk : q.toBitVec.toNat % 32 = k) (h0 : 0 < k) (hP : P = ((2 ^ k : Nat) : Int)) : ((x.toUInt32 >>> (q &&& 31).toUInt32).toInt32).toInt = (x.toInt % 4294967296) / P := by rw [hP]; exact c_iushr x q k hk h0
theorem own_lshr (x : Int64) (q : Int32) (k : Nat) (P : Int) (hk : q.toBitVec.toNat % 64 = k) (hP : P = ((2 ^ k : Nat) : Int)) : (x >>> (q &&& 0x3f).toInt64).toInt = x.toInt / P := by rw [hP]; exact c_lshr x q k hk
theorem own_lshl (x : Int64) (q : Int32) (k : Nat) (P : Int) (hk : q.toBitVec.toNat % 64 = k) (hP : P = ((2 ^ k : Nat) : Int)) : ((x <<< (q &&& 0x3f).toInt64).toInt - x.toInt * P) % 18446744073709551616 = 0 := by rw [hP]; exact c_lshl x q k hk
theorem own_lushr (x : Int64) (q : Int32) (k : Nat) (P : Int) (hk : q.toBitVec.toNat % 64 = k) (h0 : 0 < k) (hP : P = ((2 ^ k : Nat) : Int)) : ((x.toUInt64 >>> (q &&& 0x3f).toInt64.toUInt64).toInt64).toInt = (x.toInt % 18446744073709551616) / P := by rw [hP]; exact c_lushr x q k hk h0
theorem own_lc_lt {x y : Int64} {cd : ClassFile.Cond} {b : Bool} (h : if_icmp.holds cd (lcmpW x y) 0 = b) : ifCond.holds cd (lcmpW x y) = b := (if0 _ _).trans h
theorem own_l_lt {x y : Int64} (h : x < y) : ifCond.holds .lt (lcmpW x y) = true ∧ ifCond.holds .ge (lcmpW x y) = false := ⟨(if0 _ _).trans (tlt ((lw_lt x y).mpr h)).1, (if0 _ _).trans (tlt ((lw_lt x y).mpr h)).2.1⟩
theorem own_l_nlt {x y : Int64} (h : ¬ x < y) : ifCond.holds .lt (lcmpW x y) = false ∧ ifCond.holds .ge (lcmpW x y) = true := ⟨(if0 _ _).trans (flt (fun q => h ((lw_lt x y).mp q))).1, (if0 _ _).trans (flt (fun q => h ((lw_lt x y).mp q))).2.1⟩
theorem own_l_gt {x y : Int64} (h : y < x) : ifCond.holds .gt (lcmpW x y) = true ∧ ifCond.holds .le (lcmpW x y) = false := ⟨(if0 _ _).trans (tlt ((lw_gt x y).mpr h)).2.2.1, (if0 _ _).trans (tlt ((lw_gt x y).mpr h)).2.2.2⟩
theorem own_l_ngt {x y : Int64} (h : ¬ y < x) : ifCond.holds .gt (lcmpW x y) = false ∧ ifCond.holds .le (lcmpW x y) = true := ⟨(if0 _ _).trans (flt (fun q => h ((lw_gt x y).mp q))).2.2.1, (if0 _ _).trans (flt (fun q => h ((lw_gt x y).mp q))).2.2.2⟩
theorem own_l_eq {x y : Int64} (h : x = y) : ifCond.holds .eq (lcmpW x y) = true ∧ ifCond.holds .ne (lcmpW x y) = false := ⟨(if0 _ _).trans (teq ((lw_eq x y).mpr h)).1, (if0 _ _).trans (teq ((lw_eq x y).mpr h)).2⟩
theorem own_l_neq {x y : Int64} (h : ¬ x = y) : ifCond.holds .eq (lcmpW x y) = false ∧ ifCond.holds .ne (lcmpW x y) = true := ⟨(if0 _ _).trans (feq (fun q => h ((lw_eq x y).mp q))).1, (if0 _ _).trans (feq (fun q => h ((lw_eq x y).mp q))).2⟩
theorem own_lrem {x y : Int64} {d : Int} (hy : y.toInt = d) : (0 ≤ x.toInt → (x - (x / y) * y).toInt = x.toInt % d) ∧ (x.toInt < 0 → (x - (x / y) * y).toInt = -((-x.toInt) % d)) := c_lrem x y d hy
theorem own_lremf (x y : Int64) (d : Int) (hy : y.toInt = d) : (0 ≤ x.toInt → (x % y).toInt = x.toInt % d) ∧ (x.toInt < 0 → (x % y).toInt = -((-x.toInt) % d)) := by rw [Int64.toInt_mod, hy]; exact tr _ _
theorem own_lremM {p : Program} {l : Launch} {e : Env} {R : Room} {s : State} {m : MethodId} {args : Array Value} {below : List Frame} {meth : Method} {c : Code} {T : State} {locs : List Loc} {cells slots : Nat} {g : JFrame} {target : State} (X : Stand p l e R s m args below meth c T locs cells slots) (hx : p.tables.exec = Jvm.exec) (hg : g.method = m) {x y : Int64} {rest : List Value} (hd : decode c.code g.pc = .ok (.lrem, 1)) (hs : g.stack = .long y :: .long x :: rest) (hy : y ≠ 0)
    (hr : Steps p.tables e below (T.setTop { g with pc := g.pc + 1, stack := .long (x % y) :: rest }) target) : Steps p.tables e below (T.setTop g) target :=
  XS.lrem X.here hx hg hd hs hy (by rw [lrem_mod]; exact hr)
theorem own_R32 (x : Int32) : -2147483648 ≤ x.toInt ∧ x.toInt ≤ 2147483647 := by have := rng32 x; omega
theorem own_R64 (x : Int64) : -9223372036854775808 ≤ x.toInt ∧ x.toInt ≤ 9223372036854775807 := by have := rng64 x; omega
theorem own_iaddR {x y : Int32} {a b c d : Int} (lo hi : Int) (hx : a ≤ x.toInt ∧ x.toInt ≤ b) (hy : c ≤ y.toInt ∧ y.toInt ≤ d) (h1 : -2147483648 ≤ a + c ∧ b + d ≤ 2147483647) (h2 : lo ≤ a + c ∧ b + d ≤ hi) : (x + y).toInt = x.toInt + y.toInt ∧ lo ≤ (x + y).toInt ∧ (x + y).toInt ≤ hi := by have := c_iadd x y; have := rng32 (x + y); omega
theorem own_isubR {x y : Int32} {a b c d : Int} (lo hi : Int) (hx : a ≤ x.toInt ∧ x.toInt ≤ b) (hy : c ≤ y.toInt ∧ y.toInt ≤ d) (h1 : -2147483648 ≤ a - d ∧ b - c ≤ 2147483647) (h2 : lo ≤ a - d ∧ b - c ≤ hi) : (x - y).toInt = x.toInt - y.toInt ∧ lo ≤ (x - y).toInt ∧ (x - y).toInt ≤ hi := by have := c_isub x y; have := rng32 (x - y); omega
theorem own_laddR {x y : Int64} {a b c d : Int} (lo hi : Int) (hx : a ≤ x.toInt ∧ x.toInt ≤ b) (hy : c ≤ y.toInt ∧ y.toInt ≤ d) (h1 : -9223372036854775808 ≤ a + c ∧ b + d ≤ 9223372036854775807) (h2 : lo ≤ a + c ∧ b + d ≤ hi) : (x + y).toInt = x.toInt + y.toInt ∧ lo ≤ (x + y).toInt ∧ (x + y).toInt ≤ hi := by have := c_ladd x y; have := rng64 (x + y); omega
theorem own_lsubR {x y : Int64} {a b c d : Int} (lo hi : Int) (hx : a ≤ x.toInt ∧ x.toInt ≤ b) (hy : c ≤ y.toInt ∧ y.toInt ≤ d) (h1 : -9223372036854775808 ≤ a - d ∧ b - c ≤ 9223372036854775807) (h2 : lo ≤ a - d ∧ b - c ≤ hi) : (x - y).toInt = x.toInt - y.toInt ∧ lo ≤ (x - y).toInt ∧ (x - y).toInt ≤ hi := by have := c_lsub x y; have := rng64 (x - y); omega
theorem own_imulR {x y : Int32} {a b k : Int} (lo hi : Int) (hx : a ≤ x.toInt ∧ x.toInt ≤ b) (hy : y.toInt = k) (hk : 0 ≤ k) (h1 : -2147483648 ≤ a * k ∧ b * k ≤ 2147483647) (h2 : lo ≤ a * k ∧ b * k ≤ hi) : (x * y).toInt = x.toInt * k ∧ lo ≤ (x * y).toInt ∧ (x * y).toInt ≤ hi := by
  have h := c_imul x y; have := rng32 (x * y); rw [hy] at h
  have p1 := Int.mul_le_mul_of_nonneg_right hx.1 hk; have p2 := Int.mul_le_mul_of_nonneg_right hx.2 hk
  generalize x.toInt * k = z at *; generalize a * k = z1 at *; generalize b * k = z2 at *; omega
theorem own_lmulR {x y : Int64} {a b k : Int} (lo hi : Int) (hx : a ≤ x.toInt ∧ x.toInt ≤ b) (hy : y.toInt = k) (hk : 0 ≤ k) (h1 : -9223372036854775808 ≤ a * k ∧ b * k ≤ 9223372036854775807) (h2 : lo ≤ a * k ∧ b * k ≤ hi) : (x * y).toInt = x.toInt * k ∧ lo ≤ (x * y).toInt ∧ (x * y).toInt ≤ hi := by
  have h := c_lmul x y; have := rng64 (x * y); rw [hy] at h
  have p1 := Int.mul_le_mul_of_nonneg_right hx.1 hk; have p2 := Int.mul_le_mul_of_nonneg_right hx.2 hk
  generalize x.toInt * k = z at *; generalize a * k = z1 at *; generalize b * k = z2 at *; omega
theorem own_imulR' {x y : Int32} {a b k : Int} (lo hi : Int) (hx : a ≤ y.toInt ∧ y.toInt ≤ b) (hy : x.toInt = k) (hk : 0 ≤ k) (h1 : -2147483648 ≤ a * k ∧ b * k ≤ 2147483647) (h2 : lo ≤ a * k ∧ b * k ≤ hi) : (x * y).toInt = y.toInt * k ∧ lo ≤ (x * y).toInt ∧ (x * y).toInt ≤ hi := by rw [Int32.mul_comm]; exact own_imulR lo hi hx hy hk h1 h2
theorem own_lmulR' {x y : Int64} {a b k : Int} (lo hi : Int) (hx : a ≤ y.toInt ∧ y.toInt ≤ b) (hy : x.toInt = k) (hk : 0 ≤ k) (h1 : -9223372036854775808 ≤ a * k ∧ b * k ≤ 9223372036854775807) (h2 : lo ≤ a * k ∧ b * k ≤ hi) : (x * y).toInt = y.toInt * k ∧ lo ≤ (x * y).toInt ∧ (x * y).toInt ≤ hi := by rw [Int64.mul_comm]; exact own_lmulR lo hi hx hy hk h1 h2
theorem own_maskR (x m : Int32) (k : Nat) (P : Int) (hk : k ≤ 31) (hm : m.toBitVec.toNat = 2 ^ k - 1) (hP : P = ((2 ^ k : Nat) : Int)) (hi : Int) (h0 : 0 < P) (h : P ≤ hi + 1) : (x &&& m).toInt = x.toInt % P ∧ 0 ≤ (x &&& m).toInt ∧ (x &&& m).toInt ≤ hi := by
  have e := own_mask x m k P hk hm hP; have h1 := Int.emod_nonneg x.toInt (show P ≠ 0 by omega); have h2 := Int.emod_lt_of_pos x.toInt h0; omega
theorem own_maskLR (x m : Int64) (k : Nat) (P : Int) (hk : k ≤ 63) (hm : m.toBitVec.toNat = 2 ^ k - 1) (hP : P = ((2 ^ k : Nat) : Int)) (hi : Int) (h0 : 0 < P) (h : P ≤ hi + 1) : (x &&& m).toInt = x.toInt % P ∧ 0 ≤ (x &&& m).toInt ∧ (x &&& m).toInt ≤ hi := by
  have e := own_maskL x m k P hk hm hP; have h1 := Int.emod_nonneg x.toInt (show P ≠ 0 by omega); have h2 := Int.emod_lt_of_pos x.toInt h0; omega
theorem own_iremR {x y : Int32} {a b d : Int} (hi : Int) (hx : a ≤ x.toInt ∧ x.toInt ≤ b) (hy : y.toInt = d) (ha : 0 ≤ a) (hd : 0 < d) (h : d ≤ hi + 1) : (x % y).toInt = x.toInt % d ∧ 0 ≤ (x % y).toInt ∧ (x % y).toInt ≤ hi := by
  have e := (c_irem x y d hy).1 (by omega); have h1 := Int.emod_nonneg x.toInt (show d ≠ 0 by omega); have h2 := Int.emod_lt_of_pos x.toInt hd; omega
theorem own_lremR {x y : Int64} {a b d : Int} (hi : Int) (hx : a ≤ x.toInt ∧ x.toInt ≤ b) (hy : y.toInt = d) (ha : 0 ≤ a) (hd : 0 < d) (h : d ≤ hi + 1) : (x % y).toInt = x.toInt % d ∧ 0 ≤ (x % y).toInt ∧ (x % y).toInt ≤ hi := by
  have e := (own_lremf x y d hy).1 (by omega); have h1 := Int.emod_nonneg x.toInt (show d ≠ 0 by omega); have h2 := Int.emod_lt_of_pos x.toInt hd; omega
theorem own_idivR {x y : Int32} {a b d : Int} (lo hi : Int) (hx : a ≤ x.toInt ∧ x.toInt ≤ b) (hy : y.toInt = d) (hy1 : y ≠ -1) (ha : 0 ≤ a) (hd : 0 < d) (h : lo ≤ a / d ∧ b / d ≤ hi) : (x / y).toInt = x.toInt / d ∧ lo ≤ (x / y).toInt ∧ (x / y).toInt ≤ hi := by
  have e := (c_idiv x y d hy hy1).1 (by omega); have h1 := Int.ediv_le_ediv hd hx.1; have h2 := Int.ediv_le_ediv hd hx.2; omega
theorem own_ldivR {x y : Int64} {a b d : Int} (lo hi : Int) (hx : a ≤ x.toInt ∧ x.toInt ≤ b) (hy : y.toInt = d) (hy1 : y ≠ -1) (ha : 0 ≤ a) (hd : 0 < d) (h : lo ≤ a / d ∧ b / d ≤ hi) : (x / y).toInt = x.toInt / d ∧ lo ≤ (x / y).toInt ∧ (x / y).toInt ≤ hi := by
  have e := (c_ldiv x y d hy hy1).1 (by omega); have h1 := Int.ediv_le_ediv hd hx.1; have h2 := Int.ediv_le_ediv hd hx.2; omega
theorem own_l2iR {x : Int64} {a b : Int} (hx : a ≤ x.toInt ∧ x.toInt ≤ b) (h1 : -2147483648 ≤ a ∧ b ≤ 2147483647) : x.toInt32.toInt = x.toInt ∧ a ≤ x.toInt32.toInt ∧ x.toInt32.toInt ≤ b := by have := c_l2i x; have := rng32 x.toInt32; omega
theorem own_i2lR {x : Int32} {a b : Int} (hx : a ≤ x.toInt ∧ x.toInt ≤ b) : x.toInt64.toInt = x.toInt ∧ a ≤ x.toInt64.toInt ∧ x.toInt64.toInt ≤ b := by have := c_i2l x; omega
theorem own_eqR32 {x y : Int32} {a b : Int} (h : x = y) (hy : a ≤ y.toInt ∧ y.toInt ≤ b) : x.toInt = y.toInt ∧ a ≤ x.toInt ∧ x.toInt ≤ b := by subst h; exact ⟨rfl, hy⟩
theorem own_eqR64 {x y : Int64} {a b : Int} (h : x = y) (hy : a ≤ y.toInt ∧ y.toInt ≤ b) : x.toInt = y.toInt ∧ a ≤ x.toInt ∧ x.toInt ≤ b := by subst h; exact ⟨rfl, hy⟩
theorem own_lushrR {x : Int64} {a b : Int} (q : Int32) (k : Nat) (P lo hi : Int) (hx : a ≤ x.toInt ∧ x.toInt ≤ b) (ha : 0 ≤ a) (hk : q.toBitVec.toNat % 64 = k) (h0 : 0 < k) (hP : P = ((2 ^ k : Nat) : Int)) (hPp : 0 < P) (h : lo ≤ a / P ∧ b / P ≤ hi) : ((x.toUInt64 >>> (q &&& 0x3f).toInt64.toUInt64).toInt64).toInt = x.toInt / P ∧ lo ≤ ((x.toUInt64 >>> (q &&& 0x3f).toInt64.toUInt64).toInt64).toInt ∧ ((x.toUInt64 >>> (q &&& 0x3f).toInt64.toUInt64).toInt64).toInt ≤ hi := by
  have e := own_lushr x q k P hk h0 hP; have := rng64 x; rw [Int.emod_eq_of_lt (by omega) (by omega)] at e; have h1 := Int.ediv_le_ediv hPp hx.1; have h2 := Int.ediv_le_ediv hPp hx.2; omega
theorem own_iushrR {x : Int32} {a b : Int} (q : Int32) (k : Nat) (P lo hi : Int) (hx : a ≤ x.toInt ∧ x.toInt ≤ b) (ha : 0 ≤ a) (hk : q.toBitVec.toNat % 32 = k) (h0 : 0 < k) (hP : P = ((2 ^ k : Nat) : Int)) (hPp : 0 < P) (h : lo ≤ a / P ∧ b / P ≤ hi) : ((x.toUInt32 >>> (q &&& 31).toUInt32).toInt32).toInt = x.toInt / P ∧ lo ≤ ((x.toUInt32 >>> (q &&& 31).toUInt32).toInt32).toInt ∧ ((x.toUInt32 >>> (q &&& 31).toUInt32).toInt32).toInt ≤ hi := by
  have e := own_iushr x q k P hk h0 hP; have := rng32 x; rw [Int.emod_eq_of_lt (by omega) (by omega)] at e; have h1 := Int.ediv_le_ediv hPp hx.1; have h2 := Int.ediv_le_ediv hPp hx.2; omega
-- OWN KIT 1 (mine): an array by a function of its places
def own_Arf (Z : State) (h : Heap) (a : Addr) (ty : FieldType) (n : Nat) (f : Nat → Value) : Prop := ∃ c : Cell, Arr Z h a c ty ∧ c.slots.size = n ∧ n < 2 ^ 31 ∧ ∀ j, j < n → c.slots[j]? = some (f j)
section OwnArf
variable {Z : State} {h h' : Heap} {a b : Addr} {ty : FieldType} {n : Nat} {f f' : Nat → Value} {sl : Nat} {v : Value} {ws : List Addr}
theorem own_Arf.lt (F : own_Arf Z h a ty n f) : a < h.size := by obtain ⟨c, A, -⟩ := F; exact A.lt
theorem own_Arf.ext (F : own_Arf Z h a ty n f) (E : Ext h h') : own_Arf Z h' a ty n f := by obtain ⟨c, A, r⟩ := F; exact ⟨c, A.ext E, r⟩
theorem own_Arf.other (F : own_Arf Z h b ty n f) (W : Wr h h' a sl v) (q : b ≠ a) : own_Arf Z h' b ty n f := by obtain ⟨c, A, r⟩ := F; exact ⟨c, A.other W q, r⟩
theorem own_Arf.keep (F : own_Arf Z h a ty n f) (K : Keep h h' ws) (q : a ∉ ws) : own_Arf Z h' a ty n f := by obtain ⟨c, A, r⟩ := F; exact ⟨c, ⟨K.2.1 a c A.1 q, A.2⟩, r⟩
theorem own_Arf.cong (F : own_Arf Z h a ty n f) (q : ∀ j, j < n → f j = f' j) : own_Arf Z h a ty n f' := by obtain ⟨c, A, r1, r2, r3⟩ := F; exact ⟨c, A, r1, r2, fun j hj => (q j hj) ▸ r3 j hj⟩
theorem own_Arf.new {k : ClassId} {z : Int32} (A : Arr Z h a (newA k ty z) ty) (q : ¬ z < 0) : own_Arf Z h a ty z.toNatClampNeg (fun _ => defaultValue ty) :=
  ⟨_, A, sz_new _ _ _, (back32 q).2, fun j hj => by simp [newA, hj]⟩
theorem own_inb {j : Int32} {n : Nat} (h1 : 0 ≤ j.toInt) (h2 : j.toInt < n) : ¬ (j < 0 ∨ n ≤ j.toNatClampNeg) := by
  have q : j.toNatClampNeg = j.toInt.toNat := rfl
  rintro (p | p)
  · have := Int32.lt_iff_toInt_lt.mp p; rw [show (0 : Int32).toInt = 0 from rfl] at this; omega
  · rw [q] at p; omega
theorem own_set {c : Cell} {k : Nat} (A : Arr Z h a c ty) (S : c.slots.size = n) (hn : n < 2 ^ 31) (H : ∀ j, j < n → c.slots[j]? = some (f j)) (W : Wr h h' a k v) (hk : k < n) : own_Arf Z h' a ty n (fun i => if i = k then v else f i) := by
  refine ⟨_, A.same W, by rw [sz_set]; exact S, hn, fun j hj => ?_⟩
  by_cases q : j = k
  · subst q; simp [Cell.setSlot, S, hj]
  · show _ = some (if j = k then v else f j)
    rw [if_neg q, ← H j hj]; exact Array.getElem?_setIfInBounds_ne (Ne.symm q)
variable {p : Program} {l : Launch} {e : Env} {R : Room} {s : State} {m : MethodId} {args : Array Value} {below : List Frame} {meth : Method} {c : Code} {T : State} {locs : List Loc} {cells slots : Nat}
theorem own_ld {A : Prop} {j : Int32} (F : own_Arf Z h a ty n f) (h1 : 0 ≤ j.toInt) (h2 : j.toInt < n) (k : ∀ c : Cell, Arr Z h a c ty → ¬ (j < 0 ∨ c.slots.size ≤ j.toNatClampNeg) → c.slots[j.toNatClampNeg]? = some (f j.toNatClampNeg) → A) : A := by
  obtain ⟨c, Ar, S, hn, H⟩ := F
  exact k c Ar (by rw [S]; exact own_inb h1 h2) (H _ (by have q : j.toNatClampNeg = j.toInt.toNat := rfl; omega))
theorem own_iaload (X : Stand p l e R s m args below meth c T locs cells slots) (hx : p.tables.exec = Jvm.exec) (hZ : Z.Warmed39 s.vm) (eT : T.heap = h) {j : Int32} (F : own_Arf Z h a .int n f) (h1 : 0 ≤ j.toInt) (h2 : j.toInt < n) {w : Value} (hv : f j.toNatClampNeg = w) {g : JFrame} (hg : g.method = m) {rest : List Value} (hs : g.stack = .int j :: .ref a :: rest) (hd : decode c.code g.pc = .ok (.iaload, 1)) :
    ∀ target, Steps p.tables e below (T.setTop { g with pc := g.pc + 1, stack := w :: rest }) target → Steps p.tables e below (T.setTop g) target := by
  subst hv
  exact own_ld F h1 h2 fun cl Ar hin hat => X.iaload hx (j := j) (by rw [eT]; exact Ar.1) (State.isArrayOf_alike hZ.alike Ar.2.1) Ar.2.2 hin hat hg hs hd
theorem own_baloadB (X : Stand p l e R s m args below meth c T locs cells slots) (hx : p.tables.exec = Jvm.exec) (hZ : Z.Warmed39 s.vm) (eT : T.heap = h) {j : Int32} (F : own_Arf Z h a .byte n f) (h1 : 0 ≤ j.toInt) (h2 : j.toInt < n) {w : Value} (hv : f j.toNatClampNeg = w) {g : JFrame} (hg : g.method = m) {rest : List Value} (hs : g.stack = .int j :: .ref a :: rest) (hd : decode c.code g.pc = .ok (.baload, 1)) :
    ∀ target, Steps p.tables e below (T.setTop { g with pc := g.pc + 1, stack := w :: rest }) target → Steps p.tables e below (T.setTop g) target := by
  subst hv
  exact own_ld F h1 h2 fun cl Ar hin hat => X.baloadBytes hx (j := j) (by rw [eT]; exact Ar.1) (State.isArrayOf_alike hZ.alike Ar.2.1) Ar.2.2 hin hat hg hs hd
theorem own_baloadZ (X : Stand p l e R s m args below meth c T locs cells slots) (hx : p.tables.exec = Jvm.exec) (hZ : Z.Warmed39 s.vm) (eT : T.heap = h) {j : Int32} (F : own_Arf Z h a .boolean n f) (h1 : 0 ≤ j.toInt) (h2 : j.toInt < n) {w : Value} (hv : f j.toNatClampNeg = w) {g : JFrame} (hg : g.method = m) {rest : List Value} (hs : g.stack = .int j :: .ref a :: rest) (hd : decode c.code g.pc = .ok (.baload, 1)) :
    ∀ target, Steps p.tables e below (T.setTop { g with pc := g.pc + 1, stack := w :: rest }) target → Steps p.tables e below (T.setTop g) target := by
  subst hv
  exact own_ld F h1 h2 fun cl Ar hin hat => X.baloadBooleans hx (j := j) (by rw [eT]; exact Ar.1) (State.isArrayOf_alike hZ.alike Ar.2.1) Ar.2.2 hin hat hg hs hd
theorem own_len32 {c : Cell} {n : Nat} (S : c.slots.size = n) {z : Int32} (hz : z = Int32.ofNat n) : c.slots.size.toInt32 = z := by rw [S, hz]
theorem own_alen (X : Stand p l e R s m args below meth c T locs cells slots) (hx : p.tables.exec = Jvm.exec) (hZ : Z.Warmed39 s.vm) (eT : T.heap = h) (F : own_Arf Z h a ty n f) (z : Int32) (hz : z = Int32.ofNat n) {g : JFrame} (hg : g.method = m) {rest : List Value} (hs : g.stack = .ref a :: rest) (hd : decode c.code g.pc = .ok (.arraylength, 1)) :
    ∀ target, Steps p.tables e below (T.setTop { g with pc := g.pc + 1, stack := .int z :: rest }) target → Steps p.tables e below (T.setTop g) target := by
  obtain ⟨cl, Ar, S, hn, H⟩ := F
  intro t k
  refine X.arraylength hx (cell := cl) (by rw [eT]; exact Ar.1) (State.isArrayOf_alike hZ.alike Ar.2.1) hg hs hd t ?_
  rw [own_len32 S hz]; exact k
theorem own_stI (X : Stand p l e R s m args below meth c T locs cells slots) (hx : p.tables.exec = Jvm.exec) (hZ : Z.Warmed39 s.vm) (eT : T.heap = h) {j x : Int32} (F : own_Arf Z h a .int n f) (h1 : 0 ≤ j.toInt) (h2 : j.toInt < n) {g : JFrame} (hg : g.method = m) {rest : List Value} (hs : g.stack = .int x :: .int j :: .ref a :: rest) (hd : decode c.code g.pc = .ok (.iastore, 1)) :
    ∃ T' h', Stand p l e R s m args below meth c T' (locs ++ [⟨a, j.toNatClampNeg⟩]) cells slots ∧ T'.heap = h' ∧ Wr h h' a j.toNatClampNeg (.int x) ∧ own_Arf Z h' a .int n (fun i => if i = j.toNatClampNeg then .int x else f i) ∧ ∀ target, Steps p.tables e below (T'.setTop { g with pc := g.pc + 1, stack := rest }) target → Steps p.tables e below (T.setTop g) target := by
  obtain ⟨cl, Ar, S, hn, H⟩ := F
  have hin : ¬ (j < 0 ∨ cl.slots.size ≤ j.toNatClampNeg) := by rw [S]; exact own_inb h1 h2
  obtain ⟨T', h', X', e', W, st⟩ := stI X hx hZ eT Ar (j := j) hin hg hs hd
  exact ⟨T', h', X', e', W, own_set Ar S hn H W (by have q : j.toNatClampNeg = j.toInt.toNat := rfl; omega), st⟩
theorem own_stB (X : Stand p l e R s m args below meth c T locs cells slots) (hx : p.tables.exec = Jvm.exec) (hZ : Z.Warmed39 s.vm) (eT : T.heap = h) {j x : Int32} (F : own_Arf Z h a .byte n f) (h1 : 0 ≤ j.toInt) (h2 : j.toInt < n) {g : JFrame} (hg : g.method = m) {rest : List Value} (hs : g.stack = .int x :: .int j :: .ref a :: rest) (hd : decode c.code g.pc = .ok (.bastore, 1)) :
    ∃ T' h', Stand p l e R s m args below meth c T' (locs ++ [⟨a, j.toNatClampNeg⟩]) cells slots ∧ T'.heap = h' ∧ Wr h h' a j.toNatClampNeg (.int (nar .byte x)) ∧ own_Arf Z h' a .byte n (fun i => if i = j.toNatClampNeg then .int (nar .byte x) else f i) ∧ ∀ target, Steps p.tables e below (T'.setTop { g with pc := g.pc + 1, stack := rest }) target → Steps p.tables e below (T.setTop g) target := by
  obtain ⟨cl, Ar, S, hn, H⟩ := F
  have hin : ¬ (j < 0 ∨ cl.slots.size ≤ j.toNatClampNeg) := by rw [S]; exact own_inb h1 h2
  obtain ⟨T', h', X', e', W, st⟩ := stB X hx hZ eT Ar (j := j) hin hg hs hd
  exact ⟨T', h', X', e', W, own_set Ar S hn H W (by have q : j.toNatClampNeg = j.toInt.toNat := rfl; omega), st⟩
theorem own_stZ (X : Stand p l e R s m args below meth c T locs cells slots) (hx : p.tables.exec = Jvm.exec) (hZ : Z.Warmed39 s.vm) (eT : T.heap = h) {j x : Int32} (F : own_Arf Z h a .boolean n f) (h1 : 0 ≤ j.toInt) (h2 : j.toInt < n) {g : JFrame} (hg : g.method = m) {rest : List Value} (hs : g.stack = .int x :: .int j :: .ref a :: rest) (hd : decode c.code g.pc = .ok (.bastore, 1)) :
    ∃ T' h', Stand p l e R s m args below meth c T' (locs ++ [⟨a, j.toNatClampNeg⟩]) cells slots ∧ T'.heap = h' ∧ Wr h h' a j.toNatClampNeg (.int (nar .boolean x)) ∧ own_Arf Z h' a .boolean n (fun i => if i = j.toNatClampNeg then .int (nar .boolean x) else f i) ∧ ∀ target, Steps p.tables e below (T'.setTop { g with pc := g.pc + 1, stack := rest }) target → Steps p.tables e below (T.setTop g) target := by
  obtain ⟨cl, Ar, S, hn, H⟩ := F
  have hin : ¬ (j < 0 ∨ cl.slots.size ≤ j.toNatClampNeg) := by rw [S]; exact own_inb h1 h2
  obtain ⟨T', h', X', e', W, st⟩ := stZ X hx hZ eT Ar (j := j) hin hg hs hd
  exact ⟨T', h', X', e', W, own_set Ar S hn H W (by have q : j.toNatClampNeg = j.toInt.toNat := rfl; omega), st⟩
end OwnArf
theorem own_clamp {i : Int32} {k : Nat} (h : i.toInt = k) : i.toNatClampNeg = k := by show i.toInt.toNat = k; omega
theorem own_tabArf {s : State} {a : Addr} {cl : Cell} {ty : FieldType} {n : Nat} (hf : Fit s) (A : Arr s s.heap a cl ty) (ht : ty = .int ∨ ty = .boolean ∨ ty = .byte ∨ ty = .char ∨ ty = .short) (S : cl.slots.size = n) (hn : n < 2 ^ 31) : ∃ g : Nat → Int32, own_Arf s s.heap a ty n (fun i => .int (g i)) := by
  refine ⟨fun i => atv cl (Int32.ofNat i), cl, A, S, hn, fun j hj => ?_⟩
  have e1 : (Int32.ofNat j).toInt = j := Int32.toInt_ofNat_of_lt (by omega)
  have e2 : (Int32.ofNat j).toNatClampNeg = j := by show (Int32.ofNat j).toInt.toNat = j; omega
  have hin : ¬ (Int32.ofNat j < 0 ∨ cl.slots.size ≤ (Int32.ofNat j).toNatClampNeg) := by rw [S]; exact own_inb (by omega) (by omega)
  obtain ⟨v, h1, h2⟩ := elem_fit hf A hin
  obtain ⟨x, rfl⟩ := fit_I h2 ht
  show cl.slots[j]? = some (.int (atv cl (Int32.ofNat j)))
  rw [atv_of h1, ← e2]; exact h1
theorem own_lenOf {args : Array Value} {s : State} {t : Term} {a : Addr} {cl : Cell} {ty : FieldType} {k : Int32} (ev : t.eval args s none [] s = some (.ref a)) (A : Arr s s.heap a cl ty) (h : (Cond.eq (.length t) (.int k)).value args s none s [] = some true) (hk : 0 ≤ k.toInt) : cl.slots.size = k.toInt.toNat ∧ cl.slots.size < 2 ^ 31 := by
  have ha := A.fin (Vm.Alike.refl _)
  by_cases q : cl.slots.size < 2 ^ 31
  · have e1 : (Term.length t).eval args s none [] s = some (.int cl.slots.size.toInt32) := len_f ev ha q
    have e2 : cl.slots.size.toInt32 = k := by
      have hh := h
      simp only [Cond.value] at hh
      rw [e1] at hh
      simpa [Term.eval] using hh
    have e3 := len_toInt q
    rw [e2] at e3
    exact ⟨by omega, q⟩
  · exfalso
    have e1 : (Term.length t).eval args s none [] s = none := by simp [Term.eval, ev, ha, q]
    simp [Cond.value, e1] at h
theorem own_nameI {Z : State} {h : Heap} {a : Addr} {ty : FieldType} {n k : Nat} {g : Nat → Int32} {x : Int32} (V : own_Arf Z h a ty n (fun i => if i = k then .int x else .int (g i))) : ∃ g' : Nat → Int32, (∀ i, g' i = if i = k then x else g i) ∧ own_Arf Z h a ty n (fun i => .int (g' i)) :=
  ⟨fun i => if i = k then x else g i, fun _ => rfl, V.cong (fun i _ => by by_cases q : i = k <;> simp [q])⟩
theorem own_nameD {Z : State} {h : Heap} {a : Addr} {ty : FieldType} {n k : Nat} {g : Nat → UInt64} {x : UInt64} (V : own_Arf Z h a ty n (fun i => if i = k then .double x else .double (g i))) : ∃ g' : Nat → UInt64, (∀ i, g' i = if i = k then x else g i) ∧ own_Arf Z h a ty n (fun i => .double (g' i)) :=
  ⟨fun i => if i = k then x else g i, fun _ => rfl, V.cong (fun i _ => by by_cases q : i = k <;> simp [q])⟩
theorem own_natOf {i : Int32} {lo hi : Int} (h1 : 0 ≤ i.toInt) : ∃ k : Nat, i.toInt = k := ⟨i.toInt.toNat, by omega⟩
theorem own_tn {i : Int32} {k : Nat} (h : i.toInt = k) : i.toBitVec.toNat = k := by
  have h1 : i.toBitVec.toInt = k := h
  have h2 := BitVec.toInt_eq_toNat_cond i.toBitVec
  have h3 := i.toBitVec.isLt
  rw [h1] at h2
  split at h2 <;> omega
theorem pn_0 : plainName "java/lang/Record" = true := by first | (simp [plainName, overriddenIn]; done) | decide +kernel
theorem d2_0 : decode jdk_30_method_1_code 0 = .ok (.aload_n 0, 1) := by decide +kernel
theorem d2_1 : decode jdk_30_method_1_code 1 = .ok (.invokespecial 1, 3) := by decide +kernel
theorem d2_4 : decode jdk_30_method_1_code 4 = .ok (.return_, 1) := by decide +kernel
theorem ef_2 (m : MethodId) (x0 : Addr) : entryFrame m #[(.ref x0)] 1 = mkF m 0 #[.val (.ref x0)] [] := by first | (simp [entryFrame, mkF, argsToLocals, Value.category]; done) | rfl
def Q2 (Z : State) (a1 : Addr) (h0 : Heap) (n0 : Nat) (v : Option Value) (h : Heap) (L : List Loc) : Prop := v = none ∧ Fr n0 L ∧ h = h0
set_option maxRecDepth 65536 in
set_option maxHeartbeats 40000000 in
theorem rm2 (l : Launch) (Z : State) (a0 : Array Value) (hw : ∀ d ∈ tables_1, d.before a0 Z = true) (ws : List Jvm.Cond) (a1 : Addr) (h0 : Heap) (n0 : Nat) (Z0 : n0 ≤ h0.size) :
    MetFree l (⟨"java/lang/Record", "<init>", "()V"⟩ : MethodName) (head1 (Jvm.Cond.code (⟨"java/lang/Record", "<init>", "()V"⟩ : MethodName) jdk_30_method_1_code 1 none :: ws) ({ frames := 1, cells := 0, slots := 0, locals := 12 } : Room)) (fun a U => a = #[(.ref a1)] ∧ Z.Warmed39 U.vm ∧ U.heap = h0) (fun _ _ _ _ _ => True) (fun _ U o U' => ∃ v L, o = .returned v ∧ Q2 Z a1 h0 n0 v U'.heap L ∧ FrameEnd U o U' L ({ frames := 1, cells := 0, slots := 0, locals := 12 } : Room).cells ({ frames := 1, cells := 0, slots := 0, locals := 12 } : Room).slots) := by
  refine MetFree.of_bodySF (plainFor_of_name pn_0) hisR ?_
  intro p e s m args below meth c s₁ Bd hml0 hP hK
  obtain ⟨rfl, hZ, hh⟩ := hP
  have hx := Bd.exec
  have hby := Bd.bytes
  have hml : c.maxLocals = 1 := hml0
  have hown : s.vm.findClass "java/lang/Record" = some m.cls := findClass_of_methodNamed Bd.named
  have hnm := (name_of_methodNamed Bd.named Bd.method).1
  have hlk : meth.locks = false := BodyLoose.notSynchronized Bd
  have X0 : Stand p l e ({ frames := 1, cells := 0, slots := 0, locals := 12 } : Room) s m #[(.ref a1)] below meth c s₁ [] 0 0 := Stand.of_body Bd
  have e0 : s₁.heap = h0 := by rw [← hh, Bd.state]; rfl
  have N0 := Fr.nil n0
  have K0 : Keep h0 h0 [] := Keep.refl h0 _
  have key : ∀ (F0 : State) (G : Prop), (own_G p e below s F0 (Q2 Z a1 h0 n0) ({ frames := 1, cells := 0, slots := 0, locals := 12 } : Room).cells ({ frames := 1, cells := 0, slots := 0, locals := 12 } : Room).slots → G) → own_R p.tables e below F0 (s₁.setTop (mkF m 0 #[.val (.ref a1)] [])) → G := by
    intro F0 G hG r0
    have r1 : own_R p.tables e below F0 (s₁.setTop (mkF m 1 #[.val (.ref a1)] [(.ref a1)])) := fun t k => by
      refine r0 t ?_
      show Steps p.tables e below (s₁.setTop (mkF m 0 #[.val (.ref a1)] [])) _
      refine XS.aloadN X0.here hx rfl (hb hby d2_0) rfl rfl ?_
      exact k
    obtain ⟨T2, X2, e2, st2⟩ := initO X0 hx hZ hown (hw _ (List.mem_of_getElem? (i := 13) rfl)) (hw _ (List.mem_of_getElem? (i := 14) rfl)) (hw _ (List.mem_of_getElem? (i := 15) rfl)) e0 (g := (mkF m 1 #[.val (.ref a1)] [(.ref a1)])) rfl (by rw [hml]; rfl) rfl (hb hby d2_1) (by decide) (W := 0) (by show 2 * 0 + _ ≤ _; exact Nat.le_of_eq rfl) (by decide)
    have r2 : own_R p.tables e below F0 (T2.setTop (mkF m 4 #[.val (.ref a1)] [])) := fun t k => r1 t (st2 t k)
    refine hG (own_fin X2 hlk (none) (fun _ => rfl) ?_ (by decide) (by decide) (fun fs hr => r2 _ (X2.returnOut hx Bd.returns (hb hby d2_4) hr)))
    rw [e2]
    refine ⟨?_, N0, rfl⟩
    rfl
  exact key _ _ id (fun t k => castTop (ef_2 m a1) k)
theorem pn_1 : plainName "com/example/invites_to_friends/invitestofriends/bench/Call" = true := by first | (simp [plainName, overriddenIn]; done) | decide +kernel
theorem pd_0 : parseMethodDescriptor "()V" = some ⟨[], none⟩ := by decide +kernel
theorem d1_0 : decode prog_5_method_1_code 0 = .ok (.aload_n 0, 1) := by decide +kernel
theorem d1_1 : decode prog_5_method_1_code 1 = .ok (.invokespecial 1, 3) := by decide +kernel
theorem d1_4 : decode prog_5_method_1_code 4 = .ok (.aload_n 0, 1) := by decide +kernel
theorem d1_5 : decode prog_5_method_1_code 5 = .ok (.lload_n 1, 1) := by decide +kernel
theorem d1_6 : decode prog_5_method_1_code 6 = .ok (.putfield 7, 3) := by decide +kernel
theorem d1_9 : decode prog_5_method_1_code 9 = .ok (.aload_n 0, 1) := by decide +kernel
theorem d1_10 : decode prog_5_method_1_code 10 = .ok (.lload_n 3, 1) := by decide +kernel
theorem d1_11 : decode prog_5_method_1_code 11 = .ok (.putfield 13, 3) := by decide +kernel
theorem d1_14 : decode prog_5_method_1_code 14 = .ok (.aload_n 0, 1) := by decide +kernel
theorem d1_15 : decode prog_5_method_1_code 15 = .ok (.iload 5, 2) := by decide +kernel
theorem d1_17 : decode prog_5_method_1_code 17 = .ok (.putfield 16, 3) := by decide +kernel
theorem d1_20 : decode prog_5_method_1_code 20 = .ok (.aload_n 0, 1) := by decide +kernel
theorem d1_21 : decode prog_5_method_1_code 21 = .ok (.aload 6, 2) := by decide +kernel
theorem d1_23 : decode prog_5_method_1_code 23 = .ok (.putfield 20, 3) := by decide +kernel
theorem d1_26 : decode prog_5_method_1_code 26 = .ok (.return_, 1) := by decide +kernel
theorem ef_1 (m : MethodId) (x0 : Addr) (x1 : Int64) (x2 : Int64) (x3 : Int32) (x4 : Addr) : entryFrame m #[(.ref x0), (.long x1), (.long x2), (.int x3), (.ref x4)] 7 = mkF m 0 #[.val (.ref x0), .val (.long x1), .second, .val (.long x2), .second, .val (.int x3), .val (.ref x4)] [] := by first | (simp [entryFrame, mkF, argsToLocals, Value.category]; done) | rfl
def Q1 (Z : State) (a1 : Addr) (p2 : Int64) (p3 : Int64) (p4 : Int32) (p5 : Addr) (h0 : Heap) (n0 : Nat) (v : Option Value) (h : Heap) (L : List Loc) : Prop := v = none ∧ Fr n0 L ∧ Keep h0 h [a1] ∧ Exa Z h a1 "com/example/invites_to_friends/invitestofriends/bench/Call" ∧ Fld Z h a1 "com/example/invites_to_friends/invitestofriends/bench/Call" "started" "J" (.long p2) ∧ Fld Z h a1 "com/example/invites_to_friends/invitestofriends/bench/Call" "ended" "J" (.long p3) ∧ Fld Z h a1 "com/example/invites_to_friends/invitestofriends/bench/Call" "status" "I" (.int p4) ∧ Fld Z h a1 "com/example/invites_to_friends/invitestofriends/bench/Call" "body" "[B" (.ref p5)
set_option maxRecDepth 65536 in
set_option maxHeartbeats 40000000 in
theorem rm1 (l : Launch) (Z : State) (a0 : Array Value) (hw : ∀ d ∈ tables_1, d.before a0 Z = true) (ws : List Jvm.Cond) (a1 : Addr) (p2 : Int64) (p3 : Int64) (p4 : Int32) (p5 : Addr) (h0 : Heap) (n0 : Nat) (Z0 : n0 ≤ h0.size) (E1 : Exa Z h0 a1 "com/example/invites_to_friends/invitestofriends/bench/Call") (Fp0 : Fld Z h0 a1 "com/example/invites_to_friends/invitestofriends/bench/Call" "started" "J" (.long (0 : Int64))) (Fp1 : Fld Z h0 a1 "com/example/invites_to_friends/invitestofriends/bench/Call" "ended" "J" (.long (0 : Int64))) (Fp2 : Fld Z h0 a1 "com/example/invites_to_friends/invitestofriends/bench/Call" "status" "I" (.int (0 : Int32))) (Fp3 : Fld Z h0 a1 "com/example/invites_to_friends/invitestofriends/bench/Call" "body" "[B" .null) (ga1 : n0 ≤ a1) :
    MetFree l (⟨"com/example/invites_to_friends/invitestofriends/bench/Call", "<init>", "(JJI[B)V"⟩ : MethodName) (head1 (Jvm.Cond.code (⟨"com/example/invites_to_friends/invitestofriends/bench/Call", "<init>", "(JJI[B)V"⟩ : MethodName) prog_5_method_1_code 7 none :: ws) ({ frames := 2, cells := 0, slots := 0, locals := 24 } : Room)) (fun a U => a = #[(.ref a1), (.long p2), (.long p3), (.int p4), (.ref p5)] ∧ Z.Warmed39 U.vm ∧ U.heap = h0) (fun _ _ _ _ _ => True) (fun _ U o U' => ∃ v L, o = .returned v ∧ Q1 Z a1 p2 p3 p4 p5 h0 n0 v U'.heap L ∧ FrameEnd U o U' L ({ frames := 2, cells := 0, slots := 0, locals := 24 } : Room).cells ({ frames := 2, cells := 0, slots := 0, locals := 24 } : Room).slots) := by
  refine MetFree.of_bodySF (plainFor_of_name pn_1) hisR ?_
  intro p e s m args below meth c s₁ Bd hml0 hP hK
  obtain ⟨rfl, hZ, hh⟩ := hP
  have hx := Bd.exec
  have hby := Bd.bytes
  have hml : c.maxLocals = 7 := hml0
  have hown : s.vm.findClass "com/example/invites_to_friends/invitestofriends/bench/Call" = some m.cls := findClass_of_methodNamed Bd.named
  have hnm := (name_of_methodNamed Bd.named Bd.method).1
  have hlk : meth.locks = false := BodyLoose.notSynchronized Bd
  have X0 : Stand p l e ({ frames := 2, cells := 0, slots := 0, locals := 24 } : Room) s m #[(.ref a1), (.long p2), (.long p3), (.int p4), (.ref p5)] below meth c s₁ [] 0 0 := Stand.of_body Bd
  have e0 : s₁.heap = h0 := by rw [← hh, Bd.state]; rfl
  have N0 := Fr.nil n0
  have K0 : Keep h0 h0 [a1] := Keep.refl h0 _
  have key : ∀ (F0 : State) (G : Prop), (own_G p e below s F0 (Q1 Z a1 p2 p3 p4 p5 h0 n0) ({ frames := 2, cells := 0, slots := 0, locals := 24 } : Room).cells ({ frames := 2, cells := 0, slots := 0, locals := 24 } : Room).slots → G) → own_R p.tables e below F0 (s₁.setTop (mkF m 0 #[.val (.ref a1), .val (.long p2), .second, .val (.long p3), .second, .val (.int p4), .val (.ref p5)] [])) → G := by
    intro F0 G hG r0
    have r3 : own_R p.tables e below F0 (s₁.setTop (mkF m 1 #[.val (.ref a1), .val (.long p2), .second, .val (.long p3), .second, .val (.int p4), .val (.ref p5)] [(.ref a1)])) := fun t k => by
      refine r0 t ?_
      show Steps p.tables e below (s₁.setTop (mkF m 0 #[.val (.ref a1), .val (.long p2), .second, .val (.long p3), .second, .val (.int p4), .val (.ref p5)] [])) _
      refine XS.aloadN X0.here hx rfl (hb hby d1_0) rfl rfl ?_
      exact k
    obtain ⟨_, _, ⟨T4, L4, k4, n4⟩, -, X4, ⟨Lc4, hQ4, l4, y4, z4⟩, st4⟩ := X0.specialBack hx (y := (⟨"java/lang/Record", "<init>", "()V"⟩ : MethodName)) rfl hown (mvT hZ (hw _ (List.mem_of_getElem? (i := 8) rfl))) (mvT hZ (hw _ (List.mem_of_getElem? (i := 9) rfl))) (mvT hZ (hw _ (List.mem_of_getElem? (i := 12) rfl))) (by decide) (backOf (W := 0) (rm2 l Z a0 hw [] a1 h0 n0 Z0 ) hZ (hw _ (List.mem_of_getElem? (i := 12) rfl)) (hw _ (List.mem_of_getElem? (i := 11) rfl)) (by decide) (by decide)) (g := (mkF m 1 #[.val (.ref a1), .val (.long p2), .second, .val (.long p3), .second, .val (.int p4), .val (.ref p5)] [(.ref a1)])) rfl (by rw [hml]; rfl) (Steps.refl _) (a := a1) (argsL := []) (rest := []) (lenOf pd_0 rfl) rfl (by show 2 * 0 + _ ≤ _; exact Nat.le_of_eq rfl) (hb hby d1_1) (fun _ _ => ⟨rfl, e0, (by decide : 0 + 0 ≤ _), (by decide : 0 + 0 ≤ _)⟩)
    dsimp only [Pt.U, Pt.locs, Pt.cells, Pt.slots] at X4 l4 y4 z4 st4 hQ4
    subst l4 y4 z4
    obtain ⟨rfl, N4q, I4_0⟩ := hQ4
    have N4 := Fr.app N0 N4q
    have r4 : own_R p.tables e below F0 (T4.setTop (mkF m 4 #[.val (.ref a1), .val (.long p2), .second, .val (.long p3), .second, .val (.int p4), .val (.ref p5)] [])) := fun t k => r3 t (st4.trans k)
    have r5 : own_R p.tables e below F0 (T4.setTop (mkF m 6 #[.val (.ref a1), .val (.long p2), .second, .val (.long p3), .second, .val (.int p4), .val (.ref p5)] [(.long p2), (.ref a1)])) := fun t k => by
      refine r4 t ?_
      show Steps p.tables e below (T4.setTop (mkF m 4 #[.val (.ref a1), .val (.long p2), .second, .val (.long p3), .second, .val (.int p4), .val (.ref p5)] [])) _
      refine XS.aloadN X4.here hx rfl (hb hby d1_4) rfl rfl ?_
      show Steps p.tables e below (T4.setTop (mkF m 5 #[.val (.ref a1), .val (.long p2), .second, .val (.long p3), .second, .val (.int p4), .val (.ref p5)] [(.ref a1)])) _
      refine XS.lloadN X4.here hx rfl (hb hby d1_5) rfl ?_
      exact k
    obtain ⟨T6, h6, X6, e6, W6, st6⟩ := putF X4 hx hZ hown (host := "") (Or.inl (hw _ (List.mem_of_getElem? (i := 16) rfl))) Via.refl I4_0 Fp0 E1 (Or.inr ⟨(hw _ (List.mem_of_getElem? (i := 17) rfl)), rfl, hnm⟩) (hw _ (List.mem_of_getElem? (i := 3) rfl)) (ty := .long) (by decide) rfl rfl (g := (mkF m 6 #[.val (.ref a1), .val (.long p2), .second, .val (.long p3), .second, .val (.int p4), .val (.ref p5)] [(.long p2), (.ref a1)])) rfl rfl (hb hby d1_6)
    have F7 : Exa Z h6 a1 "com/example/invites_to_friends/invitestofriends/bench/Call" := E1.wr W6
    have F8 : Fld Z h6 a1 "com/example/invites_to_friends/invitestofriends/bench/Call" "started" "J" (.long p2) := Fp0.same W6
    have F9 : Fld Z h6 a1 "com/example/invites_to_friends/invitestofriends/bench/Call" "ended" "J" (.long (0 : Int64)) := Fp1.other W6 (Or.inr (slot_ne (Or.inr (hw _ (List.mem_of_getElem? (i := 19) rfl))) (Or.inr (hw _ (List.mem_of_getElem? (i := 17) rfl))) (by decide) (t := .long) (t' := .long) (by decide) (by decide)))
    have F10 : Fld Z h6 a1 "com/example/invites_to_friends/invitestofriends/bench/Call" "status" "I" (.int (0 : Int32)) := Fp2.other W6 (Or.inr (slot_ne (Or.inr (hw _ (List.mem_of_getElem? (i := 21) rfl))) (Or.inr (hw _ (List.mem_of_getElem? (i := 17) rfl))) (by decide) (t := .int) (t' := .long) (by decide) (by decide)))
    have F11 : Fld Z h6 a1 "com/example/invites_to_friends/invitestofriends/bench/Call" "body" "[B" .null := Fp3.other W6 (Or.inr (slot_ne (Or.inr (hw _ (List.mem_of_getElem? (i := 23) rfl))) (Or.inr (hw _ (List.mem_of_getElem? (i := 17) rfl))) (by decide) (t := (.array .byte)) (t' := .long) (by decide) (by decide)))
    have Zs12 : n0 ≤ h6.size := by rw [W6.size]; exact Z0
    have N13 := Fr.snoc X6 N4 ga1
    have K14 : Keep h0 h6 [a1] := K0.wr W6 (Or.inl (List.mem_of_getElem? (i := 0) rfl))
    have r6 : own_R p.tables e below F0 (T6.setTop (mkF m 9 #[.val (.ref a1), .val (.long p2), .second, .val (.long p3), .second, .val (.int p4), .val (.ref p5)] [])) := fun t k => r5 t (st6 t k)
    have r15 : own_R p.tables e below F0 (T6.setTop (mkF m 11 #[.val (.ref a1), .val (.long p2), .second, .val (.long p3), .second, .val (.int p4), .val (.ref p5)] [(.long p3), (.ref a1)])) := fun t k => by
      refine r6 t ?_
      show Steps p.tables e below (T6.setTop (mkF m 9 #[.val (.ref a1), .val (.long p2), .second, .val (.long p3), .second, .val (.int p4), .val (.ref p5)] [])) _
      refine XS.aloadN X6.here hx rfl (hb hby d1_9) rfl rfl ?_
      show Steps p.tables e below (T6.setTop (mkF m 10 #[.val (.ref a1), .val (.long p2), .second, .val (.long p3), .second, .val (.int p4), .val (.ref p5)] [(.ref a1)])) _
      refine XS.lloadN X6.here hx rfl (hb hby d1_10) rfl ?_
      exact k
    obtain ⟨T16, h16, X16, e16, W16, st16⟩ := putF X6 hx hZ hown (host := "") (Or.inl (hw _ (List.mem_of_getElem? (i := 18) rfl))) Via.refl e6 F9 F7 (Or.inr ⟨(hw _ (List.mem_of_getElem? (i := 19) rfl)), rfl, hnm⟩) (hw _ (List.mem_of_getElem? (i := 3) rfl)) (ty := .long) (by decide) rfl rfl (g := (mkF m 11 #[.val (.ref a1), .val (.long p2), .second, .val (.long p3), .second, .val (.int p4), .val (.ref p5)] [(.long p3), (.ref a1)])) rfl rfl (hb hby d1_11)
    have F17 : Exa Z h16 a1 "com/example/invites_to_friends/invitestofriends/bench/Call" := F7.wr W16
    have F18 : Fld Z h16 a1 "com/example/invites_to_friends/invitestofriends/bench/Call" "started" "J" (.long p2) := F8.other W16 (Or.inr (slot_ne (Or.inr (hw _ (List.mem_of_getElem? (i := 17) rfl))) (Or.inr (hw _ (List.mem_of_getElem? (i := 19) rfl))) (by decide) (t := .long) (t' := .long) (by decide) (by decide)))
    have F19 : Fld Z h16 a1 "com/example/invites_to_friends/invitestofriends/bench/Call" "ended" "J" (.long p3) := F9.same W16
    have F20 : Fld Z h16 a1 "com/example/invites_to_friends/invitestofriends/bench/Call" "status" "I" (.int (0 : Int32)) := F10.other W16 (Or.inr (slot_ne (Or.inr (hw _ (List.mem_of_getElem? (i := 21) rfl))) (Or.inr (hw _ (List.mem_of_getElem? (i := 19) rfl))) (by decide) (t := .int) (t' := .long) (by decide) (by decide)))
    have F21 : Fld Z h16 a1 "com/example/invites_to_friends/invitestofriends/bench/Call" "body" "[B" .null := F11.other W16 (Or.inr (slot_ne (Or.inr (hw _ (List.mem_of_getElem? (i := 23) rfl))) (Or.inr (hw _ (List.mem_of_getElem? (i := 19) rfl))) (by decide) (t := (.array .byte)) (t' := .long) (by decide) (by decide)))
    have Zs22 : n0 ≤ h16.size := by rw [W16.size]; exact Zs12
    have N23 := Fr.snoc X16 N13 ga1
    have K24 : Keep h0 h16 [a1] := K14.wr W16 (Or.inl (List.mem_of_getElem? (i := 0) rfl))
    have r16 : own_R p.tables e below F0 (T16.setTop (mkF m 14 #[.val (.ref a1), .val (.long p2), .second, .val (.long p3), .second, .val (.int p4), .val (.ref p5)] [])) := fun t k => r15 t (st16 t k)
    have r25 : own_R p.tables e below F0 (T16.setTop (mkF m 17 #[.val (.ref a1), .val (.long p2), .second, .val (.long p3), .second, .val (.int p4), .val (.ref p5)] [(.int p4), (.ref a1)])) := fun t k => by
      refine r16 t ?_
      show Steps p.tables e below (T16.setTop (mkF m 14 #[.val (.ref a1), .val (.long p2), .second, .val (.long p3), .second, .val (.int p4), .val (.ref p5)] [])) _
      refine XS.aloadN X16.here hx rfl (hb hby d1_14) rfl rfl ?_
      show Steps p.tables e below (T16.setTop (mkF m 15 #[.val (.ref a1), .val (.long p2), .second, .val (.long p3), .second, .val (.int p4), .val (.ref p5)] [(.ref a1)])) _
      refine XS.iload X16.here hx rfl (hb hby d1_15) rfl ?_
      exact k
    obtain ⟨T26, h26, X26, e26, W26, st26⟩ := putF X16 hx hZ hown (host := "") (Or.inl (hw _ (List.mem_of_getElem? (i := 20) rfl))) Via.refl e16 F20 F17 (Or.inr ⟨(hw _ (List.mem_of_getElem? (i := 21) rfl)), rfl, hnm⟩) (hw _ (List.mem_of_getElem? (i := 3) rfl)) (ty := .int) (by decide) rfl rfl (g := (mkF m 17 #[.val (.ref a1), .val (.long p2), .second, .val (.long p3), .second, .val (.int p4), .val (.ref p5)] [(.int p4), (.ref a1)])) rfl rfl (hb hby d1_17)
    have F27 : Exa Z h26 a1 "com/example/invites_to_friends/invitestofriends/bench/Call" := F17.wr W26
    have F28 : Fld Z h26 a1 "com/example/invites_to_friends/invitestofriends/bench/Call" "started" "J" (.long p2) := F18.other W26 (Or.inr (slot_ne (Or.inr (hw _ (List.mem_of_getElem? (i := 17) rfl))) (Or.inr (hw _ (List.mem_of_getElem? (i := 21) rfl))) (by decide) (t := .long) (t' := .int) (by decide) (by decide)))
    have F29 : Fld Z h26 a1 "com/example/invites_to_friends/invitestofriends/bench/Call" "ended" "J" (.long p3) := F19.other W26 (Or.inr (slot_ne (Or.inr (hw _ (List.mem_of_getElem? (i := 19) rfl))) (Or.inr (hw _ (List.mem_of_getElem? (i := 21) rfl))) (by decide) (t := .long) (t' := .int) (by decide) (by decide)))
    have F30 : Fld Z h26 a1 "com/example/invites_to_friends/invitestofriends/bench/Call" "status" "I" (.int p4) := F20.same W26
    have F31 : Fld Z h26 a1 "com/example/invites_to_friends/invitestofriends/bench/Call" "body" "[B" .null := F21.other W26 (Or.inr (slot_ne (Or.inr (hw _ (List.mem_of_getElem? (i := 23) rfl))) (Or.inr (hw _ (List.mem_of_getElem? (i := 21) rfl))) (by decide) (t := (.array .byte)) (t' := .int) (by decide) (by decide)))
    have Zs32 : n0 ≤ h26.size := by rw [W26.size]; exact Zs22
    have N33 := Fr.snoc X26 N23 ga1
    have K34 : Keep h0 h26 [a1] := K24.wr W26 (Or.inl (List.mem_of_getElem? (i := 0) rfl))
    have r26 : own_R p.tables e below F0 (T26.setTop (mkF m 20 #[.val (.ref a1), .val (.long p2), .second, .val (.long p3), .second, .val (.int p4), .val (.ref p5)] [])) := fun t k => r25 t (st26 t k)
    have r35 : own_R p.tables e below F0 (T26.setTop (mkF m 23 #[.val (.ref a1), .val (.long p2), .second, .val (.long p3), .second, .val (.int p4), .val (.ref p5)] [(.ref p5), (.ref a1)])) := fun t k => by
      refine r26 t ?_
      show Steps p.tables e below (T26.setTop (mkF m 20 #[.val (.ref a1), .val (.long p2), .second, .val (.long p3), .second, .val (.int p4), .val (.ref p5)] [])) _
      refine XS.aloadN X26.here hx rfl (hb hby d1_20) rfl rfl ?_
      show Steps p.tables e below (T26.setTop (mkF m 21 #[.val (.ref a1), .val (.long p2), .second, .val (.long p3), .second, .val (.int p4), .val (.ref p5)] [(.ref a1)])) _
      refine XS.aload X26.here hx rfl (hb hby d1_21) rfl rfl ?_
      exact k
    obtain ⟨T36, h36, X36, e36, W36, st36⟩ := putF X26 hx hZ hown (host := "") (Or.inl (hw _ (List.mem_of_getElem? (i := 22) rfl))) Via.refl e26 F31 F27 (Or.inr ⟨(hw _ (List.mem_of_getElem? (i := 23) rfl)), rfl, hnm⟩) (hw _ (List.mem_of_getElem? (i := 3) rfl)) (ty := (.array .byte)) (by decide) rfl rfl (g := (mkF m 23 #[.val (.ref a1), .val (.long p2), .second, .val (.long p3), .second, .val (.int p4), .val (.ref p5)] [(.ref p5), (.ref a1)])) rfl rfl (hb hby d1_23)
    have F37 : Exa Z h36 a1 "com/example/invites_to_friends/invitestofriends/bench/Call" := F27.wr W36
    have F38 : Fld Z h36 a1 "com/example/invites_to_friends/invitestofriends/bench/Call" "started" "J" (.long p2) := F28.other W36 (Or.inr (slot_ne (Or.inr (hw _ (List.mem_of_getElem? (i := 17) rfl))) (Or.inr (hw _ (List.mem_of_getElem? (i := 23) rfl))) (by decide) (t := .long) (t' := (.array .byte)) (by decide) (by decide)))
    have F39 : Fld Z h36 a1 "com/example/invites_to_friends/invitestofriends/bench/Call" "ended" "J" (.long p3) := F29.other W36 (Or.inr (slot_ne (Or.inr (hw _ (List.mem_of_getElem? (i := 19) rfl))) (Or.inr (hw _ (List.mem_of_getElem? (i := 23) rfl))) (by decide) (t := .long) (t' := (.array .byte)) (by decide) (by decide)))
    have F40 : Fld Z h36 a1 "com/example/invites_to_friends/invitestofriends/bench/Call" "status" "I" (.int p4) := F30.other W36 (Or.inr (slot_ne (Or.inr (hw _ (List.mem_of_getElem? (i := 21) rfl))) (Or.inr (hw _ (List.mem_of_getElem? (i := 23) rfl))) (by decide) (t := .int) (t' := (.array .byte)) (by decide) (by decide)))
    have F41 : Fld Z h36 a1 "com/example/invites_to_friends/invitestofriends/bench/Call" "body" "[B" (.ref p5) := F31.same W36
    have Zs42 : n0 ≤ h36.size := by rw [W36.size]; exact Zs32
    have N43 := Fr.snoc X36 N33 ga1
    have K44 : Keep h0 h36 [a1] := K34.wr W36 (Or.inl (List.mem_of_getElem? (i := 0) rfl))
    have r36 : own_R p.tables e below F0 (T36.setTop (mkF m 26 #[.val (.ref a1), .val (.long p2), .second, .val (.long p3), .second, .val (.int p4), .val (.ref p5)] [])) := fun t k => r35 t (st36 t k)
    refine hG (own_fin X36 hlk (none) (fun _ => rfl) ?_ (by decide) (by decide) (fun fs hr => r36 _ (X36.returnOut hx Bd.returns (hb hby d1_26) hr)))
    rw [e36]
    refine ⟨?_, N43, K44, F37, F38, F39, F40, F41⟩
    rfl
  exact key _ _ id (fun t k => castTop (ef_1 m a1 p2 p3 p4 p5) k)
def own_succ (w1 : Int32) : Int32 := (if w1 < (200 : Int32) then (0 : Int32) else (if (299 : Int32) < w1 then (0 : Int32) else (1 : Int32)))
theorem d4_0 : decode prog_5_method_3_code 0 = .ok (.aload_n 0, 1) := by decide +kernel
theorem d4_1 : decode prog_5_method_3_code 1 = .ok (.getfield 16, 3) := by decide +kernel
theorem d4_4 : decode prog_5_method_3_code 4 = .ok (.sipush 200, 3) := by decide +kernel
theorem d4_7 : decode prog_5_method_3_code 7 = .ok (.if_icmp .lt 17, 3) := by decide +kernel
theorem d4_10 : decode prog_5_method_3_code 10 = .ok (.aload_n 0, 1) := by decide +kernel
theorem d4_11 : decode prog_5_method_3_code 11 = .ok (.getfield 16, 3) := by decide +kernel
theorem d4_14 : decode prog_5_method_3_code 14 = .ok (.sipush 299, 3) := by decide +kernel
theorem d4_17 : decode prog_5_method_3_code 17 = .ok (.if_icmp .gt 7, 3) := by decide +kernel
theorem d4_20 : decode prog_5_method_3_code 20 = .ok (.iconst 1, 1) := by decide +kernel
theorem d4_21 : decode prog_5_method_3_code 21 = .ok (.goto 4, 3) := by decide +kernel
theorem d4_24 : decode prog_5_method_3_code 24 = .ok (.iconst 0, 1) := by decide +kernel
theorem d4_25 : decode prog_5_method_3_code 25 = .ok (.ireturn, 1) := by decide +kernel
theorem ef_4 (m : MethodId) (x0 : Addr) : entryFrame m #[(.ref x0)] 1 = mkF m 0 #[.val (.ref x0)] [] := by first | (simp [entryFrame, mkF, argsToLocals, Value.category]; done) | rfl
def Q4 (Z : State) (a1 : Addr) (w1 : Int32) (h0 : Heap) (n0 : Nat) (v : Option Value) (h : Heap) (L : List Loc) : Prop := v = some (.int (own_succ w1)) ∧ Fr n0 L ∧ h = h0
set_option maxRecDepth 65536 in
set_option maxHeartbeats 40000000 in
theorem rm4 (l : Launch) (Z : State) (a0 : Array Value) (hw : ∀ d ∈ tables_1, d.before a0 Z = true) (ws : List Jvm.Cond) (a1 : Addr) (w1 : Int32) (h0 : Heap) (n0 : Nat) (Z0 : n0 ≤ h0.size) (F_w1 : Fld Z h0 a1 "com/example/invites_to_friends/invitestofriends/bench/Call" "status" "I" (.int w1)) :
    MetFree l (⟨"com/example/invites_to_friends/invitestofriends/bench/Call", "succeeded", "()Z"⟩ : MethodName) (head1 (Jvm.Cond.code (⟨"com/example/invites_to_friends/invitestofriends/bench/Call", "succeeded", "()Z"⟩ : MethodName) prog_5_method_3_code 1 (some .boolean) :: ws) ({ frames := 0, cells := 0, slots := 0, locals := 0 } : Room)) (fun a U => a = #[(.ref a1)] ∧ Z.Warmed39 U.vm ∧ U.heap = h0) (fun _ _ _ _ _ => True) (fun _ U o U' => ∃ v L, o = .returned v ∧ Q4 Z a1 w1 h0 n0 v U'.heap L ∧ FrameEnd U o U' L ({ frames := 0, cells := 0, slots := 0, locals := 0 } : Room).cells ({ frames := 0, cells := 0, slots := 0, locals := 0 } : Room).slots) := by
  refine MetFree.of_bodySF (plainFor_of_name pn_1) hisR ?_
  intro p e s m args below meth c s₁ Bd hml0 hP hK
  obtain ⟨rfl, hZ, hh⟩ := hP
  have hx := Bd.exec
  have hby := Bd.bytes
  have hml : c.maxLocals = 1 := hml0
  have hown : s.vm.findClass "com/example/invites_to_friends/invitestofriends/bench/Call" = some m.cls := findClass_of_methodNamed Bd.named
  have hnm := (name_of_methodNamed Bd.named Bd.method).1
  have hlk : meth.locks = false := BodyLoose.notSynchronized Bd
  have X0 : Stand p l e ({ frames := 0, cells := 0, slots := 0, locals := 0 } : Room) s m #[(.ref a1)] below meth c s₁ [] 0 0 := Stand.of_body Bd
  have e0 : s₁.heap = h0 := by rw [← hh, Bd.state]; rfl
  have N0 := Fr.nil n0
  have K0 : Keep h0 h0 [] := Keep.refl h0 _
  have key : ∀ (F0 : State) (G : Prop), (own_G p e below s F0 (Q4 Z a1 w1 h0 n0) ({ frames := 0, cells := 0, slots := 0, locals := 0 } : Room).cells ({ frames := 0, cells := 0, slots := 0, locals := 0 } : Room).slots → G) → own_R p.tables e below F0 (s₁.setTop (mkF m 0 #[.val (.ref a1)] [])) → G := by
    intro F0 G hG r0
    have r45 : own_R p.tables e below F0 (s₁.setTop (mkF m 1 #[.val (.ref a1)] [(.ref a1)])) := fun t k => by
      refine r0 t ?_
      show Steps p.tables e below (s₁.setTop (mkF m 0 #[.val (.ref a1)] [])) _
      refine XS.aloadN X0.here hx rfl (hb hby d4_0) rfl rfl ?_
      exact k
    obtain ⟨T46, X46, e46, st46⟩ := getF X0 hx hZ hown (host := "") (Or.inl (hw _ (List.mem_of_getElem? (i := 20) rfl))) Via.refl e0 F_w1 (g := (mkF m 1 #[.val (.ref a1)] [(.ref a1)])) rfl rfl (hb hby d4_1)
    have r46 : own_R p.tables e below F0 (T46.setTop (mkF m 4 #[.val (.ref a1)] [(.int w1)])) := fun t k => r45 t (st46 t k)
    have r47 : own_R p.tables e below F0 (T46.setTop (mkF m 7 #[.val (.ref a1)] [(.int (200 : Int32)), (.int w1)])) := fun t k => by
      refine r46 t ?_
      show Steps p.tables e below (T46.setTop (mkF m 4 #[.val (.ref a1)] [(.int w1)])) _
      refine XS.sipush X46.here hx rfl (hb hby d4_4) ?_
      exact k
    by_cases hc48 : w1 < (200 : Int32)
    · have r49 : own_R p.tables e below F0 (T46.setTop (mkF m 25 #[.val (.ref a1)] [(.int (0 : Int32))])) := fun t k => by
        refine r47 t ?_
        show Steps p.tables e below (T46.setTop (mkF m 7 #[.val (.ref a1)] [(.int (200 : Int32)), (.int w1)])) _
        refine XS.icmpYes X46.here hx rfl (pc0 := 7) (pc' := 24) rfl (hb hby d4_7) rfl (tlt hc48).1 (by decide) (by decide) ?_
        show Steps p.tables e below (T46.setTop (mkF m 24 #[.val (.ref a1)] [])) _
        refine XS.iconst X46.here hx rfl (hb hby d4_24) ?_
        exact k
      refine hG (own_fin X46 hlk (some (.int (nar .boolean (0 : Int32)))) (own_hv Bd.returns) ?_ (by decide) (by decide) (fun fs hr => r49 _ (retN X46 hx (t := .boolean) Bd.returns (by simp) (hb hby d4_25) hr)))
      rw [e46]
      refine ⟨?_, N0, rfl⟩
      have ev : (own_succ w1) = (0 : Int32) := by unfold own_succ; rw [if_pos hc48]
      rw [ev]
      rfl
    · have r50 : own_R p.tables e below F0 (T46.setTop (mkF m 11 #[.val (.ref a1)] [(.ref a1)])) := fun t k => by
        refine r47 t ?_
        show Steps p.tables e below (T46.setTop (mkF m 7 #[.val (.ref a1)] [(.int (200 : Int32)), (.int w1)])) _
        refine XS.icmpNo X46.here hx rfl (hb hby d4_7) rfl (flt hc48).1 ?_
        show Steps p.tables e below (T46.setTop (mkF m 10 #[.val (.ref a1)] [])) _
        refine XS.aloadN X46.here hx rfl (hb hby d4_10) rfl rfl ?_
        exact k
      obtain ⟨T51, X51, e51, st51⟩ := getF X46 hx hZ hown (host := "") (Or.inl (hw _ (List.mem_of_getElem? (i := 20) rfl))) Via.refl e46 F_w1 (g := (mkF m 11 #[.val (.ref a1)] [(.ref a1)])) rfl rfl (hb hby d4_11)
      have r51 : own_R p.tables e below F0 (T51.setTop (mkF m 14 #[.val (.ref a1)] [(.int w1)])) := fun t k => r50 t (st51 t k)
      have r52 : own_R p.tables e below F0 (T51.setTop (mkF m 17 #[.val (.ref a1)] [(.int (299 : Int32)), (.int w1)])) := fun t k => by
        refine r51 t ?_
        show Steps p.tables e below (T51.setTop (mkF m 14 #[.val (.ref a1)] [(.int w1)])) _
        refine XS.sipush X51.here hx rfl (hb hby d4_14) ?_
        exact k
      by_cases hc53 : (299 : Int32) < w1
      · have r54 : own_R p.tables e below F0 (T51.setTop (mkF m 25 #[.val (.ref a1)] [(.int (0 : Int32))])) := fun t k => by
          refine r52 t ?_
          show Steps p.tables e below (T51.setTop (mkF m 17 #[.val (.ref a1)] [(.int (299 : Int32)), (.int w1)])) _
          refine XS.icmpYes X51.here hx rfl (pc0 := 17) (pc' := 24) rfl (hb hby d4_17) rfl (tlt hc53).2.2.1 (by decide) (by decide) ?_
          show Steps p.tables e below (T51.setTop (mkF m 24 #[.val (.ref a1)] [])) _
          refine XS.iconst X51.here hx rfl (hb hby d4_24) ?_
          exact k
        refine hG (own_fin X51 hlk (some (.int (nar .boolean (0 : Int32)))) (own_hv Bd.returns) ?_ (by decide) (by decide) (fun fs hr => r54 _ (retN X51 hx (t := .boolean) Bd.returns (by simp) (hb hby d4_25) hr)))
        rw [e51]
        refine ⟨?_, N0, rfl⟩
        have ev : (own_succ w1) = (0 : Int32) := by unfold own_succ; rw [if_neg hc48, if_pos hc53]
        rw [ev]
        rfl
      · have r55 : own_R p.tables e below F0 (T51.setTop (mkF m 25 #[.val (.ref a1)] [(.int (1 : Int32))])) := fun t k => by
          refine r52 t ?_
          show Steps p.tables e below (T51.setTop (mkF m 17 #[.val (.ref a1)] [(.int (299 : Int32)), (.int w1)])) _
          refine XS.icmpNo X51.here hx rfl (hb hby d4_17) rfl (flt hc53).2.2.1 ?_
          show Steps p.tables e below (T51.setTop (mkF m 20 #[.val (.ref a1)] [])) _
          refine XS.iconst X51.here hx rfl (hb hby d4_20) ?_
          show Steps p.tables e below (T51.setTop (mkF m 21 #[.val (.ref a1)] [(.int (1 : Int32))])) _
          refine XS.goto X51.here hx rfl (pc0 := 21) (pc' := 25) rfl (hb hby d4_21) (by decide) (by decide) ?_
          exact k
        refine hG (own_fin X51 hlk (some (.int (nar .boolean (1 : Int32)))) (own_hv Bd.returns) ?_ (by decide) (by decide) (fun fs hr => r55 _ (retN X51 hx (t := .boolean) Bd.returns (by simp) (hb hby d4_25) hr)))
        rw [e51]
        refine ⟨?_, N0, rfl⟩
        have ev : (own_succ w1) = (1 : Int32) := by unfold own_succ; rw [if_neg hc48, if_neg hc53]
        rw [ev]
        rfl
  exact key _ _ id (fun t k => castTop (ef_4 m a1) k)
def own_answ (w1 : Int32) : Int32 := (if w1 = (0 : Int32) then (0 : Int32) else (1 : Int32))
theorem d5_0 : decode prog_5_method_2_code 0 = .ok (.aload_n 0, 1) := by decide +kernel
theorem d5_1 : decode prog_5_method_2_code 1 = .ok (.getfield 16, 3) := by decide +kernel
theorem d5_4 : decode prog_5_method_2_code 4 = .ok (.ifCond .eq 7, 3) := by decide +kernel
theorem d5_7 : decode prog_5_method_2_code 7 = .ok (.iconst 1, 1) := by decide +kernel
theorem d5_8 : decode prog_5_method_2_code 8 = .ok (.goto 4, 3) := by decide +kernel
theorem d5_11 : decode prog_5_method_2_code 11 = .ok (.iconst 0, 1) := by decide +kernel
theorem d5_12 : decode prog_5_method_2_code 12 = .ok (.ireturn, 1) := by decide +kernel
theorem ef_5 (m : MethodId) (x0 : Addr) : entryFrame m #[(.ref x0)] 1 = mkF m 0 #[.val (.ref x0)] [] := by first | (simp [entryFrame, mkF, argsToLocals, Value.category]; done) | rfl
def Q5 (Z : State) (a1 : Addr) (w1 : Int32) (h0 : Heap) (n0 : Nat) (v : Option Value) (h : Heap) (L : List Loc) : Prop := v = some (.int (own_answ w1)) ∧ Fr n0 L ∧ h = h0
set_option maxRecDepth 65536 in
set_option maxHeartbeats 40000000 in
theorem rm5 (l : Launch) (Z : State) (a0 : Array Value) (hw : ∀ d ∈ tables_1, d.before a0 Z = true) (ws : List Jvm.Cond) (a1 : Addr) (w1 : Int32) (h0 : Heap) (n0 : Nat) (Z0 : n0 ≤ h0.size) (F_w1 : Fld Z h0 a1 "com/example/invites_to_friends/invitestofriends/bench/Call" "status" "I" (.int w1)) :
    MetFree l (⟨"com/example/invites_to_friends/invitestofriends/bench/Call", "answered", "()Z"⟩ : MethodName) (head1 (Jvm.Cond.code (⟨"com/example/invites_to_friends/invitestofriends/bench/Call", "answered", "()Z"⟩ : MethodName) prog_5_method_2_code 1 (some .boolean) :: ws) ({ frames := 0, cells := 0, slots := 0, locals := 0 } : Room)) (fun a U => a = #[(.ref a1)] ∧ Z.Warmed39 U.vm ∧ U.heap = h0) (fun _ _ _ _ _ => True) (fun _ U o U' => ∃ v L, o = .returned v ∧ Q5 Z a1 w1 h0 n0 v U'.heap L ∧ FrameEnd U o U' L ({ frames := 0, cells := 0, slots := 0, locals := 0 } : Room).cells ({ frames := 0, cells := 0, slots := 0, locals := 0 } : Room).slots) := by
  refine MetFree.of_bodySF (plainFor_of_name pn_1) hisR ?_
  intro p e s m args below meth c s₁ Bd hml0 hP hK
  obtain ⟨rfl, hZ, hh⟩ := hP
  have hx := Bd.exec
  have hby := Bd.bytes
  have hml : c.maxLocals = 1 := hml0
  have hown : s.vm.findClass "com/example/invites_to_friends/invitestofriends/bench/Call" = some m.cls := findClass_of_methodNamed Bd.named
  have hnm := (name_of_methodNamed Bd.named Bd.method).1
  have hlk : meth.locks = false := BodyLoose.notSynchronized Bd
  have X0 : Stand p l e ({ frames := 0, cells := 0, slots := 0, locals := 0 } : Room) s m #[(.ref a1)] below meth c s₁ [] 0 0 := Stand.of_body Bd
  have e0 : s₁.heap = h0 := by rw [← hh, Bd.state]; rfl
  have N0 := Fr.nil n0
  have K0 : Keep h0 h0 [] := Keep.refl h0 _
  have key : ∀ (F0 : State) (G : Prop), (own_G p e below s F0 (Q5 Z a1 w1 h0 n0) ({ frames := 0, cells := 0, slots := 0, locals := 0 } : Room).cells ({ frames := 0, cells := 0, slots := 0, locals := 0 } : Room).slots → G) → own_R p.tables e below F0 (s₁.setTop (mkF m 0 #[.val (.ref a1)] [])) → G := by
    intro F0 G hG r0
    have r56 : own_R p.tables e below F0 (s₁.setTop (mkF m 1 #[.val (.ref a1)] [(.ref a1)])) := fun t k => by
      refine r0 t ?_
      show Steps p.tables e below (s₁.setTop (mkF m 0 #[.val (.ref a1)] [])) _
      refine XS.aloadN X0.here hx rfl (hb hby d5_0) rfl rfl ?_
      exact k
    obtain ⟨T57, X57, e57, st57⟩ := getF X0 hx hZ hown (host := "") (Or.inl (hw _ (List.mem_of_getElem? (i := 20) rfl))) Via.refl e0 F_w1 (g := (mkF m 1 #[.val (.ref a1)] [(.ref a1)])) rfl rfl (hb hby d5_1)
    have r57 : own_R p.tables e below F0 (T57.setTop (mkF m 4 #[.val (.ref a1)] [(.int w1)])) := fun t k => r56 t (st57 t k)
    by_cases hc58 : w1 = (0 : Int32)
    · have r59 : own_R p.tables e below F0 (T57.setTop (mkF m 12 #[.val (.ref a1)] [(.int (0 : Int32))])) := fun t k => by
        refine r57 t ?_
        show Steps p.tables e below (T57.setTop (mkF m 4 #[.val (.ref a1)] [(.int w1)])) _
        refine XS.ifYes X57.here hx rfl (pc0 := 4) (pc' := 11) rfl (hb hby d5_4) rfl ((if0 _ _).trans (teq hc58).1) (by decide) (by decide) ?_
        show Steps p.tables e below (T57.setTop (mkF m 11 #[.val (.ref a1)] [])) _
        refine XS.iconst X57.here hx rfl (hb hby d5_11) ?_
        exact k
      refine hG (own_fin X57 hlk (some (.int (nar .boolean (0 : Int32)))) (own_hv Bd.returns) ?_ (by decide) (by decide) (fun fs hr => r59 _ (retN X57 hx (t := .boolean) Bd.returns (by simp) (hb hby d5_12) hr)))
      rw [e57]
      refine ⟨?_, N0, rfl⟩
      have ev : (own_answ w1) = (0 : Int32) := by unfold own_answ; rw [if_pos hc58]
      rw [ev]
      rfl
    · have r60 : own_R p.tables e below F0 (T57.setTop (mkF m 12 #[.val (.ref a1)] [(.int (1 : Int32))])) := fun t k => by
        refine r57 t ?_
        show Steps p.tables e below (T57.setTop (mkF m 4 #[.val (.ref a1)] [(.int w1)])) _
        refine XS.ifNo X57.here hx rfl (hb hby d5_4) rfl ((if0 _ _).trans (feq hc58).1) ?_
        show Steps p.tables e below (T57.setTop (mkF m 7 #[.val (.ref a1)] [])) _
        refine XS.iconst X57.here hx rfl (hb hby d5_7) ?_
        show Steps p.tables e below (T57.setTop (mkF m 8 #[.val (.ref a1)] [(.int (1 : Int32))])) _
        refine XS.goto X57.here hx rfl (pc0 := 8) (pc' := 12) rfl (hb hby d5_8) (by decide) (by decide) ?_
        exact k
      refine hG (own_fin X57 hlk (some (.int (nar .boolean (1 : Int32)))) (own_hv Bd.returns) ?_ (by decide) (by decide) (fun fs hr => r60 _ (retN X57 hx (t := .boolean) Bd.returns (by simp) (hb hby d5_12) hr)))
      rw [e57]
      refine ⟨?_, N0, rfl⟩
      have ev : (own_answ w1) = (1 : Int32) := by unfold own_answ; rw [if_neg hc58]
      rw [ev]
      rfl
  exact key _ _ id (fun t k => castTop (ef_5 m a1) k)
theorem pn_2 : plainName "com/example/invites_to_friends/invitestofriends/bench/CallSucceededPinLaw" = true := by first | (simp [plainName, overriddenIn]; done) | decide +kernel
theorem pd_1 : parseMethodDescriptor "(JJI[B)V" = some ⟨[.long, .long, .int, (.array .byte)], none⟩ := by decide +kernel
theorem pd_2 : parseMethodDescriptor "()Z" = some ⟨[], some .boolean⟩ := by decide +kernel
theorem ef_0 (m : MethodId) (x0 : Int32) (x1 : Int32) (x2 : Int64) (x3 : Int64) (x4 : Int32) : entryFrame m #[(.int x0), (.int x1), (.long x2), (.long x3), (.int x4)] maxLocals = mkF m 0 #[.val (.int x0), .val (.int x1), .val (.long x2), .second, .val (.long x3), .second, .val (.int x4), .unset, .unset, .unset, .unset, .unset] [] := by first | (simp [entryFrame, mkF, argsToLocals, Value.category, maxLocals]; done) | rfl
def Q0 (Z : State) (p0s : Int32) (p1s : Int32) (p2s : Int64) (p3s : Int64) (p4s : Int32) (h0 : Heap) (n0 : Nat) (v : Option Value) (h : Heap) (L : List Loc) : Prop := v = some (.int (1 : Int32)) ∧ Fr n0 L
set_option maxRecDepth 65536 in
set_option maxHeartbeats 40000000 in
theorem rm0 (l : Launch) (Z : State) (a0 : Array Value) (hw : ∀ d ∈ tables_1, d.before a0 Z = true) (ws : List Jvm.Cond) (p0s : Int32) (p1s : Int32) (p2s : Int64) (p3s : Int64) (p4s : Int32) (h0 : Heap) (n0 : Nat) (Z0 : n0 ≤ h0.size) :
    MetFree l x (head1 (Jvm.Cond.code x code maxLocals ret :: ws) room_1) (fun a U => a = #[(.int p0s), (.int p1s), (.long p2s), (.long p3s), (.int p4s)] ∧ Z.Warmed39 U.vm ∧ U.heap = h0) (fun _ _ _ _ _ => True) (fun _ U o U' => ∃ v L, o = .returned v ∧ Q0 Z p0s p1s p2s p3s p4s h0 n0 v U'.heap L ∧ FrameEnd U o U' L 16 128) := by
  refine MetFree.of_bodySF (plainFor_of_name pn_2) hisR ?_
  intro p e s m args below meth c s₁ Bd hml0 hP hK
  obtain ⟨rfl, hZ, hh⟩ := hP
  have hx := Bd.exec
  have hby := Bd.bytes
  have hml : c.maxLocals = 12 := hml0
  have hown : s.vm.findClass "com/example/invites_to_friends/invitestofriends/bench/CallSucceededPinLaw" = some m.cls := findClass_of_methodNamed Bd.named
  have hnm := (name_of_methodNamed Bd.named Bd.method).1
  have hlk : meth.locks = false := BodyLoose.notSynchronized Bd
  have X0 : Stand p l e room_1 s m #[(.int p0s), (.int p1s), (.long p2s), (.long p3s), (.int p4s)] below meth c s₁ [] 0 0 := Stand.of_body Bd
  have e0 : s₁.heap = h0 := by rw [← hh, Bd.state]; rfl
  have N0 := Fr.nil n0
  have K0 : Keep h0 h0 [] := Keep.refl h0 _
  have key : ∀ (F0 : State) (G : Prop), (own_G p e below s F0 (Q0 Z p0s p1s p2s p3s p4s h0 n0) 16 128 → G) → own_R p.tables e below F0 (s₁.setTop (mkF m 0 #[.val (.int p0s), .val (.int p1s), .val (.long p2s), .second, .val (.long p3s), .second, .val (.int p4s), .unset, .unset, .unset, .unset, .unset] [])) → G := by
    intro F0 G hG r0
    have r61 : own_R p.tables e below F0 (s₁.setTop (mkF m 3 #[.val (.int p0s), .val (.int p1s), .val (.long p2s), .second, .val (.long p3s), .second, .val (.int p4s), .unset, .unset, .unset, .unset, .unset] [(.int (p1s &&& (1 : Int32)))])) := fun t k => by
      refine r0 t ?_
      show Steps p.tables e below (s₁.setTop (mkF m 0 #[.val (.int p0s), .val (.int p1s), .val (.long p2s), .second, .val (.long p3s), .second, .val (.int p4s), .unset, .unset, .unset, .unset, .unset] [])) _
      refine XS.iloadN X0.here hx rfl (hb hby at_0) rfl ?_
      show Steps p.tables e below (s₁.setTop (mkF m 1 #[.val (.int p0s), .val (.int p1s), .val (.long p2s), .second, .val (.long p3s), .second, .val (.int p4s), .unset, .unset, .unset, .unset, .unset] [(.int p1s)])) _
      refine XS.iconst X0.here hx rfl (hb hby at_1) ?_
      show Steps p.tables e below (s₁.setTop (mkF m 2 #[.val (.int p0s), .val (.int p1s), .val (.long p2s), .second, .val (.long p3s), .second, .val (.int p4s), .unset, .unset, .unset, .unset, .unset] [(.int (1 : Int32)), (.int p1s)])) _
      refine XS.iand X0.here hx rfl (hb hby at_2) rfl ?_
      exact k
    have J62 : ∀ (stt : Int32)  (r63 : own_R p.tables e below F0 (s₁.setTop (mkF m 26 #[.val (.int p0s), .val (.int p1s), .val (.long p2s), .second, .val (.long p3s), .second, .val (.int p4s), .val (.int stt), .unset, .unset, .unset, .unset] []))), G := by
      intro stt r63
      have r64 : own_R p.tables e below F0 (s₁.setTop (mkF m 29 #[.val (.int p0s), .val (.int p1s), .val (.long p2s), .second, .val (.long p3s), .second, .val (.int p4s), .val (.int stt), .unset, .unset, .unset, .unset] [(.int (p1s &&& (2 : Int32)))])) := fun t k => by
        refine r63 t ?_
        show Steps p.tables e below (s₁.setTop (mkF m 26 #[.val (.int p0s), .val (.int p1s), .val (.long p2s), .second, .val (.long p3s), .second, .val (.int p4s), .val (.int stt), .unset, .unset, .unset, .unset] [])) _
        refine XS.iloadN X0.here hx rfl (hb hby at_26) rfl ?_
        show Steps p.tables e below (s₁.setTop (mkF m 27 #[.val (.int p0s), .val (.int p1s), .val (.long p2s), .second, .val (.long p3s), .second, .val (.int p4s), .val (.int stt), .unset, .unset, .unset, .unset] [(.int p1s)])) _
        refine XS.iconst X0.here hx rfl (hb hby at_27) ?_
        show Steps p.tables e below (s₁.setTop (mkF m 28 #[.val (.int p0s), .val (.int p1s), .val (.long p2s), .second, .val (.long p3s), .second, .val (.int p4s), .val (.int stt), .unset, .unset, .unset, .unset] [(.int (2 : Int32)), (.int p1s)])) _
        refine XS.iand X0.here hx rfl (hb hby at_28) rfl ?_
        exact k
      have J65 : ∀ (bb : Addr) (T66 : State) (lo73 : List Loc) (h68 : Heap) (X67 : Stand p l e room_1 s m #[(.int p0s), (.int p1s), (.long p2s), (.long p3s), (.int p4s)] below meth c T66 lo73 1 1) (e69 : T66.heap = h68) (N70 : Fr n0 lo73) (Zs71 : n0 ≤ h68.size) (K72 : Keep h0 h68 []) (r74 : own_R p.tables e below F0 (T66.setTop (mkF m 51 #[.val (.int p0s), .val (.int p1s), .val (.long p2s), .second, .val (.long p3s), .second, .val (.int p4s), .val (.int stt), .val (.ref bb), .unset, .unset, .unset] []))), G := by
        intro bb T66 lo73 h68 X67 e69 N70 Zs71 K72 r74
        obtain ⟨T75, h75, X75, e75, E75, A75, D75, -, st75⟩ := newO X67 hx hZ hown (hw _ (List.mem_of_getElem? (i := 2) rfl)) (hw _ (List.mem_of_getElem? (i := 3) rfl)) (hw _ (List.mem_of_getElem? (i := 4) rfl)) e69 (g := (mkF m 51 #[.val (.int p0s), .val (.int p1s), .val (.long p2s), .second, .val (.long p3s), .second, .val (.int p4s), .val (.int stt), .val (.ref bb), .unset, .unset, .unset] [])) rfl (hb hby at_51) (by decide) (by decide)
        obtain ⟨b75, g75⟩ : ∃ z, z = h68.size := ⟨_, rfl⟩
        rw [← g75] at A75 D75 st75
        have ge75 : n0 ≤ b75 := Nat.le_trans Zs71 (Nat.le_of_eq g75.symm)
        have old75 : h0.size ≤ b75 := Nat.le_trans K72.1 (Nat.le_of_eq g75.symm)
        have K75 : Keep h0 h75 [] := K72.ext E75
        have Zs76 : n0 ≤ h75.size := Nat.le_trans Zs71 E75.1
        have F77 : Fld Z h75 b75 "com/example/invites_to_friends/invitestofriends/bench/Call" "started" "J" (.long (0 : Int64)) := D75 (Or.inr (hw _ (List.mem_of_getElem? (i := 17) rfl))) (ty := .long) (by decide)
        have F78 : Fld Z h75 b75 "com/example/invites_to_friends/invitestofriends/bench/Call" "ended" "J" (.long (0 : Int64)) := D75 (Or.inr (hw _ (List.mem_of_getElem? (i := 19) rfl))) (ty := .long) (by decide)
        have F79 : Fld Z h75 b75 "com/example/invites_to_friends/invitestofriends/bench/Call" "status" "I" (.int (0 : Int32)) := D75 (Or.inr (hw _ (List.mem_of_getElem? (i := 21) rfl))) (ty := .int) (by decide)
        have F80 : Fld Z h75 b75 "com/example/invites_to_friends/invitestofriends/bench/Call" "body" "[B" .null := D75 (Or.inr (hw _ (List.mem_of_getElem? (i := 23) rfl))) (ty := (.array .byte)) (by decide)
        have r75 : own_R p.tables e below F0 (T75.setTop (mkF m 54 #[.val (.int p0s), .val (.int p1s), .val (.long p2s), .second, .val (.long p3s), .second, .val (.int p4s), .val (.int stt), .val (.ref bb), .unset, .unset, .unset] [(.ref b75)])) := fun t k => r74 t (st75 t k)
        have r81 : own_R p.tables e below F0 (T75.setTop (mkF m 62 #[.val (.int p0s), .val (.int p1s), .val (.long p2s), .second, .val (.long p3s), .second, .val (.int p4s), .val (.int stt), .val (.ref bb), .unset, .unset, .unset] [(.ref bb), (.int stt), (.long p3s), (.long p2s), (.ref b75), (.ref b75)])) := fun t k => by
          refine r75 t ?_
          show Steps p.tables e below (T75.setTop (mkF m 54 #[.val (.int p0s), .val (.int p1s), .val (.long p2s), .second, .val (.long p3s), .second, .val (.int p4s), .val (.int stt), .val (.ref bb), .unset, .unset, .unset] [(.ref b75)])) _
          refine XS.dup X75.here hx rfl (hb hby at_54) rfl rfl ?_
          show Steps p.tables e below (T75.setTop (mkF m 55 #[.val (.int p0s), .val (.int p1s), .val (.long p2s), .second, .val (.long p3s), .second, .val (.int p4s), .val (.int stt), .val (.ref bb), .unset, .unset, .unset] [(.ref b75), (.ref b75)])) _
          refine XS.lloadN X75.here hx rfl (hb hby at_55) rfl ?_
          show Steps p.tables e below (T75.setTop (mkF m 56 #[.val (.int p0s), .val (.int p1s), .val (.long p2s), .second, .val (.long p3s), .second, .val (.int p4s), .val (.int stt), .val (.ref bb), .unset, .unset, .unset] [(.long p2s), (.ref b75), (.ref b75)])) _
          refine XS.lload X75.here hx rfl (hb hby at_56) rfl ?_
          show Steps p.tables e below (T75.setTop (mkF m 58 #[.val (.int p0s), .val (.int p1s), .val (.long p2s), .second, .val (.long p3s), .second, .val (.int p4s), .val (.int stt), .val (.ref bb), .unset, .unset, .unset] [(.long p3s), (.long p2s), (.ref b75), (.ref b75)])) _
          refine XS.iload X75.here hx rfl (hb hby at_58) rfl ?_
          show Steps p.tables e below (T75.setTop (mkF m 60 #[.val (.int p0s), .val (.int p1s), .val (.long p2s), .second, .val (.long p3s), .second, .val (.int p4s), .val (.int stt), .val (.ref bb), .unset, .unset, .unset] [(.int stt), (.long p3s), (.long p2s), (.ref b75), (.ref b75)])) _
          refine XS.aload X75.here hx rfl (hb hby at_60) rfl rfl ?_
          exact k
        obtain ⟨_, _, ⟨T82, L82, k82, n82⟩, -, X82, ⟨Lc82, hQ82, l82, y82, z82⟩, st82⟩ := X75.specialBack hx (y := (⟨"com/example/invites_to_friends/invitestofriends/bench/Call", "<init>", "(JJI[B)V"⟩ : MethodName)) rfl hown (mvT hZ (hw _ (List.mem_of_getElem? (i := 5) rfl))) (mvT hZ (hw _ (List.mem_of_getElem? (i := 6) rfl))) (mvT hZ (hw _ (List.mem_of_getElem? (i := 7) rfl))) (by decide) (backOf (W := 1) (rm1 l Z a0 hw [] b75 p2s p3s stt bb h75 n0 Zs76 A75 F77 F78 F79 F80 ge75) hZ (hw _ (List.mem_of_getElem? (i := 7) rfl)) (hw _ (List.mem_of_getElem? (i := 4) rfl)) (by decide) (by decide)) (g := (mkF m 62 #[.val (.int p0s), .val (.int p1s), .val (.long p2s), .second, .val (.long p3s), .second, .val (.int p4s), .val (.int stt), .val (.ref bb), .unset, .unset, .unset] [(.ref bb), (.int stt), (.long p3s), (.long p2s), (.ref b75), (.ref b75)])) rfl (by rw [hml]; rfl) (Steps.refl _) (a := b75) (argsL := [(.long p2s), (.long p3s), (.int stt), (.ref bb)]) (rest := [(.ref b75)]) (lenOf pd_1 rfl) rfl (by show 2 * 0 + _ ≤ _; exact Nat.le_of_eq rfl) (hb hby at_62) (fun _ _ => ⟨rfl, e75, (by decide : 2 + 0 ≤ _), (by decide : 5 + 0 ≤ _)⟩)
        dsimp only [Pt.U, Pt.locs, Pt.cells, Pt.slots] at X82 l82 y82 z82 st82 hQ82
        subst l82 y82 z82
        obtain ⟨rfl, N82q, I82_0, I82_1, I82_2, I82_3, I82_4, I82_5⟩ := hQ82
        have N82 := Fr.app N70 N82q
        obtain ⟨h82, e82⟩ : ∃ z, T82.heap = z := ⟨_, rfl⟩
        rw [e82] at I82_0 I82_1 I82_2 I82_3 I82_4 I82_5
        have K83 : Keep h0 h82 [] := K75.trans I82_0 (allS (Or.inr old75) all0)
        have Zs84 : n0 ≤ h82.size := Nat.le_trans Zs76 I82_0.1
        have r82 : own_R p.tables e below F0 (T82.setTop (mkF m 65 #[.val (.int p0s), .val (.int p1s), .val (.long p2s), .second, .val (.long p3s), .second, .val (.int p4s), .val (.int stt), .val (.ref bb), .unset, .unset, .unset] [(.ref b75)])) := fun t k => r81 t (st82.trans k)
        have r85 : own_R p.tables e below F0 (T82.setTop (mkF m 69 #[.val (.int p0s), .val (.int p1s), .val (.long p2s), .second, .val (.long p3s), .second, .val (.int p4s), .val (.int stt), .val (.ref bb), .val (.ref b75), .unset, .unset] [(.ref b75)])) := fun t k => by
          refine r82 t ?_
          show Steps p.tables e below (T82.setTop (mkF m 65 #[.val (.int p0s), .val (.int p1s), .val (.long p2s), .second, .val (.long p3s), .second, .val (.int p4s), .val (.int stt), .val (.ref bb), .unset, .unset, .unset] [(.ref b75)])) _
          refine XS.astore X82.here hx rfl (hb hby at_65) rfl rfl (l' := #[.val (.int p0s), .val (.int p1s), .val (.long p2s), .second, .val (.long p3s), .second, .val (.int p4s), .val (.int stt), .val (.ref bb), .val (.ref b75), .unset, .unset]) rfl ?_
          show Steps p.tables e below (T82.setTop (mkF m 67 #[.val (.int p0s), .val (.int p1s), .val (.long p2s), .second, .val (.long p3s), .second, .val (.int p4s), .val (.int stt), .val (.ref bb), .val (.ref b75), .unset, .unset] [])) _
          refine XS.aload X82.here hx rfl (hb hby at_67) rfl rfl ?_
          exact k
        obtain ⟨cq86, kq86, q86a, q86b, q86c⟩ := isOf hZ e82 I82_1
        obtain ⟨_, _, ⟨T86, L86, k86, n86⟩, -, X86, ⟨Lc86, hQ86, l86, y86, z86⟩, st86⟩ := X82.virtualBack hx (y := (⟨"com/example/invites_to_friends/invitestofriends/bench/Call", "succeeded", "()Z"⟩ : MethodName)) (z := (⟨"com/example/invites_to_friends/invitestofriends/bench/Call", "succeeded", "()Z"⟩ : MethodName)) hown (mvT hZ (hw _ (List.mem_of_getElem? (i := 24) rfl))) (mvT hZ (hw _ (List.mem_of_getElem? (i := 25) rfl))) (notFace_of_selects (args := #[]) (mvT hZ (hw _ (List.mem_of_getElem? (i := 27) rfl)))) (mvT hZ (hw _ (List.mem_of_getElem? (i := 27) rfl))) (mvT hZ (hw _ (List.mem_of_getElem? (i := 26) rfl))) (by decide) (backOf (W := 0) (rm4 l Z a0 hw [] b75 (stt) h82 n0 Zs84 I82_4) hZ (hw _ (List.mem_of_getElem? (i := 28) rfl)) (hw _ (List.mem_of_getElem? (i := 4) rfl)) (by decide) (by decide)) q86a q86c (g := (mkF m 69 #[.val (.int p0s), .val (.int p1s), .val (.long p2s), .second, .val (.long p3s), .second, .val (.int p4s), .val (.int stt), .val (.ref bb), .val (.ref b75), .unset, .unset] [(.ref b75)])) rfl (by rw [hml]; rfl) (Steps.refl _) (argsL := []) (rest := []) (lenOf pd_2 rfl) rfl (by show 2 * 0 + _ ≤ _; exact Nat.le_of_eq rfl) (hb hby at_69) (fun _ _ => ⟨rfl, e82, (by decide : 2 + 0 ≤ _), (by decide : 5 + 0 ≤ _)⟩)
        dsimp only [Pt.U, Pt.locs, Pt.cells, Pt.slots] at X86 l86 y86 z86 st86 hQ86
        subst l86 y86 z86
        obtain ⟨rfl, N86q, I86_0⟩ := hQ86
        have N86 := Fr.app N82 N86q
        have r86 : own_R p.tables e below F0 (T86.setTop (mkF m 72 #[.val (.int p0s), .val (.int p1s), .val (.long p2s), .second, .val (.long p3s), .second, .val (.int p4s), .val (.int stt), .val (.ref bb), .val (.ref b75), .unset, .unset] [(.int (own_succ stt))])) := fun t k => r85 t (st86.trans k)
        by_cases hc87 : stt < (200 : Int32)
        · have ev88 : (own_succ stt) = (0 : Int32) := by unfold own_succ; rw [if_pos hc87]
          have r89 : own_R p.tables e below F0 (T86.setTop (mkF m 72 #[.val (.int p0s), .val (.int p1s), .val (.long p2s), .second, .val (.long p3s), .second, .val (.int p4s), .val (.int stt), .val (.ref bb), .val (.ref b75), .unset, .unset] [(.int (0 : Int32))])) := by have q := r86; rw [ev88] at q; exact q
          have r90 : own_R p.tables e below F0 (T86.setTop (mkF m 80 #[.val (.int p0s), .val (.int p1s), .val (.long p2s), .second, .val (.long p3s), .second, .val (.int p4s), .val (.int stt), .val (.ref bb), .val (.ref b75), .val (.int (0 : Int32)), .unset] [(.int (2 : Int32)), (.int (stt / (100 : Int32)))])) := fun t k => by
            refine r89 t ?_
            show Steps p.tables e below (T86.setTop (mkF m 72 #[.val (.int p0s), .val (.int p1s), .val (.long p2s), .second, .val (.long p3s), .second, .val (.int p4s), .val (.int stt), .val (.ref bb), .val (.ref b75), .unset, .unset] [(.int (0 : Int32))])) _
            refine XS.istore X86.here hx rfl (hb hby at_72) rfl (l' := #[.val (.int p0s), .val (.int p1s), .val (.long p2s), .second, .val (.long p3s), .second, .val (.int p4s), .val (.int stt), .val (.ref bb), .val (.ref b75), .val (.int (0 : Int32)), .unset]) rfl ?_
            show Steps p.tables e below (T86.setTop (mkF m 74 #[.val (.int p0s), .val (.int p1s), .val (.long p2s), .second, .val (.long p3s), .second, .val (.int p4s), .val (.int stt), .val (.ref bb), .val (.ref b75), .val (.int (0 : Int32)), .unset] [])) _
            refine XS.iload X86.here hx rfl (hb hby at_74) rfl ?_
            show Steps p.tables e below (T86.setTop (mkF m 76 #[.val (.int p0s), .val (.int p1s), .val (.long p2s), .second, .val (.long p3s), .second, .val (.int p4s), .val (.int stt), .val (.ref bb), .val (.ref b75), .val (.int (0 : Int32)), .unset] [(.int stt)])) _
            refine XS.bipush X86.here hx rfl (hb hby at_76) ?_
            show Steps p.tables e below (T86.setTop (mkF m 78 #[.val (.int p0s), .val (.int p1s), .val (.long p2s), .second, .val (.long p3s), .second, .val (.int p4s), .val (.int stt), .val (.ref bb), .val (.ref b75), .val (.int (0 : Int32)), .unset] [(.int (100 : Int32)), (.int stt)])) _
            refine XS.idiv X86.here hx rfl (hb hby at_78) rfl (by decide) ?_
            show Steps p.tables e below (T86.setTop (mkF m 79 #[.val (.int p0s), .val (.int p1s), .val (.long p2s), .second, .val (.long p3s), .second, .val (.int p4s), .val (.int stt), .val (.ref bb), .val (.ref b75), .val (.int (0 : Int32)), .unset] [(.int (stt / (100 : Int32)))])) _
            refine XS.iconst X86.here hx rfl (hb hby at_79) ?_
            exact k
          by_cases hc91 : (stt / (100 : Int32)) = (2 : Int32)
          · have r92 : own_R p.tables e below F0 (T86.setTop (mkF m 98 #[.val (.int p0s), .val (.int p1s), .val (.long p2s), .second, .val (.long p3s), .second, .val (.int p4s), .val (.int stt), .val (.ref bb), .val (.ref b75), .val (.int (0 : Int32)), .val (.int (1 : Int32))] [(.int (0 : Int32))])) := fun t k => by
              refine r90 t ?_
              show Steps p.tables e below (T86.setTop (mkF m 80 #[.val (.int p0s), .val (.int p1s), .val (.long p2s), .second, .val (.long p3s), .second, .val (.int p4s), .val (.int stt), .val (.ref bb), .val (.ref b75), .val (.int (0 : Int32)), .unset] [(.int (2 : Int32)), (.int (stt / (100 : Int32)))])) _
              refine XS.icmpNo X86.here hx rfl (hb hby at_80) rfl (teq hc91).2 ?_
              show Steps p.tables e below (T86.setTop (mkF m 83 #[.val (.int p0s), .val (.int p1s), .val (.long p2s), .second, .val (.long p3s), .second, .val (.int p4s), .val (.int stt), .val (.ref bb), .val (.ref b75), .val (.int (0 : Int32)), .unset] [])) _
              refine XS.iconst X86.here hx rfl (hb hby at_83) ?_
              show Steps p.tables e below (T86.setTop (mkF m 84 #[.val (.int p0s), .val (.int p1s), .val (.long p2s), .second, .val (.long p3s), .second, .val (.int p4s), .val (.int stt), .val (.ref bb), .val (.ref b75), .val (.int (0 : Int32)), .unset] [(.int (1 : Int32))])) _
              refine XS.goto X86.here hx rfl (pc0 := 84) (pc' := 88) rfl (hb hby at_84) (by decide) (by decide) ?_
              show Steps p.tables e below (T86.setTop (mkF m 88 #[.val (.int p0s), .val (.int p1s), .val (.long p2s), .second, .val (.long p3s), .second, .val (.int p4s), .val (.int stt), .val (.ref bb), .val (.ref b75), .val (.int (0 : Int32)), .unset] [(.int (1 : Int32))])) _
              refine XS.istore X86.here hx rfl (hb hby at_88) rfl (l' := #[.val (.int p0s), .val (.int p1s), .val (.long p2s), .second, .val (.long p3s), .second, .val (.int p4s), .val (.int stt), .val (.ref bb), .val (.ref b75), .val (.int (0 : Int32)), .val (.int (1 : Int32))]) rfl ?_
              show Steps p.tables e below (T86.setTop (mkF m 90 #[.val (.int p0s), .val (.int p1s), .val (.long p2s), .second, .val (.long p3s), .second, .val (.int p4s), .val (.int stt), .val (.ref bb), .val (.ref b75), .val (.int (0 : Int32)), .val (.int (1 : Int32))] [])) _
              refine XS.iload X86.here hx rfl (hb hby at_90) rfl ?_
              show Steps p.tables e below (T86.setTop (mkF m 92 #[.val (.int p0s), .val (.int p1s), .val (.long p2s), .second, .val (.long p3s), .second, .val (.int p4s), .val (.int stt), .val (.ref bb), .val (.ref b75), .val (.int (0 : Int32)), .val (.int (1 : Int32))] [(.int (0 : Int32))])) _
              refine XS.iload X86.here hx rfl (hb hby at_92) rfl ?_
              show Steps p.tables e below (T86.setTop (mkF m 94 #[.val (.int p0s), .val (.int p1s), .val (.long p2s), .second, .val (.long p3s), .second, .val (.int p4s), .val (.int stt), .val (.ref bb), .val (.ref b75), .val (.int (0 : Int32)), .val (.int (1 : Int32))] [(.int (1 : Int32)), (.int (0 : Int32))])) _
              refine XS.icmpNo X86.here hx rfl (hb hby at_94) rfl (feq (show ¬ ((0 : Int32) = (1 : Int32)) from by decide)).1 ?_
              show Steps p.tables e below (T86.setTop (mkF m 97 #[.val (.int p0s), .val (.int p1s), .val (.long p2s), .second, .val (.long p3s), .second, .val (.int p4s), .val (.int stt), .val (.ref bb), .val (.ref b75), .val (.int (0 : Int32)), .val (.int (1 : Int32))] [])) _
              refine XS.iconst X86.here hx rfl (hb hby at_97) ?_
              exact k
            exfalso
            have q41_r := own_R32 stt
            have q42_e : (200 : Int32).toInt = 200 := (by decide)
            have q42_r : (200 : Int) ≤ (200 : Int32).toInt ∧ (200 : Int32).toInt ≤ 200 := ⟨Int.le_of_eq q42_e.symm, Int.le_of_eq q42_e⟩
            have q43_e : (100 : Int32).toInt = 100 := (by decide)
            have q43_r : (100 : Int) ≤ (100 : Int32).toInt ∧ (100 : Int32).toInt ≤ 100 := ⟨Int.le_of_eq q43_e.symm, Int.le_of_eq q43_e⟩
            have q44_r := own_R32 (stt / (100 : Int32))
            have q45_ := c_idiv stt (100 : Int32) 100 (by decide) (by decide)
            have q46_e : (2 : Int32).toInt = 2 := (by decide)
            have q46_r : (2 : Int) ≤ (2 : Int32).toInt ∧ (2 : Int32).toInt ≤ 2 := ⟨Int.le_of_eq q46_e.symm, Int.le_of_eq q46_e⟩
            have q47_c := own_lt32 hc87
            have q48_c := own_eq32 hc91
            omega
          · have r93 : own_R p.tables e below F0 (T86.setTop (mkF m 115 #[.val (.int p0s), .val (.int p1s), .val (.long p2s), .second, .val (.long p3s), .second, .val (.int p4s), .val (.int stt), .val (.ref bb), .val (.ref b75), .val (.int (0 : Int32)), .val (.int (0 : Int32))] [(.int (1 : Int32))])) := fun t k => by
              refine r90 t ?_
              show Steps p.tables e below (T86.setTop (mkF m 80 #[.val (.int p0s), .val (.int p1s), .val (.long p2s), .second, .val (.long p3s), .second, .val (.int p4s), .val (.int stt), .val (.ref bb), .val (.ref b75), .val (.int (0 : Int32)), .unset] [(.int (2 : Int32)), (.int (stt / (100 : Int32)))])) _
              refine XS.icmpYes X86.here hx rfl (pc0 := 80) (pc' := 87) rfl (hb hby at_80) rfl (feq hc91).2 (by decide) (by decide) ?_
              show Steps p.tables e below (T86.setTop (mkF m 87 #[.val (.int p0s), .val (.int p1s), .val (.long p2s), .second, .val (.long p3s), .second, .val (.int p4s), .val (.int stt), .val (.ref bb), .val (.ref b75), .val (.int (0 : Int32)), .unset] [])) _
              refine XS.iconst X86.here hx rfl (hb hby at_87) ?_
              show Steps p.tables e below (T86.setTop (mkF m 88 #[.val (.int p0s), .val (.int p1s), .val (.long p2s), .second, .val (.long p3s), .second, .val (.int p4s), .val (.int stt), .val (.ref bb), .val (.ref b75), .val (.int (0 : Int32)), .unset] [(.int (0 : Int32))])) _
              refine XS.istore X86.here hx rfl (hb hby at_88) rfl (l' := #[.val (.int p0s), .val (.int p1s), .val (.long p2s), .second, .val (.long p3s), .second, .val (.int p4s), .val (.int stt), .val (.ref bb), .val (.ref b75), .val (.int (0 : Int32)), .val (.int (0 : Int32))]) rfl ?_
              show Steps p.tables e below (T86.setTop (mkF m 90 #[.val (.int p0s), .val (.int p1s), .val (.long p2s), .second, .val (.long p3s), .second, .val (.int p4s), .val (.int stt), .val (.ref bb), .val (.ref b75), .val (.int (0 : Int32)), .val (.int (0 : Int32))] [])) _
              refine XS.iload X86.here hx rfl (hb hby at_90) rfl ?_
              show Steps p.tables e below (T86.setTop (mkF m 92 #[.val (.int p0s), .val (.int p1s), .val (.long p2s), .second, .val (.long p3s), .second, .val (.int p4s), .val (.int stt), .val (.ref bb), .val (.ref b75), .val (.int (0 : Int32)), .val (.int (0 : Int32))] [(.int (0 : Int32))])) _
              refine XS.iload X86.here hx rfl (hb hby at_92) rfl ?_
              show Steps p.tables e below (T86.setTop (mkF m 94 #[.val (.int p0s), .val (.int p1s), .val (.long p2s), .second, .val (.long p3s), .second, .val (.int p4s), .val (.int stt), .val (.ref bb), .val (.ref b75), .val (.int (0 : Int32)), .val (.int (0 : Int32))] [(.int (0 : Int32)), (.int (0 : Int32))])) _
              refine XS.icmpYes X86.here hx rfl (pc0 := 94) (pc' := 99) rfl (hb hby at_94) rfl (teq (show (0 : Int32) = (0 : Int32) from by decide)).1 (by decide) (by decide) ?_
              show Steps p.tables e below (T86.setTop (mkF m 99 #[.val (.int p0s), .val (.int p1s), .val (.long p2s), .second, .val (.long p3s), .second, .val (.int p4s), .val (.int stt), .val (.ref bb), .val (.ref b75), .val (.int (0 : Int32)), .val (.int (0 : Int32))] [])) _
              refine XS.iload X86.here hx rfl (hb hby at_99) rfl ?_
              show Steps p.tables e below (T86.setTop (mkF m 101 #[.val (.int p0s), .val (.int p1s), .val (.long p2s), .second, .val (.long p3s), .second, .val (.int p4s), .val (.int stt), .val (.ref bb), .val (.ref b75), .val (.int (0 : Int32)), .val (.int (0 : Int32))] [(.int (0 : Int32))])) _
              refine XS.ifYes X86.here hx rfl (pc0 := 101) (pc' := 114) rfl (hb hby at_101) rfl ((if0 _ _).trans (teq (show (0 : Int32) = (0 : Int32) from by decide)).1) (by decide) (by decide) ?_
              show Steps p.tables e below (T86.setTop (mkF m 114 #[.val (.int p0s), .val (.int p1s), .val (.long p2s), .second, .val (.long p3s), .second, .val (.int p4s), .val (.int stt), .val (.ref bb), .val (.ref b75), .val (.int (0 : Int32)), .val (.int (0 : Int32))] [])) _
              refine XS.iconst X86.here hx rfl (hb hby at_114) ?_
              exact k
            refine hG (own_fin X86 hlk (some (.int (nar .boolean (1 : Int32)))) (own_hv Bd.returns) ?_ (by decide) (by decide) (fun fs hr => r93 _ (retN X86 hx (t := .boolean) Bd.returns (by simp) (hb hby at_115) hr)))
            rw [I86_0]
            exact ⟨rfl, N86⟩
        · by_cases hc94 : (299 : Int32) < stt
          · have ev95 : (own_succ stt) = (0 : Int32) := by unfold own_succ; rw [if_neg hc87, if_pos hc94]
            have r96 : own_R p.tables e below F0 (T86.setTop (mkF m 72 #[.val (.int p0s), .val (.int p1s), .val (.long p2s), .second, .val (.long p3s), .second, .val (.int p4s), .val (.int stt), .val (.ref bb), .val (.ref b75), .unset, .unset] [(.int (0 : Int32))])) := by have q := r86; rw [ev95] at q; exact q
            have r97 : own_R p.tables e below F0 (T86.setTop (mkF m 80 #[.val (.int p0s), .val (.int p1s), .val (.long p2s), .second, .val (.long p3s), .second, .val (.int p4s), .val (.int stt), .val (.ref bb), .val (.ref b75), .val (.int (0 : Int32)), .unset] [(.int (2 : Int32)), (.int (stt / (100 : Int32)))])) := fun t k => by
              refine r96 t ?_
              show Steps p.tables e below (T86.setTop (mkF m 72 #[.val (.int p0s), .val (.int p1s), .val (.long p2s), .second, .val (.long p3s), .second, .val (.int p4s), .val (.int stt), .val (.ref bb), .val (.ref b75), .unset, .unset] [(.int (0 : Int32))])) _
              refine XS.istore X86.here hx rfl (hb hby at_72) rfl (l' := #[.val (.int p0s), .val (.int p1s), .val (.long p2s), .second, .val (.long p3s), .second, .val (.int p4s), .val (.int stt), .val (.ref bb), .val (.ref b75), .val (.int (0 : Int32)), .unset]) rfl ?_
              show Steps p.tables e below (T86.setTop (mkF m 74 #[.val (.int p0s), .val (.int p1s), .val (.long p2s), .second, .val (.long p3s), .second, .val (.int p4s), .val (.int stt), .val (.ref bb), .val (.ref b75), .val (.int (0 : Int32)), .unset] [])) _
              refine XS.iload X86.here hx rfl (hb hby at_74) rfl ?_
              show Steps p.tables e below (T86.setTop (mkF m 76 #[.val (.int p0s), .val (.int p1s), .val (.long p2s), .second, .val (.long p3s), .second, .val (.int p4s), .val (.int stt), .val (.ref bb), .val (.ref b75), .val (.int (0 : Int32)), .unset] [(.int stt)])) _
              refine XS.bipush X86.here hx rfl (hb hby at_76) ?_
              show Steps p.tables e below (T86.setTop (mkF m 78 #[.val (.int p0s), .val (.int p1s), .val (.long p2s), .second, .val (.long p3s), .second, .val (.int p4s), .val (.int stt), .val (.ref bb), .val (.ref b75), .val (.int (0 : Int32)), .unset] [(.int (100 : Int32)), (.int stt)])) _
              refine XS.idiv X86.here hx rfl (hb hby at_78) rfl (by decide) ?_
              show Steps p.tables e below (T86.setTop (mkF m 79 #[.val (.int p0s), .val (.int p1s), .val (.long p2s), .second, .val (.long p3s), .second, .val (.int p4s), .val (.int stt), .val (.ref bb), .val (.ref b75), .val (.int (0 : Int32)), .unset] [(.int (stt / (100 : Int32)))])) _
              refine XS.iconst X86.here hx rfl (hb hby at_79) ?_
              exact k
            by_cases hc98 : (stt / (100 : Int32)) = (2 : Int32)
            · have r99 : own_R p.tables e below F0 (T86.setTop (mkF m 98 #[.val (.int p0s), .val (.int p1s), .val (.long p2s), .second, .val (.long p3s), .second, .val (.int p4s), .val (.int stt), .val (.ref bb), .val (.ref b75), .val (.int (0 : Int32)), .val (.int (1 : Int32))] [(.int (0 : Int32))])) := fun t k => by
                refine r97 t ?_
                show Steps p.tables e below (T86.setTop (mkF m 80 #[.val (.int p0s), .val (.int p1s), .val (.long p2s), .second, .val (.long p3s), .second, .val (.int p4s), .val (.int stt), .val (.ref bb), .val (.ref b75), .val (.int (0 : Int32)), .unset] [(.int (2 : Int32)), (.int (stt / (100 : Int32)))])) _
                refine XS.icmpNo X86.here hx rfl (hb hby at_80) rfl (teq hc98).2 ?_
                show Steps p.tables e below (T86.setTop (mkF m 83 #[.val (.int p0s), .val (.int p1s), .val (.long p2s), .second, .val (.long p3s), .second, .val (.int p4s), .val (.int stt), .val (.ref bb), .val (.ref b75), .val (.int (0 : Int32)), .unset] [])) _
                refine XS.iconst X86.here hx rfl (hb hby at_83) ?_
                show Steps p.tables e below (T86.setTop (mkF m 84 #[.val (.int p0s), .val (.int p1s), .val (.long p2s), .second, .val (.long p3s), .second, .val (.int p4s), .val (.int stt), .val (.ref bb), .val (.ref b75), .val (.int (0 : Int32)), .unset] [(.int (1 : Int32))])) _
                refine XS.goto X86.here hx rfl (pc0 := 84) (pc' := 88) rfl (hb hby at_84) (by decide) (by decide) ?_
                show Steps p.tables e below (T86.setTop (mkF m 88 #[.val (.int p0s), .val (.int p1s), .val (.long p2s), .second, .val (.long p3s), .second, .val (.int p4s), .val (.int stt), .val (.ref bb), .val (.ref b75), .val (.int (0 : Int32)), .unset] [(.int (1 : Int32))])) _
                refine XS.istore X86.here hx rfl (hb hby at_88) rfl (l' := #[.val (.int p0s), .val (.int p1s), .val (.long p2s), .second, .val (.long p3s), .second, .val (.int p4s), .val (.int stt), .val (.ref bb), .val (.ref b75), .val (.int (0 : Int32)), .val (.int (1 : Int32))]) rfl ?_
                show Steps p.tables e below (T86.setTop (mkF m 90 #[.val (.int p0s), .val (.int p1s), .val (.long p2s), .second, .val (.long p3s), .second, .val (.int p4s), .val (.int stt), .val (.ref bb), .val (.ref b75), .val (.int (0 : Int32)), .val (.int (1 : Int32))] [])) _
                refine XS.iload X86.here hx rfl (hb hby at_90) rfl ?_
                show Steps p.tables e below (T86.setTop (mkF m 92 #[.val (.int p0s), .val (.int p1s), .val (.long p2s), .second, .val (.long p3s), .second, .val (.int p4s), .val (.int stt), .val (.ref bb), .val (.ref b75), .val (.int (0 : Int32)), .val (.int (1 : Int32))] [(.int (0 : Int32))])) _
                refine XS.iload X86.here hx rfl (hb hby at_92) rfl ?_
                show Steps p.tables e below (T86.setTop (mkF m 94 #[.val (.int p0s), .val (.int p1s), .val (.long p2s), .second, .val (.long p3s), .second, .val (.int p4s), .val (.int stt), .val (.ref bb), .val (.ref b75), .val (.int (0 : Int32)), .val (.int (1 : Int32))] [(.int (1 : Int32)), (.int (0 : Int32))])) _
                refine XS.icmpNo X86.here hx rfl (hb hby at_94) rfl (feq (show ¬ ((0 : Int32) = (1 : Int32)) from by decide)).1 ?_
                show Steps p.tables e below (T86.setTop (mkF m 97 #[.val (.int p0s), .val (.int p1s), .val (.long p2s), .second, .val (.long p3s), .second, .val (.int p4s), .val (.int stt), .val (.ref bb), .val (.ref b75), .val (.int (0 : Int32)), .val (.int (1 : Int32))] [])) _
                refine XS.iconst X86.here hx rfl (hb hby at_97) ?_
                exact k
              exfalso
              have q49_r := own_R32 stt
              have q50_e : (200 : Int32).toInt = 200 := (by decide)
              have q50_r : (200 : Int) ≤ (200 : Int32).toInt ∧ (200 : Int32).toInt ≤ 200 := ⟨Int.le_of_eq q50_e.symm, Int.le_of_eq q50_e⟩
              have q51_e : (299 : Int32).toInt = 299 := (by decide)
              have q51_r : (299 : Int) ≤ (299 : Int32).toInt ∧ (299 : Int32).toInt ≤ 299 := ⟨Int.le_of_eq q51_e.symm, Int.le_of_eq q51_e⟩
              have q52_e : (100 : Int32).toInt = 100 := (by decide)
              have q52_r : (100 : Int) ≤ (100 : Int32).toInt ∧ (100 : Int32).toInt ≤ 100 := ⟨Int.le_of_eq q52_e.symm, Int.le_of_eq q52_e⟩
              have q53_r := own_R32 (stt / (100 : Int32))
              have q54_ := c_idiv stt (100 : Int32) 100 (by decide) (by decide)
              have q55_e : (2 : Int32).toInt = 2 := (by decide)
              have q55_r : (2 : Int) ≤ (2 : Int32).toInt ∧ (2 : Int32).toInt ≤ 2 := ⟨Int.le_of_eq q55_e.symm, Int.le_of_eq q55_e⟩
              have q56_c := own_nlt32 hc87
              have q57_c := own_lt32 hc94
              have q58_c := own_eq32 hc98
              omega
            · have r100 : own_R p.tables e below F0 (T86.setTop (mkF m 115 #[.val (.int p0s), .val (.int p1s), .val (.long p2s), .second, .val (.long p3s), .second, .val (.int p4s), .val (.int stt), .val (.ref bb), .val (.ref b75), .val (.int (0 : Int32)), .val (.int (0 : Int32))] [(.int (1 : Int32))])) := fun t k => by
                refine r97 t ?_
                show Steps p.tables e below (T86.setTop (mkF m 80 #[.val (.int p0s), .val (.int p1s), .val (.long p2s), .second, .val (.long p3s), .second, .val (.int p4s), .val (.int stt), .val (.ref bb), .val (.ref b75), .val (.int (0 : Int32)), .unset] [(.int (2 : Int32)), (.int (stt / (100 : Int32)))])) _
                refine XS.icmpYes X86.here hx rfl (pc0 := 80) (pc' := 87) rfl (hb hby at_80) rfl (feq hc98).2 (by decide) (by decide) ?_
                show Steps p.tables e below (T86.setTop (mkF m 87 #[.val (.int p0s), .val (.int p1s), .val (.long p2s), .second, .val (.long p3s), .second, .val (.int p4s), .val (.int stt), .val (.ref bb), .val (.ref b75), .val (.int (0 : Int32)), .unset] [])) _
                refine XS.iconst X86.here hx rfl (hb hby at_87) ?_
                show Steps p.tables e below (T86.setTop (mkF m 88 #[.val (.int p0s), .val (.int p1s), .val (.long p2s), .second, .val (.long p3s), .second, .val (.int p4s), .val (.int stt), .val (.ref bb), .val (.ref b75), .val (.int (0 : Int32)), .unset] [(.int (0 : Int32))])) _
                refine XS.istore X86.here hx rfl (hb hby at_88) rfl (l' := #[.val (.int p0s), .val (.int p1s), .val (.long p2s), .second, .val (.long p3s), .second, .val (.int p4s), .val (.int stt), .val (.ref bb), .val (.ref b75), .val (.int (0 : Int32)), .val (.int (0 : Int32))]) rfl ?_
                show Steps p.tables e below (T86.setTop (mkF m 90 #[.val (.int p0s), .val (.int p1s), .val (.long p2s), .second, .val (.long p3s), .second, .val (.int p4s), .val (.int stt), .val (.ref bb), .val (.ref b75), .val (.int (0 : Int32)), .val (.int (0 : Int32))] [])) _
                refine XS.iload X86.here hx rfl (hb hby at_90) rfl ?_
                show Steps p.tables e below (T86.setTop (mkF m 92 #[.val (.int p0s), .val (.int p1s), .val (.long p2s), .second, .val (.long p3s), .second, .val (.int p4s), .val (.int stt), .val (.ref bb), .val (.ref b75), .val (.int (0 : Int32)), .val (.int (0 : Int32))] [(.int (0 : Int32))])) _
                refine XS.iload X86.here hx rfl (hb hby at_92) rfl ?_
                show Steps p.tables e below (T86.setTop (mkF m 94 #[.val (.int p0s), .val (.int p1s), .val (.long p2s), .second, .val (.long p3s), .second, .val (.int p4s), .val (.int stt), .val (.ref bb), .val (.ref b75), .val (.int (0 : Int32)), .val (.int (0 : Int32))] [(.int (0 : Int32)), (.int (0 : Int32))])) _
                refine XS.icmpYes X86.here hx rfl (pc0 := 94) (pc' := 99) rfl (hb hby at_94) rfl (teq (show (0 : Int32) = (0 : Int32) from by decide)).1 (by decide) (by decide) ?_
                show Steps p.tables e below (T86.setTop (mkF m 99 #[.val (.int p0s), .val (.int p1s), .val (.long p2s), .second, .val (.long p3s), .second, .val (.int p4s), .val (.int stt), .val (.ref bb), .val (.ref b75), .val (.int (0 : Int32)), .val (.int (0 : Int32))] [])) _
                refine XS.iload X86.here hx rfl (hb hby at_99) rfl ?_
                show Steps p.tables e below (T86.setTop (mkF m 101 #[.val (.int p0s), .val (.int p1s), .val (.long p2s), .second, .val (.long p3s), .second, .val (.int p4s), .val (.int stt), .val (.ref bb), .val (.ref b75), .val (.int (0 : Int32)), .val (.int (0 : Int32))] [(.int (0 : Int32))])) _
                refine XS.ifYes X86.here hx rfl (pc0 := 101) (pc' := 114) rfl (hb hby at_101) rfl ((if0 _ _).trans (teq (show (0 : Int32) = (0 : Int32) from by decide)).1) (by decide) (by decide) ?_
                show Steps p.tables e below (T86.setTop (mkF m 114 #[.val (.int p0s), .val (.int p1s), .val (.long p2s), .second, .val (.long p3s), .second, .val (.int p4s), .val (.int stt), .val (.ref bb), .val (.ref b75), .val (.int (0 : Int32)), .val (.int (0 : Int32))] [])) _
                refine XS.iconst X86.here hx rfl (hb hby at_114) ?_
                exact k
              refine hG (own_fin X86 hlk (some (.int (nar .boolean (1 : Int32)))) (own_hv Bd.returns) ?_ (by decide) (by decide) (fun fs hr => r100 _ (retN X86 hx (t := .boolean) Bd.returns (by simp) (hb hby at_115) hr)))
              rw [I86_0]
              exact ⟨rfl, N86⟩
          · have ev101 : (own_succ stt) = (1 : Int32) := by unfold own_succ; rw [if_neg hc87, if_neg hc94]
            have r102 : own_R p.tables e below F0 (T86.setTop (mkF m 72 #[.val (.int p0s), .val (.int p1s), .val (.long p2s), .second, .val (.long p3s), .second, .val (.int p4s), .val (.int stt), .val (.ref bb), .val (.ref b75), .unset, .unset] [(.int (1 : Int32))])) := by have q := r86; rw [ev101] at q; exact q
            have r103 : own_R p.tables e below F0 (T86.setTop (mkF m 80 #[.val (.int p0s), .val (.int p1s), .val (.long p2s), .second, .val (.long p3s), .second, .val (.int p4s), .val (.int stt), .val (.ref bb), .val (.ref b75), .val (.int (1 : Int32)), .unset] [(.int (2 : Int32)), (.int (stt / (100 : Int32)))])) := fun t k => by
              refine r102 t ?_
              show Steps p.tables e below (T86.setTop (mkF m 72 #[.val (.int p0s), .val (.int p1s), .val (.long p2s), .second, .val (.long p3s), .second, .val (.int p4s), .val (.int stt), .val (.ref bb), .val (.ref b75), .unset, .unset] [(.int (1 : Int32))])) _
              refine XS.istore X86.here hx rfl (hb hby at_72) rfl (l' := #[.val (.int p0s), .val (.int p1s), .val (.long p2s), .second, .val (.long p3s), .second, .val (.int p4s), .val (.int stt), .val (.ref bb), .val (.ref b75), .val (.int (1 : Int32)), .unset]) rfl ?_
              show Steps p.tables e below (T86.setTop (mkF m 74 #[.val (.int p0s), .val (.int p1s), .val (.long p2s), .second, .val (.long p3s), .second, .val (.int p4s), .val (.int stt), .val (.ref bb), .val (.ref b75), .val (.int (1 : Int32)), .unset] [])) _
              refine XS.iload X86.here hx rfl (hb hby at_74) rfl ?_
              show Steps p.tables e below (T86.setTop (mkF m 76 #[.val (.int p0s), .val (.int p1s), .val (.long p2s), .second, .val (.long p3s), .second, .val (.int p4s), .val (.int stt), .val (.ref bb), .val (.ref b75), .val (.int (1 : Int32)), .unset] [(.int stt)])) _
              refine XS.bipush X86.here hx rfl (hb hby at_76) ?_
              show Steps p.tables e below (T86.setTop (mkF m 78 #[.val (.int p0s), .val (.int p1s), .val (.long p2s), .second, .val (.long p3s), .second, .val (.int p4s), .val (.int stt), .val (.ref bb), .val (.ref b75), .val (.int (1 : Int32)), .unset] [(.int (100 : Int32)), (.int stt)])) _
              refine XS.idiv X86.here hx rfl (hb hby at_78) rfl (by decide) ?_
              show Steps p.tables e below (T86.setTop (mkF m 79 #[.val (.int p0s), .val (.int p1s), .val (.long p2s), .second, .val (.long p3s), .second, .val (.int p4s), .val (.int stt), .val (.ref bb), .val (.ref b75), .val (.int (1 : Int32)), .unset] [(.int (stt / (100 : Int32)))])) _
              refine XS.iconst X86.here hx rfl (hb hby at_79) ?_
              exact k
            by_cases hc104 : (stt / (100 : Int32)) = (2 : Int32)
            · have r105 : own_R p.tables e below F0 (T86.setTop (mkF m 106 #[.val (.int p0s), .val (.int p1s), .val (.long p2s), .second, .val (.long p3s), .second, .val (.int p4s), .val (.int stt), .val (.ref bb), .val (.ref b75), .val (.int (1 : Int32)), .val (.int (1 : Int32))] [(.ref b75)])) := fun t k => by
                refine r103 t ?_
                show Steps p.tables e below (T86.setTop (mkF m 80 #[.val (.int p0s), .val (.int p1s), .val (.long p2s), .second, .val (.long p3s), .second, .val (.int p4s), .val (.int stt), .val (.ref bb), .val (.ref b75), .val (.int (1 : Int32)), .unset] [(.int (2 : Int32)), (.int (stt / (100 : Int32)))])) _
                refine XS.icmpNo X86.here hx rfl (hb hby at_80) rfl (teq hc104).2 ?_
                show Steps p.tables e below (T86.setTop (mkF m 83 #[.val (.int p0s), .val (.int p1s), .val (.long p2s), .second, .val (.long p3s), .second, .val (.int p4s), .val (.int stt), .val (.ref bb), .val (.ref b75), .val (.int (1 : Int32)), .unset] [])) _
                refine XS.iconst X86.here hx rfl (hb hby at_83) ?_
                show Steps p.tables e below (T86.setTop (mkF m 84 #[.val (.int p0s), .val (.int p1s), .val (.long p2s), .second, .val (.long p3s), .second, .val (.int p4s), .val (.int stt), .val (.ref bb), .val (.ref b75), .val (.int (1 : Int32)), .unset] [(.int (1 : Int32))])) _
                refine XS.goto X86.here hx rfl (pc0 := 84) (pc' := 88) rfl (hb hby at_84) (by decide) (by decide) ?_
                show Steps p.tables e below (T86.setTop (mkF m 88 #[.val (.int p0s), .val (.int p1s), .val (.long p2s), .second, .val (.long p3s), .second, .val (.int p4s), .val (.int stt), .val (.ref bb), .val (.ref b75), .val (.int (1 : Int32)), .unset] [(.int (1 : Int32))])) _
                refine XS.istore X86.here hx rfl (hb hby at_88) rfl (l' := #[.val (.int p0s), .val (.int p1s), .val (.long p2s), .second, .val (.long p3s), .second, .val (.int p4s), .val (.int stt), .val (.ref bb), .val (.ref b75), .val (.int (1 : Int32)), .val (.int (1 : Int32))]) rfl ?_
                show Steps p.tables e below (T86.setTop (mkF m 90 #[.val (.int p0s), .val (.int p1s), .val (.long p2s), .second, .val (.long p3s), .second, .val (.int p4s), .val (.int stt), .val (.ref bb), .val (.ref b75), .val (.int (1 : Int32)), .val (.int (1 : Int32))] [])) _
                refine XS.iload X86.here hx rfl (hb hby at_90) rfl ?_
                show Steps p.tables e below (T86.setTop (mkF m 92 #[.val (.int p0s), .val (.int p1s), .val (.long p2s), .second, .val (.long p3s), .second, .val (.int p4s), .val (.int stt), .val (.ref bb), .val (.ref b75), .val (.int (1 : Int32)), .val (.int (1 : Int32))] [(.int (1 : Int32))])) _
                refine XS.iload X86.here hx rfl (hb hby at_92) rfl ?_
                show Steps p.tables e below (T86.setTop (mkF m 94 #[.val (.int p0s), .val (.int p1s), .val (.long p2s), .second, .val (.long p3s), .second, .val (.int p4s), .val (.int stt), .val (.ref bb), .val (.ref b75), .val (.int (1 : Int32)), .val (.int (1 : Int32))] [(.int (1 : Int32)), (.int (1 : Int32))])) _
                refine XS.icmpYes X86.here hx rfl (pc0 := 94) (pc' := 99) rfl (hb hby at_94) rfl (teq (show (1 : Int32) = (1 : Int32) from by decide)).1 (by decide) (by decide) ?_
                show Steps p.tables e below (T86.setTop (mkF m 99 #[.val (.int p0s), .val (.int p1s), .val (.long p2s), .second, .val (.long p3s), .second, .val (.int p4s), .val (.int stt), .val (.ref bb), .val (.ref b75), .val (.int (1 : Int32)), .val (.int (1 : Int32))] [])) _
                refine XS.iload X86.here hx rfl (hb hby at_99) rfl ?_
                show Steps p.tables e below (T86.setTop (mkF m 101 #[.val (.int p0s), .val (.int p1s), .val (.long p2s), .second, .val (.long p3s), .second, .val (.int p4s), .val (.int stt), .val (.ref bb), .val (.ref b75), .val (.int (1 : Int32)), .val (.int (1 : Int32))] [(.int (1 : Int32))])) _
                refine XS.ifNo X86.here hx rfl (hb hby at_101) rfl ((if0 _ _).trans (feq (show ¬ ((1 : Int32) = (0 : Int32)) from by decide)).1) ?_
                show Steps p.tables e below (T86.setTop (mkF m 104 #[.val (.int p0s), .val (.int p1s), .val (.long p2s), .second, .val (.long p3s), .second, .val (.int p4s), .val (.int stt), .val (.ref bb), .val (.ref b75), .val (.int (1 : Int32)), .val (.int (1 : Int32))] [])) _
                refine XS.aload X86.here hx rfl (hb hby at_104) rfl rfl ?_
                exact k
              obtain ⟨cq106, kq106, q106a, q106b, q106c⟩ := isOf hZ I86_0 I82_1
              obtain ⟨_, _, ⟨T106, L106, k106, n106⟩, -, X106, ⟨Lc106, hQ106, l106, y106, z106⟩, st106⟩ := X86.virtualBack hx (y := (⟨"com/example/invites_to_friends/invitestofriends/bench/Call", "answered", "()Z"⟩ : MethodName)) (z := (⟨"com/example/invites_to_friends/invitestofriends/bench/Call", "answered", "()Z"⟩ : MethodName)) hown (mvT hZ (hw _ (List.mem_of_getElem? (i := 29) rfl))) (mvT hZ (hw _ (List.mem_of_getElem? (i := 30) rfl))) (notFace_of_selects (args := #[]) (mvT hZ (hw _ (List.mem_of_getElem? (i := 32) rfl)))) (mvT hZ (hw _ (List.mem_of_getElem? (i := 32) rfl))) (mvT hZ (hw _ (List.mem_of_getElem? (i := 31) rfl))) (by decide) (backOf (W := 0) (rm5 l Z a0 hw [] b75 (stt) h82 n0 Zs84 I82_4) hZ (hw _ (List.mem_of_getElem? (i := 33) rfl)) (hw _ (List.mem_of_getElem? (i := 4) rfl)) (by decide) (by decide)) q106a q106c (g := (mkF m 106 #[.val (.int p0s), .val (.int p1s), .val (.long p2s), .second, .val (.long p3s), .second, .val (.int p4s), .val (.int stt), .val (.ref bb), .val (.ref b75), .val (.int (1 : Int32)), .val (.int (1 : Int32))] [(.ref b75)])) rfl (by rw [hml]; rfl) (Steps.refl _) (argsL := []) (rest := []) (lenOf pd_2 rfl) rfl (by show 2 * 0 + _ ≤ _; exact Nat.le_of_eq rfl) (hb hby at_106) (fun _ _ => ⟨rfl, I86_0, (by decide : 2 + 0 ≤ _), (by decide : 5 + 0 ≤ _)⟩)
              dsimp only [Pt.U, Pt.locs, Pt.cells, Pt.slots] at X106 l106 y106 z106 st106 hQ106
              subst l106 y106 z106
              obtain ⟨rfl, N106q, I106_0⟩ := hQ106
              have N106 := Fr.app N86 N106q
              have r106 : own_R p.tables e below F0 (T106.setTop (mkF m 109 #[.val (.int p0s), .val (.int p1s), .val (.long p2s), .second, .val (.long p3s), .second, .val (.int p4s), .val (.int stt), .val (.ref bb), .val (.ref b75), .val (.int (1 : Int32)), .val (.int (1 : Int32))] [(.int (own_answ stt))])) := fun t k => r105 t (st106.trans k)
              by_cases hc107 : stt = (0 : Int32)
              · have ev108 : (own_answ stt) = (0 : Int32) := by unfold own_answ; rw [if_pos hc107]
                have r109 : own_R p.tables e below F0 (T106.setTop (mkF m 109 #[.val (.int p0s), .val (.int p1s), .val (.long p2s), .second, .val (.long p3s), .second, .val (.int p4s), .val (.int stt), .val (.ref bb), .val (.ref b75), .val (.int (1 : Int32)), .val (.int (1 : Int32))] [(.int (0 : Int32))])) := by have q := r106; rw [ev108] at q; exact q
                have r110 : own_R p.tables e below F0 (T106.setTop (mkF m 113 #[.val (.int p0s), .val (.int p1s), .val (.long p2s), .second, .val (.long p3s), .second, .val (.int p4s), .val (.int stt), .val (.ref bb), .val (.ref b75), .val (.int (1 : Int32)), .val (.int (1 : Int32))] [(.int (0 : Int32))])) := fun t k => by
                  refine r109 t ?_
                  show Steps p.tables e below (T106.setTop (mkF m 109 #[.val (.int p0s), .val (.int p1s), .val (.long p2s), .second, .val (.long p3s), .second, .val (.int p4s), .val (.int stt), .val (.ref bb), .val (.ref b75), .val (.int (1 : Int32)), .val (.int (1 : Int32))] [(.int (0 : Int32))])) _
                  refine XS.ifNo X106.here hx rfl (hb hby at_109) rfl ((if0 _ _).trans (teq (show (0 : Int32) = (0 : Int32) from by decide)).2) ?_
                  show Steps p.tables e below (T106.setTop (mkF m 112 #[.val (.int p0s), .val (.int p1s), .val (.long p2s), .second, .val (.long p3s), .second, .val (.int p4s), .val (.int stt), .val (.ref bb), .val (.ref b75), .val (.int (1 : Int32)), .val (.int (1 : Int32))] [])) _
                  refine XS.iconst X106.here hx rfl (hb hby at_112) ?_
                  exact k
                exfalso
                have q59_r := own_R32 stt
                have q60_e : (200 : Int32).toInt = 200 := (by decide)
                have q60_r : (200 : Int) ≤ (200 : Int32).toInt ∧ (200 : Int32).toInt ≤ 200 := ⟨Int.le_of_eq q60_e.symm, Int.le_of_eq q60_e⟩
                have q61_e : (299 : Int32).toInt = 299 := (by decide)
                have q61_r : (299 : Int) ≤ (299 : Int32).toInt ∧ (299 : Int32).toInt ≤ 299 := ⟨Int.le_of_eq q61_e.symm, Int.le_of_eq q61_e⟩
                have q62_e : (100 : Int32).toInt = 100 := (by decide)
                have q62_r : (100 : Int) ≤ (100 : Int32).toInt ∧ (100 : Int32).toInt ≤ 100 := ⟨Int.le_of_eq q62_e.symm, Int.le_of_eq q62_e⟩
                have q63_r := own_R32 (stt / (100 : Int32))
                have q64_ := c_idiv stt (100 : Int32) 100 (by decide) (by decide)
                have q65_e : (2 : Int32).toInt = 2 := (by decide)
                have q65_r : (2 : Int) ≤ (2 : Int32).toInt ∧ (2 : Int32).toInt ≤ 2 := ⟨Int.le_of_eq q65_e.symm, Int.le_of_eq q65_e⟩
                have q66_e : (0 : Int32).toInt = 0 := (by decide)
                have q66_r : (0 : Int) ≤ (0 : Int32).toInt ∧ (0 : Int32).toInt ≤ 0 := ⟨Int.le_of_eq q66_e.symm, Int.le_of_eq q66_e⟩
                have q67_c := own_nlt32 hc87
                have q68_c := own_nlt32 hc94
                have q69_c := own_eq32 hc104
                have q70_c := own_eq32 hc107
                omega
              · have ev111 : (own_answ stt) = (1 : Int32) := by unfold own_answ; rw [if_neg hc107]
                have r112 : own_R p.tables e below F0 (T106.setTop (mkF m 109 #[.val (.int p0s), .val (.int p1s), .val (.long p2s), .second, .val (.long p3s), .second, .val (.int p4s), .val (.int stt), .val (.ref bb), .val (.ref b75), .val (.int (1 : Int32)), .val (.int (1 : Int32))] [(.int (1 : Int32))])) := by have q := r106; rw [ev111] at q; exact q
                have r113 : own_R p.tables e below F0 (T106.setTop (mkF m 115 #[.val (.int p0s), .val (.int p1s), .val (.long p2s), .second, .val (.long p3s), .second, .val (.int p4s), .val (.int stt), .val (.ref bb), .val (.ref b75), .val (.int (1 : Int32)), .val (.int (1 : Int32))] [(.int (1 : Int32))])) := fun t k => by
                  refine r112 t ?_
                  show Steps p.tables e below (T106.setTop (mkF m 109 #[.val (.int p0s), .val (.int p1s), .val (.long p2s), .second, .val (.long p3s), .second, .val (.int p4s), .val (.int stt), .val (.ref bb), .val (.ref b75), .val (.int (1 : Int32)), .val (.int (1 : Int32))] [(.int (1 : Int32))])) _
                  refine XS.ifYes X106.here hx rfl (pc0 := 109) (pc' := 114) rfl (hb hby at_109) rfl ((if0 _ _).trans (feq (show ¬ ((1 : Int32) = (0 : Int32)) from by decide)).2) (by decide) (by decide) ?_
                  show Steps p.tables e below (T106.setTop (mkF m 114 #[.val (.int p0s), .val (.int p1s), .val (.long p2s), .second, .val (.long p3s), .second, .val (.int p4s), .val (.int stt), .val (.ref bb), .val (.ref b75), .val (.int (1 : Int32)), .val (.int (1 : Int32))] [])) _
                  refine XS.iconst X106.here hx rfl (hb hby at_114) ?_
                  exact k
                refine hG (own_fin X106 hlk (some (.int (nar .boolean (1 : Int32)))) (own_hv Bd.returns) ?_ (by decide) (by decide) (fun fs hr => r113 _ (retN X106 hx (t := .boolean) Bd.returns (by simp) (hb hby at_115) hr)))
                rw [I106_0]
                exact ⟨rfl, N106⟩
            · have r114 : own_R p.tables e below F0 (T86.setTop (mkF m 98 #[.val (.int p0s), .val (.int p1s), .val (.long p2s), .second, .val (.long p3s), .second, .val (.int p4s), .val (.int stt), .val (.ref bb), .val (.ref b75), .val (.int (1 : Int32)), .val (.int (0 : Int32))] [(.int (0 : Int32))])) := fun t k => by
                refine r103 t ?_
                show Steps p.tables e below (T86.setTop (mkF m 80 #[.val (.int p0s), .val (.int p1s), .val (.long p2s), .second, .val (.long p3s), .second, .val (.int p4s), .val (.int stt), .val (.ref bb), .val (.ref b75), .val (.int (1 : Int32)), .unset] [(.int (2 : Int32)), (.int (stt / (100 : Int32)))])) _
                refine XS.icmpYes X86.here hx rfl (pc0 := 80) (pc' := 87) rfl (hb hby at_80) rfl (feq hc104).2 (by decide) (by decide) ?_
                show Steps p.tables e below (T86.setTop (mkF m 87 #[.val (.int p0s), .val (.int p1s), .val (.long p2s), .second, .val (.long p3s), .second, .val (.int p4s), .val (.int stt), .val (.ref bb), .val (.ref b75), .val (.int (1 : Int32)), .unset] [])) _
                refine XS.iconst X86.here hx rfl (hb hby at_87) ?_
                show Steps p.tables e below (T86.setTop (mkF m 88 #[.val (.int p0s), .val (.int p1s), .val (.long p2s), .second, .val (.long p3s), .second, .val (.int p4s), .val (.int stt), .val (.ref bb), .val (.ref b75), .val (.int (1 : Int32)), .unset] [(.int (0 : Int32))])) _
                refine XS.istore X86.here hx rfl (hb hby at_88) rfl (l' := #[.val (.int p0s), .val (.int p1s), .val (.long p2s), .second, .val (.long p3s), .second, .val (.int p4s), .val (.int stt), .val (.ref bb), .val (.ref b75), .val (.int (1 : Int32)), .val (.int (0 : Int32))]) rfl ?_
                show Steps p.tables e below (T86.setTop (mkF m 90 #[.val (.int p0s), .val (.int p1s), .val (.long p2s), .second, .val (.long p3s), .second, .val (.int p4s), .val (.int stt), .val (.ref bb), .val (.ref b75), .val (.int (1 : Int32)), .val (.int (0 : Int32))] [])) _
                refine XS.iload X86.here hx rfl (hb hby at_90) rfl ?_
                show Steps p.tables e below (T86.setTop (mkF m 92 #[.val (.int p0s), .val (.int p1s), .val (.long p2s), .second, .val (.long p3s), .second, .val (.int p4s), .val (.int stt), .val (.ref bb), .val (.ref b75), .val (.int (1 : Int32)), .val (.int (0 : Int32))] [(.int (1 : Int32))])) _
                refine XS.iload X86.here hx rfl (hb hby at_92) rfl ?_
                show Steps p.tables e below (T86.setTop (mkF m 94 #[.val (.int p0s), .val (.int p1s), .val (.long p2s), .second, .val (.long p3s), .second, .val (.int p4s), .val (.int stt), .val (.ref bb), .val (.ref b75), .val (.int (1 : Int32)), .val (.int (0 : Int32))] [(.int (0 : Int32)), (.int (1 : Int32))])) _
                refine XS.icmpNo X86.here hx rfl (hb hby at_94) rfl (feq (show ¬ ((1 : Int32) = (0 : Int32)) from by decide)).1 ?_
                show Steps p.tables e below (T86.setTop (mkF m 97 #[.val (.int p0s), .val (.int p1s), .val (.long p2s), .second, .val (.long p3s), .second, .val (.int p4s), .val (.int stt), .val (.ref bb), .val (.ref b75), .val (.int (1 : Int32)), .val (.int (0 : Int32))] [])) _
                refine XS.iconst X86.here hx rfl (hb hby at_97) ?_
                exact k
              exfalso
              have q71_r := own_R32 stt
              have q72_e : (200 : Int32).toInt = 200 := (by decide)
              have q72_r : (200 : Int) ≤ (200 : Int32).toInt ∧ (200 : Int32).toInt ≤ 200 := ⟨Int.le_of_eq q72_e.symm, Int.le_of_eq q72_e⟩
              have q73_e : (299 : Int32).toInt = 299 := (by decide)
              have q73_r : (299 : Int) ≤ (299 : Int32).toInt ∧ (299 : Int32).toInt ≤ 299 := ⟨Int.le_of_eq q73_e.symm, Int.le_of_eq q73_e⟩
              have q74_e : (100 : Int32).toInt = 100 := (by decide)
              have q74_r : (100 : Int) ≤ (100 : Int32).toInt ∧ (100 : Int32).toInt ≤ 100 := ⟨Int.le_of_eq q74_e.symm, Int.le_of_eq q74_e⟩
              have q75_r := own_R32 (stt / (100 : Int32))
              have q76_ := c_idiv stt (100 : Int32) 100 (by decide) (by decide)
              have q77_e : (2 : Int32).toInt = 2 := (by decide)
              have q77_r : (2 : Int) ≤ (2 : Int32).toInt ∧ (2 : Int32).toInt ≤ 2 := ⟨Int.le_of_eq q77_e.symm, Int.le_of_eq q77_e⟩
              have q78_c := own_nlt32 hc87
              have q79_c := own_nlt32 hc94
              have q80_c := own_ne32 hc104
              omega
      by_cases hc115 : (p1s &&& (2 : Int32)) = (0 : Int32)
      · have r116 : own_R p.tables e below F0 (s₁.setTop (mkF m 47 #[.val (.int p0s), .val (.int p1s), .val (.long p2s), .second, .val (.long p3s), .second, .val (.int p4s), .val (.int stt), .unset, .unset, .unset, .unset] [(.int (0 : Int32))])) := fun t k => by
          refine r64 t ?_
          show Steps p.tables e below (s₁.setTop (mkF m 29 #[.val (.int p0s), .val (.int p1s), .val (.long p2s), .second, .val (.long p3s), .second, .val (.int p4s), .val (.int stt), .unset, .unset, .unset, .unset] [(.int (p1s &&& (2 : Int32)))])) _
          refine XS.ifYes X0.here hx rfl (pc0 := 29) (pc' := 46) rfl (hb hby at_29) rfl ((if0 _ _).trans (teq hc115).1) (by decide) (by decide) ?_
          show Steps p.tables e below (s₁.setTop (mkF m 46 #[.val (.int p0s), .val (.int p1s), .val (.long p2s), .second, .val (.long p3s), .second, .val (.int p4s), .val (.int stt), .unset, .unset, .unset, .unset] [])) _
          refine XS.iconst X0.here hx rfl (hb hby at_46) ?_
          exact k
        obtain ⟨T117, h117, k117, X117, e117, E117, A117, st117⟩ := newP X0 hx hZ (hw _ (List.mem_of_getElem? (i := 1) rfl)) e0 (g := (mkF m 47 #[.val (.int p0s), .val (.int p1s), .val (.long p2s), .second, .val (.long p3s), .second, .val (.int p4s), .val (.int stt), .unset, .unset, .unset, .unset] [(.int (0 : Int32))])) rfl (hb hby at_47) rfl (by decide) (cap := 0) (by decide) (by decide) (by decide) (by decide)
        obtain ⟨b117, g117⟩ : ∃ z, z = h0.size := ⟨_, rfl⟩
        rw [← g117] at A117 st117
        have ge117 : n0 ≤ b117 := Nat.le_trans Z0 (Nat.le_of_eq g117.symm)
        have old117 : h0.size ≤ b117 := Nat.le_trans K0.1 (Nat.le_of_eq g117.symm)
        have K117 : Keep h0 h117 [] := K0.ext E117
        have Zs118 : n0 ≤ h117.size := Nat.le_trans Z0 E117.1
        have F119 : own_Arf Z h117 b117 .byte 0 (fun i => (.int ((fun _ => (0 : Int32)) i))) := by
          have q := own_Arf.new A117 (by decide)
          rw [show ((0 : Int32)).toNatClampNeg = 0 from rfl] at q
          exact q
        have r117 : own_R p.tables e below F0 (T117.setTop (mkF m 49 #[.val (.int p0s), .val (.int p1s), .val (.long p2s), .second, .val (.long p3s), .second, .val (.int p4s), .val (.int stt), .unset, .unset, .unset, .unset] [(.ref b117)])) := fun t k => r116 t (st117 t k)
        have r120 : own_R p.tables e below F0 (T117.setTop (mkF m 51 #[.val (.int p0s), .val (.int p1s), .val (.long p2s), .second, .val (.long p3s), .second, .val (.int p4s), .val (.int stt), .val (.ref b117), .unset, .unset, .unset] [])) := fun t k => by
          refine r117 t ?_
          show Steps p.tables e below (T117.setTop (mkF m 49 #[.val (.int p0s), .val (.int p1s), .val (.long p2s), .second, .val (.long p3s), .second, .val (.int p4s), .val (.int stt), .unset, .unset, .unset, .unset] [(.ref b117)])) _
          refine XS.astore X117.here hx rfl (hb hby at_49) rfl rfl (l' := #[.val (.int p0s), .val (.int p1s), .val (.long p2s), .second, .val (.long p3s), .second, .val (.int p4s), .val (.int stt), .val (.ref b117), .unset, .unset, .unset]) rfl ?_
          exact k
        exact J65 b117 T117 _ _ (own_mono X117 (by decide) (by decide)) e117 N0 Zs118 K117 r120
      · have r121 : own_R p.tables e below F0 (s₁.setTop (mkF m 33 #[.val (.int p0s), .val (.int p1s), .val (.long p2s), .second, .val (.long p3s), .second, .val (.int p4s), .val (.int stt), .unset, .unset, .unset, .unset] [(.int (1 : Int32))])) := fun t k => by
          refine r64 t ?_
          show Steps p.tables e below (s₁.setTop (mkF m 29 #[.val (.int p0s), .val (.int p1s), .val (.long p2s), .second, .val (.long p3s), .second, .val (.int p4s), .val (.int stt), .unset, .unset, .unset, .unset] [(.int (p1s &&& (2 : Int32)))])) _
          refine XS.ifNo X0.here hx rfl (hb hby at_29) rfl ((if0 _ _).trans (feq hc115).1) ?_
          show Steps p.tables e below (s₁.setTop (mkF m 32 #[.val (.int p0s), .val (.int p1s), .val (.long p2s), .second, .val (.long p3s), .second, .val (.int p4s), .val (.int stt), .unset, .unset, .unset, .unset] [])) _
          refine XS.iconst X0.here hx rfl (hb hby at_32) ?_
          exact k
        obtain ⟨T122, h122, k122, X122, e122, E122, A122, st122⟩ := newP X0 hx hZ (hw _ (List.mem_of_getElem? (i := 1) rfl)) e0 (g := (mkF m 33 #[.val (.int p0s), .val (.int p1s), .val (.long p2s), .second, .val (.long p3s), .second, .val (.int p4s), .val (.int stt), .unset, .unset, .unset, .unset] [(.int (1 : Int32))])) rfl (hb hby at_33) rfl (by decide) (cap := 1) (by decide) (by decide) (by decide) (by decide)
        obtain ⟨b122, g122⟩ : ∃ z, z = h0.size := ⟨_, rfl⟩
        rw [← g122] at A122 st122
        have ge122 : n0 ≤ b122 := Nat.le_trans Z0 (Nat.le_of_eq g122.symm)
        have old122 : h0.size ≤ b122 := Nat.le_trans K0.1 (Nat.le_of_eq g122.symm)
        have K122 : Keep h0 h122 [] := K0.ext E122
        have Zs123 : n0 ≤ h122.size := Nat.le_trans Z0 E122.1
        have F124 : own_Arf Z h122 b122 .byte 1 (fun i => (.int ((fun _ => (0 : Int32)) i))) := by
          have q := own_Arf.new A122 (by decide)
          rw [show ((1 : Int32)).toNatClampNeg = 1 from rfl] at q
          exact q
        have r122 : own_R p.tables e below F0 (T122.setTop (mkF m 35 #[.val (.int p0s), .val (.int p1s), .val (.long p2s), .second, .val (.long p3s), .second, .val (.int p4s), .val (.int stt), .unset, .unset, .unset, .unset] [(.ref b122)])) := fun t k => r121 t (st122 t k)
        have r125 : own_R p.tables e below F0 (T122.setTop (mkF m 40 #[.val (.int p0s), .val (.int p1s), .val (.long p2s), .second, .val (.long p3s), .second, .val (.int p4s), .val (.int stt), .unset, .unset, .unset, .unset] [(.int (p4s.toInt8.toInt32)), (.int (0 : Int32)), (.ref b122), (.ref b122)])) := fun t k => by
          refine r122 t ?_
          show Steps p.tables e below (T122.setTop (mkF m 35 #[.val (.int p0s), .val (.int p1s), .val (.long p2s), .second, .val (.long p3s), .second, .val (.int p4s), .val (.int stt), .unset, .unset, .unset, .unset] [(.ref b122)])) _
          refine XS.dup X122.here hx rfl (hb hby at_35) rfl rfl ?_
          show Steps p.tables e below (T122.setTop (mkF m 36 #[.val (.int p0s), .val (.int p1s), .val (.long p2s), .second, .val (.long p3s), .second, .val (.int p4s), .val (.int stt), .unset, .unset, .unset, .unset] [(.ref b122), (.ref b122)])) _
          refine XS.iconst X122.here hx rfl (hb hby at_36) ?_
          show Steps p.tables e below (T122.setTop (mkF m 37 #[.val (.int p0s), .val (.int p1s), .val (.long p2s), .second, .val (.long p3s), .second, .val (.int p4s), .val (.int stt), .unset, .unset, .unset, .unset] [(.int (0 : Int32)), (.ref b122), (.ref b122)])) _
          refine XS.iload X122.here hx rfl (hb hby at_37) rfl ?_
          show Steps p.tables e below (T122.setTop (mkF m 39 #[.val (.int p0s), .val (.int p1s), .val (.long p2s), .second, .val (.long p3s), .second, .val (.int p4s), .val (.int stt), .unset, .unset, .unset, .unset] [(.int p4s), (.int (0 : Int32)), (.ref b122), (.ref b122)])) _
          refine XS.i2b X122.here hx rfl (hb hby at_39) rfl ?_
          exact k
        obtain ⟨T126, h126, X126, e126, W126, V126, st126⟩ := own_stB X122 hx hZ e122 (j := (0 : Int32)) F124 (by decide) (by decide) (g := (mkF m 40 #[.val (.int p0s), .val (.int p1s), .val (.long p2s), .second, .val (.long p3s), .second, .val (.int p4s), .val (.int stt), .unset, .unset, .unset, .unset] [(.int (p4s.toInt8.toInt32)), (.int (0 : Int32)), (.ref b122), (.ref b122)])) rfl rfl (hb hby at_40)
        have V126 : own_Arf Z h126 b122 .byte 1 (fun i => if i = 0 then (.int (nar .byte (p4s.toInt8.toInt32))) else (.int ((fun _ => (0 : Int32)) i))) := V126
        obtain ⟨gf126, hgf126, V126'⟩ := own_nameI (g := (fun _ => (0 : Int32))) V126
        have F127 : own_Arf Z h126 b122 .byte 1 (fun i => (.int (gf126 i))) := V126'
        have Zs128 : n0 ≤ h126.size := by rw [W126.size]; exact Zs123
        have N129 := Fr.snoc X126 N0 ge122
        have K130 : Keep h0 h126 [] := K122.wr W126 (Or.inr old122)
        have r126 : own_R p.tables e below F0 (T126.setTop (mkF m 41 #[.val (.int p0s), .val (.int p1s), .val (.long p2s), .second, .val (.long p3s), .second, .val (.int p4s), .val (.int stt), .unset, .unset, .unset, .unset] [(.ref b122)])) := fun t k => r125 t (st126 t k)
        have r131 : own_R p.tables e below F0 (T126.setTop (mkF m 51 #[.val (.int p0s), .val (.int p1s), .val (.long p2s), .second, .val (.long p3s), .second, .val (.int p4s), .val (.int stt), .val (.ref b122), .unset, .unset, .unset] [])) := fun t k => by
          refine r126 t ?_
          show Steps p.tables e below (T126.setTop (mkF m 41 #[.val (.int p0s), .val (.int p1s), .val (.long p2s), .second, .val (.long p3s), .second, .val (.int p4s), .val (.int stt), .unset, .unset, .unset, .unset] [(.ref b122)])) _
          refine XS.astore X126.here hx rfl (hb hby at_41) rfl rfl (l' := #[.val (.int p0s), .val (.int p1s), .val (.long p2s), .second, .val (.long p3s), .second, .val (.int p4s), .val (.int stt), .val (.ref b122), .unset, .unset, .unset]) rfl ?_
          show Steps p.tables e below (T126.setTop (mkF m 43 #[.val (.int p0s), .val (.int p1s), .val (.long p2s), .second, .val (.long p3s), .second, .val (.int p4s), .val (.int stt), .val (.ref b122), .unset, .unset, .unset] [])) _
          refine XS.goto X126.here hx rfl (pc0 := 43) (pc' := 51) rfl (hb hby at_43) (by decide) (by decide) ?_
          exact k
        exact J65 b122 T126 _ _ X126 e126 N129 Zs128 K130 r131
    by_cases hc132 : (p1s &&& (1 : Int32)) = (0 : Int32)
    · have r133 : own_R p.tables e below F0 (s₁.setTop (mkF m 26 #[.val (.int p0s), .val (.int p1s), .val (.long p2s), .second, .val (.long p3s), .second, .val (.int p4s), .val (.int p0s), .unset, .unset, .unset, .unset] [])) := fun t k => by
        refine r61 t ?_
        show Steps p.tables e below (s₁.setTop (mkF m 3 #[.val (.int p0s), .val (.int p1s), .val (.long p2s), .second, .val (.long p3s), .second, .val (.int p4s), .unset, .unset, .unset, .unset, .unset] [(.int (p1s &&& (1 : Int32)))])) _
        refine XS.ifYes X0.here hx rfl (pc0 := 3) (pc' := 23) rfl (hb hby at_3) rfl ((if0 _ _).trans (teq hc132).1) (by decide) (by decide) ?_
        show Steps p.tables e below (s₁.setTop (mkF m 23 #[.val (.int p0s), .val (.int p1s), .val (.long p2s), .second, .val (.long p3s), .second, .val (.int p4s), .unset, .unset, .unset, .unset, .unset] [])) _
        refine XS.iloadN X0.here hx rfl (hb hby at_23) rfl ?_
        show Steps p.tables e below (s₁.setTop (mkF m 24 #[.val (.int p0s), .val (.int p1s), .val (.long p2s), .second, .val (.long p3s), .second, .val (.int p4s), .unset, .unset, .unset, .unset, .unset] [(.int p0s)])) _
        refine XS.istore X0.here hx rfl (hb hby at_24) rfl (l' := #[.val (.int p0s), .val (.int p1s), .val (.long p2s), .second, .val (.long p3s), .second, .val (.int p4s), .val (.int p0s), .unset, .unset, .unset, .unset]) rfl ?_
        exact k
      exact J62 p0s r133
    · obtain ⟨z134, hz134⟩ : ∃ z : Int32, z = ((150 : Int32) + ((p0s &&& (2147483647 : Int32)) % (200 : Int32))) := ⟨_, rfl⟩
      have r135 : own_R p.tables e below F0 (s₁.setTop (mkF m 26 #[.val (.int p0s), .val (.int p1s), .val (.long p2s), .second, .val (.long p3s), .second, .val (.int p4s), .val (.int z134), .unset, .unset, .unset, .unset] [])) := fun t k => by
        refine r61 t ?_
        show Steps p.tables e below (s₁.setTop (mkF m 3 #[.val (.int p0s), .val (.int p1s), .val (.long p2s), .second, .val (.long p3s), .second, .val (.int p4s), .unset, .unset, .unset, .unset, .unset] [(.int (p1s &&& (1 : Int32)))])) _
        refine XS.ifNo X0.here hx rfl (hb hby at_3) rfl ((if0 _ _).trans (feq hc132).1) ?_
        show Steps p.tables e below (s₁.setTop (mkF m 6 #[.val (.int p0s), .val (.int p1s), .val (.long p2s), .second, .val (.long p3s), .second, .val (.int p4s), .unset, .unset, .unset, .unset, .unset] [])) _
        refine XS.sipush X0.here hx rfl (hb hby at_6) ?_
        show Steps p.tables e below (s₁.setTop (mkF m 9 #[.val (.int p0s), .val (.int p1s), .val (.long p2s), .second, .val (.long p3s), .second, .val (.int p4s), .unset, .unset, .unset, .unset, .unset] [(.int (150 : Int32))])) _
        refine XS.iloadN X0.here hx rfl (hb hby at_9) rfl ?_
        show Steps p.tables e below (s₁.setTop (mkF m 10 #[.val (.int p0s), .val (.int p1s), .val (.long p2s), .second, .val (.long p3s), .second, .val (.int p4s), .unset, .unset, .unset, .unset, .unset] [(.int p0s), (.int (150 : Int32))])) _
        refine X0.ldcI hx hown (mvT hZ (hw _ (List.mem_of_getElem? (i := 0) rfl))) rfl (hb hby at_10) ?_
        show Steps p.tables e below (s₁.setTop (mkF m 12 #[.val (.int p0s), .val (.int p1s), .val (.long p2s), .second, .val (.long p3s), .second, .val (.int p4s), .unset, .unset, .unset, .unset, .unset] [(.int (2147483647 : Int32)), (.int p0s), (.int (150 : Int32))])) _
        refine XS.iand X0.here hx rfl (hb hby at_12) rfl ?_
        show Steps p.tables e below (s₁.setTop (mkF m 13 #[.val (.int p0s), .val (.int p1s), .val (.long p2s), .second, .val (.long p3s), .second, .val (.int p4s), .unset, .unset, .unset, .unset, .unset] [(.int (p0s &&& (2147483647 : Int32))), (.int (150 : Int32))])) _
        refine XS.sipush X0.here hx rfl (hb hby at_13) ?_
        show Steps p.tables e below (s₁.setTop (mkF m 16 #[.val (.int p0s), .val (.int p1s), .val (.long p2s), .second, .val (.long p3s), .second, .val (.int p4s), .unset, .unset, .unset, .unset, .unset] [(.int (200 : Int32)), (.int (p0s &&& (2147483647 : Int32))), (.int (150 : Int32))])) _
        refine iremM X0 hx rfl (hb hby at_16) rfl (by decide) ?_
        show Steps p.tables e below (s₁.setTop (mkF m 17 #[.val (.int p0s), .val (.int p1s), .val (.long p2s), .second, .val (.long p3s), .second, .val (.int p4s), .unset, .unset, .unset, .unset, .unset] [(.int ((p0s &&& (2147483647 : Int32)) % (200 : Int32))), (.int (150 : Int32))])) _
        refine XS.iadd X0.here hx rfl (hb hby at_17) rfl ?_
        show Steps p.tables e below (s₁.setTop (mkF m 18 #[.val (.int p0s), .val (.int p1s), .val (.long p2s), .second, .val (.long p3s), .second, .val (.int p4s), .unset, .unset, .unset, .unset, .unset] [(.int ((150 : Int32) + ((p0s &&& (2147483647 : Int32)) % (200 : Int32))))])) _
        refine XS.istore X0.here hx rfl (hb hby at_18) (x := z134) (rest := []) (by subst hz134; rfl) (l' := #[.val (.int p0s), .val (.int p1s), .val (.long p2s), .second, .val (.long p3s), .second, .val (.int p4s), .val (.int z134), .unset, .unset, .unset, .unset]) rfl ?_
        show Steps p.tables e below (s₁.setTop (mkF m 20 #[.val (.int p0s), .val (.int p1s), .val (.long p2s), .second, .val (.long p3s), .second, .val (.int p4s), .val (.int z134), .unset, .unset, .unset, .unset] [])) _
        refine XS.goto X0.here hx rfl (pc0 := 20) (pc' := 26) rfl (hb hby at_20) (by decide) (by decide) ?_
        exact k
      exact J62 z134 r135
  exact key _ _ id (fun t k => castTop (ef_0 m p0s p1s p2s p3s p4s) k)
set_option maxRecDepth 65536 in
set_option maxHeartbeats 40000000 in
theorem comes_1 {Post : Tables → Env → Array Value → State → Outcome → State → Prop} (hpost : ∀ tb e args s v u, (limb_1_1.after args s (.returned v) u = true ∧ limb_1_2.after args s (.returned v) u = true ∧ True) → FrameEnd s (.returned v) u (Jvm.fieldLocs frame_1_writes args s ++ Jvm.arrayLocs frame_1_arrays args s ++ Jvm.staticLocs frame_1_statics s) 16 128 → Post tb e args s (.returned v) u) :
    ArmFor flags0 classFile x code maxLocals ret World_1 tables_1 room_1 Calls_1 rest_1 Pre_1 Post := by
  intro l hfl _ _ p e ha hc hk s m args below hf hA hF happ hP
  obtain ⟨hcalls, hrest, hpre⟩ := hP
  obtain ⟨-, -, -, hnamed, -, -, -, hat⟩ := (Spec.applies_iff hf).mp happ
  obtain ⟨hg, hn⟩ := and_e (Cond.before_iff.mp (show (Jvm.Cond.and given_1 narrow_1).before args s = true from hpre))
  obtain ⟨gw1, gw2⟩ := and_e hg
  obtain ⟨gw3, gw4⟩ := and_e gw2
  obtain ⟨gw5, gw6⟩ := and_e gw4
  obtain ⟨gw7, gw8⟩ := and_e gw6
  obtain ⟨gw9, gw10⟩ := and_e gw8
  obtain ⟨w0, w1, w2, w3, w4, rfl⟩ : ∃ w0 w1 w2 w3 w4 : Value, args = #[w0, w1, w2, w3, w4] := by
    have hs : args.size = 5 := by simpa [Cond.value, given_1] using gw1
    obtain ⟨L⟩ := args
    match L, hs with
    | [w0, w1, w2, w3, w4], _ => exact ⟨w0, w1, w2, w3, w4, rfl⟩
  have hw := fun d (hd : d ∈ tables_1) => atoms_spec (ws := Jvm.Cond.code x code maxLocals ret :: tables_1) hat d (List.mem_cons_of_mem _ hd)
  have hfit : Fit s := fun {y c} hc i hi => by
    obtain ⟨ha, rfl⟩ := Array.getElem?_eq_some_iff.mp hc
    have q := List.all_eq_true.mp ((Array.all_eq_true_iff_forall_mem.mp hF) _ (Array.getElem_mem ha)) i (List.mem_range.mpr hi)
    simpa [Array.getElem?_eq_getElem hi] using q
  obtain ⟨i0, ei0⟩ := is_v gw3
  obtain rfl : w0 = (.int i0) := Option.some.inj ei0
  obtain ⟨i1, ei1⟩ := is_v gw5
  obtain rfl : w1 = (.int i1) := Option.some.inj ei1
  obtain ⟨i2, ei2⟩ := isL_v gw7
  obtain rfl : w2 = (.long i2) := Option.some.inj ei2
  obtain ⟨i3, ei3⟩ := isL_v gw9
  obtain rfl : w3 = (.long i3) := Option.some.inj ei3
  obtain ⟨i4, ei4⟩ := is_v gw10
  obtain rfl : w4 = (.int i4) := Option.some.inj ei4
  obtain ⟨n, o, h1, h2, h3, _, L, rfl, ⟨rfl, N⟩, hq⟩ := rm0 l s _ hw tables_1 i0 i1 i2 i3 i4  s.heap s.heap.size (Nat.le_refl _)  p e ha hc hk s m _ below hf ((Spec.applies_iff_loose hf).mp happ).1 ⟨rfl, State.Warmed39.refl s, rfl⟩ trivial
  refine ⟨n, _, h1, h2, h3, hpost _ _ _ _ _ _ ⟨Cond.after_iff.mpr rfl, Cond.after_iff.mpr (eq_i res_at (Term.int_eval (1)) rfl), trivial⟩ ⟨hq.1, hq.2.1, (hq.2.2.sift fun y hy => Or.inr (N y hy)).mono (by decide) (by decide)⟩⟩
theorem main_1_1 : Claimed_1_1 := comes_1 fun _ _ _ _ _ _ h hF => ⟨h.1, hF⟩
theorem main_1_2 : Claimed_1_2 := comes_1 fun _ _ _ _ _ _ h hF => ⟨h.2.1, hF⟩
end Jvm.Pilot.@@N@@
namespace Jvm.Pilot.@@N@@
open Jvm Jvm.ClassFile Sem Op Lib Jvm.Free Jvm.Stand Jvm.Pilot.@@N@@.Jvm.D
/-! MADE BY PROGRAM (witnessworld.py) out of the Statement's table words and the real class files: 10 classes; the members and pool entries that the words name. The judged class is class 1, her method 1. -/
namespace start1
open Jvm.ClassFile
def u (s : String) : CpInfo := .utf8 (stringToUtf16 s)
/-- a pool by its gaps: so many unusable entries, then the entry; so many at the end -/
def gap : Nat → List CpInfo → List CpInfo
  | 0, r => r
  | n + 1, r => .unusable :: gap n r
def poolList (es : List (Nat × CpInfo)) (last : Nat) : List CpInfo := es.foldr (fun e r => gap e.1 (e.2 :: r)) (gap last [])
def pool (es : List (Nat × CpInfo)) (last : Nat) : Array CpInfo := ⟨poolList es last⟩
def fileOf (pool : Array CpInfo) (this : Nat) (attrs : Array Attribute := #[]) (ms : Array MethodInfo := #[]) (fl : Nat := 33) (sup : Nat := 0) (ifs : Array Nat := #[]) (fds : Array FieldInfo := #[]) : ClassFile where
  minorVersion := 0
  majorVersion := 65
  constantPool := pool
  accessFlags := fl
  thisClass := this
  superClass := sup
  interfaces := ifs
  fields := fds
  methods := ms
  attributes := attrs
def plain (name : String) (sup : Option ClassId) : Class where
  name := name
  kind := .ordinary
  loader := none
  accessFlags := 33
  super := sup
  interfaces := #[]
  cf := none
  fields := #[]
  methods := #[]
  instanceTypes := #[]
  staticTypes := #[]
  resolved := #[]
  callSites := []
  init := .initialized
  statics := none
  mirror := none

def pool0 : Array CpInfo := pool [(5, u "<init>"), (0, u "()V"), (1, .class_ 10), (1, u "java/lang/Object")] 113

def k0c0 : Code := { maxStack := 0, maxLocals := 1, code := object_method_1_code, exceptionTable := #[], attributes := #[] }
def k0m0 : Method := { name := "<init>", desc := "()V", sig := { parameters := [], returnType := none }, accessFlags := 1, code := some k0c0 }
/-- java/lang/Object -/
def k0 : Class := { plain "java/lang/Object" none with
  accessFlags := 33
  interfaces := #[]
  cf := some (fileOf pool0 8 #[] #[{ accessFlags := 1, nameIndex := 5, descriptorIndex := 6, attributes := #[] }] 33 0 #[] #[])
  fields := #[]
  methods := #[k0m0]
  instanceTypes := #[]
  staticTypes := #[]
  resolved := Array.replicate 124 none
  statics := none }

def pool1 : Array CpInfo := pool [(2, .class_ 4), (1, u "java/lang/Object"), (0, u "<init>"), (0, u "()V"), (0, .integer 2147483647), (0, .class_ 9), (0, u "com/example/invites_to_friends/invitestofriends/bench/Call"), (0, .methodref 8 11), (0, .nameAndType 5 12), (0, u "(JJI[B)V"), (0, .methodref 8 14), (0, .nameAndType 15 16), (0, u "succeeded"), (0, u "()Z"), (0, .methodref 8 18), (0, .nameAndType 19 16), (0, u "answered"), (0, .class_ 21), (0, u "com/example/invites_to_friends/invitestofriends/bench/CallSucceededPinLaw"), (2, u "law"), (0, u "(IIJJI)Z")] 5

def k1m0 : Method := { name := "<init>", desc := "()V", sig := { parameters := [], returnType := none }, accessFlags := 1, code := none }
def k1c1 : Code := { maxStack := 8, maxLocals := 12, code := code, exceptionTable := #[], attributes := #[] }
def k1m1 : Method := { name := "law", desc := "(IIJJI)Z", sig := { parameters := [.int, .int, .long, .long, .int], returnType := some .boolean }, accessFlags := 9, code := some k1c1 }
/-- com/example/invites_to_friends/invitestofriends/bench/CallSucceededPinLaw -/
def k1 : Class := { plain "com/example/invites_to_friends/invitestofriends/bench/CallSucceededPinLaw" (some 0) with
  accessFlags := 49
  interfaces := #[]
  cf := some (fileOf pool1 20 #[] #[{ accessFlags := 1, nameIndex := 5, descriptorIndex := 6, attributes := #[] }, { accessFlags := 9, nameIndex := 24, descriptorIndex := 25, attributes := #[] }] 49 2 #[] #[])
  fields := #[]
  methods := #[k1m0, k1m1]
  instanceTypes := #[]
  staticTypes := #[]
  resolved := Array.replicate 31 none
  statics := none }

def pool2 : Array CpInfo := pool [(1, .methodref 2 3), (0, .class_ 4), (0, .nameAndType 5 6), (0, u "java/lang/Object"), (0, u "<init>"), (0, u "()V"), (0, .class_ 8), (0, u "java/lang/Record")] 13

def k2c0 : Code := { maxStack := 1, maxLocals := 1, code := jdk_30_method_1_code, exceptionTable := #[], attributes := #[] }
def k2m0 : Method := { name := "<init>", desc := "()V", sig := { parameters := [], returnType := none }, accessFlags := 4, code := some k2c0 }
/-- java/lang/Record -/
def k2 : Class := { plain "java/lang/Record" (some 0) with
  accessFlags := 1057
  interfaces := #[]
  cf := some (fileOf pool2 7 #[] #[{ accessFlags := 4, nameIndex := 5, descriptorIndex := 6, attributes := #[] }] 1057 2 #[] #[])
  fields := #[]
  methods := #[k2m0]
  instanceTypes := #[]
  staticTypes := #[]
  resolved := Array.replicate 22 none
  statics := none }

def pool3 : Array CpInfo := pool [(1, .methodref 2 3), (0, .class_ 4), (0, .nameAndType 5 6), (0, u "java/lang/Record"), (0, u "<init>"), (0, u "()V"), (0, .fieldref 8 9), (0, .class_ 10), (0, .nameAndType 11 12), (0, u "com/example/invites_to_friends/invitestofriends/bench/Call"), (0, u "started"), (0, u "J"), (0, .fieldref 8 14), (0, .nameAndType 15 12), (0, u "ended"), (0, .fieldref 8 17), (0, .nameAndType 18 19), (0, u "status"), (0, u "I"), (0, .fieldref 8 21), (0, .nameAndType 22 23), (0, u "body"), (0, u "[B"), (12, u "NO_ANSWER"), (2, u "(JJI[B)V"), (3, u "answered"), (0, u "()Z"), (1, u "succeeded")] 31

def k3c0 : Code := { maxStack := 3, maxLocals := 7, code := prog_5_method_1_code, exceptionTable := #[], attributes := #[] }
def k3m0 : Method := { name := "<init>", desc := "(JJI[B)V", sig := { parameters := [.long, .long, .int, (.array .byte)], returnType := none }, accessFlags := 0, code := some k3c0 }
def k3c1 : Code := { maxStack := 1, maxLocals := 1, code := prog_5_method_2_code, exceptionTable := #[], attributes := #[] }
def k3m1 : Method := { name := "answered", desc := "()Z", sig := { parameters := [], returnType := some .boolean }, accessFlags := 0, code := some k3c1 }
def k3c2 : Code := { maxStack := 2, maxLocals := 1, code := prog_5_method_3_code, exceptionTable := #[], attributes := #[] }
def k3m2 : Method := { name := "succeeded", desc := "()Z", sig := { parameters := [], returnType := some .boolean }, accessFlags := 0, code := some k3c2 }
/-- com/example/invites_to_friends/invitestofriends/bench/Call -/
def k3 : Class := { plain "com/example/invites_to_friends/invitestofriends/bench/Call" (some 2) with
  accessFlags := 48
  interfaces := #[]
  cf := some (fileOf pool3 8 #[] #[{ accessFlags := 0, nameIndex := 5, descriptorIndex := 39, attributes := #[] }, { accessFlags := 0, nameIndex := 43, descriptorIndex := 44, attributes := #[] }, { accessFlags := 0, nameIndex := 46, descriptorIndex := 44, attributes := #[] }] 48 2 #[] #[{ accessFlags := 18, nameIndex := 11, descriptorIndex := 12, attributes := #[] }, { accessFlags := 18, nameIndex := 15, descriptorIndex := 12, attributes := #[] }, { accessFlags := 18, nameIndex := 18, descriptorIndex := 19, attributes := #[] }, { accessFlags := 18, nameIndex := 22, descriptorIndex := 23, attributes := #[] }, { accessFlags := 24, nameIndex := 36, descriptorIndex := 19, attributes := #[] }])
  fields := #[{ name := "started", type := .long, accessFlags := 18, slot := 0, constantValue := 0 }, { name := "ended", type := .long, accessFlags := 18, slot := 1, constantValue := 0 }, { name := "status", type := .int, accessFlags := 18, slot := 2, constantValue := 0 }, { name := "body", type := (.array .byte), accessFlags := 18, slot := 3, constantValue := 0 }, { name := "NO_ANSWER", type := .int, accessFlags := 24, slot := 0, constantValue := 0 }]
  methods := #[k3m0, k3m1, k3m2]
  instanceTypes := #[.long, .long, .int, (.array .byte)]
  staticTypes := #[.int]
  resolved := Array.replicate 78 none
  statics := none }

def pool4 : Array CpInfo := pool [(1, u "java/lang/Cloneable"), (0, .class_ 1), (0, u "java/lang/Object"), (0, .class_ 3)] 3

/-- java/lang/Cloneable -/
def k4 : Class := { plain "java/lang/Cloneable" (some 0) with
  accessFlags := 1537
  interfaces := #[]
  cf := some (fileOf pool4 2 #[] #[] 1537 4 #[] #[])
  fields := #[]
  methods := #[]
  instanceTypes := #[]
  staticTypes := #[]
  resolved := Array.replicate 8 none
  statics := none }

def pool5 : Array CpInfo := pool [(1, u "java/io/Serializable"), (0, .class_ 1), (0, u "java/lang/Object"), (0, .class_ 3)] 3

/-- java/io/Serializable -/
def k5 : Class := { plain "java/io/Serializable" (some 0) with
  accessFlags := 1537
  interfaces := #[]
  cf := some (fileOf pool5 2 #[] #[] 1537 4 #[] #[])
  fields := #[]
  methods := #[]
  instanceTypes := #[]
  staticTypes := #[]
  resolved := Array.replicate 8 none
  statics := none }

/-- the primitive byte -/
def k6 : Class := { plain "byte" none with kind := .primitive 'B', accessFlags := 0x411 }
/-- [B -/
def k7 : Class := { plain "[B" (some 0) with kind := .array 6 .byte, interfaces := #[4, 5], accessFlags := 1041 }

/-- the primitive int -/
def k8 : Class := { plain "int" none with kind := .primitive 'I', accessFlags := 0x411 }
/-- [I -/
def k9 : Class := { plain "[I" (some 0) with kind := .array 8 .int, interfaces := #[4, 5], accessFlags := 1041 }

def heap : Heap := #[]
def classes : Array Class := #[k0, k1, k2, k3, k4, k5, k6, k7, k8, k9]
def interned : List (Array UInt16 × Addr) := []
def slotsUsed : Nat := 0
def theMethod : MethodId := ⟨1, 1⟩
def args0 : Array Value := #[.int 5, .int 3, .long 3, .long 9, .int 4]
def aboutOver (below : List Frame) : State where
  vm := { classes := classes, interned := interned.toArray }
  heap := heap
  slotsUsed := slotsUsed
  threads := #[{ frames := .invoking theMethod args0 :: below }]
def below0 : List Frame := [.native { method := ⟨0, 0⟩, args := #[] }]
def about1 : State := aboutOver below0
def p0 : Program := .bare "" "" ""
def e0 : Env := launch0.env 0 0 0
theorem w_frames : about1.frames = Frame.invoking theMethod args0 :: below0 := rfl
set_option maxRecDepth 65536 in
theorem w_args : argsFit about1.vm theMethod args0 = true := by decide +kernel
set_option maxRecDepth 65536 in
theorem w_heap : heapFits about1 = true := by decide +kernel
set_option maxRecDepth 65536 in
theorem w_runnable : about1.curStatus? = some .runnable := by decide +kernel
set_option maxRecDepth 65536 in
theorem w_alone : about1.alone = true := by decide +kernel
set_option maxRecDepth 65536 in
theorem w_named : about1.methodNamed? x = some theMethod := by decide +kernel
set_option maxRecDepth 65536 in
theorem w_hears : about1.hears theMethod below0 = true := by decide +kernel
set_option maxRecDepth 65536 in
theorem w_ripe : about1.ripe theMethod args0 below0 = true := by decide +kernel
theorem w_running : about1.status = .running := rfl
set_option maxRecDepth 65536 in
theorem w_room : about1.hasRoom e0.platform room_1 = true :=
  launch0.hasRoom_least _ room_1 (by decide +kernel) (by decide +kernel) (by decide +kernel) (by decide +kernel) (by decide +kernel) (by decide +kernel)
theorem allAtoms_all (ts : List Jvm.Cond) (a : Array Jvm.Value) (st : Jvm.State) : (allAtoms ts).before a st = ts.all (fun c => c.before a st) := by
  induction ts with
  | nil => rfl
  | cons c t ih =>
    show (Jvm.Cond.and c (allAtoms t)).before a st = _
    rw [Jvm.Cond.before_and, ih, List.all_cons]
def words1 : List Jvm.Cond := Jvm.Cond.code x code maxLocals ret :: tables_1
/-- a 'code' word, met by the world's own term for the bytes: nothing is compared byte by byte -/
theorem code_word {y : MethodName} {bytes : ByteArray} {mx : Nat} {rt : Option FieldType} {a : Array Value} {s : State} {m : MethodId} {meth : Method} {c : Code} (h1 : s.methodNamed? y = some m) (h2 : s.vm.method? m = some meth) (h3 : meth.code = some c) (h4 : c.code = bytes)
    (h5 : (c.maxLocals == mx && c.exceptionTable.isEmpty && decide (c.maxStack ≤ mostOperands) && decide (meth.sig.returnType = rt) && !meth.locks && decide (parseMethodDescriptor y.desc = some meth.sig)) = true) : (Jvm.Cond.code y bytes mx rt).before a s = true := by
  simp only [Bool.and_eq_true, beq_iff_eq, Bool.not_eq_true', decide_eq_true_eq] at h5
  obtain ⟨⟨⟨⟨⟨g1, g2⟩, g3⟩, g4⟩, g5⟩, g6⟩ := h5
  simp [Cond.before, Cond.holds, Cond.value, h1, h2, h3, h4, g1, g2, g3, g4, g5, g6]
def isCode : Jvm.Cond → Bool
  | .code _ _ _ _ => true
  | _ => false
theorem all_split {L : List Jvm.Cond} {P : Jvm.Cond → Bool} (h1 : L.all (fun c => isCode c || P c) = true) (h2 : ∀ c ∈ L.filter isCode, P c = true) : L.all P = true := by
  refine List.all_eq_true.mpr fun c hc => ?_
  have h := List.all_eq_true.mp h1 c hc
  rcases Bool.eq_false_or_eq_true (isCode c) with hi | hi
  · exact h2 c (List.mem_filter.mpr ⟨hc, hi⟩)
  · simpa [hi] using h
set_option maxRecDepth 65536 in
theorem w_c0 : (Jvm.Cond.code x code maxLocals ret).before args0 about1 = true := code_word (m := ⟨1, 1⟩) (meth := k1m1) (c := k1c1) (by decide +kernel) rfl rfl rfl (by decide +kernel)
set_option maxRecDepth 65536 in
theorem w_c1 : (Jvm.Cond.code ({ cls := "com/example/invites_to_friends/invitestofriends/bench/Call", name := "<init>", desc := "(JJI[B)V" } : Jvm.MethodName) prog_5_method_1_code (7 : Nat) (Option.none : Option Jvm.ClassFile.FieldType)).before args0 about1 = true := code_word (m := ⟨3, 0⟩) (meth := k3m0) (c := k3c0) (by decide +kernel) rfl rfl rfl (by decide +kernel)
set_option maxRecDepth 65536 in
theorem w_c2 : (Jvm.Cond.code ({ cls := "java/lang/Record", name := "<init>", desc := "()V" } : Jvm.MethodName) jdk_30_method_1_code (1 : Nat) (Option.none : Option Jvm.ClassFile.FieldType)).before args0 about1 = true := code_word (m := ⟨2, 0⟩) (meth := k2m0) (c := k2c0) (by decide +kernel) rfl rfl rfl (by decide +kernel)
set_option maxRecDepth 65536 in
theorem w_c3 : (Jvm.Cond.code ({ cls := "java/lang/Object", name := "<init>", desc := "()V" } : Jvm.MethodName) object_method_1_code (1 : Nat) (Option.none : Option Jvm.ClassFile.FieldType)).before args0 about1 = true := code_word (m := ⟨0, 0⟩) (meth := k0m0) (c := k0c0) (by decide +kernel) rfl rfl rfl (by decide +kernel)
set_option maxRecDepth 65536 in
theorem w_c4 : (Jvm.Cond.code ({ cls := "com/example/invites_to_friends/invitestofriends/bench/Call", name := "succeeded", desc := "()Z" } : Jvm.MethodName) prog_5_method_3_code (1 : Nat) (Option.some Jvm.ClassFile.FieldType.boolean)).before args0 about1 = true := code_word (m := ⟨3, 2⟩) (meth := k3m2) (c := k3c2) (by decide +kernel) rfl rfl rfl (by decide +kernel)
set_option maxRecDepth 65536 in
theorem w_c5 : (Jvm.Cond.code ({ cls := "com/example/invites_to_friends/invitestofriends/bench/Call", name := "answered", desc := "()Z" } : Jvm.MethodName) prog_5_method_2_code (1 : Nat) (Option.some Jvm.ClassFile.FieldType.boolean)).before args0 about1 = true := code_word (m := ⟨3, 1⟩) (meth := k3m1) (c := k3c1) (by decide +kernel) rfl rfl rfl (by decide +kernel)
def codes1 : List Jvm.Cond := [Jvm.Cond.code x code maxLocals ret, Jvm.Cond.code ({ cls := "com/example/invites_to_friends/invitestofriends/bench/Call", name := "<init>", desc := "(JJI[B)V" } : Jvm.MethodName) prog_5_method_1_code (7 : Nat) (Option.none : Option Jvm.ClassFile.FieldType), Jvm.Cond.code ({ cls := "java/lang/Record", name := "<init>", desc := "()V" } : Jvm.MethodName) jdk_30_method_1_code (1 : Nat) (Option.none : Option Jvm.ClassFile.FieldType), Jvm.Cond.code ({ cls := "java/lang/Object", name := "<init>", desc := "()V" } : Jvm.MethodName) object_method_1_code (1 : Nat) (Option.none : Option Jvm.ClassFile.FieldType), Jvm.Cond.code ({ cls := "com/example/invites_to_friends/invitestofriends/bench/Call", name := "succeeded", desc := "()Z" } : Jvm.MethodName) prog_5_method_3_code (1 : Nat) (Option.some Jvm.ClassFile.FieldType.boolean), Jvm.Cond.code ({ cls := "com/example/invites_to_friends/invitestofriends/bench/Call", name := "answered", desc := "()Z" } : Jvm.MethodName) prog_5_method_2_code (1 : Nat) (Option.some Jvm.ClassFile.FieldType.boolean)]
set_option maxRecDepth 65536 in
theorem codes_eq : words1.filter isCode = codes1 := rfl
theorem w_codes : ∀ c ∈ words1.filter isCode, c.before args0 about1 = true := by
  rw [codes_eq]
  intro c hc
  simp only [codes1, List.mem_cons, List.not_mem_nil, or_false] at hc
  rcases hc with rfl | rfl | rfl | rfl | rfl | rfl
  · exact w_c0
  · exact w_c1
  · exact w_c2
  · exact w_c3
  · exact w_c4
  · exact w_c5
set_option maxRecDepth 65536 in
theorem w_t1 : (words1.take 24).all (fun c => isCode c || c.before args0 about1) = true := by decide +kernel
set_option maxRecDepth 65536 in
theorem w_t2 : (words1.drop 24).all (fun c => isCode c || c.before args0 about1) = true := by decide +kernel
theorem w_tables : (allAtoms (Jvm.Cond.code x code maxLocals ret :: tables_1)).before args0 about1 = true := by
  rw [allAtoms_all]
  show words1.all (fun c => c.before args0 about1) = true
  refine all_split ?_ w_codes
  rw [← List.take_append_drop 24 words1, List.all_append, w_t1, w_t2]
  rfl
set_option maxRecDepth 65536 in
theorem w_case : (Jvm.Cond.and given_1 narrow_1).before args0 about1 = true := by decide +kernel
theorem w_applies : (headSpec (Jvm.Cond.code x code maxLocals ret :: tables_1) room_1).applies x e0.platform about1 = true :=
  (Spec.applies_iff w_frames).mpr ⟨w_running, w_runnable, w_alone, w_named, w_hears, w_ripe, w_room, w_tables⟩
theorem atStart : AtStart classFile x code maxLocals ret World_1 tables_1 room_1 Calls_1 rest_1 Pre_1 launch0 p0 e0 about1 theMethod args0 below0 :=
  ⟨lists_1, trivial, launch0.admits_env _ _ _, launch0.least_env, fairChoices_fair.cas, fairChoices_fair.clock, w_frames, w_args, w_heap, w_applies, trivial, trivial, w_case⟩
end start1
theorem witness_1 : WitnessClaimed_1 := ⟨start1.p0, start1.e0, start1.about1, start1.theMethod, start1.args0, start1.below0, start1.atStart⟩
end Jvm.Pilot.@@N@@
