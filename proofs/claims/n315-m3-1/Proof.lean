import JvmDerived
import JvmDerived.Pilot.@@N@@Statement
import JvmDerived.Pilot.@@N@@Code
set_option linter.unusedVariables false
set_option linter.unusedSimpArgs false
namespace Jvm.Pilot.@@N@@
open Jvm Jvm.ClassFile Sem Op Lib Jvm.Free Jvm.Stand Jvm.LawKit Jvm.RoadKit Bundle Jvm.Pilot.@@N@@.Jvm.D
-- OWN KIT (mine): reach, finish, weakening of the counters, arrays by a function, arithmetic in omega's form
abbrev own_R (tb : Tables) (e : Env) (below : List Frame) (F0 F : State) : Prop := ∀ t, Steps tb e below F t → Steps tb e below F0 t
abbrev own_G (p : Program) (e : Env) (below : List Frame) (s F0 : State) (Q : Option Value → Heap → List Loc → Prop) (kc ks : Nat) : Prop :=
  ∃ s₂ o, Steps p.tables e below F0 s₂ ∧ s₂.status = .running ∧ Ended s₂ below o ∧ ∃ v L, o = .returned v ∧ Q v s₂.heap L ∧ FrameEnd s o s₂ L kc ks
section OwnKit
variable {p : Program} {l : Launch} {e : Env} {R : Room} {s : State} {m : MethodId} {args : Array Value} {below : List Frame} {meth : Method} {c : Code} {T : State} {locs : List Loc} {cells slots : Nat}
theorem own_fin (X : Stand p l e R s m args below meth c T locs cells slots) (hl : meth.locks = false) {F0 : State} {Q : Option Value → Heap → List Loc → Prop} {kc ks : Nat} (v : Option Value) (hv : meth.sig.returnType = none → v = none) (hq : Q v T.heap locs) (hc : cells ≤ kc) (hs : slots ≤ ks)
    (st : ∀ fs, (∀ (f : JFrame) (acts : List Action), f.method = m → f.locked = none → f.entered = [] → (doReturn e (T.setTop f) acts v).1 = T.setFrames fs) → Steps p.tables e below F0 (T.setFrames fs)) : own_G p e below s F0 Q kc ks := by
  obtain ⟨fs, hr, hrun, hended, hW, hsame⟩ := X.leave hv hl
  exact ⟨_, _, st fs hr, hrun, hended, _, _, rfl, hq, ⟨_, rfl⟩, hW, hsame.mono hc hs⟩
theorem own_mono (X : Stand p l e R s m args below meth c T locs cells slots) {c' s' : Nat} (hc : cells ≤ c') (hs : slots ≤ s') : Stand p l e R s m args below meth c T locs c' s' := { X with same := X.same.mono hc hs }
end OwnKit
theorem own_hv {meth : Method} {t : FieldType} {v : Option Value} (h : meth.sig.returnType = some t) : meth.sig.returnType = none → v = none := fun q => by rw [h] at q; cases q
theorem own_lt32 {a b : Int32} (h : a < b) : a.toInt < b.toInt := Int32.lt_iff_toInt_lt.mp h
theorem own_nlt32 {a b : Int32} (h : ¬ a < b) : b.toInt ≤ a.toInt := Int.not_lt.mp fun q => h (Int32.lt_iff_toInt_lt.mpr q)
theorem own_eq32 {a b : Int32} (h : a = b) : a.toInt = b.toInt := congrArg Int32.toInt h
theorem own_ne32 {a b : Int32} (h : ¬ a = b) : a.toInt ≠ b.toInt := fun q => h (Int32.toInt_inj.mp q)
theorem own_lt64 {a b : Int64} (h : a < b) : a.toInt < b.toInt := Int64.lt_iff_toInt_lt.mp h
theorem own_nlt64 {a b : Int64} (h : ¬ a < b) : b.toInt ≤ a.toInt := Int.not_lt.mp fun q => h (Int64.lt_iff_toInt_lt.mpr q)
theorem own_eq64 {a b : Int64} (h : a = b) : a.toInt = b.toInt := congrArg Int64.toInt h
theorem own_ne64 {a b : Int64} (h : ¬ a = b) : a.toInt ≠ b.toInt := fun q => h (Int64.toInt_inj.mp q)
theorem own_imulc (x y : Int32) (d : Int) (h : y.toInt = d) : ((x * y).toInt - x.toInt * d) % 4294967296 = 0 := by rw [← h]; exact c_imul x y
theorem own_imulc' (x y : Int32) (d : Int) (h : x.toInt = d) : ((x * y).toInt - d * y.toInt) % 4294967296 = 0 := by rw [← h]; exact c_imul x y
theorem own_lmulc (x y : Int64) (d : Int) (h : y.toInt = d) : ((x * y).toInt - x.toInt * d) % 18446744073709551616 = 0 := by rw [← h]; exact c_lmul x y
theorem own_lmulc' (x y : Int64) (d : Int) (h : x.toInt = d) : ((x * y).toInt - d * y.toInt) % 18446744073709551616 = 0 := by rw [← h]; exact c_lmul x y
theorem own_mask (x m : Int32) (k : Nat) (P : Int) (hk : k ≤ 31) (hm : m.toBitVec.toNat = 2 ^ k - 1) (hP : P = ((2 ^ k : Nat) : Int)) : (x &&& m).toInt = x.toInt % P := by rw [hP]; exact c_mask x m k hk hm
theorem own_maskL (x m : Int64) (k : Nat) (P : Int) (hk : k ≤ 63) (hm : m.toBitVec.toNat = 2 ^ k - 1) (hP : P = ((2 ^ k : Nat) : Int)) : (x &&& m).toInt = x.toInt % P := by rw [hP]; exact c_maskL x m k hk hm
theorem own_ishr (x q : Int32) (k : Nat) (P : Int) (hk : q.toBitVec.toNat % 32 = k) (hP : P = ((2 ^ k : Nat) : Int)) : (x >>> (q &&& 31)).toInt = x.toInt / P := by rw [hP]; exact c_ishr x q k hk
theorem own_ishl (x q : Int32) (k : Nat) (P : Int) (hk : q.toBitVec.toNat % 32 = k) (hP : P = ((2 ^ k : Nat) : Int)) : ((x <<< (q &&& 31)).toInt - x.toInt * P) % 4294967296 = 0 := by rw [hP]; exact c_ishl x q k hk
theorem own_iushr (x q : Int32) (k : Nat) (P : Int) (hk : q.toBitVec.toNat % 32 = k) (h0 : 0 < k) (hP : P = ((2 ^ k : Nat) : Int)) : ((x.toUInt32 >>> (q &&& 31).toUInt32).toInt32).toInt = (x.toInt % 4294967296) / P := by rw [hP]; exact c_iushr x q k hk h0
theorem own_lshr (x : Int64) (q : Int32) (k : Nat) (P : Int) (hk : q.toBitVec.toNat % 64 = k) (hP : P = ((2 ^ k : Nat) : Int)) : (x >>> (q &&& 0x3f).toInt64).toInt = x.toInt / P := by rw [hP]; exact c_lshr x q k hk
theorem own_lshl (x : Int64) (q : Int32) (k : Nat) (P : Int) (hk : q.toBitVec.toNat % 64 = k) (hP : P = ((2 ^ k : Nat) : Int)) : ((x <<< (q &&& 0x3f).toInt64).toInt - x.toInt * P) % 18446744073709551616 = 0 := by rw [hP]; exact c_lshl x q k hk
theorem own_lushr (x : Int64) (q : Int32) (k : Nat) (P : Int) (hk : q.toBitVec.toNat % 64 = k) (h0 : 0 < k) (hP : P = ((2 ^ k : Nat) : Int)) : ((x.toUInt64 >>> (q &&& 0x3f).toInt64.toUInt64).toInt64).toInt = (x.toInt % 18446744073709551616) / P := by rw [hP]; exact c_lushr x q k hk h0
theorem own_lc_lt {x y : Int64} {cd : ClassFile.Cond} {b : Bool} (h : if_icmp.holds cd (lcmpW x y) 0 = b) : ifCond.holds cd (lcmpW x y) = b := (if0 _ _).trans h
theorem own_l_lt {x y : Int64} (h : x < y) : ifCond.holds .lt (lcmpW x y) = true ∧ ifCond.holds .ge (lcmpW x y) = false := ⟨(if0 _ _).trans (tlt ((lw_lt x y).mpr h)).1, (if0 _ _).trans (tlt ((lw_lt x y).mpr h)).2.1⟩
theorem own_l_nlt {x y : Int64} (h : ¬ x < y) : ifCond.holds .lt (lcmpW x y) = false ∧ ifCond.holds .ge (lcmpW x y) = true := ⟨(if0 _ _).trans (flt (fun q => h ((lw_lt x y).mp q))).1, (if0 _ _).trans (flt (fun q => h ((lw_lt x y).mp q))).2.1⟩
theorem own_l_gt {x y : Int64} (h : y < x) : ifCond.holds .gt (lcmpW x y) = true ∧ ifCond.holds .le (lcmpW x y) = false := ⟨(if0 _ _).trans (tlt ((lw_gt x y).mpr h)).2.2.1, (if0 _ _).trans (tlt ((lw_gt x y).mpr h)).2.2.2⟩
theorem own_l_ngt {x y : Int64} (h : ¬ y < x) : ifCond.holds .gt (lcmpW x y) = false ∧ ifCond.holds .le (lcmpW x y) = true := ⟨(if0 _ _).trans (flt (fun q => h ((lw_gt x y).mp q))).2.2.1, (if0 _ _).trans (flt (fun q => h ((lw_gt x y).mp q))).2.2.2⟩
theorem own_l_eq {x y : Int64} (h : x = y) : ifCond.holds .eq (lcmpW x y) = true ∧ ifCond.holds .ne (lcmpW x y) = false := ⟨(if0 _ _).trans (teq ((lw_eq x y).mpr h)).1, (if0 _ _).trans (teq ((lw_eq x y).mpr h)).2⟩
theorem own_l_neq {x y : Int64} (h : ¬ x = y) : ifCond.holds .eq (lcmpW x y) = false ∧ ifCond.holds .ne (lcmpW x y) = true := ⟨(if0 _ _).trans (feq (fun q => h ((lw_eq x y).mp q))).1, (if0 _ _).trans (feq (fun q => h ((lw_eq x y).mp q))).2⟩
theorem own_lrem {x y : Int64} {d : Int} (hy : y.toInt = d) : (0 ≤ x.toInt → (x - (x / y) * y).toInt = x.toInt % d) ∧ (x.toInt < 0 → (x - (x / y) * y).toInt = -((-x.toInt) % d)) := c_lrem x y d hy
theorem own_lremf (x y : Int64) (d : Int) (hy : y.toInt = d) : (0 ≤ x.toInt → (x % y).toInt = x.toInt % d) ∧ (x.toInt < 0 → (x % y).toInt = -((-x.toInt) % d)) := by rw [Int64.toInt_mod, hy]; exact tr _ _
theorem own_lremM {p : Program} {l : Launch} {e : Env} {R : Room} {s : State} {m : MethodId} {args : Array Value} {below : List Frame} {meth : Method} {c : Code} {T : State} {locs : List Loc} {cells slots : Nat} {g : JFrame} {target : State} (X : Stand p l e R s m args below meth c T locs cells slots) (hx : p.tables.exec = Jvm.exec) (hg : g.method = m) {x y : Int64} {rest : List Value} (hd : decode c.code g.pc = .ok (.lrem, 1)) (hs : g.stack = .long y :: .long x :: rest) (hy : y ≠ 0)
    (hr : Steps p.tables e below (T.setTop { g with pc := g.pc + 1, stack := .long (x % y) :: rest }) target) : Steps p.tables e below (T.setTop g) target :=
  XS.lrem X.here hx hg hd hs hy (by rw [lrem_mod]; exact hr)
theorem own_R32 (x : Int32) : -2147483648 ≤ x.toInt ∧ x.toInt ≤ 2147483647 := by have := rng32 x; omega
theorem own_R64 (x : Int64) : -9223372036854775808 ≤ x.toInt ∧ x.toInt ≤ 9223372036854775807 := by have := rng64 x; omega
theorem own_iaddR {x y : Int32} {a b c d : Int} (lo hi : Int) (hx : a ≤ x.toInt ∧ x.toInt ≤ b) (hy : c ≤ y.toInt ∧ y.toInt ≤ d) (h1 : -2147483648 ≤ a + c ∧ b + d ≤ 2147483647) (h2 : lo ≤ a + c ∧ b + d ≤ hi) : (x + y).toInt = x.toInt + y.toInt ∧ lo ≤ (x + y).toInt ∧ (x + y).toInt ≤ hi := by have := c_iadd x y; have := rng32 (x + y); omega
theorem own_isubR {x y : Int32} {a b c d : Int} (lo hi : Int) (hx : a ≤ x.toInt ∧ x.toInt ≤ b) (hy : c ≤ y.toInt ∧ y.toInt ≤ d) (h1 : -2147483648 ≤ a - d ∧ b - c ≤ 2147483647) (h2 : lo ≤ a - d ∧ b - c ≤ hi) : (x - y).toInt = x.toInt - y.toInt ∧ lo ≤ (x - y).toInt ∧ (x - y).toInt ≤ hi := by have := c_isub x y; have := rng32 (x - y); omega
theorem own_laddR {x y : Int64} {a b c d : Int} (lo hi : Int) (hx : a ≤ x.toInt ∧ x.toInt ≤ b) (hy : c ≤ y.toInt ∧ y.toInt ≤ d) (h1 : -9223372036854775808 ≤ a + c ∧ b + d ≤ 9223372036854775807) (h2 : lo ≤ a + c ∧ b + d ≤ hi) : (x + y).toInt = x.toInt + y.toInt ∧ lo ≤ (x + y).toInt ∧ (x + y).toInt ≤ hi := by have := c_ladd x y; have := rng64 (x + y); omega
theorem own_lsubR {x y : Int64} {a b c d : Int} (lo hi : Int) (hx : a ≤ x.toInt ∧ x.toInt ≤ b) (hy : c ≤ y.toInt ∧ y.toInt ≤ d) (h1 : -9223372036854775808 ≤ a - d ∧ b - c ≤ 9223372036854775807) (h2 : lo ≤ a - d ∧ b - c ≤ hi) : (x - y).toInt = x.toInt - y.toInt ∧ lo ≤ (x - y).toInt ∧ (x - y).toInt ≤ hi := by have := c_lsub x y; have := rng64 (x - y); omega
theorem own_imulR {x y : Int32} {a b k : Int} (lo hi : Int) (hx : a ≤ x.toInt ∧ x.toInt ≤ b) (hy : y.toInt = k) (hk : 0 ≤ k) (h1 : -2147483648 ≤ a * k ∧ b * k ≤ 2147483647) (h2 : lo ≤ a * k ∧ b * k ≤ hi) : (x * y).toInt = x.toInt * k ∧ lo ≤ (x * y).toInt ∧ (x * y).toInt ≤ hi := by
  have h := c_imul x y; have := rng32 (x * y); rw [hy] at h
  have p1 := Int.mul_le_mul_of_nonneg_right hx.1 hk; have p2 := Int.mul_le_mul_of_nonneg_right hx.2 hk
  generalize x.toInt * k = z at *; generalize a * k = z1 at *; generalize b * k = z2 at *; omega
theorem own_lmulR {x y : Int64} {a b k : Int} (lo hi : Int) (hx : a ≤ x.toInt ∧ x.toInt ≤ b) (hy : y.toInt = k) (hk : 0 ≤ k) (h1 : -9223372036854775808 ≤ a * k ∧ b * k ≤ 9223372036854775807) (h2 : lo ≤ a * k ∧ b * k ≤ hi) : (x * y).toInt = x.toInt * k ∧ lo ≤ (x * y).toInt ∧ (x * y).toInt ≤ hi := by
  have h := c_lmul x y; have := rng64 (x * y); rw [hy] at h
  have p1 := Int.mul_le_mul_of_nonneg_right hx.1 hk; have p2 := Int.mul_le_mul_of_nonneg_right hx.2 hk
  generalize x.toInt * k = z at *; generalize a * k = z1 at *; generalize b * k = z2 at *; omega
theorem own_imulR' {x y : Int32} {a b k : Int} (lo hi : Int) (hx : a ≤ y.toInt ∧ y.toInt ≤ b) (hy : x.toInt = k) (hk : 0 ≤ k) (h1 : -2147483648 ≤ a * k ∧ b * k ≤ 2147483647) (h2 : lo ≤ a * k ∧ b * k ≤ hi) : (x * y).toInt = y.toInt * k ∧ lo ≤ (x * y).toInt ∧ (x * y).toInt ≤ hi := by rw [Int32.mul_comm]; exact own_imulR lo hi hx hy hk h1 h2
theorem own_lmulR' {x y : Int64} {a b k : Int} (lo hi : Int) (hx : a ≤ y.toInt ∧ y.toInt ≤ b) (hy : x.toInt = k) (hk : 0 ≤ k) (h1 : -9223372036854775808 ≤ a * k ∧ b * k ≤ 9223372036854775807) (h2 : lo ≤ a * k ∧ b * k ≤ hi) : (x * y).toInt = y.toInt * k ∧ lo ≤ (x * y).toInt ∧ (x * y).toInt ≤ hi := by rw [Int64.mul_comm]; exact own_lmulR lo hi hx hy hk h1 h2
theorem own_maskR (x m : Int32) (k : Nat) (P : Int) (hk : k ≤ 31) (hm : m.toBitVec.toNat = 2 ^ k - 1) (hP : P = ((2 ^ k : Nat) : Int)) (hi : Int) (h0 : 0 < P) (h : P ≤ hi + 1) : (x &&& m).toInt = x.toInt % P ∧ 0 ≤ (x &&& m).toInt ∧ (x &&& m).toInt ≤ hi := by
  have e := own_mask x m k P hk hm hP; have h1 := Int.emod_nonneg x.toInt (show P ≠ 0 by omega); have h2 := Int.emod_lt_of_pos x.toInt h0; omega
theorem own_maskLR (x m : Int64) (k : Nat) (P : Int) (hk : k ≤ 63) (hm : m.toBitVec.toNat = 2 ^ k - 1) (hP : P = ((2 ^ k : Nat) : Int)) (hi : Int) (h0 : 0 < P) (h : P ≤ hi + 1) : (x &&& m).toInt = x.toInt % P ∧ 0 ≤ (x &&& m).toInt ∧ (x &&& m).toInt ≤ hi := by
  have e := own_maskL x m k P hk hm hP; have h1 := Int.emod_nonneg x.toInt (show P ≠ 0 by omega); have h2 := Int.emod_lt_of_pos x.toInt h0; omega
theorem own_iremR {x y : Int32} {a b d : Int} (hi : Int) (hx : a ≤ x.toInt ∧ x.toInt ≤ b) (hy : y.toInt = d) (ha : 0 ≤ a) (hd : 0 < d) (h : d ≤ hi + 1) : (x % y).toInt = x.toInt % d ∧ 0 ≤ (x % y).toInt ∧ (x % y).toInt ≤ hi := by
  have e := (c_irem x y d hy).1 (by omega); have h1 := Int.emod_nonneg x.toInt (show d ≠ 0 by omega); have h2 := Int.emod_lt_of_pos x.toInt hd; omega
theorem own_lremR {x y : Int64} {a b d : Int} (hi : Int) (hx : a ≤ x.toInt ∧ x.toInt ≤ b) (hy : y.toInt = d) (ha : 0 ≤ a) (hd : 0 < d) (h : d ≤ hi + 1) : (x % y).toInt = x.toInt % d ∧ 0 ≤ (x % y).toInt ∧ (x % y).toInt ≤ hi := by
  have e := (own_lremf x y d hy).1 (by omega); have h1 := Int.emod_nonneg x.toInt (show d ≠ 0 by omega); have h2 := Int.emod_lt_of_pos x.toInt hd; omega
theorem own_idivR {x y : Int32} {a b d : Int} (lo hi : Int) (hx : a ≤ x.toInt ∧ x.toInt ≤ b) (hy : y.toInt = d) (hy1 : y ≠ -1) (ha : 0 ≤ a) (hd : 0 < d) (h : lo ≤ a / d ∧ b / d ≤ hi) : (x / y).toInt = x.toInt / d ∧ lo ≤ (x / y).toInt ∧ (x / y).toInt ≤ hi := by
  have e := (c_idiv x y d hy hy1).1 (by omega); have h1 := Int.ediv_le_ediv hd hx.1; have h2 := Int.ediv_le_ediv hd hx.2; omega
theorem own_ldivR {x y : Int64} {a b d : Int} (lo hi : Int) (hx : a ≤ x.toInt ∧ x.toInt ≤ b) (hy : y.toInt = d) (hy1 : y ≠ -1) (ha : 0 ≤ a) (hd : 0 < d) (h : lo ≤ a / d ∧ b / d ≤ hi) : (x / y).toInt = x.toInt / d ∧ lo ≤ (x / y).toInt ∧ (x / y).toInt ≤ hi := by
  have e := (c_ldiv x y d hy hy1).1 (by omega); have h1 := Int.ediv_le_ediv hd hx.1; have h2 := Int.ediv_le_ediv hd hx.2; omega
theorem own_l2iR {x : Int64} {a b : Int} (hx : a ≤ x.toInt ∧ x.toInt ≤ b) (h1 : -2147483648 ≤ a ∧ b ≤ 2147483647) : x.toInt32.toInt = x.toInt ∧ a ≤ x.toInt32.toInt ∧ x.toInt32.toInt ≤ b := by have := c_l2i x; have := rng32 x.toInt32; omega
theorem own_i2lR {x : Int32} {a b : Int} (hx : a ≤ x.toInt ∧ x.toInt ≤ b) : x.toInt64.toInt = x.toInt ∧ a ≤ x.toInt64.toInt ∧ x.toInt64.toInt ≤ b := by have := c_i2l x; omega
theorem own_eqR32 {x y : Int32} {a b : Int} (h : x = y) (hy : a ≤ y.toInt ∧ y.toInt ≤ b) : x.toInt = y.toInt ∧ a ≤ x.toInt ∧ x.toInt ≤ b := by subst h; exact ⟨rfl, hy⟩
theorem own_eqR64 {x y : Int64} {a b : Int} (h : x = y) (hy : a ≤ y.toInt ∧ y.toInt ≤ b) : x.toInt = y.toInt ∧ a ≤ x.toInt ∧ x.toInt ≤ b := by subst h; exact ⟨rfl, hy⟩
theorem own_lushrR {x : Int64} {a b : Int} (q : Int32) (k : Nat) (P lo hi : Int) (hx : a ≤ x.toInt ∧ x.toInt ≤ b) (ha : 0 ≤ a) (hk : q.toBitVec.toNat % 64 = k) (h0 : 0 < k) (hP : P = ((2 ^ k : Nat) : Int)) (hPp : 0 < P) (h : lo ≤ a / P ∧ b / P ≤ hi) : ((x.toUInt64 >>> (q &&& 0x3f).toInt64.toUInt64).toInt64).toInt = x.toInt / P ∧ lo ≤ ((x.toUInt64 >>> (q &&& 0x3f).toInt64.toUInt64).toInt64).toInt ∧ ((x.toUInt64 >>> (q &&& 0x3f).toInt64.toUInt64).toInt64).toInt ≤ hi := by
  have e := own_lushr x q k P hk h0 hP; have := rng64 x; rw [Int.emod_eq_of_lt (by omega) (by omega)] at e; have h1 := Int.ediv_le_ediv hPp hx.1; have h2 := Int.ediv_le_ediv hPp hx.2; omega
theorem own_iushrR {x : Int32} {a b : Int} (q : Int32) (k : Nat) (P lo hi : Int) (hx : a ≤ x.toInt ∧ x.toInt ≤ b) (ha : 0 ≤ a) (hk : q.toBitVec.toNat % 32 = k) (h0 : 0 < k) (hP : P = ((2 ^ k : Nat) : Int)) (hPp : 0 < P) (h : lo ≤ a / P ∧ b / P ≤ hi) : ((x.toUInt32 >>> (q &&& 31).toUInt32).toInt32).toInt = x.toInt / P ∧ lo ≤ ((x.toUInt32 >>> (q &&& 31).toUInt32).toInt32).toInt ∧ ((x.toUInt32 >>> (q &&& 31).toUInt32).toInt32).toInt ≤ hi := by
  have e := own_iushr x q k P hk h0 hP; have := rng32 x; rw [Int.emod_eq_of_lt (by omega) (by omega)] at e; have h1 := Int.ediv_le_ediv hPp hx.1; have h2 := Int.ediv_le_ediv hPp hx.2; omega
-- OWN KIT 1 (mine): an array by a function of its places
def own_Arf (Z : State) (h : Heap) (a : Addr) (ty : FieldType) (n : Nat) (f : Nat → Value) : Prop := ∃ c : Cell, Arr Z h a c ty ∧ c.slots.size = n ∧ n < 2 ^ 31 ∧ ∀ j, j < n → c.slots[j]? = some (f j)
section OwnArf
variable {Z : State} {h h' : Heap} {a b : Addr} {ty : FieldType} {n : Nat} {f f' : Nat → Value} {sl : Nat} {v : Value} {ws : List Addr}
theorem own_Arf.lt (F : own_Arf Z h a ty n f) : a < h.size := by obtain ⟨c, A, -⟩ := F; exact A.lt
theorem own_Arf.ext (F : own_Arf Z h a ty n f) (E : Ext h h') : own_Arf Z h' a ty n f := by obtain ⟨c, A, r⟩ := F; exact ⟨c, A.ext E, r⟩
theorem own_Arf.other (F : own_Arf Z h b ty n f) (W : Wr h h' a sl v) (q : b ≠ a) : own_Arf Z h' b ty n f := by obtain ⟨c, A, r⟩ := F; exact ⟨c, A.other W q, r⟩
theorem own_Arf.keep (F : own_Arf Z h a ty n f) (K : Keep h h' ws) (q : a ∉ ws) : own_Arf Z h' a ty n f := by obtain ⟨c, A, r⟩ := F; exact ⟨c, ⟨K.2.1 a c A.1 q, A.2⟩, r⟩
theorem own_Arf.cong (F : own_Arf Z h a ty n f) (q : ∀ j, j < n → f j = f' j) : own_Arf Z h a ty n f' := by obtain ⟨c, A, r1, r2, r3⟩ := F; exact ⟨c, A, r1, r2, fun j hj => (q j hj) ▸ r3 j hj⟩
theorem own_Arf.new {k : ClassId} {z : Int32} (A : Arr Z h a (newA k ty z) ty) (q : ¬ z < 0) : own_Arf Z h a ty z.toNatClampNeg (fun _ => defaultValue ty) :=
  ⟨_, A, sz_new _ _ _, (back32 q).2, fun j hj => by simp [newA, hj]⟩
theorem own_inb {j : Int32} {n : Nat} (h1 : 0 ≤ j.toInt) (h2 : j.toInt < n) : ¬ (j < 0 ∨ n ≤ j.toNatClampNeg) := by
  have q : j.toNatClampNeg = j.toInt.toNat := rfl
  rintro (p | p)
  · have := Int32.lt_iff_toInt_lt.mp p; rw [show (0 : Int32).toInt = 0 from rfl] at this; omega
  · rw [q] at p; omega
theorem own_set {c : Cell} {k : Nat} (A : Arr Z h a c ty) (S : c.slots.size = n) (hn : n < 2 ^ 31) (H : ∀ j, j < n → c.slots[j]? = some (f j)) (W : Wr h h' a k v) (hk : k < n) : own_Arf Z h' a ty n (fun i => if i = k then v else f i) := by
  refine ⟨_, A.same W, by rw [sz_set]; exact S, hn, fun j hj => ?_⟩
  by_cases q : j = k
  · subst q; simp [Cell.setSlot, S, hj]
  · show _ = some (if j = k then v else f j)
    rw [if_neg q, ← H j hj]; exact Array.getElem?_setIfInBounds_ne (Ne.symm q)
variable {p : Program} {l : Launch} {e : Env} {R : Room} {s : State} {m : MethodId} {args : Array Value} {below : List Frame} {meth : Method} {c : Code} {T : State} {locs : List Loc} {cells slots : Nat}
theorem own_ld {A : Prop} {j : Int32} (F : own_Arf Z h a ty n f) (h1 : 0 ≤ j.toInt) (h2 : j.toInt < n) (k : ∀ c : Cell, Arr Z h a c ty → ¬ (j < 0 ∨ c.slots.size ≤ j.toNatClampNeg) → c.slots[j.toNatClampNeg]? = some (f j.toNatClampNeg) → A) : A := by
  obtain ⟨c, Ar, S, hn, H⟩ := F
  exact k c Ar (by rw [S]; exact own_inb h1 h2) (H _ (by have q : j.toNatClampNeg = j.toInt.toNat := rfl; omega))
theorem own_iaload (X : Stand p l e R s m args below meth c T locs cells slots) (hx : p.tables.exec = Jvm.exec) (hZ : Z.Warmed39 s.vm) (eT : T.heap = h) {j : Int32} (F : own_Arf Z h a .int n f) (h1 : 0 ≤ j.toInt) (h2 : j.toInt < n) {w : Value} (hv : f j.toNatClampNeg = w) {g : JFrame} (hg : g.method = m) {rest : List Value} (hs : g.stack = .int j :: .ref a :: rest) (hd : decode c.code g.pc = .ok (.iaload, 1)) :
    ∀ target, Steps p.tables e below (T.setTop { g with pc := g.pc + 1, stack := w :: rest }) target → Steps p.tables e below (T.setTop g) target := by
  subst hv
  exact own_ld F h1 h2 fun cl Ar hin hat => X.iaload hx (j := j) (by rw [eT]; exact Ar.1) (State.isArrayOf_alike hZ.alike Ar.2.1) Ar.2.2 hin hat hg hs hd
theorem own_baloadB (X : Stand p l e R s m args below meth c T locs cells slots) (hx : p.tables.exec = Jvm.exec) (hZ : Z.Warmed39 s.vm) (eT : T.heap = h) {j : Int32} (F : own_Arf Z h a .byte n f) (h1 : 0 ≤ j.toInt) (h2 : j.toInt < n) {w : Value} (hv : f j.toNatClampNeg = w) {g : JFrame} (hg : g.method = m) {rest : List Value} (hs : g.stack = .int j :: .ref a :: rest) (hd : decode c.code g.pc = .ok (.baload, 1)) :
    ∀ target, Steps p.tables e below (T.setTop { g with pc := g.pc + 1, stack := w :: rest }) target → Steps p.tables e below (T.setTop g) target := by
  subst hv
  exact own_ld F h1 h2 fun cl Ar hin hat => X.baloadBytes hx (j := j) (by rw [eT]; exact Ar.1) (State.isArrayOf_alike hZ.alike Ar.2.1) Ar.2.2 hin hat hg hs hd
theorem own_baloadZ (X : Stand p l e R s m args below meth c T locs cells slots) (hx : p.tables.exec = Jvm.exec) (hZ : Z.Warmed39 s.vm) (eT : T.heap = h) {j : Int32} (F : own_Arf Z h a .boolean n f) (h1 : 0 ≤ j.toInt) (h2 : j.toInt < n) {w : Value} (hv : f j.toNatClampNeg = w) {g : JFrame} (hg : g.method = m) {rest : List Value} (hs : g.stack = .int j :: .ref a :: rest) (hd : decode c.code g.pc = .ok (.baload, 1)) :
    ∀ target, Steps p.tables e below (T.setTop { g with pc := g.pc + 1, stack := w :: rest }) target → Steps p.tables e below (T.setTop g) target := by
  subst hv
  exact own_ld F h1 h2 fun cl Ar hin hat => X.baloadBooleans hx (j := j) (by rw [eT]; exact Ar.1) (State.isArrayOf_alike hZ.alike Ar.2.1) Ar.2.2 hin hat hg hs hd
theorem own_len32 {c : Cell} {n : Nat} (S : c.slots.size = n) {z : Int32} (hz : z = Int32.ofNat n) : c.slots.size.toInt32 = z := by rw [S, hz]
theorem own_alen (X : Stand p l e R s m args below meth c T locs cells slots) (hx : p.tables.exec = Jvm.exec) (hZ : Z.Warmed39 s.vm) (eT : T.heap = h) (F : own_Arf Z h a ty n f) (z : Int32) (hz : z = Int32.ofNat n) {g : JFrame} (hg : g.method = m) {rest : List Value} (hs : g.stack = .ref a :: rest) (hd : decode c.code g.pc = .ok (.arraylength, 1)) :
    ∀ target, Steps p.tables e below (T.setTop { g with pc := g.pc + 1, stack := .int z :: rest }) target → Steps p.tables e below (T.setTop g) target := by
  obtain ⟨cl, Ar, S, hn, H⟩ := F
  intro t k
  refine X.arraylength hx (cell := cl) (by rw [eT]; exact Ar.1) (State.isArrayOf_alike hZ.alike Ar.2.1) hg hs hd t ?_
  rw [own_len32 S hz]; exact k
theorem own_stI (X : Stand p l e R s m args below meth c T locs cells slots) (hx : p.tables.exec = Jvm.exec) (hZ : Z.Warmed39 s.vm) (eT : T.heap = h) {j x : Int32} (F : own_Arf Z h a .int n f) (h1 : 0 ≤ j.toInt) (h2 : j.toInt < n) {g : JFrame} (hg : g.method = m) {rest : List Value} (hs : g.stack = .int x :: .int j :: .ref a :: rest) (hd : decode c.code g.pc = .ok (.iastore, 1)) :
    ∃ T' h', Stand p l e R s m args below meth c T' (locs ++ [⟨a, j.toNatClampNeg⟩]) cells slots ∧ T'.heap = h' ∧ Wr h h' a j.toNatClampNeg (.int x) ∧ own_Arf Z h' a .int n (fun i => if i = j.toNatClampNeg then .int x else f i) ∧ ∀ target, Steps p.tables e below (T'.setTop { g with pc := g.pc + 1, stack := rest }) target → Steps p.tables e below (T.setTop g) target := by
  obtain ⟨cl, Ar, S, hn, H⟩ := F
  have hin : ¬ (j < 0 ∨ cl.slots.size ≤ j.toNatClampNeg) := by rw [S]; exact own_inb h1 h2
  obtain ⟨T', h', X', e', W, st⟩ := stI X hx hZ eT Ar (j := j) hin hg hs hd
  exact ⟨T', h', X', e', W, own_set Ar S hn H W (by have q : j.toNatClampNeg = j.toInt.toNat := rfl; omega), st⟩
theorem own_stB (X : Stand p l e R s m args below meth c T locs cells slots) (hx : p.tables.exec = Jvm.exec) (hZ : Z.Warmed39 s.vm) (eT : T.heap = h) {j x : Int32} (F : own_Arf Z h a .byte n f) (h1 : 0 ≤ j.toInt) (h2 : j.toInt < n) {g : JFrame} (hg : g.method = m) {rest : List Value} (hs : g.stack = .int x :: .int j :: .ref a :: rest) (hd : decode c.code g.pc = .ok (.bastore, 1)) :
    ∃ T' h', Stand p l e R s m args below meth c T' (locs ++ [⟨a, j.toNatClampNeg⟩]) cells slots ∧ T'.heap = h' ∧ Wr h h' a j.toNatClampNeg (.int (nar .byte x)) ∧ own_Arf Z h' a .byte n (fun i => if i = j.toNatClampNeg then .int (nar .byte x) else f i) ∧ ∀ target, Steps p.tables e below (T'.setTop { g with pc := g.pc + 1, stack := rest }) target → Steps p.tables e below (T.setTop g) target := by
  obtain ⟨cl, Ar, S, hn, H⟩ := F
  have hin : ¬ (j < 0 ∨ cl.slots.size ≤ j.toNatClampNeg) := by rw [S]; exact own_inb h1 h2
  obtain ⟨T', h', X', e', W, st⟩ := stB X hx hZ eT Ar (j := j) hin hg hs hd
  exact ⟨T', h', X', e', W, own_set Ar S hn H W (by have q : j.toNatClampNeg = j.toInt.toNat := rfl; omega), st⟩
theorem own_stZ (X : Stand p l e R s m args below meth c T locs cells slots) (hx : p.tables.exec = Jvm.exec) (hZ : Z.Warmed39 s.vm) (eT : T.heap = h) {j x : Int32} (F : own_Arf Z h a .boolean n f) (h1 : 0 ≤ j.toInt) (h2 : j.toInt < n) {g : JFrame} (hg : g.method = m) {rest : List Value} (hs : g.stack = .int x :: .int j :: .ref a :: rest) (hd : decode c.code g.pc = .ok (.bastore, 1)) :
    ∃ T' h', Stand p l e R s m args below meth c T' (locs ++ [⟨a, j.toNatClampNeg⟩]) cells slots ∧ T'.heap = h' ∧ Wr h h' a j.toNatClampNeg (.int (nar .boolean x)) ∧ own_Arf Z h' a .boolean n (fun i => if i = j.toNatClampNeg then .int (nar .boolean x) else f i) ∧ ∀ target, Steps p.tables e below (T'.setTop { g with pc := g.pc + 1, stack := rest }) target → Steps p.tables e below (T.setTop g) target := by
  obtain ⟨cl, Ar, S, hn, H⟩ := F
  have hin : ¬ (j < 0 ∨ cl.slots.size ≤ j.toNatClampNeg) := by rw [S]; exact own_inb h1 h2
  obtain ⟨T', h', X', e', W, st⟩ := stZ X hx hZ eT Ar (j := j) hin hg hs hd
  exact ⟨T', h', X', e', W, own_set Ar S hn H W (by have q : j.toNatClampNeg = j.toInt.toNat := rfl; omega), st⟩
end OwnArf
theorem own_clamp {i : Int32} {k : Nat} (h : i.toInt = k) : i.toNatClampNeg = k := by show i.toInt.toNat = k; omega
theorem own_tabArf {s : State} {a : Addr} {cl : Cell} {ty : FieldType} {n : Nat} (hf : Fit s) (A : Arr s s.heap a cl ty) (ht : ty = .int ∨ ty = .boolean ∨ ty = .byte ∨ ty = .char ∨ ty = .short) (S : cl.slots.size = n) (hn : n < 2 ^ 31) : ∃ g : Nat → Int32, own_Arf s s.heap a ty n (fun i => .int (g i)) := by
  refine ⟨fun i => atv cl (Int32.ofNat i), cl, A, S, hn, fun j hj => ?_⟩
  have e1 : (Int32.ofNat j).toInt = j := Int32.toInt_ofNat_of_lt (by omega)
  have e2 : (Int32.ofNat j).toNatClampNeg = j := by show (Int32.ofNat j).toInt.toNat = j; omega
  have hin : ¬ (Int32.ofNat j < 0 ∨ cl.slots.size ≤ (Int32.ofNat j).toNatClampNeg) := by rw [S]; exact own_inb (by omega) (by omega)
  obtain ⟨v, h1, h2⟩ := elem_fit hf A hin
  obtain ⟨x, rfl⟩ := fit_I h2 ht
  show cl.slots[j]? = some (.int (atv cl (Int32.ofNat j)))
  rw [atv_of h1, ← e2]; exact h1
theorem own_lenOf {args : Array Value} {s : State} {t : Term} {a : Addr} {cl : Cell} {ty : FieldType} {k : Int32} (ev : t.eval args s none [] s = some (.ref a)) (A : Arr s s.heap a cl ty) (h : (Cond.eq (.length t) (.int k)).value args s none s [] = some true) (hk : 0 ≤ k.toInt) : cl.slots.size = k.toInt.toNat ∧ cl.slots.size < 2 ^ 31 := by
  have ha := A.fin (Vm.Alike.refl _)
  by_cases q : cl.slots.size < 2 ^ 31
  · have e1 : (Term.length t).eval args s none [] s = some (.int cl.slots.size.toInt32) := len_f ev ha q
    have e2 : cl.slots.size.toInt32 = k := by
      have hh := h
      simp only [Cond.value] at hh
      rw [e1] at hh
      simpa [Term.eval] using hh
    have e3 := len_toInt q
    rw [e2] at e3
    exact ⟨by omega, q⟩
  · exfalso
    have e1 : (Term.length t).eval args s none [] s = none := by simp [Term.eval, ev, ha, q]
    simp [Cond.value, e1] at h
theorem own_nameI {Z : State} {h : Heap} {a : Addr} {ty : FieldType} {n k : Nat} {g : Nat → Int32} {x : Int32} (V : own_Arf Z h a ty n (fun i => if i = k then .int x else .int (g i))) : ∃ g' : Nat → Int32, (∀ i, g' i = if i = k then x else g i) ∧ own_Arf Z h a ty n (fun i => .int (g' i)) :=
  ⟨fun i => if i = k then x else g i, fun _ => rfl, V.cong (fun i _ => by by_cases q : i = k <;> simp [q])⟩
theorem own_nameD {Z : State} {h : Heap} {a : Addr} {ty : FieldType} {n k : Nat} {g : Nat → UInt64} {x : UInt64} (V : own_Arf Z h a ty n (fun i => if i = k then .double x else .double (g i))) : ∃ g' : Nat → UInt64, (∀ i, g' i = if i = k then x else g i) ∧ own_Arf Z h a ty n (fun i => .double (g' i)) :=
  ⟨fun i => if i = k then x else g i, fun _ => rfl, V.cong (fun i _ => by by_cases q : i = k <;> simp [q])⟩
theorem own_natOf {i : Int32} {lo hi : Int} (h1 : 0 ≤ i.toInt) : ∃ k : Nat, i.toInt = k := ⟨i.toInt.toNat, by omega⟩
theorem own_tn {i : Int32} {k : Nat} (h : i.toInt = k) : i.toBitVec.toNat = k := by
  have h1 : i.toBitVec.toInt = k := h
  have h2 := BitVec.toInt_eq_toNat_cond i.toBitVec
  have h3 := i.toBitVec.isLt
  rw [h1] at h2
  split at h2 <;> omega
theorem pn_0 : plainName "java/lang/Record" = true := by first | (simp [plainName, overriddenIn]; done) | decide +kernel
theorem d2_0 : decode jdk_30_method_1_code 0 = .ok (.aload_n 0, 1) := by decide +kernel
theorem d2_1 : decode jdk_30_method_1_code 1 = .ok (.invokespecial 1, 3) := by decide +kernel
theorem d2_4 : decode jdk_30_method_1_code 4 = .ok (.return_, 1) := by decide +kernel
theorem ef_2 (m : MethodId) (x0 : Addr) : entryFrame m #[(.ref x0)] 1 = mkF m 0 #[.val (.ref x0)] [] := by first | (simp [entryFrame, mkF, argsToLocals, Value.category]; done) | rfl
def Q2 (Z : State) (a1 : Addr) (h0 : Heap) (n0 : Nat) (v : Option Value) (h : Heap) (L : List Loc) : Prop := v = none ∧ Fr n0 L ∧ h = h0
set_option maxRecDepth 65536 in
set_option maxHeartbeats 40000000 in
theorem rm2 (l : Launch) (Z : State) (a0 : Array Value) (hw : ∀ d ∈ tables_1, d.before a0 Z = true) (ws : List Jvm.Cond) (a1 : Addr) (h0 : Heap) (n0 : Nat) (Z0 : n0 ≤ h0.size) :
    MetFree l (⟨"java/lang/Record", "<init>", "()V"⟩ : MethodName) (head1 (Jvm.Cond.code (⟨"java/lang/Record", "<init>", "()V"⟩ : MethodName) jdk_30_method_1_code 1 none :: ws) ({ frames := 1, cells := 0, slots := 0, locals := 12 } : Room)) (fun a U => a = #[(.ref a1)] ∧ Z.Warmed39 U.vm ∧ U.heap = h0) (fun _ _ _ _ _ => True) (fun _ U o U' => ∃ v L, o = .returned v ∧ Q2 Z a1 h0 n0 v U'.heap L ∧ FrameEnd U o U' L ({ frames := 1, cells := 0, slots := 0, locals := 12 } : Room).cells ({ frames := 1, cells := 0, slots := 0, locals := 12 } : Room).slots) := by
  refine MetFree.of_bodySF (plainFor_of_name pn_0) hisR ?_
  intro p e s m args below meth c s₁ Bd hml0 hP hK
  obtain ⟨rfl, hZ, hh⟩ := hP
  have hx := Bd.exec
  have hby := Bd.bytes
  have hml : c.maxLocals = 1 := hml0
  have hown : s.vm.findClass "java/lang/Record" = some m.cls := findClass_of_methodNamed Bd.named
  have hnm := (name_of_methodNamed Bd.named Bd.method).1
  have hlk : meth.locks = false := BodyLoose.notSynchronized Bd
  have X0 : Stand p l e ({ frames := 1, cells := 0, slots := 0, locals := 12 } : Room) s m #[(.ref a1)] below meth c s₁ [] 0 0 := Stand.of_body Bd
  have e0 : s₁.heap = h0 := by rw [← hh, Bd.state]; rfl
  have N0 := Fr.nil n0
  have K0 : Keep h0 h0 [] := Keep.refl h0 _
  have key : ∀ (F0 : State) (G : Prop), (own_G p e below s F0 (Q2 Z a1 h0 n0) ({ frames := 1, cells := 0, slots := 0, locals := 12 } : Room).cells ({ frames := 1, cells := 0, slots := 0, locals := 12 } : Room).slots → G) → own_R p.tables e below F0 (s₁.setTop (mkF m 0 #[.val (.ref a1)] [])) → G := by
    intro F0 G hG r0
    have r1 : own_R p.tables e below F0 (s₁.setTop (mkF m 1 #[.val (.ref a1)] [(.ref a1)])) := fun tg_ kg_ => by
      refine r0 tg_ ?_
      show Steps p.tables e below (s₁.setTop (mkF m 0 #[.val (.ref a1)] [])) _
      refine XS.aloadN X0.here hx rfl (hb hby d2_0) rfl rfl ?_
      exact kg_
    obtain ⟨T2, X2, e2, st2⟩ := initO X0 hx hZ hown (hw _ (List.mem_of_getElem? (i := 14) rfl)) (hw _ (List.mem_of_getElem? (i := 15) rfl)) (hw _ (List.mem_of_getElem? (i := 16) rfl)) e0 (g := (mkF m 1 #[.val (.ref a1)] [(.ref a1)])) rfl (by rw [hml]; rfl) rfl (hb hby d2_1) (by decide) (W := 0) (by show 2 * 0 + _ ≤ _; exact Nat.le_of_eq rfl) (by decide)
    have r2 : own_R p.tables e below F0 (T2.setTop (mkF m 4 #[.val (.ref a1)] [])) := fun tg_ kg_ => r1 tg_ (st2 tg_ kg_)
    refine hG (own_fin X2 hlk (none) (fun _ => rfl) ?_ (by decide) (by decide) (fun fs hr => r2 _ (X2.returnOut hx Bd.returns (hb hby d2_4) hr)))
    rw [e2]
    refine ⟨?_, N0, rfl⟩
    rfl
  exact key _ _ id (fun t k => castTop (ef_2 m a1) k)
theorem pn_1 : plainName "com/example/invites_to_friends/invitestofriends/bench/Report" = true := by first | (simp [plainName, overriddenIn]; done) | decide +kernel
theorem pd_0 : parseMethodDescriptor "()V" = some ⟨[], none⟩ := by decide +kernel
theorem d1_0 : decode prog_7_method_1_code 0 = .ok (.aload_n 0, 1) := by decide +kernel
theorem d1_1 : decode prog_7_method_1_code 1 = .ok (.invokespecial 1, 3) := by decide +kernel
theorem d1_4 : decode prog_7_method_1_code 4 = .ok (.aload_n 0, 1) := by decide +kernel
theorem d1_5 : decode prog_7_method_1_code 5 = .ok (.aload_n 1, 1) := by decide +kernel
theorem d1_6 : decode prog_7_method_1_code 6 = .ok (.putfield 7, 3) := by decide +kernel
theorem d1_9 : decode prog_7_method_1_code 9 = .ok (.aload_n 0, 1) := by decide +kernel
theorem d1_10 : decode prog_7_method_1_code 10 = .ok (.lload_n 2, 1) := by decide +kernel
theorem d1_11 : decode prog_7_method_1_code 11 = .ok (.putfield 13, 3) := by decide +kernel
theorem d1_14 : decode prog_7_method_1_code 14 = .ok (.aload_n 0, 1) := by decide +kernel
theorem d1_15 : decode prog_7_method_1_code 15 = .ok (.lload 4, 2) := by decide +kernel
theorem d1_17 : decode prog_7_method_1_code 17 = .ok (.putfield 17, 3) := by decide +kernel
theorem d1_20 : decode prog_7_method_1_code 20 = .ok (.aload_n 0, 1) := by decide +kernel
theorem d1_21 : decode prog_7_method_1_code 21 = .ok (.lload 6, 2) := by decide +kernel
theorem d1_23 : decode prog_7_method_1_code 23 = .ok (.putfield 20, 3) := by decide +kernel
theorem d1_26 : decode prog_7_method_1_code 26 = .ok (.aload_n 0, 1) := by decide +kernel
theorem d1_27 : decode prog_7_method_1_code 27 = .ok (.lload 8, 2) := by decide +kernel
theorem d1_29 : decode prog_7_method_1_code 29 = .ok (.putfield 23, 3) := by decide +kernel
theorem d1_32 : decode prog_7_method_1_code 32 = .ok (.aload_n 0, 1) := by decide +kernel
theorem d1_33 : decode prog_7_method_1_code 33 = .ok (.lload 10, 2) := by decide +kernel
theorem d1_35 : decode prog_7_method_1_code 35 = .ok (.putfield 26, 3) := by decide +kernel
theorem d1_38 : decode prog_7_method_1_code 38 = .ok (.aload_n 0, 1) := by decide +kernel
theorem d1_39 : decode prog_7_method_1_code 39 = .ok (.lload 12, 2) := by decide +kernel
theorem d1_41 : decode prog_7_method_1_code 41 = .ok (.putfield 29, 3) := by decide +kernel
theorem d1_44 : decode prog_7_method_1_code 44 = .ok (.aload_n 0, 1) := by decide +kernel
theorem d1_45 : decode prog_7_method_1_code 45 = .ok (.lload 14, 2) := by decide +kernel
theorem d1_47 : decode prog_7_method_1_code 47 = .ok (.putfield 32, 3) := by decide +kernel
theorem d1_50 : decode prog_7_method_1_code 50 = .ok (.aload_n 0, 1) := by decide +kernel
theorem d1_51 : decode prog_7_method_1_code 51 = .ok (.lload 16, 2) := by decide +kernel
theorem d1_53 : decode prog_7_method_1_code 53 = .ok (.putfield 35, 3) := by decide +kernel
theorem d1_56 : decode prog_7_method_1_code 56 = .ok (.aload_n 0, 1) := by decide +kernel
theorem d1_57 : decode prog_7_method_1_code 57 = .ok (.dload 18, 2) := by decide +kernel
theorem d1_59 : decode prog_7_method_1_code 59 = .ok (.putfield 38, 3) := by decide +kernel
theorem d1_62 : decode prog_7_method_1_code 62 = .ok (.aload_n 0, 1) := by decide +kernel
theorem d1_63 : decode prog_7_method_1_code 63 = .ok (.dload 20, 2) := by decide +kernel
theorem d1_65 : decode prog_7_method_1_code 65 = .ok (.putfield 42, 3) := by decide +kernel
theorem d1_68 : decode prog_7_method_1_code 68 = .ok (.aload_n 0, 1) := by decide +kernel
theorem d1_69 : decode prog_7_method_1_code 69 = .ok (.dload 22, 2) := by decide +kernel
theorem d1_71 : decode prog_7_method_1_code 71 = .ok (.putfield 45, 3) := by decide +kernel
theorem d1_74 : decode prog_7_method_1_code 74 = .ok (.return_, 1) := by decide +kernel
theorem ef_1 (m : MethodId) (x0 : Addr) (x1 : Addr) (x2 : Int64) (x3 : Int64) (x4 : Int64) (x5 : Int64) (x6 : Int64) (x7 : Int64) (x8 : Int64) (x9 : Int64) (x10 : UInt64) (x11 : UInt64) (x12 : UInt64) : entryFrame m #[(.ref x0), (.ref x1), (.long x2), (.long x3), (.long x4), (.long x5), (.long x6), (.long x7), (.long x8), (.long x9), (.double x10), (.double x11), (.double x12)] 24 = mkF m 0 #[.val (.ref x0), .val (.ref x1), .val (.long x2), .second, .val (.long x3), .second, .val (.long x4), .second, .val (.long x5), .second, .val (.long x6), .second, .val (.long x7), .second, .val (.long x8), .second, .val (.long x9), .second, .val (.double x10), .second, .val (.double x11), .second, .val (.double x12), .second] [] := by first | (simp [entryFrame, mkF, argsToLocals, Value.category]; done) | rfl
def Q1 (Z : State) (a1 : Addr) (p2 : Addr) (p3 : Int64) (p4 : Int64) (p5 : Int64) (p6 : Int64) (p7 : Int64) (p8 : Int64) (p9 : Int64) (p10 : Int64) (p11 : UInt64) (p12 : UInt64) (p13 : UInt64) (h0 : Heap) (n0 : Nat) (v : Option Value) (h : Heap) (L : List Loc) : Prop := v = none ∧ Fr n0 L ∧ Keep h0 h [a1] ∧ Exa Z h a1 "com/example/invites_to_friends/invitestofriends/bench/Report" ∧ Fld Z h a1 "com/example/invites_to_friends/invitestofriends/bench/Report" "mode" "Lcom/example/invites_to_friends/invitestofriends/bench/Mode;" (.ref p2) ∧ Fld Z h a1 "com/example/invites_to_friends/invitestofriends/bench/Report" "pairs" "J" (.long p3) ∧ Fld Z h a1 "com/example/invites_to_friends/invitestofriends/bench/Report" "calls" "J" (.long p4) ∧ Fld Z h a1 "com/example/invites_to_friends/invitestofriends/bench/Report" "answered2xx" "J" (.long p5) ∧ Fld Z h a1 "com/example/invites_to_friends/invitestofriends/bench/Report" "answeredOther" "J" (.long p6) ∧ Fld Z h a1 "com/example/invites_to_friends/invitestofriends/bench/Report" "failedToAnswer" "J" (.long p7) ∧ Fld Z h a1 "com/example/invites_to_friends/invitestofriends/bench/Report" "answeredRequested" "J" (.long p8) ∧ Fld Z h a1 "com/example/invites_to_friends/invitestofriends/bench/Report" "answeredFriends" "J" (.long p9) ∧ Fld Z h a1 "com/example/invites_to_friends/invitestofriends/bench/Report" "pairsOverlapped" "J" (.long p10) ∧ Fld Z h a1 "com/example/invites_to_friends/invitestofriends/bench/Report" "seconds" "D" (.double p11) ∧ Fld Z h a1 "com/example/invites_to_friends/invitestofriends/bench/Report" "p50Millis" "D" (.double p12) ∧ Fld Z h a1 "com/example/invites_to_friends/invitestofriends/bench/Report" "p99Millis" "D" (.double p13)
set_option maxRecDepth 65536 in
set_option maxHeartbeats 40000000 in
theorem rm1 (l : Launch) (Z : State) (a0 : Array Value) (hw : ∀ d ∈ tables_1, d.before a0 Z = true) (ws : List Jvm.Cond) (a1 : Addr) (p2 : Addr) (p3 : Int64) (p4 : Int64) (p5 : Int64) (p6 : Int64) (p7 : Int64) (p8 : Int64) (p9 : Int64) (p10 : Int64) (p11 : UInt64) (p12 : UInt64) (p13 : UInt64) (h0 : Heap) (n0 : Nat) (Z0 : n0 ≤ h0.size) (E1 : Exa Z h0 a1 "com/example/invites_to_friends/invitestofriends/bench/Report") (Fp0 : Fld Z h0 a1 "com/example/invites_to_friends/invitestofriends/bench/Report" "mode" "Lcom/example/invites_to_friends/invitestofriends/bench/Mode;" .null) (Fp1 : Fld Z h0 a1 "com/example/invites_to_friends/invitestofriends/bench/Report" "pairs" "J" (.long (0 : Int64))) (Fp2 : Fld Z h0 a1 "com/example/invites_to_friends/invitestofriends/bench/Report" "calls" "J" (.long (0 : Int64))) (Fp3 : Fld Z h0 a1 "com/example/invites_to_friends/invitestofriends/bench/Report" "answered2xx" "J" (.long (0 : Int64))) (Fp4 : Fld Z h0 a1 "com/example/invites_to_friends/invitestofriends/bench/Report" "answeredOther" "J" (.long (0 : Int64))) (Fp5 : Fld Z h0 a1 "com/example/invites_to_friends/invitestofriends/bench/Report" "failedToAnswer" "J" (.long (0 : Int64))) (Fp6 : Fld Z h0 a1 "com/example/invites_to_friends/invitestofriends/bench/Report" "answeredRequested" "J" (.long (0 : Int64))) (Fp7 : Fld Z h0 a1 "com/example/invites_to_friends/invitestofriends/bench/Report" "answeredFriends" "J" (.long (0 : Int64))) (Fp8 : Fld Z h0 a1 "com/example/invites_to_friends/invitestofriends/bench/Report" "pairsOverlapped" "J" (.long (0 : Int64))) (Fp9 : Fld Z h0 a1 "com/example/invites_to_friends/invitestofriends/bench/Report" "seconds" "D" (.double (0 : UInt64))) (Fp10 : Fld Z h0 a1 "com/example/invites_to_friends/invitestofriends/bench/Report" "p50Millis" "D" (.double (0 : UInt64))) (Fp11 : Fld Z h0 a1 "com/example/invites_to_friends/invitestofriends/bench/Report" "p99Millis" "D" (.double (0 : UInt64))) (ga1 : n0 ≤ a1) :
    MetFree l (⟨"com/example/invites_to_friends/invitestofriends/bench/Report", "<init>", "(Lcom/example/invites_to_friends/invitestofriends/bench/Mode;JJJJJJJJDDD)V"⟩ : MethodName) (head1 (Jvm.Cond.code (⟨"com/example/invites_to_friends/invitestofriends/bench/Report", "<init>", "(Lcom/example/invites_to_friends/invitestofriends/bench/Mode;JJJJJJJJDDD)V"⟩ : MethodName) prog_7_method_1_code 24 none :: ws) ({ frames := 2, cells := 0, slots := 0, locals := 24 } : Room)) (fun a U => a = #[(.ref a1), (.ref p2), (.long p3), (.long p4), (.long p5), (.long p6), (.long p7), (.long p8), (.long p9), (.long p10), (.double p11), (.double p12), (.double p13)] ∧ Z.Warmed39 U.vm ∧ U.heap = h0) (fun _ _ _ _ _ => True) (fun _ U o U' => ∃ v L, o = .returned v ∧ Q1 Z a1 p2 p3 p4 p5 p6 p7 p8 p9 p10 p11 p12 p13 h0 n0 v U'.heap L ∧ FrameEnd U o U' L ({ frames := 2, cells := 0, slots := 0, locals := 24 } : Room).cells ({ frames := 2, cells := 0, slots := 0, locals := 24 } : Room).slots) := by
  refine MetFree.of_bodySF (plainFor_of_name pn_1) hisR ?_
  intro p e s m args below meth c s₁ Bd hml0 hP hK
  obtain ⟨rfl, hZ, hh⟩ := hP
  have hx := Bd.exec
  have hby := Bd.bytes
  have hml : c.maxLocals = 24 := hml0
  have hown : s.vm.findClass "com/example/invites_to_friends/invitestofriends/bench/Report" = some m.cls := findClass_of_methodNamed Bd.named
  have hnm := (name_of_methodNamed Bd.named Bd.method).1
  have hlk : meth.locks = false := BodyLoose.notSynchronized Bd
  have X0 : Stand p l e ({ frames := 2, cells := 0, slots := 0, locals := 24 } : Room) s m #[(.ref a1), (.ref p2), (.long p3), (.long p4), (.long p5), (.long p6), (.long p7), (.long p8), (.long p9), (.long p10), (.double p11), (.double p12), (.double p13)] below meth c s₁ [] 0 0 := Stand.of_body Bd
  have e0 : s₁.heap = h0 := by rw [← hh, Bd.state]; rfl
  have N0 := Fr.nil n0
  have K0 : Keep h0 h0 [a1] := Keep.refl h0 _
  have key : ∀ (F0 : State) (G : Prop), (own_G p e below s F0 (Q1 Z a1 p2 p3 p4 p5 p6 p7 p8 p9 p10 p11 p12 p13 h0 n0) ({ frames := 2, cells := 0, slots := 0, locals := 24 } : Room).cells ({ frames := 2, cells := 0, slots := 0, locals := 24 } : Room).slots → G) → own_R p.tables e below F0 (s₁.setTop (mkF m 0 #[.val (.ref a1), .val (.ref p2), .val (.long p3), .second, .val (.long p4), .second, .val (.long p5), .second, .val (.long p6), .second, .val (.long p7), .second, .val (.long p8), .second, .val (.long p9), .second, .val (.long p10), .second, .val (.double p11), .second, .val (.double p12), .second, .val (.double p13), .second] [])) → G := by
    intro F0 G hG r0
    have r3 : own_R p.tables e below F0 (s₁.setTop (mkF m 1 #[.val (.ref a1), .val (.ref p2), .val (.long p3), .second, .val (.long p4), .second, .val (.long p5), .second, .val (.long p6), .second, .val (.long p7), .second, .val (.long p8), .second, .val (.long p9), .second, .val (.long p10), .second, .val (.double p11), .second, .val (.double p12), .second, .val (.double p13), .second] [(.ref a1)])) := fun tg_ kg_ => by
      refine r0 tg_ ?_
      show Steps p.tables e below (s₁.setTop (mkF m 0 #[.val (.ref a1), .val (.ref p2), .val (.long p3), .second, .val (.long p4), .second, .val (.long p5), .second, .val (.long p6), .second, .val (.long p7), .second, .val (.long p8), .second, .val (.long p9), .second, .val (.long p10), .second, .val (.double p11), .second, .val (.double p12), .second, .val (.double p13), .second] [])) _
      refine XS.aloadN X0.here hx rfl (hb hby d1_0) rfl rfl ?_
      exact kg_
    obtain ⟨_, _, ⟨T4, L4, k4, n4⟩, -, X4, ⟨Lc4, hQ4, l4, y4, z4⟩, st4⟩ := X0.specialBack hx (y := (⟨"java/lang/Record", "<init>", "()V"⟩ : MethodName)) rfl hown (mvT hZ (hw _ (List.mem_of_getElem? (i := 9) rfl))) (mvT hZ (hw _ (List.mem_of_getElem? (i := 10) rfl))) (mvT hZ (hw _ (List.mem_of_getElem? (i := 13) rfl))) (by decide) (backOf (W := 0) (rm2 l Z a0 hw [] a1 h0 n0 Z0 ) hZ (hw _ (List.mem_of_getElem? (i := 13) rfl)) (hw _ (List.mem_of_getElem? (i := 12) rfl)) (by decide) (by decide)) (g := (mkF m 1 #[.val (.ref a1), .val (.ref p2), .val (.long p3), .second, .val (.long p4), .second, .val (.long p5), .second, .val (.long p6), .second, .val (.long p7), .second, .val (.long p8), .second, .val (.long p9), .second, .val (.long p10), .second, .val (.double p11), .second, .val (.double p12), .second, .val (.double p13), .second] [(.ref a1)])) rfl (by rw [hml]; rfl) (Steps.refl _) (a := a1) (argsL := []) (rest := []) (lenOf pd_0 rfl) rfl (by show 2 * 0 + _ ≤ _; exact Nat.le_of_eq rfl) (hb hby d1_1) (fun _ _ => ⟨rfl, e0, (by decide : 0 + 0 ≤ _), (by decide : 0 + 0 ≤ _)⟩)
    dsimp only [Pt.U, Pt.locs, Pt.cells, Pt.slots] at X4 l4 y4 z4 st4 hQ4
    subst l4 y4 z4
    obtain ⟨rfl, N4q, I4_0⟩ := hQ4
    have N4 := Fr.app N0 N4q
    have r4 : own_R p.tables e below F0 (T4.setTop (mkF m 4 #[.val (.ref a1), .val (.ref p2), .val (.long p3), .second, .val (.long p4), .second, .val (.long p5), .second, .val (.long p6), .second, .val (.long p7), .second, .val (.long p8), .second, .val (.long p9), .second, .val (.long p10), .second, .val (.double p11), .second, .val (.double p12), .second, .val (.double p13), .second] [])) := fun tg_ kg_ => r3 tg_ (st4.trans kg_)
    have r5 : own_R p.tables e below F0 (T4.setTop (mkF m 6 #[.val (.ref a1), .val (.ref p2), .val (.long p3), .second, .val (.long p4), .second, .val (.long p5), .second, .val (.long p6), .second, .val (.long p7), .second, .val (.long p8), .second, .val (.long p9), .second, .val (.long p10), .second, .val (.double p11), .second, .val (.double p12), .second, .val (.double p13), .second] [(.ref p2), (.ref a1)])) := fun tg_ kg_ => by
      refine r4 tg_ ?_
      show Steps p.tables e below (T4.setTop (mkF m 4 #[.val (.ref a1), .val (.ref p2), .val (.long p3), .second, .val (.long p4), .second, .val (.long p5), .second, .val (.long p6), .second, .val (.long p7), .second, .val (.long p8), .second, .val (.long p9), .second, .val (.long p10), .second, .val (.double p11), .second, .val (.double p12), .second, .val (.double p13), .second] [])) _
      refine XS.aloadN X4.here hx rfl (hb hby d1_4) rfl rfl ?_
      show Steps p.tables e below (T4.setTop (mkF m 5 #[.val (.ref a1), .val (.ref p2), .val (.long p3), .second, .val (.long p4), .second, .val (.long p5), .second, .val (.long p6), .second, .val (.long p7), .second, .val (.long p8), .second, .val (.long p9), .second, .val (.long p10), .second, .val (.double p11), .second, .val (.double p12), .second, .val (.double p13), .second] [(.ref a1)])) _
      refine XS.aloadN X4.here hx rfl (hb hby d1_5) rfl rfl ?_
      exact kg_
    obtain ⟨T6, h6, X6, e6, W6, st6⟩ := putF X4 hx hZ hown (host := "") (Or.inl (hw _ (List.mem_of_getElem? (i := 17) rfl))) Via.refl I4_0 Fp0 E1 (Or.inr ⟨(hw _ (List.mem_of_getElem? (i := 18) rfl)), rfl, hnm⟩) (hw _ (List.mem_of_getElem? (i := 4) rfl)) (ty := (.object "com/example/invites_to_friends/invitestofriends/bench/Mode")) (by decide) rfl rfl (g := (mkF m 6 #[.val (.ref a1), .val (.ref p2), .val (.long p3), .second, .val (.long p4), .second, .val (.long p5), .second, .val (.long p6), .second, .val (.long p7), .second, .val (.long p8), .second, .val (.long p9), .second, .val (.long p10), .second, .val (.double p11), .second, .val (.double p12), .second, .val (.double p13), .second] [(.ref p2), (.ref a1)])) rfl rfl (hb hby d1_6)
    have F7 : Exa Z h6 a1 "com/example/invites_to_friends/invitestofriends/bench/Report" := E1.wr W6
    have F8 : Fld Z h6 a1 "com/example/invites_to_friends/invitestofriends/bench/Report" "mode" "Lcom/example/invites_to_friends/invitestofriends/bench/Mode;" (.ref p2) := Fp0.same W6
    have F9 : Fld Z h6 a1 "com/example/invites_to_friends/invitestofriends/bench/Report" "pairs" "J" (.long (0 : Int64)) := Fp1.other W6 (Or.inr (slot_ne (Or.inr (hw _ (List.mem_of_getElem? (i := 20) rfl))) (Or.inr (hw _ (List.mem_of_getElem? (i := 18) rfl))) (by decide) (t := .long) (t' := (.object "com/example/invites_to_friends/invitestofriends/bench/Mode")) (by decide) (by decide)))
    have F10 : Fld Z h6 a1 "com/example/invites_to_friends/invitestofriends/bench/Report" "calls" "J" (.long (0 : Int64)) := Fp2.other W6 (Or.inr (slot_ne (Or.inr (hw _ (List.mem_of_getElem? (i := 22) rfl))) (Or.inr (hw _ (List.mem_of_getElem? (i := 18) rfl))) (by decide) (t := .long) (t' := (.object "com/example/invites_to_friends/invitestofriends/bench/Mode")) (by decide) (by decide)))
    have F11 : Fld Z h6 a1 "com/example/invites_to_friends/invitestofriends/bench/Report" "answered2xx" "J" (.long (0 : Int64)) := Fp3.other W6 (Or.inr (slot_ne (Or.inr (hw _ (List.mem_of_getElem? (i := 24) rfl))) (Or.inr (hw _ (List.mem_of_getElem? (i := 18) rfl))) (by decide) (t := .long) (t' := (.object "com/example/invites_to_friends/invitestofriends/bench/Mode")) (by decide) (by decide)))
    have F12 : Fld Z h6 a1 "com/example/invites_to_friends/invitestofriends/bench/Report" "answeredOther" "J" (.long (0 : Int64)) := Fp4.other W6 (Or.inr (slot_ne (Or.inr (hw _ (List.mem_of_getElem? (i := 26) rfl))) (Or.inr (hw _ (List.mem_of_getElem? (i := 18) rfl))) (by decide) (t := .long) (t' := (.object "com/example/invites_to_friends/invitestofriends/bench/Mode")) (by decide) (by decide)))
    have F13 : Fld Z h6 a1 "com/example/invites_to_friends/invitestofriends/bench/Report" "failedToAnswer" "J" (.long (0 : Int64)) := Fp5.other W6 (Or.inr (slot_ne (Or.inr (hw _ (List.mem_of_getElem? (i := 28) rfl))) (Or.inr (hw _ (List.mem_of_getElem? (i := 18) rfl))) (by decide) (t := .long) (t' := (.object "com/example/invites_to_friends/invitestofriends/bench/Mode")) (by decide) (by decide)))
    have F14 : Fld Z h6 a1 "com/example/invites_to_friends/invitestofriends/bench/Report" "answeredRequested" "J" (.long (0 : Int64)) := Fp6.other W6 (Or.inr (slot_ne (Or.inr (hw _ (List.mem_of_getElem? (i := 30) rfl))) (Or.inr (hw _ (List.mem_of_getElem? (i := 18) rfl))) (by decide) (t := .long) (t' := (.object "com/example/invites_to_friends/invitestofriends/bench/Mode")) (by decide) (by decide)))
    have F15 : Fld Z h6 a1 "com/example/invites_to_friends/invitestofriends/bench/Report" "answeredFriends" "J" (.long (0 : Int64)) := Fp7.other W6 (Or.inr (slot_ne (Or.inr (hw _ (List.mem_of_getElem? (i := 32) rfl))) (Or.inr (hw _ (List.mem_of_getElem? (i := 18) rfl))) (by decide) (t := .long) (t' := (.object "com/example/invites_to_friends/invitestofriends/bench/Mode")) (by decide) (by decide)))
    have F16 : Fld Z h6 a1 "com/example/invites_to_friends/invitestofriends/bench/Report" "pairsOverlapped" "J" (.long (0 : Int64)) := Fp8.other W6 (Or.inr (slot_ne (Or.inr (hw _ (List.mem_of_getElem? (i := 34) rfl))) (Or.inr (hw _ (List.mem_of_getElem? (i := 18) rfl))) (by decide) (t := .long) (t' := (.object "com/example/invites_to_friends/invitestofriends/bench/Mode")) (by decide) (by decide)))
    have F17 : Fld Z h6 a1 "com/example/invites_to_friends/invitestofriends/bench/Report" "seconds" "D" (.double (0 : UInt64)) := Fp9.other W6 (Or.inr (slot_ne (Or.inr (hw _ (List.mem_of_getElem? (i := 36) rfl))) (Or.inr (hw _ (List.mem_of_getElem? (i := 18) rfl))) (by decide) (t := .double) (t' := (.object "com/example/invites_to_friends/invitestofriends/bench/Mode")) (by decide) (by decide)))
    have F18 : Fld Z h6 a1 "com/example/invites_to_friends/invitestofriends/bench/Report" "p50Millis" "D" (.double (0 : UInt64)) := Fp10.other W6 (Or.inr (slot_ne (Or.inr (hw _ (List.mem_of_getElem? (i := 38) rfl))) (Or.inr (hw _ (List.mem_of_getElem? (i := 18) rfl))) (by decide) (t := .double) (t' := (.object "com/example/invites_to_friends/invitestofriends/bench/Mode")) (by decide) (by decide)))
    have F19 : Fld Z h6 a1 "com/example/invites_to_friends/invitestofriends/bench/Report" "p99Millis" "D" (.double (0 : UInt64)) := Fp11.other W6 (Or.inr (slot_ne (Or.inr (hw _ (List.mem_of_getElem? (i := 40) rfl))) (Or.inr (hw _ (List.mem_of_getElem? (i := 18) rfl))) (by decide) (t := .double) (t' := (.object "com/example/invites_to_friends/invitestofriends/bench/Mode")) (by decide) (by decide)))
    have Zs20 : n0 ≤ h6.size := by rw [W6.size]; exact Z0
    have N21 := Fr.snoc X6 N4 ga1
    have K22 : Keep h0 h6 [a1] := K0.wr W6 (Or.inl (List.mem_of_getElem? (i := 0) rfl))
    have r6 : own_R p.tables e below F0 (T6.setTop (mkF m 9 #[.val (.ref a1), .val (.ref p2), .val (.long p3), .second, .val (.long p4), .second, .val (.long p5), .second, .val (.long p6), .second, .val (.long p7), .second, .val (.long p8), .second, .val (.long p9), .second, .val (.long p10), .second, .val (.double p11), .second, .val (.double p12), .second, .val (.double p13), .second] [])) := fun tg_ kg_ => r5 tg_ (st6 tg_ kg_)
    have r23 : own_R p.tables e below F0 (T6.setTop (mkF m 11 #[.val (.ref a1), .val (.ref p2), .val (.long p3), .second, .val (.long p4), .second, .val (.long p5), .second, .val (.long p6), .second, .val (.long p7), .second, .val (.long p8), .second, .val (.long p9), .second, .val (.long p10), .second, .val (.double p11), .second, .val (.double p12), .second, .val (.double p13), .second] [(.long p3), (.ref a1)])) := fun tg_ kg_ => by
      refine r6 tg_ ?_
      show Steps p.tables e below (T6.setTop (mkF m 9 #[.val (.ref a1), .val (.ref p2), .val (.long p3), .second, .val (.long p4), .second, .val (.long p5), .second, .val (.long p6), .second, .val (.long p7), .second, .val (.long p8), .second, .val (.long p9), .second, .val (.long p10), .second, .val (.double p11), .second, .val (.double p12), .second, .val (.double p13), .second] [])) _
      refine XS.aloadN X6.here hx rfl (hb hby d1_9) rfl rfl ?_
      show Steps p.tables e below (T6.setTop (mkF m 10 #[.val (.ref a1), .val (.ref p2), .val (.long p3), .second, .val (.long p4), .second, .val (.long p5), .second, .val (.long p6), .second, .val (.long p7), .second, .val (.long p8), .second, .val (.long p9), .second, .val (.long p10), .second, .val (.double p11), .second, .val (.double p12), .second, .val (.double p13), .second] [(.ref a1)])) _
      refine XS.lloadN X6.here hx rfl (hb hby d1_10) rfl ?_
      exact kg_
    obtain ⟨T24, h24, X24, e24, W24, st24⟩ := putF X6 hx hZ hown (host := "") (Or.inl (hw _ (List.mem_of_getElem? (i := 19) rfl))) Via.refl e6 F9 F7 (Or.inr ⟨(hw _ (List.mem_of_getElem? (i := 20) rfl)), rfl, hnm⟩) (hw _ (List.mem_of_getElem? (i := 4) rfl)) (ty := .long) (by decide) rfl rfl (g := (mkF m 11 #[.val (.ref a1), .val (.ref p2), .val (.long p3), .second, .val (.long p4), .second, .val (.long p5), .second, .val (.long p6), .second, .val (.long p7), .second, .val (.long p8), .second, .val (.long p9), .second, .val (.long p10), .second, .val (.double p11), .second, .val (.double p12), .second, .val (.double p13), .second] [(.long p3), (.ref a1)])) rfl rfl (hb hby d1_11)
    have F25 : Exa Z h24 a1 "com/example/invites_to_friends/invitestofriends/bench/Report" := F7.wr W24
    have F26 : Fld Z h24 a1 "com/example/invites_to_friends/invitestofriends/bench/Report" "mode" "Lcom/example/invites_to_friends/invitestofriends/bench/Mode;" (.ref p2) := F8.other W24 (Or.inr (slot_ne (Or.inr (hw _ (List.mem_of_getElem? (i := 18) rfl))) (Or.inr (hw _ (List.mem_of_getElem? (i := 20) rfl))) (by decide) (t := (.object "com/example/invites_to_friends/invitestofriends/bench/Mode")) (t' := .long) (by decide) (by decide)))
    have F27 : Fld Z h24 a1 "com/example/invites_to_friends/invitestofriends/bench/Report" "pairs" "J" (.long p3) := F9.same W24
    have F28 : Fld Z h24 a1 "com/example/invites_to_friends/invitestofriends/bench/Report" "calls" "J" (.long (0 : Int64)) := F10.other W24 (Or.inr (slot_ne (Or.inr (hw _ (List.mem_of_getElem? (i := 22) rfl))) (Or.inr (hw _ (List.mem_of_getElem? (i := 20) rfl))) (by decide) (t := .long) (t' := .long) (by decide) (by decide)))
    have F29 : Fld Z h24 a1 "com/example/invites_to_friends/invitestofriends/bench/Report" "answered2xx" "J" (.long (0 : Int64)) := F11.other W24 (Or.inr (slot_ne (Or.inr (hw _ (List.mem_of_getElem? (i := 24) rfl))) (Or.inr (hw _ (List.mem_of_getElem? (i := 20) rfl))) (by decide) (t := .long) (t' := .long) (by decide) (by decide)))
    have F30 : Fld Z h24 a1 "com/example/invites_to_friends/invitestofriends/bench/Report" "answeredOther" "J" (.long (0 : Int64)) := F12.other W24 (Or.inr (slot_ne (Or.inr (hw _ (List.mem_of_getElem? (i := 26) rfl))) (Or.inr (hw _ (List.mem_of_getElem? (i := 20) rfl))) (by decide) (t := .long) (t' := .long) (by decide) (by decide)))
    have F31 : Fld Z h24 a1 "com/example/invites_to_friends/invitestofriends/bench/Report" "failedToAnswer" "J" (.long (0 : Int64)) := F13.other W24 (Or.inr (slot_ne (Or.inr (hw _ (List.mem_of_getElem? (i := 28) rfl))) (Or.inr (hw _ (List.mem_of_getElem? (i := 20) rfl))) (by decide) (t := .long) (t' := .long) (by decide) (by decide)))
    have F32 : Fld Z h24 a1 "com/example/invites_to_friends/invitestofriends/bench/Report" "answeredRequested" "J" (.long (0 : Int64)) := F14.other W24 (Or.inr (slot_ne (Or.inr (hw _ (List.mem_of_getElem? (i := 30) rfl))) (Or.inr (hw _ (List.mem_of_getElem? (i := 20) rfl))) (by decide) (t := .long) (t' := .long) (by decide) (by decide)))
    have F33 : Fld Z h24 a1 "com/example/invites_to_friends/invitestofriends/bench/Report" "answeredFriends" "J" (.long (0 : Int64)) := F15.other W24 (Or.inr (slot_ne (Or.inr (hw _ (List.mem_of_getElem? (i := 32) rfl))) (Or.inr (hw _ (List.mem_of_getElem? (i := 20) rfl))) (by decide) (t := .long) (t' := .long) (by decide) (by decide)))
    have F34 : Fld Z h24 a1 "com/example/invites_to_friends/invitestofriends/bench/Report" "pairsOverlapped" "J" (.long (0 : Int64)) := F16.other W24 (Or.inr (slot_ne (Or.inr (hw _ (List.mem_of_getElem? (i := 34) rfl))) (Or.inr (hw _ (List.mem_of_getElem? (i := 20) rfl))) (by decide) (t := .long) (t' := .long) (by decide) (by decide)))
    have F35 : Fld Z h24 a1 "com/example/invites_to_friends/invitestofriends/bench/Report" "seconds" "D" (.double (0 : UInt64)) := F17.other W24 (Or.inr (slot_ne (Or.inr (hw _ (List.mem_of_getElem? (i := 36) rfl))) (Or.inr (hw _ (List.mem_of_getElem? (i := 20) rfl))) (by decide) (t := .double) (t' := .long) (by decide) (by decide)))
    have F36 : Fld Z h24 a1 "com/example/invites_to_friends/invitestofriends/bench/Report" "p50Millis" "D" (.double (0 : UInt64)) := F18.other W24 (Or.inr (slot_ne (Or.inr (hw _ (List.mem_of_getElem? (i := 38) rfl))) (Or.inr (hw _ (List.mem_of_getElem? (i := 20) rfl))) (by decide) (t := .double) (t' := .long) (by decide) (by decide)))
    have F37 : Fld Z h24 a1 "com/example/invites_to_friends/invitestofriends/bench/Report" "p99Millis" "D" (.double (0 : UInt64)) := F19.other W24 (Or.inr (slot_ne (Or.inr (hw _ (List.mem_of_getElem? (i := 40) rfl))) (Or.inr (hw _ (List.mem_of_getElem? (i := 20) rfl))) (by decide) (t := .double) (t' := .long) (by decide) (by decide)))
    have Zs38 : n0 ≤ h24.size := by rw [W24.size]; exact Zs20
    have N39 := Fr.snoc X24 N21 ga1
    have K40 : Keep h0 h24 [a1] := K22.wr W24 (Or.inl (List.mem_of_getElem? (i := 0) rfl))
    have r24 : own_R p.tables e below F0 (T24.setTop (mkF m 14 #[.val (.ref a1), .val (.ref p2), .val (.long p3), .second, .val (.long p4), .second, .val (.long p5), .second, .val (.long p6), .second, .val (.long p7), .second, .val (.long p8), .second, .val (.long p9), .second, .val (.long p10), .second, .val (.double p11), .second, .val (.double p12), .second, .val (.double p13), .second] [])) := fun tg_ kg_ => r23 tg_ (st24 tg_ kg_)
    have r41 : own_R p.tables e below F0 (T24.setTop (mkF m 17 #[.val (.ref a1), .val (.ref p2), .val (.long p3), .second, .val (.long p4), .second, .val (.long p5), .second, .val (.long p6), .second, .val (.long p7), .second, .val (.long p8), .second, .val (.long p9), .second, .val (.long p10), .second, .val (.double p11), .second, .val (.double p12), .second, .val (.double p13), .second] [(.long p4), (.ref a1)])) := fun tg_ kg_ => by
      refine r24 tg_ ?_
      show Steps p.tables e below (T24.setTop (mkF m 14 #[.val (.ref a1), .val (.ref p2), .val (.long p3), .second, .val (.long p4), .second, .val (.long p5), .second, .val (.long p6), .second, .val (.long p7), .second, .val (.long p8), .second, .val (.long p9), .second, .val (.long p10), .second, .val (.double p11), .second, .val (.double p12), .second, .val (.double p13), .second] [])) _
      refine XS.aloadN X24.here hx rfl (hb hby d1_14) rfl rfl ?_
      show Steps p.tables e below (T24.setTop (mkF m 15 #[.val (.ref a1), .val (.ref p2), .val (.long p3), .second, .val (.long p4), .second, .val (.long p5), .second, .val (.long p6), .second, .val (.long p7), .second, .val (.long p8), .second, .val (.long p9), .second, .val (.long p10), .second, .val (.double p11), .second, .val (.double p12), .second, .val (.double p13), .second] [(.ref a1)])) _
      refine XS.lload X24.here hx rfl (hb hby d1_15) rfl ?_
      exact kg_
    obtain ⟨T42, h42, X42, e42, W42, st42⟩ := putF X24 hx hZ hown (host := "") (Or.inl (hw _ (List.mem_of_getElem? (i := 21) rfl))) Via.refl e24 F28 F25 (Or.inr ⟨(hw _ (List.mem_of_getElem? (i := 22) rfl)), rfl, hnm⟩) (hw _ (List.mem_of_getElem? (i := 4) rfl)) (ty := .long) (by decide) rfl rfl (g := (mkF m 17 #[.val (.ref a1), .val (.ref p2), .val (.long p3), .second, .val (.long p4), .second, .val (.long p5), .second, .val (.long p6), .second, .val (.long p7), .second, .val (.long p8), .second, .val (.long p9), .second, .val (.long p10), .second, .val (.double p11), .second, .val (.double p12), .second, .val (.double p13), .second] [(.long p4), (.ref a1)])) rfl rfl (hb hby d1_17)
    have F43 : Exa Z h42 a1 "com/example/invites_to_friends/invitestofriends/bench/Report" := F25.wr W42
    have F44 : Fld Z h42 a1 "com/example/invites_to_friends/invitestofriends/bench/Report" "mode" "Lcom/example/invites_to_friends/invitestofriends/bench/Mode;" (.ref p2) := F26.other W42 (Or.inr (slot_ne (Or.inr (hw _ (List.mem_of_getElem? (i := 18) rfl))) (Or.inr (hw _ (List.mem_of_getElem? (i := 22) rfl))) (by decide) (t := (.object "com/example/invites_to_friends/invitestofriends/bench/Mode")) (t' := .long) (by decide) (by decide)))
    have F45 : Fld Z h42 a1 "com/example/invites_to_friends/invitestofriends/bench/Report" "pairs" "J" (.long p3) := F27.other W42 (Or.inr (slot_ne (Or.inr (hw _ (List.mem_of_getElem? (i := 20) rfl))) (Or.inr (hw _ (List.mem_of_getElem? (i := 22) rfl))) (by decide) (t := .long) (t' := .long) (by decide) (by decide)))
    have F46 : Fld Z h42 a1 "com/example/invites_to_friends/invitestofriends/bench/Report" "calls" "J" (.long p4) := F28.same W42
    have F47 : Fld Z h42 a1 "com/example/invites_to_friends/invitestofriends/bench/Report" "answered2xx" "J" (.long (0 : Int64)) := F29.other W42 (Or.inr (slot_ne (Or.inr (hw _ (List.mem_of_getElem? (i := 24) rfl))) (Or.inr (hw _ (List.mem_of_getElem? (i := 22) rfl))) (by decide) (t := .long) (t' := .long) (by decide) (by decide)))
    have F48 : Fld Z h42 a1 "com/example/invites_to_friends/invitestofriends/bench/Report" "answeredOther" "J" (.long (0 : Int64)) := F30.other W42 (Or.inr (slot_ne (Or.inr (hw _ (List.mem_of_getElem? (i := 26) rfl))) (Or.inr (hw _ (List.mem_of_getElem? (i := 22) rfl))) (by decide) (t := .long) (t' := .long) (by decide) (by decide)))
    have F49 : Fld Z h42 a1 "com/example/invites_to_friends/invitestofriends/bench/Report" "failedToAnswer" "J" (.long (0 : Int64)) := F31.other W42 (Or.inr (slot_ne (Or.inr (hw _ (List.mem_of_getElem? (i := 28) rfl))) (Or.inr (hw _ (List.mem_of_getElem? (i := 22) rfl))) (by decide) (t := .long) (t' := .long) (by decide) (by decide)))
    have F50 : Fld Z h42 a1 "com/example/invites_to_friends/invitestofriends/bench/Report" "answeredRequested" "J" (.long (0 : Int64)) := F32.other W42 (Or.inr (slot_ne (Or.inr (hw _ (List.mem_of_getElem? (i := 30) rfl))) (Or.inr (hw _ (List.mem_of_getElem? (i := 22) rfl))) (by decide) (t := .long) (t' := .long) (by decide) (by decide)))
    have F51 : Fld Z h42 a1 "com/example/invites_to_friends/invitestofriends/bench/Report" "answeredFriends" "J" (.long (0 : Int64)) := F33.other W42 (Or.inr (slot_ne (Or.inr (hw _ (List.mem_of_getElem? (i := 32) rfl))) (Or.inr (hw _ (List.mem_of_getElem? (i := 22) rfl))) (by decide) (t := .long) (t' := .long) (by decide) (by decide)))
    have F52 : Fld Z h42 a1 "com/example/invites_to_friends/invitestofriends/bench/Report" "pairsOverlapped" "J" (.long (0 : Int64)) := F34.other W42 (Or.inr (slot_ne (Or.inr (hw _ (List.mem_of_getElem? (i := 34) rfl))) (Or.inr (hw _ (List.mem_of_getElem? (i := 22) rfl))) (by decide) (t := .long) (t' := .long) (by decide) (by decide)))
    have F53 : Fld Z h42 a1 "com/example/invites_to_friends/invitestofriends/bench/Report" "seconds" "D" (.double (0 : UInt64)) := F35.other W42 (Or.inr (slot_ne (Or.inr (hw _ (List.mem_of_getElem? (i := 36) rfl))) (Or.inr (hw _ (List.mem_of_getElem? (i := 22) rfl))) (by decide) (t := .double) (t' := .long) (by decide) (by decide)))
    have F54 : Fld Z h42 a1 "com/example/invites_to_friends/invitestofriends/bench/Report" "p50Millis" "D" (.double (0 : UInt64)) := F36.other W42 (Or.inr (slot_ne (Or.inr (hw _ (List.mem_of_getElem? (i := 38) rfl))) (Or.inr (hw _ (List.mem_of_getElem? (i := 22) rfl))) (by decide) (t := .double) (t' := .long) (by decide) (by decide)))
    have F55 : Fld Z h42 a1 "com/example/invites_to_friends/invitestofriends/bench/Report" "p99Millis" "D" (.double (0 : UInt64)) := F37.other W42 (Or.inr (slot_ne (Or.inr (hw _ (List.mem_of_getElem? (i := 40) rfl))) (Or.inr (hw _ (List.mem_of_getElem? (i := 22) rfl))) (by decide) (t := .double) (t' := .long) (by decide) (by decide)))
    have Zs56 : n0 ≤ h42.size := by rw [W42.size]; exact Zs38
    have N57 := Fr.snoc X42 N39 ga1
    have K58 : Keep h0 h42 [a1] := K40.wr W42 (Or.inl (List.mem_of_getElem? (i := 0) rfl))
    have r42 : own_R p.tables e below F0 (T42.setTop (mkF m 20 #[.val (.ref a1), .val (.ref p2), .val (.long p3), .second, .val (.long p4), .second, .val (.long p5), .second, .val (.long p6), .second, .val (.long p7), .second, .val (.long p8), .second, .val (.long p9), .second, .val (.long p10), .second, .val (.double p11), .second, .val (.double p12), .second, .val (.double p13), .second] [])) := fun tg_ kg_ => r41 tg_ (st42 tg_ kg_)
    have r59 : own_R p.tables e below F0 (T42.setTop (mkF m 23 #[.val (.ref a1), .val (.ref p2), .val (.long p3), .second, .val (.long p4), .second, .val (.long p5), .second, .val (.long p6), .second, .val (.long p7), .second, .val (.long p8), .second, .val (.long p9), .second, .val (.long p10), .second, .val (.double p11), .second, .val (.double p12), .second, .val (.double p13), .second] [(.long p5), (.ref a1)])) := fun tg_ kg_ => by
      refine r42 tg_ ?_
      show Steps p.tables e below (T42.setTop (mkF m 20 #[.val (.ref a1), .val (.ref p2), .val (.long p3), .second, .val (.long p4), .second, .val (.long p5), .second, .val (.long p6), .second, .val (.long p7), .second, .val (.long p8), .second, .val (.long p9), .second, .val (.long p10), .second, .val (.double p11), .second, .val (.double p12), .second, .val (.double p13), .second] [])) _
      refine XS.aloadN X42.here hx rfl (hb hby d1_20) rfl rfl ?_
      show Steps p.tables e below (T42.setTop (mkF m 21 #[.val (.ref a1), .val (.ref p2), .val (.long p3), .second, .val (.long p4), .second, .val (.long p5), .second, .val (.long p6), .second, .val (.long p7), .second, .val (.long p8), .second, .val (.long p9), .second, .val (.long p10), .second, .val (.double p11), .second, .val (.double p12), .second, .val (.double p13), .second] [(.ref a1)])) _
      refine XS.lload X42.here hx rfl (hb hby d1_21) rfl ?_
      exact kg_
    obtain ⟨T60, h60, X60, e60, W60, st60⟩ := putF X42 hx hZ hown (host := "") (Or.inl (hw _ (List.mem_of_getElem? (i := 23) rfl))) Via.refl e42 F47 F43 (Or.inr ⟨(hw _ (List.mem_of_getElem? (i := 24) rfl)), rfl, hnm⟩) (hw _ (List.mem_of_getElem? (i := 4) rfl)) (ty := .long) (by decide) rfl rfl (g := (mkF m 23 #[.val (.ref a1), .val (.ref p2), .val (.long p3), .second, .val (.long p4), .second, .val (.long p5), .second, .val (.long p6), .second, .val (.long p7), .second, .val (.long p8), .second, .val (.long p9), .second, .val (.long p10), .second, .val (.double p11), .second, .val (.double p12), .second, .val (.double p13), .second] [(.long p5), (.ref a1)])) rfl rfl (hb hby d1_23)
    have F61 : Exa Z h60 a1 "com/example/invites_to_friends/invitestofriends/bench/Report" := F43.wr W60
    have F62 : Fld Z h60 a1 "com/example/invites_to_friends/invitestofriends/bench/Report" "mode" "Lcom/example/invites_to_friends/invitestofriends/bench/Mode;" (.ref p2) := F44.other W60 (Or.inr (slot_ne (Or.inr (hw _ (List.mem_of_getElem? (i := 18) rfl))) (Or.inr (hw _ (List.mem_of_getElem? (i := 24) rfl))) (by decide) (t := (.object "com/example/invites_to_friends/invitestofriends/bench/Mode")) (t' := .long) (by decide) (by decide)))
    have F63 : Fld Z h60 a1 "com/example/invites_to_friends/invitestofriends/bench/Report" "pairs" "J" (.long p3) := F45.other W60 (Or.inr (slot_ne (Or.inr (hw _ (List.mem_of_getElem? (i := 20) rfl))) (Or.inr (hw _ (List.mem_of_getElem? (i := 24) rfl))) (by decide) (t := .long) (t' := .long) (by decide) (by decide)))
    have F64 : Fld Z h60 a1 "com/example/invites_to_friends/invitestofriends/bench/Report" "calls" "J" (.long p4) := F46.other W60 (Or.inr (slot_ne (Or.inr (hw _ (List.mem_of_getElem? (i := 22) rfl))) (Or.inr (hw _ (List.mem_of_getElem? (i := 24) rfl))) (by decide) (t := .long) (t' := .long) (by decide) (by decide)))
    have F65 : Fld Z h60 a1 "com/example/invites_to_friends/invitestofriends/bench/Report" "answered2xx" "J" (.long p5) := F47.same W60
    have F66 : Fld Z h60 a1 "com/example/invites_to_friends/invitestofriends/bench/Report" "answeredOther" "J" (.long (0 : Int64)) := F48.other W60 (Or.inr (slot_ne (Or.inr (hw _ (List.mem_of_getElem? (i := 26) rfl))) (Or.inr (hw _ (List.mem_of_getElem? (i := 24) rfl))) (by decide) (t := .long) (t' := .long) (by decide) (by decide)))
    have F67 : Fld Z h60 a1 "com/example/invites_to_friends/invitestofriends/bench/Report" "failedToAnswer" "J" (.long (0 : Int64)) := F49.other W60 (Or.inr (slot_ne (Or.inr (hw _ (List.mem_of_getElem? (i := 28) rfl))) (Or.inr (hw _ (List.mem_of_getElem? (i := 24) rfl))) (by decide) (t := .long) (t' := .long) (by decide) (by decide)))
    have F68 : Fld Z h60 a1 "com/example/invites_to_friends/invitestofriends/bench/Report" "answeredRequested" "J" (.long (0 : Int64)) := F50.other W60 (Or.inr (slot_ne (Or.inr (hw _ (List.mem_of_getElem? (i := 30) rfl))) (Or.inr (hw _ (List.mem_of_getElem? (i := 24) rfl))) (by decide) (t := .long) (t' := .long) (by decide) (by decide)))
    have F69 : Fld Z h60 a1 "com/example/invites_to_friends/invitestofriends/bench/Report" "answeredFriends" "J" (.long (0 : Int64)) := F51.other W60 (Or.inr (slot_ne (Or.inr (hw _ (List.mem_of_getElem? (i := 32) rfl))) (Or.inr (hw _ (List.mem_of_getElem? (i := 24) rfl))) (by decide) (t := .long) (t' := .long) (by decide) (by decide)))
    have F70 : Fld Z h60 a1 "com/example/invites_to_friends/invitestofriends/bench/Report" "pairsOverlapped" "J" (.long (0 : Int64)) := F52.other W60 (Or.inr (slot_ne (Or.inr (hw _ (List.mem_of_getElem? (i := 34) rfl))) (Or.inr (hw _ (List.mem_of_getElem? (i := 24) rfl))) (by decide) (t := .long) (t' := .long) (by decide) (by decide)))
    have F71 : Fld Z h60 a1 "com/example/invites_to_friends/invitestofriends/bench/Report" "seconds" "D" (.double (0 : UInt64)) := F53.other W60 (Or.inr (slot_ne (Or.inr (hw _ (List.mem_of_getElem? (i := 36) rfl))) (Or.inr (hw _ (List.mem_of_getElem? (i := 24) rfl))) (by decide) (t := .double) (t' := .long) (by decide) (by decide)))
    have F72 : Fld Z h60 a1 "com/example/invites_to_friends/invitestofriends/bench/Report" "p50Millis" "D" (.double (0 : UInt64)) := F54.other W60 (Or.inr (slot_ne (Or.inr (hw _ (List.mem_of_getElem? (i := 38) rfl))) (Or.inr (hw _ (List.mem_of_getElem? (i := 24) rfl))) (by decide) (t := .double) (t' := .long) (by decide) (by decide)))
    have F73 : Fld Z h60 a1 "com/example/invites_to_friends/invitestofriends/bench/Report" "p99Millis" "D" (.double (0 : UInt64)) := F55.other W60 (Or.inr (slot_ne (Or.inr (hw _ (List.mem_of_getElem? (i := 40) rfl))) (Or.inr (hw _ (List.mem_of_getElem? (i := 24) rfl))) (by decide) (t := .double) (t' := .long) (by decide) (by decide)))
    have Zs74 : n0 ≤ h60.size := by rw [W60.size]; exact Zs56
    have N75 := Fr.snoc X60 N57 ga1
    have K76 : Keep h0 h60 [a1] := K58.wr W60 (Or.inl (List.mem_of_getElem? (i := 0) rfl))
    have r60 : own_R p.tables e below F0 (T60.setTop (mkF m 26 #[.val (.ref a1), .val (.ref p2), .val (.long p3), .second, .val (.long p4), .second, .val (.long p5), .second, .val (.long p6), .second, .val (.long p7), .second, .val (.long p8), .second, .val (.long p9), .second, .val (.long p10), .second, .val (.double p11), .second, .val (.double p12), .second, .val (.double p13), .second] [])) := fun tg_ kg_ => r59 tg_ (st60 tg_ kg_)
    have r77 : own_R p.tables e below F0 (T60.setTop (mkF m 29 #[.val (.ref a1), .val (.ref p2), .val (.long p3), .second, .val (.long p4), .second, .val (.long p5), .second, .val (.long p6), .second, .val (.long p7), .second, .val (.long p8), .second, .val (.long p9), .second, .val (.long p10), .second, .val (.double p11), .second, .val (.double p12), .second, .val (.double p13), .second] [(.long p6), (.ref a1)])) := fun tg_ kg_ => by
      refine r60 tg_ ?_
      show Steps p.tables e below (T60.setTop (mkF m 26 #[.val (.ref a1), .val (.ref p2), .val (.long p3), .second, .val (.long p4), .second, .val (.long p5), .second, .val (.long p6), .second, .val (.long p7), .second, .val (.long p8), .second, .val (.long p9), .second, .val (.long p10), .second, .val (.double p11), .second, .val (.double p12), .second, .val (.double p13), .second] [])) _
      refine XS.aloadN X60.here hx rfl (hb hby d1_26) rfl rfl ?_
      show Steps p.tables e below (T60.setTop (mkF m 27 #[.val (.ref a1), .val (.ref p2), .val (.long p3), .second, .val (.long p4), .second, .val (.long p5), .second, .val (.long p6), .second, .val (.long p7), .second, .val (.long p8), .second, .val (.long p9), .second, .val (.long p10), .second, .val (.double p11), .second, .val (.double p12), .second, .val (.double p13), .second] [(.ref a1)])) _
      refine XS.lload X60.here hx rfl (hb hby d1_27) rfl ?_
      exact kg_
    obtain ⟨T78, h78, X78, e78, W78, st78⟩ := putF X60 hx hZ hown (host := "") (Or.inl (hw _ (List.mem_of_getElem? (i := 25) rfl))) Via.refl e60 F66 F61 (Or.inr ⟨(hw _ (List.mem_of_getElem? (i := 26) rfl)), rfl, hnm⟩) (hw _ (List.mem_of_getElem? (i := 4) rfl)) (ty := .long) (by decide) rfl rfl (g := (mkF m 29 #[.val (.ref a1), .val (.ref p2), .val (.long p3), .second, .val (.long p4), .second, .val (.long p5), .second, .val (.long p6), .second, .val (.long p7), .second, .val (.long p8), .second, .val (.long p9), .second, .val (.long p10), .second, .val (.double p11), .second, .val (.double p12), .second, .val (.double p13), .second] [(.long p6), (.ref a1)])) rfl rfl (hb hby d1_29)
    have F79 : Exa Z h78 a1 "com/example/invites_to_friends/invitestofriends/bench/Report" := F61.wr W78
    have F80 : Fld Z h78 a1 "com/example/invites_to_friends/invitestofriends/bench/Report" "mode" "Lcom/example/invites_to_friends/invitestofriends/bench/Mode;" (.ref p2) := F62.other W78 (Or.inr (slot_ne (Or.inr (hw _ (List.mem_of_getElem? (i := 18) rfl))) (Or.inr (hw _ (List.mem_of_getElem? (i := 26) rfl))) (by decide) (t := (.object "com/example/invites_to_friends/invitestofriends/bench/Mode")) (t' := .long) (by decide) (by decide)))
    have F81 : Fld Z h78 a1 "com/example/invites_to_friends/invitestofriends/bench/Report" "pairs" "J" (.long p3) := F63.other W78 (Or.inr (slot_ne (Or.inr (hw _ (List.mem_of_getElem? (i := 20) rfl))) (Or.inr (hw _ (List.mem_of_getElem? (i := 26) rfl))) (by decide) (t := .long) (t' := .long) (by decide) (by decide)))
    have F82 : Fld Z h78 a1 "com/example/invites_to_friends/invitestofriends/bench/Report" "calls" "J" (.long p4) := F64.other W78 (Or.inr (slot_ne (Or.inr (hw _ (List.mem_of_getElem? (i := 22) rfl))) (Or.inr (hw _ (List.mem_of_getElem? (i := 26) rfl))) (by decide) (t := .long) (t' := .long) (by decide) (by decide)))
    have F83 : Fld Z h78 a1 "com/example/invites_to_friends/invitestofriends/bench/Report" "answered2xx" "J" (.long p5) := F65.other W78 (Or.inr (slot_ne (Or.inr (hw _ (List.mem_of_getElem? (i := 24) rfl))) (Or.inr (hw _ (List.mem_of_getElem? (i := 26) rfl))) (by decide) (t := .long) (t' := .long) (by decide) (by decide)))
    have F84 : Fld Z h78 a1 "com/example/invites_to_friends/invitestofriends/bench/Report" "answeredOther" "J" (.long p6) := F66.same W78
    have F85 : Fld Z h78 a1 "com/example/invites_to_friends/invitestofriends/bench/Report" "failedToAnswer" "J" (.long (0 : Int64)) := F67.other W78 (Or.inr (slot_ne (Or.inr (hw _ (List.mem_of_getElem? (i := 28) rfl))) (Or.inr (hw _ (List.mem_of_getElem? (i := 26) rfl))) (by decide) (t := .long) (t' := .long) (by decide) (by decide)))
    have F86 : Fld Z h78 a1 "com/example/invites_to_friends/invitestofriends/bench/Report" "answeredRequested" "J" (.long (0 : Int64)) := F68.other W78 (Or.inr (slot_ne (Or.inr (hw _ (List.mem_of_getElem? (i := 30) rfl))) (Or.inr (hw _ (List.mem_of_getElem? (i := 26) rfl))) (by decide) (t := .long) (t' := .long) (by decide) (by decide)))
    have F87 : Fld Z h78 a1 "com/example/invites_to_friends/invitestofriends/bench/Report" "answeredFriends" "J" (.long (0 : Int64)) := F69.other W78 (Or.inr (slot_ne (Or.inr (hw _ (List.mem_of_getElem? (i := 32) rfl))) (Or.inr (hw _ (List.mem_of_getElem? (i := 26) rfl))) (by decide) (t := .long) (t' := .long) (by decide) (by decide)))
    have F88 : Fld Z h78 a1 "com/example/invites_to_friends/invitestofriends/bench/Report" "pairsOverlapped" "J" (.long (0 : Int64)) := F70.other W78 (Or.inr (slot_ne (Or.inr (hw _ (List.mem_of_getElem? (i := 34) rfl))) (Or.inr (hw _ (List.mem_of_getElem? (i := 26) rfl))) (by decide) (t := .long) (t' := .long) (by decide) (by decide)))
    have F89 : Fld Z h78 a1 "com/example/invites_to_friends/invitestofriends/bench/Report" "seconds" "D" (.double (0 : UInt64)) := F71.other W78 (Or.inr (slot_ne (Or.inr (hw _ (List.mem_of_getElem? (i := 36) rfl))) (Or.inr (hw _ (List.mem_of_getElem? (i := 26) rfl))) (by decide) (t := .double) (t' := .long) (by decide) (by decide)))
    have F90 : Fld Z h78 a1 "com/example/invites_to_friends/invitestofriends/bench/Report" "p50Millis" "D" (.double (0 : UInt64)) := F72.other W78 (Or.inr (slot_ne (Or.inr (hw _ (List.mem_of_getElem? (i := 38) rfl))) (Or.inr (hw _ (List.mem_of_getElem? (i := 26) rfl))) (by decide) (t := .double) (t' := .long) (by decide) (by decide)))
    have F91 : Fld Z h78 a1 "com/example/invites_to_friends/invitestofriends/bench/Report" "p99Millis" "D" (.double (0 : UInt64)) := F73.other W78 (Or.inr (slot_ne (Or.inr (hw _ (List.mem_of_getElem? (i := 40) rfl))) (Or.inr (hw _ (List.mem_of_getElem? (i := 26) rfl))) (by decide) (t := .double) (t' := .long) (by decide) (by decide)))
    have Zs92 : n0 ≤ h78.size := by rw [W78.size]; exact Zs74
    have N93 := Fr.snoc X78 N75 ga1
    have K94 : Keep h0 h78 [a1] := K76.wr W78 (Or.inl (List.mem_of_getElem? (i := 0) rfl))
    have r78 : own_R p.tables e below F0 (T78.setTop (mkF m 32 #[.val (.ref a1), .val (.ref p2), .val (.long p3), .second, .val (.long p4), .second, .val (.long p5), .second, .val (.long p6), .second, .val (.long p7), .second, .val (.long p8), .second, .val (.long p9), .second, .val (.long p10), .second, .val (.double p11), .second, .val (.double p12), .second, .val (.double p13), .second] [])) := fun tg_ kg_ => r77 tg_ (st78 tg_ kg_)
    have r95 : own_R p.tables e below F0 (T78.setTop (mkF m 35 #[.val (.ref a1), .val (.ref p2), .val (.long p3), .second, .val (.long p4), .second, .val (.long p5), .second, .val (.long p6), .second, .val (.long p7), .second, .val (.long p8), .second, .val (.long p9), .second, .val (.long p10), .second, .val (.double p11), .second, .val (.double p12), .second, .val (.double p13), .second] [(.long p7), (.ref a1)])) := fun tg_ kg_ => by
      refine r78 tg_ ?_
      show Steps p.tables e below (T78.setTop (mkF m 32 #[.val (.ref a1), .val (.ref p2), .val (.long p3), .second, .val (.long p4), .second, .val (.long p5), .second, .val (.long p6), .second, .val (.long p7), .second, .val (.long p8), .second, .val (.long p9), .second, .val (.long p10), .second, .val (.double p11), .second, .val (.double p12), .second, .val (.double p13), .second] [])) _
      refine XS.aloadN X78.here hx rfl (hb hby d1_32) rfl rfl ?_
      show Steps p.tables e below (T78.setTop (mkF m 33 #[.val (.ref a1), .val (.ref p2), .val (.long p3), .second, .val (.long p4), .second, .val (.long p5), .second, .val (.long p6), .second, .val (.long p7), .second, .val (.long p8), .second, .val (.long p9), .second, .val (.long p10), .second, .val (.double p11), .second, .val (.double p12), .second, .val (.double p13), .second] [(.ref a1)])) _
      refine XS.lload X78.here hx rfl (hb hby d1_33) rfl ?_
      exact kg_
    obtain ⟨T96, h96, X96, e96, W96, st96⟩ := putF X78 hx hZ hown (host := "") (Or.inl (hw _ (List.mem_of_getElem? (i := 27) rfl))) Via.refl e78 F85 F79 (Or.inr ⟨(hw _ (List.mem_of_getElem? (i := 28) rfl)), rfl, hnm⟩) (hw _ (List.mem_of_getElem? (i := 4) rfl)) (ty := .long) (by decide) rfl rfl (g := (mkF m 35 #[.val (.ref a1), .val (.ref p2), .val (.long p3), .second, .val (.long p4), .second, .val (.long p5), .second, .val (.long p6), .second, .val (.long p7), .second, .val (.long p8), .second, .val (.long p9), .second, .val (.long p10), .second, .val (.double p11), .second, .val (.double p12), .second, .val (.double p13), .second] [(.long p7), (.ref a1)])) rfl rfl (hb hby d1_35)
    have F97 : Exa Z h96 a1 "com/example/invites_to_friends/invitestofriends/bench/Report" := F79.wr W96
    have F98 : Fld Z h96 a1 "com/example/invites_to_friends/invitestofriends/bench/Report" "mode" "Lcom/example/invites_to_friends/invitestofriends/bench/Mode;" (.ref p2) := F80.other W96 (Or.inr (slot_ne (Or.inr (hw _ (List.mem_of_getElem? (i := 18) rfl))) (Or.inr (hw _ (List.mem_of_getElem? (i := 28) rfl))) (by decide) (t := (.object "com/example/invites_to_friends/invitestofriends/bench/Mode")) (t' := .long) (by decide) (by decide)))
    have F99 : Fld Z h96 a1 "com/example/invites_to_friends/invitestofriends/bench/Report" "pairs" "J" (.long p3) := F81.other W96 (Or.inr (slot_ne (Or.inr (hw _ (List.mem_of_getElem? (i := 20) rfl))) (Or.inr (hw _ (List.mem_of_getElem? (i := 28) rfl))) (by decide) (t := .long) (t' := .long) (by decide) (by decide)))
    have F100 : Fld Z h96 a1 "com/example/invites_to_friends/invitestofriends/bench/Report" "calls" "J" (.long p4) := F82.other W96 (Or.inr (slot_ne (Or.inr (hw _ (List.mem_of_getElem? (i := 22) rfl))) (Or.inr (hw _ (List.mem_of_getElem? (i := 28) rfl))) (by decide) (t := .long) (t' := .long) (by decide) (by decide)))
    have F101 : Fld Z h96 a1 "com/example/invites_to_friends/invitestofriends/bench/Report" "answered2xx" "J" (.long p5) := F83.other W96 (Or.inr (slot_ne (Or.inr (hw _ (List.mem_of_getElem? (i := 24) rfl))) (Or.inr (hw _ (List.mem_of_getElem? (i := 28) rfl))) (by decide) (t := .long) (t' := .long) (by decide) (by decide)))
    have F102 : Fld Z h96 a1 "com/example/invites_to_friends/invitestofriends/bench/Report" "answeredOther" "J" (.long p6) := F84.other W96 (Or.inr (slot_ne (Or.inr (hw _ (List.mem_of_getElem? (i := 26) rfl))) (Or.inr (hw _ (List.mem_of_getElem? (i := 28) rfl))) (by decide) (t := .long) (t' := .long) (by decide) (by decide)))
    have F103 : Fld Z h96 a1 "com/example/invites_to_friends/invitestofriends/bench/Report" "failedToAnswer" "J" (.long p7) := F85.same W96
    have F104 : Fld Z h96 a1 "com/example/invites_to_friends/invitestofriends/bench/Report" "answeredRequested" "J" (.long (0 : Int64)) := F86.other W96 (Or.inr (slot_ne (Or.inr (hw _ (List.mem_of_getElem? (i := 30) rfl))) (Or.inr (hw _ (List.mem_of_getElem? (i := 28) rfl))) (by decide) (t := .long) (t' := .long) (by decide) (by decide)))
    have F105 : Fld Z h96 a1 "com/example/invites_to_friends/invitestofriends/bench/Report" "answeredFriends" "J" (.long (0 : Int64)) := F87.other W96 (Or.inr (slot_ne (Or.inr (hw _ (List.mem_of_getElem? (i := 32) rfl))) (Or.inr (hw _ (List.mem_of_getElem? (i := 28) rfl))) (by decide) (t := .long) (t' := .long) (by decide) (by decide)))
    have F106 : Fld Z h96 a1 "com/example/invites_to_friends/invitestofriends/bench/Report" "pairsOverlapped" "J" (.long (0 : Int64)) := F88.other W96 (Or.inr (slot_ne (Or.inr (hw _ (List.mem_of_getElem? (i := 34) rfl))) (Or.inr (hw _ (List.mem_of_getElem? (i := 28) rfl))) (by decide) (t := .long) (t' := .long) (by decide) (by decide)))
    have F107 : Fld Z h96 a1 "com/example/invites_to_friends/invitestofriends/bench/Report" "seconds" "D" (.double (0 : UInt64)) := F89.other W96 (Or.inr (slot_ne (Or.inr (hw _ (List.mem_of_getElem? (i := 36) rfl))) (Or.inr (hw _ (List.mem_of_getElem? (i := 28) rfl))) (by decide) (t := .double) (t' := .long) (by decide) (by decide)))
    have F108 : Fld Z h96 a1 "com/example/invites_to_friends/invitestofriends/bench/Report" "p50Millis" "D" (.double (0 : UInt64)) := F90.other W96 (Or.inr (slot_ne (Or.inr (hw _ (List.mem_of_getElem? (i := 38) rfl))) (Or.inr (hw _ (List.mem_of_getElem? (i := 28) rfl))) (by decide) (t := .double) (t' := .long) (by decide) (by decide)))
    have F109 : Fld Z h96 a1 "com/example/invites_to_friends/invitestofriends/bench/Report" "p99Millis" "D" (.double (0 : UInt64)) := F91.other W96 (Or.inr (slot_ne (Or.inr (hw _ (List.mem_of_getElem? (i := 40) rfl))) (Or.inr (hw _ (List.mem_of_getElem? (i := 28) rfl))) (by decide) (t := .double) (t' := .long) (by decide) (by decide)))
    have Zs110 : n0 ≤ h96.size := by rw [W96.size]; exact Zs92
    have N111 := Fr.snoc X96 N93 ga1
    have K112 : Keep h0 h96 [a1] := K94.wr W96 (Or.inl (List.mem_of_getElem? (i := 0) rfl))
    have r96 : own_R p.tables e below F0 (T96.setTop (mkF m 38 #[.val (.ref a1), .val (.ref p2), .val (.long p3), .second, .val (.long p4), .second, .val (.long p5), .second, .val (.long p6), .second, .val (.long p7), .second, .val (.long p8), .second, .val (.long p9), .second, .val (.long p10), .second, .val (.double p11), .second, .val (.double p12), .second, .val (.double p13), .second] [])) := fun tg_ kg_ => r95 tg_ (st96 tg_ kg_)
    have r113 : own_R p.tables e below F0 (T96.setTop (mkF m 41 #[.val (.ref a1), .val (.ref p2), .val (.long p3), .second, .val (.long p4), .second, .val (.long p5), .second, .val (.long p6), .second, .val (.long p7), .second, .val (.long p8), .second, .val (.long p9), .second, .val (.long p10), .second, .val (.double p11), .second, .val (.double p12), .second, .val (.double p13), .second] [(.long p8), (.ref a1)])) := fun tg_ kg_ => by
      refine r96 tg_ ?_
      show Steps p.tables e below (T96.setTop (mkF m 38 #[.val (.ref a1), .val (.ref p2), .val (.long p3), .second, .val (.long p4), .second, .val (.long p5), .second, .val (.long p6), .second, .val (.long p7), .second, .val (.long p8), .second, .val (.long p9), .second, .val (.long p10), .second, .val (.double p11), .second, .val (.double p12), .second, .val (.double p13), .second] [])) _
      refine XS.aloadN X96.here hx rfl (hb hby d1_38) rfl rfl ?_
      show Steps p.tables e below (T96.setTop (mkF m 39 #[.val (.ref a1), .val (.ref p2), .val (.long p3), .second, .val (.long p4), .second, .val (.long p5), .second, .val (.long p6), .second, .val (.long p7), .second, .val (.long p8), .second, .val (.long p9), .second, .val (.long p10), .second, .val (.double p11), .second, .val (.double p12), .second, .val (.double p13), .second] [(.ref a1)])) _
      refine XS.lload X96.here hx rfl (hb hby d1_39) rfl ?_
      exact kg_
    obtain ⟨T114, h114, X114, e114, W114, st114⟩ := putF X96 hx hZ hown (host := "") (Or.inl (hw _ (List.mem_of_getElem? (i := 29) rfl))) Via.refl e96 F104 F97 (Or.inr ⟨(hw _ (List.mem_of_getElem? (i := 30) rfl)), rfl, hnm⟩) (hw _ (List.mem_of_getElem? (i := 4) rfl)) (ty := .long) (by decide) rfl rfl (g := (mkF m 41 #[.val (.ref a1), .val (.ref p2), .val (.long p3), .second, .val (.long p4), .second, .val (.long p5), .second, .val (.long p6), .second, .val (.long p7), .second, .val (.long p8), .second, .val (.long p9), .second, .val (.long p10), .second, .val (.double p11), .second, .val (.double p12), .second, .val (.double p13), .second] [(.long p8), (.ref a1)])) rfl rfl (hb hby d1_41)
    have F115 : Exa Z h114 a1 "com/example/invites_to_friends/invitestofriends/bench/Report" := F97.wr W114
    have F116 : Fld Z h114 a1 "com/example/invites_to_friends/invitestofriends/bench/Report" "mode" "Lcom/example/invites_to_friends/invitestofriends/bench/Mode;" (.ref p2) := F98.other W114 (Or.inr (slot_ne (Or.inr (hw _ (List.mem_of_getElem? (i := 18) rfl))) (Or.inr (hw _ (List.mem_of_getElem? (i := 30) rfl))) (by decide) (t := (.object "com/example/invites_to_friends/invitestofriends/bench/Mode")) (t' := .long) (by decide) (by decide)))
    have F117 : Fld Z h114 a1 "com/example/invites_to_friends/invitestofriends/bench/Report" "pairs" "J" (.long p3) := F99.other W114 (Or.inr (slot_ne (Or.inr (hw _ (List.mem_of_getElem? (i := 20) rfl))) (Or.inr (hw _ (List.mem_of_getElem? (i := 30) rfl))) (by decide) (t := .long) (t' := .long) (by decide) (by decide)))
    have F118 : Fld Z h114 a1 "com/example/invites_to_friends/invitestofriends/bench/Report" "calls" "J" (.long p4) := F100.other W114 (Or.inr (slot_ne (Or.inr (hw _ (List.mem_of_getElem? (i := 22) rfl))) (Or.inr (hw _ (List.mem_of_getElem? (i := 30) rfl))) (by decide) (t := .long) (t' := .long) (by decide) (by decide)))
    have F119 : Fld Z h114 a1 "com/example/invites_to_friends/invitestofriends/bench/Report" "answered2xx" "J" (.long p5) := F101.other W114 (Or.inr (slot_ne (Or.inr (hw _ (List.mem_of_getElem? (i := 24) rfl))) (Or.inr (hw _ (List.mem_of_getElem? (i := 30) rfl))) (by decide) (t := .long) (t' := .long) (by decide) (by decide)))
    have F120 : Fld Z h114 a1 "com/example/invites_to_friends/invitestofriends/bench/Report" "answeredOther" "J" (.long p6) := F102.other W114 (Or.inr (slot_ne (Or.inr (hw _ (List.mem_of_getElem? (i := 26) rfl))) (Or.inr (hw _ (List.mem_of_getElem? (i := 30) rfl))) (by decide) (t := .long) (t' := .long) (by decide) (by decide)))
    have F121 : Fld Z h114 a1 "com/example/invites_to_friends/invitestofriends/bench/Report" "failedToAnswer" "J" (.long p7) := F103.other W114 (Or.inr (slot_ne (Or.inr (hw _ (List.mem_of_getElem? (i := 28) rfl))) (Or.inr (hw _ (List.mem_of_getElem? (i := 30) rfl))) (by decide) (t := .long) (t' := .long) (by decide) (by decide)))
    have F122 : Fld Z h114 a1 "com/example/invites_to_friends/invitestofriends/bench/Report" "answeredRequested" "J" (.long p8) := F104.same W114
    have F123 : Fld Z h114 a1 "com/example/invites_to_friends/invitestofriends/bench/Report" "answeredFriends" "J" (.long (0 : Int64)) := F105.other W114 (Or.inr (slot_ne (Or.inr (hw _ (List.mem_of_getElem? (i := 32) rfl))) (Or.inr (hw _ (List.mem_of_getElem? (i := 30) rfl))) (by decide) (t := .long) (t' := .long) (by decide) (by decide)))
    have F124 : Fld Z h114 a1 "com/example/invites_to_friends/invitestofriends/bench/Report" "pairsOverlapped" "J" (.long (0 : Int64)) := F106.other W114 (Or.inr (slot_ne (Or.inr (hw _ (List.mem_of_getElem? (i := 34) rfl))) (Or.inr (hw _ (List.mem_of_getElem? (i := 30) rfl))) (by decide) (t := .long) (t' := .long) (by decide) (by decide)))
    have F125 : Fld Z h114 a1 "com/example/invites_to_friends/invitestofriends/bench/Report" "seconds" "D" (.double (0 : UInt64)) := F107.other W114 (Or.inr (slot_ne (Or.inr (hw _ (List.mem_of_getElem? (i := 36) rfl))) (Or.inr (hw _ (List.mem_of_getElem? (i := 30) rfl))) (by decide) (t := .double) (t' := .long) (by decide) (by decide)))
    have F126 : Fld Z h114 a1 "com/example/invites_to_friends/invitestofriends/bench/Report" "p50Millis" "D" (.double (0 : UInt64)) := F108.other W114 (Or.inr (slot_ne (Or.inr (hw _ (List.mem_of_getElem? (i := 38) rfl))) (Or.inr (hw _ (List.mem_of_getElem? (i := 30) rfl))) (by decide) (t := .double) (t' := .long) (by decide) (by decide)))
    have F127 : Fld Z h114 a1 "com/example/invites_to_friends/invitestofriends/bench/Report" "p99Millis" "D" (.double (0 : UInt64)) := F109.other W114 (Or.inr (slot_ne (Or.inr (hw _ (List.mem_of_getElem? (i := 40) rfl))) (Or.inr (hw _ (List.mem_of_getElem? (i := 30) rfl))) (by decide) (t := .double) (t' := .long) (by decide) (by decide)))
    have Zs128 : n0 ≤ h114.size := by rw [W114.size]; exact Zs110
    have N129 := Fr.snoc X114 N111 ga1
    have K130 : Keep h0 h114 [a1] := K112.wr W114 (Or.inl (List.mem_of_getElem? (i := 0) rfl))
    have r114 : own_R p.tables e below F0 (T114.setTop (mkF m 44 #[.val (.ref a1), .val (.ref p2), .val (.long p3), .second, .val (.long p4), .second, .val (.long p5), .second, .val (.long p6), .second, .val (.long p7), .second, .val (.long p8), .second, .val (.long p9), .second, .val (.long p10), .second, .val (.double p11), .second, .val (.double p12), .second, .val (.double p13), .second] [])) := fun tg_ kg_ => r113 tg_ (st114 tg_ kg_)
    have r131 : own_R p.tables e below F0 (T114.setTop (mkF m 47 #[.val (.ref a1), .val (.ref p2), .val (.long p3), .second, .val (.long p4), .second, .val (.long p5), .second, .val (.long p6), .second, .val (.long p7), .second, .val (.long p8), .second, .val (.long p9), .second, .val (.long p10), .second, .val (.double p11), .second, .val (.double p12), .second, .val (.double p13), .second] [(.long p9), (.ref a1)])) := fun tg_ kg_ => by
      refine r114 tg_ ?_
      show Steps p.tables e below (T114.setTop (mkF m 44 #[.val (.ref a1), .val (.ref p2), .val (.long p3), .second, .val (.long p4), .second, .val (.long p5), .second, .val (.long p6), .second, .val (.long p7), .second, .val (.long p8), .second, .val (.long p9), .second, .val (.long p10), .second, .val (.double p11), .second, .val (.double p12), .second, .val (.double p13), .second] [])) _
      refine XS.aloadN X114.here hx rfl (hb hby d1_44) rfl rfl ?_
      show Steps p.tables e below (T114.setTop (mkF m 45 #[.val (.ref a1), .val (.ref p2), .val (.long p3), .second, .val (.long p4), .second, .val (.long p5), .second, .val (.long p6), .second, .val (.long p7), .second, .val (.long p8), .second, .val (.long p9), .second, .val (.long p10), .second, .val (.double p11), .second, .val (.double p12), .second, .val (.double p13), .second] [(.ref a1)])) _
      refine XS.lload X114.here hx rfl (hb hby d1_45) rfl ?_
      exact kg_
    obtain ⟨T132, h132, X132, e132, W132, st132⟩ := putF X114 hx hZ hown (host := "") (Or.inl (hw _ (List.mem_of_getElem? (i := 31) rfl))) Via.refl e114 F123 F115 (Or.inr ⟨(hw _ (List.mem_of_getElem? (i := 32) rfl)), rfl, hnm⟩) (hw _ (List.mem_of_getElem? (i := 4) rfl)) (ty := .long) (by decide) rfl rfl (g := (mkF m 47 #[.val (.ref a1), .val (.ref p2), .val (.long p3), .second, .val (.long p4), .second, .val (.long p5), .second, .val (.long p6), .second, .val (.long p7), .second, .val (.long p8), .second, .val (.long p9), .second, .val (.long p10), .second, .val (.double p11), .second, .val (.double p12), .second, .val (.double p13), .second] [(.long p9), (.ref a1)])) rfl rfl (hb hby d1_47)
    have F133 : Exa Z h132 a1 "com/example/invites_to_friends/invitestofriends/bench/Report" := F115.wr W132
    have F134 : Fld Z h132 a1 "com/example/invites_to_friends/invitestofriends/bench/Report" "mode" "Lcom/example/invites_to_friends/invitestofriends/bench/Mode;" (.ref p2) := F116.other W132 (Or.inr (slot_ne (Or.inr (hw _ (List.mem_of_getElem? (i := 18) rfl))) (Or.inr (hw _ (List.mem_of_getElem? (i := 32) rfl))) (by decide) (t := (.object "com/example/invites_to_friends/invitestofriends/bench/Mode")) (t' := .long) (by decide) (by decide)))
    have F135 : Fld Z h132 a1 "com/example/invites_to_friends/invitestofriends/bench/Report" "pairs" "J" (.long p3) := F117.other W132 (Or.inr (slot_ne (Or.inr (hw _ (List.mem_of_getElem? (i := 20) rfl))) (Or.inr (hw _ (List.mem_of_getElem? (i := 32) rfl))) (by decide) (t := .long) (t' := .long) (by decide) (by decide)))
    have F136 : Fld Z h132 a1 "com/example/invites_to_friends/invitestofriends/bench/Report" "calls" "J" (.long p4) := F118.other W132 (Or.inr (slot_ne (Or.inr (hw _ (List.mem_of_getElem? (i := 22) rfl))) (Or.inr (hw _ (List.mem_of_getElem? (i := 32) rfl))) (by decide) (t := .long) (t' := .long) (by decide) (by decide)))
    have F137 : Fld Z h132 a1 "com/example/invites_to_friends/invitestofriends/bench/Report" "answered2xx" "J" (.long p5) := F119.other W132 (Or.inr (slot_ne (Or.inr (hw _ (List.mem_of_getElem? (i := 24) rfl))) (Or.inr (hw _ (List.mem_of_getElem? (i := 32) rfl))) (by decide) (t := .long) (t' := .long) (by decide) (by decide)))
    have F138 : Fld Z h132 a1 "com/example/invites_to_friends/invitestofriends/bench/Report" "answeredOther" "J" (.long p6) := F120.other W132 (Or.inr (slot_ne (Or.inr (hw _ (List.mem_of_getElem? (i := 26) rfl))) (Or.inr (hw _ (List.mem_of_getElem? (i := 32) rfl))) (by decide) (t := .long) (t' := .long) (by decide) (by decide)))
    have F139 : Fld Z h132 a1 "com/example/invites_to_friends/invitestofriends/bench/Report" "failedToAnswer" "J" (.long p7) := F121.other W132 (Or.inr (slot_ne (Or.inr (hw _ (List.mem_of_getElem? (i := 28) rfl))) (Or.inr (hw _ (List.mem_of_getElem? (i := 32) rfl))) (by decide) (t := .long) (t' := .long) (by decide) (by decide)))
    have F140 : Fld Z h132 a1 "com/example/invites_to_friends/invitestofriends/bench/Report" "answeredRequested" "J" (.long p8) := F122.other W132 (Or.inr (slot_ne (Or.inr (hw _ (List.mem_of_getElem? (i := 30) rfl))) (Or.inr (hw _ (List.mem_of_getElem? (i := 32) rfl))) (by decide) (t := .long) (t' := .long) (by decide) (by decide)))
    have F141 : Fld Z h132 a1 "com/example/invites_to_friends/invitestofriends/bench/Report" "answeredFriends" "J" (.long p9) := F123.same W132
    have F142 : Fld Z h132 a1 "com/example/invites_to_friends/invitestofriends/bench/Report" "pairsOverlapped" "J" (.long (0 : Int64)) := F124.other W132 (Or.inr (slot_ne (Or.inr (hw _ (List.mem_of_getElem? (i := 34) rfl))) (Or.inr (hw _ (List.mem_of_getElem? (i := 32) rfl))) (by decide) (t := .long) (t' := .long) (by decide) (by decide)))
    have F143 : Fld Z h132 a1 "com/example/invites_to_friends/invitestofriends/bench/Report" "seconds" "D" (.double (0 : UInt64)) := F125.other W132 (Or.inr (slot_ne (Or.inr (hw _ (List.mem_of_getElem? (i := 36) rfl))) (Or.inr (hw _ (List.mem_of_getElem? (i := 32) rfl))) (by decide) (t := .double) (t' := .long) (by decide) (by decide)))
    have F144 : Fld Z h132 a1 "com/example/invites_to_friends/invitestofriends/bench/Report" "p50Millis" "D" (.double (0 : UInt64)) := F126.other W132 (Or.inr (slot_ne (Or.inr (hw _ (List.mem_of_getElem? (i := 38) rfl))) (Or.inr (hw _ (List.mem_of_getElem? (i := 32) rfl))) (by decide) (t := .double) (t' := .long) (by decide) (by decide)))
    have F145 : Fld Z h132 a1 "com/example/invites_to_friends/invitestofriends/bench/Report" "p99Millis" "D" (.double (0 : UInt64)) := F127.other W132 (Or.inr (slot_ne (Or.inr (hw _ (List.mem_of_getElem? (i := 40) rfl))) (Or.inr (hw _ (List.mem_of_getElem? (i := 32) rfl))) (by decide) (t := .double) (t' := .long) (by decide) (by decide)))
    have Zs146 : n0 ≤ h132.size := by rw [W132.size]; exact Zs128
    have N147 := Fr.snoc X132 N129 ga1
    have K148 : Keep h0 h132 [a1] := K130.wr W132 (Or.inl (List.mem_of_getElem? (i := 0) rfl))
    have r132 : own_R p.tables e below F0 (T132.setTop (mkF m 50 #[.val (.ref a1), .val (.ref p2), .val (.long p3), .second, .val (.long p4), .second, .val (.long p5), .second, .val (.long p6), .second, .val (.long p7), .second, .val (.long p8), .second, .val (.long p9), .second, .val (.long p10), .second, .val (.double p11), .second, .val (.double p12), .second, .val (.double p13), .second] [])) := fun tg_ kg_ => r131 tg_ (st132 tg_ kg_)
    have r149 : own_R p.tables e below F0 (T132.setTop (mkF m 53 #[.val (.ref a1), .val (.ref p2), .val (.long p3), .second, .val (.long p4), .second, .val (.long p5), .second, .val (.long p6), .second, .val (.long p7), .second, .val (.long p8), .second, .val (.long p9), .second, .val (.long p10), .second, .val (.double p11), .second, .val (.double p12), .second, .val (.double p13), .second] [(.long p10), (.ref a1)])) := fun tg_ kg_ => by
      refine r132 tg_ ?_
      show Steps p.tables e below (T132.setTop (mkF m 50 #[.val (.ref a1), .val (.ref p2), .val (.long p3), .second, .val (.long p4), .second, .val (.long p5), .second, .val (.long p6), .second, .val (.long p7), .second, .val (.long p8), .second, .val (.long p9), .second, .val (.long p10), .second, .val (.double p11), .second, .val (.double p12), .second, .val (.double p13), .second] [])) _
      refine XS.aloadN X132.here hx rfl (hb hby d1_50) rfl rfl ?_
      show Steps p.tables e below (T132.setTop (mkF m 51 #[.val (.ref a1), .val (.ref p2), .val (.long p3), .second, .val (.long p4), .second, .val (.long p5), .second, .val (.long p6), .second, .val (.long p7), .second, .val (.long p8), .second, .val (.long p9), .second, .val (.long p10), .second, .val (.double p11), .second, .val (.double p12), .second, .val (.double p13), .second] [(.ref a1)])) _
      refine XS.lload X132.here hx rfl (hb hby d1_51) rfl ?_
      exact kg_
    obtain ⟨T150, h150, X150, e150, W150, st150⟩ := putF X132 hx hZ hown (host := "") (Or.inl (hw _ (List.mem_of_getElem? (i := 33) rfl))) Via.refl e132 F142 F133 (Or.inr ⟨(hw _ (List.mem_of_getElem? (i := 34) rfl)), rfl, hnm⟩) (hw _ (List.mem_of_getElem? (i := 4) rfl)) (ty := .long) (by decide) rfl rfl (g := (mkF m 53 #[.val (.ref a1), .val (.ref p2), .val (.long p3), .second, .val (.long p4), .second, .val (.long p5), .second, .val (.long p6), .second, .val (.long p7), .second, .val (.long p8), .second, .val (.long p9), .second, .val (.long p10), .second, .val (.double p11), .second, .val (.double p12), .second, .val (.double p13), .second] [(.long p10), (.ref a1)])) rfl rfl (hb hby d1_53)
    have F151 : Exa Z h150 a1 "com/example/invites_to_friends/invitestofriends/bench/Report" := F133.wr W150
    have F152 : Fld Z h150 a1 "com/example/invites_to_friends/invitestofriends/bench/Report" "mode" "Lcom/example/invites_to_friends/invitestofriends/bench/Mode;" (.ref p2) := F134.other W150 (Or.inr (slot_ne (Or.inr (hw _ (List.mem_of_getElem? (i := 18) rfl))) (Or.inr (hw _ (List.mem_of_getElem? (i := 34) rfl))) (by decide) (t := (.object "com/example/invites_to_friends/invitestofriends/bench/Mode")) (t' := .long) (by decide) (by decide)))
    have F153 : Fld Z h150 a1 "com/example/invites_to_friends/invitestofriends/bench/Report" "pairs" "J" (.long p3) := F135.other W150 (Or.inr (slot_ne (Or.inr (hw _ (List.mem_of_getElem? (i := 20) rfl))) (Or.inr (hw _ (List.mem_of_getElem? (i := 34) rfl))) (by decide) (t := .long) (t' := .long) (by decide) (by decide)))
    have F154 : Fld Z h150 a1 "com/example/invites_to_friends/invitestofriends/bench/Report" "calls" "J" (.long p4) := F136.other W150 (Or.inr (slot_ne (Or.inr (hw _ (List.mem_of_getElem? (i := 22) rfl))) (Or.inr (hw _ (List.mem_of_getElem? (i := 34) rfl))) (by decide) (t := .long) (t' := .long) (by decide) (by decide)))
    have F155 : Fld Z h150 a1 "com/example/invites_to_friends/invitestofriends/bench/Report" "answered2xx" "J" (.long p5) := F137.other W150 (Or.inr (slot_ne (Or.inr (hw _ (List.mem_of_getElem? (i := 24) rfl))) (Or.inr (hw _ (List.mem_of_getElem? (i := 34) rfl))) (by decide) (t := .long) (t' := .long) (by decide) (by decide)))
    have F156 : Fld Z h150 a1 "com/example/invites_to_friends/invitestofriends/bench/Report" "answeredOther" "J" (.long p6) := F138.other W150 (Or.inr (slot_ne (Or.inr (hw _ (List.mem_of_getElem? (i := 26) rfl))) (Or.inr (hw _ (List.mem_of_getElem? (i := 34) rfl))) (by decide) (t := .long) (t' := .long) (by decide) (by decide)))
    have F157 : Fld Z h150 a1 "com/example/invites_to_friends/invitestofriends/bench/Report" "failedToAnswer" "J" (.long p7) := F139.other W150 (Or.inr (slot_ne (Or.inr (hw _ (List.mem_of_getElem? (i := 28) rfl))) (Or.inr (hw _ (List.mem_of_getElem? (i := 34) rfl))) (by decide) (t := .long) (t' := .long) (by decide) (by decide)))
    have F158 : Fld Z h150 a1 "com/example/invites_to_friends/invitestofriends/bench/Report" "answeredRequested" "J" (.long p8) := F140.other W150 (Or.inr (slot_ne (Or.inr (hw _ (List.mem_of_getElem? (i := 30) rfl))) (Or.inr (hw _ (List.mem_of_getElem? (i := 34) rfl))) (by decide) (t := .long) (t' := .long) (by decide) (by decide)))
    have F159 : Fld Z h150 a1 "com/example/invites_to_friends/invitestofriends/bench/Report" "answeredFriends" "J" (.long p9) := F141.other W150 (Or.inr (slot_ne (Or.inr (hw _ (List.mem_of_getElem? (i := 32) rfl))) (Or.inr (hw _ (List.mem_of_getElem? (i := 34) rfl))) (by decide) (t := .long) (t' := .long) (by decide) (by decide)))
    have F160 : Fld Z h150 a1 "com/example/invites_to_friends/invitestofriends/bench/Report" "pairsOverlapped" "J" (.long p10) := F142.same W150
    have F161 : Fld Z h150 a1 "com/example/invites_to_friends/invitestofriends/bench/Report" "seconds" "D" (.double (0 : UInt64)) := F143.other W150 (Or.inr (slot_ne (Or.inr (hw _ (List.mem_of_getElem? (i := 36) rfl))) (Or.inr (hw _ (List.mem_of_getElem? (i := 34) rfl))) (by decide) (t := .double) (t' := .long) (by decide) (by decide)))
    have F162 : Fld Z h150 a1 "com/example/invites_to_friends/invitestofriends/bench/Report" "p50Millis" "D" (.double (0 : UInt64)) := F144.other W150 (Or.inr (slot_ne (Or.inr (hw _ (List.mem_of_getElem? (i := 38) rfl))) (Or.inr (hw _ (List.mem_of_getElem? (i := 34) rfl))) (by decide) (t := .double) (t' := .long) (by decide) (by decide)))
    have F163 : Fld Z h150 a1 "com/example/invites_to_friends/invitestofriends/bench/Report" "p99Millis" "D" (.double (0 : UInt64)) := F145.other W150 (Or.inr (slot_ne (Or.inr (hw _ (List.mem_of_getElem? (i := 40) rfl))) (Or.inr (hw _ (List.mem_of_getElem? (i := 34) rfl))) (by decide) (t := .double) (t' := .long) (by decide) (by decide)))
    have Zs164 : n0 ≤ h150.size := by rw [W150.size]; exact Zs146
    have N165 := Fr.snoc X150 N147 ga1
    have K166 : Keep h0 h150 [a1] := K148.wr W150 (Or.inl (List.mem_of_getElem? (i := 0) rfl))
    have r150 : own_R p.tables e below F0 (T150.setTop (mkF m 56 #[.val (.ref a1), .val (.ref p2), .val (.long p3), .second, .val (.long p4), .second, .val (.long p5), .second, .val (.long p6), .second, .val (.long p7), .second, .val (.long p8), .second, .val (.long p9), .second, .val (.long p10), .second, .val (.double p11), .second, .val (.double p12), .second, .val (.double p13), .second] [])) := fun tg_ kg_ => r149 tg_ (st150 tg_ kg_)
    have r167 : own_R p.tables e below F0 (T150.setTop (mkF m 59 #[.val (.ref a1), .val (.ref p2), .val (.long p3), .second, .val (.long p4), .second, .val (.long p5), .second, .val (.long p6), .second, .val (.long p7), .second, .val (.long p8), .second, .val (.long p9), .second, .val (.long p10), .second, .val (.double p11), .second, .val (.double p12), .second, .val (.double p13), .second] [(.double p11), (.ref a1)])) := fun tg_ kg_ => by
      refine r150 tg_ ?_
      show Steps p.tables e below (T150.setTop (mkF m 56 #[.val (.ref a1), .val (.ref p2), .val (.long p3), .second, .val (.long p4), .second, .val (.long p5), .second, .val (.long p6), .second, .val (.long p7), .second, .val (.long p8), .second, .val (.long p9), .second, .val (.long p10), .second, .val (.double p11), .second, .val (.double p12), .second, .val (.double p13), .second] [])) _
      refine XS.aloadN X150.here hx rfl (hb hby d1_56) rfl rfl ?_
      show Steps p.tables e below (T150.setTop (mkF m 57 #[.val (.ref a1), .val (.ref p2), .val (.long p3), .second, .val (.long p4), .second, .val (.long p5), .second, .val (.long p6), .second, .val (.long p7), .second, .val (.long p8), .second, .val (.long p9), .second, .val (.long p10), .second, .val (.double p11), .second, .val (.double p12), .second, .val (.double p13), .second] [(.ref a1)])) _
      refine XS.dload X150.here hx rfl (hb hby d1_57) rfl ?_
      exact kg_
    obtain ⟨T168, h168, X168, e168, W168, st168⟩ := putF X150 hx hZ hown (host := "") (Or.inl (hw _ (List.mem_of_getElem? (i := 35) rfl))) Via.refl e150 F161 F151 (Or.inr ⟨(hw _ (List.mem_of_getElem? (i := 36) rfl)), rfl, hnm⟩) (hw _ (List.mem_of_getElem? (i := 4) rfl)) (ty := .double) (by decide) rfl rfl (g := (mkF m 59 #[.val (.ref a1), .val (.ref p2), .val (.long p3), .second, .val (.long p4), .second, .val (.long p5), .second, .val (.long p6), .second, .val (.long p7), .second, .val (.long p8), .second, .val (.long p9), .second, .val (.long p10), .second, .val (.double p11), .second, .val (.double p12), .second, .val (.double p13), .second] [(.double p11), (.ref a1)])) rfl rfl (hb hby d1_59)
    have F169 : Exa Z h168 a1 "com/example/invites_to_friends/invitestofriends/bench/Report" := F151.wr W168
    have F170 : Fld Z h168 a1 "com/example/invites_to_friends/invitestofriends/bench/Report" "mode" "Lcom/example/invites_to_friends/invitestofriends/bench/Mode;" (.ref p2) := F152.other W168 (Or.inr (slot_ne (Or.inr (hw _ (List.mem_of_getElem? (i := 18) rfl))) (Or.inr (hw _ (List.mem_of_getElem? (i := 36) rfl))) (by decide) (t := (.object "com/example/invites_to_friends/invitestofriends/bench/Mode")) (t' := .double) (by decide) (by decide)))
    have F171 : Fld Z h168 a1 "com/example/invites_to_friends/invitestofriends/bench/Report" "pairs" "J" (.long p3) := F153.other W168 (Or.inr (slot_ne (Or.inr (hw _ (List.mem_of_getElem? (i := 20) rfl))) (Or.inr (hw _ (List.mem_of_getElem? (i := 36) rfl))) (by decide) (t := .long) (t' := .double) (by decide) (by decide)))
    have F172 : Fld Z h168 a1 "com/example/invites_to_friends/invitestofriends/bench/Report" "calls" "J" (.long p4) := F154.other W168 (Or.inr (slot_ne (Or.inr (hw _ (List.mem_of_getElem? (i := 22) rfl))) (Or.inr (hw _ (List.mem_of_getElem? (i := 36) rfl))) (by decide) (t := .long) (t' := .double) (by decide) (by decide)))
    have F173 : Fld Z h168 a1 "com/example/invites_to_friends/invitestofriends/bench/Report" "answered2xx" "J" (.long p5) := F155.other W168 (Or.inr (slot_ne (Or.inr (hw _ (List.mem_of_getElem? (i := 24) rfl))) (Or.inr (hw _ (List.mem_of_getElem? (i := 36) rfl))) (by decide) (t := .long) (t' := .double) (by decide) (by decide)))
    have F174 : Fld Z h168 a1 "com/example/invites_to_friends/invitestofriends/bench/Report" "answeredOther" "J" (.long p6) := F156.other W168 (Or.inr (slot_ne (Or.inr (hw _ (List.mem_of_getElem? (i := 26) rfl))) (Or.inr (hw _ (List.mem_of_getElem? (i := 36) rfl))) (by decide) (t := .long) (t' := .double) (by decide) (by decide)))
    have F175 : Fld Z h168 a1 "com/example/invites_to_friends/invitestofriends/bench/Report" "failedToAnswer" "J" (.long p7) := F157.other W168 (Or.inr (slot_ne (Or.inr (hw _ (List.mem_of_getElem? (i := 28) rfl))) (Or.inr (hw _ (List.mem_of_getElem? (i := 36) rfl))) (by decide) (t := .long) (t' := .double) (by decide) (by decide)))
    have F176 : Fld Z h168 a1 "com/example/invites_to_friends/invitestofriends/bench/Report" "answeredRequested" "J" (.long p8) := F158.other W168 (Or.inr (slot_ne (Or.inr (hw _ (List.mem_of_getElem? (i := 30) rfl))) (Or.inr (hw _ (List.mem_of_getElem? (i := 36) rfl))) (by decide) (t := .long) (t' := .double) (by decide) (by decide)))
    have F177 : Fld Z h168 a1 "com/example/invites_to_friends/invitestofriends/bench/Report" "answeredFriends" "J" (.long p9) := F159.other W168 (Or.inr (slot_ne (Or.inr (hw _ (List.mem_of_getElem? (i := 32) rfl))) (Or.inr (hw _ (List.mem_of_getElem? (i := 36) rfl))) (by decide) (t := .long) (t' := .double) (by decide) (by decide)))
    have F178 : Fld Z h168 a1 "com/example/invites_to_friends/invitestofriends/bench/Report" "pairsOverlapped" "J" (.long p10) := F160.other W168 (Or.inr (slot_ne (Or.inr (hw _ (List.mem_of_getElem? (i := 34) rfl))) (Or.inr (hw _ (List.mem_of_getElem? (i := 36) rfl))) (by decide) (t := .long) (t' := .double) (by decide) (by decide)))
    have F179 : Fld Z h168 a1 "com/example/invites_to_friends/invitestofriends/bench/Report" "seconds" "D" (.double p11) := F161.same W168
    have F180 : Fld Z h168 a1 "com/example/invites_to_friends/invitestofriends/bench/Report" "p50Millis" "D" (.double (0 : UInt64)) := F162.other W168 (Or.inr (slot_ne (Or.inr (hw _ (List.mem_of_getElem? (i := 38) rfl))) (Or.inr (hw _ (List.mem_of_getElem? (i := 36) rfl))) (by decide) (t := .double) (t' := .double) (by decide) (by decide)))
    have F181 : Fld Z h168 a1 "com/example/invites_to_friends/invitestofriends/bench/Report" "p99Millis" "D" (.double (0 : UInt64)) := F163.other W168 (Or.inr (slot_ne (Or.inr (hw _ (List.mem_of_getElem? (i := 40) rfl))) (Or.inr (hw _ (List.mem_of_getElem? (i := 36) rfl))) (by decide) (t := .double) (t' := .double) (by decide) (by decide)))
    have Zs182 : n0 ≤ h168.size := by rw [W168.size]; exact Zs164
    have N183 := Fr.snoc X168 N165 ga1
    have K184 : Keep h0 h168 [a1] := K166.wr W168 (Or.inl (List.mem_of_getElem? (i := 0) rfl))
    have r168 : own_R p.tables e below F0 (T168.setTop (mkF m 62 #[.val (.ref a1), .val (.ref p2), .val (.long p3), .second, .val (.long p4), .second, .val (.long p5), .second, .val (.long p6), .second, .val (.long p7), .second, .val (.long p8), .second, .val (.long p9), .second, .val (.long p10), .second, .val (.double p11), .second, .val (.double p12), .second, .val (.double p13), .second] [])) := fun tg_ kg_ => r167 tg_ (st168 tg_ kg_)
    have r185 : own_R p.tables e below F0 (T168.setTop (mkF m 65 #[.val (.ref a1), .val (.ref p2), .val (.long p3), .second, .val (.long p4), .second, .val (.long p5), .second, .val (.long p6), .second, .val (.long p7), .second, .val (.long p8), .second, .val (.long p9), .second, .val (.long p10), .second, .val (.double p11), .second, .val (.double p12), .second, .val (.double p13), .second] [(.double p12), (.ref a1)])) := fun tg_ kg_ => by
      refine r168 tg_ ?_
      show Steps p.tables e below (T168.setTop (mkF m 62 #[.val (.ref a1), .val (.ref p2), .val (.long p3), .second, .val (.long p4), .second, .val (.long p5), .second, .val (.long p6), .second, .val (.long p7), .second, .val (.long p8), .second, .val (.long p9), .second, .val (.long p10), .second, .val (.double p11), .second, .val (.double p12), .second, .val (.double p13), .second] [])) _
      refine XS.aloadN X168.here hx rfl (hb hby d1_62) rfl rfl ?_
      show Steps p.tables e below (T168.setTop (mkF m 63 #[.val (.ref a1), .val (.ref p2), .val (.long p3), .second, .val (.long p4), .second, .val (.long p5), .second, .val (.long p6), .second, .val (.long p7), .second, .val (.long p8), .second, .val (.long p9), .second, .val (.long p10), .second, .val (.double p11), .second, .val (.double p12), .second, .val (.double p13), .second] [(.ref a1)])) _
      refine XS.dload X168.here hx rfl (hb hby d1_63) rfl ?_
      exact kg_
    obtain ⟨T186, h186, X186, e186, W186, st186⟩ := putF X168 hx hZ hown (host := "") (Or.inl (hw _ (List.mem_of_getElem? (i := 37) rfl))) Via.refl e168 F180 F169 (Or.inr ⟨(hw _ (List.mem_of_getElem? (i := 38) rfl)), rfl, hnm⟩) (hw _ (List.mem_of_getElem? (i := 4) rfl)) (ty := .double) (by decide) rfl rfl (g := (mkF m 65 #[.val (.ref a1), .val (.ref p2), .val (.long p3), .second, .val (.long p4), .second, .val (.long p5), .second, .val (.long p6), .second, .val (.long p7), .second, .val (.long p8), .second, .val (.long p9), .second, .val (.long p10), .second, .val (.double p11), .second, .val (.double p12), .second, .val (.double p13), .second] [(.double p12), (.ref a1)])) rfl rfl (hb hby d1_65)
    have F187 : Exa Z h186 a1 "com/example/invites_to_friends/invitestofriends/bench/Report" := F169.wr W186
    have F188 : Fld Z h186 a1 "com/example/invites_to_friends/invitestofriends/bench/Report" "mode" "Lcom/example/invites_to_friends/invitestofriends/bench/Mode;" (.ref p2) := F170.other W186 (Or.inr (slot_ne (Or.inr (hw _ (List.mem_of_getElem? (i := 18) rfl))) (Or.inr (hw _ (List.mem_of_getElem? (i := 38) rfl))) (by decide) (t := (.object "com/example/invites_to_friends/invitestofriends/bench/Mode")) (t' := .double) (by decide) (by decide)))
    have F189 : Fld Z h186 a1 "com/example/invites_to_friends/invitestofriends/bench/Report" "pairs" "J" (.long p3) := F171.other W186 (Or.inr (slot_ne (Or.inr (hw _ (List.mem_of_getElem? (i := 20) rfl))) (Or.inr (hw _ (List.mem_of_getElem? (i := 38) rfl))) (by decide) (t := .long) (t' := .double) (by decide) (by decide)))
    have F190 : Fld Z h186 a1 "com/example/invites_to_friends/invitestofriends/bench/Report" "calls" "J" (.long p4) := F172.other W186 (Or.inr (slot_ne (Or.inr (hw _ (List.mem_of_getElem? (i := 22) rfl))) (Or.inr (hw _ (List.mem_of_getElem? (i := 38) rfl))) (by decide) (t := .long) (t' := .double) (by decide) (by decide)))
    have F191 : Fld Z h186 a1 "com/example/invites_to_friends/invitestofriends/bench/Report" "answered2xx" "J" (.long p5) := F173.other W186 (Or.inr (slot_ne (Or.inr (hw _ (List.mem_of_getElem? (i := 24) rfl))) (Or.inr (hw _ (List.mem_of_getElem? (i := 38) rfl))) (by decide) (t := .long) (t' := .double) (by decide) (by decide)))
    have F192 : Fld Z h186 a1 "com/example/invites_to_friends/invitestofriends/bench/Report" "answeredOther" "J" (.long p6) := F174.other W186 (Or.inr (slot_ne (Or.inr (hw _ (List.mem_of_getElem? (i := 26) rfl))) (Or.inr (hw _ (List.mem_of_getElem? (i := 38) rfl))) (by decide) (t := .long) (t' := .double) (by decide) (by decide)))
    have F193 : Fld Z h186 a1 "com/example/invites_to_friends/invitestofriends/bench/Report" "failedToAnswer" "J" (.long p7) := F175.other W186 (Or.inr (slot_ne (Or.inr (hw _ (List.mem_of_getElem? (i := 28) rfl))) (Or.inr (hw _ (List.mem_of_getElem? (i := 38) rfl))) (by decide) (t := .long) (t' := .double) (by decide) (by decide)))
    have F194 : Fld Z h186 a1 "com/example/invites_to_friends/invitestofriends/bench/Report" "answeredRequested" "J" (.long p8) := F176.other W186 (Or.inr (slot_ne (Or.inr (hw _ (List.mem_of_getElem? (i := 30) rfl))) (Or.inr (hw _ (List.mem_of_getElem? (i := 38) rfl))) (by decide) (t := .long) (t' := .double) (by decide) (by decide)))
    have F195 : Fld Z h186 a1 "com/example/invites_to_friends/invitestofriends/bench/Report" "answeredFriends" "J" (.long p9) := F177.other W186 (Or.inr (slot_ne (Or.inr (hw _ (List.mem_of_getElem? (i := 32) rfl))) (Or.inr (hw _ (List.mem_of_getElem? (i := 38) rfl))) (by decide) (t := .long) (t' := .double) (by decide) (by decide)))
    have F196 : Fld Z h186 a1 "com/example/invites_to_friends/invitestofriends/bench/Report" "pairsOverlapped" "J" (.long p10) := F178.other W186 (Or.inr (slot_ne (Or.inr (hw _ (List.mem_of_getElem? (i := 34) rfl))) (Or.inr (hw _ (List.mem_of_getElem? (i := 38) rfl))) (by decide) (t := .long) (t' := .double) (by decide) (by decide)))
    have F197 : Fld Z h186 a1 "com/example/invites_to_friends/invitestofriends/bench/Report" "seconds" "D" (.double p11) := F179.other W186 (Or.inr (slot_ne (Or.inr (hw _ (List.mem_of_getElem? (i := 36) rfl))) (Or.inr (hw _ (List.mem_of_getElem? (i := 38) rfl))) (by decide) (t := .double) (t' := .double) (by decide) (by decide)))
    have F198 : Fld Z h186 a1 "com/example/invites_to_friends/invitestofriends/bench/Report" "p50Millis" "D" (.double p12) := F180.same W186
    have F199 : Fld Z h186 a1 "com/example/invites_to_friends/invitestofriends/bench/Report" "p99Millis" "D" (.double (0 : UInt64)) := F181.other W186 (Or.inr (slot_ne (Or.inr (hw _ (List.mem_of_getElem? (i := 40) rfl))) (Or.inr (hw _ (List.mem_of_getElem? (i := 38) rfl))) (by decide) (t := .double) (t' := .double) (by decide) (by decide)))
    have Zs200 : n0 ≤ h186.size := by rw [W186.size]; exact Zs182
    have N201 := Fr.snoc X186 N183 ga1
    have K202 : Keep h0 h186 [a1] := K184.wr W186 (Or.inl (List.mem_of_getElem? (i := 0) rfl))
    have r186 : own_R p.tables e below F0 (T186.setTop (mkF m 68 #[.val (.ref a1), .val (.ref p2), .val (.long p3), .second, .val (.long p4), .second, .val (.long p5), .second, .val (.long p6), .second, .val (.long p7), .second, .val (.long p8), .second, .val (.long p9), .second, .val (.long p10), .second, .val (.double p11), .second, .val (.double p12), .second, .val (.double p13), .second] [])) := fun tg_ kg_ => r185 tg_ (st186 tg_ kg_)
    have r203 : own_R p.tables e below F0 (T186.setTop (mkF m 71 #[.val (.ref a1), .val (.ref p2), .val (.long p3), .second, .val (.long p4), .second, .val (.long p5), .second, .val (.long p6), .second, .val (.long p7), .second, .val (.long p8), .second, .val (.long p9), .second, .val (.long p10), .second, .val (.double p11), .second, .val (.double p12), .second, .val (.double p13), .second] [(.double p13), (.ref a1)])) := fun tg_ kg_ => by
      refine r186 tg_ ?_
      show Steps p.tables e below (T186.setTop (mkF m 68 #[.val (.ref a1), .val (.ref p2), .val (.long p3), .second, .val (.long p4), .second, .val (.long p5), .second, .val (.long p6), .second, .val (.long p7), .second, .val (.long p8), .second, .val (.long p9), .second, .val (.long p10), .second, .val (.double p11), .second, .val (.double p12), .second, .val (.double p13), .second] [])) _
      refine XS.aloadN X186.here hx rfl (hb hby d1_68) rfl rfl ?_
      show Steps p.tables e below (T186.setTop (mkF m 69 #[.val (.ref a1), .val (.ref p2), .val (.long p3), .second, .val (.long p4), .second, .val (.long p5), .second, .val (.long p6), .second, .val (.long p7), .second, .val (.long p8), .second, .val (.long p9), .second, .val (.long p10), .second, .val (.double p11), .second, .val (.double p12), .second, .val (.double p13), .second] [(.ref a1)])) _
      refine XS.dload X186.here hx rfl (hb hby d1_69) rfl ?_
      exact kg_
    obtain ⟨T204, h204, X204, e204, W204, st204⟩ := putF X186 hx hZ hown (host := "") (Or.inl (hw _ (List.mem_of_getElem? (i := 39) rfl))) Via.refl e186 F199 F187 (Or.inr ⟨(hw _ (List.mem_of_getElem? (i := 40) rfl)), rfl, hnm⟩) (hw _ (List.mem_of_getElem? (i := 4) rfl)) (ty := .double) (by decide) rfl rfl (g := (mkF m 71 #[.val (.ref a1), .val (.ref p2), .val (.long p3), .second, .val (.long p4), .second, .val (.long p5), .second, .val (.long p6), .second, .val (.long p7), .second, .val (.long p8), .second, .val (.long p9), .second, .val (.long p10), .second, .val (.double p11), .second, .val (.double p12), .second, .val (.double p13), .second] [(.double p13), (.ref a1)])) rfl rfl (hb hby d1_71)
    have F205 : Exa Z h204 a1 "com/example/invites_to_friends/invitestofriends/bench/Report" := F187.wr W204
    have F206 : Fld Z h204 a1 "com/example/invites_to_friends/invitestofriends/bench/Report" "mode" "Lcom/example/invites_to_friends/invitestofriends/bench/Mode;" (.ref p2) := F188.other W204 (Or.inr (slot_ne (Or.inr (hw _ (List.mem_of_getElem? (i := 18) rfl))) (Or.inr (hw _ (List.mem_of_getElem? (i := 40) rfl))) (by decide) (t := (.object "com/example/invites_to_friends/invitestofriends/bench/Mode")) (t' := .double) (by decide) (by decide)))
    have F207 : Fld Z h204 a1 "com/example/invites_to_friends/invitestofriends/bench/Report" "pairs" "J" (.long p3) := F189.other W204 (Or.inr (slot_ne (Or.inr (hw _ (List.mem_of_getElem? (i := 20) rfl))) (Or.inr (hw _ (List.mem_of_getElem? (i := 40) rfl))) (by decide) (t := .long) (t' := .double) (by decide) (by decide)))
    have F208 : Fld Z h204 a1 "com/example/invites_to_friends/invitestofriends/bench/Report" "calls" "J" (.long p4) := F190.other W204 (Or.inr (slot_ne (Or.inr (hw _ (List.mem_of_getElem? (i := 22) rfl))) (Or.inr (hw _ (List.mem_of_getElem? (i := 40) rfl))) (by decide) (t := .long) (t' := .double) (by decide) (by decide)))
    have F209 : Fld Z h204 a1 "com/example/invites_to_friends/invitestofriends/bench/Report" "answered2xx" "J" (.long p5) := F191.other W204 (Or.inr (slot_ne (Or.inr (hw _ (List.mem_of_getElem? (i := 24) rfl))) (Or.inr (hw _ (List.mem_of_getElem? (i := 40) rfl))) (by decide) (t := .long) (t' := .double) (by decide) (by decide)))
    have F210 : Fld Z h204 a1 "com/example/invites_to_friends/invitestofriends/bench/Report" "answeredOther" "J" (.long p6) := F192.other W204 (Or.inr (slot_ne (Or.inr (hw _ (List.mem_of_getElem? (i := 26) rfl))) (Or.inr (hw _ (List.mem_of_getElem? (i := 40) rfl))) (by decide) (t := .long) (t' := .double) (by decide) (by decide)))
    have F211 : Fld Z h204 a1 "com/example/invites_to_friends/invitestofriends/bench/Report" "failedToAnswer" "J" (.long p7) := F193.other W204 (Or.inr (slot_ne (Or.inr (hw _ (List.mem_of_getElem? (i := 28) rfl))) (Or.inr (hw _ (List.mem_of_getElem? (i := 40) rfl))) (by decide) (t := .long) (t' := .double) (by decide) (by decide)))
    have F212 : Fld Z h204 a1 "com/example/invites_to_friends/invitestofriends/bench/Report" "answeredRequested" "J" (.long p8) := F194.other W204 (Or.inr (slot_ne (Or.inr (hw _ (List.mem_of_getElem? (i := 30) rfl))) (Or.inr (hw _ (List.mem_of_getElem? (i := 40) rfl))) (by decide) (t := .long) (t' := .double) (by decide) (by decide)))
    have F213 : Fld Z h204 a1 "com/example/invites_to_friends/invitestofriends/bench/Report" "answeredFriends" "J" (.long p9) := F195.other W204 (Or.inr (slot_ne (Or.inr (hw _ (List.mem_of_getElem? (i := 32) rfl))) (Or.inr (hw _ (List.mem_of_getElem? (i := 40) rfl))) (by decide) (t := .long) (t' := .double) (by decide) (by decide)))
    have F214 : Fld Z h204 a1 "com/example/invites_to_friends/invitestofriends/bench/Report" "pairsOverlapped" "J" (.long p10) := F196.other W204 (Or.inr (slot_ne (Or.inr (hw _ (List.mem_of_getElem? (i := 34) rfl))) (Or.inr (hw _ (List.mem_of_getElem? (i := 40) rfl))) (by decide) (t := .long) (t' := .double) (by decide) (by decide)))
    have F215 : Fld Z h204 a1 "com/example/invites_to_friends/invitestofriends/bench/Report" "seconds" "D" (.double p11) := F197.other W204 (Or.inr (slot_ne (Or.inr (hw _ (List.mem_of_getElem? (i := 36) rfl))) (Or.inr (hw _ (List.mem_of_getElem? (i := 40) rfl))) (by decide) (t := .double) (t' := .double) (by decide) (by decide)))
    have F216 : Fld Z h204 a1 "com/example/invites_to_friends/invitestofriends/bench/Report" "p50Millis" "D" (.double p12) := F198.other W204 (Or.inr (slot_ne (Or.inr (hw _ (List.mem_of_getElem? (i := 38) rfl))) (Or.inr (hw _ (List.mem_of_getElem? (i := 40) rfl))) (by decide) (t := .double) (t' := .double) (by decide) (by decide)))
    have F217 : Fld Z h204 a1 "com/example/invites_to_friends/invitestofriends/bench/Report" "p99Millis" "D" (.double p13) := F199.same W204
    have Zs218 : n0 ≤ h204.size := by rw [W204.size]; exact Zs200
    have N219 := Fr.snoc X204 N201 ga1
    have K220 : Keep h0 h204 [a1] := K202.wr W204 (Or.inl (List.mem_of_getElem? (i := 0) rfl))
    have r204 : own_R p.tables e below F0 (T204.setTop (mkF m 74 #[.val (.ref a1), .val (.ref p2), .val (.long p3), .second, .val (.long p4), .second, .val (.long p5), .second, .val (.long p6), .second, .val (.long p7), .second, .val (.long p8), .second, .val (.long p9), .second, .val (.long p10), .second, .val (.double p11), .second, .val (.double p12), .second, .val (.double p13), .second] [])) := fun tg_ kg_ => r203 tg_ (st204 tg_ kg_)
    refine hG (own_fin X204 hlk (none) (fun _ => rfl) ?_ (by decide) (by decide) (fun fs hr => r204 _ (X204.returnOut hx Bd.returns (hb hby d1_74) hr)))
    rw [e204]
    refine ⟨?_, N219, K220, F205, F206, F207, F208, F209, F210, F211, F212, F213, F214, F215, F216, F217⟩
    rfl
  exact key _ _ id (fun t k => castTop (ef_1 m a1 p2 p3 p4 p5 p6 p7 p8 p9 p10 p11 p12 p13) k)
def own_all (w1 : Int64) (w2 : Int64) : Int32 := (if w1 = (0 : Int64) then (if w2 = (0 : Int64) then (1 : Int32) else (0 : Int32)) else (0 : Int32))
theorem d4_0 : decode prog_7_method_2_code 0 = .ok (.aload_n 0, 1) := by decide +kernel
theorem d4_1 : decode prog_7_method_2_code 1 = .ok (.getfield 23, 3) := by decide +kernel
theorem d4_4 : decode prog_7_method_2_code 4 = .ok (.lconst 0, 1) := by decide +kernel
theorem d4_5 : decode prog_7_method_2_code 5 = .ok (.lcmp, 1) := by decide +kernel
theorem d4_6 : decode prog_7_method_2_code 6 = .ok (.ifCond .ne 16, 3) := by decide +kernel
theorem d4_9 : decode prog_7_method_2_code 9 = .ok (.aload_n 0, 1) := by decide +kernel
theorem d4_10 : decode prog_7_method_2_code 10 = .ok (.getfield 26, 3) := by decide +kernel
theorem d4_13 : decode prog_7_method_2_code 13 = .ok (.lconst 0, 1) := by decide +kernel
theorem d4_14 : decode prog_7_method_2_code 14 = .ok (.lcmp, 1) := by decide +kernel
theorem d4_15 : decode prog_7_method_2_code 15 = .ok (.ifCond .ne 7, 3) := by decide +kernel
theorem d4_18 : decode prog_7_method_2_code 18 = .ok (.iconst 1, 1) := by decide +kernel
theorem d4_19 : decode prog_7_method_2_code 19 = .ok (.goto 4, 3) := by decide +kernel
theorem d4_22 : decode prog_7_method_2_code 22 = .ok (.iconst 0, 1) := by decide +kernel
theorem d4_23 : decode prog_7_method_2_code 23 = .ok (.ireturn, 1) := by decide +kernel
theorem ef_4 (m : MethodId) (x0 : Addr) : entryFrame m #[(.ref x0)] 1 = mkF m 0 #[.val (.ref x0)] [] := by first | (simp [entryFrame, mkF, argsToLocals, Value.category]; done) | rfl
def Q4 (Z : State) (a1 : Addr) (w1 : Int64) (w2 : Int64) (h0 : Heap) (n0 : Nat) (v : Option Value) (h : Heap) (L : List Loc) : Prop := v = some (.int (own_all w1 w2)) ∧ Fr n0 L ∧ h = h0
set_option maxRecDepth 65536 in
set_option maxHeartbeats 40000000 in
theorem rm4 (l : Launch) (Z : State) (a0 : Array Value) (hw : ∀ d ∈ tables_1, d.before a0 Z = true) (ws : List Jvm.Cond) (a1 : Addr) (w1 : Int64) (w2 : Int64) (h0 : Heap) (n0 : Nat) (Z0 : n0 ≤ h0.size) (F_w1 : Fld Z h0 a1 "com/example/invites_to_friends/invitestofriends/bench/Report" "answeredOther" "J" (.long w1)) (F_w2 : Fld Z h0 a1 "com/example/invites_to_friends/invitestofriends/bench/Report" "failedToAnswer" "J" (.long w2)) :
    MetFree l (⟨"com/example/invites_to_friends/invitestofriends/bench/Report", "allAnswered2xx", "()Z"⟩ : MethodName) (head1 (Jvm.Cond.code (⟨"com/example/invites_to_friends/invitestofriends/bench/Report", "allAnswered2xx", "()Z"⟩ : MethodName) prog_7_method_2_code 1 (some .boolean) :: ws) ({ frames := 0, cells := 0, slots := 0, locals := 0 } : Room)) (fun a U => a = #[(.ref a1)] ∧ Z.Warmed39 U.vm ∧ U.heap = h0) (fun _ _ _ _ _ => True) (fun _ U o U' => ∃ v L, o = .returned v ∧ Q4 Z a1 w1 w2 h0 n0 v U'.heap L ∧ FrameEnd U o U' L ({ frames := 0, cells := 0, slots := 0, locals := 0 } : Room).cells ({ frames := 0, cells := 0, slots := 0, locals := 0 } : Room).slots) := by
  refine MetFree.of_bodySF (plainFor_of_name pn_1) hisR ?_
  intro p e s m args below meth c s₁ Bd hml0 hP hK
  obtain ⟨rfl, hZ, hh⟩ := hP
  have hx := Bd.exec
  have hby := Bd.bytes
  have hml : c.maxLocals = 1 := hml0
  have hown : s.vm.findClass "com/example/invites_to_friends/invitestofriends/bench/Report" = some m.cls := findClass_of_methodNamed Bd.named
  have hnm := (name_of_methodNamed Bd.named Bd.method).1
  have hlk : meth.locks = false := BodyLoose.notSynchronized Bd
  have X0 : Stand p l e ({ frames := 0, cells := 0, slots := 0, locals := 0 } : Room) s m #[(.ref a1)] below meth c s₁ [] 0 0 := Stand.of_body Bd
  have e0 : s₁.heap = h0 := by rw [← hh, Bd.state]; rfl
  have N0 := Fr.nil n0
  have K0 : Keep h0 h0 [] := Keep.refl h0 _
  have key : ∀ (F0 : State) (G : Prop), (own_G p e below s F0 (Q4 Z a1 w1 w2 h0 n0) ({ frames := 0, cells := 0, slots := 0, locals := 0 } : Room).cells ({ frames := 0, cells := 0, slots := 0, locals := 0 } : Room).slots → G) → own_R p.tables e below F0 (s₁.setTop (mkF m 0 #[.val (.ref a1)] [])) → G := by
    intro F0 G hG r0
    have r221 : own_R p.tables e below F0 (s₁.setTop (mkF m 1 #[.val (.ref a1)] [(.ref a1)])) := fun tg_ kg_ => by
      refine r0 tg_ ?_
      show Steps p.tables e below (s₁.setTop (mkF m 0 #[.val (.ref a1)] [])) _
      refine XS.aloadN X0.here hx rfl (hb hby d4_0) rfl rfl ?_
      exact kg_
    obtain ⟨T222, X222, e222, st222⟩ := getF X0 hx hZ hown (host := "") (Or.inl (hw _ (List.mem_of_getElem? (i := 25) rfl))) Via.refl e0 F_w1 (g := (mkF m 1 #[.val (.ref a1)] [(.ref a1)])) rfl rfl (hb hby d4_1)
    have r222 : own_R p.tables e below F0 (T222.setTop (mkF m 4 #[.val (.ref a1)] [(.long w1)])) := fun tg_ kg_ => r221 tg_ (st222 tg_ kg_)
    have r223 : own_R p.tables e below F0 (T222.setTop (mkF m 6 #[.val (.ref a1)] [(.int (lcmpW w1 (0 : Int64)))])) := fun tg_ kg_ => by
      refine r222 tg_ ?_
      show Steps p.tables e below (T222.setTop (mkF m 4 #[.val (.ref a1)] [(.long w1)])) _
      refine XS.lconst X222.here hx rfl (hb hby d4_4) ?_
      show Steps p.tables e below (T222.setTop (mkF m 5 #[.val (.ref a1)] [(.long (0 : Int64)), (.long w1)])) _
      refine XS.lcmp X222.here hx rfl (hb hby d4_5) rfl ?_
      exact kg_
    by_cases hc224 : w1 = (0 : Int64)
    · have r225 : own_R p.tables e below F0 (T222.setTop (mkF m 10 #[.val (.ref a1)] [(.ref a1)])) := fun tg_ kg_ => by
        refine r223 tg_ ?_
        show Steps p.tables e below (T222.setTop (mkF m 6 #[.val (.ref a1)] [(.int (lcmpW w1 (0 : Int64)))])) _
        refine XS.ifNo X222.here hx rfl (hb hby d4_6) rfl (own_l_eq hc224).2 ?_
        show Steps p.tables e below (T222.setTop (mkF m 9 #[.val (.ref a1)] [])) _
        refine XS.aloadN X222.here hx rfl (hb hby d4_9) rfl rfl ?_
        exact kg_
      obtain ⟨T226, X226, e226, st226⟩ := getF X222 hx hZ hown (host := "") (Or.inl (hw _ (List.mem_of_getElem? (i := 27) rfl))) Via.refl e222 F_w2 (g := (mkF m 10 #[.val (.ref a1)] [(.ref a1)])) rfl rfl (hb hby d4_10)
      have r226 : own_R p.tables e below F0 (T226.setTop (mkF m 13 #[.val (.ref a1)] [(.long w2)])) := fun tg_ kg_ => r225 tg_ (st226 tg_ kg_)
      have r227 : own_R p.tables e below F0 (T226.setTop (mkF m 15 #[.val (.ref a1)] [(.int (lcmpW w2 (0 : Int64)))])) := fun tg_ kg_ => by
        refine r226 tg_ ?_
        show Steps p.tables e below (T226.setTop (mkF m 13 #[.val (.ref a1)] [(.long w2)])) _
        refine XS.lconst X226.here hx rfl (hb hby d4_13) ?_
        show Steps p.tables e below (T226.setTop (mkF m 14 #[.val (.ref a1)] [(.long (0 : Int64)), (.long w2)])) _
        refine XS.lcmp X226.here hx rfl (hb hby d4_14) rfl ?_
        exact kg_
      by_cases hc228 : w2 = (0 : Int64)
      · have r229 : own_R p.tables e below F0 (T226.setTop (mkF m 23 #[.val (.ref a1)] [(.int (1 : Int32))])) := fun tg_ kg_ => by
          refine r227 tg_ ?_
          show Steps p.tables e below (T226.setTop (mkF m 15 #[.val (.ref a1)] [(.int (lcmpW w2 (0 : Int64)))])) _
          refine XS.ifNo X226.here hx rfl (hb hby d4_15) rfl (own_l_eq hc228).2 ?_
          show Steps p.tables e below (T226.setTop (mkF m 18 #[.val (.ref a1)] [])) _
          refine XS.iconst X226.here hx rfl (hb hby d4_18) ?_
          show Steps p.tables e below (T226.setTop (mkF m 19 #[.val (.ref a1)] [(.int (1 : Int32))])) _
          refine XS.goto X226.here hx rfl (pc0 := 19) (pc' := 23) rfl (hb hby d4_19) (by decide) (by decide) ?_
          exact kg_
        refine hG (own_fin X226 hlk (some (.int (nar .boolean (1 : Int32)))) (own_hv Bd.returns) ?_ (by decide) (by decide) (fun fs hr => r229 _ (retN X226 hx (t := .boolean) Bd.returns (by simp) (hb hby d4_23) hr)))
        rw [e226]
        refine ⟨?_, N0, rfl⟩
        have ev : (own_all w1 w2) = (1 : Int32) := by unfold own_all; rw [if_pos hc224, if_pos hc228]
        rw [ev]
        rfl
      · have r230 : own_R p.tables e below F0 (T226.setTop (mkF m 23 #[.val (.ref a1)] [(.int (0 : Int32))])) := fun tg_ kg_ => by
          refine r227 tg_ ?_
          show Steps p.tables e below (T226.setTop (mkF m 15 #[.val (.ref a1)] [(.int (lcmpW w2 (0 : Int64)))])) _
          refine XS.ifYes X226.here hx rfl (pc0 := 15) (pc' := 22) rfl (hb hby d4_15) rfl (own_l_neq hc228).2 (by decide) (by decide) ?_
          show Steps p.tables e below (T226.setTop (mkF m 22 #[.val (.ref a1)] [])) _
          refine XS.iconst X226.here hx rfl (hb hby d4_22) ?_
          exact kg_
        refine hG (own_fin X226 hlk (some (.int (nar .boolean (0 : Int32)))) (own_hv Bd.returns) ?_ (by decide) (by decide) (fun fs hr => r230 _ (retN X226 hx (t := .boolean) Bd.returns (by simp) (hb hby d4_23) hr)))
        rw [e226]
        refine ⟨?_, N0, rfl⟩
        have ev : (own_all w1 w2) = (0 : Int32) := by unfold own_all; rw [if_pos hc224, if_neg hc228]
        rw [ev]
        rfl
    · have r231 : own_R p.tables e below F0 (T222.setTop (mkF m 23 #[.val (.ref a1)] [(.int (0 : Int32))])) := fun tg_ kg_ => by
        refine r223 tg_ ?_
        show Steps p.tables e below (T222.setTop (mkF m 6 #[.val (.ref a1)] [(.int (lcmpW w1 (0 : Int64)))])) _
        refine XS.ifYes X222.here hx rfl (pc0 := 6) (pc' := 22) rfl (hb hby d4_6) rfl (own_l_neq hc224).2 (by decide) (by decide) ?_
        show Steps p.tables e below (T222.setTop (mkF m 22 #[.val (.ref a1)] [])) _
        refine XS.iconst X222.here hx rfl (hb hby d4_22) ?_
        exact kg_
      refine hG (own_fin X222 hlk (some (.int (nar .boolean (0 : Int32)))) (own_hv Bd.returns) ?_ (by decide) (by decide) (fun fs hr => r231 _ (retN X222 hx (t := .boolean) Bd.returns (by simp) (hb hby d4_23) hr)))
      rw [e222]
      refine ⟨?_, N0, rfl⟩
      have ev : (own_all w1 w2) = (0 : Int32) := by unfold own_all; rw [if_neg hc224]
      rw [ev]
      rfl
  exact key _ _ id (fun t k => castTop (ef_4 m a1) k)
theorem own_or0 (a b : Int64) : (a ||| b) = (0 : Int64) ↔ a = (0 : Int64) ∧ b = (0 : Int64) := by
  rw [← Int64.toBitVec_inj, ← Int64.toBitVec_inj, ← Int64.toBitVec_inj, Int64.toBitVec_or]
  show a.toBitVec ||| b.toBitVec = 0#64 ↔ a.toBitVec = 0#64 ∧ b.toBitVec = 0#64
  exact BitVec.or_eq_zero_iff
theorem pn_2 : plainName "com/example/invites_to_friends/invitestofriends/bench/ReportAllAnswered2xxPinLaw" = true := by first | (simp [plainName, overriddenIn]; done) | decide +kernel
theorem pd_1 : parseMethodDescriptor "(Lcom/example/invites_to_friends/invitestofriends/bench/Mode;JJJJJJJJDDD)V" = some ⟨[(.object "com/example/invites_to_friends/invitestofriends/bench/Mode"), .long, .long, .long, .long, .long, .long, .long, .long, .double, .double, .double], none⟩ := by decide +kernel
theorem pd_2 : parseMethodDescriptor "()Z" = some ⟨[], some .boolean⟩ := by decide +kernel
theorem ef_0 (m : MethodId) (x0 : Int64) (x1 : Int64) (x2 : Int64) (x3 : Int64) (x4 : Int32) (x5 : Int32) : entryFrame m #[(.long x0), (.long x1), (.long x2), (.long x3), (.int x4), (.int x5)] maxLocals = mkF m 0 #[.val (.long x0), .second, .val (.long x1), .second, .val (.long x2), .second, .val (.long x3), .second, .val (.int x4), .val (.int x5), .unset, .unset, .unset, .unset, .unset, .unset, .unset, .unset, .unset, .unset, .unset, .unset, .unset] [] := by first | (simp [entryFrame, mkF, argsToLocals, Value.category, maxLocals]; done) | rfl
def Q0 (Z : State) (p0s : Int64) (p1s : Int64) (p2s : Int64) (p3s : Int64) (p4s : Int32) (p5s : Int32) (aO : Addr) (aX : Addr) (h0 : Heap) (n0 : Nat) (v : Option Value) (h : Heap) (L : List Loc) : Prop := v = some (.int (1 : Int32)) ∧ Fr n0 L
set_option maxRecDepth 65536 in
set_option maxHeartbeats 40000000 in
theorem rm0 (l : Launch) (Z : State) (a0 : Array Value) (hw : ∀ d ∈ tables_1, d.before a0 Z = true) (ws : List Jvm.Cond) (p0s : Int64) (p1s : Int64) (p2s : Int64) (p3s : Int64) (p4s : Int32) (p5s : Int32) (aO : Addr) (aX : Addr) (h0 : Heap) (n0 : Nat) (Z0 : n0 ≤ h0.size) (S1 : Sta Z h0 "com/example/invites_to_friends/invitestofriends/bench/Mode" "ORDERED" "Lcom/example/invites_to_friends/invitestofriends/bench/Mode;" (.ref aO)) (S2 : Sta Z h0 "com/example/invites_to_friends/invitestofriends/bench/Mode" "CROSSED" "Lcom/example/invites_to_friends/invitestofriends/bench/Mode;" (.ref aX)) :
    MetFree l x (head1 (Jvm.Cond.code x code maxLocals ret :: ws) room_1) (fun a U => a = #[(.long p0s), (.long p1s), (.long p2s), (.long p3s), (.int p4s), (.int p5s)] ∧ Z.Warmed39 U.vm ∧ U.heap = h0) (fun _ _ _ _ _ => True) (fun _ U o U' => ∃ v L, o = .returned v ∧ Q0 Z p0s p1s p2s p3s p4s p5s aO aX h0 n0 v U'.heap L ∧ FrameEnd U o U' L 16 128) := by
  refine MetFree.of_bodySF (plainFor_of_name pn_2) hisR ?_
  intro p e s m args below meth c s₁ Bd hml0 hP hK
  obtain ⟨rfl, hZ, hh⟩ := hP
  have hx := Bd.exec
  have hby := Bd.bytes
  have hml : c.maxLocals = 23 := hml0
  have hown : s.vm.findClass "com/example/invites_to_friends/invitestofriends/bench/ReportAllAnswered2xxPinLaw" = some m.cls := findClass_of_methodNamed Bd.named
  have hnm := (name_of_methodNamed Bd.named Bd.method).1
  have hlk : meth.locks = false := BodyLoose.notSynchronized Bd
  have X0 : Stand p l e room_1 s m #[(.long p0s), (.long p1s), (.long p2s), (.long p3s), (.int p4s), (.int p5s)] below meth c s₁ [] 0 0 := Stand.of_body Bd
  have e0 : s₁.heap = h0 := by rw [← hh, Bd.state]; rfl
  have N0 := Fr.nil n0
  have K0 : Keep h0 h0 [] := Keep.refl h0 _
  have key : ∀ (F0 : State) (G : Prop), (own_G p e below s F0 (Q0 Z p0s p1s p2s p3s p4s p5s aO aX h0 n0) 16 128 → G) → own_R p.tables e below F0 (s₁.setTop (mkF m 0 #[.val (.long p0s), .second, .val (.long p1s), .second, .val (.long p2s), .second, .val (.long p3s), .second, .val (.int p4s), .val (.int p5s), .unset, .unset, .unset, .unset, .unset, .unset, .unset, .unset, .unset, .unset, .unset, .unset, .unset] [])) → G := by
    intro F0 G hG r0
    have r232 : own_R p.tables e below F0 (s₁.setTop (mkF m 4 #[.val (.long p0s), .second, .val (.long p1s), .second, .val (.long p2s), .second, .val (.long p3s), .second, .val (.int p4s), .val (.int p5s), .unset, .unset, .unset, .unset, .unset, .unset, .unset, .unset, .unset, .unset, .unset, .unset, .unset] [(.int (p5s &&& (1 : Int32)))])) := fun tg_ kg_ => by
      refine r0 tg_ ?_
      show Steps p.tables e below (s₁.setTop (mkF m 0 #[.val (.long p0s), .second, .val (.long p1s), .second, .val (.long p2s), .second, .val (.long p3s), .second, .val (.int p4s), .val (.int p5s), .unset, .unset, .unset, .unset, .unset, .unset, .unset, .unset, .unset, .unset, .unset, .unset, .unset] [])) _
      refine XS.iload X0.here hx rfl (hb hby at_0) rfl ?_
      show Steps p.tables e below (s₁.setTop (mkF m 2 #[.val (.long p0s), .second, .val (.long p1s), .second, .val (.long p2s), .second, .val (.long p3s), .second, .val (.int p4s), .val (.int p5s), .unset, .unset, .unset, .unset, .unset, .unset, .unset, .unset, .unset, .unset, .unset, .unset, .unset] [(.int p5s)])) _
      refine XS.iconst X0.here hx rfl (hb hby at_2) ?_
      show Steps p.tables e below (s₁.setTop (mkF m 3 #[.val (.long p0s), .second, .val (.long p1s), .second, .val (.long p2s), .second, .val (.long p3s), .second, .val (.int p4s), .val (.int p5s), .unset, .unset, .unset, .unset, .unset, .unset, .unset, .unset, .unset, .unset, .unset, .unset, .unset] [(.int (1 : Int32)), (.int p5s)])) _
      refine XS.iand X0.here hx rfl (hb hby at_3) rfl ?_
      exact kg_
    have J233 : ∀ (ot : Int64)  (r234 : own_R p.tables e below F0 (s₁.setTop (mkF m 12 #[.val (.long p0s), .second, .val (.long p1s), .second, .val (.long p2s), .second, .val (.long p3s), .second, .val (.int p4s), .val (.int p5s), .unset, .unset, .unset, .unset, .unset, .unset, .unset, .unset, .unset, .unset, .unset, .unset, .unset] [(.long ot)]))), G := by
      intro ot r234
      have r235 : own_R p.tables e below F0 (s₁.setTop (mkF m 18 #[.val (.long p0s), .second, .val (.long p1s), .second, .val (.long p2s), .second, .val (.long p3s), .second, .val (.int p4s), .val (.int p5s), .val (.long ot), .second, .unset, .unset, .unset, .unset, .unset, .unset, .unset, .unset, .unset, .unset, .unset] [(.int (p5s &&& (2 : Int32)))])) := fun tg_ kg_ => by
        refine r234 tg_ ?_
        show Steps p.tables e below (s₁.setTop (mkF m 12 #[.val (.long p0s), .second, .val (.long p1s), .second, .val (.long p2s), .second, .val (.long p3s), .second, .val (.int p4s), .val (.int p5s), .unset, .unset, .unset, .unset, .unset, .unset, .unset, .unset, .unset, .unset, .unset, .unset, .unset] [(.long ot)])) _
        refine XS.lstore X0.here hx rfl (hb hby at_12) rfl (l' := #[.val (.long p0s), .second, .val (.long p1s), .second, .val (.long p2s), .second, .val (.long p3s), .second, .val (.int p4s), .val (.int p5s), .val (.long ot), .second, .unset, .unset, .unset, .unset, .unset, .unset, .unset, .unset, .unset, .unset, .unset]) rfl ?_
        show Steps p.tables e below (s₁.setTop (mkF m 14 #[.val (.long p0s), .second, .val (.long p1s), .second, .val (.long p2s), .second, .val (.long p3s), .second, .val (.int p4s), .val (.int p5s), .val (.long ot), .second, .unset, .unset, .unset, .unset, .unset, .unset, .unset, .unset, .unset, .unset, .unset] [])) _
        refine XS.iload X0.here hx rfl (hb hby at_14) rfl ?_
        show Steps p.tables e below (s₁.setTop (mkF m 16 #[.val (.long p0s), .second, .val (.long p1s), .second, .val (.long p2s), .second, .val (.long p3s), .second, .val (.int p4s), .val (.int p5s), .val (.long ot), .second, .unset, .unset, .unset, .unset, .unset, .unset, .unset, .unset, .unset, .unset, .unset] [(.int p5s)])) _
        refine XS.iconst X0.here hx rfl (hb hby at_16) ?_
        show Steps p.tables e below (s₁.setTop (mkF m 17 #[.val (.long p0s), .second, .val (.long p1s), .second, .val (.long p2s), .second, .val (.long p3s), .second, .val (.int p4s), .val (.int p5s), .val (.long ot), .second, .unset, .unset, .unset, .unset, .unset, .unset, .unset, .unset, .unset, .unset, .unset] [(.int (2 : Int32)), (.int p5s)])) _
        refine XS.iand X0.here hx rfl (hb hby at_17) rfl ?_
        exact kg_
      have J236 : ∀ (fa : Int64)  (r237 : own_R p.tables e below F0 (s₁.setTop (mkF m 26 #[.val (.long p0s), .second, .val (.long p1s), .second, .val (.long p2s), .second, .val (.long p3s), .second, .val (.int p4s), .val (.int p5s), .val (.long ot), .second, .unset, .unset, .unset, .unset, .unset, .unset, .unset, .unset, .unset, .unset, .unset] [(.long fa)]))), G := by
        intro fa r237
        have r238 : own_R p.tables e below F0 (s₁.setTop (mkF m 32 #[.val (.long p0s), .second, .val (.long p1s), .second, .val (.long p2s), .second, .val (.long p3s), .second, .val (.int p4s), .val (.int p5s), .val (.long ot), .second, .val (.long fa), .second, .unset, .unset, .unset, .unset, .unset, .unset, .unset, .unset, .unset] [(.int (p5s &&& (4 : Int32)))])) := fun tg_ kg_ => by
          refine r237 tg_ ?_
          show Steps p.tables e below (s₁.setTop (mkF m 26 #[.val (.long p0s), .second, .val (.long p1s), .second, .val (.long p2s), .second, .val (.long p3s), .second, .val (.int p4s), .val (.int p5s), .val (.long ot), .second, .unset, .unset, .unset, .unset, .unset, .unset, .unset, .unset, .unset, .unset, .unset] [(.long fa)])) _
          refine XS.lstore X0.here hx rfl (hb hby at_26) rfl (l' := #[.val (.long p0s), .second, .val (.long p1s), .second, .val (.long p2s), .second, .val (.long p3s), .second, .val (.int p4s), .val (.int p5s), .val (.long ot), .second, .val (.long fa), .second, .unset, .unset, .unset, .unset, .unset, .unset, .unset, .unset, .unset]) rfl ?_
          show Steps p.tables e below (s₁.setTop (mkF m 28 #[.val (.long p0s), .second, .val (.long p1s), .second, .val (.long p2s), .second, .val (.long p3s), .second, .val (.int p4s), .val (.int p5s), .val (.long ot), .second, .val (.long fa), .second, .unset, .unset, .unset, .unset, .unset, .unset, .unset, .unset, .unset] [])) _
          refine XS.iload X0.here hx rfl (hb hby at_28) rfl ?_
          show Steps p.tables e below (s₁.setTop (mkF m 30 #[.val (.long p0s), .second, .val (.long p1s), .second, .val (.long p2s), .second, .val (.long p3s), .second, .val (.int p4s), .val (.int p5s), .val (.long ot), .second, .val (.long fa), .second, .unset, .unset, .unset, .unset, .unset, .unset, .unset, .unset, .unset] [(.int p5s)])) _
          refine XS.iconst X0.here hx rfl (hb hby at_30) ?_
          show Steps p.tables e below (s₁.setTop (mkF m 31 #[.val (.long p0s), .second, .val (.long p1s), .second, .val (.long p2s), .second, .val (.long p3s), .second, .val (.int p4s), .val (.int p5s), .val (.long ot), .second, .val (.long fa), .second, .unset, .unset, .unset, .unset, .unset, .unset, .unset, .unset, .unset] [(.int (4 : Int32)), (.int p5s)])) _
          refine XS.iand X0.here hx rfl (hb hby at_31) rfl ?_
          exact kg_
        have J239 : ∀ (md : Addr) (T240 : State) (lo247 : List Loc) (h242 : Heap) (X241 : Stand p l e room_1 s m #[(.long p0s), (.long p1s), (.long p2s), (.long p3s), (.int p4s), (.int p5s)] below meth c T240 lo247 0 0) (e243 : T240.heap = h242) (N244 : Fr n0 lo247) (Zs245 : n0 ≤ h242.size) (K246 : Keep h0 h242 []) (r248 : own_R p.tables e below F0 (T240.setTop (mkF m 44 #[.val (.long p0s), .second, .val (.long p1s), .second, .val (.long p2s), .second, .val (.long p3s), .second, .val (.int p4s), .val (.int p5s), .val (.long ot), .second, .val (.long fa), .second, .unset, .unset, .unset, .unset, .unset, .unset, .unset, .unset, .unset] [(.ref md)]))), G := by
          intro md T240 lo247 h242 X241 e243 N244 Zs245 K246 r248
          have r249 : own_R p.tables e below F0 (T240.setTop (mkF m 79 #[.val (.long p0s), .second, .val (.long p1s), .second, .val (.long p2s), .second, .val (.long p3s), .second, .val (.int p4s), .val (.int p5s), .val (.long ot), .second, .val (.long fa), .second, .val (.ref md), .val (.double (FP.i2d (p4s &&& (255 : Int32)))), .second, .val (.double (FP.i2d ((p4s >>> ((8 : Int32) &&& 31)) &&& (255 : Int32)))), .second, .val (.double (FP.i2d ((p4s >>> ((16 : Int32) &&& 31)) &&& (255 : Int32)))), .second, .unset, .unset] [])) := fun tg_ kg_ => by
            refine r248 tg_ ?_
            show Steps p.tables e below (T240.setTop (mkF m 44 #[.val (.long p0s), .second, .val (.long p1s), .second, .val (.long p2s), .second, .val (.long p3s), .second, .val (.int p4s), .val (.int p5s), .val (.long ot), .second, .val (.long fa), .second, .unset, .unset, .unset, .unset, .unset, .unset, .unset, .unset, .unset] [(.ref md)])) _
            refine XS.astore X241.here hx rfl (hb hby at_44) rfl rfl (l' := #[.val (.long p0s), .second, .val (.long p1s), .second, .val (.long p2s), .second, .val (.long p3s), .second, .val (.int p4s), .val (.int p5s), .val (.long ot), .second, .val (.long fa), .second, .val (.ref md), .unset, .unset, .unset, .unset, .unset, .unset, .unset, .unset]) rfl ?_
            show Steps p.tables e below (T240.setTop (mkF m 46 #[.val (.long p0s), .second, .val (.long p1s), .second, .val (.long p2s), .second, .val (.long p3s), .second, .val (.int p4s), .val (.int p5s), .val (.long ot), .second, .val (.long fa), .second, .val (.ref md), .unset, .unset, .unset, .unset, .unset, .unset, .unset, .unset] [])) _
            refine XS.iload X241.here hx rfl (hb hby at_46) rfl ?_
            show Steps p.tables e below (T240.setTop (mkF m 48 #[.val (.long p0s), .second, .val (.long p1s), .second, .val (.long p2s), .second, .val (.long p3s), .second, .val (.int p4s), .val (.int p5s), .val (.long ot), .second, .val (.long fa), .second, .val (.ref md), .unset, .unset, .unset, .unset, .unset, .unset, .unset, .unset] [(.int p4s)])) _
            refine XS.sipush X241.here hx rfl (hb hby at_48) ?_
            show Steps p.tables e below (T240.setTop (mkF m 51 #[.val (.long p0s), .second, .val (.long p1s), .second, .val (.long p2s), .second, .val (.long p3s), .second, .val (.int p4s), .val (.int p5s), .val (.long ot), .second, .val (.long fa), .second, .val (.ref md), .unset, .unset, .unset, .unset, .unset, .unset, .unset, .unset] [(.int (255 : Int32)), (.int p4s)])) _
            refine XS.iand X241.here hx rfl (hb hby at_51) rfl ?_
            show Steps p.tables e below (T240.setTop (mkF m 52 #[.val (.long p0s), .second, .val (.long p1s), .second, .val (.long p2s), .second, .val (.long p3s), .second, .val (.int p4s), .val (.int p5s), .val (.long ot), .second, .val (.long fa), .second, .val (.ref md), .unset, .unset, .unset, .unset, .unset, .unset, .unset, .unset] [(.int (p4s &&& (255 : Int32)))])) _
            refine XS.i2dS X241.here hx rfl (hb hby at_52) rfl rfl ?_
            show Steps p.tables e below (T240.setTop (mkF m 53 #[.val (.long p0s), .second, .val (.long p1s), .second, .val (.long p2s), .second, .val (.long p3s), .second, .val (.int p4s), .val (.int p5s), .val (.long ot), .second, .val (.long fa), .second, .val (.ref md), .unset, .unset, .unset, .unset, .unset, .unset, .unset, .unset] [(.double (FP.i2d (p4s &&& (255 : Int32))))])) _
            refine XS.dstore X241.here hx rfl (hb hby at_53) rfl (l' := #[.val (.long p0s), .second, .val (.long p1s), .second, .val (.long p2s), .second, .val (.long p3s), .second, .val (.int p4s), .val (.int p5s), .val (.long ot), .second, .val (.long fa), .second, .val (.ref md), .val (.double (FP.i2d (p4s &&& (255 : Int32)))), .second, .unset, .unset, .unset, .unset, .unset, .unset]) rfl ?_
            show Steps p.tables e below (T240.setTop (mkF m 55 #[.val (.long p0s), .second, .val (.long p1s), .second, .val (.long p2s), .second, .val (.long p3s), .second, .val (.int p4s), .val (.int p5s), .val (.long ot), .second, .val (.long fa), .second, .val (.ref md), .val (.double (FP.i2d (p4s &&& (255 : Int32)))), .second, .unset, .unset, .unset, .unset, .unset, .unset] [])) _
            refine XS.iload X241.here hx rfl (hb hby at_55) rfl ?_
            show Steps p.tables e below (T240.setTop (mkF m 57 #[.val (.long p0s), .second, .val (.long p1s), .second, .val (.long p2s), .second, .val (.long p3s), .second, .val (.int p4s), .val (.int p5s), .val (.long ot), .second, .val (.long fa), .second, .val (.ref md), .val (.double (FP.i2d (p4s &&& (255 : Int32)))), .second, .unset, .unset, .unset, .unset, .unset, .unset] [(.int p4s)])) _
            refine XS.bipush X241.here hx rfl (hb hby at_57) ?_
            show Steps p.tables e below (T240.setTop (mkF m 59 #[.val (.long p0s), .second, .val (.long p1s), .second, .val (.long p2s), .second, .val (.long p3s), .second, .val (.int p4s), .val (.int p5s), .val (.long ot), .second, .val (.long fa), .second, .val (.ref md), .val (.double (FP.i2d (p4s &&& (255 : Int32)))), .second, .unset, .unset, .unset, .unset, .unset, .unset] [(.int (8 : Int32)), (.int p4s)])) _
            refine XS.ishr X241.here hx rfl (hb hby at_59) rfl ?_
            show Steps p.tables e below (T240.setTop (mkF m 60 #[.val (.long p0s), .second, .val (.long p1s), .second, .val (.long p2s), .second, .val (.long p3s), .second, .val (.int p4s), .val (.int p5s), .val (.long ot), .second, .val (.long fa), .second, .val (.ref md), .val (.double (FP.i2d (p4s &&& (255 : Int32)))), .second, .unset, .unset, .unset, .unset, .unset, .unset] [(.int (p4s >>> ((8 : Int32) &&& 31)))])) _
            refine XS.sipush X241.here hx rfl (hb hby at_60) ?_
            show Steps p.tables e below (T240.setTop (mkF m 63 #[.val (.long p0s), .second, .val (.long p1s), .second, .val (.long p2s), .second, .val (.long p3s), .second, .val (.int p4s), .val (.int p5s), .val (.long ot), .second, .val (.long fa), .second, .val (.ref md), .val (.double (FP.i2d (p4s &&& (255 : Int32)))), .second, .unset, .unset, .unset, .unset, .unset, .unset] [(.int (255 : Int32)), (.int (p4s >>> ((8 : Int32) &&& 31)))])) _
            refine XS.iand X241.here hx rfl (hb hby at_63) rfl ?_
            show Steps p.tables e below (T240.setTop (mkF m 64 #[.val (.long p0s), .second, .val (.long p1s), .second, .val (.long p2s), .second, .val (.long p3s), .second, .val (.int p4s), .val (.int p5s), .val (.long ot), .second, .val (.long fa), .second, .val (.ref md), .val (.double (FP.i2d (p4s &&& (255 : Int32)))), .second, .unset, .unset, .unset, .unset, .unset, .unset] [(.int ((p4s >>> ((8 : Int32) &&& 31)) &&& (255 : Int32)))])) _
            refine XS.i2dS X241.here hx rfl (hb hby at_64) rfl rfl ?_
            show Steps p.tables e below (T240.setTop (mkF m 65 #[.val (.long p0s), .second, .val (.long p1s), .second, .val (.long p2s), .second, .val (.long p3s), .second, .val (.int p4s), .val (.int p5s), .val (.long ot), .second, .val (.long fa), .second, .val (.ref md), .val (.double (FP.i2d (p4s &&& (255 : Int32)))), .second, .unset, .unset, .unset, .unset, .unset, .unset] [(.double (FP.i2d ((p4s >>> ((8 : Int32) &&& 31)) &&& (255 : Int32))))])) _
            refine XS.dstore X241.here hx rfl (hb hby at_65) rfl (l' := #[.val (.long p0s), .second, .val (.long p1s), .second, .val (.long p2s), .second, .val (.long p3s), .second, .val (.int p4s), .val (.int p5s), .val (.long ot), .second, .val (.long fa), .second, .val (.ref md), .val (.double (FP.i2d (p4s &&& (255 : Int32)))), .second, .val (.double (FP.i2d ((p4s >>> ((8 : Int32) &&& 31)) &&& (255 : Int32)))), .second, .unset, .unset, .unset, .unset]) rfl ?_
            show Steps p.tables e below (T240.setTop (mkF m 67 #[.val (.long p0s), .second, .val (.long p1s), .second, .val (.long p2s), .second, .val (.long p3s), .second, .val (.int p4s), .val (.int p5s), .val (.long ot), .second, .val (.long fa), .second, .val (.ref md), .val (.double (FP.i2d (p4s &&& (255 : Int32)))), .second, .val (.double (FP.i2d ((p4s >>> ((8 : Int32) &&& 31)) &&& (255 : Int32)))), .second, .unset, .unset, .unset, .unset] [])) _
            refine XS.iload X241.here hx rfl (hb hby at_67) rfl ?_
            show Steps p.tables e below (T240.setTop (mkF m 69 #[.val (.long p0s), .second, .val (.long p1s), .second, .val (.long p2s), .second, .val (.long p3s), .second, .val (.int p4s), .val (.int p5s), .val (.long ot), .second, .val (.long fa), .second, .val (.ref md), .val (.double (FP.i2d (p4s &&& (255 : Int32)))), .second, .val (.double (FP.i2d ((p4s >>> ((8 : Int32) &&& 31)) &&& (255 : Int32)))), .second, .unset, .unset, .unset, .unset] [(.int p4s)])) _
            refine XS.bipush X241.here hx rfl (hb hby at_69) ?_
            show Steps p.tables e below (T240.setTop (mkF m 71 #[.val (.long p0s), .second, .val (.long p1s), .second, .val (.long p2s), .second, .val (.long p3s), .second, .val (.int p4s), .val (.int p5s), .val (.long ot), .second, .val (.long fa), .second, .val (.ref md), .val (.double (FP.i2d (p4s &&& (255 : Int32)))), .second, .val (.double (FP.i2d ((p4s >>> ((8 : Int32) &&& 31)) &&& (255 : Int32)))), .second, .unset, .unset, .unset, .unset] [(.int (16 : Int32)), (.int p4s)])) _
            refine XS.ishr X241.here hx rfl (hb hby at_71) rfl ?_
            show Steps p.tables e below (T240.setTop (mkF m 72 #[.val (.long p0s), .second, .val (.long p1s), .second, .val (.long p2s), .second, .val (.long p3s), .second, .val (.int p4s), .val (.int p5s), .val (.long ot), .second, .val (.long fa), .second, .val (.ref md), .val (.double (FP.i2d (p4s &&& (255 : Int32)))), .second, .val (.double (FP.i2d ((p4s >>> ((8 : Int32) &&& 31)) &&& (255 : Int32)))), .second, .unset, .unset, .unset, .unset] [(.int (p4s >>> ((16 : Int32) &&& 31)))])) _
            refine XS.sipush X241.here hx rfl (hb hby at_72) ?_
            show Steps p.tables e below (T240.setTop (mkF m 75 #[.val (.long p0s), .second, .val (.long p1s), .second, .val (.long p2s), .second, .val (.long p3s), .second, .val (.int p4s), .val (.int p5s), .val (.long ot), .second, .val (.long fa), .second, .val (.ref md), .val (.double (FP.i2d (p4s &&& (255 : Int32)))), .second, .val (.double (FP.i2d ((p4s >>> ((8 : Int32) &&& 31)) &&& (255 : Int32)))), .second, .unset, .unset, .unset, .unset] [(.int (255 : Int32)), (.int (p4s >>> ((16 : Int32) &&& 31)))])) _
            refine XS.iand X241.here hx rfl (hb hby at_75) rfl ?_
            show Steps p.tables e below (T240.setTop (mkF m 76 #[.val (.long p0s), .second, .val (.long p1s), .second, .val (.long p2s), .second, .val (.long p3s), .second, .val (.int p4s), .val (.int p5s), .val (.long ot), .second, .val (.long fa), .second, .val (.ref md), .val (.double (FP.i2d (p4s &&& (255 : Int32)))), .second, .val (.double (FP.i2d ((p4s >>> ((8 : Int32) &&& 31)) &&& (255 : Int32)))), .second, .unset, .unset, .unset, .unset] [(.int ((p4s >>> ((16 : Int32) &&& 31)) &&& (255 : Int32)))])) _
            refine XS.i2dS X241.here hx rfl (hb hby at_76) rfl rfl ?_
            show Steps p.tables e below (T240.setTop (mkF m 77 #[.val (.long p0s), .second, .val (.long p1s), .second, .val (.long p2s), .second, .val (.long p3s), .second, .val (.int p4s), .val (.int p5s), .val (.long ot), .second, .val (.long fa), .second, .val (.ref md), .val (.double (FP.i2d (p4s &&& (255 : Int32)))), .second, .val (.double (FP.i2d ((p4s >>> ((8 : Int32) &&& 31)) &&& (255 : Int32)))), .second, .unset, .unset, .unset, .unset] [(.double (FP.i2d ((p4s >>> ((16 : Int32) &&& 31)) &&& (255 : Int32))))])) _
            refine XS.dstore X241.here hx rfl (hb hby at_77) rfl (l' := #[.val (.long p0s), .second, .val (.long p1s), .second, .val (.long p2s), .second, .val (.long p3s), .second, .val (.int p4s), .val (.int p5s), .val (.long ot), .second, .val (.long fa), .second, .val (.ref md), .val (.double (FP.i2d (p4s &&& (255 : Int32)))), .second, .val (.double (FP.i2d ((p4s >>> ((8 : Int32) &&& 31)) &&& (255 : Int32)))), .second, .val (.double (FP.i2d ((p4s >>> ((16 : Int32) &&& 31)) &&& (255 : Int32)))), .second, .unset, .unset]) rfl ?_
            exact kg_
          obtain ⟨T250, h250, X250, e250, E250, A250, D250, -, st250⟩ := newO X241 hx hZ hown (hw _ (List.mem_of_getElem? (i := 3) rfl)) (hw _ (List.mem_of_getElem? (i := 4) rfl)) (hw _ (List.mem_of_getElem? (i := 5) rfl)) e243 (g := (mkF m 79 #[.val (.long p0s), .second, .val (.long p1s), .second, .val (.long p2s), .second, .val (.long p3s), .second, .val (.int p4s), .val (.int p5s), .val (.long ot), .second, .val (.long fa), .second, .val (.ref md), .val (.double (FP.i2d (p4s &&& (255 : Int32)))), .second, .val (.double (FP.i2d ((p4s >>> ((8 : Int32) &&& 31)) &&& (255 : Int32)))), .second, .val (.double (FP.i2d ((p4s >>> ((16 : Int32) &&& 31)) &&& (255 : Int32)))), .second, .unset, .unset] [])) rfl (hb hby at_79) (by decide) (by decide)
          obtain ⟨b250, g250⟩ : ∃ z, z = h242.size := ⟨_, rfl⟩
          rw [← g250] at A250 D250 st250
          have ge250 : n0 ≤ b250 := Nat.le_trans Zs245 (Nat.le_of_eq g250.symm)
          have old250 : h0.size ≤ b250 := Nat.le_trans K246.1 (Nat.le_of_eq g250.symm)
          have K250 : Keep h0 h250 [] := K246.ext E250
          have Zs251 : n0 ≤ h250.size := Nat.le_trans Zs245 E250.1
          have F252 : Fld Z h250 b250 "com/example/invites_to_friends/invitestofriends/bench/Report" "mode" "Lcom/example/invites_to_friends/invitestofriends/bench/Mode;" .null := D250 (Or.inr (hw _ (List.mem_of_getElem? (i := 18) rfl))) (ty := (.object "com/example/invites_to_friends/invitestofriends/bench/Mode")) (by decide)
          have F253 : Fld Z h250 b250 "com/example/invites_to_friends/invitestofriends/bench/Report" "pairs" "J" (.long (0 : Int64)) := D250 (Or.inr (hw _ (List.mem_of_getElem? (i := 20) rfl))) (ty := .long) (by decide)
          have F254 : Fld Z h250 b250 "com/example/invites_to_friends/invitestofriends/bench/Report" "calls" "J" (.long (0 : Int64)) := D250 (Or.inr (hw _ (List.mem_of_getElem? (i := 22) rfl))) (ty := .long) (by decide)
          have F255 : Fld Z h250 b250 "com/example/invites_to_friends/invitestofriends/bench/Report" "answered2xx" "J" (.long (0 : Int64)) := D250 (Or.inr (hw _ (List.mem_of_getElem? (i := 24) rfl))) (ty := .long) (by decide)
          have F256 : Fld Z h250 b250 "com/example/invites_to_friends/invitestofriends/bench/Report" "answeredOther" "J" (.long (0 : Int64)) := D250 (Or.inr (hw _ (List.mem_of_getElem? (i := 26) rfl))) (ty := .long) (by decide)
          have F257 : Fld Z h250 b250 "com/example/invites_to_friends/invitestofriends/bench/Report" "failedToAnswer" "J" (.long (0 : Int64)) := D250 (Or.inr (hw _ (List.mem_of_getElem? (i := 28) rfl))) (ty := .long) (by decide)
          have F258 : Fld Z h250 b250 "com/example/invites_to_friends/invitestofriends/bench/Report" "answeredRequested" "J" (.long (0 : Int64)) := D250 (Or.inr (hw _ (List.mem_of_getElem? (i := 30) rfl))) (ty := .long) (by decide)
          have F259 : Fld Z h250 b250 "com/example/invites_to_friends/invitestofriends/bench/Report" "answeredFriends" "J" (.long (0 : Int64)) := D250 (Or.inr (hw _ (List.mem_of_getElem? (i := 32) rfl))) (ty := .long) (by decide)
          have F260 : Fld Z h250 b250 "com/example/invites_to_friends/invitestofriends/bench/Report" "pairsOverlapped" "J" (.long (0 : Int64)) := D250 (Or.inr (hw _ (List.mem_of_getElem? (i := 34) rfl))) (ty := .long) (by decide)
          have F261 : Fld Z h250 b250 "com/example/invites_to_friends/invitestofriends/bench/Report" "seconds" "D" (.double (0 : UInt64)) := D250 (Or.inr (hw _ (List.mem_of_getElem? (i := 36) rfl))) (ty := .double) (by decide)
          have F262 : Fld Z h250 b250 "com/example/invites_to_friends/invitestofriends/bench/Report" "p50Millis" "D" (.double (0 : UInt64)) := D250 (Or.inr (hw _ (List.mem_of_getElem? (i := 38) rfl))) (ty := .double) (by decide)
          have F263 : Fld Z h250 b250 "com/example/invites_to_friends/invitestofriends/bench/Report" "p99Millis" "D" (.double (0 : UInt64)) := D250 (Or.inr (hw _ (List.mem_of_getElem? (i := 40) rfl))) (ty := .double) (by decide)
          have r250 : own_R p.tables e below F0 (T250.setTop (mkF m 82 #[.val (.long p0s), .second, .val (.long p1s), .second, .val (.long p2s), .second, .val (.long p3s), .second, .val (.int p4s), .val (.int p5s), .val (.long ot), .second, .val (.long fa), .second, .val (.ref md), .val (.double (FP.i2d (p4s &&& (255 : Int32)))), .second, .val (.double (FP.i2d ((p4s >>> ((8 : Int32) &&& 31)) &&& (255 : Int32)))), .second, .val (.double (FP.i2d ((p4s >>> ((16 : Int32) &&& 31)) &&& (255 : Int32)))), .second, .unset, .unset] [(.ref b250)])) := fun tg_ kg_ => r249 tg_ (st250 tg_ kg_)
          have r264 : own_R p.tables e below F0 (T250.setTop (mkF m 116 #[.val (.long p0s), .second, .val (.long p1s), .second, .val (.long p2s), .second, .val (.long p3s), .second, .val (.int p4s), .val (.int p5s), .val (.long ot), .second, .val (.long fa), .second, .val (.ref md), .val (.double (FP.i2d (p4s &&& (255 : Int32)))), .second, .val (.double (FP.i2d ((p4s >>> ((8 : Int32) &&& 31)) &&& (255 : Int32)))), .second, .val (.double (FP.i2d ((p4s >>> ((16 : Int32) &&& 31)) &&& (255 : Int32)))), .second, .unset, .unset] [(.double (FP.i2d ((p4s >>> ((16 : Int32) &&& 31)) &&& (255 : Int32)))), (.double (FP.i2d ((p4s >>> ((8 : Int32) &&& 31)) &&& (255 : Int32)))), (.double (FP.i2d (p4s &&& (255 : Int32)))), (.long (p3s + (p4s.toInt64))), (.long (-p2s)), (.long (p4s.toInt64)), (.long fa), (.long ot), (.long (p2s ^^^ p3s)), (.long p3s), (.long p2s), (.ref md), (.ref b250), (.ref b250)])) := fun tg_ kg_ => by
            refine r250 tg_ ?_
            show Steps p.tables e below (T250.setTop (mkF m 82 #[.val (.long p0s), .second, .val (.long p1s), .second, .val (.long p2s), .second, .val (.long p3s), .second, .val (.int p4s), .val (.int p5s), .val (.long ot), .second, .val (.long fa), .second, .val (.ref md), .val (.double (FP.i2d (p4s &&& (255 : Int32)))), .second, .val (.double (FP.i2d ((p4s >>> ((8 : Int32) &&& 31)) &&& (255 : Int32)))), .second, .val (.double (FP.i2d ((p4s >>> ((16 : Int32) &&& 31)) &&& (255 : Int32)))), .second, .unset, .unset] [(.ref b250)])) _
            refine XS.dup X250.here hx rfl (hb hby at_82) rfl rfl ?_
            show Steps p.tables e below (T250.setTop (mkF m 83 #[.val (.long p0s), .second, .val (.long p1s), .second, .val (.long p2s), .second, .val (.long p3s), .second, .val (.int p4s), .val (.int p5s), .val (.long ot), .second, .val (.long fa), .second, .val (.ref md), .val (.double (FP.i2d (p4s &&& (255 : Int32)))), .second, .val (.double (FP.i2d ((p4s >>> ((8 : Int32) &&& 31)) &&& (255 : Int32)))), .second, .val (.double (FP.i2d ((p4s >>> ((16 : Int32) &&& 31)) &&& (255 : Int32)))), .second, .unset, .unset] [(.ref b250), (.ref b250)])) _
            refine XS.aload X250.here hx rfl (hb hby at_83) rfl rfl ?_
            show Steps p.tables e below (T250.setTop (mkF m 85 #[.val (.long p0s), .second, .val (.long p1s), .second, .val (.long p2s), .second, .val (.long p3s), .second, .val (.int p4s), .val (.int p5s), .val (.long ot), .second, .val (.long fa), .second, .val (.ref md), .val (.double (FP.i2d (p4s &&& (255 : Int32)))), .second, .val (.double (FP.i2d ((p4s >>> ((8 : Int32) &&& 31)) &&& (255 : Int32)))), .second, .val (.double (FP.i2d ((p4s >>> ((16 : Int32) &&& 31)) &&& (255 : Int32)))), .second, .unset, .unset] [(.ref md), (.ref b250), (.ref b250)])) _
            refine XS.lload X250.here hx rfl (hb hby at_85) rfl ?_
            show Steps p.tables e below (T250.setTop (mkF m 87 #[.val (.long p0s), .second, .val (.long p1s), .second, .val (.long p2s), .second, .val (.long p3s), .second, .val (.int p4s), .val (.int p5s), .val (.long ot), .second, .val (.long fa), .second, .val (.ref md), .val (.double (FP.i2d (p4s &&& (255 : Int32)))), .second, .val (.double (FP.i2d ((p4s >>> ((8 : Int32) &&& 31)) &&& (255 : Int32)))), .second, .val (.double (FP.i2d ((p4s >>> ((16 : Int32) &&& 31)) &&& (255 : Int32)))), .second, .unset, .unset] [(.long p2s), (.ref md), (.ref b250), (.ref b250)])) _
            refine XS.lload X250.here hx rfl (hb hby at_87) rfl ?_
            show Steps p.tables e below (T250.setTop (mkF m 89 #[.val (.long p0s), .second, .val (.long p1s), .second, .val (.long p2s), .second, .val (.long p3s), .second, .val (.int p4s), .val (.int p5s), .val (.long ot), .second, .val (.long fa), .second, .val (.ref md), .val (.double (FP.i2d (p4s &&& (255 : Int32)))), .second, .val (.double (FP.i2d ((p4s >>> ((8 : Int32) &&& 31)) &&& (255 : Int32)))), .second, .val (.double (FP.i2d ((p4s >>> ((16 : Int32) &&& 31)) &&& (255 : Int32)))), .second, .unset, .unset] [(.long p3s), (.long p2s), (.ref md), (.ref b250), (.ref b250)])) _
            refine XS.lload X250.here hx rfl (hb hby at_89) rfl ?_
            show Steps p.tables e below (T250.setTop (mkF m 91 #[.val (.long p0s), .second, .val (.long p1s), .second, .val (.long p2s), .second, .val (.long p3s), .second, .val (.int p4s), .val (.int p5s), .val (.long ot), .second, .val (.long fa), .second, .val (.ref md), .val (.double (FP.i2d (p4s &&& (255 : Int32)))), .second, .val (.double (FP.i2d ((p4s >>> ((8 : Int32) &&& 31)) &&& (255 : Int32)))), .second, .val (.double (FP.i2d ((p4s >>> ((16 : Int32) &&& 31)) &&& (255 : Int32)))), .second, .unset, .unset] [(.long p2s), (.long p3s), (.long p2s), (.ref md), (.ref b250), (.ref b250)])) _
            refine XS.lload X250.here hx rfl (hb hby at_91) rfl ?_
            show Steps p.tables e below (T250.setTop (mkF m 93 #[.val (.long p0s), .second, .val (.long p1s), .second, .val (.long p2s), .second, .val (.long p3s), .second, .val (.int p4s), .val (.int p5s), .val (.long ot), .second, .val (.long fa), .second, .val (.ref md), .val (.double (FP.i2d (p4s &&& (255 : Int32)))), .second, .val (.double (FP.i2d ((p4s >>> ((8 : Int32) &&& 31)) &&& (255 : Int32)))), .second, .val (.double (FP.i2d ((p4s >>> ((16 : Int32) &&& 31)) &&& (255 : Int32)))), .second, .unset, .unset] [(.long p3s), (.long p2s), (.long p3s), (.long p2s), (.ref md), (.ref b250), (.ref b250)])) _
            refine XS.lxor X250.here hx rfl (hb hby at_93) rfl ?_
            show Steps p.tables e below (T250.setTop (mkF m 94 #[.val (.long p0s), .second, .val (.long p1s), .second, .val (.long p2s), .second, .val (.long p3s), .second, .val (.int p4s), .val (.int p5s), .val (.long ot), .second, .val (.long fa), .second, .val (.ref md), .val (.double (FP.i2d (p4s &&& (255 : Int32)))), .second, .val (.double (FP.i2d ((p4s >>> ((8 : Int32) &&& 31)) &&& (255 : Int32)))), .second, .val (.double (FP.i2d ((p4s >>> ((16 : Int32) &&& 31)) &&& (255 : Int32)))), .second, .unset, .unset] [(.long (p2s ^^^ p3s)), (.long p3s), (.long p2s), (.ref md), (.ref b250), (.ref b250)])) _
            refine XS.lload X250.here hx rfl (hb hby at_94) rfl ?_
            show Steps p.tables e below (T250.setTop (mkF m 96 #[.val (.long p0s), .second, .val (.long p1s), .second, .val (.long p2s), .second, .val (.long p3s), .second, .val (.int p4s), .val (.int p5s), .val (.long ot), .second, .val (.long fa), .second, .val (.ref md), .val (.double (FP.i2d (p4s &&& (255 : Int32)))), .second, .val (.double (FP.i2d ((p4s >>> ((8 : Int32) &&& 31)) &&& (255 : Int32)))), .second, .val (.double (FP.i2d ((p4s >>> ((16 : Int32) &&& 31)) &&& (255 : Int32)))), .second, .unset, .unset] [(.long ot), (.long (p2s ^^^ p3s)), (.long p3s), (.long p2s), (.ref md), (.ref b250), (.ref b250)])) _
            refine XS.lload X250.here hx rfl (hb hby at_96) rfl ?_
            show Steps p.tables e below (T250.setTop (mkF m 98 #[.val (.long p0s), .second, .val (.long p1s), .second, .val (.long p2s), .second, .val (.long p3s), .second, .val (.int p4s), .val (.int p5s), .val (.long ot), .second, .val (.long fa), .second, .val (.ref md), .val (.double (FP.i2d (p4s &&& (255 : Int32)))), .second, .val (.double (FP.i2d ((p4s >>> ((8 : Int32) &&& 31)) &&& (255 : Int32)))), .second, .val (.double (FP.i2d ((p4s >>> ((16 : Int32) &&& 31)) &&& (255 : Int32)))), .second, .unset, .unset] [(.long fa), (.long ot), (.long (p2s ^^^ p3s)), (.long p3s), (.long p2s), (.ref md), (.ref b250), (.ref b250)])) _
            refine XS.iload X250.here hx rfl (hb hby at_98) rfl ?_
            show Steps p.tables e below (T250.setTop (mkF m 100 #[.val (.long p0s), .second, .val (.long p1s), .second, .val (.long p2s), .second, .val (.long p3s), .second, .val (.int p4s), .val (.int p5s), .val (.long ot), .second, .val (.long fa), .second, .val (.ref md), .val (.double (FP.i2d (p4s &&& (255 : Int32)))), .second, .val (.double (FP.i2d ((p4s >>> ((8 : Int32) &&& 31)) &&& (255 : Int32)))), .second, .val (.double (FP.i2d ((p4s >>> ((16 : Int32) &&& 31)) &&& (255 : Int32)))), .second, .unset, .unset] [(.int p4s), (.long fa), (.long ot), (.long (p2s ^^^ p3s)), (.long p3s), (.long p2s), (.ref md), (.ref b250), (.ref b250)])) _
            refine XS.i2l X250.here hx rfl (hb hby at_100) rfl ?_
            show Steps p.tables e below (T250.setTop (mkF m 101 #[.val (.long p0s), .second, .val (.long p1s), .second, .val (.long p2s), .second, .val (.long p3s), .second, .val (.int p4s), .val (.int p5s), .val (.long ot), .second, .val (.long fa), .second, .val (.ref md), .val (.double (FP.i2d (p4s &&& (255 : Int32)))), .second, .val (.double (FP.i2d ((p4s >>> ((8 : Int32) &&& 31)) &&& (255 : Int32)))), .second, .val (.double (FP.i2d ((p4s >>> ((16 : Int32) &&& 31)) &&& (255 : Int32)))), .second, .unset, .unset] [(.long (p4s.toInt64)), (.long fa), (.long ot), (.long (p2s ^^^ p3s)), (.long p3s), (.long p2s), (.ref md), (.ref b250), (.ref b250)])) _
            refine XS.lload X250.here hx rfl (hb hby at_101) rfl ?_
            show Steps p.tables e below (T250.setTop (mkF m 103 #[.val (.long p0s), .second, .val (.long p1s), .second, .val (.long p2s), .second, .val (.long p3s), .second, .val (.int p4s), .val (.int p5s), .val (.long ot), .second, .val (.long fa), .second, .val (.ref md), .val (.double (FP.i2d (p4s &&& (255 : Int32)))), .second, .val (.double (FP.i2d ((p4s >>> ((8 : Int32) &&& 31)) &&& (255 : Int32)))), .second, .val (.double (FP.i2d ((p4s >>> ((16 : Int32) &&& 31)) &&& (255 : Int32)))), .second, .unset, .unset] [(.long p2s), (.long (p4s.toInt64)), (.long fa), (.long ot), (.long (p2s ^^^ p3s)), (.long p3s), (.long p2s), (.ref md), (.ref b250), (.ref b250)])) _
            refine XS.lneg X250.here hx rfl (hb hby at_103) rfl ?_
            show Steps p.tables e below (T250.setTop (mkF m 104 #[.val (.long p0s), .second, .val (.long p1s), .second, .val (.long p2s), .second, .val (.long p3s), .second, .val (.int p4s), .val (.int p5s), .val (.long ot), .second, .val (.long fa), .second, .val (.ref md), .val (.double (FP.i2d (p4s &&& (255 : Int32)))), .second, .val (.double (FP.i2d ((p4s >>> ((8 : Int32) &&& 31)) &&& (255 : Int32)))), .second, .val (.double (FP.i2d ((p4s >>> ((16 : Int32) &&& 31)) &&& (255 : Int32)))), .second, .unset, .unset] [(.long (-p2s)), (.long (p4s.toInt64)), (.long fa), (.long ot), (.long (p2s ^^^ p3s)), (.long p3s), (.long p2s), (.ref md), (.ref b250), (.ref b250)])) _
            refine XS.lload X250.here hx rfl (hb hby at_104) rfl ?_
            show Steps p.tables e below (T250.setTop (mkF m 106 #[.val (.long p0s), .second, .val (.long p1s), .second, .val (.long p2s), .second, .val (.long p3s), .second, .val (.int p4s), .val (.int p5s), .val (.long ot), .second, .val (.long fa), .second, .val (.ref md), .val (.double (FP.i2d (p4s &&& (255 : Int32)))), .second, .val (.double (FP.i2d ((p4s >>> ((8 : Int32) &&& 31)) &&& (255 : Int32)))), .second, .val (.double (FP.i2d ((p4s >>> ((16 : Int32) &&& 31)) &&& (255 : Int32)))), .second, .unset, .unset] [(.long p3s), (.long (-p2s)), (.long (p4s.toInt64)), (.long fa), (.long ot), (.long (p2s ^^^ p3s)), (.long p3s), (.long p2s), (.ref md), (.ref b250), (.ref b250)])) _
            refine XS.iload X250.here hx rfl (hb hby at_106) rfl ?_
            show Steps p.tables e below (T250.setTop (mkF m 108 #[.val (.long p0s), .second, .val (.long p1s), .second, .val (.long p2s), .second, .val (.long p3s), .second, .val (.int p4s), .val (.int p5s), .val (.long ot), .second, .val (.long fa), .second, .val (.ref md), .val (.double (FP.i2d (p4s &&& (255 : Int32)))), .second, .val (.double (FP.i2d ((p4s >>> ((8 : Int32) &&& 31)) &&& (255 : Int32)))), .second, .val (.double (FP.i2d ((p4s >>> ((16 : Int32) &&& 31)) &&& (255 : Int32)))), .second, .unset, .unset] [(.int p4s), (.long p3s), (.long (-p2s)), (.long (p4s.toInt64)), (.long fa), (.long ot), (.long (p2s ^^^ p3s)), (.long p3s), (.long p2s), (.ref md), (.ref b250), (.ref b250)])) _
            refine XS.i2l X250.here hx rfl (hb hby at_108) rfl ?_
            show Steps p.tables e below (T250.setTop (mkF m 109 #[.val (.long p0s), .second, .val (.long p1s), .second, .val (.long p2s), .second, .val (.long p3s), .second, .val (.int p4s), .val (.int p5s), .val (.long ot), .second, .val (.long fa), .second, .val (.ref md), .val (.double (FP.i2d (p4s &&& (255 : Int32)))), .second, .val (.double (FP.i2d ((p4s >>> ((8 : Int32) &&& 31)) &&& (255 : Int32)))), .second, .val (.double (FP.i2d ((p4s >>> ((16 : Int32) &&& 31)) &&& (255 : Int32)))), .second, .unset, .unset] [(.long (p4s.toInt64)), (.long p3s), (.long (-p2s)), (.long (p4s.toInt64)), (.long fa), (.long ot), (.long (p2s ^^^ p3s)), (.long p3s), (.long p2s), (.ref md), (.ref b250), (.ref b250)])) _
            refine XS.ladd X250.here hx rfl (hb hby at_109) rfl ?_
            show Steps p.tables e below (T250.setTop (mkF m 110 #[.val (.long p0s), .second, .val (.long p1s), .second, .val (.long p2s), .second, .val (.long p3s), .second, .val (.int p4s), .val (.int p5s), .val (.long ot), .second, .val (.long fa), .second, .val (.ref md), .val (.double (FP.i2d (p4s &&& (255 : Int32)))), .second, .val (.double (FP.i2d ((p4s >>> ((8 : Int32) &&& 31)) &&& (255 : Int32)))), .second, .val (.double (FP.i2d ((p4s >>> ((16 : Int32) &&& 31)) &&& (255 : Int32)))), .second, .unset, .unset] [(.long (p3s + (p4s.toInt64))), (.long (-p2s)), (.long (p4s.toInt64)), (.long fa), (.long ot), (.long (p2s ^^^ p3s)), (.long p3s), (.long p2s), (.ref md), (.ref b250), (.ref b250)])) _
            refine XS.dload X250.here hx rfl (hb hby at_110) rfl ?_
            show Steps p.tables e below (T250.setTop (mkF m 112 #[.val (.long p0s), .second, .val (.long p1s), .second, .val (.long p2s), .second, .val (.long p3s), .second, .val (.int p4s), .val (.int p5s), .val (.long ot), .second, .val (.long fa), .second, .val (.ref md), .val (.double (FP.i2d (p4s &&& (255 : Int32)))), .second, .val (.double (FP.i2d ((p4s >>> ((8 : Int32) &&& 31)) &&& (255 : Int32)))), .second, .val (.double (FP.i2d ((p4s >>> ((16 : Int32) &&& 31)) &&& (255 : Int32)))), .second, .unset, .unset] [(.double (FP.i2d (p4s &&& (255 : Int32)))), (.long (p3s + (p4s.toInt64))), (.long (-p2s)), (.long (p4s.toInt64)), (.long fa), (.long ot), (.long (p2s ^^^ p3s)), (.long p3s), (.long p2s), (.ref md), (.ref b250), (.ref b250)])) _
            refine XS.dload X250.here hx rfl (hb hby at_112) rfl ?_
            show Steps p.tables e below (T250.setTop (mkF m 114 #[.val (.long p0s), .second, .val (.long p1s), .second, .val (.long p2s), .second, .val (.long p3s), .second, .val (.int p4s), .val (.int p5s), .val (.long ot), .second, .val (.long fa), .second, .val (.ref md), .val (.double (FP.i2d (p4s &&& (255 : Int32)))), .second, .val (.double (FP.i2d ((p4s >>> ((8 : Int32) &&& 31)) &&& (255 : Int32)))), .second, .val (.double (FP.i2d ((p4s >>> ((16 : Int32) &&& 31)) &&& (255 : Int32)))), .second, .unset, .unset] [(.double (FP.i2d ((p4s >>> ((8 : Int32) &&& 31)) &&& (255 : Int32)))), (.double (FP.i2d (p4s &&& (255 : Int32)))), (.long (p3s + (p4s.toInt64))), (.long (-p2s)), (.long (p4s.toInt64)), (.long fa), (.long ot), (.long (p2s ^^^ p3s)), (.long p3s), (.long p2s), (.ref md), (.ref b250), (.ref b250)])) _
            refine XS.dload X250.here hx rfl (hb hby at_114) rfl ?_
            exact kg_
          obtain ⟨_, _, ⟨T265, L265, k265, n265⟩, -, X265, ⟨Lc265, hQ265, l265, y265, z265⟩, st265⟩ := X250.specialBack hx (y := (⟨"com/example/invites_to_friends/invitestofriends/bench/Report", "<init>", "(Lcom/example/invites_to_friends/invitestofriends/bench/Mode;JJJJJJJJDDD)V"⟩ : MethodName)) rfl hown (mvT hZ (hw _ (List.mem_of_getElem? (i := 6) rfl))) (mvT hZ (hw _ (List.mem_of_getElem? (i := 7) rfl))) (mvT hZ (hw _ (List.mem_of_getElem? (i := 8) rfl))) (by decide) (backOf (W := 1) (rm1 l Z a0 hw [] b250 md p2s p3s (p2s ^^^ p3s) ot fa (p4s.toInt64) (-p2s) (p3s + (p4s.toInt64)) (FP.i2d (p4s &&& (255 : Int32))) (FP.i2d ((p4s >>> ((8 : Int32) &&& 31)) &&& (255 : Int32))) (FP.i2d ((p4s >>> ((16 : Int32) &&& 31)) &&& (255 : Int32))) h250 n0 Zs251 A250 F252 F253 F254 F255 F256 F257 F258 F259 F260 F261 F262 F263 ge250) hZ (hw _ (List.mem_of_getElem? (i := 8) rfl)) (hw _ (List.mem_of_getElem? (i := 5) rfl)) (by decide) (by decide)) (g := (mkF m 116 #[.val (.long p0s), .second, .val (.long p1s), .second, .val (.long p2s), .second, .val (.long p3s), .second, .val (.int p4s), .val (.int p5s), .val (.long ot), .second, .val (.long fa), .second, .val (.ref md), .val (.double (FP.i2d (p4s &&& (255 : Int32)))), .second, .val (.double (FP.i2d ((p4s >>> ((8 : Int32) &&& 31)) &&& (255 : Int32)))), .second, .val (.double (FP.i2d ((p4s >>> ((16 : Int32) &&& 31)) &&& (255 : Int32)))), .second, .unset, .unset] [(.double (FP.i2d ((p4s >>> ((16 : Int32) &&& 31)) &&& (255 : Int32)))), (.double (FP.i2d ((p4s >>> ((8 : Int32) &&& 31)) &&& (255 : Int32)))), (.double (FP.i2d (p4s &&& (255 : Int32)))), (.long (p3s + (p4s.toInt64))), (.long (-p2s)), (.long (p4s.toInt64)), (.long fa), (.long ot), (.long (p2s ^^^ p3s)), (.long p3s), (.long p2s), (.ref md), (.ref b250), (.ref b250)])) rfl (by rw [hml]; rfl) (Steps.refl _) (a := b250) (argsL := [(.ref md), (.long p2s), (.long p3s), (.long (p2s ^^^ p3s)), (.long ot), (.long fa), (.long (p4s.toInt64)), (.long (-p2s)), (.long (p3s + (p4s.toInt64))), (.double (FP.i2d (p4s &&& (255 : Int32)))), (.double (FP.i2d ((p4s >>> ((8 : Int32) &&& 31)) &&& (255 : Int32)))), (.double (FP.i2d ((p4s >>> ((16 : Int32) &&& 31)) &&& (255 : Int32))))]) (rest := [(.ref b250)]) (lenOf pd_1 rfl) rfl (by show 2 * 0 + _ ≤ _; exact Nat.le_of_eq rfl) (hb hby at_116) (fun _ _ => ⟨rfl, e250, (by decide : 1 + 0 ≤ _), (by decide : 12 + 0 ≤ _)⟩)
          dsimp only [Pt.U, Pt.locs, Pt.cells, Pt.slots] at X265 l265 y265 z265 st265 hQ265
          subst l265 y265 z265
          obtain ⟨rfl, N265q, I265_0, I265_1, I265_2, I265_3, I265_4, I265_5, I265_6, I265_7, I265_8, I265_9, I265_10, I265_11, I265_12, I265_13⟩ := hQ265
          have N265 := Fr.app N244 N265q
          obtain ⟨h265, e265⟩ : ∃ z, T265.heap = z := ⟨_, rfl⟩
          rw [e265] at I265_0 I265_1 I265_2 I265_3 I265_4 I265_5 I265_6 I265_7 I265_8 I265_9 I265_10 I265_11 I265_12 I265_13
          have K266 : Keep h0 h265 [] := K250.trans I265_0 (allS (Or.inr old250) all0)
          have Zs267 : n0 ≤ h265.size := Nat.le_trans Zs251 I265_0.1
          have r265 : own_R p.tables e below F0 (T265.setTop (mkF m 119 #[.val (.long p0s), .second, .val (.long p1s), .second, .val (.long p2s), .second, .val (.long p3s), .second, .val (.int p4s), .val (.int p5s), .val (.long ot), .second, .val (.long fa), .second, .val (.ref md), .val (.double (FP.i2d (p4s &&& (255 : Int32)))), .second, .val (.double (FP.i2d ((p4s >>> ((8 : Int32) &&& 31)) &&& (255 : Int32)))), .second, .val (.double (FP.i2d ((p4s >>> ((16 : Int32) &&& 31)) &&& (255 : Int32)))), .second, .unset, .unset] [(.ref b250)])) := fun tg_ kg_ => r264 tg_ (st265.trans kg_)
          have r268 : own_R p.tables e below F0 (T265.setTop (mkF m 128 #[.val (.long p0s), .second, .val (.long p1s), .second, .val (.long p2s), .second, .val (.long p3s), .second, .val (.int p4s), .val (.int p5s), .val (.long ot), .second, .val (.long fa), .second, .val (.ref md), .val (.double (FP.i2d (p4s &&& (255 : Int32)))), .second, .val (.double (FP.i2d ((p4s >>> ((8 : Int32) &&& 31)) &&& (255 : Int32)))), .second, .val (.double (FP.i2d ((p4s >>> ((16 : Int32) &&& 31)) &&& (255 : Int32)))), .second, .val (.ref b250), .unset] [(.int (lcmpW (ot ||| fa) (0 : Int64)))])) := fun tg_ kg_ => by
            refine r265 tg_ ?_
            show Steps p.tables e below (T265.setTop (mkF m 119 #[.val (.long p0s), .second, .val (.long p1s), .second, .val (.long p2s), .second, .val (.long p3s), .second, .val (.int p4s), .val (.int p5s), .val (.long ot), .second, .val (.long fa), .second, .val (.ref md), .val (.double (FP.i2d (p4s &&& (255 : Int32)))), .second, .val (.double (FP.i2d ((p4s >>> ((8 : Int32) &&& 31)) &&& (255 : Int32)))), .second, .val (.double (FP.i2d ((p4s >>> ((16 : Int32) &&& 31)) &&& (255 : Int32)))), .second, .unset, .unset] [(.ref b250)])) _
            refine XS.astore X265.here hx rfl (hb hby at_119) rfl rfl (l' := #[.val (.long p0s), .second, .val (.long p1s), .second, .val (.long p2s), .second, .val (.long p3s), .second, .val (.int p4s), .val (.int p5s), .val (.long ot), .second, .val (.long fa), .second, .val (.ref md), .val (.double (FP.i2d (p4s &&& (255 : Int32)))), .second, .val (.double (FP.i2d ((p4s >>> ((8 : Int32) &&& 31)) &&& (255 : Int32)))), .second, .val (.double (FP.i2d ((p4s >>> ((16 : Int32) &&& 31)) &&& (255 : Int32)))), .second, .val (.ref b250), .unset]) rfl ?_
            show Steps p.tables e below (T265.setTop (mkF m 121 #[.val (.long p0s), .second, .val (.long p1s), .second, .val (.long p2s), .second, .val (.long p3s), .second, .val (.int p4s), .val (.int p5s), .val (.long ot), .second, .val (.long fa), .second, .val (.ref md), .val (.double (FP.i2d (p4s &&& (255 : Int32)))), .second, .val (.double (FP.i2d ((p4s >>> ((8 : Int32) &&& 31)) &&& (255 : Int32)))), .second, .val (.double (FP.i2d ((p4s >>> ((16 : Int32) &&& 31)) &&& (255 : Int32)))), .second, .val (.ref b250), .unset] [])) _
            refine XS.lload X265.here hx rfl (hb hby at_121) rfl ?_
            show Steps p.tables e below (T265.setTop (mkF m 123 #[.val (.long p0s), .second, .val (.long p1s), .second, .val (.long p2s), .second, .val (.long p3s), .second, .val (.int p4s), .val (.int p5s), .val (.long ot), .second, .val (.long fa), .second, .val (.ref md), .val (.double (FP.i2d (p4s &&& (255 : Int32)))), .second, .val (.double (FP.i2d ((p4s >>> ((8 : Int32) &&& 31)) &&& (255 : Int32)))), .second, .val (.double (FP.i2d ((p4s >>> ((16 : Int32) &&& 31)) &&& (255 : Int32)))), .second, .val (.ref b250), .unset] [(.long ot)])) _
            refine XS.lload X265.here hx rfl (hb hby at_123) rfl ?_
            show Steps p.tables e below (T265.setTop (mkF m 125 #[.val (.long p0s), .second, .val (.long p1s), .second, .val (.long p2s), .second, .val (.long p3s), .second, .val (.int p4s), .val (.int p5s), .val (.long ot), .second, .val (.long fa), .second, .val (.ref md), .val (.double (FP.i2d (p4s &&& (255 : Int32)))), .second, .val (.double (FP.i2d ((p4s >>> ((8 : Int32) &&& 31)) &&& (255 : Int32)))), .second, .val (.double (FP.i2d ((p4s >>> ((16 : Int32) &&& 31)) &&& (255 : Int32)))), .second, .val (.ref b250), .unset] [(.long fa), (.long ot)])) _
            refine XS.lor X265.here hx rfl (hb hby at_125) rfl ?_
            show Steps p.tables e below (T265.setTop (mkF m 126 #[.val (.long p0s), .second, .val (.long p1s), .second, .val (.long p2s), .second, .val (.long p3s), .second, .val (.int p4s), .val (.int p5s), .val (.long ot), .second, .val (.long fa), .second, .val (.ref md), .val (.double (FP.i2d (p4s &&& (255 : Int32)))), .second, .val (.double (FP.i2d ((p4s >>> ((8 : Int32) &&& 31)) &&& (255 : Int32)))), .second, .val (.double (FP.i2d ((p4s >>> ((16 : Int32) &&& 31)) &&& (255 : Int32)))), .second, .val (.ref b250), .unset] [(.long (ot ||| fa))])) _
            refine XS.lconst X265.here hx rfl (hb hby at_126) ?_
            show Steps p.tables e below (T265.setTop (mkF m 127 #[.val (.long p0s), .second, .val (.long p1s), .second, .val (.long p2s), .second, .val (.long p3s), .second, .val (.int p4s), .val (.int p5s), .val (.long ot), .second, .val (.long fa), .second, .val (.ref md), .val (.double (FP.i2d (p4s &&& (255 : Int32)))), .second, .val (.double (FP.i2d ((p4s >>> ((8 : Int32) &&& 31)) &&& (255 : Int32)))), .second, .val (.double (FP.i2d ((p4s >>> ((16 : Int32) &&& 31)) &&& (255 : Int32)))), .second, .val (.ref b250), .unset] [(.long (0 : Int64)), (.long (ot ||| fa))])) _
            refine XS.lcmp X265.here hx rfl (hb hby at_127) rfl ?_
            exact kg_
          by_cases hc269 : (ot ||| fa) = (0 : Int64)
          · have r270 : own_R p.tables e below F0 (T265.setTop (mkF m 140 #[.val (.long p0s), .second, .val (.long p1s), .second, .val (.long p2s), .second, .val (.long p3s), .second, .val (.int p4s), .val (.int p5s), .val (.long ot), .second, .val (.long fa), .second, .val (.ref md), .val (.double (FP.i2d (p4s &&& (255 : Int32)))), .second, .val (.double (FP.i2d ((p4s >>> ((8 : Int32) &&& 31)) &&& (255 : Int32)))), .second, .val (.double (FP.i2d ((p4s >>> ((16 : Int32) &&& 31)) &&& (255 : Int32)))), .second, .val (.ref b250), .val (.int (1 : Int32))] [(.ref b250)])) := fun tg_ kg_ => by
              refine r268 tg_ ?_
              show Steps p.tables e below (T265.setTop (mkF m 128 #[.val (.long p0s), .second, .val (.long p1s), .second, .val (.long p2s), .second, .val (.long p3s), .second, .val (.int p4s), .val (.int p5s), .val (.long ot), .second, .val (.long fa), .second, .val (.ref md), .val (.double (FP.i2d (p4s &&& (255 : Int32)))), .second, .val (.double (FP.i2d ((p4s >>> ((8 : Int32) &&& 31)) &&& (255 : Int32)))), .second, .val (.double (FP.i2d ((p4s >>> ((16 : Int32) &&& 31)) &&& (255 : Int32)))), .second, .val (.ref b250), .unset] [(.int (lcmpW (ot ||| fa) (0 : Int64)))])) _
              refine XS.ifNo X265.here hx rfl (hb hby at_128) rfl (own_l_eq hc269).2 ?_
              show Steps p.tables e below (T265.setTop (mkF m 131 #[.val (.long p0s), .second, .val (.long p1s), .second, .val (.long p2s), .second, .val (.long p3s), .second, .val (.int p4s), .val (.int p5s), .val (.long ot), .second, .val (.long fa), .second, .val (.ref md), .val (.double (FP.i2d (p4s &&& (255 : Int32)))), .second, .val (.double (FP.i2d ((p4s >>> ((8 : Int32) &&& 31)) &&& (255 : Int32)))), .second, .val (.double (FP.i2d ((p4s >>> ((16 : Int32) &&& 31)) &&& (255 : Int32)))), .second, .val (.ref b250), .unset] [])) _
              refine XS.iconst X265.here hx rfl (hb hby at_131) ?_
              show Steps p.tables e below (T265.setTop (mkF m 132 #[.val (.long p0s), .second, .val (.long p1s), .second, .val (.long p2s), .second, .val (.long p3s), .second, .val (.int p4s), .val (.int p5s), .val (.long ot), .second, .val (.long fa), .second, .val (.ref md), .val (.double (FP.i2d (p4s &&& (255 : Int32)))), .second, .val (.double (FP.i2d ((p4s >>> ((8 : Int32) &&& 31)) &&& (255 : Int32)))), .second, .val (.double (FP.i2d ((p4s >>> ((16 : Int32) &&& 31)) &&& (255 : Int32)))), .second, .val (.ref b250), .unset] [(.int (1 : Int32))])) _
              refine XS.goto X265.here hx rfl (pc0 := 132) (pc' := 136) rfl (hb hby at_132) (by decide) (by decide) ?_
              show Steps p.tables e below (T265.setTop (mkF m 136 #[.val (.long p0s), .second, .val (.long p1s), .second, .val (.long p2s), .second, .val (.long p3s), .second, .val (.int p4s), .val (.int p5s), .val (.long ot), .second, .val (.long fa), .second, .val (.ref md), .val (.double (FP.i2d (p4s &&& (255 : Int32)))), .second, .val (.double (FP.i2d ((p4s >>> ((8 : Int32) &&& 31)) &&& (255 : Int32)))), .second, .val (.double (FP.i2d ((p4s >>> ((16 : Int32) &&& 31)) &&& (255 : Int32)))), .second, .val (.ref b250), .unset] [(.int (1 : Int32))])) _
              refine XS.istore X265.here hx rfl (hb hby at_136) rfl (l' := #[.val (.long p0s), .second, .val (.long p1s), .second, .val (.long p2s), .second, .val (.long p3s), .second, .val (.int p4s), .val (.int p5s), .val (.long ot), .second, .val (.long fa), .second, .val (.ref md), .val (.double (FP.i2d (p4s &&& (255 : Int32)))), .second, .val (.double (FP.i2d ((p4s >>> ((8 : Int32) &&& 31)) &&& (255 : Int32)))), .second, .val (.double (FP.i2d ((p4s >>> ((16 : Int32) &&& 31)) &&& (255 : Int32)))), .second, .val (.ref b250), .val (.int (1 : Int32))]) rfl ?_
              show Steps p.tables e below (T265.setTop (mkF m 138 #[.val (.long p0s), .second, .val (.long p1s), .second, .val (.long p2s), .second, .val (.long p3s), .second, .val (.int p4s), .val (.int p5s), .val (.long ot), .second, .val (.long fa), .second, .val (.ref md), .val (.double (FP.i2d (p4s &&& (255 : Int32)))), .second, .val (.double (FP.i2d ((p4s >>> ((8 : Int32) &&& 31)) &&& (255 : Int32)))), .second, .val (.double (FP.i2d ((p4s >>> ((16 : Int32) &&& 31)) &&& (255 : Int32)))), .second, .val (.ref b250), .val (.int (1 : Int32))] [])) _
              refine XS.aload X265.here hx rfl (hb hby at_138) rfl rfl ?_
              exact kg_
            obtain ⟨cq271, kq271, q271a, q271b, q271c⟩ := isOf hZ e265 I265_1
            obtain ⟨_, _, ⟨T271, L271, k271, n271⟩, -, X271, ⟨Lc271, hQ271, l271, y271, z271⟩, st271⟩ := X265.virtualBack hx (y := (⟨"com/example/invites_to_friends/invitestofriends/bench/Report", "allAnswered2xx", "()Z"⟩ : MethodName)) (z := (⟨"com/example/invites_to_friends/invitestofriends/bench/Report", "allAnswered2xx", "()Z"⟩ : MethodName)) hown (mvT hZ (hw _ (List.mem_of_getElem? (i := 41) rfl))) (mvT hZ (hw _ (List.mem_of_getElem? (i := 42) rfl))) (notFace_of_selects (args := #[]) (mvT hZ (hw _ (List.mem_of_getElem? (i := 44) rfl)))) (mvT hZ (hw _ (List.mem_of_getElem? (i := 44) rfl))) (mvT hZ (hw _ (List.mem_of_getElem? (i := 43) rfl))) (by decide) (backOf (W := 0) (rm4 l Z a0 hw [] b250 (ot) (fa) h265 n0 Zs267 I265_6 I265_7) hZ (hw _ (List.mem_of_getElem? (i := 45) rfl)) (hw _ (List.mem_of_getElem? (i := 5) rfl)) (by decide) (by decide)) q271a q271c (g := (mkF m 140 #[.val (.long p0s), .second, .val (.long p1s), .second, .val (.long p2s), .second, .val (.long p3s), .second, .val (.int p4s), .val (.int p5s), .val (.long ot), .second, .val (.long fa), .second, .val (.ref md), .val (.double (FP.i2d (p4s &&& (255 : Int32)))), .second, .val (.double (FP.i2d ((p4s >>> ((8 : Int32) &&& 31)) &&& (255 : Int32)))), .second, .val (.double (FP.i2d ((p4s >>> ((16 : Int32) &&& 31)) &&& (255 : Int32)))), .second, .val (.ref b250), .val (.int (1 : Int32))] [(.ref b250)])) rfl (by rw [hml]; rfl) (Steps.refl _) (argsL := []) (rest := []) (lenOf pd_2 rfl) rfl (by show 2 * 0 + _ ≤ _; exact Nat.le_of_eq rfl) (hb hby at_140) (fun _ _ => ⟨rfl, e265, (by decide : 1 + 0 ≤ _), (by decide : 12 + 0 ≤ _)⟩)
            dsimp only [Pt.U, Pt.locs, Pt.cells, Pt.slots] at X271 l271 y271 z271 st271 hQ271
            subst l271 y271 z271
            obtain ⟨rfl, N271q, I271_0⟩ := hQ271
            have N271 := Fr.app N265 N271q
            have r271 : own_R p.tables e below F0 (T271.setTop (mkF m 143 #[.val (.long p0s), .second, .val (.long p1s), .second, .val (.long p2s), .second, .val (.long p3s), .second, .val (.int p4s), .val (.int p5s), .val (.long ot), .second, .val (.long fa), .second, .val (.ref md), .val (.double (FP.i2d (p4s &&& (255 : Int32)))), .second, .val (.double (FP.i2d ((p4s >>> ((8 : Int32) &&& 31)) &&& (255 : Int32)))), .second, .val (.double (FP.i2d ((p4s >>> ((16 : Int32) &&& 31)) &&& (255 : Int32)))), .second, .val (.ref b250), .val (.int (1 : Int32))] [(.int (own_all ot fa))])) := fun tg_ kg_ => r270 tg_ (st271.trans kg_)
            by_cases hc272 : ot = (0 : Int64)
            · by_cases hc273 : fa = (0 : Int64)
              · have ev274 : (own_all ot fa) = (1 : Int32) := by unfold own_all; rw [if_pos hc272, if_pos hc273]
                have r275 : own_R p.tables e below F0 (T271.setTop (mkF m 143 #[.val (.long p0s), .second, .val (.long p1s), .second, .val (.long p2s), .second, .val (.long p3s), .second, .val (.int p4s), .val (.int p5s), .val (.long ot), .second, .val (.long fa), .second, .val (.ref md), .val (.double (FP.i2d (p4s &&& (255 : Int32)))), .second, .val (.double (FP.i2d ((p4s >>> ((8 : Int32) &&& 31)) &&& (255 : Int32)))), .second, .val (.double (FP.i2d ((p4s >>> ((16 : Int32) &&& 31)) &&& (255 : Int32)))), .second, .val (.ref b250), .val (.int (1 : Int32))] [(.int (1 : Int32))])) := by have q := r271; rw [ev274] at q; exact q
                have r276 : own_R p.tables e below F0 (T271.setTop (mkF m 153 #[.val (.long p0s), .second, .val (.long p1s), .second, .val (.long p2s), .second, .val (.long p3s), .second, .val (.int p4s), .val (.int p5s), .val (.long ot), .second, .val (.long fa), .second, .val (.ref md), .val (.double (FP.i2d (p4s &&& (255 : Int32)))), .second, .val (.double (FP.i2d ((p4s >>> ((8 : Int32) &&& 31)) &&& (255 : Int32)))), .second, .val (.double (FP.i2d ((p4s >>> ((16 : Int32) &&& 31)) &&& (255 : Int32)))), .second, .val (.ref b250), .val (.int (1 : Int32))] [(.int (1 : Int32))])) := fun tg_ kg_ => by
                  refine r275 tg_ ?_
                  show Steps p.tables e below (T271.setTop (mkF m 143 #[.val (.long p0s), .second, .val (.long p1s), .second, .val (.long p2s), .second, .val (.long p3s), .second, .val (.int p4s), .val (.int p5s), .val (.long ot), .second, .val (.long fa), .second, .val (.ref md), .val (.double (FP.i2d (p4s &&& (255 : Int32)))), .second, .val (.double (FP.i2d ((p4s >>> ((8 : Int32) &&& 31)) &&& (255 : Int32)))), .second, .val (.double (FP.i2d ((p4s >>> ((16 : Int32) &&& 31)) &&& (255 : Int32)))), .second, .val (.ref b250), .val (.int (1 : Int32))] [(.int (1 : Int32))])) _
                  refine XS.iload X271.here hx rfl (hb hby at_143) rfl ?_
                  show Steps p.tables e below (T271.setTop (mkF m 145 #[.val (.long p0s), .second, .val (.long p1s), .second, .val (.long p2s), .second, .val (.long p3s), .second, .val (.int p4s), .val (.int p5s), .val (.long ot), .second, .val (.long fa), .second, .val (.ref md), .val (.double (FP.i2d (p4s &&& (255 : Int32)))), .second, .val (.double (FP.i2d ((p4s >>> ((8 : Int32) &&& 31)) &&& (255 : Int32)))), .second, .val (.double (FP.i2d ((p4s >>> ((16 : Int32) &&& 31)) &&& (255 : Int32)))), .second, .val (.ref b250), .val (.int (1 : Int32))] [(.int (1 : Int32)), (.int (1 : Int32))])) _
                  refine XS.icmpNo X271.here hx rfl (hb hby at_145) rfl (teq (show (1 : Int32) = (1 : Int32) from by decide)).2 ?_
                  show Steps p.tables e below (T271.setTop (mkF m 148 #[.val (.long p0s), .second, .val (.long p1s), .second, .val (.long p2s), .second, .val (.long p3s), .second, .val (.int p4s), .val (.int p5s), .val (.long ot), .second, .val (.long fa), .second, .val (.ref md), .val (.double (FP.i2d (p4s &&& (255 : Int32)))), .second, .val (.double (FP.i2d ((p4s >>> ((8 : Int32) &&& 31)) &&& (255 : Int32)))), .second, .val (.double (FP.i2d ((p4s >>> ((16 : Int32) &&& 31)) &&& (255 : Int32)))), .second, .val (.ref b250), .val (.int (1 : Int32))] [])) _
                  refine XS.iconst X271.here hx rfl (hb hby at_148) ?_
                  show Steps p.tables e below (T271.setTop (mkF m 149 #[.val (.long p0s), .second, .val (.long p1s), .second, .val (.long p2s), .second, .val (.long p3s), .second, .val (.int p4s), .val (.int p5s), .val (.long ot), .second, .val (.long fa), .second, .val (.ref md), .val (.double (FP.i2d (p4s &&& (255 : Int32)))), .second, .val (.double (FP.i2d ((p4s >>> ((8 : Int32) &&& 31)) &&& (255 : Int32)))), .second, .val (.double (FP.i2d ((p4s >>> ((16 : Int32) &&& 31)) &&& (255 : Int32)))), .second, .val (.ref b250), .val (.int (1 : Int32))] [(.int (1 : Int32))])) _
                  refine XS.goto X271.here hx rfl (pc0 := 149) (pc' := 153) rfl (hb hby at_149) (by decide) (by decide) ?_
                  exact kg_
                refine hG (own_fin X271 hlk (some (.int (nar .boolean (1 : Int32)))) (own_hv Bd.returns) ?_ (by decide) (by decide) (fun fs hr => r276 _ (retN X271 hx (t := .boolean) Bd.returns (by simp) (hb hby at_153) hr)))
                rw [I271_0]
                exact ⟨rfl, N271⟩
              · have ev277 : (own_all ot fa) = (0 : Int32) := by unfold own_all; rw [if_pos hc272, if_neg hc273]
                have r278 : own_R p.tables e below F0 (T271.setTop (mkF m 143 #[.val (.long p0s), .second, .val (.long p1s), .second, .val (.long p2s), .second, .val (.long p3s), .second, .val (.int p4s), .val (.int p5s), .val (.long ot), .second, .val (.long fa), .second, .val (.ref md), .val (.double (FP.i2d (p4s &&& (255 : Int32)))), .second, .val (.double (FP.i2d ((p4s >>> ((8 : Int32) &&& 31)) &&& (255 : Int32)))), .second, .val (.double (FP.i2d ((p4s >>> ((16 : Int32) &&& 31)) &&& (255 : Int32)))), .second, .val (.ref b250), .val (.int (1 : Int32))] [(.int (0 : Int32))])) := by have q := r271; rw [ev277] at q; exact q
                have r279 : own_R p.tables e below F0 (T271.setTop (mkF m 153 #[.val (.long p0s), .second, .val (.long p1s), .second, .val (.long p2s), .second, .val (.long p3s), .second, .val (.int p4s), .val (.int p5s), .val (.long ot), .second, .val (.long fa), .second, .val (.ref md), .val (.double (FP.i2d (p4s &&& (255 : Int32)))), .second, .val (.double (FP.i2d ((p4s >>> ((8 : Int32) &&& 31)) &&& (255 : Int32)))), .second, .val (.double (FP.i2d ((p4s >>> ((16 : Int32) &&& 31)) &&& (255 : Int32)))), .second, .val (.ref b250), .val (.int (1 : Int32))] [(.int (0 : Int32))])) := fun tg_ kg_ => by
                  refine r278 tg_ ?_
                  show Steps p.tables e below (T271.setTop (mkF m 143 #[.val (.long p0s), .second, .val (.long p1s), .second, .val (.long p2s), .second, .val (.long p3s), .second, .val (.int p4s), .val (.int p5s), .val (.long ot), .second, .val (.long fa), .second, .val (.ref md), .val (.double (FP.i2d (p4s &&& (255 : Int32)))), .second, .val (.double (FP.i2d ((p4s >>> ((8 : Int32) &&& 31)) &&& (255 : Int32)))), .second, .val (.double (FP.i2d ((p4s >>> ((16 : Int32) &&& 31)) &&& (255 : Int32)))), .second, .val (.ref b250), .val (.int (1 : Int32))] [(.int (0 : Int32))])) _
                  refine XS.iload X271.here hx rfl (hb hby at_143) rfl ?_
                  show Steps p.tables e below (T271.setTop (mkF m 145 #[.val (.long p0s), .second, .val (.long p1s), .second, .val (.long p2s), .second, .val (.long p3s), .second, .val (.int p4s), .val (.int p5s), .val (.long ot), .second, .val (.long fa), .second, .val (.ref md), .val (.double (FP.i2d (p4s &&& (255 : Int32)))), .second, .val (.double (FP.i2d ((p4s >>> ((8 : Int32) &&& 31)) &&& (255 : Int32)))), .second, .val (.double (FP.i2d ((p4s >>> ((16 : Int32) &&& 31)) &&& (255 : Int32)))), .second, .val (.ref b250), .val (.int (1 : Int32))] [(.int (1 : Int32)), (.int (0 : Int32))])) _
                  refine XS.icmpYes X271.here hx rfl (pc0 := 145) (pc' := 152) rfl (hb hby at_145) rfl (feq (show ¬ ((0 : Int32) = (1 : Int32)) from by decide)).2 (by decide) (by decide) ?_
                  show Steps p.tables e below (T271.setTop (mkF m 152 #[.val (.long p0s), .second, .val (.long p1s), .second, .val (.long p2s), .second, .val (.long p3s), .second, .val (.int p4s), .val (.int p5s), .val (.long ot), .second, .val (.long fa), .second, .val (.ref md), .val (.double (FP.i2d (p4s &&& (255 : Int32)))), .second, .val (.double (FP.i2d ((p4s >>> ((8 : Int32) &&& 31)) &&& (255 : Int32)))), .second, .val (.double (FP.i2d ((p4s >>> ((16 : Int32) &&& 31)) &&& (255 : Int32)))), .second, .val (.ref b250), .val (.int (1 : Int32))] [])) _
                  refine XS.iconst X271.here hx rfl (hb hby at_152) ?_
                  exact kg_
                exfalso
                have q := own_or0 ot fa
                simp_all
            · have ev280 : (own_all ot fa) = (0 : Int32) := by unfold own_all; rw [if_neg hc272]
              have r281 : own_R p.tables e below F0 (T271.setTop (mkF m 143 #[.val (.long p0s), .second, .val (.long p1s), .second, .val (.long p2s), .second, .val (.long p3s), .second, .val (.int p4s), .val (.int p5s), .val (.long ot), .second, .val (.long fa), .second, .val (.ref md), .val (.double (FP.i2d (p4s &&& (255 : Int32)))), .second, .val (.double (FP.i2d ((p4s >>> ((8 : Int32) &&& 31)) &&& (255 : Int32)))), .second, .val (.double (FP.i2d ((p4s >>> ((16 : Int32) &&& 31)) &&& (255 : Int32)))), .second, .val (.ref b250), .val (.int (1 : Int32))] [(.int (0 : Int32))])) := by have q := r271; rw [ev280] at q; exact q
              have r282 : own_R p.tables e below F0 (T271.setTop (mkF m 153 #[.val (.long p0s), .second, .val (.long p1s), .second, .val (.long p2s), .second, .val (.long p3s), .second, .val (.int p4s), .val (.int p5s), .val (.long ot), .second, .val (.long fa), .second, .val (.ref md), .val (.double (FP.i2d (p4s &&& (255 : Int32)))), .second, .val (.double (FP.i2d ((p4s >>> ((8 : Int32) &&& 31)) &&& (255 : Int32)))), .second, .val (.double (FP.i2d ((p4s >>> ((16 : Int32) &&& 31)) &&& (255 : Int32)))), .second, .val (.ref b250), .val (.int (1 : Int32))] [(.int (0 : Int32))])) := fun tg_ kg_ => by
                refine r281 tg_ ?_
                show Steps p.tables e below (T271.setTop (mkF m 143 #[.val (.long p0s), .second, .val (.long p1s), .second, .val (.long p2s), .second, .val (.long p3s), .second, .val (.int p4s), .val (.int p5s), .val (.long ot), .second, .val (.long fa), .second, .val (.ref md), .val (.double (FP.i2d (p4s &&& (255 : Int32)))), .second, .val (.double (FP.i2d ((p4s >>> ((8 : Int32) &&& 31)) &&& (255 : Int32)))), .second, .val (.double (FP.i2d ((p4s >>> ((16 : Int32) &&& 31)) &&& (255 : Int32)))), .second, .val (.ref b250), .val (.int (1 : Int32))] [(.int (0 : Int32))])) _
                refine XS.iload X271.here hx rfl (hb hby at_143) rfl ?_
                show Steps p.tables e below (T271.setTop (mkF m 145 #[.val (.long p0s), .second, .val (.long p1s), .second, .val (.long p2s), .second, .val (.long p3s), .second, .val (.int p4s), .val (.int p5s), .val (.long ot), .second, .val (.long fa), .second, .val (.ref md), .val (.double (FP.i2d (p4s &&& (255 : Int32)))), .second, .val (.double (FP.i2d ((p4s >>> ((8 : Int32) &&& 31)) &&& (255 : Int32)))), .second, .val (.double (FP.i2d ((p4s >>> ((16 : Int32) &&& 31)) &&& (255 : Int32)))), .second, .val (.ref b250), .val (.int (1 : Int32))] [(.int (1 : Int32)), (.int (0 : Int32))])) _
                refine XS.icmpYes X271.here hx rfl (pc0 := 145) (pc' := 152) rfl (hb hby at_145) rfl (feq (show ¬ ((0 : Int32) = (1 : Int32)) from by decide)).2 (by decide) (by decide) ?_
                show Steps p.tables e below (T271.setTop (mkF m 152 #[.val (.long p0s), .second, .val (.long p1s), .second, .val (.long p2s), .second, .val (.long p3s), .second, .val (.int p4s), .val (.int p5s), .val (.long ot), .second, .val (.long fa), .second, .val (.ref md), .val (.double (FP.i2d (p4s &&& (255 : Int32)))), .second, .val (.double (FP.i2d ((p4s >>> ((8 : Int32) &&& 31)) &&& (255 : Int32)))), .second, .val (.double (FP.i2d ((p4s >>> ((16 : Int32) &&& 31)) &&& (255 : Int32)))), .second, .val (.ref b250), .val (.int (1 : Int32))] [])) _
                refine XS.iconst X271.here hx rfl (hb hby at_152) ?_
                exact kg_
              exfalso
              have q := own_or0 ot fa
              simp_all
          · have r283 : own_R p.tables e below F0 (T265.setTop (mkF m 140 #[.val (.long p0s), .second, .val (.long p1s), .second, .val (.long p2s), .second, .val (.long p3s), .second, .val (.int p4s), .val (.int p5s), .val (.long ot), .second, .val (.long fa), .second, .val (.ref md), .val (.double (FP.i2d (p4s &&& (255 : Int32)))), .second, .val (.double (FP.i2d ((p4s >>> ((8 : Int32) &&& 31)) &&& (255 : Int32)))), .second, .val (.double (FP.i2d ((p4s >>> ((16 : Int32) &&& 31)) &&& (255 : Int32)))), .second, .val (.ref b250), .val (.int (0 : Int32))] [(.ref b250)])) := fun tg_ kg_ => by
              refine r268 tg_ ?_
              show Steps p.tables e below (T265.setTop (mkF m 128 #[.val (.long p0s), .second, .val (.long p1s), .second, .val (.long p2s), .second, .val (.long p3s), .second, .val (.int p4s), .val (.int p5s), .val (.long ot), .second, .val (.long fa), .second, .val (.ref md), .val (.double (FP.i2d (p4s &&& (255 : Int32)))), .second, .val (.double (FP.i2d ((p4s >>> ((8 : Int32) &&& 31)) &&& (255 : Int32)))), .second, .val (.double (FP.i2d ((p4s >>> ((16 : Int32) &&& 31)) &&& (255 : Int32)))), .second, .val (.ref b250), .unset] [(.int (lcmpW (ot ||| fa) (0 : Int64)))])) _
              refine XS.ifYes X265.here hx rfl (pc0 := 128) (pc' := 135) rfl (hb hby at_128) rfl (own_l_neq hc269).2 (by decide) (by decide) ?_
              show Steps p.tables e below (T265.setTop (mkF m 135 #[.val (.long p0s), .second, .val (.long p1s), .second, .val (.long p2s), .second, .val (.long p3s), .second, .val (.int p4s), .val (.int p5s), .val (.long ot), .second, .val (.long fa), .second, .val (.ref md), .val (.double (FP.i2d (p4s &&& (255 : Int32)))), .second, .val (.double (FP.i2d ((p4s >>> ((8 : Int32) &&& 31)) &&& (255 : Int32)))), .second, .val (.double (FP.i2d ((p4s >>> ((16 : Int32) &&& 31)) &&& (255 : Int32)))), .second, .val (.ref b250), .unset] [])) _
              refine XS.iconst X265.here hx rfl (hb hby at_135) ?_
              show Steps p.tables e below (T265.setTop (mkF m 136 #[.val (.long p0s), .second, .val (.long p1s), .second, .val (.long p2s), .second, .val (.long p3s), .second, .val (.int p4s), .val (.int p5s), .val (.long ot), .second, .val (.long fa), .second, .val (.ref md), .val (.double (FP.i2d (p4s &&& (255 : Int32)))), .second, .val (.double (FP.i2d ((p4s >>> ((8 : Int32) &&& 31)) &&& (255 : Int32)))), .second, .val (.double (FP.i2d ((p4s >>> ((16 : Int32) &&& 31)) &&& (255 : Int32)))), .second, .val (.ref b250), .unset] [(.int (0 : Int32))])) _
              refine XS.istore X265.here hx rfl (hb hby at_136) rfl (l' := #[.val (.long p0s), .second, .val (.long p1s), .second, .val (.long p2s), .second, .val (.long p3s), .second, .val (.int p4s), .val (.int p5s), .val (.long ot), .second, .val (.long fa), .second, .val (.ref md), .val (.double (FP.i2d (p4s &&& (255 : Int32)))), .second, .val (.double (FP.i2d ((p4s >>> ((8 : Int32) &&& 31)) &&& (255 : Int32)))), .second, .val (.double (FP.i2d ((p4s >>> ((16 : Int32) &&& 31)) &&& (255 : Int32)))), .second, .val (.ref b250), .val (.int (0 : Int32))]) rfl ?_
              show Steps p.tables e below (T265.setTop (mkF m 138 #[.val (.long p0s), .second, .val (.long p1s), .second, .val (.long p2s), .second, .val (.long p3s), .second, .val (.int p4s), .val (.int p5s), .val (.long ot), .second, .val (.long fa), .second, .val (.ref md), .val (.double (FP.i2d (p4s &&& (255 : Int32)))), .second, .val (.double (FP.i2d ((p4s >>> ((8 : Int32) &&& 31)) &&& (255 : Int32)))), .second, .val (.double (FP.i2d ((p4s >>> ((16 : Int32) &&& 31)) &&& (255 : Int32)))), .second, .val (.ref b250), .val (.int (0 : Int32))] [])) _
              refine XS.aload X265.here hx rfl (hb hby at_138) rfl rfl ?_
              exact kg_
            obtain ⟨cq284, kq284, q284a, q284b, q284c⟩ := isOf hZ e265 I265_1
            obtain ⟨_, _, ⟨T284, L284, k284, n284⟩, -, X284, ⟨Lc284, hQ284, l284, y284, z284⟩, st284⟩ := X265.virtualBack hx (y := (⟨"com/example/invites_to_friends/invitestofriends/bench/Report", "allAnswered2xx", "()Z"⟩ : MethodName)) (z := (⟨"com/example/invites_to_friends/invitestofriends/bench/Report", "allAnswered2xx", "()Z"⟩ : MethodName)) hown (mvT hZ (hw _ (List.mem_of_getElem? (i := 41) rfl))) (mvT hZ (hw _ (List.mem_of_getElem? (i := 42) rfl))) (notFace_of_selects (args := #[]) (mvT hZ (hw _ (List.mem_of_getElem? (i := 44) rfl)))) (mvT hZ (hw _ (List.mem_of_getElem? (i := 44) rfl))) (mvT hZ (hw _ (List.mem_of_getElem? (i := 43) rfl))) (by decide) (backOf (W := 0) (rm4 l Z a0 hw [] b250 (ot) (fa) h265 n0 Zs267 I265_6 I265_7) hZ (hw _ (List.mem_of_getElem? (i := 45) rfl)) (hw _ (List.mem_of_getElem? (i := 5) rfl)) (by decide) (by decide)) q284a q284c (g := (mkF m 140 #[.val (.long p0s), .second, .val (.long p1s), .second, .val (.long p2s), .second, .val (.long p3s), .second, .val (.int p4s), .val (.int p5s), .val (.long ot), .second, .val (.long fa), .second, .val (.ref md), .val (.double (FP.i2d (p4s &&& (255 : Int32)))), .second, .val (.double (FP.i2d ((p4s >>> ((8 : Int32) &&& 31)) &&& (255 : Int32)))), .second, .val (.double (FP.i2d ((p4s >>> ((16 : Int32) &&& 31)) &&& (255 : Int32)))), .second, .val (.ref b250), .val (.int (0 : Int32))] [(.ref b250)])) rfl (by rw [hml]; rfl) (Steps.refl _) (argsL := []) (rest := []) (lenOf pd_2 rfl) rfl (by show 2 * 0 + _ ≤ _; exact Nat.le_of_eq rfl) (hb hby at_140) (fun _ _ => ⟨rfl, e265, (by decide : 1 + 0 ≤ _), (by decide : 12 + 0 ≤ _)⟩)
            dsimp only [Pt.U, Pt.locs, Pt.cells, Pt.slots] at X284 l284 y284 z284 st284 hQ284
            subst l284 y284 z284
            obtain ⟨rfl, N284q, I284_0⟩ := hQ284
            have N284 := Fr.app N265 N284q
            have r284 : own_R p.tables e below F0 (T284.setTop (mkF m 143 #[.val (.long p0s), .second, .val (.long p1s), .second, .val (.long p2s), .second, .val (.long p3s), .second, .val (.int p4s), .val (.int p5s), .val (.long ot), .second, .val (.long fa), .second, .val (.ref md), .val (.double (FP.i2d (p4s &&& (255 : Int32)))), .second, .val (.double (FP.i2d ((p4s >>> ((8 : Int32) &&& 31)) &&& (255 : Int32)))), .second, .val (.double (FP.i2d ((p4s >>> ((16 : Int32) &&& 31)) &&& (255 : Int32)))), .second, .val (.ref b250), .val (.int (0 : Int32))] [(.int (own_all ot fa))])) := fun tg_ kg_ => r283 tg_ (st284.trans kg_)
            by_cases hc285 : ot = (0 : Int64)
            · by_cases hc286 : fa = (0 : Int64)
              · have ev287 : (own_all ot fa) = (1 : Int32) := by unfold own_all; rw [if_pos hc285, if_pos hc286]
                have r288 : own_R p.tables e below F0 (T284.setTop (mkF m 143 #[.val (.long p0s), .second, .val (.long p1s), .second, .val (.long p2s), .second, .val (.long p3s), .second, .val (.int p4s), .val (.int p5s), .val (.long ot), .second, .val (.long fa), .second, .val (.ref md), .val (.double (FP.i2d (p4s &&& (255 : Int32)))), .second, .val (.double (FP.i2d ((p4s >>> ((8 : Int32) &&& 31)) &&& (255 : Int32)))), .second, .val (.double (FP.i2d ((p4s >>> ((16 : Int32) &&& 31)) &&& (255 : Int32)))), .second, .val (.ref b250), .val (.int (0 : Int32))] [(.int (1 : Int32))])) := by have q := r284; rw [ev287] at q; exact q
                have r289 : own_R p.tables e below F0 (T284.setTop (mkF m 153 #[.val (.long p0s), .second, .val (.long p1s), .second, .val (.long p2s), .second, .val (.long p3s), .second, .val (.int p4s), .val (.int p5s), .val (.long ot), .second, .val (.long fa), .second, .val (.ref md), .val (.double (FP.i2d (p4s &&& (255 : Int32)))), .second, .val (.double (FP.i2d ((p4s >>> ((8 : Int32) &&& 31)) &&& (255 : Int32)))), .second, .val (.double (FP.i2d ((p4s >>> ((16 : Int32) &&& 31)) &&& (255 : Int32)))), .second, .val (.ref b250), .val (.int (0 : Int32))] [(.int (0 : Int32))])) := fun tg_ kg_ => by
                  refine r288 tg_ ?_
                  show Steps p.tables e below (T284.setTop (mkF m 143 #[.val (.long p0s), .second, .val (.long p1s), .second, .val (.long p2s), .second, .val (.long p3s), .second, .val (.int p4s), .val (.int p5s), .val (.long ot), .second, .val (.long fa), .second, .val (.ref md), .val (.double (FP.i2d (p4s &&& (255 : Int32)))), .second, .val (.double (FP.i2d ((p4s >>> ((8 : Int32) &&& 31)) &&& (255 : Int32)))), .second, .val (.double (FP.i2d ((p4s >>> ((16 : Int32) &&& 31)) &&& (255 : Int32)))), .second, .val (.ref b250), .val (.int (0 : Int32))] [(.int (1 : Int32))])) _
                  refine XS.iload X284.here hx rfl (hb hby at_143) rfl ?_
                  show Steps p.tables e below (T284.setTop (mkF m 145 #[.val (.long p0s), .second, .val (.long p1s), .second, .val (.long p2s), .second, .val (.long p3s), .second, .val (.int p4s), .val (.int p5s), .val (.long ot), .second, .val (.long fa), .second, .val (.ref md), .val (.double (FP.i2d (p4s &&& (255 : Int32)))), .second, .val (.double (FP.i2d ((p4s >>> ((8 : Int32) &&& 31)) &&& (255 : Int32)))), .second, .val (.double (FP.i2d ((p4s >>> ((16 : Int32) &&& 31)) &&& (255 : Int32)))), .second, .val (.ref b250), .val (.int (0 : Int32))] [(.int (0 : Int32)), (.int (1 : Int32))])) _
                  refine XS.icmpYes X284.here hx rfl (pc0 := 145) (pc' := 152) rfl (hb hby at_145) rfl (feq (show ¬ ((1 : Int32) = (0 : Int32)) from by decide)).2 (by decide) (by decide) ?_
                  show Steps p.tables e below (T284.setTop (mkF m 152 #[.val (.long p0s), .second, .val (.long p1s), .second, .val (.long p2s), .second, .val (.long p3s), .second, .val (.int p4s), .val (.int p5s), .val (.long ot), .second, .val (.long fa), .second, .val (.ref md), .val (.double (FP.i2d (p4s &&& (255 : Int32)))), .second, .val (.double (FP.i2d ((p4s >>> ((8 : Int32) &&& 31)) &&& (255 : Int32)))), .second, .val (.double (FP.i2d ((p4s >>> ((16 : Int32) &&& 31)) &&& (255 : Int32)))), .second, .val (.ref b250), .val (.int (0 : Int32))] [])) _
                  refine XS.iconst X284.here hx rfl (hb hby at_152) ?_
                  exact kg_
                exfalso
                have q := own_or0 ot fa
                simp_all
              · have ev290 : (own_all ot fa) = (0 : Int32) := by unfold own_all; rw [if_pos hc285, if_neg hc286]
                have r291 : own_R p.tables e below F0 (T284.setTop (mkF m 143 #[.val (.long p0s), .second, .val (.long p1s), .second, .val (.long p2s), .second, .val (.long p3s), .second, .val (.int p4s), .val (.int p5s), .val (.long ot), .second, .val (.long fa), .second, .val (.ref md), .val (.double (FP.i2d (p4s &&& (255 : Int32)))), .second, .val (.double (FP.i2d ((p4s >>> ((8 : Int32) &&& 31)) &&& (255 : Int32)))), .second, .val (.double (FP.i2d ((p4s >>> ((16 : Int32) &&& 31)) &&& (255 : Int32)))), .second, .val (.ref b250), .val (.int (0 : Int32))] [(.int (0 : Int32))])) := by have q := r284; rw [ev290] at q; exact q
                have r292 : own_R p.tables e below F0 (T284.setTop (mkF m 153 #[.val (.long p0s), .second, .val (.long p1s), .second, .val (.long p2s), .second, .val (.long p3s), .second, .val (.int p4s), .val (.int p5s), .val (.long ot), .second, .val (.long fa), .second, .val (.ref md), .val (.double (FP.i2d (p4s &&& (255 : Int32)))), .second, .val (.double (FP.i2d ((p4s >>> ((8 : Int32) &&& 31)) &&& (255 : Int32)))), .second, .val (.double (FP.i2d ((p4s >>> ((16 : Int32) &&& 31)) &&& (255 : Int32)))), .second, .val (.ref b250), .val (.int (0 : Int32))] [(.int (1 : Int32))])) := fun tg_ kg_ => by
                  refine r291 tg_ ?_
                  show Steps p.tables e below (T284.setTop (mkF m 143 #[.val (.long p0s), .second, .val (.long p1s), .second, .val (.long p2s), .second, .val (.long p3s), .second, .val (.int p4s), .val (.int p5s), .val (.long ot), .second, .val (.long fa), .second, .val (.ref md), .val (.double (FP.i2d (p4s &&& (255 : Int32)))), .second, .val (.double (FP.i2d ((p4s >>> ((8 : Int32) &&& 31)) &&& (255 : Int32)))), .second, .val (.double (FP.i2d ((p4s >>> ((16 : Int32) &&& 31)) &&& (255 : Int32)))), .second, .val (.ref b250), .val (.int (0 : Int32))] [(.int (0 : Int32))])) _
                  refine XS.iload X284.here hx rfl (hb hby at_143) rfl ?_
                  show Steps p.tables e below (T284.setTop (mkF m 145 #[.val (.long p0s), .second, .val (.long p1s), .second, .val (.long p2s), .second, .val (.long p3s), .second, .val (.int p4s), .val (.int p5s), .val (.long ot), .second, .val (.long fa), .second, .val (.ref md), .val (.double (FP.i2d (p4s &&& (255 : Int32)))), .second, .val (.double (FP.i2d ((p4s >>> ((8 : Int32) &&& 31)) &&& (255 : Int32)))), .second, .val (.double (FP.i2d ((p4s >>> ((16 : Int32) &&& 31)) &&& (255 : Int32)))), .second, .val (.ref b250), .val (.int (0 : Int32))] [(.int (0 : Int32)), (.int (0 : Int32))])) _
                  refine XS.icmpNo X284.here hx rfl (hb hby at_145) rfl (teq (show (0 : Int32) = (0 : Int32) from by decide)).2 ?_
                  show Steps p.tables e below (T284.setTop (mkF m 148 #[.val (.long p0s), .second, .val (.long p1s), .second, .val (.long p2s), .second, .val (.long p3s), .second, .val (.int p4s), .val (.int p5s), .val (.long ot), .second, .val (.long fa), .second, .val (.ref md), .val (.double (FP.i2d (p4s &&& (255 : Int32)))), .second, .val (.double (FP.i2d ((p4s >>> ((8 : Int32) &&& 31)) &&& (255 : Int32)))), .second, .val (.double (FP.i2d ((p4s >>> ((16 : Int32) &&& 31)) &&& (255 : Int32)))), .second, .val (.ref b250), .val (.int (0 : Int32))] [])) _
                  refine XS.iconst X284.here hx rfl (hb hby at_148) ?_
                  show Steps p.tables e below (T284.setTop (mkF m 149 #[.val (.long p0s), .second, .val (.long p1s), .second, .val (.long p2s), .second, .val (.long p3s), .second, .val (.int p4s), .val (.int p5s), .val (.long ot), .second, .val (.long fa), .second, .val (.ref md), .val (.double (FP.i2d (p4s &&& (255 : Int32)))), .second, .val (.double (FP.i2d ((p4s >>> ((8 : Int32) &&& 31)) &&& (255 : Int32)))), .second, .val (.double (FP.i2d ((p4s >>> ((16 : Int32) &&& 31)) &&& (255 : Int32)))), .second, .val (.ref b250), .val (.int (0 : Int32))] [(.int (1 : Int32))])) _
                  refine XS.goto X284.here hx rfl (pc0 := 149) (pc' := 153) rfl (hb hby at_149) (by decide) (by decide) ?_
                  exact kg_
                refine hG (own_fin X284 hlk (some (.int (nar .boolean (1 : Int32)))) (own_hv Bd.returns) ?_ (by decide) (by decide) (fun fs hr => r292 _ (retN X284 hx (t := .boolean) Bd.returns (by simp) (hb hby at_153) hr)))
                rw [I284_0]
                exact ⟨rfl, N284⟩
            · have ev293 : (own_all ot fa) = (0 : Int32) := by unfold own_all; rw [if_neg hc285]
              have r294 : own_R p.tables e below F0 (T284.setTop (mkF m 143 #[.val (.long p0s), .second, .val (.long p1s), .second, .val (.long p2s), .second, .val (.long p3s), .second, .val (.int p4s), .val (.int p5s), .val (.long ot), .second, .val (.long fa), .second, .val (.ref md), .val (.double (FP.i2d (p4s &&& (255 : Int32)))), .second, .val (.double (FP.i2d ((p4s >>> ((8 : Int32) &&& 31)) &&& (255 : Int32)))), .second, .val (.double (FP.i2d ((p4s >>> ((16 : Int32) &&& 31)) &&& (255 : Int32)))), .second, .val (.ref b250), .val (.int (0 : Int32))] [(.int (0 : Int32))])) := by have q := r284; rw [ev293] at q; exact q
              have r295 : own_R p.tables e below F0 (T284.setTop (mkF m 153 #[.val (.long p0s), .second, .val (.long p1s), .second, .val (.long p2s), .second, .val (.long p3s), .second, .val (.int p4s), .val (.int p5s), .val (.long ot), .second, .val (.long fa), .second, .val (.ref md), .val (.double (FP.i2d (p4s &&& (255 : Int32)))), .second, .val (.double (FP.i2d ((p4s >>> ((8 : Int32) &&& 31)) &&& (255 : Int32)))), .second, .val (.double (FP.i2d ((p4s >>> ((16 : Int32) &&& 31)) &&& (255 : Int32)))), .second, .val (.ref b250), .val (.int (0 : Int32))] [(.int (1 : Int32))])) := fun tg_ kg_ => by
                refine r294 tg_ ?_
                show Steps p.tables e below (T284.setTop (mkF m 143 #[.val (.long p0s), .second, .val (.long p1s), .second, .val (.long p2s), .second, .val (.long p3s), .second, .val (.int p4s), .val (.int p5s), .val (.long ot), .second, .val (.long fa), .second, .val (.ref md), .val (.double (FP.i2d (p4s &&& (255 : Int32)))), .second, .val (.double (FP.i2d ((p4s >>> ((8 : Int32) &&& 31)) &&& (255 : Int32)))), .second, .val (.double (FP.i2d ((p4s >>> ((16 : Int32) &&& 31)) &&& (255 : Int32)))), .second, .val (.ref b250), .val (.int (0 : Int32))] [(.int (0 : Int32))])) _
                refine XS.iload X284.here hx rfl (hb hby at_143) rfl ?_
                show Steps p.tables e below (T284.setTop (mkF m 145 #[.val (.long p0s), .second, .val (.long p1s), .second, .val (.long p2s), .second, .val (.long p3s), .second, .val (.int p4s), .val (.int p5s), .val (.long ot), .second, .val (.long fa), .second, .val (.ref md), .val (.double (FP.i2d (p4s &&& (255 : Int32)))), .second, .val (.double (FP.i2d ((p4s >>> ((8 : Int32) &&& 31)) &&& (255 : Int32)))), .second, .val (.double (FP.i2d ((p4s >>> ((16 : Int32) &&& 31)) &&& (255 : Int32)))), .second, .val (.ref b250), .val (.int (0 : Int32))] [(.int (0 : Int32)), (.int (0 : Int32))])) _
                refine XS.icmpNo X284.here hx rfl (hb hby at_145) rfl (teq (show (0 : Int32) = (0 : Int32) from by decide)).2 ?_
                show Steps p.tables e below (T284.setTop (mkF m 148 #[.val (.long p0s), .second, .val (.long p1s), .second, .val (.long p2s), .second, .val (.long p3s), .second, .val (.int p4s), .val (.int p5s), .val (.long ot), .second, .val (.long fa), .second, .val (.ref md), .val (.double (FP.i2d (p4s &&& (255 : Int32)))), .second, .val (.double (FP.i2d ((p4s >>> ((8 : Int32) &&& 31)) &&& (255 : Int32)))), .second, .val (.double (FP.i2d ((p4s >>> ((16 : Int32) &&& 31)) &&& (255 : Int32)))), .second, .val (.ref b250), .val (.int (0 : Int32))] [])) _
                refine XS.iconst X284.here hx rfl (hb hby at_148) ?_
                show Steps p.tables e below (T284.setTop (mkF m 149 #[.val (.long p0s), .second, .val (.long p1s), .second, .val (.long p2s), .second, .val (.long p3s), .second, .val (.int p4s), .val (.int p5s), .val (.long ot), .second, .val (.long fa), .second, .val (.ref md), .val (.double (FP.i2d (p4s &&& (255 : Int32)))), .second, .val (.double (FP.i2d ((p4s >>> ((8 : Int32) &&& 31)) &&& (255 : Int32)))), .second, .val (.double (FP.i2d ((p4s >>> ((16 : Int32) &&& 31)) &&& (255 : Int32)))), .second, .val (.ref b250), .val (.int (0 : Int32))] [(.int (1 : Int32))])) _
                refine XS.goto X284.here hx rfl (pc0 := 149) (pc' := 153) rfl (hb hby at_149) (by decide) (by decide) ?_
                exact kg_
              refine hG (own_fin X284 hlk (some (.int (nar .boolean (1 : Int32)))) (own_hv Bd.returns) ?_ (by decide) (by decide) (fun fs hr => r295 _ (retN X284 hx (t := .boolean) Bd.returns (by simp) (hb hby at_153) hr)))
              rw [I284_0]
              exact ⟨rfl, N284⟩
        by_cases hc296 : (p5s &&& (4 : Int32)) = (0 : Int32)
        · have r297 : own_R p.tables e below F0 (s₁.setTop (mkF m 41 #[.val (.long p0s), .second, .val (.long p1s), .second, .val (.long p2s), .second, .val (.long p3s), .second, .val (.int p4s), .val (.int p5s), .val (.long ot), .second, .val (.long fa), .second, .unset, .unset, .unset, .unset, .unset, .unset, .unset, .unset, .unset] [])) := fun tg_ kg_ => by
            refine r238 tg_ ?_
            show Steps p.tables e below (s₁.setTop (mkF m 32 #[.val (.long p0s), .second, .val (.long p1s), .second, .val (.long p2s), .second, .val (.long p3s), .second, .val (.int p4s), .val (.int p5s), .val (.long ot), .second, .val (.long fa), .second, .unset, .unset, .unset, .unset, .unset, .unset, .unset, .unset, .unset] [(.int (p5s &&& (4 : Int32)))])) _
            refine XS.ifYes X0.here hx rfl (pc0 := 32) (pc' := 41) rfl (hb hby at_32) rfl ((if0 _ _).trans (teq hc296).1) (by decide) (by decide) ?_
            exact kg_
          obtain ⟨T298, X298, e298, st298⟩ := getS2 X0 hx hZ hown (host := "") (Or.inl (hw _ (List.mem_of_getElem? (i := 0) rfl))) Via.refl e0 S1 (g := (mkF m 41 #[.val (.long p0s), .second, .val (.long p1s), .second, .val (.long p2s), .second, .val (.long p3s), .second, .val (.int p4s), .val (.int p5s), .val (.long ot), .second, .val (.long fa), .second, .unset, .unset, .unset, .unset, .unset, .unset, .unset, .unset, .unset] [])) rfl (hb hby at_41)
          have r298 : own_R p.tables e below F0 (T298.setTop (mkF m 44 #[.val (.long p0s), .second, .val (.long p1s), .second, .val (.long p2s), .second, .val (.long p3s), .second, .val (.int p4s), .val (.int p5s), .val (.long ot), .second, .val (.long fa), .second, .unset, .unset, .unset, .unset, .unset, .unset, .unset, .unset, .unset] [(.ref aO)])) := fun tg_ kg_ => r297 tg_ (st298 tg_ kg_)
          exact J239 aO T298 _ _ X298 e298 N0 Z0 K0 r298
        · have r299 : own_R p.tables e below F0 (s₁.setTop (mkF m 35 #[.val (.long p0s), .second, .val (.long p1s), .second, .val (.long p2s), .second, .val (.long p3s), .second, .val (.int p4s), .val (.int p5s), .val (.long ot), .second, .val (.long fa), .second, .unset, .unset, .unset, .unset, .unset, .unset, .unset, .unset, .unset] [])) := fun tg_ kg_ => by
            refine r238 tg_ ?_
            show Steps p.tables e below (s₁.setTop (mkF m 32 #[.val (.long p0s), .second, .val (.long p1s), .second, .val (.long p2s), .second, .val (.long p3s), .second, .val (.int p4s), .val (.int p5s), .val (.long ot), .second, .val (.long fa), .second, .unset, .unset, .unset, .unset, .unset, .unset, .unset, .unset, .unset] [(.int (p5s &&& (4 : Int32)))])) _
            refine XS.ifNo X0.here hx rfl (hb hby at_32) rfl ((if0 _ _).trans (feq hc296).1) ?_
            exact kg_
          obtain ⟨T300, X300, e300, st300⟩ := getS2 X0 hx hZ hown (host := "") (Or.inl (hw _ (List.mem_of_getElem? (i := 46) rfl))) Via.refl e0 S2 (g := (mkF m 35 #[.val (.long p0s), .second, .val (.long p1s), .second, .val (.long p2s), .second, .val (.long p3s), .second, .val (.int p4s), .val (.int p5s), .val (.long ot), .second, .val (.long fa), .second, .unset, .unset, .unset, .unset, .unset, .unset, .unset, .unset, .unset] [])) rfl (hb hby at_35)
          have r300 : own_R p.tables e below F0 (T300.setTop (mkF m 38 #[.val (.long p0s), .second, .val (.long p1s), .second, .val (.long p2s), .second, .val (.long p3s), .second, .val (.int p4s), .val (.int p5s), .val (.long ot), .second, .val (.long fa), .second, .unset, .unset, .unset, .unset, .unset, .unset, .unset, .unset, .unset] [(.ref aX)])) := fun tg_ kg_ => r299 tg_ (st300 tg_ kg_)
          have r301 : own_R p.tables e below F0 (T300.setTop (mkF m 44 #[.val (.long p0s), .second, .val (.long p1s), .second, .val (.long p2s), .second, .val (.long p3s), .second, .val (.int p4s), .val (.int p5s), .val (.long ot), .second, .val (.long fa), .second, .unset, .unset, .unset, .unset, .unset, .unset, .unset, .unset, .unset] [(.ref aX)])) := fun tg_ kg_ => by
            refine r300 tg_ ?_
            show Steps p.tables e below (T300.setTop (mkF m 38 #[.val (.long p0s), .second, .val (.long p1s), .second, .val (.long p2s), .second, .val (.long p3s), .second, .val (.int p4s), .val (.int p5s), .val (.long ot), .second, .val (.long fa), .second, .unset, .unset, .unset, .unset, .unset, .unset, .unset, .unset, .unset] [(.ref aX)])) _
            refine XS.goto X300.here hx rfl (pc0 := 38) (pc' := 44) rfl (hb hby at_38) (by decide) (by decide) ?_
            exact kg_
          exact J239 aX T300 _ _ X300 e300 N0 Z0 K0 r301
      by_cases hc302 : (p5s &&& (2 : Int32)) = (0 : Int32)
      · have r303 : own_R p.tables e below F0 (s₁.setTop (mkF m 26 #[.val (.long p0s), .second, .val (.long p1s), .second, .val (.long p2s), .second, .val (.long p3s), .second, .val (.int p4s), .val (.int p5s), .val (.long ot), .second, .unset, .unset, .unset, .unset, .unset, .unset, .unset, .unset, .unset, .unset, .unset] [(.long p1s)])) := fun tg_ kg_ => by
          refine r235 tg_ ?_
          show Steps p.tables e below (s₁.setTop (mkF m 18 #[.val (.long p0s), .second, .val (.long p1s), .second, .val (.long p2s), .second, .val (.long p3s), .second, .val (.int p4s), .val (.int p5s), .val (.long ot), .second, .unset, .unset, .unset, .unset, .unset, .unset, .unset, .unset, .unset, .unset, .unset] [(.int (p5s &&& (2 : Int32)))])) _
          refine XS.ifYes X0.here hx rfl (pc0 := 18) (pc' := 25) rfl (hb hby at_18) rfl ((if0 _ _).trans (teq hc302).1) (by decide) (by decide) ?_
          show Steps p.tables e below (s₁.setTop (mkF m 25 #[.val (.long p0s), .second, .val (.long p1s), .second, .val (.long p2s), .second, .val (.long p3s), .second, .val (.int p4s), .val (.int p5s), .val (.long ot), .second, .unset, .unset, .unset, .unset, .unset, .unset, .unset, .unset, .unset, .unset, .unset] [])) _
          refine XS.lloadN X0.here hx rfl (hb hby at_25) rfl ?_
          exact kg_
        exact J236 p1s r303
      · have r304 : own_R p.tables e below F0 (s₁.setTop (mkF m 26 #[.val (.long p0s), .second, .val (.long p1s), .second, .val (.long p2s), .second, .val (.long p3s), .second, .val (.int p4s), .val (.int p5s), .val (.long ot), .second, .unset, .unset, .unset, .unset, .unset, .unset, .unset, .unset, .unset, .unset, .unset] [(.long (0 : Int64))])) := fun tg_ kg_ => by
          refine r235 tg_ ?_
          show Steps p.tables e below (s₁.setTop (mkF m 18 #[.val (.long p0s), .second, .val (.long p1s), .second, .val (.long p2s), .second, .val (.long p3s), .second, .val (.int p4s), .val (.int p5s), .val (.long ot), .second, .unset, .unset, .unset, .unset, .unset, .unset, .unset, .unset, .unset, .unset, .unset] [(.int (p5s &&& (2 : Int32)))])) _
          refine XS.ifNo X0.here hx rfl (hb hby at_18) rfl ((if0 _ _).trans (feq hc302).1) ?_
          show Steps p.tables e below (s₁.setTop (mkF m 21 #[.val (.long p0s), .second, .val (.long p1s), .second, .val (.long p2s), .second, .val (.long p3s), .second, .val (.int p4s), .val (.int p5s), .val (.long ot), .second, .unset, .unset, .unset, .unset, .unset, .unset, .unset, .unset, .unset, .unset, .unset] [])) _
          refine XS.lconst X0.here hx rfl (hb hby at_21) ?_
          show Steps p.tables e below (s₁.setTop (mkF m 22 #[.val (.long p0s), .second, .val (.long p1s), .second, .val (.long p2s), .second, .val (.long p3s), .second, .val (.int p4s), .val (.int p5s), .val (.long ot), .second, .unset, .unset, .unset, .unset, .unset, .unset, .unset, .unset, .unset, .unset, .unset] [(.long (0 : Int64))])) _
          refine XS.goto X0.here hx rfl (pc0 := 22) (pc' := 26) rfl (hb hby at_22) (by decide) (by decide) ?_
          exact kg_
        exact J236 (0 : Int64) r304
    by_cases hc305 : (p5s &&& (1 : Int32)) = (0 : Int32)
    · have r306 : own_R p.tables e below F0 (s₁.setTop (mkF m 12 #[.val (.long p0s), .second, .val (.long p1s), .second, .val (.long p2s), .second, .val (.long p3s), .second, .val (.int p4s), .val (.int p5s), .unset, .unset, .unset, .unset, .unset, .unset, .unset, .unset, .unset, .unset, .unset, .unset, .unset] [(.long p0s)])) := fun tg_ kg_ => by
        refine r232 tg_ ?_
        show Steps p.tables e below (s₁.setTop (mkF m 4 #[.val (.long p0s), .second, .val (.long p1s), .second, .val (.long p2s), .second, .val (.long p3s), .second, .val (.int p4s), .val (.int p5s), .unset, .unset, .unset, .unset, .unset, .unset, .unset, .unset, .unset, .unset, .unset, .unset, .unset] [(.int (p5s &&& (1 : Int32)))])) _
        refine XS.ifYes X0.here hx rfl (pc0 := 4) (pc' := 11) rfl (hb hby at_4) rfl ((if0 _ _).trans (teq hc305).1) (by decide) (by decide) ?_
        show Steps p.tables e below (s₁.setTop (mkF m 11 #[.val (.long p0s), .second, .val (.long p1s), .second, .val (.long p2s), .second, .val (.long p3s), .second, .val (.int p4s), .val (.int p5s), .unset, .unset, .unset, .unset, .unset, .unset, .unset, .unset, .unset, .unset, .unset, .unset, .unset] [])) _
        refine XS.lloadN X0.here hx rfl (hb hby at_11) rfl ?_
        exact kg_
      exact J233 p0s r306
    · have r307 : own_R p.tables e below F0 (s₁.setTop (mkF m 12 #[.val (.long p0s), .second, .val (.long p1s), .second, .val (.long p2s), .second, .val (.long p3s), .second, .val (.int p4s), .val (.int p5s), .unset, .unset, .unset, .unset, .unset, .unset, .unset, .unset, .unset, .unset, .unset, .unset, .unset] [(.long (0 : Int64))])) := fun tg_ kg_ => by
        refine r232 tg_ ?_
        show Steps p.tables e below (s₁.setTop (mkF m 4 #[.val (.long p0s), .second, .val (.long p1s), .second, .val (.long p2s), .second, .val (.long p3s), .second, .val (.int p4s), .val (.int p5s), .unset, .unset, .unset, .unset, .unset, .unset, .unset, .unset, .unset, .unset, .unset, .unset, .unset] [(.int (p5s &&& (1 : Int32)))])) _
        refine XS.ifNo X0.here hx rfl (hb hby at_4) rfl ((if0 _ _).trans (feq hc305).1) ?_
        show Steps p.tables e below (s₁.setTop (mkF m 7 #[.val (.long p0s), .second, .val (.long p1s), .second, .val (.long p2s), .second, .val (.long p3s), .second, .val (.int p4s), .val (.int p5s), .unset, .unset, .unset, .unset, .unset, .unset, .unset, .unset, .unset, .unset, .unset, .unset, .unset] [])) _
        refine XS.lconst X0.here hx rfl (hb hby at_7) ?_
        show Steps p.tables e below (s₁.setTop (mkF m 8 #[.val (.long p0s), .second, .val (.long p1s), .second, .val (.long p2s), .second, .val (.long p3s), .second, .val (.int p4s), .val (.int p5s), .unset, .unset, .unset, .unset, .unset, .unset, .unset, .unset, .unset, .unset, .unset, .unset, .unset] [(.long (0 : Int64))])) _
        refine XS.goto X0.here hx rfl (pc0 := 8) (pc' := 12) rfl (hb hby at_8) (by decide) (by decide) ?_
        exact kg_
      exact J233 (0 : Int64) r307
  exact key _ _ id (fun t k => castTop (ef_0 m p0s p1s p2s p3s p4s p5s) k)
set_option maxRecDepth 65536 in
set_option maxHeartbeats 40000000 in
theorem comes_1 {Post : Tables → Env → Array Value → State → Outcome → State → Prop} (hpost : ∀ tb e args s v u, (limb_1_1.after args s (.returned v) u = true ∧ limb_1_2.after args s (.returned v) u = true ∧ True) → FrameEnd s (.returned v) u (Jvm.fieldLocs frame_1_writes args s ++ Jvm.arrayLocs frame_1_arrays args s ++ Jvm.staticLocs frame_1_statics s) 16 128 → Post tb e args s (.returned v) u) :
    ArmFor flags0 classFile x code maxLocals ret World_1 tables_1 room_1 Calls_1 rest_1 Pre_1 Post := by
  intro l hfl _ _ p e ha hc hk s m args below hf hA hF happ hP
  obtain ⟨hcalls, hrest, hpre⟩ := hP
  obtain ⟨-, -, -, hnamed, -, -, -, hat⟩ := (Spec.applies_iff hf).mp happ
  obtain ⟨hg, hn⟩ := and_e (Cond.before_iff.mp (show (Jvm.Cond.and given_1 narrow_1).before args s = true from hpre))
  obtain ⟨gw1, gw2⟩ := and_e hg
  obtain ⟨gw3, gw4⟩ := and_e gw2
  obtain ⟨gw5, gw6⟩ := and_e gw4
  obtain ⟨gw7, gw8⟩ := and_e gw6
  obtain ⟨gw9, gw10⟩ := and_e gw8
  obtain ⟨gw11, gw12⟩ := and_e gw10
  obtain ⟨w0, w1, w2, w3, w4, w5, rfl⟩ : ∃ w0 w1 w2 w3 w4 w5 : Value, args = #[w0, w1, w2, w3, w4, w5] := by
    have hs : args.size = 6 := by simpa [Cond.value, given_1] using gw1
    obtain ⟨L⟩ := args
    match L, hs with
    | [w0, w1, w2, w3, w4, w5], _ => exact ⟨w0, w1, w2, w3, w4, w5, rfl⟩
  have hw := fun d (hd : d ∈ tables_1) => atoms_spec (ws := Jvm.Cond.code x code maxLocals ret :: tables_1) hat d (List.mem_cons_of_mem _ hd)
  have hfit : Fit s := fun {y c} hc i hi => by
    obtain ⟨ha, rfl⟩ := Array.getElem?_eq_some_iff.mp hc
    have q := List.all_eq_true.mp ((Array.all_eq_true_iff_forall_mem.mp hF) _ (Array.getElem_mem ha)) i (List.mem_range.mpr hi)
    simpa [Array.getElem?_eq_getElem hi] using q
  obtain ⟨i0, ei0⟩ := isL_v gw3
  obtain rfl : w0 = (.long i0) := Option.some.inj ei0
  obtain ⟨i1, ei1⟩ := isL_v gw5
  obtain rfl : w1 = (.long i1) := Option.some.inj ei1
  obtain ⟨i2, ei2⟩ := isL_v gw7
  obtain rfl : w2 = (.long i2) := Option.some.inj ei2
  obtain ⟨i3, ei3⟩ := isL_v gw9
  obtain rfl : w3 = (.long i3) := Option.some.inj ei3
  obtain ⟨i4, ei4⟩ := is_v gw11
  obtain rfl : w4 = (.int i4) := Option.some.inj ei4
  obtain ⟨i5, ei5⟩ := is_v gw12
  obtain rfl : w5 = (.int i5) := Option.some.inj ei5
  obtain ⟨na, nb⟩ := and_e hn
  obtain ⟨aO, eaO⟩ := exa_v na
  have SaO := Sta.start eaO (Or.inr ⟨(hw _ (List.mem_of_getElem? (i := 1) rfl)), (hw _ (List.mem_of_getElem? (i := 2) rfl))⟩)
  obtain ⟨aX, eaX⟩ := exa_v nb
  have SaX := Sta.start eaX (Or.inr ⟨(hw _ (List.mem_of_getElem? (i := 1) rfl)), (hw _ (List.mem_of_getElem? (i := 47) rfl))⟩)
  obtain ⟨n, o, h1, h2, h3, _, L, rfl, ⟨rfl, N⟩, hq⟩ := rm0 l s _ hw tables_1 i0 i1 i2 i3 i4 i5 aO aX s.heap s.heap.size (Nat.le_refl _) SaO SaX p e ha hc hk s m _ below hf ((Spec.applies_iff_loose hf).mp happ).1 ⟨rfl, State.Warmed39.refl s, rfl⟩ trivial
  refine ⟨n, _, h1, h2, h3, hpost _ _ _ _ _ _ ⟨Cond.after_iff.mpr rfl, Cond.after_iff.mpr (eq_i res_at (Term.int_eval (1)) rfl), trivial⟩ ⟨hq.1, hq.2.1, (hq.2.2.sift fun y hy => Or.inr (N y hy)).mono (by decide) (by decide)⟩⟩
theorem main_1_1 : Claimed_1_1 := comes_1 fun _ _ _ _ _ _ h hF => ⟨h.1, hF⟩
theorem main_1_2 : Claimed_1_2 := comes_1 fun _ _ _ _ _ _ h hF => ⟨h.2.1, hF⟩
end Jvm.Pilot.@@N@@
namespace Jvm.Pilot.@@N@@
open Jvm Jvm.ClassFile Sem Op Lib Jvm.Free Jvm.Stand Jvm.Pilot.@@N@@.Jvm.D
/-! MADE BY PROGRAM (witnessworld.py) out of the Statement's table words and the real class files: 14 classes; the members and pool entries that the words name. The judged class is class 1, her method 1. -/
namespace start1
open Jvm.ClassFile
def u (s : String) : CpInfo := .utf8 (stringToUtf16 s)
/-- a pool by its gaps: so many unusable entries, then the entry; so many at the end -/
def gap : Nat → List CpInfo → List CpInfo
  | 0, r => r
  | n + 1, r => .unusable :: gap n r
def poolList (es : List (Nat × CpInfo)) (last : Nat) : List CpInfo := es.foldr (fun e r => gap e.1 (e.2 :: r)) (gap last [])
def pool (es : List (Nat × CpInfo)) (last : Nat) : Array CpInfo := ⟨poolList es last⟩
def fileOf (pool : Array CpInfo) (this : Nat) (attrs : Array Attribute := #[]) (ms : Array MethodInfo := #[]) (fl : Nat := 33) (sup : Nat := 0) (ifs : Array Nat := #[]) (fds : Array FieldInfo := #[]) : ClassFile where
  minorVersion := 0
  majorVersion := 65
  constantPool := pool
  accessFlags := fl
  thisClass := this
  superClass := sup
  interfaces := ifs
  fields := fds
  methods := ms
  attributes := attrs
def plain (name : String) (sup : Option ClassId) : Class where
  name := name
  kind := .ordinary
  loader := none
  accessFlags := 33
  super := sup
  interfaces := #[]
  cf := none
  fields := #[]
  methods := #[]
  instanceTypes := #[]
  staticTypes := #[]
  resolved := #[]
  callSites := []
  init := .initialized
  statics := none
  mirror := none

def pool0 : Array CpInfo := pool [(5, u "<init>"), (0, u "()V"), (1, .class_ 10), (1, u "java/lang/Object")] 113

def k0c0 : Code := { maxStack := 0, maxLocals := 1, code := object_method_1_code, exceptionTable := #[], attributes := #[] }
def k0m0 : Method := { name := "<init>", desc := "()V", sig := { parameters := [], returnType := none }, accessFlags := 1, code := some k0c0 }
/-- java/lang/Object -/
def k0 : Class := { plain "java/lang/Object" none with
  accessFlags := 33
  interfaces := #[]
  cf := some (fileOf pool0 8 #[] #[{ accessFlags := 1, nameIndex := 5, descriptorIndex := 6, attributes := #[] }] 33 0 #[] #[])
  fields := #[]
  methods := #[k0m0]
  instanceTypes := #[]
  staticTypes := #[]
  resolved := Array.replicate 124 none
  statics := none }

def pool1 : Array CpInfo := pool [(2, .class_ 4), (1, u "java/lang/Object"), (0, u "<init>"), (0, u "()V"), (0, .fieldref 8 9), (0, .class_ 10), (0, .nameAndType 11 12), (0, u "com/example/invites_to_friends/invitestofriends/bench/Mode"), (0, u "CROSSED"), (0, u "Lcom/example/invites_to_friends/invitestofriends/bench/Mode;"), (0, .fieldref 8 14), (0, .nameAndType 15 12), (0, u "ORDERED"), (0, .class_ 17), (0, u "com/example/invites_to_friends/invitestofriends/bench/Report"), (0, .methodref 16 19), (0, .nameAndType 5 20), (0, u "(Lcom/example/invites_to_friends/invitestofriends/bench/Mode;JJJJJJJJDDD)V"), (0, .methodref 16 22), (0, .nameAndType 23 24), (0, u "allAnswered2xx"), (0, u "()Z"), (0, .class_ 26), (0, u "com/example/invites_to_friends/invitestofriends/bench/ReportAllAnswered2xxPinLaw"), (2, u "law"), (0, u "(JJJJII)Z")] 3

def k1m0 : Method := { name := "<init>", desc := "()V", sig := { parameters := [], returnType := none }, accessFlags := 1, code := none }
def k1c1 : Code := { maxStack := 25, maxLocals := 23, code := code, exceptionTable := #[], attributes := #[] }
def k1m1 : Method := { name := "law", desc := "(JJJJII)Z", sig := { parameters := [.long, .long, .long, .long, .int, .int], returnType := some .boolean }, accessFlags := 9, code := some k1c1 }
/-- com/example/invites_to_friends/invitestofriends/bench/ReportAllAnswered2xxPinLaw -/
def k1 : Class := { plain "com/example/invites_to_friends/invitestofriends/bench/ReportAllAnswered2xxPinLaw" (some 0) with
  accessFlags := 49
  interfaces := #[]
  cf := some (fileOf pool1 25 #[] #[{ accessFlags := 1, nameIndex := 5, descriptorIndex := 6, attributes := #[] }, { accessFlags := 9, nameIndex := 29, descriptorIndex := 30, attributes := #[] }] 49 2 #[] #[])
  fields := #[]
  methods := #[k1m0, k1m1]
  instanceTypes := #[]
  staticTypes := #[]
  resolved := Array.replicate 34 none
  statics := none }

def pool2 : Array CpInfo := pool [(1, .class_ 2), (0, u "java/lang/constant/Constable"), (0, .class_ 4), (0, u "java/lang/Object")] 6

/-- java/lang/constant/Constable -/
def k2 : Class := { plain "java/lang/constant/Constable" (some 0) with
  accessFlags := 1537
  interfaces := #[]
  cf := some (fileOf pool2 1 #[] #[] 1537 3 #[] #[])
  fields := #[]
  methods := #[]
  instanceTypes := #[]
  staticTypes := #[]
  resolved := Array.replicate 11 none
  statics := none }

def pool3 : Array CpInfo := pool [(1, .class_ 2), (0, u "java/lang/Comparable"), (0, .class_ 4), (0, u "java/lang/Object")] 7

/-- java/lang/Comparable -/
def k3 : Class := { plain "java/lang/Comparable" (some 0) with
  accessFlags := 1537
  interfaces := #[]
  cf := some (fileOf pool3 1 #[] #[] 1537 3 #[] #[])
  fields := #[]
  methods := #[]
  instanceTypes := #[]
  staticTypes := #[]
  resolved := Array.replicate 12 none
  statics := none }

def pool4 : Array CpInfo := pool [(1, .class_ 2), (0, u "java/io/Serializable"), (0, .class_ 4), (0, u "java/lang/Object")] 2

/-- java/io/Serializable -/
def k4 : Class := { plain "java/io/Serializable" (some 0) with
  accessFlags := 1537
  interfaces := #[]
  cf := some (fileOf pool4 1 #[] #[] 1537 3 #[] #[])
  fields := #[]
  methods := #[]
  instanceTypes := #[]
  staticTypes := #[]
  resolved := Array.replicate 7 none
  statics := none }

def pool5 : Array CpInfo := pool [(2, .class_ 4), (1, u "java/lang/Enum"), (0, u "name"), (0, u "Ljava/lang/String;"), (2, u "ordinal"), (0, u "I"), (1, .class_ 14), (1, u "java/lang/Object"), (4, u "hash"), (86, .class_ 108), (1, u "java/lang/Enum$EnumDesc"), (2, .class_ 112), (0, u "java/lang/constant/Constable"), (0, .class_ 114), (0, u "java/lang/Comparable"), (0, .class_ 116), (0, u "java/io/Serializable")] 87

/-- java/lang/Enum -/
def k5 : Class := { plain "java/lang/Enum" (some 0) with
  accessFlags := 1057
  interfaces := #[2, 3, 4]
  cf := some (fileOf pool5 2 #[.nestMembers #[106]] #[] 1057 12 #[111, 113, 115] #[{ accessFlags := 18, nameIndex := 5, descriptorIndex := 6, attributes := #[] }, { accessFlags := 18, nameIndex := 9, descriptorIndex := 10, attributes := #[] }, { accessFlags := 2, nameIndex := 19, descriptorIndex := 10, attributes := #[] }])
  fields := #[{ name := "name", type := (.object "java/lang/String"), accessFlags := 18, slot := 0, constantValue := 0 }, { name := "ordinal", type := .int, accessFlags := 18, slot := 1, constantValue := 0 }, { name := "hash", type := .int, accessFlags := 2, slot := 2, constantValue := 0 }]
  methods := #[]
  instanceTypes := #[(.object "java/lang/String"), .int, .int]
  staticTypes := #[]
  resolved := Array.replicate 204 none
  statics := none }

def pool6 : Array CpInfo := pool [(1, .class_ 2), (0, u "com/example/invites_to_friends/invitestofriends/bench/Mode"), (2, u "CROSSED"), (0, u "Lcom/example/invites_to_friends/invitestofriends/bench/Mode;"), (2, u "ORDERED"), (2, u "$VALUES"), (0, u "[Lcom/example/invites_to_friends/invitestofriends/bench/Mode;"), (6, .class_ 22), (1, u "java/lang/Enum"), (8, u "label"), (0, u "Ljava/lang/String;")] 79

/-- com/example/invites_to_friends/invitestofriends/bench/Mode -/
def k6 : Class := { plain "com/example/invites_to_friends/invitestofriends/bench/Mode" (some 5) with
  accessFlags := 16433
  interfaces := #[]
  cf := some (fileOf pool6 1 #[] #[] 16433 20 #[] #[{ accessFlags := 16409, nameIndex := 5, descriptorIndex := 6, attributes := #[] }, { accessFlags := 16409, nameIndex := 9, descriptorIndex := 6, attributes := #[] }, { accessFlags := 18, nameIndex := 31, descriptorIndex := 32, attributes := #[] }, { accessFlags := 4122, nameIndex := 12, descriptorIndex := 13, attributes := #[] }])
  fields := #[{ name := "CROSSED", type := (.object "com/example/invites_to_friends/invitestofriends/bench/Mode"), accessFlags := 16409, slot := 0, constantValue := 0 }, { name := "ORDERED", type := (.object "com/example/invites_to_friends/invitestofriends/bench/Mode"), accessFlags := 16409, slot := 1, constantValue := 0 }, { name := "label", type := (.object "java/lang/String"), accessFlags := 18, slot := 3, constantValue := 0 }, { name := "$VALUES", type := (.array (.object "com/example/invites_to_friends/invitestofriends/bench/Mode")), accessFlags := 4122, slot := 2, constantValue := 0 }]
  methods := #[]
  instanceTypes := #[(.object "java/lang/String"), .int, .int, (.object "java/lang/String")]
  staticTypes := #[(.object "com/example/invites_to_friends/invitestofriends/bench/Mode"), (.object "com/example/invites_to_friends/invitestofriends/bench/Mode"), (.array (.object "com/example/invites_to_friends/invitestofriends/bench/Mode"))]
  resolved := Array.replicate 112 none
  statics := some 0 }

def pool7 : Array CpInfo := pool [(1, .methodref 2 3), (0, .class_ 4), (0, .nameAndType 5 6), (0, u "java/lang/Object"), (0, u "<init>"), (0, u "()V"), (0, .class_ 8), (0, u "java/lang/Record")] 13

def k7c0 : Code := { maxStack := 1, maxLocals := 1, code := jdk_30_method_1_code, exceptionTable := #[], attributes := #[] }
def k7m0 : Method := { name := "<init>", desc := "()V", sig := { parameters := [], returnType := none }, accessFlags := 4, code := some k7c0 }
/-- java/lang/Record -/
def k7 : Class := { plain "java/lang/Record" (some 0) with
  accessFlags := 1057
  interfaces := #[]
  cf := some (fileOf pool7 7 #[] #[{ accessFlags := 4, nameIndex := 5, descriptorIndex := 6, attributes := #[] }] 1057 2 #[] #[])
  fields := #[]
  methods := #[k7m0]
  instanceTypes := #[]
  staticTypes := #[]
  resolved := Array.replicate 22 none
  statics := none }

def pool8 : Array CpInfo := pool [(1, .methodref 2 3), (0, .class_ 4), (0, .nameAndType 5 6), (0, u "java/lang/Record"), (0, u "<init>"), (0, u "()V"), (0, .fieldref 8 9), (0, .class_ 10), (0, .nameAndType 11 12), (0, u "com/example/invites_to_friends/invitestofriends/bench/Report"), (0, u "mode"), (0, u "Lcom/example/invites_to_friends/invitestofriends/bench/Mode;"), (0, .fieldref 8 14), (0, .nameAndType 15 16), (0, u "pairs"), (0, u "J"), (0, .fieldref 8 18), (0, .nameAndType 19 16), (0, u "calls"), (0, .fieldref 8 21), (0, .nameAndType 22 16), (0, u "answered2xx"), (0, .fieldref 8 24), (0, .nameAndType 25 16), (0, u "answeredOther"), (0, .fieldref 8 27), (0, .nameAndType 28 16), (0, u "failedToAnswer"), (0, .fieldref 8 30), (0, .nameAndType 31 16), (0, u "answeredRequested"), (0, .fieldref 8 33), (0, .nameAndType 34 16), (0, u "answeredFriends"), (0, .fieldref 8 36), (0, .nameAndType 37 16), (0, u "pairsOverlapped"), (0, .fieldref 8 39), (0, .nameAndType 40 41), (0, u "seconds"), (0, u "D"), (0, .fieldref 8 43), (0, .nameAndType 44 41), (0, u "p50Millis"), (0, .fieldref 8 46), (0, .nameAndType 47 41), (0, u "p99Millis"), (73, u "(Lcom/example/invites_to_friends/invitestofriends/bench/Mode;JJJJJJJJDDD)V"), (3, u "allAnswered2xx"), (0, u "()Z")] 64

def k8c0 : Code := { maxStack := 3, maxLocals := 24, code := prog_7_method_1_code, exceptionTable := #[], attributes := #[] }
def k8m0 : Method := { name := "<init>", desc := "(Lcom/example/invites_to_friends/invitestofriends/bench/Mode;JJJJJJJJDDD)V", sig := { parameters := [(.object "com/example/invites_to_friends/invitestofriends/bench/Mode"), .long, .long, .long, .long, .long, .long, .long, .long, .double, .double, .double], returnType := none }, accessFlags := 1, code := some k8c0 }
def k8c1 : Code := { maxStack := 4, maxLocals := 1, code := prog_7_method_2_code, exceptionTable := #[], attributes := #[] }
def k8m1 : Method := { name := "allAnswered2xx", desc := "()Z", sig := { parameters := [], returnType := some .boolean }, accessFlags := 1, code := some k8c1 }
/-- com/example/invites_to_friends/invitestofriends/bench/Report -/
def k8 : Class := { plain "com/example/invites_to_friends/invitestofriends/bench/Report" (some 7) with
  accessFlags := 49
  interfaces := #[]
  cf := some (fileOf pool8 8 #[] #[{ accessFlags := 1, nameIndex := 5, descriptorIndex := 121, attributes := #[] }, { accessFlags := 1, nameIndex := 125, descriptorIndex := 126, attributes := #[] }] 49 2 #[] #[{ accessFlags := 18, nameIndex := 11, descriptorIndex := 12, attributes := #[] }, { accessFlags := 18, nameIndex := 15, descriptorIndex := 16, attributes := #[] }, { accessFlags := 18, nameIndex := 19, descriptorIndex := 16, attributes := #[] }, { accessFlags := 18, nameIndex := 22, descriptorIndex := 16, attributes := #[] }, { accessFlags := 18, nameIndex := 25, descriptorIndex := 16, attributes := #[] }, { accessFlags := 18, nameIndex := 28, descriptorIndex := 16, attributes := #[] }, { accessFlags := 18, nameIndex := 31, descriptorIndex := 16, attributes := #[] }, { accessFlags := 18, nameIndex := 34, descriptorIndex := 16, attributes := #[] }, { accessFlags := 18, nameIndex := 37, descriptorIndex := 16, attributes := #[] }, { accessFlags := 18, nameIndex := 40, descriptorIndex := 41, attributes := #[] }, { accessFlags := 18, nameIndex := 44, descriptorIndex := 41, attributes := #[] }, { accessFlags := 18, nameIndex := 47, descriptorIndex := 41, attributes := #[] }])
  fields := #[{ name := "mode", type := (.object "com/example/invites_to_friends/invitestofriends/bench/Mode"), accessFlags := 18, slot := 0, constantValue := 0 }, { name := "pairs", type := .long, accessFlags := 18, slot := 1, constantValue := 0 }, { name := "calls", type := .long, accessFlags := 18, slot := 2, constantValue := 0 }, { name := "answered2xx", type := .long, accessFlags := 18, slot := 3, constantValue := 0 }, { name := "answeredOther", type := .long, accessFlags := 18, slot := 4, constantValue := 0 }, { name := "failedToAnswer", type := .long, accessFlags := 18, slot := 5, constantValue := 0 }, { name := "answeredRequested", type := .long, accessFlags := 18, slot := 6, constantValue := 0 }, { name := "answeredFriends", type := .long, accessFlags := 18, slot := 7, constantValue := 0 }, { name := "pairsOverlapped", type := .long, accessFlags := 18, slot := 8, constantValue := 0 }, { name := "seconds", type := .double, accessFlags := 18, slot := 9, constantValue := 0 }, { name := "p50Millis", type := .double, accessFlags := 18, slot := 10, constantValue := 0 }, { name := "p99Millis", type := .double, accessFlags := 18, slot := 11, constantValue := 0 }]
  methods := #[k8m0, k8m1]
  instanceTypes := #[(.object "com/example/invites_to_friends/invitestofriends/bench/Mode"), .long, .long, .long, .long, .long, .long, .long, .long, .double, .double, .double]
  staticTypes := #[]
  resolved := Array.replicate 191 none
  statics := none }

def pool9 : Array CpInfo := pool [(1, u "java/lang/Cloneable"), (0, .class_ 1), (0, u "java/lang/Object"), (0, .class_ 3)] 3

/-- java/lang/Cloneable -/
def k9 : Class := { plain "java/lang/Cloneable" (some 0) with
  accessFlags := 1537
  interfaces := #[]
  cf := some (fileOf pool9 2 #[] #[] 1537 4 #[] #[])
  fields := #[]
  methods := #[]
  instanceTypes := #[]
  staticTypes := #[]
  resolved := Array.replicate 8 none
  statics := none }

/-- the primitive byte -/
def k10 : Class := { plain "byte" none with kind := .primitive 'B', accessFlags := 0x411 }
/-- [B -/
def k11 : Class := { plain "[B" (some 0) with kind := .array 10 .byte, interfaces := #[9, 4], accessFlags := 1041 }

/-- the primitive int -/
def k12 : Class := { plain "int" none with kind := .primitive 'I', accessFlags := 0x411 }
/-- [I -/
def k13 : Class := { plain "[I" (some 0) with kind := .array 12 .int, interfaces := #[9, 4], accessFlags := 1041 }

def heap : Heap := #[{ cls := 6, slots := #[.ref 2, .ref 1, .null], vm := .statics 6 },
  { cls := 6, slots := #[.null, .int 0, .int 0, .null], vm := .none },
  { cls := 6, slots := #[.null, .int 1, .int 0, .null], vm := .none }]
def classes : Array Class := #[k0, k1, k2, k3, k4, k5, k6, k7, k8, k9, k10, k11, k12, k13]
def interned : List (Array UInt16 × Addr) := []
def slotsUsed : Nat := 11
def theMethod : MethodId := ⟨1, 1⟩
def args0 : Array Value := #[.long 5, .long 3, .long 3, .long 9, .int 4, .int 3]
def aboutOver (below : List Frame) : State where
  vm := { classes := classes, interned := interned.toArray }
  heap := heap
  slotsUsed := slotsUsed
  threads := #[{ frames := .invoking theMethod args0 :: below }]
def below0 : List Frame := [.native { method := ⟨0, 0⟩, args := #[] }]
def about1 : State := aboutOver below0
def p0 : Program := .bare "" "" ""
def e0 : Env := launch0.env 0 0 0
theorem w_frames : about1.frames = Frame.invoking theMethod args0 :: below0 := rfl
set_option maxRecDepth 65536 in
theorem w_args : argsFit about1.vm theMethod args0 = true := by decide +kernel
set_option maxRecDepth 65536 in
theorem w_heap : heapFits about1 = true := by decide +kernel
set_option maxRecDepth 65536 in
theorem w_runnable : about1.curStatus? = some .runnable := by decide +kernel
set_option maxRecDepth 65536 in
theorem w_alone : about1.alone = true := by decide +kernel
set_option maxRecDepth 65536 in
theorem w_named : about1.methodNamed? x = some theMethod := by decide +kernel
set_option maxRecDepth 65536 in
theorem w_hears : about1.hears theMethod below0 = true := by decide +kernel
set_option maxRecDepth 65536 in
theorem w_ripe : about1.ripe theMethod args0 below0 = true := by decide +kernel
theorem w_running : about1.status = .running := rfl
set_option maxRecDepth 65536 in
theorem w_room : about1.hasRoom e0.platform room_1 = true :=
  launch0.hasRoom_least _ room_1 (by decide +kernel) (by decide +kernel) (by decide +kernel) (by decide +kernel) (by decide +kernel) (by decide +kernel)
theorem allAtoms_all (ts : List Jvm.Cond) (a : Array Jvm.Value) (st : Jvm.State) : (allAtoms ts).before a st = ts.all (fun c => c.before a st) := by
  induction ts with
  | nil => rfl
  | cons c t ih =>
    show (Jvm.Cond.and c (allAtoms t)).before a st = _
    rw [Jvm.Cond.before_and, ih, List.all_cons]
def words1 : List Jvm.Cond := Jvm.Cond.code x code maxLocals ret :: tables_1
/-- a 'code' word, met by the world's own term for the bytes: nothing is compared byte by byte -/
theorem code_word {y : MethodName} {bytes : ByteArray} {mx : Nat} {rt : Option FieldType} {a : Array Value} {s : State} {m : MethodId} {meth : Method} {c : Code} (h1 : s.methodNamed? y = some m) (h2 : s.vm.method? m = some meth) (h3 : meth.code = some c) (h4 : c.code = bytes)
    (h5 : (c.maxLocals == mx && c.exceptionTable.isEmpty && decide (c.maxStack ≤ mostOperands) && decide (meth.sig.returnType = rt) && !meth.locks && decide (parseMethodDescriptor y.desc = some meth.sig)) = true) : (Jvm.Cond.code y bytes mx rt).before a s = true := by
  simp only [Bool.and_eq_true, beq_iff_eq, Bool.not_eq_true', decide_eq_true_eq] at h5
  obtain ⟨⟨⟨⟨⟨g1, g2⟩, g3⟩, g4⟩, g5⟩, g6⟩ := h5
  simp [Cond.before, Cond.holds, Cond.value, h1, h2, h3, h4, g1, g2, g3, g4, g5, g6]
def isCode : Jvm.Cond → Bool
  | .code _ _ _ _ => true
  | _ => false
theorem all_split {L : List Jvm.Cond} {P : Jvm.Cond → Bool} (h1 : L.all (fun c => isCode c || P c) = true) (h2 : ∀ c ∈ L.filter isCode, P c = true) : L.all P = true := by
  refine List.all_eq_true.mpr fun c hc => ?_
  have h := List.all_eq_true.mp h1 c hc
  rcases Bool.eq_false_or_eq_true (isCode c) with hi | hi
  · exact h2 c (List.mem_filter.mpr ⟨hc, hi⟩)
  · simpa [hi] using h
set_option maxRecDepth 65536 in
theorem w_c0 : (Jvm.Cond.code x code maxLocals ret).before args0 about1 = true := code_word (m := ⟨1, 1⟩) (meth := k1m1) (c := k1c1) (by decide +kernel) rfl rfl rfl (by decide +kernel)
set_option maxRecDepth 65536 in
theorem w_c1 : (Jvm.Cond.code ({ cls := "com/example/invites_to_friends/invitestofriends/bench/Report", name := "<init>", desc := "(Lcom/example/invites_to_friends/invitestofriends/bench/Mode;JJJJJJJJDDD)V" } : Jvm.MethodName) prog_7_method_1_code (24 : Nat) (Option.none : Option Jvm.ClassFile.FieldType)).before args0 about1 = true := code_word (m := ⟨8, 0⟩) (meth := k8m0) (c := k8c0) (by decide +kernel) rfl rfl rfl (by decide +kernel)
set_option maxRecDepth 65536 in
theorem w_c2 : (Jvm.Cond.code ({ cls := "java/lang/Record", name := "<init>", desc := "()V" } : Jvm.MethodName) jdk_30_method_1_code (1 : Nat) (Option.none : Option Jvm.ClassFile.FieldType)).before args0 about1 = true := code_word (m := ⟨7, 0⟩) (meth := k7m0) (c := k7c0) (by decide +kernel) rfl rfl rfl (by decide +kernel)
set_option maxRecDepth 65536 in
theorem w_c3 : (Jvm.Cond.code ({ cls := "java/lang/Object", name := "<init>", desc := "()V" } : Jvm.MethodName) object_method_1_code (1 : Nat) (Option.none : Option Jvm.ClassFile.FieldType)).before args0 about1 = true := code_word (m := ⟨0, 0⟩) (meth := k0m0) (c := k0c0) (by decide +kernel) rfl rfl rfl (by decide +kernel)
set_option maxRecDepth 65536 in
theorem w_c4 : (Jvm.Cond.code ({ cls := "com/example/invites_to_friends/invitestofriends/bench/Report", name := "allAnswered2xx", desc := "()Z" } : Jvm.MethodName) prog_7_method_2_code (1 : Nat) (Option.some Jvm.ClassFile.FieldType.boolean)).before args0 about1 = true := code_word (m := ⟨8, 1⟩) (meth := k8m1) (c := k8c1) (by decide +kernel) rfl rfl rfl (by decide +kernel)
def codes1 : List Jvm.Cond := [Jvm.Cond.code x code maxLocals ret, Jvm.Cond.code ({ cls := "com/example/invites_to_friends/invitestofriends/bench/Report", name := "<init>", desc := "(Lcom/example/invites_to_friends/invitestofriends/bench/Mode;JJJJJJJJDDD)V" } : Jvm.MethodName) prog_7_method_1_code (24 : Nat) (Option.none : Option Jvm.ClassFile.FieldType), Jvm.Cond.code ({ cls := "java/lang/Record", name := "<init>", desc := "()V" } : Jvm.MethodName) jdk_30_method_1_code (1 : Nat) (Option.none : Option Jvm.ClassFile.FieldType), Jvm.Cond.code ({ cls := "java/lang/Object", name := "<init>", desc := "()V" } : Jvm.MethodName) object_method_1_code (1 : Nat) (Option.none : Option Jvm.ClassFile.FieldType), Jvm.Cond.code ({ cls := "com/example/invites_to_friends/invitestofriends/bench/Report", name := "allAnswered2xx", desc := "()Z" } : Jvm.MethodName) prog_7_method_2_code (1 : Nat) (Option.some Jvm.ClassFile.FieldType.boolean)]
set_option maxRecDepth 65536 in
theorem codes_eq : words1.filter isCode = codes1 := rfl
theorem w_codes : ∀ c ∈ words1.filter isCode, c.before args0 about1 = true := by
  rw [codes_eq]
  intro c hc
  simp only [codes1, List.mem_cons, List.not_mem_nil, or_false] at hc
  rcases hc with rfl | rfl | rfl | rfl | rfl
  · exact w_c0
  · exact w_c1
  · exact w_c2
  · exact w_c3
  · exact w_c4
set_option maxRecDepth 65536 in
theorem w_t1 : (words1.take 24).all (fun c => isCode c || c.before args0 about1) = true := by decide +kernel
set_option maxRecDepth 65536 in
theorem w_t2 : ((words1.drop 24).take 24).all (fun c => isCode c || c.before args0 about1) = true := by decide +kernel
set_option maxRecDepth 65536 in
theorem w_t3 : ((words1.drop 24).drop 24).all (fun c => isCode c || c.before args0 about1) = true := by decide +kernel
theorem w_tables : (allAtoms (Jvm.Cond.code x code maxLocals ret :: tables_1)).before args0 about1 = true := by
  rw [allAtoms_all]
  show words1.all (fun c => c.before args0 about1) = true
  refine all_split ?_ w_codes
  rw [← List.take_append_drop 24 words1, List.all_append, w_t1, ← List.take_append_drop 24 (words1.drop 24), List.all_append, w_t2, w_t3]
  rfl
set_option maxRecDepth 65536 in
theorem w_case : (Jvm.Cond.and given_1 narrow_1).before args0 about1 = true := by decide +kernel
theorem w_applies : (headSpec (Jvm.Cond.code x code maxLocals ret :: tables_1) room_1).applies x e0.platform about1 = true :=
  (Spec.applies_iff w_frames).mpr ⟨w_running, w_runnable, w_alone, w_named, w_hears, w_ripe, w_room, w_tables⟩
theorem atStart : AtStart classFile x code maxLocals ret World_1 tables_1 room_1 Calls_1 rest_1 Pre_1 launch0 p0 e0 about1 theMethod args0 below0 :=
  ⟨lists_1, trivial, launch0.admits_env _ _ _, launch0.least_env, fairChoices_fair.cas, fairChoices_fair.clock, w_frames, w_args, w_heap, w_applies, trivial, trivial, w_case⟩
end start1
theorem witness_1 : WitnessClaimed_1 := ⟨start1.p0, start1.e0, start1.about1, start1.theMethod, start1.args0, start1.below0, start1.atStart⟩
end Jvm.Pilot.@@N@@
