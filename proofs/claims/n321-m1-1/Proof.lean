import JvmDerived
import JvmDerived.Pilot.@@N@@Statement
import JvmDerived.Pilot.@@N@@Code
set_option linter.unusedVariables false
set_option linter.unusedSimpArgs false
namespace Jvm.Pilot.@@N@@
open Jvm Jvm.ClassFile Sem Op Lib Jvm.Free Jvm.Stand Jvm.LawKit Jvm.RoadKit Bundle Jvm.Pilot.@@N@@.Jvm.D
-- OWN KIT (mine): reach, finish, weakening of the counters, arrays by a function, arithmetic in omega's form
abbrev own_R (tb : Tables) (e : Env) (below : List Frame) (F0 F : State) : Prop := ∀ t, Steps tb e below F t → Steps tb e below F0 t
abbrev own_G (p : Program) (e : Env) (below : List Frame) (s F0 : State) (Q : Option Value → Heap → List Loc → Prop) (kc ks : Nat) : Prop :=
  ∃ s₂ o, Steps p.tables e below F0 s₂ ∧ s₂.status = .running ∧ Ended s₂ below o ∧ ∃ v L, o = .returned v ∧ Q v s₂.heap L ∧ FrameEnd s o s₂ L kc ks
section OwnKit
variable {p : Program} {l : Launch} {e : Env} {R : Room} {s : State} {m : MethodId} {args : Array Value} {below : List Frame} {meth : Method} {c : Code} {T : State} {locs : List Loc} {cells slots : Nat}
theorem own_fin (X : Stand p l e R s m args below meth c T locs cells slots) (hl : meth.locks = false) {F0 : State} {Q : Option Value → Heap → List Loc → Prop} {kc ks : Nat} (v : Option Value) (hv : meth.sig.returnType = none → v = none) (hq : Q v T.heap locs) (hc : cells ≤ kc) (hs : slots ≤ ks)
    (st : ∀ fs, (∀ (f : JFrame) (acts : List Action), f.method = m → f.locked = none → f.entered = [] → (doReturn e (T.setTop f) acts v).1 = T.setFrames fs) → Steps p.tables e below F0 (T.setFrames fs)) : own_G p e below s F0 Q kc ks := by
  obtain ⟨fs, hr, hrun, hended, hW, hsame⟩ := X.leave hv hl
  exact ⟨_, _, st fs hr, hrun, hended, _, _, rfl, hq, ⟨_, rfl⟩, hW, hsame.mono hc hs⟩
theorem own_mono (X : Stand p l e R s m args below meth c T locs cells slots) {c' s' : Nat} (hc : cells ≤ c') (hs : slots ≤ s') : Stand p l e R s m args below meth c T locs c' s' := { X with same := X.same.mono hc hs }
end OwnKit
theorem own_hv {meth : Method} {t : FieldType} {v : Option Value} (h : meth.sig.returnType = some t) : meth.sig.returnType = none → v = none := fun q => by rw [h] at q; cases q
theorem own_lt32 {a b : Int32} (h : a < b) : a.toInt < b.toInt := Int32.lt_iff_toInt_lt.mp h
theorem own_nlt32 {a b : Int32} (h : ¬ a < b) : b.toInt ≤ a.toInt := Int.not_lt.mp fun q => h (Int32.lt_iff_toInt_lt.mpr q)
theorem own_eq32 {a b : Int32} (h : a = b) : a.toInt = b.toInt := congrArg Int32.toInt h
theorem own_ne32 {a b : Int32} (h : ¬ a = b) : a.toInt ≠ b.toInt := fun q => h (Int32.toInt_inj.mp q)
theorem own_lt64 {a b : Int64} (h : a < b) : a.toInt < b.toInt := Int64.lt_iff_toInt_lt.mp h
theorem own_nlt64 {a b : Int64} (h : ¬ a < b) : b.toInt ≤ a.toInt := Int.not_lt.mp fun q => h (Int64.lt_iff_toInt_lt.mpr q)
theorem own_eq64 {a b : Int64} (h : a = b) : a.toInt = b.toInt := congrArg Int64.toInt h
theorem own_ne64 {a b : Int64} (h : ¬ a = b) : a.toInt ≠ b.toInt := fun q => h (Int64.toInt_inj.mp q)
theorem own_imulc (x y : Int32) (d : Int) (h : y.toInt = d) : ((x * y).toInt - x.toInt * d) % 4294967296 = 0 := by rw [← h]; exact c_imul x y
theorem own_imulc' (x y : Int32) (d : Int) (h : x.toInt = d) : ((x * y).toInt - d * y.toInt) % 4294967296 = 0 := by rw [← h]; exact c_imul x y
theorem own_lmulc (x y : Int64) (d : Int) (h : y.toInt = d) : ((x * y).toInt - x.toInt * d) % 18446744073709551616 = 0 := by rw [← h]; exact c_lmul x y
theorem own_lmulc' (x y : Int64) (d : Int) (h : x.toInt = d) : ((x * y).toInt - d * y.toInt) % 18446744073709551616 = 0 := by rw [← h]; exact c_lmul x y
theorem own_mask (x m : Int32) (k : Nat) (P : Int) (hk : k ≤ 31) (hm : m.toBitVec.toNat = 2 ^ k - 1) (hP : P = ((2 ^ k : Nat) : Int)) : (x &&& m).toInt = x.toInt % P := by rw [hP]; exact c_mask x m k hk hm
theorem own_maskL (x m : Int64) (k : Nat) (P : Int) (hk : k ≤ 63) (hm : m.toBitVec.toNat = 2 ^ k - 1) (hP : P = ((2 ^ k : Nat) : Int)) : (x &&& m).toInt = x.toInt % P := by rw [hP]; exact c_maskL x m k hk hm
theorem own_ishr (x q : Int32) (k : Nat) (P : Int) (hk : q.toBitVec.toNat % 32 = k) (hP : P = ((2 ^ k : Nat) : Int)) : (x >>> (q &&& 31)).toInt = x.toInt / P := by rw [hP]; exact c_ishr x q k hk
theorem own_ishl (x q : Int32) (k : Nat) (P : Int) (hk : q.toBitVec.toNat % 32 = k) (hP : P = ((2 ^ k : Nat) : Int)) : ((x <<< (q &&& 31)).toInt - x.toInt * P) % 4294967296 = 0 := by rw [hP]; exact c_ishl x q k hk
theorem own_iushr (x q : Int32) (k : Nat) (P : Int) (hk : q.toBitVec.toNat % 32 = k) (h0 : 0 < k) (hP : P = ((2 ^ k : Nat) : Int)) : ((x.toUInt32 >>> (q &&& 31).toUInt32).toInt32).toInt = (x.toInt % 4294967296) / P := by rw [hP]; exact c_iushr x q k hk h0
theorem own_lshr (x : Int64) (q : Int32) (k : Nat) (P : Int) (hk : q.toBitVec.toNat % 64 = k) (hP : P = ((2 ^ k : Nat) : Int)) : (x >>> (q &&& 0x3f).toInt64).toInt = x.toInt / P := by rw [hP]; exact c_lshr x q k hk
theorem own_lshl (x : Int64) (q : Int32) (k : Nat) (P : Int) (hk : q.toBitVec.toNat % 64 = k) (hP : P = ((2 ^ k : Nat) : Int)) : ((x <<< (q &&& 0x3f).toInt64).toInt - x.toInt * P) % 18446744073709551616 = 0 := by rw [hP]; exact c_lshl x q k hk
theorem own_lushr (x : Int64) (q : Int32) (k : Nat) (P : Int) (hk : q.toBitVec.toNat % 64 = k) (h0 : 0 < k) (hP : P = ((2 ^ k : Nat) : Int)) : ((x.toUInt64 >>> (q &&& 0x3f).toInt64.toUInt64).toInt64).toInt = (x.toInt % 18446744073709551616) / P := by rw [hP]; exact c_lushr x q k hk h0
theorem own_lc_lt {x y : Int64} {cd : ClassFile.Cond} {b : Bool} (h : if_icmp.holds cd (lcmpW x y) 0 = b) : ifCond.holds cd (lcmpW x y) = b := (if0 _ _).trans h
theorem own_l_lt {x y : Int64} (h : x < y) : ifCond.holds .lt (lcmpW x y) = true ∧ ifCond.holds .ge (lcmpW x y) = false := ⟨(if0 _ _).trans (tlt ((lw_lt x y).mpr h)).1, (if0 _ _).trans (tlt ((lw_lt x y).mpr h)).2.1⟩
theorem own_l_nlt {x y : Int64} (h : ¬ x < y) : ifCond.holds .lt (lcmpW x y) = false ∧ ifCond.holds .ge (lcmpW x y) = true := ⟨(if0 _ _).trans (flt (fun q => h ((lw_lt x y).mp q))).1, (if0 _ _).trans (flt (fun q => h ((lw_lt x y).mp q))).2.1⟩
theorem own_l_gt {x y : Int64} (h : y < x) : ifCond.holds .gt (lcmpW x y) = true ∧ ifCond.holds .le (lcmpW x y) = false := ⟨(if0 _ _).trans (tlt ((lw_gt x y).mpr h)).2.2.1, (if0 _ _).trans (tlt ((lw_gt x y).mpr h)).2.2.2⟩
theorem own_l_ngt {x y : Int64} (h : ¬ y < x) : ifCond.holds .gt (lcmpW x y) = false ∧ ifCond.holds .le (lcmpW x y) = true := ⟨(if0 _ _).trans (flt (fun q => h ((lw_gt x y).mp q))).2.2.1, (if0 _ _).trans (flt (fun q => h ((lw_gt x y).mp q))).2.2.2⟩
theorem own_l_eq {x y : Int64} (h : x = y) : ifCond.holds .eq (lcmpW x y) = true ∧ ifCond.holds .ne (lcmpW x y) = false := ⟨(if0 _ _).trans (teq ((lw_eq x y).mpr h)).1, (if0 _ _).trans (teq ((lw_eq x y).mpr h)).2⟩
theorem own_l_neq {x y : Int64} (h : ¬ x = y) : ifCond.holds .eq (lcmpW x y) = false ∧ ifCond.holds .ne (lcmpW x y) = true := ⟨(if0 _ _).trans (feq (fun q => h ((lw_eq x y).mp q))).1, (if0 _ _).trans (feq (fun q => h ((lw_eq x y).mp q))).2⟩
theorem own_lrem {x y : Int64} {d : Int} (hy : y.toInt = d) : (0 ≤ x.toInt → (x - (x / y) * y).toInt = x.toInt % d) ∧ (x.toInt < 0 → (x - (x / y) * y).toInt = -((-x.toInt) % d)) := c_lrem x y d hy
theorem own_lremf (x y : Int64) (d : Int) (hy : y.toInt = d) : (0 ≤ x.toInt → (x % y).toInt = x.toInt % d) ∧ (x.toInt < 0 → (x % y).toInt = -((-x.toInt) % d)) := by rw [Int64.toInt_mod, hy]; exact tr _ _
theorem own_lremM {p : Program} {l : Launch} {e : Env} {R : Room} {s : State} {m : MethodId} {args : Array Value} {below : List Frame} {meth : Method} {c : Code} {T : State} {locs : List Loc} {cells slots : Nat} {g : JFrame} {target : State} (X : Stand p l e R s m args below meth c T locs cells slots) (hx : p.tables.exec = Jvm.exec) (hg : g.method = m) {x y : Int64} {rest : List Value} (hd : decode c.code g.pc = .ok (.lrem, 1)) (hs : g.stack = .long y :: .long x :: rest) (hy : y ≠ 0)
    (hr : Steps p.tables e below (T.setTop { g with pc := g.pc + 1, stack := .long (x % y) :: rest }) target) : Steps p.tables e below (T.setTop g) target :=
  XS.lrem X.here hx hg hd hs hy (by rw [lrem_mod]; exact hr)
theorem own_R32 (x : Int32) : -2147483648 ≤ x.toInt ∧ x.toInt ≤ 2147483647 := by have := rng32 x; omega
theorem own_R64 (x : Int64) : -9223372036854775808 ≤ x.toInt ∧ x.toInt ≤ 9223372036854775807 := by have := rng64 x; omega
theorem own_iaddR {x y : Int32} {a b c d : Int} (lo hi : Int) (hx : a ≤ x.toInt ∧ x.toInt ≤ b) (hy : c ≤ y.toInt ∧ y.toInt ≤ d) (h1 : -2147483648 ≤ a + c ∧ b + d ≤ 2147483647) (h2 : lo ≤ a + c ∧ b + d ≤ hi) : (x + y).toInt = x.toInt + y.toInt ∧ lo ≤ (x + y).toInt ∧ (x + y).toInt ≤ hi := by have := c_iadd x y; have := rng32 (x + y); omega
theorem own_isubR {x y : Int32} {a b c d : Int} (lo hi : Int) (hx : a ≤ x.toInt ∧ x.toInt ≤ b) (hy : c ≤ y.toInt ∧ y.toInt ≤ d) (h1 : -2147483648 ≤ a - d ∧ b - c ≤ 2147483647) (h2 : lo ≤ a - d ∧ b - c ≤ hi) : (x - y).toInt = x.toInt - y.toInt ∧ lo ≤ (x - y).toInt ∧ (x - y).toInt ≤ hi := by have := c_isub x y; have := rng32 (x - y); omega
theorem own_laddR {x y : Int64} {a b c d : Int} (lo hi : Int) (hx : a ≤ x.toInt ∧ x.toInt ≤ b) (hy : c ≤ y.toInt ∧ y.toInt ≤ d) (h1 : -9223372036854775808 ≤ a + c ∧ b + d ≤ 9223372036854775807) (h2 : lo ≤ a + c ∧ b + d ≤ hi) : (x + y).toInt = x.toInt + y.toInt ∧ lo ≤ (x + y).toInt ∧ (x + y).toInt ≤ hi := by have := c_ladd x y; have := rng64 (x + y); omega
theorem own_lsubR {x y : Int64} {a b c d : Int} (lo hi : Int) (hx : a ≤ x.toInt ∧ x.toInt ≤ b) (hy : c ≤ y.toInt ∧ y.toInt ≤ d) (h1 : -9223372036854775808 ≤ a - d ∧ b - c ≤ 9223372036854775807) (h2 : lo ≤ a - d ∧ b - c ≤ hi) : (x - y).toInt = x.toInt - y.toInt ∧ lo ≤ (x - y).toInt ∧ (x - y).toInt ≤ hi := by have := c_lsub x y; have := rng64 (x - y); omega
theorem own_imulR {x y : Int32} {a b k : Int} (lo hi : Int) (hx : a ≤ x.toInt ∧ x.toInt ≤ b) (hy : y.toInt = k) (hk : 0 ≤ k) (h1 : -2147483648 ≤ a * k ∧ b * k ≤ 2147483647) (h2 : lo ≤ a * k ∧ b * k ≤ hi) : (x * y).toInt = x.toInt * k ∧ lo ≤ (x * y).toInt ∧ (x * y).toInt ≤ hi := by
  have h := c_imul x y; have := rng32 (x * y); rw [hy] at h
  have p1 := Int.mul_le_mul_of_nonneg_right hx.1 hk; have p2 := Int.mul_le_mul_of_nonneg_right hx.2 hk
  generalize x.toInt * k = z at *; generalize a * k = z1 at *; generalize b * k = z2 at *; omega
theorem own_lmulR {x y : Int64} {a b k : Int} (lo hi : Int) (hx : a ≤ x.toInt ∧ x.toInt ≤ b) (hy : y.toInt = k) (hk : 0 ≤ k) (h1 : -9223372036854775808 ≤ a * k ∧ b * k ≤ 9223372036854775807) (h2 : lo ≤ a * k ∧ b * k ≤ hi) : (x * y).toInt = x.toInt * k ∧ lo ≤ (x * y).toInt ∧ (x * y).toInt ≤ hi := by
  have h := c_lmul x y; have := rng64 (x * y); rw [hy] at h
  have p1 := Int.mul_le_mul_of_nonneg_right hx.1 hk; have p2 := Int.mul_le_mul_of_nonneg_right hx.2 hk
  generalize x.toInt * k = z at *; generalize a * k = z1 at *; generalize b * k = z2 at *; omega
theorem own_imulR' {x y : Int32} {a b k : Int} (lo hi : Int) (hx : a ≤ y.toInt ∧ y.toInt ≤ b) (hy : x.toInt = k) (hk : 0 ≤ k) (h1 : -2147483648 ≤ a * k ∧ b * k ≤ 2147483647) (h2 : lo ≤ a * k ∧ b * k ≤ hi) : (x * y).toInt = y.toInt * k ∧ lo ≤ (x * y).toInt ∧ (x * y).toInt ≤ hi := by rw [Int32.mul_comm]; exact own_imulR lo hi hx hy hk h1 h2
theorem own_lmulR' {x y : Int64} {a b k : Int} (lo hi : Int) (hx : a ≤ y.toInt ∧ y.toInt ≤ b) (hy : x.toInt = k) (hk : 0 ≤ k) (h1 : -9223372036854775808 ≤ a * k ∧ b * k ≤ 9223372036854775807) (h2 : lo ≤ a * k ∧ b * k ≤ hi) : (x * y).toInt = y.toInt * k ∧ lo ≤ (x * y).toInt ∧ (x * y).toInt ≤ hi := by rw [Int64.mul_comm]; exact own_lmulR lo hi hx hy hk h1 h2
theorem own_maskR (x m : Int32) (k : Nat) (P : Int) (hk : k ≤ 31) (hm : m.toBitVec.toNat = 2 ^ k - 1) (hP : P = ((2 ^ k : Nat) : Int)) (hi : Int) (h0 : 0 < P) (h : P ≤ hi + 1) : (x &&& m).toInt = x.toInt % P ∧ 0 ≤ (x &&& m).toInt ∧ (x &&& m).toInt ≤ hi := by
  have e := own_mask x m k P hk hm hP; have h1 := Int.emod_nonneg x.toInt (show P ≠ 0 by omega); have h2 := Int.emod_lt_of_pos x.toInt h0; omega
theorem own_maskLR (x m : Int64) (k : Nat) (P : Int) (hk : k ≤ 63) (hm : m.toBitVec.toNat = 2 ^ k - 1) (hP : P = ((2 ^ k : Nat) : Int)) (hi : Int) (h0 : 0 < P) (h : P ≤ hi + 1) : (x &&& m).toInt = x.toInt % P ∧ 0 ≤ (x &&& m).toInt ∧ (x &&& m).toInt ≤ hi := by
  have e := own_maskL x m k P hk hm hP; have h1 := Int.emod_nonneg x.toInt (show P ≠ 0 by omega); have h2 := Int.emod_lt_of_pos x.toInt h0; omega
theorem own_iremR {x y : Int32} {a b d : Int} (hi : Int) (hx : a ≤ x.toInt ∧ x.toInt ≤ b) (hy : y.toInt = d) (ha : 0 ≤ a) (hd : 0 < d) (h : d ≤ hi + 1) : (x % y).toInt = x.toInt % d ∧ 0 ≤ (x % y).toInt ∧ (x % y).toInt ≤ hi := by
  have e := (c_irem x y d hy).1 (by omega); have h1 := Int.emod_nonneg x.toInt (show d ≠ 0 by omega); have h2 := Int.emod_lt_of_pos x.toInt hd; omega
theorem own_lremR {x y : Int64} {a b d : Int} (hi : Int) (hx : a ≤ x.toInt ∧ x.toInt ≤ b) (hy : y.toInt = d) (ha : 0 ≤ a) (hd : 0 < d) (h : d ≤ hi + 1) : (x % y).toInt = x.toInt % d ∧ 0 ≤ (x % y).toInt ∧ (x % y).toInt ≤ hi := by
  have e := (own_lremf x y d hy).1 (by omega); have h1 := Int.emod_nonneg x.toInt (show d ≠ 0 by omega); have h2 := Int.emod_lt_of_pos x.toInt hd; omega
theorem own_idivR {x y : Int32} {a b d : Int} (lo hi : Int) (hx : a ≤ x.toInt ∧ x.toInt ≤ b) (hy : y.toInt = d) (hy1 : y ≠ -1) (ha : 0 ≤ a) (hd : 0 < d) (h : lo ≤ a / d ∧ b / d ≤ hi) : (x / y).toInt = x.toInt / d ∧ lo ≤ (x / y).toInt ∧ (x / y).toInt ≤ hi := by
  have e := (c_idiv x y d hy hy1).1 (by omega); have h1 := Int.ediv_le_ediv hd hx.1; have h2 := Int.ediv_le_ediv hd hx.2; omega
theorem own_ldivR {x y : Int64} {a b d : Int} (lo hi : Int) (hx : a ≤ x.toInt ∧ x.toInt ≤ b) (hy : y.toInt = d) (hy1 : y ≠ -1) (ha : 0 ≤ a) (hd : 0 < d) (h : lo ≤ a / d ∧ b / d ≤ hi) : (x / y).toInt = x.toInt / d ∧ lo ≤ (x / y).toInt ∧ (x / y).toInt ≤ hi := by
  have e := (c_ldiv x y d hy hy1).1 (by omega); have h1 := Int.ediv_le_ediv hd hx.1; have h2 := Int.ediv_le_ediv hd hx.2; omega
theorem own_l2iR {x : Int64} {a b : Int} (hx : a ≤ x.toInt ∧ x.toInt ≤ b) (h1 : -2147483648 ≤ a ∧ b ≤ 2147483647) : x.toInt32.toInt = x.toInt ∧ a ≤ x.toInt32.toInt ∧ x.toInt32.toInt ≤ b := by have := c_l2i x; have := rng32 x.toInt32; omega
theorem own_i2lR {x : Int32} {a b : Int} (hx : a ≤ x.toInt ∧ x.toInt ≤ b) : x.toInt64.toInt = x.toInt ∧ a ≤ x.toInt64.toInt ∧ x.toInt64.toInt ≤ b := by have := c_i2l x; omega
theorem own_eqR32 {x y : Int32} {a b : Int} (h : x = y) (hy : a ≤ y.toInt ∧ y.toInt ≤ b) : x.toInt = y.toInt ∧ a ≤ x.toInt ∧ x.toInt ≤ b := by subst h; exact ⟨rfl, hy⟩
theorem own_eqR64 {x y : Int64} {a b : Int} (h : x = y) (hy : a ≤ y.toInt ∧ y.toInt ≤ b) : x.toInt = y.toInt ∧ a ≤ x.toInt ∧ x.toInt ≤ b := by subst h; exact ⟨rfl, hy⟩
theorem own_lushrR {x : Int64} {a b : Int} (q : Int32) (k : Nat) (P lo hi : Int) (hx : a ≤ x.toInt ∧ x.toInt ≤ b) (ha : 0 ≤ a) (hk : q.toBitVec.toNat % 64 = k) (h0 : 0 < k) (hP : P = ((2 ^ k : Nat) : Int)) (hPp : 0 < P) (h : lo ≤ a / P ∧ b / P ≤ hi) : ((x.toUInt64 >>> (q &&& 0x3f).toInt64.toUInt64).toInt64).toInt = x.toInt / P ∧ lo ≤ ((x.toUInt64 >>> (q &&& 0x3f).toInt64.toUInt64).toInt64).toInt ∧ ((x.toUInt64 >>> (q &&& 0x3f).toInt64.toUInt64).toInt64).toInt ≤ hi := by
  have e := own_lushr x q k P hk h0 hP; have := rng64 x; rw [Int.emod_eq_of_lt (by omega) (by omega)] at e; have h1 := Int.ediv_le_ediv hPp hx.1; have h2 := Int.ediv_le_ediv hPp hx.2; omega
theorem own_iushrR {x : Int32} {a b : Int} (q : Int32) (k : Nat) (P lo hi : Int) (hx : a ≤ x.toInt ∧ x.toInt ≤ b) (ha : 0 ≤ a) (hk : q.toBitVec.toNat % 32 = k) (h0 : 0 < k) (hP : P = ((2 ^ k : Nat) : Int)) (hPp : 0 < P) (h : lo ≤ a / P ∧ b / P ≤ hi) : ((x.toUInt32 >>> (q &&& 31).toUInt32).toInt32).toInt = x.toInt / P ∧ lo ≤ ((x.toUInt32 >>> (q &&& 31).toUInt32).toInt32).toInt ∧ ((x.toUInt32 >>> (q &&& 31).toUInt32).toInt32).toInt ≤ hi := by
  have e := own_iushr x q k P hk h0 hP; have := rng32 x; rw [Int.emod_eq_of_lt (by omega) (by omega)] at e; have h1 := Int.ediv_le_ediv hPp hx.1; have h2 := Int.ediv_le_ediv hPp hx.2; omega
-- OWN KIT 2 (mine): Java's >>> on longs as a shift of bits
def own_sh (x : Int64) (k : Int32) : Int64 := (x.toUInt64 >>> (k &&& 0x3f).toInt64.toUInt64).toInt64
theorem own_sh_bv (x : Int64) (k : Int32) (n : Nat) (hk : k.toBitVec.toNat % 64 = n) : (own_sh x k).toBitVec = x.toBitVec >>> n := by
  obtain ⟨q1, q2⟩ := sm64 k n hk
  show (x.toBitVec >>> ((k &&& 0x3f).toInt64.toBitVec % 64)) = _
  rw [q1]
  show x.toBitVec >>> (BitVec.ofNat 64 n % 64).toNat = _
  rw [BitVec.toNat_umod, BitVec.toNat_ofNat]
  congr 1
  show n % 2 ^ 64 % 64 = n
  omega
def own_sl (x : Int64) (k : Int32) : Int64 := x <<< (k &&& 0x3f).toInt64
theorem own_sl_bv (x : Int64) (k : Int32) (n : Nat) (hk : k.toBitVec.toNat % 64 = n) : (own_sl x k).toBitVec = x.toBitVec <<< n := by
  obtain ⟨q1, q2⟩ := sm64 k n hk
  show (x.toBitVec <<< ((k &&& 0x3f).toInt64.toBitVec.smod 64)) = _
  rw [q1]
  show x.toBitVec <<< ((BitVec.ofNat 64 n).smod 64).toNat = _
  rw [smod64 n q2]
def own_m1 (x : Int64) : Int64 := (x ^^^ own_sh x 30) * (-4658895280553007687 : Int64)
def own_m2 (x : Int64) : Int64 := (x ^^^ own_sh x 27) * (-7723592293110705685 : Int64)
def own_m3 (x : Int64) : Int64 := x ^^^ own_sh x 31
def own_mix (x : Int64) : Int64 := own_m3 (own_m2 (own_m1 x))
def own_nw (a x : Int64) : Int64 := x * ((2 : Int64) - a * x)
def own_inv (a : Int64) : Int64 := own_nw a (own_nw a (own_nw a (own_nw a (own_nw a a))))
def own_u3 (z : Int64) : Int64 := (z ^^^ own_sh z 31) ^^^ own_sh z 62
def own_u2 (z : Int64) : Int64 := (z ^^^ own_sh z 27) ^^^ own_sh z 54
def own_u1 (z : Int64) : Int64 := (z ^^^ own_sh z 30) ^^^ own_sh z 60
def own_unmix (z : Int64) : Int64 := own_u1 (own_u2 (own_u3 z * own_inv (-7723592293110705685 : Int64)) * own_inv (-4658895280553007687 : Int64))
theorem own_bx (z : BitVec 64) (k : Nat) (hk : 64 ≤ k + k + k) : ((z ^^^ (z >>> k)) ^^^ ((z ^^^ (z >>> k)) >>> k)) ^^^ ((z ^^^ (z >>> k)) >>> (k + k)) = z := by
  apply BitVec.eq_of_getLsbD_eq
  intro i hi
  simp only [BitVec.getLsbD_xor, BitVec.getLsbD_ushiftRight]
  rw [show k + (k + k + i) = k + k + k + i by omega, show k + (k + i) = k + k + i by omega, BitVec.getLsbD_of_ge z (k + k + k + i) (by omega)]
  cases z.getLsbD i <;> cases z.getLsbD (k + i) <;> cases z.getLsbD (k + k + i) <;> rfl
theorem own_um3 (z : Int64) : own_u3 (own_m3 z) = z := by
  apply Int64.toBitVec_inj.mp
  simp only [own_u3, own_m3, Int64.toBitVec_xor, own_sh_bv _ 31 31 (by decide), own_sh_bv _ 62 62 (by decide)]
  exact own_bx z.toBitVec 31 (by decide)
theorem own_um2 (z : Int64) : own_u2 (z ^^^ own_sh z 27) = z := by
  apply Int64.toBitVec_inj.mp
  simp only [own_u2, Int64.toBitVec_xor, own_sh_bv _ 27 27 (by decide), own_sh_bv _ 54 54 (by decide)]
  exact own_bx z.toBitVec 27 (by decide)
theorem own_um1 (z : Int64) : own_u1 (z ^^^ own_sh z 30) = z := by
  apply Int64.toBitVec_inj.mp
  simp only [own_u1, Int64.toBitVec_xor, own_sh_bv _ 30 30 (by decide), own_sh_bv _ 60 60 (by decide)]
  exact own_bx z.toBitVec 30 (by decide)
theorem own_i2 : (-7723592293110705685 : Int64) * own_inv (-7723592293110705685 : Int64) = 1 := by decide +kernel
theorem own_i1 : (-4658895280553007687 : Int64) * own_inv (-4658895280553007687 : Int64) = 1 := by decide +kernel
theorem own_um (x : Int64) : own_unmix (own_mix x) = x := by
  unfold own_unmix own_mix
  rw [own_um3, own_m2, Int64.mul_assoc, own_i2, Int64.mul_one, own_um2, own_m1, Int64.mul_assoc, own_i1, Int64.mul_one, own_um1]
theorem pn_0 : plainName "com/example/sharp_bound/sharpbound/SeededRandom" = true := by first | (simp [plainName, overriddenIn]; done) | decide +kernel
theorem d1_0 : decode prog_24_method_1_code 0 = .ok (.aload_n 0, 1) := by decide +kernel
theorem d1_1 : decode prog_24_method_1_code 1 = .ok (.invokespecial 1, 3) := by decide +kernel
theorem d1_4 : decode prog_24_method_1_code 4 = .ok (.aload_n 0, 1) := by decide +kernel
theorem d1_5 : decode prog_24_method_1_code 5 = .ok (.lload_n 1, 1) := by decide +kernel
theorem d1_6 : decode prog_24_method_1_code 6 = .ok (.putfield 7, 3) := by decide +kernel
theorem d1_9 : decode prog_24_method_1_code 9 = .ok (.return_, 1) := by decide +kernel
theorem ef_1 (m : MethodId) (x0 : Addr) (x1 : Int64) : entryFrame m #[(.ref x0), (.long x1)] 3 = mkF m 0 #[.val (.ref x0), .val (.long x1), .second] [] := by first | (simp [entryFrame, mkF, argsToLocals, Value.category]; done) | rfl
def Q1 (Z : State) (a1 : Addr) (p2 : Int64) (h0 : Heap) (n0 : Nat) (v : Option Value) (h : Heap) (L : List Loc) : Prop := v = none ∧ Fr n0 L ∧ Keep h0 h [a1] ∧ Exa Z h a1 "com/example/sharp_bound/sharpbound/SeededRandom" ∧ Fld Z h a1 "com/example/sharp_bound/sharpbound/SeededRandom" "state" "J" (.long p2)
set_option maxRecDepth 65536 in
set_option maxHeartbeats 40000000 in
theorem rm1 (l : Launch) (Z : State) (a0 : Array Value) (hw : ∀ d ∈ tables_1, d.before a0 Z = true) (ws : List Jvm.Cond) (a1 : Addr) (p2 : Int64) (h0 : Heap) (n0 : Nat) (Z0 : n0 ≤ h0.size) (E1 : Exa Z h0 a1 "com/example/sharp_bound/sharpbound/SeededRandom") (Fp0 : Fld Z h0 a1 "com/example/sharp_bound/sharpbound/SeededRandom" "state" "J" (.long (0 : Int64))) (ga1 : n0 ≤ a1) :
    MetFree l (⟨"com/example/sharp_bound/sharpbound/SeededRandom", "<init>", "(J)V"⟩ : MethodName) (head1 (Jvm.Cond.code (⟨"com/example/sharp_bound/sharpbound/SeededRandom", "<init>", "(J)V"⟩ : MethodName) prog_24_method_1_code 3 none :: ws) ({ frames := 1, cells := 0, slots := 0, locals := 12 } : Room)) (fun a U => a = #[(.ref a1), (.long p2)] ∧ Z.Warmed39 U.vm ∧ U.heap = h0) (fun _ _ _ _ _ => True) (fun _ U o U' => ∃ v L, o = .returned v ∧ Q1 Z a1 p2 h0 n0 v U'.heap L ∧ FrameEnd U o U' L ({ frames := 1, cells := 0, slots := 0, locals := 12 } : Room).cells ({ frames := 1, cells := 0, slots := 0, locals := 12 } : Room).slots) := by
  refine MetFree.of_bodySF (plainFor_of_name pn_0) hisR ?_
  intro p e s m args below meth c s₁ Bd hml0 hP hK
  obtain ⟨rfl, hZ, hh⟩ := hP
  have hx := Bd.exec
  have hby := Bd.bytes
  have hml : c.maxLocals = 3 := hml0
  have hown : s.vm.findClass "com/example/sharp_bound/sharpbound/SeededRandom" = some m.cls := findClass_of_methodNamed Bd.named
  have hnm := (name_of_methodNamed Bd.named Bd.method).1
  have hlk : meth.locks = false := BodyLoose.notSynchronized Bd
  have X0 : Stand p l e ({ frames := 1, cells := 0, slots := 0, locals := 12 } : Room) s m #[(.ref a1), (.long p2)] below meth c s₁ [] 0 0 := Stand.of_body Bd
  have e0 : s₁.heap = h0 := by rw [← hh, Bd.state]; rfl
  have N0 := Fr.nil n0
  have K0 : Keep h0 h0 [a1] := Keep.refl h0 _
  have key : ∀ (F0 : State) (G : Prop), (own_G p e below s F0 (Q1 Z a1 p2 h0 n0) ({ frames := 1, cells := 0, slots := 0, locals := 12 } : Room).cells ({ frames := 1, cells := 0, slots := 0, locals := 12 } : Room).slots → G) → own_R p.tables e below F0 (s₁.setTop (mkF m 0 #[.val (.ref a1), .val (.long p2), .second] [])) → G := by
    intro F0 G hG r0
    have r1 : own_R p.tables e below F0 (s₁.setTop (mkF m 1 #[.val (.ref a1), .val (.long p2), .second] [(.ref a1)])) := fun t k => by
      refine r0 t ?_
      show Steps p.tables e below (s₁.setTop (mkF m 0 #[.val (.ref a1), .val (.long p2), .second] [])) _
      refine XS.aloadN X0.here hx rfl (hb hby d1_0) rfl rfl ?_
      exact k
    obtain ⟨T2, X2, e2, st2⟩ := initO X0 hx hZ hown (hw _ (List.mem_of_getElem? (i := 6) rfl)) (hw _ (List.mem_of_getElem? (i := 7) rfl)) (hw _ (List.mem_of_getElem? (i := 8) rfl)) e0 (g := (mkF m 1 #[.val (.ref a1), .val (.long p2), .second] [(.ref a1)])) rfl (by rw [hml]; rfl) rfl (hb hby d1_1) (by decide) (W := 0) (by show 2 * 0 + _ ≤ _; exact Nat.le_of_eq rfl) (by decide)
    have r2 : own_R p.tables e below F0 (T2.setTop (mkF m 4 #[.val (.ref a1), .val (.long p2), .second] [])) := fun t k => r1 t (st2 t k)
    have r3 : own_R p.tables e below F0 (T2.setTop (mkF m 6 #[.val (.ref a1), .val (.long p2), .second] [(.long p2), (.ref a1)])) := fun t k => by
      refine r2 t ?_
      show Steps p.tables e below (T2.setTop (mkF m 4 #[.val (.ref a1), .val (.long p2), .second] [])) _
      refine XS.aloadN X2.here hx rfl (hb hby d1_4) rfl rfl ?_
      show Steps p.tables e below (T2.setTop (mkF m 5 #[.val (.ref a1), .val (.long p2), .second] [(.ref a1)])) _
      refine XS.lloadN X2.here hx rfl (hb hby d1_5) rfl ?_
      exact k
    obtain ⟨T4, h4, X4, e4, W4, st4⟩ := putF X2 hx hZ hown (host := "") (Or.inl (hw _ (List.mem_of_getElem? (i := 9) rfl))) Via.refl e2 Fp0 E1 (Or.inl (hw _ (List.mem_of_getElem? (i := 10) rfl))) (hw _ (List.mem_of_getElem? (i := 1) rfl)) (ty := .long) (by decide) rfl rfl (g := (mkF m 6 #[.val (.ref a1), .val (.long p2), .second] [(.long p2), (.ref a1)])) rfl rfl (hb hby d1_6)
    have F5 : Exa Z h4 a1 "com/example/sharp_bound/sharpbound/SeededRandom" := E1.wr W4
    have F6 : Fld Z h4 a1 "com/example/sharp_bound/sharpbound/SeededRandom" "state" "J" (.long p2) := Fp0.same W4
    have Zs7 : n0 ≤ h4.size := by rw [W4.size]; exact Z0
    have N8 := Fr.snoc X4 N0 ga1
    have K9 : Keep h0 h4 [a1] := K0.wr W4 (Or.inl (List.mem_of_getElem? (i := 0) rfl))
    have r4 : own_R p.tables e below F0 (T4.setTop (mkF m 9 #[.val (.ref a1), .val (.long p2), .second] [])) := fun t k => r3 t (st4 t k)
    refine hG (own_fin X4 hlk (none) (fun _ => rfl) ?_ (by decide) (by decide) (fun fs hr => r4 _ (X4.returnOut hx Bd.returns (hb hby d1_9) hr)))
    rw [e4]
    refine ⟨?_, N8, K9, F5, F6⟩
    rfl
  exact key _ _ id (fun t k => castTop (ef_1 m a1 p2) k)
theorem d3_0 : decode prog_24_method_2_code 0 = .ok (.aload_n 0, 1) := by decide +kernel
theorem d3_1 : decode prog_24_method_2_code 1 = .ok (.dup, 1) := by decide +kernel
theorem d3_2 : decode prog_24_method_2_code 2 = .ok (.getfield 7, 3) := by decide +kernel
theorem d3_5 : decode prog_24_method_2_code 5 = .ok (.ldc2_w 13, 3) := by decide +kernel
theorem d3_8 : decode prog_24_method_2_code 8 = .ok (.ladd, 1) := by decide +kernel
theorem d3_9 : decode prog_24_method_2_code 9 = .ok (.putfield 7, 3) := by decide +kernel
theorem d3_12 : decode prog_24_method_2_code 12 = .ok (.aload_n 0, 1) := by decide +kernel
theorem d3_13 : decode prog_24_method_2_code 13 = .ok (.getfield 7, 3) := by decide +kernel
theorem d3_16 : decode prog_24_method_2_code 16 = .ok (.aload_n 0, 1) := by decide +kernel
theorem d3_17 : decode prog_24_method_2_code 17 = .ok (.getfield 7, 3) := by decide +kernel
theorem d3_20 : decode prog_24_method_2_code 20 = .ok (.bipush 30, 2) := by decide +kernel
theorem d3_22 : decode prog_24_method_2_code 22 = .ok (.lushr, 1) := by decide +kernel
theorem d3_23 : decode prog_24_method_2_code 23 = .ok (.lxor, 1) := by decide +kernel
theorem d3_24 : decode prog_24_method_2_code 24 = .ok (.ldc2_w 15, 3) := by decide +kernel
theorem d3_27 : decode prog_24_method_2_code 27 = .ok (.lmul, 1) := by decide +kernel
theorem d3_28 : decode prog_24_method_2_code 28 = .ok (.lstore_n 1, 1) := by decide +kernel
theorem d3_29 : decode prog_24_method_2_code 29 = .ok (.lload_n 1, 1) := by decide +kernel
theorem d3_30 : decode prog_24_method_2_code 30 = .ok (.lload_n 1, 1) := by decide +kernel
theorem d3_31 : decode prog_24_method_2_code 31 = .ok (.bipush 27, 2) := by decide +kernel
theorem d3_33 : decode prog_24_method_2_code 33 = .ok (.lushr, 1) := by decide +kernel
theorem d3_34 : decode prog_24_method_2_code 34 = .ok (.lxor, 1) := by decide +kernel
theorem d3_35 : decode prog_24_method_2_code 35 = .ok (.ldc2_w 17, 3) := by decide +kernel
theorem d3_38 : decode prog_24_method_2_code 38 = .ok (.lmul, 1) := by decide +kernel
theorem d3_39 : decode prog_24_method_2_code 39 = .ok (.lstore_n 1, 1) := by decide +kernel
theorem d3_40 : decode prog_24_method_2_code 40 = .ok (.lload_n 1, 1) := by decide +kernel
theorem d3_41 : decode prog_24_method_2_code 41 = .ok (.lload_n 1, 1) := by decide +kernel
theorem d3_42 : decode prog_24_method_2_code 42 = .ok (.bipush 31, 2) := by decide +kernel
theorem d3_44 : decode prog_24_method_2_code 44 = .ok (.lushr, 1) := by decide +kernel
theorem d3_45 : decode prog_24_method_2_code 45 = .ok (.lxor, 1) := by decide +kernel
theorem d3_46 : decode prog_24_method_2_code 46 = .ok (.lreturn, 1) := by decide +kernel
theorem ef_3 (m : MethodId) (x0 : Addr) : entryFrame m #[(.ref x0)] 3 = mkF m 0 #[.val (.ref x0), .unset, .unset] [] := by first | (simp [entryFrame, mkF, argsToLocals, Value.category]; done) | rfl
def Q3 (Z : State) (a1 : Addr) (w : Int64) (h0 : Heap) (n0 : Nat) (v : Option Value) (h : Heap) (L : List Loc) : Prop := v = some (.long (own_mix (w + (-7046029254386353131 : Int64)))) ∧ Fr n0 L ∧ Keep h0 h [a1] ∧ Exa Z h a1 "com/example/sharp_bound/sharpbound/SeededRandom" ∧ Fld Z h a1 "com/example/sharp_bound/sharpbound/SeededRandom" "state" "J" (.long (w + (-7046029254386353131 : Int64)))
set_option maxRecDepth 65536 in
set_option maxHeartbeats 40000000 in
theorem rm3 (l : Launch) (Z : State) (a0 : Array Value) (hw : ∀ d ∈ tables_1, d.before a0 Z = true) (ws : List Jvm.Cond) (a1 : Addr) (w : Int64) (h0 : Heap) (n0 : Nat) (Z0 : n0 ≤ h0.size) (E1 : Exa Z h0 a1 "com/example/sharp_bound/sharpbound/SeededRandom") (F1 : Fld Z h0 a1 "com/example/sharp_bound/sharpbound/SeededRandom" "state" "J" (.long w)) (ga1 : n0 ≤ a1) :
    MetFree l (⟨"com/example/sharp_bound/sharpbound/SeededRandom", "nextLong", "()J"⟩ : MethodName) (head1 (Jvm.Cond.code (⟨"com/example/sharp_bound/sharpbound/SeededRandom", "nextLong", "()J"⟩ : MethodName) prog_24_method_2_code 3 (some .long) :: ws) ({ frames := 0, cells := 0, slots := 0, locals := 0 } : Room)) (fun a U => a = #[(.ref a1)] ∧ Z.Warmed39 U.vm ∧ U.heap = h0) (fun _ _ _ _ _ => True) (fun _ U o U' => ∃ v L, o = .returned v ∧ Q3 Z a1 w h0 n0 v U'.heap L ∧ FrameEnd U o U' L ({ frames := 0, cells := 0, slots := 0, locals := 0 } : Room).cells ({ frames := 0, cells := 0, slots := 0, locals := 0 } : Room).slots) := by
  refine MetFree.of_bodySF (plainFor_of_name pn_0) hisR ?_
  intro p e s m args below meth c s₁ Bd hml0 hP hK
  obtain ⟨rfl, hZ, hh⟩ := hP
  have hx := Bd.exec
  have hby := Bd.bytes
  have hml : c.maxLocals = 3 := hml0
  have hown : s.vm.findClass "com/example/sharp_bound/sharpbound/SeededRandom" = some m.cls := findClass_of_methodNamed Bd.named
  have hnm := (name_of_methodNamed Bd.named Bd.method).1
  have hlk : meth.locks = false := BodyLoose.notSynchronized Bd
  have X0 : Stand p l e ({ frames := 0, cells := 0, slots := 0, locals := 0 } : Room) s m #[(.ref a1)] below meth c s₁ [] 0 0 := Stand.of_body Bd
  have e0 : s₁.heap = h0 := by rw [← hh, Bd.state]; rfl
  have N0 := Fr.nil n0
  have K0 : Keep h0 h0 [a1] := Keep.refl h0 _
  have key : ∀ (F0 : State) (G : Prop), (own_G p e below s F0 (Q3 Z a1 w h0 n0) ({ frames := 0, cells := 0, slots := 0, locals := 0 } : Room).cells ({ frames := 0, cells := 0, slots := 0, locals := 0 } : Room).slots → G) → own_R p.tables e below F0 (s₁.setTop (mkF m 0 #[.val (.ref a1), .unset, .unset] [])) → G := by
    intro F0 G hG r0
    have r10 : own_R p.tables e below F0 (s₁.setTop (mkF m 2 #[.val (.ref a1), .unset, .unset] [(.ref a1), (.ref a1)])) := fun t k => by
      refine r0 t ?_
      show Steps p.tables e below (s₁.setTop (mkF m 0 #[.val (.ref a1), .unset, .unset] [])) _
      refine XS.aloadN X0.here hx rfl (hb hby d3_0) rfl rfl ?_
      show Steps p.tables e below (s₁.setTop (mkF m 1 #[.val (.ref a1), .unset, .unset] [(.ref a1)])) _
      refine XS.dup X0.here hx rfl (hb hby d3_1) rfl rfl ?_
      exact k
    obtain ⟨T11, X11, e11, st11⟩ := getF X0 hx hZ hown (host := "") (Or.inl (hw _ (List.mem_of_getElem? (i := 9) rfl))) Via.refl e0 F1 (g := (mkF m 2 #[.val (.ref a1), .unset, .unset] [(.ref a1), (.ref a1)])) rfl rfl (hb hby d3_2)
    have r11 : own_R p.tables e below F0 (T11.setTop (mkF m 5 #[.val (.ref a1), .unset, .unset] [(.long w), (.ref a1)])) := fun t k => r10 t (st11 t k)
    have r12 : own_R p.tables e below F0 (T11.setTop (mkF m 9 #[.val (.ref a1), .unset, .unset] [(.long (w + (-7046029254386353131 : Int64))), (.ref a1)])) := fun t k => by
      refine r11 t ?_
      show Steps p.tables e below (T11.setTop (mkF m 5 #[.val (.ref a1), .unset, .unset] [(.long w), (.ref a1)])) _
      refine X11.ldc2J hx hown (mvT hZ (hw _ (List.mem_of_getElem? (i := 16) rfl))) rfl (hb hby d3_5) ?_
      show Steps p.tables e below (T11.setTop (mkF m 8 #[.val (.ref a1), .unset, .unset] [(.long (-7046029254386353131 : Int64)), (.long w), (.ref a1)])) _
      refine XS.ladd X11.here hx rfl (hb hby d3_8) rfl ?_
      exact k
    obtain ⟨T13, h13, X13, e13, W13, st13⟩ := putF X11 hx hZ hown (host := "") (Or.inl (hw _ (List.mem_of_getElem? (i := 9) rfl))) Via.refl e11 F1 E1 (Or.inl (hw _ (List.mem_of_getElem? (i := 10) rfl))) (hw _ (List.mem_of_getElem? (i := 1) rfl)) (ty := .long) (by decide) rfl rfl (g := (mkF m 9 #[.val (.ref a1), .unset, .unset] [(.long (w + (-7046029254386353131 : Int64))), (.ref a1)])) rfl rfl (hb hby d3_9)
    have F14 : Exa Z h13 a1 "com/example/sharp_bound/sharpbound/SeededRandom" := E1.wr W13
    have F15 : Fld Z h13 a1 "com/example/sharp_bound/sharpbound/SeededRandom" "state" "J" (.long (w + (-7046029254386353131 : Int64))) := F1.same W13
    have Zs16 : n0 ≤ h13.size := by rw [W13.size]; exact Z0
    have N17 := Fr.snoc X13 N0 ga1
    have K18 : Keep h0 h13 [a1] := K0.wr W13 (Or.inl (List.mem_of_getElem? (i := 0) rfl))
    have r13 : own_R p.tables e below F0 (T13.setTop (mkF m 12 #[.val (.ref a1), .unset, .unset] [])) := fun t k => r12 t (st13 t k)
    have r19 : own_R p.tables e below F0 (T13.setTop (mkF m 13 #[.val (.ref a1), .unset, .unset] [(.ref a1)])) := fun t k => by
      refine r13 t ?_
      show Steps p.tables e below (T13.setTop (mkF m 12 #[.val (.ref a1), .unset, .unset] [])) _
      refine XS.aloadN X13.here hx rfl (hb hby d3_12) rfl rfl ?_
      exact k
    obtain ⟨T20, X20, e20, st20⟩ := getF X13 hx hZ hown (host := "") (Or.inl (hw _ (List.mem_of_getElem? (i := 9) rfl))) Via.refl e13 F15 (g := (mkF m 13 #[.val (.ref a1), .unset, .unset] [(.ref a1)])) rfl rfl (hb hby d3_13)
    have r20 : own_R p.tables e below F0 (T20.setTop (mkF m 16 #[.val (.ref a1), .unset, .unset] [(.long (w + (-7046029254386353131 : Int64)))])) := fun t k => r19 t (st20 t k)
    have r21 : own_R p.tables e below F0 (T20.setTop (mkF m 17 #[.val (.ref a1), .unset, .unset] [(.ref a1), (.long (w + (-7046029254386353131 : Int64)))])) := fun t k => by
      refine r20 t ?_
      show Steps p.tables e below (T20.setTop (mkF m 16 #[.val (.ref a1), .unset, .unset] [(.long (w + (-7046029254386353131 : Int64)))])) _
      refine XS.aloadN X20.here hx rfl (hb hby d3_16) rfl rfl ?_
      exact k
    obtain ⟨T22, X22, e22, st22⟩ := getF X20 hx hZ hown (host := "") (Or.inl (hw _ (List.mem_of_getElem? (i := 9) rfl))) Via.refl e20 F15 (g := (mkF m 17 #[.val (.ref a1), .unset, .unset] [(.ref a1), (.long (w + (-7046029254386353131 : Int64)))])) rfl rfl (hb hby d3_17)
    have r22 : own_R p.tables e below F0 (T22.setTop (mkF m 20 #[.val (.ref a1), .unset, .unset] [(.long (w + (-7046029254386353131 : Int64))), (.long (w + (-7046029254386353131 : Int64)))])) := fun t k => r21 t (st22 t k)
    have r23 : own_R p.tables e below F0 (T22.setTop (mkF m 46 #[.val (.ref a1), .val (.long (((((w + (-7046029254386353131 : Int64)) ^^^ (((w + (-7046029254386353131 : Int64)).toUInt64 >>> ((30 : Int32) &&& 0x3f).toInt64.toUInt64).toInt64)) * (-4658895280553007687 : Int64)) ^^^ (((((w + (-7046029254386353131 : Int64)) ^^^ (((w + (-7046029254386353131 : Int64)).toUInt64 >>> ((30 : Int32) &&& 0x3f).toInt64.toUInt64).toInt64)) * (-4658895280553007687 : Int64)).toUInt64 >>> ((27 : Int32) &&& 0x3f).toInt64.toUInt64).toInt64)) * (-7723592293110705685 : Int64))), .second] [(.long ((((((w + (-7046029254386353131 : Int64)) ^^^ (((w + (-7046029254386353131 : Int64)).toUInt64 >>> ((30 : Int32) &&& 0x3f).toInt64.toUInt64).toInt64)) * (-4658895280553007687 : Int64)) ^^^ (((((w + (-7046029254386353131 : Int64)) ^^^ (((w + (-7046029254386353131 : Int64)).toUInt64 >>> ((30 : Int32) &&& 0x3f).toInt64.toUInt64).toInt64)) * (-4658895280553007687 : Int64)).toUInt64 >>> ((27 : Int32) &&& 0x3f).toInt64.toUInt64).toInt64)) * (-7723592293110705685 : Int64)) ^^^ (((((((w + (-7046029254386353131 : Int64)) ^^^ (((w + (-7046029254386353131 : Int64)).toUInt64 >>> ((30 : Int32) &&& 0x3f).toInt64.toUInt64).toInt64)) * (-4658895280553007687 : Int64)) ^^^ (((((w + (-7046029254386353131 : Int64)) ^^^ (((w + (-7046029254386353131 : Int64)).toUInt64 >>> ((30 : Int32) &&& 0x3f).toInt64.toUInt64).toInt64)) * (-4658895280553007687 : Int64)).toUInt64 >>> ((27 : Int32) &&& 0x3f).toInt64.toUInt64).toInt64)) * (-7723592293110705685 : Int64)).toUInt64 >>> ((31 : Int32) &&& 0x3f).toInt64.toUInt64).toInt64)))])) := fun t k => by
      refine r22 t ?_
      show Steps p.tables e below (T22.setTop (mkF m 20 #[.val (.ref a1), .unset, .unset] [(.long (w + (-7046029254386353131 : Int64))), (.long (w + (-7046029254386353131 : Int64)))])) _
      refine XS.bipush X22.here hx rfl (hb hby d3_20) ?_
      show Steps p.tables e below (T22.setTop (mkF m 22 #[.val (.ref a1), .unset, .unset] [(.int (30 : Int32)), (.long (w + (-7046029254386353131 : Int64))), (.long (w + (-7046029254386353131 : Int64)))])) _
      refine XS.lushr X22.here hx rfl (hb hby d3_22) rfl ?_
      show Steps p.tables e below (T22.setTop (mkF m 23 #[.val (.ref a1), .unset, .unset] [(.long (((w + (-7046029254386353131 : Int64)).toUInt64 >>> ((30 : Int32) &&& 0x3f).toInt64.toUInt64).toInt64)), (.long (w + (-7046029254386353131 : Int64)))])) _
      refine XS.lxor X22.here hx rfl (hb hby d3_23) rfl ?_
      show Steps p.tables e below (T22.setTop (mkF m 24 #[.val (.ref a1), .unset, .unset] [(.long ((w + (-7046029254386353131 : Int64)) ^^^ (((w + (-7046029254386353131 : Int64)).toUInt64 >>> ((30 : Int32) &&& 0x3f).toInt64.toUInt64).toInt64)))])) _
      refine X22.ldc2J hx hown (mvT hZ (hw _ (List.mem_of_getElem? (i := 17) rfl))) rfl (hb hby d3_24) ?_
      show Steps p.tables e below (T22.setTop (mkF m 27 #[.val (.ref a1), .unset, .unset] [(.long (-4658895280553007687 : Int64)), (.long ((w + (-7046029254386353131 : Int64)) ^^^ (((w + (-7046029254386353131 : Int64)).toUInt64 >>> ((30 : Int32) &&& 0x3f).toInt64.toUInt64).toInt64)))])) _
      refine XS.lmul X22.here hx rfl (hb hby d3_27) rfl ?_
      show Steps p.tables e below (T22.setTop (mkF m 28 #[.val (.ref a1), .unset, .unset] [(.long (((w + (-7046029254386353131 : Int64)) ^^^ (((w + (-7046029254386353131 : Int64)).toUInt64 >>> ((30 : Int32) &&& 0x3f).toInt64.toUInt64).toInt64)) * (-4658895280553007687 : Int64)))])) _
      refine XS.lstoreN X22.here hx rfl (hb hby d3_28) rfl (l' := #[.val (.ref a1), .val (.long (((w + (-7046029254386353131 : Int64)) ^^^ (((w + (-7046029254386353131 : Int64)).toUInt64 >>> ((30 : Int32) &&& 0x3f).toInt64.toUInt64).toInt64)) * (-4658895280553007687 : Int64))), .second]) rfl ?_
      show Steps p.tables e below (T22.setTop (mkF m 29 #[.val (.ref a1), .val (.long (((w + (-7046029254386353131 : Int64)) ^^^ (((w + (-7046029254386353131 : Int64)).toUInt64 >>> ((30 : Int32) &&& 0x3f).toInt64.toUInt64).toInt64)) * (-4658895280553007687 : Int64))), .second] [])) _
      refine XS.lloadN X22.here hx rfl (hb hby d3_29) rfl ?_
      show Steps p.tables e below (T22.setTop (mkF m 30 #[.val (.ref a1), .val (.long (((w + (-7046029254386353131 : Int64)) ^^^ (((w + (-7046029254386353131 : Int64)).toUInt64 >>> ((30 : Int32) &&& 0x3f).toInt64.toUInt64).toInt64)) * (-4658895280553007687 : Int64))), .second] [(.long (((w + (-7046029254386353131 : Int64)) ^^^ (((w + (-7046029254386353131 : Int64)).toUInt64 >>> ((30 : Int32) &&& 0x3f).toInt64.toUInt64).toInt64)) * (-4658895280553007687 : Int64)))])) _
      refine XS.lloadN X22.here hx rfl (hb hby d3_30) rfl ?_
      show Steps p.tables e below (T22.setTop (mkF m 31 #[.val (.ref a1), .val (.long (((w + (-7046029254386353131 : Int64)) ^^^ (((w + (-7046029254386353131 : Int64)).toUInt64 >>> ((30 : Int32) &&& 0x3f).toInt64.toUInt64).toInt64)) * (-4658895280553007687 : Int64))), .second] [(.long (((w + (-7046029254386353131 : Int64)) ^^^ (((w + (-7046029254386353131 : Int64)).toUInt64 >>> ((30 : Int32) &&& 0x3f).toInt64.toUInt64).toInt64)) * (-4658895280553007687 : Int64))), (.long (((w + (-7046029254386353131 : Int64)) ^^^ (((w + (-7046029254386353131 : Int64)).toUInt64 >>> ((30 : Int32) &&& 0x3f).toInt64.toUInt64).toInt64)) * (-4658895280553007687 : Int64)))])) _
      refine XS.bipush X22.here hx rfl (hb hby d3_31) ?_
      show Steps p.tables e below (T22.setTop (mkF m 33 #[.val (.ref a1), .val (.long (((w + (-7046029254386353131 : Int64)) ^^^ (((w + (-7046029254386353131 : Int64)).toUInt64 >>> ((30 : Int32) &&& 0x3f).toInt64.toUInt64).toInt64)) * (-4658895280553007687 : Int64))), .second] [(.int (27 : Int32)), (.long (((w + (-7046029254386353131 : Int64)) ^^^ (((w + (-7046029254386353131 : Int64)).toUInt64 >>> ((30 : Int32) &&& 0x3f).toInt64.toUInt64).toInt64)) * (-4658895280553007687 : Int64))), (.long (((w + (-7046029254386353131 : Int64)) ^^^ (((w + (-7046029254386353131 : Int64)).toUInt64 >>> ((30 : Int32) &&& 0x3f).toInt64.toUInt64).toInt64)) * (-4658895280553007687 : Int64)))])) _
      refine XS.lushr X22.here hx rfl (hb hby d3_33) rfl ?_
      show Steps p.tables e below (T22.setTop (mkF m 34 #[.val (.ref a1), .val (.long (((w + (-7046029254386353131 : Int64)) ^^^ (((w + (-7046029254386353131 : Int64)).toUInt64 >>> ((30 : Int32) &&& 0x3f).toInt64.toUInt64).toInt64)) * (-4658895280553007687 : Int64))), .second] [(.long (((((w + (-7046029254386353131 : Int64)) ^^^ (((w + (-7046029254386353131 : Int64)).toUInt64 >>> ((30 : Int32) &&& 0x3f).toInt64.toUInt64).toInt64)) * (-4658895280553007687 : Int64)).toUInt64 >>> ((27 : Int32) &&& 0x3f).toInt64.toUInt64).toInt64)), (.long (((w + (-7046029254386353131 : Int64)) ^^^ (((w + (-7046029254386353131 : Int64)).toUInt64 >>> ((30 : Int32) &&& 0x3f).toInt64.toUInt64).toInt64)) * (-4658895280553007687 : Int64)))])) _
      refine XS.lxor X22.here hx rfl (hb hby d3_34) rfl ?_
      show Steps p.tables e below (T22.setTop (mkF m 35 #[.val (.ref a1), .val (.long (((w + (-7046029254386353131 : Int64)) ^^^ (((w + (-7046029254386353131 : Int64)).toUInt64 >>> ((30 : Int32) &&& 0x3f).toInt64.toUInt64).toInt64)) * (-4658895280553007687 : Int64))), .second] [(.long ((((w + (-7046029254386353131 : Int64)) ^^^ (((w + (-7046029254386353131 : Int64)).toUInt64 >>> ((30 : Int32) &&& 0x3f).toInt64.toUInt64).toInt64)) * (-4658895280553007687 : Int64)) ^^^ (((((w + (-7046029254386353131 : Int64)) ^^^ (((w + (-7046029254386353131 : Int64)).toUInt64 >>> ((30 : Int32) &&& 0x3f).toInt64.toUInt64).toInt64)) * (-4658895280553007687 : Int64)).toUInt64 >>> ((27 : Int32) &&& 0x3f).toInt64.toUInt64).toInt64)))])) _
      refine X22.ldc2J hx hown (mvT hZ (hw _ (List.mem_of_getElem? (i := 18) rfl))) rfl (hb hby d3_35) ?_
      show Steps p.tables e below (T22.setTop (mkF m 38 #[.val (.ref a1), .val (.long (((w + (-7046029254386353131 : Int64)) ^^^ (((w + (-7046029254386353131 : Int64)).toUInt64 >>> ((30 : Int32) &&& 0x3f).toInt64.toUInt64).toInt64)) * (-4658895280553007687 : Int64))), .second] [(.long (-7723592293110705685 : Int64)), (.long ((((w + (-7046029254386353131 : Int64)) ^^^ (((w + (-7046029254386353131 : Int64)).toUInt64 >>> ((30 : Int32) &&& 0x3f).toInt64.toUInt64).toInt64)) * (-4658895280553007687 : Int64)) ^^^ (((((w + (-7046029254386353131 : Int64)) ^^^ (((w + (-7046029254386353131 : Int64)).toUInt64 >>> ((30 : Int32) &&& 0x3f).toInt64.toUInt64).toInt64)) * (-4658895280553007687 : Int64)).toUInt64 >>> ((27 : Int32) &&& 0x3f).toInt64.toUInt64).toInt64)))])) _
      refine XS.lmul X22.here hx rfl (hb hby d3_38) rfl ?_
      show Steps p.tables e below (T22.setTop (mkF m 39 #[.val (.ref a1), .val (.long (((w + (-7046029254386353131 : Int64)) ^^^ (((w + (-7046029254386353131 : Int64)).toUInt64 >>> ((30 : Int32) &&& 0x3f).toInt64.toUInt64).toInt64)) * (-4658895280553007687 : Int64))), .second] [(.long (((((w + (-7046029254386353131 : Int64)) ^^^ (((w + (-7046029254386353131 : Int64)).toUInt64 >>> ((30 : Int32) &&& 0x3f).toInt64.toUInt64).toInt64)) * (-4658895280553007687 : Int64)) ^^^ (((((w + (-7046029254386353131 : Int64)) ^^^ (((w + (-7046029254386353131 : Int64)).toUInt64 >>> ((30 : Int32) &&& 0x3f).toInt64.toUInt64).toInt64)) * (-4658895280553007687 : Int64)).toUInt64 >>> ((27 : Int32) &&& 0x3f).toInt64.toUInt64).toInt64)) * (-7723592293110705685 : Int64)))])) _
      refine XS.lstoreN X22.here hx rfl (hb hby d3_39) rfl (l' := #[.val (.ref a1), .val (.long (((((w + (-7046029254386353131 : Int64)) ^^^ (((w + (-7046029254386353131 : Int64)).toUInt64 >>> ((30 : Int32) &&& 0x3f).toInt64.toUInt64).toInt64)) * (-4658895280553007687 : Int64)) ^^^ (((((w + (-7046029254386353131 : Int64)) ^^^ (((w + (-7046029254386353131 : Int64)).toUInt64 >>> ((30 : Int32) &&& 0x3f).toInt64.toUInt64).toInt64)) * (-4658895280553007687 : Int64)).toUInt64 >>> ((27 : Int32) &&& 0x3f).toInt64.toUInt64).toInt64)) * (-7723592293110705685 : Int64))), .second]) rfl ?_
      show Steps p.tables e below (T22.setTop (mkF m 40 #[.val (.ref a1), .val (.long (((((w + (-7046029254386353131 : Int64)) ^^^ (((w + (-7046029254386353131 : Int64)).toUInt64 >>> ((30 : Int32) &&& 0x3f).toInt64.toUInt64).toInt64)) * (-4658895280553007687 : Int64)) ^^^ (((((w + (-7046029254386353131 : Int64)) ^^^ (((w + (-7046029254386353131 : Int64)).toUInt64 >>> ((30 : Int32) &&& 0x3f).toInt64.toUInt64).toInt64)) * (-4658895280553007687 : Int64)).toUInt64 >>> ((27 : Int32) &&& 0x3f).toInt64.toUInt64).toInt64)) * (-7723592293110705685 : Int64))), .second] [])) _
      refine XS.lloadN X22.here hx rfl (hb hby d3_40) rfl ?_
      show Steps p.tables e below (T22.setTop (mkF m 41 #[.val (.ref a1), .val (.long (((((w + (-7046029254386353131 : Int64)) ^^^ (((w + (-7046029254386353131 : Int64)).toUInt64 >>> ((30 : Int32) &&& 0x3f).toInt64.toUInt64).toInt64)) * (-4658895280553007687 : Int64)) ^^^ (((((w + (-7046029254386353131 : Int64)) ^^^ (((w + (-7046029254386353131 : Int64)).toUInt64 >>> ((30 : Int32) &&& 0x3f).toInt64.toUInt64).toInt64)) * (-4658895280553007687 : Int64)).toUInt64 >>> ((27 : Int32) &&& 0x3f).toInt64.toUInt64).toInt64)) * (-7723592293110705685 : Int64))), .second] [(.long (((((w + (-7046029254386353131 : Int64)) ^^^ (((w + (-7046029254386353131 : Int64)).toUInt64 >>> ((30 : Int32) &&& 0x3f).toInt64.toUInt64).toInt64)) * (-4658895280553007687 : Int64)) ^^^ (((((w + (-7046029254386353131 : Int64)) ^^^ (((w + (-7046029254386353131 : Int64)).toUInt64 >>> ((30 : Int32) &&& 0x3f).toInt64.toUInt64).toInt64)) * (-4658895280553007687 : Int64)).toUInt64 >>> ((27 : Int32) &&& 0x3f).toInt64.toUInt64).toInt64)) * (-7723592293110705685 : Int64)))])) _
      refine XS.lloadN X22.here hx rfl (hb hby d3_41) rfl ?_
      show Steps p.tables e below (T22.setTop (mkF m 42 #[.val (.ref a1), .val (.long (((((w + (-7046029254386353131 : Int64)) ^^^ (((w + (-7046029254386353131 : Int64)).toUInt64 >>> ((30 : Int32) &&& 0x3f).toInt64.toUInt64).toInt64)) * (-4658895280553007687 : Int64)) ^^^ (((((w + (-7046029254386353131 : Int64)) ^^^ (((w + (-7046029254386353131 : Int64)).toUInt64 >>> ((30 : Int32) &&& 0x3f).toInt64.toUInt64).toInt64)) * (-4658895280553007687 : Int64)).toUInt64 >>> ((27 : Int32) &&& 0x3f).toInt64.toUInt64).toInt64)) * (-7723592293110705685 : Int64))), .second] [(.long (((((w + (-7046029254386353131 : Int64)) ^^^ (((w + (-7046029254386353131 : Int64)).toUInt64 >>> ((30 : Int32) &&& 0x3f).toInt64.toUInt64).toInt64)) * (-4658895280553007687 : Int64)) ^^^ (((((w + (-7046029254386353131 : Int64)) ^^^ (((w + (-7046029254386353131 : Int64)).toUInt64 >>> ((30 : Int32) &&& 0x3f).toInt64.toUInt64).toInt64)) * (-4658895280553007687 : Int64)).toUInt64 >>> ((27 : Int32) &&& 0x3f).toInt64.toUInt64).toInt64)) * (-7723592293110705685 : Int64))), (.long (((((w + (-7046029254386353131 : Int64)) ^^^ (((w + (-7046029254386353131 : Int64)).toUInt64 >>> ((30 : Int32) &&& 0x3f).toInt64.toUInt64).toInt64)) * (-4658895280553007687 : Int64)) ^^^ (((((w + (-7046029254386353131 : Int64)) ^^^ (((w + (-7046029254386353131 : Int64)).toUInt64 >>> ((30 : Int32) &&& 0x3f).toInt64.toUInt64).toInt64)) * (-4658895280553007687 : Int64)).toUInt64 >>> ((27 : Int32) &&& 0x3f).toInt64.toUInt64).toInt64)) * (-7723592293110705685 : Int64)))])) _
      refine XS.bipush X22.here hx rfl (hb hby d3_42) ?_
      show Steps p.tables e below (T22.setTop (mkF m 44 #[.val (.ref a1), .val (.long (((((w + (-7046029254386353131 : Int64)) ^^^ (((w + (-7046029254386353131 : Int64)).toUInt64 >>> ((30 : Int32) &&& 0x3f).toInt64.toUInt64).toInt64)) * (-4658895280553007687 : Int64)) ^^^ (((((w + (-7046029254386353131 : Int64)) ^^^ (((w + (-7046029254386353131 : Int64)).toUInt64 >>> ((30 : Int32) &&& 0x3f).toInt64.toUInt64).toInt64)) * (-4658895280553007687 : Int64)).toUInt64 >>> ((27 : Int32) &&& 0x3f).toInt64.toUInt64).toInt64)) * (-7723592293110705685 : Int64))), .second] [(.int (31 : Int32)), (.long (((((w + (-7046029254386353131 : Int64)) ^^^ (((w + (-7046029254386353131 : Int64)).toUInt64 >>> ((30 : Int32) &&& 0x3f).toInt64.toUInt64).toInt64)) * (-4658895280553007687 : Int64)) ^^^ (((((w + (-7046029254386353131 : Int64)) ^^^ (((w + (-7046029254386353131 : Int64)).toUInt64 >>> ((30 : Int32) &&& 0x3f).toInt64.toUInt64).toInt64)) * (-4658895280553007687 : Int64)).toUInt64 >>> ((27 : Int32) &&& 0x3f).toInt64.toUInt64).toInt64)) * (-7723592293110705685 : Int64))), (.long (((((w + (-7046029254386353131 : Int64)) ^^^ (((w + (-7046029254386353131 : Int64)).toUInt64 >>> ((30 : Int32) &&& 0x3f).toInt64.toUInt64).toInt64)) * (-4658895280553007687 : Int64)) ^^^ (((((w + (-7046029254386353131 : Int64)) ^^^ (((w + (-7046029254386353131 : Int64)).toUInt64 >>> ((30 : Int32) &&& 0x3f).toInt64.toUInt64).toInt64)) * (-4658895280553007687 : Int64)).toUInt64 >>> ((27 : Int32) &&& 0x3f).toInt64.toUInt64).toInt64)) * (-7723592293110705685 : Int64)))])) _
      refine XS.lushr X22.here hx rfl (hb hby d3_44) rfl ?_
      show Steps p.tables e below (T22.setTop (mkF m 45 #[.val (.ref a1), .val (.long (((((w + (-7046029254386353131 : Int64)) ^^^ (((w + (-7046029254386353131 : Int64)).toUInt64 >>> ((30 : Int32) &&& 0x3f).toInt64.toUInt64).toInt64)) * (-4658895280553007687 : Int64)) ^^^ (((((w + (-7046029254386353131 : Int64)) ^^^ (((w + (-7046029254386353131 : Int64)).toUInt64 >>> ((30 : Int32) &&& 0x3f).toInt64.toUInt64).toInt64)) * (-4658895280553007687 : Int64)).toUInt64 >>> ((27 : Int32) &&& 0x3f).toInt64.toUInt64).toInt64)) * (-7723592293110705685 : Int64))), .second] [(.long (((((((w + (-7046029254386353131 : Int64)) ^^^ (((w + (-7046029254386353131 : Int64)).toUInt64 >>> ((30 : Int32) &&& 0x3f).toInt64.toUInt64).toInt64)) * (-4658895280553007687 : Int64)) ^^^ (((((w + (-7046029254386353131 : Int64)) ^^^ (((w + (-7046029254386353131 : Int64)).toUInt64 >>> ((30 : Int32) &&& 0x3f).toInt64.toUInt64).toInt64)) * (-4658895280553007687 : Int64)).toUInt64 >>> ((27 : Int32) &&& 0x3f).toInt64.toUInt64).toInt64)) * (-7723592293110705685 : Int64)).toUInt64 >>> ((31 : Int32) &&& 0x3f).toInt64.toUInt64).toInt64)), (.long (((((w + (-7046029254386353131 : Int64)) ^^^ (((w + (-7046029254386353131 : Int64)).toUInt64 >>> ((30 : Int32) &&& 0x3f).toInt64.toUInt64).toInt64)) * (-4658895280553007687 : Int64)) ^^^ (((((w + (-7046029254386353131 : Int64)) ^^^ (((w + (-7046029254386353131 : Int64)).toUInt64 >>> ((30 : Int32) &&& 0x3f).toInt64.toUInt64).toInt64)) * (-4658895280553007687 : Int64)).toUInt64 >>> ((27 : Int32) &&& 0x3f).toInt64.toUInt64).toInt64)) * (-7723592293110705685 : Int64)))])) _
      refine XS.lxor X22.here hx rfl (hb hby d3_45) rfl ?_
      exact k
    refine hG (own_fin X22 hlk (some (.long ((((((w + (-7046029254386353131 : Int64)) ^^^ (((w + (-7046029254386353131 : Int64)).toUInt64 >>> ((30 : Int32) &&& 0x3f).toInt64.toUInt64).toInt64)) * (-4658895280553007687 : Int64)) ^^^ (((((w + (-7046029254386353131 : Int64)) ^^^ (((w + (-7046029254386353131 : Int64)).toUInt64 >>> ((30 : Int32) &&& 0x3f).toInt64.toUInt64).toInt64)) * (-4658895280553007687 : Int64)).toUInt64 >>> ((27 : Int32) &&& 0x3f).toInt64.toUInt64).toInt64)) * (-7723592293110705685 : Int64)) ^^^ (((((((w + (-7046029254386353131 : Int64)) ^^^ (((w + (-7046029254386353131 : Int64)).toUInt64 >>> ((30 : Int32) &&& 0x3f).toInt64.toUInt64).toInt64)) * (-4658895280553007687 : Int64)) ^^^ (((((w + (-7046029254386353131 : Int64)) ^^^ (((w + (-7046029254386353131 : Int64)).toUInt64 >>> ((30 : Int32) &&& 0x3f).toInt64.toUInt64).toInt64)) * (-4658895280553007687 : Int64)).toUInt64 >>> ((27 : Int32) &&& 0x3f).toInt64.toUInt64).toInt64)) * (-7723592293110705685 : Int64)).toUInt64 >>> ((31 : Int32) &&& 0x3f).toInt64.toUInt64).toInt64)))) (own_hv Bd.returns) ?_ (by decide) (by decide) (fun fs hr => r23 _ (retOut X22 hx Bd.returns rfl (Or.inr (Or.inl ⟨rfl, rfl, _, rfl⟩)) (hb hby d3_46) hr)))
    rw [e22]
    refine ⟨?_, N17, K18, F14, F15⟩
    rfl
  exact key _ _ id (fun t k => castTop (ef_3 m a1) k)
theorem pn_1 : plainName "com/example/sharp_bound/sharpbound/SeededRandomNextLongPinLaw" = true := by first | (simp [plainName, overriddenIn]; done) | decide +kernel
theorem d5_0 : decode method_2_code 0 = .ok (.lload_n 0, 1) := by decide +kernel
theorem d5_1 : decode method_2_code 1 = .ok (.lstore_n 2, 1) := by decide +kernel
theorem d5_2 : decode method_2_code 2 = .ok (.lload_n 2, 1) := by decide +kernel
theorem d5_3 : decode method_2_code 3 = .ok (.ldc2_w 7, 3) := by decide +kernel
theorem d5_6 : decode method_2_code 6 = .ok (.lload_n 0, 1) := by decide +kernel
theorem d5_7 : decode method_2_code 7 = .ok (.lload_n 2, 1) := by decide +kernel
theorem d5_8 : decode method_2_code 8 = .ok (.lmul, 1) := by decide +kernel
theorem d5_9 : decode method_2_code 9 = .ok (.lsub, 1) := by decide +kernel
theorem d5_10 : decode method_2_code 10 = .ok (.lmul, 1) := by decide +kernel
theorem d5_11 : decode method_2_code 11 = .ok (.lstore_n 2, 1) := by decide +kernel
theorem d5_12 : decode method_2_code 12 = .ok (.lload_n 2, 1) := by decide +kernel
theorem d5_13 : decode method_2_code 13 = .ok (.ldc2_w 7, 3) := by decide +kernel
theorem d5_16 : decode method_2_code 16 = .ok (.lload_n 0, 1) := by decide +kernel
theorem d5_17 : decode method_2_code 17 = .ok (.lload_n 2, 1) := by decide +kernel
theorem d5_18 : decode method_2_code 18 = .ok (.lmul, 1) := by decide +kernel
theorem d5_19 : decode method_2_code 19 = .ok (.lsub, 1) := by decide +kernel
theorem d5_20 : decode method_2_code 20 = .ok (.lmul, 1) := by decide +kernel
theorem d5_21 : decode method_2_code 21 = .ok (.lstore_n 2, 1) := by decide +kernel
theorem d5_22 : decode method_2_code 22 = .ok (.lload_n 2, 1) := by decide +kernel
theorem d5_23 : decode method_2_code 23 = .ok (.ldc2_w 7, 3) := by decide +kernel
theorem d5_26 : decode method_2_code 26 = .ok (.lload_n 0, 1) := by decide +kernel
theorem d5_27 : decode method_2_code 27 = .ok (.lload_n 2, 1) := by decide +kernel
theorem d5_28 : decode method_2_code 28 = .ok (.lmul, 1) := by decide +kernel
theorem d5_29 : decode method_2_code 29 = .ok (.lsub, 1) := by decide +kernel
theorem d5_30 : decode method_2_code 30 = .ok (.lmul, 1) := by decide +kernel
theorem d5_31 : decode method_2_code 31 = .ok (.lstore_n 2, 1) := by decide +kernel
theorem d5_32 : decode method_2_code 32 = .ok (.lload_n 2, 1) := by decide +kernel
theorem d5_33 : decode method_2_code 33 = .ok (.ldc2_w 7, 3) := by decide +kernel
theorem d5_36 : decode method_2_code 36 = .ok (.lload_n 0, 1) := by decide +kernel
theorem d5_37 : decode method_2_code 37 = .ok (.lload_n 2, 1) := by decide +kernel
theorem d5_38 : decode method_2_code 38 = .ok (.lmul, 1) := by decide +kernel
theorem d5_39 : decode method_2_code 39 = .ok (.lsub, 1) := by decide +kernel
theorem d5_40 : decode method_2_code 40 = .ok (.lmul, 1) := by decide +kernel
theorem d5_41 : decode method_2_code 41 = .ok (.lstore_n 2, 1) := by decide +kernel
theorem d5_42 : decode method_2_code 42 = .ok (.lload_n 2, 1) := by decide +kernel
theorem d5_43 : decode method_2_code 43 = .ok (.ldc2_w 7, 3) := by decide +kernel
theorem d5_46 : decode method_2_code 46 = .ok (.lload_n 0, 1) := by decide +kernel
theorem d5_47 : decode method_2_code 47 = .ok (.lload_n 2, 1) := by decide +kernel
theorem d5_48 : decode method_2_code 48 = .ok (.lmul, 1) := by decide +kernel
theorem d5_49 : decode method_2_code 49 = .ok (.lsub, 1) := by decide +kernel
theorem d5_50 : decode method_2_code 50 = .ok (.lmul, 1) := by decide +kernel
theorem d5_51 : decode method_2_code 51 = .ok (.lstore_n 2, 1) := by decide +kernel
theorem d5_52 : decode method_2_code 52 = .ok (.lload_n 2, 1) := by decide +kernel
theorem d5_53 : decode method_2_code 53 = .ok (.lreturn, 1) := by decide +kernel
theorem ef_5 (m : MethodId) (x0 : Int64) : entryFrame m #[(.long x0)] 4 = mkF m 0 #[.val (.long x0), .second, .unset, .unset] [] := by first | (simp [entryFrame, mkF, argsToLocals, Value.category]; done) | rfl
def Q5 (Z : State) (p0 : Int64) (h0 : Heap) (n0 : Nat) (v : Option Value) (h : Heap) (L : List Loc) : Prop := v = some (.long (own_inv p0)) ∧ Fr n0 L ∧ h = h0
set_option maxRecDepth 65536 in
set_option maxHeartbeats 40000000 in
theorem rm5 (l : Launch) (Z : State) (a0 : Array Value) (hw : ∀ d ∈ tables_1, d.before a0 Z = true) (ws : List Jvm.Cond) (p0 : Int64) (h0 : Heap) (n0 : Nat) (Z0 : n0 ≤ h0.size) :
    MetFree l (⟨"com/example/sharp_bound/sharpbound/SeededRandomNextLongPinLaw", "inverse", "(J)J"⟩ : MethodName) (head1 (Jvm.Cond.code (⟨"com/example/sharp_bound/sharpbound/SeededRandomNextLongPinLaw", "inverse", "(J)J"⟩ : MethodName) method_2_code 4 (some .long) :: ws) ({ frames := 0, cells := 0, slots := 0, locals := 0 } : Room)) (fun a U => a = #[(.long p0)] ∧ Z.Warmed39 U.vm ∧ U.heap = h0) (fun _ _ _ _ _ => True) (fun _ U o U' => ∃ v L, o = .returned v ∧ Q5 Z p0 h0 n0 v U'.heap L ∧ FrameEnd U o U' L ({ frames := 0, cells := 0, slots := 0, locals := 0 } : Room).cells ({ frames := 0, cells := 0, slots := 0, locals := 0 } : Room).slots) := by
  refine MetFree.of_bodySF (plainFor_of_name pn_1) hisR ?_
  intro p e s m args below meth c s₁ Bd hml0 hP hK
  obtain ⟨rfl, hZ, hh⟩ := hP
  have hx := Bd.exec
  have hby := Bd.bytes
  have hml : c.maxLocals = 4 := hml0
  have hown : s.vm.findClass "com/example/sharp_bound/sharpbound/SeededRandomNextLongPinLaw" = some m.cls := findClass_of_methodNamed Bd.named
  have hnm := (name_of_methodNamed Bd.named Bd.method).1
  have hlk : meth.locks = false := BodyLoose.notSynchronized Bd
  have X0 : Stand p l e ({ frames := 0, cells := 0, slots := 0, locals := 0 } : Room) s m #[(.long p0)] below meth c s₁ [] 0 0 := Stand.of_body Bd
  have e0 : s₁.heap = h0 := by rw [← hh, Bd.state]; rfl
  have N0 := Fr.nil n0
  have K0 : Keep h0 h0 [] := Keep.refl h0 _
  have key : ∀ (F0 : State) (G : Prop), (own_G p e below s F0 (Q5 Z p0 h0 n0) ({ frames := 0, cells := 0, slots := 0, locals := 0 } : Room).cells ({ frames := 0, cells := 0, slots := 0, locals := 0 } : Room).slots → G) → own_R p.tables e below F0 (s₁.setTop (mkF m 0 #[.val (.long p0), .second, .unset, .unset] [])) → G := by
    intro F0 G hG r0
    have r24 : own_R p.tables e below F0 (s₁.setTop (mkF m 53 #[.val (.long p0), .second, .val (.long (((((p0 * ((2 : Int64) - (p0 * p0))) * ((2 : Int64) - (p0 * (p0 * ((2 : Int64) - (p0 * p0)))))) * ((2 : Int64) - (p0 * ((p0 * ((2 : Int64) - (p0 * p0))) * ((2 : Int64) - (p0 * (p0 * ((2 : Int64) - (p0 * p0))))))))) * ((2 : Int64) - (p0 * (((p0 * ((2 : Int64) - (p0 * p0))) * ((2 : Int64) - (p0 * (p0 * ((2 : Int64) - (p0 * p0)))))) * ((2 : Int64) - (p0 * ((p0 * ((2 : Int64) - (p0 * p0))) * ((2 : Int64) - (p0 * (p0 * ((2 : Int64) - (p0 * p0)))))))))))) * ((2 : Int64) - (p0 * ((((p0 * ((2 : Int64) - (p0 * p0))) * ((2 : Int64) - (p0 * (p0 * ((2 : Int64) - (p0 * p0)))))) * ((2 : Int64) - (p0 * ((p0 * ((2 : Int64) - (p0 * p0))) * ((2 : Int64) - (p0 * (p0 * ((2 : Int64) - (p0 * p0))))))))) * ((2 : Int64) - (p0 * (((p0 * ((2 : Int64) - (p0 * p0))) * ((2 : Int64) - (p0 * (p0 * ((2 : Int64) - (p0 * p0)))))) * ((2 : Int64) - (p0 * ((p0 * ((2 : Int64) - (p0 * p0))) * ((2 : Int64) - (p0 * (p0 * ((2 : Int64) - (p0 * p0)))))))))))))))), .second] [(.long (((((p0 * ((2 : Int64) - (p0 * p0))) * ((2 : Int64) - (p0 * (p0 * ((2 : Int64) - (p0 * p0)))))) * ((2 : Int64) - (p0 * ((p0 * ((2 : Int64) - (p0 * p0))) * ((2 : Int64) - (p0 * (p0 * ((2 : Int64) - (p0 * p0))))))))) * ((2 : Int64) - (p0 * (((p0 * ((2 : Int64) - (p0 * p0))) * ((2 : Int64) - (p0 * (p0 * ((2 : Int64) - (p0 * p0)))))) * ((2 : Int64) - (p0 * ((p0 * ((2 : Int64) - (p0 * p0))) * ((2 : Int64) - (p0 * (p0 * ((2 : Int64) - (p0 * p0)))))))))))) * ((2 : Int64) - (p0 * ((((p0 * ((2 : Int64) - (p0 * p0))) * ((2 : Int64) - (p0 * (p0 * ((2 : Int64) - (p0 * p0)))))) * ((2 : Int64) - (p0 * ((p0 * ((2 : Int64) - (p0 * p0))) * ((2 : Int64) - (p0 * (p0 * ((2 : Int64) - (p0 * p0))))))))) * ((2 : Int64) - (p0 * (((p0 * ((2 : Int64) - (p0 * p0))) * ((2 : Int64) - (p0 * (p0 * ((2 : Int64) - (p0 * p0)))))) * ((2 : Int64) - (p0 * ((p0 * ((2 : Int64) - (p0 * p0))) * ((2 : Int64) - (p0 * (p0 * ((2 : Int64) - (p0 * p0))))))))))))))))])) := fun t k => by
      refine r0 t ?_
      show Steps p.tables e below (s₁.setTop (mkF m 0 #[.val (.long p0), .second, .unset, .unset] [])) _
      refine XS.lloadN X0.here hx rfl (hb hby d5_0) rfl ?_
      show Steps p.tables e below (s₁.setTop (mkF m 1 #[.val (.long p0), .second, .unset, .unset] [(.long p0)])) _
      refine XS.lstoreN X0.here hx rfl (hb hby d5_1) rfl (l' := #[.val (.long p0), .second, .val (.long p0), .second]) rfl ?_
      show Steps p.tables e below (s₁.setTop (mkF m 2 #[.val (.long p0), .second, .val (.long p0), .second] [])) _
      refine XS.lloadN X0.here hx rfl (hb hby d5_2) rfl ?_
      show Steps p.tables e below (s₁.setTop (mkF m 3 #[.val (.long p0), .second, .val (.long p0), .second] [(.long p0)])) _
      refine X0.ldc2J hx hown (mvT hZ (hw _ (List.mem_of_getElem? (i := 27) rfl))) rfl (hb hby d5_3) ?_
      show Steps p.tables e below (s₁.setTop (mkF m 6 #[.val (.long p0), .second, .val (.long p0), .second] [(.long (2 : Int64)), (.long p0)])) _
      refine XS.lloadN X0.here hx rfl (hb hby d5_6) rfl ?_
      show Steps p.tables e below (s₁.setTop (mkF m 7 #[.val (.long p0), .second, .val (.long p0), .second] [(.long p0), (.long (2 : Int64)), (.long p0)])) _
      refine XS.lloadN X0.here hx rfl (hb hby d5_7) rfl ?_
      show Steps p.tables e below (s₁.setTop (mkF m 8 #[.val (.long p0), .second, .val (.long p0), .second] [(.long p0), (.long p0), (.long (2 : Int64)), (.long p0)])) _
      refine XS.lmul X0.here hx rfl (hb hby d5_8) rfl ?_
      show Steps p.tables e below (s₁.setTop (mkF m 9 #[.val (.long p0), .second, .val (.long p0), .second] [(.long (p0 * p0)), (.long (2 : Int64)), (.long p0)])) _
      refine XS.lsub X0.here hx rfl (hb hby d5_9) rfl ?_
      show Steps p.tables e below (s₁.setTop (mkF m 10 #[.val (.long p0), .second, .val (.long p0), .second] [(.long ((2 : Int64) - (p0 * p0))), (.long p0)])) _
      refine XS.lmul X0.here hx rfl (hb hby d5_10) rfl ?_
      show Steps p.tables e below (s₁.setTop (mkF m 11 #[.val (.long p0), .second, .val (.long p0), .second] [(.long (p0 * ((2 : Int64) - (p0 * p0))))])) _
      refine XS.lstoreN X0.here hx rfl (hb hby d5_11) rfl (l' := #[.val (.long p0), .second, .val (.long (p0 * ((2 : Int64) - (p0 * p0)))), .second]) rfl ?_
      show Steps p.tables e below (s₁.setTop (mkF m 12 #[.val (.long p0), .second, .val (.long (p0 * ((2 : Int64) - (p0 * p0)))), .second] [])) _
      refine XS.lloadN X0.here hx rfl (hb hby d5_12) rfl ?_
      show Steps p.tables e below (s₁.setTop (mkF m 13 #[.val (.long p0), .second, .val (.long (p0 * ((2 : Int64) - (p0 * p0)))), .second] [(.long (p0 * ((2 : Int64) - (p0 * p0))))])) _
      refine X0.ldc2J hx hown (mvT hZ (hw _ (List.mem_of_getElem? (i := 27) rfl))) rfl (hb hby d5_13) ?_
      show Steps p.tables e below (s₁.setTop (mkF m 16 #[.val (.long p0), .second, .val (.long (p0 * ((2 : Int64) - (p0 * p0)))), .second] [(.long (2 : Int64)), (.long (p0 * ((2 : Int64) - (p0 * p0))))])) _
      refine XS.lloadN X0.here hx rfl (hb hby d5_16) rfl ?_
      show Steps p.tables e below (s₁.setTop (mkF m 17 #[.val (.long p0), .second, .val (.long (p0 * ((2 : Int64) - (p0 * p0)))), .second] [(.long p0), (.long (2 : Int64)), (.long (p0 * ((2 : Int64) - (p0 * p0))))])) _
      refine XS.lloadN X0.here hx rfl (hb hby d5_17) rfl ?_
      show Steps p.tables e below (s₁.setTop (mkF m 18 #[.val (.long p0), .second, .val (.long (p0 * ((2 : Int64) - (p0 * p0)))), .second] [(.long (p0 * ((2 : Int64) - (p0 * p0)))), (.long p0), (.long (2 : Int64)), (.long (p0 * ((2 : Int64) - (p0 * p0))))])) _
      refine XS.lmul X0.here hx rfl (hb hby d5_18) rfl ?_
      show Steps p.tables e below (s₁.setTop (mkF m 19 #[.val (.long p0), .second, .val (.long (p0 * ((2 : Int64) - (p0 * p0)))), .second] [(.long (p0 * (p0 * ((2 : Int64) - (p0 * p0))))), (.long (2 : Int64)), (.long (p0 * ((2 : Int64) - (p0 * p0))))])) _
      refine XS.lsub X0.here hx rfl (hb hby d5_19) rfl ?_
      show Steps p.tables e below (s₁.setTop (mkF m 20 #[.val (.long p0), .second, .val (.long (p0 * ((2 : Int64) - (p0 * p0)))), .second] [(.long ((2 : Int64) - (p0 * (p0 * ((2 : Int64) - (p0 * p0)))))), (.long (p0 * ((2 : Int64) - (p0 * p0))))])) _
      refine XS.lmul X0.here hx rfl (hb hby d5_20) rfl ?_
      show Steps p.tables e below (s₁.setTop (mkF m 21 #[.val (.long p0), .second, .val (.long (p0 * ((2 : Int64) - (p0 * p0)))), .second] [(.long ((p0 * ((2 : Int64) - (p0 * p0))) * ((2 : Int64) - (p0 * (p0 * ((2 : Int64) - (p0 * p0)))))))])) _
      refine XS.lstoreN X0.here hx rfl (hb hby d5_21) rfl (l' := #[.val (.long p0), .second, .val (.long ((p0 * ((2 : Int64) - (p0 * p0))) * ((2 : Int64) - (p0 * (p0 * ((2 : Int64) - (p0 * p0))))))), .second]) rfl ?_
      show Steps p.tables e below (s₁.setTop (mkF m 22 #[.val (.long p0), .second, .val (.long ((p0 * ((2 : Int64) - (p0 * p0))) * ((2 : Int64) - (p0 * (p0 * ((2 : Int64) - (p0 * p0))))))), .second] [])) _
      refine XS.lloadN X0.here hx rfl (hb hby d5_22) rfl ?_
      show Steps p.tables e below (s₁.setTop (mkF m 23 #[.val (.long p0), .second, .val (.long ((p0 * ((2 : Int64) - (p0 * p0))) * ((2 : Int64) - (p0 * (p0 * ((2 : Int64) - (p0 * p0))))))), .second] [(.long ((p0 * ((2 : Int64) - (p0 * p0))) * ((2 : Int64) - (p0 * (p0 * ((2 : Int64) - (p0 * p0)))))))])) _
      refine X0.ldc2J hx hown (mvT hZ (hw _ (List.mem_of_getElem? (i := 27) rfl))) rfl (hb hby d5_23) ?_
      show Steps p.tables e below (s₁.setTop (mkF m 26 #[.val (.long p0), .second, .val (.long ((p0 * ((2 : Int64) - (p0 * p0))) * ((2 : Int64) - (p0 * (p0 * ((2 : Int64) - (p0 * p0))))))), .second] [(.long (2 : Int64)), (.long ((p0 * ((2 : Int64) - (p0 * p0))) * ((2 : Int64) - (p0 * (p0 * ((2 : Int64) - (p0 * p0)))))))])) _
      refine XS.lloadN X0.here hx rfl (hb hby d5_26) rfl ?_
      show Steps p.tables e below (s₁.setTop (mkF m 27 #[.val (.long p0), .second, .val (.long ((p0 * ((2 : Int64) - (p0 * p0))) * ((2 : Int64) - (p0 * (p0 * ((2 : Int64) - (p0 * p0))))))), .second] [(.long p0), (.long (2 : Int64)), (.long ((p0 * ((2 : Int64) - (p0 * p0))) * ((2 : Int64) - (p0 * (p0 * ((2 : Int64) - (p0 * p0)))))))])) _
      refine XS.lloadN X0.here hx rfl (hb hby d5_27) rfl ?_
      show Steps p.tables e below (s₁.setTop (mkF m 28 #[.val (.long p0), .second, .val (.long ((p0 * ((2 : Int64) - (p0 * p0))) * ((2 : Int64) - (p0 * (p0 * ((2 : Int64) - (p0 * p0))))))), .second] [(.long ((p0 * ((2 : Int64) - (p0 * p0))) * ((2 : Int64) - (p0 * (p0 * ((2 : Int64) - (p0 * p0))))))), (.long p0), (.long (2 : Int64)), (.long ((p0 * ((2 : Int64) - (p0 * p0))) * ((2 : Int64) - (p0 * (p0 * ((2 : Int64) - (p0 * p0)))))))])) _
      refine XS.lmul X0.here hx rfl (hb hby d5_28) rfl ?_
      show Steps p.tables e below (s₁.setTop (mkF m 29 #[.val (.long p0), .second, .val (.long ((p0 * ((2 : Int64) - (p0 * p0))) * ((2 : Int64) - (p0 * (p0 * ((2 : Int64) - (p0 * p0))))))), .second] [(.long (p0 * ((p0 * ((2 : Int64) - (p0 * p0))) * ((2 : Int64) - (p0 * (p0 * ((2 : Int64) - (p0 * p0)))))))), (.long (2 : Int64)), (.long ((p0 * ((2 : Int64) - (p0 * p0))) * ((2 : Int64) - (p0 * (p0 * ((2 : Int64) - (p0 * p0)))))))])) _
      refine XS.lsub X0.here hx rfl (hb hby d5_29) rfl ?_
      show Steps p.tables e below (s₁.setTop (mkF m 30 #[.val (.long p0), .second, .val (.long ((p0 * ((2 : Int64) - (p0 * p0))) * ((2 : Int64) - (p0 * (p0 * ((2 : Int64) - (p0 * p0))))))), .second] [(.long ((2 : Int64) - (p0 * ((p0 * ((2 : Int64) - (p0 * p0))) * ((2 : Int64) - (p0 * (p0 * ((2 : Int64) - (p0 * p0))))))))), (.long ((p0 * ((2 : Int64) - (p0 * p0))) * ((2 : Int64) - (p0 * (p0 * ((2 : Int64) - (p0 * p0)))))))])) _
      refine XS.lmul X0.here hx rfl (hb hby d5_30) rfl ?_
      show Steps p.tables e below (s₁.setTop (mkF m 31 #[.val (.long p0), .second, .val (.long ((p0 * ((2 : Int64) - (p0 * p0))) * ((2 : Int64) - (p0 * (p0 * ((2 : Int64) - (p0 * p0))))))), .second] [(.long (((p0 * ((2 : Int64) - (p0 * p0))) * ((2 : Int64) - (p0 * (p0 * ((2 : Int64) - (p0 * p0)))))) * ((2 : Int64) - (p0 * ((p0 * ((2 : Int64) - (p0 * p0))) * ((2 : Int64) - (p0 * (p0 * ((2 : Int64) - (p0 * p0))))))))))])) _
      refine XS.lstoreN X0.here hx rfl (hb hby d5_31) rfl (l' := #[.val (.long p0), .second, .val (.long (((p0 * ((2 : Int64) - (p0 * p0))) * ((2 : Int64) - (p0 * (p0 * ((2 : Int64) - (p0 * p0)))))) * ((2 : Int64) - (p0 * ((p0 * ((2 : Int64) - (p0 * p0))) * ((2 : Int64) - (p0 * (p0 * ((2 : Int64) - (p0 * p0)))))))))), .second]) rfl ?_
      show Steps p.tables e below (s₁.setTop (mkF m 32 #[.val (.long p0), .second, .val (.long (((p0 * ((2 : Int64) - (p0 * p0))) * ((2 : Int64) - (p0 * (p0 * ((2 : Int64) - (p0 * p0)))))) * ((2 : Int64) - (p0 * ((p0 * ((2 : Int64) - (p0 * p0))) * ((2 : Int64) - (p0 * (p0 * ((2 : Int64) - (p0 * p0)))))))))), .second] [])) _
      refine XS.lloadN X0.here hx rfl (hb hby d5_32) rfl ?_
      show Steps p.tables e below (s₁.setTop (mkF m 33 #[.val (.long p0), .second, .val (.long (((p0 * ((2 : Int64) - (p0 * p0))) * ((2 : Int64) - (p0 * (p0 * ((2 : Int64) - (p0 * p0)))))) * ((2 : Int64) - (p0 * ((p0 * ((2 : Int64) - (p0 * p0))) * ((2 : Int64) - (p0 * (p0 * ((2 : Int64) - (p0 * p0)))))))))), .second] [(.long (((p0 * ((2 : Int64) - (p0 * p0))) * ((2 : Int64) - (p0 * (p0 * ((2 : Int64) - (p0 * p0)))))) * ((2 : Int64) - (p0 * ((p0 * ((2 : Int64) - (p0 * p0))) * ((2 : Int64) - (p0 * (p0 * ((2 : Int64) - (p0 * p0))))))))))])) _
      refine X0.ldc2J hx hown (mvT hZ (hw _ (List.mem_of_getElem? (i := 27) rfl))) rfl (hb hby d5_33) ?_
      show Steps p.tables e below (s₁.setTop (mkF m 36 #[.val (.long p0), .second, .val (.long (((p0 * ((2 : Int64) - (p0 * p0))) * ((2 : Int64) - (p0 * (p0 * ((2 : Int64) - (p0 * p0)))))) * ((2 : Int64) - (p0 * ((p0 * ((2 : Int64) - (p0 * p0))) * ((2 : Int64) - (p0 * (p0 * ((2 : Int64) - (p0 * p0)))))))))), .second] [(.long (2 : Int64)), (.long (((p0 * ((2 : Int64) - (p0 * p0))) * ((2 : Int64) - (p0 * (p0 * ((2 : Int64) - (p0 * p0)))))) * ((2 : Int64) - (p0 * ((p0 * ((2 : Int64) - (p0 * p0))) * ((2 : Int64) - (p0 * (p0 * ((2 : Int64) - (p0 * p0))))))))))])) _
      refine XS.lloadN X0.here hx rfl (hb hby d5_36) rfl ?_
      show Steps p.tables e below (s₁.setTop (mkF m 37 #[.val (.long p0), .second, .val (.long (((p0 * ((2 : Int64) - (p0 * p0))) * ((2 : Int64) - (p0 * (p0 * ((2 : Int64) - (p0 * p0)))))) * ((2 : Int64) - (p0 * ((p0 * ((2 : Int64) - (p0 * p0))) * ((2 : Int64) - (p0 * (p0 * ((2 : Int64) - (p0 * p0)))))))))), .second] [(.long p0), (.long (2 : Int64)), (.long (((p0 * ((2 : Int64) - (p0 * p0))) * ((2 : Int64) - (p0 * (p0 * ((2 : Int64) - (p0 * p0)))))) * ((2 : Int64) - (p0 * ((p0 * ((2 : Int64) - (p0 * p0))) * ((2 : Int64) - (p0 * (p0 * ((2 : Int64) - (p0 * p0))))))))))])) _
      refine XS.lloadN X0.here hx rfl (hb hby d5_37) rfl ?_
      show Steps p.tables e below (s₁.setTop (mkF m 38 #[.val (.long p0), .second, .val (.long (((p0 * ((2 : Int64) - (p0 * p0))) * ((2 : Int64) - (p0 * (p0 * ((2 : Int64) - (p0 * p0)))))) * ((2 : Int64) - (p0 * ((p0 * ((2 : Int64) - (p0 * p0))) * ((2 : Int64) - (p0 * (p0 * ((2 : Int64) - (p0 * p0)))))))))), .second] [(.long (((p0 * ((2 : Int64) - (p0 * p0))) * ((2 : Int64) - (p0 * (p0 * ((2 : Int64) - (p0 * p0)))))) * ((2 : Int64) - (p0 * ((p0 * ((2 : Int64) - (p0 * p0))) * ((2 : Int64) - (p0 * (p0 * ((2 : Int64) - (p0 * p0)))))))))), (.long p0), (.long (2 : Int64)), (.long (((p0 * ((2 : Int64) - (p0 * p0))) * ((2 : Int64) - (p0 * (p0 * ((2 : Int64) - (p0 * p0)))))) * ((2 : Int64) - (p0 * ((p0 * ((2 : Int64) - (p0 * p0))) * ((2 : Int64) - (p0 * (p0 * ((2 : Int64) - (p0 * p0))))))))))])) _
      refine XS.lmul X0.here hx rfl (hb hby d5_38) rfl ?_
      show Steps p.tables e below (s₁.setTop (mkF m 39 #[.val (.long p0), .second, .val (.long (((p0 * ((2 : Int64) - (p0 * p0))) * ((2 : Int64) - (p0 * (p0 * ((2 : Int64) - (p0 * p0)))))) * ((2 : Int64) - (p0 * ((p0 * ((2 : Int64) - (p0 * p0))) * ((2 : Int64) - (p0 * (p0 * ((2 : Int64) - (p0 * p0)))))))))), .second] [(.long (p0 * (((p0 * ((2 : Int64) - (p0 * p0))) * ((2 : Int64) - (p0 * (p0 * ((2 : Int64) - (p0 * p0)))))) * ((2 : Int64) - (p0 * ((p0 * ((2 : Int64) - (p0 * p0))) * ((2 : Int64) - (p0 * (p0 * ((2 : Int64) - (p0 * p0))))))))))), (.long (2 : Int64)), (.long (((p0 * ((2 : Int64) - (p0 * p0))) * ((2 : Int64) - (p0 * (p0 * ((2 : Int64) - (p0 * p0)))))) * ((2 : Int64) - (p0 * ((p0 * ((2 : Int64) - (p0 * p0))) * ((2 : Int64) - (p0 * (p0 * ((2 : Int64) - (p0 * p0))))))))))])) _
      refine XS.lsub X0.here hx rfl (hb hby d5_39) rfl ?_
      show Steps p.tables e below (s₁.setTop (mkF m 40 #[.val (.long p0), .second, .val (.long (((p0 * ((2 : Int64) - (p0 * p0))) * ((2 : Int64) - (p0 * (p0 * ((2 : Int64) - (p0 * p0)))))) * ((2 : Int64) - (p0 * ((p0 * ((2 : Int64) - (p0 * p0))) * ((2 : Int64) - (p0 * (p0 * ((2 : Int64) - (p0 * p0)))))))))), .second] [(.long ((2 : Int64) - (p0 * (((p0 * ((2 : Int64) - (p0 * p0))) * ((2 : Int64) - (p0 * (p0 * ((2 : Int64) - (p0 * p0)))))) * ((2 : Int64) - (p0 * ((p0 * ((2 : Int64) - (p0 * p0))) * ((2 : Int64) - (p0 * (p0 * ((2 : Int64) - (p0 * p0)))))))))))), (.long (((p0 * ((2 : Int64) - (p0 * p0))) * ((2 : Int64) - (p0 * (p0 * ((2 : Int64) - (p0 * p0)))))) * ((2 : Int64) - (p0 * ((p0 * ((2 : Int64) - (p0 * p0))) * ((2 : Int64) - (p0 * (p0 * ((2 : Int64) - (p0 * p0))))))))))])) _
      refine XS.lmul X0.here hx rfl (hb hby d5_40) rfl ?_
      show Steps p.tables e below (s₁.setTop (mkF m 41 #[.val (.long p0), .second, .val (.long (((p0 * ((2 : Int64) - (p0 * p0))) * ((2 : Int64) - (p0 * (p0 * ((2 : Int64) - (p0 * p0)))))) * ((2 : Int64) - (p0 * ((p0 * ((2 : Int64) - (p0 * p0))) * ((2 : Int64) - (p0 * (p0 * ((2 : Int64) - (p0 * p0)))))))))), .second] [(.long ((((p0 * ((2 : Int64) - (p0 * p0))) * ((2 : Int64) - (p0 * (p0 * ((2 : Int64) - (p0 * p0)))))) * ((2 : Int64) - (p0 * ((p0 * ((2 : Int64) - (p0 * p0))) * ((2 : Int64) - (p0 * (p0 * ((2 : Int64) - (p0 * p0))))))))) * ((2 : Int64) - (p0 * (((p0 * ((2 : Int64) - (p0 * p0))) * ((2 : Int64) - (p0 * (p0 * ((2 : Int64) - (p0 * p0)))))) * ((2 : Int64) - (p0 * ((p0 * ((2 : Int64) - (p0 * p0))) * ((2 : Int64) - (p0 * (p0 * ((2 : Int64) - (p0 * p0)))))))))))))])) _
      refine XS.lstoreN X0.here hx rfl (hb hby d5_41) rfl (l' := #[.val (.long p0), .second, .val (.long ((((p0 * ((2 : Int64) - (p0 * p0))) * ((2 : Int64) - (p0 * (p0 * ((2 : Int64) - (p0 * p0)))))) * ((2 : Int64) - (p0 * ((p0 * ((2 : Int64) - (p0 * p0))) * ((2 : Int64) - (p0 * (p0 * ((2 : Int64) - (p0 * p0))))))))) * ((2 : Int64) - (p0 * (((p0 * ((2 : Int64) - (p0 * p0))) * ((2 : Int64) - (p0 * (p0 * ((2 : Int64) - (p0 * p0)))))) * ((2 : Int64) - (p0 * ((p0 * ((2 : Int64) - (p0 * p0))) * ((2 : Int64) - (p0 * (p0 * ((2 : Int64) - (p0 * p0))))))))))))), .second]) rfl ?_
      show Steps p.tables e below (s₁.setTop (mkF m 42 #[.val (.long p0), .second, .val (.long ((((p0 * ((2 : Int64) - (p0 * p0))) * ((2 : Int64) - (p0 * (p0 * ((2 : Int64) - (p0 * p0)))))) * ((2 : Int64) - (p0 * ((p0 * ((2 : Int64) - (p0 * p0))) * ((2 : Int64) - (p0 * (p0 * ((2 : Int64) - (p0 * p0))))))))) * ((2 : Int64) - (p0 * (((p0 * ((2 : Int64) - (p0 * p0))) * ((2 : Int64) - (p0 * (p0 * ((2 : Int64) - (p0 * p0)))))) * ((2 : Int64) - (p0 * ((p0 * ((2 : Int64) - (p0 * p0))) * ((2 : Int64) - (p0 * (p0 * ((2 : Int64) - (p0 * p0))))))))))))), .second] [])) _
      refine XS.lloadN X0.here hx rfl (hb hby d5_42) rfl ?_
      show Steps p.tables e below (s₁.setTop (mkF m 43 #[.val (.long p0), .second, .val (.long ((((p0 * ((2 : Int64) - (p0 * p0))) * ((2 : Int64) - (p0 * (p0 * ((2 : Int64) - (p0 * p0)))))) * ((2 : Int64) - (p0 * ((p0 * ((2 : Int64) - (p0 * p0))) * ((2 : Int64) - (p0 * (p0 * ((2 : Int64) - (p0 * p0))))))))) * ((2 : Int64) - (p0 * (((p0 * ((2 : Int64) - (p0 * p0))) * ((2 : Int64) - (p0 * (p0 * ((2 : Int64) - (p0 * p0)))))) * ((2 : Int64) - (p0 * ((p0 * ((2 : Int64) - (p0 * p0))) * ((2 : Int64) - (p0 * (p0 * ((2 : Int64) - (p0 * p0))))))))))))), .second] [(.long ((((p0 * ((2 : Int64) - (p0 * p0))) * ((2 : Int64) - (p0 * (p0 * ((2 : Int64) - (p0 * p0)))))) * ((2 : Int64) - (p0 * ((p0 * ((2 : Int64) - (p0 * p0))) * ((2 : Int64) - (p0 * (p0 * ((2 : Int64) - (p0 * p0))))))))) * ((2 : Int64) - (p0 * (((p0 * ((2 : Int64) - (p0 * p0))) * ((2 : Int64) - (p0 * (p0 * ((2 : Int64) - (p0 * p0)))))) * ((2 : Int64) - (p0 * ((p0 * ((2 : Int64) - (p0 * p0))) * ((2 : Int64) - (p0 * (p0 * ((2 : Int64) - (p0 * p0)))))))))))))])) _
      refine X0.ldc2J hx hown (mvT hZ (hw _ (List.mem_of_getElem? (i := 27) rfl))) rfl (hb hby d5_43) ?_
      show Steps p.tables e below (s₁.setTop (mkF m 46 #[.val (.long p0), .second, .val (.long ((((p0 * ((2 : Int64) - (p0 * p0))) * ((2 : Int64) - (p0 * (p0 * ((2 : Int64) - (p0 * p0)))))) * ((2 : Int64) - (p0 * ((p0 * ((2 : Int64) - (p0 * p0))) * ((2 : Int64) - (p0 * (p0 * ((2 : Int64) - (p0 * p0))))))))) * ((2 : Int64) - (p0 * (((p0 * ((2 : Int64) - (p0 * p0))) * ((2 : Int64) - (p0 * (p0 * ((2 : Int64) - (p0 * p0)))))) * ((2 : Int64) - (p0 * ((p0 * ((2 : Int64) - (p0 * p0))) * ((2 : Int64) - (p0 * (p0 * ((2 : Int64) - (p0 * p0))))))))))))), .second] [(.long (2 : Int64)), (.long ((((p0 * ((2 : Int64) - (p0 * p0))) * ((2 : Int64) - (p0 * (p0 * ((2 : Int64) - (p0 * p0)))))) * ((2 : Int64) - (p0 * ((p0 * ((2 : Int64) - (p0 * p0))) * ((2 : Int64) - (p0 * (p0 * ((2 : Int64) - (p0 * p0))))))))) * ((2 : Int64) - (p0 * (((p0 * ((2 : Int64) - (p0 * p0))) * ((2 : Int64) - (p0 * (p0 * ((2 : Int64) - (p0 * p0)))))) * ((2 : Int64) - (p0 * ((p0 * ((2 : Int64) - (p0 * p0))) * ((2 : Int64) - (p0 * (p0 * ((2 : Int64) - (p0 * p0)))))))))))))])) _
      refine XS.lloadN X0.here hx rfl (hb hby d5_46) rfl ?_
      show Steps p.tables e below (s₁.setTop (mkF m 47 #[.val (.long p0), .second, .val (.long ((((p0 * ((2 : Int64) - (p0 * p0))) * ((2 : Int64) - (p0 * (p0 * ((2 : Int64) - (p0 * p0)))))) * ((2 : Int64) - (p0 * ((p0 * ((2 : Int64) - (p0 * p0))) * ((2 : Int64) - (p0 * (p0 * ((2 : Int64) - (p0 * p0))))))))) * ((2 : Int64) - (p0 * (((p0 * ((2 : Int64) - (p0 * p0))) * ((2 : Int64) - (p0 * (p0 * ((2 : Int64) - (p0 * p0)))))) * ((2 : Int64) - (p0 * ((p0 * ((2 : Int64) - (p0 * p0))) * ((2 : Int64) - (p0 * (p0 * ((2 : Int64) - (p0 * p0))))))))))))), .second] [(.long p0), (.long (2 : Int64)), (.long ((((p0 * ((2 : Int64) - (p0 * p0))) * ((2 : Int64) - (p0 * (p0 * ((2 : Int64) - (p0 * p0)))))) * ((2 : Int64) - (p0 * ((p0 * ((2 : Int64) - (p0 * p0))) * ((2 : Int64) - (p0 * (p0 * ((2 : Int64) - (p0 * p0))))))))) * ((2 : Int64) - (p0 * (((p0 * ((2 : Int64) - (p0 * p0))) * ((2 : Int64) - (p0 * (p0 * ((2 : Int64) - (p0 * p0)))))) * ((2 : Int64) - (p0 * ((p0 * ((2 : Int64) - (p0 * p0))) * ((2 : Int64) - (p0 * (p0 * ((2 : Int64) - (p0 * p0)))))))))))))])) _
      refine XS.lloadN X0.here hx rfl (hb hby d5_47) rfl ?_
      show Steps p.tables e below (s₁.setTop (mkF m 48 #[.val (.long p0), .second, .val (.long ((((p0 * ((2 : Int64) - (p0 * p0))) * ((2 : Int64) - (p0 * (p0 * ((2 : Int64) - (p0 * p0)))))) * ((2 : Int64) - (p0 * ((p0 * ((2 : Int64) - (p0 * p0))) * ((2 : Int64) - (p0 * (p0 * ((2 : Int64) - (p0 * p0))))))))) * ((2 : Int64) - (p0 * (((p0 * ((2 : Int64) - (p0 * p0))) * ((2 : Int64) - (p0 * (p0 * ((2 : Int64) - (p0 * p0)))))) * ((2 : Int64) - (p0 * ((p0 * ((2 : Int64) - (p0 * p0))) * ((2 : Int64) - (p0 * (p0 * ((2 : Int64) - (p0 * p0))))))))))))), .second] [(.long ((((p0 * ((2 : Int64) - (p0 * p0))) * ((2 : Int64) - (p0 * (p0 * ((2 : Int64) - (p0 * p0)))))) * ((2 : Int64) - (p0 * ((p0 * ((2 : Int64) - (p0 * p0))) * ((2 : Int64) - (p0 * (p0 * ((2 : Int64) - (p0 * p0))))))))) * ((2 : Int64) - (p0 * (((p0 * ((2 : Int64) - (p0 * p0))) * ((2 : Int64) - (p0 * (p0 * ((2 : Int64) - (p0 * p0)))))) * ((2 : Int64) - (p0 * ((p0 * ((2 : Int64) - (p0 * p0))) * ((2 : Int64) - (p0 * (p0 * ((2 : Int64) - (p0 * p0))))))))))))), (.long p0), (.long (2 : Int64)), (.long ((((p0 * ((2 : Int64) - (p0 * p0))) * ((2 : Int64) - (p0 * (p0 * ((2 : Int64) - (p0 * p0)))))) * ((2 : Int64) - (p0 * ((p0 * ((2 : Int64) - (p0 * p0))) * ((2 : Int64) - (p0 * (p0 * ((2 : Int64) - (p0 * p0))))))))) * ((2 : Int64) - (p0 * (((p0 * ((2 : Int64) - (p0 * p0))) * ((2 : Int64) - (p0 * (p0 * ((2 : Int64) - (p0 * p0)))))) * ((2 : Int64) - (p0 * ((p0 * ((2 : Int64) - (p0 * p0))) * ((2 : Int64) - (p0 * (p0 * ((2 : Int64) - (p0 * p0)))))))))))))])) _
      refine XS.lmul X0.here hx rfl (hb hby d5_48) rfl ?_
      show Steps p.tables e below (s₁.setTop (mkF m 49 #[.val (.long p0), .second, .val (.long ((((p0 * ((2 : Int64) - (p0 * p0))) * ((2 : Int64) - (p0 * (p0 * ((2 : Int64) - (p0 * p0)))))) * ((2 : Int64) - (p0 * ((p0 * ((2 : Int64) - (p0 * p0))) * ((2 : Int64) - (p0 * (p0 * ((2 : Int64) - (p0 * p0))))))))) * ((2 : Int64) - (p0 * (((p0 * ((2 : Int64) - (p0 * p0))) * ((2 : Int64) - (p0 * (p0 * ((2 : Int64) - (p0 * p0)))))) * ((2 : Int64) - (p0 * ((p0 * ((2 : Int64) - (p0 * p0))) * ((2 : Int64) - (p0 * (p0 * ((2 : Int64) - (p0 * p0))))))))))))), .second] [(.long (p0 * ((((p0 * ((2 : Int64) - (p0 * p0))) * ((2 : Int64) - (p0 * (p0 * ((2 : Int64) - (p0 * p0)))))) * ((2 : Int64) - (p0 * ((p0 * ((2 : Int64) - (p0 * p0))) * ((2 : Int64) - (p0 * (p0 * ((2 : Int64) - (p0 * p0))))))))) * ((2 : Int64) - (p0 * (((p0 * ((2 : Int64) - (p0 * p0))) * ((2 : Int64) - (p0 * (p0 * ((2 : Int64) - (p0 * p0)))))) * ((2 : Int64) - (p0 * ((p0 * ((2 : Int64) - (p0 * p0))) * ((2 : Int64) - (p0 * (p0 * ((2 : Int64) - (p0 * p0)))))))))))))), (.long (2 : Int64)), (.long ((((p0 * ((2 : Int64) - (p0 * p0))) * ((2 : Int64) - (p0 * (p0 * ((2 : Int64) - (p0 * p0)))))) * ((2 : Int64) - (p0 * ((p0 * ((2 : Int64) - (p0 * p0))) * ((2 : Int64) - (p0 * (p0 * ((2 : Int64) - (p0 * p0))))))))) * ((2 : Int64) - (p0 * (((p0 * ((2 : Int64) - (p0 * p0))) * ((2 : Int64) - (p0 * (p0 * ((2 : Int64) - (p0 * p0)))))) * ((2 : Int64) - (p0 * ((p0 * ((2 : Int64) - (p0 * p0))) * ((2 : Int64) - (p0 * (p0 * ((2 : Int64) - (p0 * p0)))))))))))))])) _
      refine XS.lsub X0.here hx rfl (hb hby d5_49) rfl ?_
      show Steps p.tables e below (s₁.setTop (mkF m 50 #[.val (.long p0), .second, .val (.long ((((p0 * ((2 : Int64) - (p0 * p0))) * ((2 : Int64) - (p0 * (p0 * ((2 : Int64) - (p0 * p0)))))) * ((2 : Int64) - (p0 * ((p0 * ((2 : Int64) - (p0 * p0))) * ((2 : Int64) - (p0 * (p0 * ((2 : Int64) - (p0 * p0))))))))) * ((2 : Int64) - (p0 * (((p0 * ((2 : Int64) - (p0 * p0))) * ((2 : Int64) - (p0 * (p0 * ((2 : Int64) - (p0 * p0)))))) * ((2 : Int64) - (p0 * ((p0 * ((2 : Int64) - (p0 * p0))) * ((2 : Int64) - (p0 * (p0 * ((2 : Int64) - (p0 * p0))))))))))))), .second] [(.long ((2 : Int64) - (p0 * ((((p0 * ((2 : Int64) - (p0 * p0))) * ((2 : Int64) - (p0 * (p0 * ((2 : Int64) - (p0 * p0)))))) * ((2 : Int64) - (p0 * ((p0 * ((2 : Int64) - (p0 * p0))) * ((2 : Int64) - (p0 * (p0 * ((2 : Int64) - (p0 * p0))))))))) * ((2 : Int64) - (p0 * (((p0 * ((2 : Int64) - (p0 * p0))) * ((2 : Int64) - (p0 * (p0 * ((2 : Int64) - (p0 * p0)))))) * ((2 : Int64) - (p0 * ((p0 * ((2 : Int64) - (p0 * p0))) * ((2 : Int64) - (p0 * (p0 * ((2 : Int64) - (p0 * p0))))))))))))))), (.long ((((p0 * ((2 : Int64) - (p0 * p0))) * ((2 : Int64) - (p0 * (p0 * ((2 : Int64) - (p0 * p0)))))) * ((2 : Int64) - (p0 * ((p0 * ((2 : Int64) - (p0 * p0))) * ((2 : Int64) - (p0 * (p0 * ((2 : Int64) - (p0 * p0))))))))) * ((2 : Int64) - (p0 * (((p0 * ((2 : Int64) - (p0 * p0))) * ((2 : Int64) - (p0 * (p0 * ((2 : Int64) - (p0 * p0)))))) * ((2 : Int64) - (p0 * ((p0 * ((2 : Int64) - (p0 * p0))) * ((2 : Int64) - (p0 * (p0 * ((2 : Int64) - (p0 * p0)))))))))))))])) _
      refine XS.lmul X0.here hx rfl (hb hby d5_50) rfl ?_
      show Steps p.tables e below (s₁.setTop (mkF m 51 #[.val (.long p0), .second, .val (.long ((((p0 * ((2 : Int64) - (p0 * p0))) * ((2 : Int64) - (p0 * (p0 * ((2 : Int64) - (p0 * p0)))))) * ((2 : Int64) - (p0 * ((p0 * ((2 : Int64) - (p0 * p0))) * ((2 : Int64) - (p0 * (p0 * ((2 : Int64) - (p0 * p0))))))))) * ((2 : Int64) - (p0 * (((p0 * ((2 : Int64) - (p0 * p0))) * ((2 : Int64) - (p0 * (p0 * ((2 : Int64) - (p0 * p0)))))) * ((2 : Int64) - (p0 * ((p0 * ((2 : Int64) - (p0 * p0))) * ((2 : Int64) - (p0 * (p0 * ((2 : Int64) - (p0 * p0))))))))))))), .second] [(.long (((((p0 * ((2 : Int64) - (p0 * p0))) * ((2 : Int64) - (p0 * (p0 * ((2 : Int64) - (p0 * p0)))))) * ((2 : Int64) - (p0 * ((p0 * ((2 : Int64) - (p0 * p0))) * ((2 : Int64) - (p0 * (p0 * ((2 : Int64) - (p0 * p0))))))))) * ((2 : Int64) - (p0 * (((p0 * ((2 : Int64) - (p0 * p0))) * ((2 : Int64) - (p0 * (p0 * ((2 : Int64) - (p0 * p0)))))) * ((2 : Int64) - (p0 * ((p0 * ((2 : Int64) - (p0 * p0))) * ((2 : Int64) - (p0 * (p0 * ((2 : Int64) - (p0 * p0)))))))))))) * ((2 : Int64) - (p0 * ((((p0 * ((2 : Int64) - (p0 * p0))) * ((2 : Int64) - (p0 * (p0 * ((2 : Int64) - (p0 * p0)))))) * ((2 : Int64) - (p0 * ((p0 * ((2 : Int64) - (p0 * p0))) * ((2 : Int64) - (p0 * (p0 * ((2 : Int64) - (p0 * p0))))))))) * ((2 : Int64) - (p0 * (((p0 * ((2 : Int64) - (p0 * p0))) * ((2 : Int64) - (p0 * (p0 * ((2 : Int64) - (p0 * p0)))))) * ((2 : Int64) - (p0 * ((p0 * ((2 : Int64) - (p0 * p0))) * ((2 : Int64) - (p0 * (p0 * ((2 : Int64) - (p0 * p0))))))))))))))))])) _
      refine XS.lstoreN X0.here hx rfl (hb hby d5_51) rfl (l' := #[.val (.long p0), .second, .val (.long (((((p0 * ((2 : Int64) - (p0 * p0))) * ((2 : Int64) - (p0 * (p0 * ((2 : Int64) - (p0 * p0)))))) * ((2 : Int64) - (p0 * ((p0 * ((2 : Int64) - (p0 * p0))) * ((2 : Int64) - (p0 * (p0 * ((2 : Int64) - (p0 * p0))))))))) * ((2 : Int64) - (p0 * (((p0 * ((2 : Int64) - (p0 * p0))) * ((2 : Int64) - (p0 * (p0 * ((2 : Int64) - (p0 * p0)))))) * ((2 : Int64) - (p0 * ((p0 * ((2 : Int64) - (p0 * p0))) * ((2 : Int64) - (p0 * (p0 * ((2 : Int64) - (p0 * p0)))))))))))) * ((2 : Int64) - (p0 * ((((p0 * ((2 : Int64) - (p0 * p0))) * ((2 : Int64) - (p0 * (p0 * ((2 : Int64) - (p0 * p0)))))) * ((2 : Int64) - (p0 * ((p0 * ((2 : Int64) - (p0 * p0))) * ((2 : Int64) - (p0 * (p0 * ((2 : Int64) - (p0 * p0))))))))) * ((2 : Int64) - (p0 * (((p0 * ((2 : Int64) - (p0 * p0))) * ((2 : Int64) - (p0 * (p0 * ((2 : Int64) - (p0 * p0)))))) * ((2 : Int64) - (p0 * ((p0 * ((2 : Int64) - (p0 * p0))) * ((2 : Int64) - (p0 * (p0 * ((2 : Int64) - (p0 * p0)))))))))))))))), .second]) rfl ?_
      show Steps p.tables e below (s₁.setTop (mkF m 52 #[.val (.long p0), .second, .val (.long (((((p0 * ((2 : Int64) - (p0 * p0))) * ((2 : Int64) - (p0 * (p0 * ((2 : Int64) - (p0 * p0)))))) * ((2 : Int64) - (p0 * ((p0 * ((2 : Int64) - (p0 * p0))) * ((2 : Int64) - (p0 * (p0 * ((2 : Int64) - (p0 * p0))))))))) * ((2 : Int64) - (p0 * (((p0 * ((2 : Int64) - (p0 * p0))) * ((2 : Int64) - (p0 * (p0 * ((2 : Int64) - (p0 * p0)))))) * ((2 : Int64) - (p0 * ((p0 * ((2 : Int64) - (p0 * p0))) * ((2 : Int64) - (p0 * (p0 * ((2 : Int64) - (p0 * p0)))))))))))) * ((2 : Int64) - (p0 * ((((p0 * ((2 : Int64) - (p0 * p0))) * ((2 : Int64) - (p0 * (p0 * ((2 : Int64) - (p0 * p0)))))) * ((2 : Int64) - (p0 * ((p0 * ((2 : Int64) - (p0 * p0))) * ((2 : Int64) - (p0 * (p0 * ((2 : Int64) - (p0 * p0))))))))) * ((2 : Int64) - (p0 * (((p0 * ((2 : Int64) - (p0 * p0))) * ((2 : Int64) - (p0 * (p0 * ((2 : Int64) - (p0 * p0)))))) * ((2 : Int64) - (p0 * ((p0 * ((2 : Int64) - (p0 * p0))) * ((2 : Int64) - (p0 * (p0 * ((2 : Int64) - (p0 * p0)))))))))))))))), .second] [])) _
      refine XS.lloadN X0.here hx rfl (hb hby d5_52) rfl ?_
      exact k
    refine hG (own_fin X0 hlk (some (.long (((((p0 * ((2 : Int64) - (p0 * p0))) * ((2 : Int64) - (p0 * (p0 * ((2 : Int64) - (p0 * p0)))))) * ((2 : Int64) - (p0 * ((p0 * ((2 : Int64) - (p0 * p0))) * ((2 : Int64) - (p0 * (p0 * ((2 : Int64) - (p0 * p0))))))))) * ((2 : Int64) - (p0 * (((p0 * ((2 : Int64) - (p0 * p0))) * ((2 : Int64) - (p0 * (p0 * ((2 : Int64) - (p0 * p0)))))) * ((2 : Int64) - (p0 * ((p0 * ((2 : Int64) - (p0 * p0))) * ((2 : Int64) - (p0 * (p0 * ((2 : Int64) - (p0 * p0)))))))))))) * ((2 : Int64) - (p0 * ((((p0 * ((2 : Int64) - (p0 * p0))) * ((2 : Int64) - (p0 * (p0 * ((2 : Int64) - (p0 * p0)))))) * ((2 : Int64) - (p0 * ((p0 * ((2 : Int64) - (p0 * p0))) * ((2 : Int64) - (p0 * (p0 * ((2 : Int64) - (p0 * p0))))))))) * ((2 : Int64) - (p0 * (((p0 * ((2 : Int64) - (p0 * p0))) * ((2 : Int64) - (p0 * (p0 * ((2 : Int64) - (p0 * p0)))))) * ((2 : Int64) - (p0 * ((p0 * ((2 : Int64) - (p0 * p0))) * ((2 : Int64) - (p0 * (p0 * ((2 : Int64) - (p0 * p0))))))))))))))))) (own_hv Bd.returns) ?_ (by decide) (by decide) (fun fs hr => r24 _ (retOut X0 hx Bd.returns rfl (Or.inr (Or.inl ⟨rfl, rfl, _, rfl⟩)) (hb hby d5_53) hr)))
    rw [e0]
    refine ⟨?_, N0, rfl⟩
    rfl
  exact key _ _ id (fun t k => castTop (ef_5 m p0) k)
theorem pd_0 : parseMethodDescriptor "(J)J" = some ⟨[.long], some .long⟩ := by decide +kernel
theorem d4_0 : decode method_3_code 0 = .ok (.lload_n 0, 1) := by decide +kernel
theorem d4_1 : decode method_3_code 1 = .ok (.lload_n 0, 1) := by decide +kernel
theorem d4_2 : decode method_3_code 2 = .ok (.bipush 31, 2) := by decide +kernel
theorem d4_4 : decode method_3_code 4 = .ok (.lushr, 1) := by decide +kernel
theorem d4_5 : decode method_3_code 5 = .ok (.lxor, 1) := by decide +kernel
theorem d4_6 : decode method_3_code 6 = .ok (.lload_n 0, 1) := by decide +kernel
theorem d4_7 : decode method_3_code 7 = .ok (.bipush 62, 2) := by decide +kernel
theorem d4_9 : decode method_3_code 9 = .ok (.lushr, 1) := by decide +kernel
theorem d4_10 : decode method_3_code 10 = .ok (.lxor, 1) := by decide +kernel
theorem d4_11 : decode method_3_code 11 = .ok (.lstore_n 2, 1) := by decide +kernel
theorem d4_12 : decode method_3_code 12 = .ok (.lload_n 2, 1) := by decide +kernel
theorem d4_13 : decode method_3_code 13 = .ok (.ldc2_w 9, 3) := by decide +kernel
theorem d4_16 : decode method_3_code 16 = .ok (.invokestatic 11, 3) := by decide +kernel
theorem d4_19 : decode method_3_code 19 = .ok (.lmul, 1) := by decide +kernel
theorem d4_20 : decode method_3_code 20 = .ok (.lstore_n 2, 1) := by decide +kernel
theorem d4_21 : decode method_3_code 21 = .ok (.lload_n 2, 1) := by decide +kernel
theorem d4_22 : decode method_3_code 22 = .ok (.lload_n 2, 1) := by decide +kernel
theorem d4_23 : decode method_3_code 23 = .ok (.bipush 27, 2) := by decide +kernel
theorem d4_25 : decode method_3_code 25 = .ok (.lushr, 1) := by decide +kernel
theorem d4_26 : decode method_3_code 26 = .ok (.lxor, 1) := by decide +kernel
theorem d4_27 : decode method_3_code 27 = .ok (.lload_n 2, 1) := by decide +kernel
theorem d4_28 : decode method_3_code 28 = .ok (.bipush 54, 2) := by decide +kernel
theorem d4_30 : decode method_3_code 30 = .ok (.lushr, 1) := by decide +kernel
theorem d4_31 : decode method_3_code 31 = .ok (.lxor, 1) := by decide +kernel
theorem d4_32 : decode method_3_code 32 = .ok (.lstore_n 2, 1) := by decide +kernel
theorem d4_33 : decode method_3_code 33 = .ok (.lload_n 2, 1) := by decide +kernel
theorem d4_34 : decode method_3_code 34 = .ok (.ldc2_w 17, 3) := by decide +kernel
theorem d4_37 : decode method_3_code 37 = .ok (.invokestatic 11, 3) := by decide +kernel
theorem d4_40 : decode method_3_code 40 = .ok (.lmul, 1) := by decide +kernel
theorem d4_41 : decode method_3_code 41 = .ok (.lstore_n 2, 1) := by decide +kernel
theorem d4_42 : decode method_3_code 42 = .ok (.lload_n 2, 1) := by decide +kernel
theorem d4_43 : decode method_3_code 43 = .ok (.lload_n 2, 1) := by decide +kernel
theorem d4_44 : decode method_3_code 44 = .ok (.bipush 30, 2) := by decide +kernel
theorem d4_46 : decode method_3_code 46 = .ok (.lushr, 1) := by decide +kernel
theorem d4_47 : decode method_3_code 47 = .ok (.lxor, 1) := by decide +kernel
theorem d4_48 : decode method_3_code 48 = .ok (.lload_n 2, 1) := by decide +kernel
theorem d4_49 : decode method_3_code 49 = .ok (.bipush 60, 2) := by decide +kernel
theorem d4_51 : decode method_3_code 51 = .ok (.lushr, 1) := by decide +kernel
theorem d4_52 : decode method_3_code 52 = .ok (.lxor, 1) := by decide +kernel
theorem d4_53 : decode method_3_code 53 = .ok (.lstore_n 2, 1) := by decide +kernel
theorem d4_54 : decode method_3_code 54 = .ok (.lload_n 2, 1) := by decide +kernel
theorem d4_55 : decode method_3_code 55 = .ok (.lreturn, 1) := by decide +kernel
theorem ef_4 (m : MethodId) (x0 : Int64) : entryFrame m #[(.long x0)] 4 = mkF m 0 #[.val (.long x0), .second, .unset, .unset] [] := by first | (simp [entryFrame, mkF, argsToLocals, Value.category]; done) | rfl
def Q4 (Z : State) (p0 : Int64) (h0 : Heap) (n0 : Nat) (v : Option Value) (h : Heap) (L : List Loc) : Prop := v = some (.long (own_unmix p0)) ∧ Fr n0 L ∧ h = h0
set_option maxRecDepth 65536 in
set_option maxHeartbeats 40000000 in
theorem rm4 (l : Launch) (Z : State) (a0 : Array Value) (hw : ∀ d ∈ tables_1, d.before a0 Z = true) (ws : List Jvm.Cond) (p0 : Int64) (h0 : Heap) (n0 : Nat) (Z0 : n0 ≤ h0.size) :
    MetFree l (⟨"com/example/sharp_bound/sharpbound/SeededRandomNextLongPinLaw", "unmix", "(J)J"⟩ : MethodName) (head1 (Jvm.Cond.code (⟨"com/example/sharp_bound/sharpbound/SeededRandomNextLongPinLaw", "unmix", "(J)J"⟩ : MethodName) method_3_code 4 (some .long) :: ws) ({ frames := 1, cells := 0, slots := 0, locals := 17 } : Room)) (fun a U => a = #[(.long p0)] ∧ Z.Warmed39 U.vm ∧ U.heap = h0) (fun _ _ _ _ _ => True) (fun _ U o U' => ∃ v L, o = .returned v ∧ Q4 Z p0 h0 n0 v U'.heap L ∧ FrameEnd U o U' L ({ frames := 1, cells := 0, slots := 0, locals := 17 } : Room).cells ({ frames := 1, cells := 0, slots := 0, locals := 17 } : Room).slots) := by
  refine MetFree.of_bodySF (plainFor_of_name pn_1) hisR ?_
  intro p e s m args below meth c s₁ Bd hml0 hP hK
  obtain ⟨rfl, hZ, hh⟩ := hP
  have hx := Bd.exec
  have hby := Bd.bytes
  have hml : c.maxLocals = 4 := hml0
  have hown : s.vm.findClass "com/example/sharp_bound/sharpbound/SeededRandomNextLongPinLaw" = some m.cls := findClass_of_methodNamed Bd.named
  have hnm := (name_of_methodNamed Bd.named Bd.method).1
  have hlk : meth.locks = false := BodyLoose.notSynchronized Bd
  have X0 : Stand p l e ({ frames := 1, cells := 0, slots := 0, locals := 17 } : Room) s m #[(.long p0)] below meth c s₁ [] 0 0 := Stand.of_body Bd
  have e0 : s₁.heap = h0 := by rw [← hh, Bd.state]; rfl
  have N0 := Fr.nil n0
  have K0 : Keep h0 h0 [] := Keep.refl h0 _
  have key : ∀ (F0 : State) (G : Prop), (own_G p e below s F0 (Q4 Z p0 h0 n0) ({ frames := 1, cells := 0, slots := 0, locals := 17 } : Room).cells ({ frames := 1, cells := 0, slots := 0, locals := 17 } : Room).slots → G) → own_R p.tables e below F0 (s₁.setTop (mkF m 0 #[.val (.long p0), .second, .unset, .unset] [])) → G := by
    intro F0 G hG r0
    have r25 : own_R p.tables e below F0 (s₁.setTop (mkF m 16 #[.val (.long p0), .second, .val (.long ((p0 ^^^ ((p0.toUInt64 >>> ((31 : Int32) &&& 0x3f).toInt64.toUInt64).toInt64)) ^^^ ((p0.toUInt64 >>> ((62 : Int32) &&& 0x3f).toInt64.toUInt64).toInt64))), .second] [(.long (-7723592293110705685 : Int64)), (.long ((p0 ^^^ ((p0.toUInt64 >>> ((31 : Int32) &&& 0x3f).toInt64.toUInt64).toInt64)) ^^^ ((p0.toUInt64 >>> ((62 : Int32) &&& 0x3f).toInt64.toUInt64).toInt64)))])) := fun t k => by
      refine r0 t ?_
      show Steps p.tables e below (s₁.setTop (mkF m 0 #[.val (.long p0), .second, .unset, .unset] [])) _
      refine XS.lloadN X0.here hx rfl (hb hby d4_0) rfl ?_
      show Steps p.tables e below (s₁.setTop (mkF m 1 #[.val (.long p0), .second, .unset, .unset] [(.long p0)])) _
      refine XS.lloadN X0.here hx rfl (hb hby d4_1) rfl ?_
      show Steps p.tables e below (s₁.setTop (mkF m 2 #[.val (.long p0), .second, .unset, .unset] [(.long p0), (.long p0)])) _
      refine XS.bipush X0.here hx rfl (hb hby d4_2) ?_
      show Steps p.tables e below (s₁.setTop (mkF m 4 #[.val (.long p0), .second, .unset, .unset] [(.int (31 : Int32)), (.long p0), (.long p0)])) _
      refine XS.lushr X0.here hx rfl (hb hby d4_4) rfl ?_
      show Steps p.tables e below (s₁.setTop (mkF m 5 #[.val (.long p0), .second, .unset, .unset] [(.long ((p0.toUInt64 >>> ((31 : Int32) &&& 0x3f).toInt64.toUInt64).toInt64)), (.long p0)])) _
      refine XS.lxor X0.here hx rfl (hb hby d4_5) rfl ?_
      show Steps p.tables e below (s₁.setTop (mkF m 6 #[.val (.long p0), .second, .unset, .unset] [(.long (p0 ^^^ ((p0.toUInt64 >>> ((31 : Int32) &&& 0x3f).toInt64.toUInt64).toInt64)))])) _
      refine XS.lloadN X0.here hx rfl (hb hby d4_6) rfl ?_
      show Steps p.tables e below (s₁.setTop (mkF m 7 #[.val (.long p0), .second, .unset, .unset] [(.long p0), (.long (p0 ^^^ ((p0.toUInt64 >>> ((31 : Int32) &&& 0x3f).toInt64.toUInt64).toInt64)))])) _
      refine XS.bipush X0.here hx rfl (hb hby d4_7) ?_
      show Steps p.tables e below (s₁.setTop (mkF m 9 #[.val (.long p0), .second, .unset, .unset] [(.int (62 : Int32)), (.long p0), (.long (p0 ^^^ ((p0.toUInt64 >>> ((31 : Int32) &&& 0x3f).toInt64.toUInt64).toInt64)))])) _
      refine XS.lushr X0.here hx rfl (hb hby d4_9) rfl ?_
      show Steps p.tables e below (s₁.setTop (mkF m 10 #[.val (.long p0), .second, .unset, .unset] [(.long ((p0.toUInt64 >>> ((62 : Int32) &&& 0x3f).toInt64.toUInt64).toInt64)), (.long (p0 ^^^ ((p0.toUInt64 >>> ((31 : Int32) &&& 0x3f).toInt64.toUInt64).toInt64)))])) _
      refine XS.lxor X0.here hx rfl (hb hby d4_10) rfl ?_
      show Steps p.tables e below (s₁.setTop (mkF m 11 #[.val (.long p0), .second, .unset, .unset] [(.long ((p0 ^^^ ((p0.toUInt64 >>> ((31 : Int32) &&& 0x3f).toInt64.toUInt64).toInt64)) ^^^ ((p0.toUInt64 >>> ((62 : Int32) &&& 0x3f).toInt64.toUInt64).toInt64)))])) _
      refine XS.lstoreN X0.here hx rfl (hb hby d4_11) rfl (l' := #[.val (.long p0), .second, .val (.long ((p0 ^^^ ((p0.toUInt64 >>> ((31 : Int32) &&& 0x3f).toInt64.toUInt64).toInt64)) ^^^ ((p0.toUInt64 >>> ((62 : Int32) &&& 0x3f).toInt64.toUInt64).toInt64))), .second]) rfl ?_
      show Steps p.tables e below (s₁.setTop (mkF m 12 #[.val (.long p0), .second, .val (.long ((p0 ^^^ ((p0.toUInt64 >>> ((31 : Int32) &&& 0x3f).toInt64.toUInt64).toInt64)) ^^^ ((p0.toUInt64 >>> ((62 : Int32) &&& 0x3f).toInt64.toUInt64).toInt64))), .second] [])) _
      refine XS.lloadN X0.here hx rfl (hb hby d4_12) rfl ?_
      show Steps p.tables e below (s₁.setTop (mkF m 13 #[.val (.long p0), .second, .val (.long ((p0 ^^^ ((p0.toUInt64 >>> ((31 : Int32) &&& 0x3f).toInt64.toUInt64).toInt64)) ^^^ ((p0.toUInt64 >>> ((62 : Int32) &&& 0x3f).toInt64.toUInt64).toInt64))), .second] [(.long ((p0 ^^^ ((p0.toUInt64 >>> ((31 : Int32) &&& 0x3f).toInt64.toUInt64).toInt64)) ^^^ ((p0.toUInt64 >>> ((62 : Int32) &&& 0x3f).toInt64.toUInt64).toInt64)))])) _
      refine X0.ldc2J hx hown (mvT hZ (hw _ (List.mem_of_getElem? (i := 23) rfl))) rfl (hb hby d4_13) ?_
      exact k
    obtain ⟨_, _, ⟨T26, L26, k26, n26⟩, -, X26, ⟨Lc26, hQ26, l26, y26, z26⟩, st26⟩ := Jvm.LawKit.callS X0 hx (y := (⟨"com/example/sharp_bound/sharpbound/SeededRandomNextLongPinLaw", "inverse", "(J)J"⟩ : MethodName)) hown (mvT hZ (hw _ (List.mem_of_getElem? (i := 24) rfl))) (mvT hZ (hw _ (List.mem_of_getElem? (i := 25) rfl))) (mvT hZ (hw _ (List.mem_of_getElem? (i := 21) rfl))) (mvT hZ (hw _ (List.mem_of_getElem? (i := 26) rfl))) (by decide) (backOf (W := 2) (rm5 l Z a0 hw [] (-7723592293110705685 : Int64) h0 n0 Z0 ) hZ (hw _ (List.mem_of_getElem? (i := 26) rfl)) (hw _ (List.mem_of_getElem? (i := 21) rfl)) (by decide) (by decide)) (g := (mkF m 16 #[.val (.long p0), .second, .val (.long ((p0 ^^^ ((p0.toUInt64 >>> ((31 : Int32) &&& 0x3f).toInt64.toUInt64).toInt64)) ^^^ ((p0.toUInt64 >>> ((62 : Int32) &&& 0x3f).toInt64.toUInt64).toInt64))), .second] [(.long (-7723592293110705685 : Int64)), (.long ((p0 ^^^ ((p0.toUInt64 >>> ((31 : Int32) &&& 0x3f).toInt64.toUInt64).toInt64)) ^^^ ((p0.toUInt64 >>> ((62 : Int32) &&& 0x3f).toInt64.toUInt64).toInt64)))])) rfl (by rw [hml]; rfl) (argsL := [(.long (-7723592293110705685 : Int64))]) (rest := [(.long ((p0 ^^^ ((p0.toUInt64 >>> ((31 : Int32) &&& 0x3f).toInt64.toUInt64).toInt64)) ^^^ ((p0.toUInt64 >>> ((62 : Int32) &&& 0x3f).toInt64.toUInt64).toInt64)))]) (lenOf pd_0 rfl) rfl (by show 2 * 0 + _ ≤ _; exact Nat.le_of_eq rfl) (hb hby d4_16) (fun _ _ => ⟨rfl, e0, (by decide : 0 + 0 ≤ _), (by decide : 0 + 0 ≤ _)⟩)
    dsimp only [Pt.U, Pt.locs, Pt.cells, Pt.slots] at X26 l26 y26 z26 st26 hQ26
    subst l26 y26 z26
    obtain ⟨rfl, N26q, I26_0⟩ := hQ26
    have N26 := Fr.app N0 N26q
    have r26 : own_R p.tables e below F0 (T26.setTop (mkF m 19 #[.val (.long p0), .second, .val (.long ((p0 ^^^ ((p0.toUInt64 >>> ((31 : Int32) &&& 0x3f).toInt64.toUInt64).toInt64)) ^^^ ((p0.toUInt64 >>> ((62 : Int32) &&& 0x3f).toInt64.toUInt64).toInt64))), .second] [(.long (own_inv (-7723592293110705685 : Int64))), (.long ((p0 ^^^ ((p0.toUInt64 >>> ((31 : Int32) &&& 0x3f).toInt64.toUInt64).toInt64)) ^^^ ((p0.toUInt64 >>> ((62 : Int32) &&& 0x3f).toInt64.toUInt64).toInt64)))])) := fun t k => r25 t (st26 t k)
    have r27 : own_R p.tables e below F0 (T26.setTop (mkF m 37 #[.val (.long p0), .second, .val (.long (((((p0 ^^^ ((p0.toUInt64 >>> ((31 : Int32) &&& 0x3f).toInt64.toUInt64).toInt64)) ^^^ ((p0.toUInt64 >>> ((62 : Int32) &&& 0x3f).toInt64.toUInt64).toInt64)) * (own_inv (-7723592293110705685 : Int64))) ^^^ (((((p0 ^^^ ((p0.toUInt64 >>> ((31 : Int32) &&& 0x3f).toInt64.toUInt64).toInt64)) ^^^ ((p0.toUInt64 >>> ((62 : Int32) &&& 0x3f).toInt64.toUInt64).toInt64)) * (own_inv (-7723592293110705685 : Int64))).toUInt64 >>> ((27 : Int32) &&& 0x3f).toInt64.toUInt64).toInt64)) ^^^ (((((p0 ^^^ ((p0.toUInt64 >>> ((31 : Int32) &&& 0x3f).toInt64.toUInt64).toInt64)) ^^^ ((p0.toUInt64 >>> ((62 : Int32) &&& 0x3f).toInt64.toUInt64).toInt64)) * (own_inv (-7723592293110705685 : Int64))).toUInt64 >>> ((54 : Int32) &&& 0x3f).toInt64.toUInt64).toInt64))), .second] [(.long (-4658895280553007687 : Int64)), (.long (((((p0 ^^^ ((p0.toUInt64 >>> ((31 : Int32) &&& 0x3f).toInt64.toUInt64).toInt64)) ^^^ ((p0.toUInt64 >>> ((62 : Int32) &&& 0x3f).toInt64.toUInt64).toInt64)) * (own_inv (-7723592293110705685 : Int64))) ^^^ (((((p0 ^^^ ((p0.toUInt64 >>> ((31 : Int32) &&& 0x3f).toInt64.toUInt64).toInt64)) ^^^ ((p0.toUInt64 >>> ((62 : Int32) &&& 0x3f).toInt64.toUInt64).toInt64)) * (own_inv (-7723592293110705685 : Int64))).toUInt64 >>> ((27 : Int32) &&& 0x3f).toInt64.toUInt64).toInt64)) ^^^ (((((p0 ^^^ ((p0.toUInt64 >>> ((31 : Int32) &&& 0x3f).toInt64.toUInt64).toInt64)) ^^^ ((p0.toUInt64 >>> ((62 : Int32) &&& 0x3f).toInt64.toUInt64).toInt64)) * (own_inv (-7723592293110705685 : Int64))).toUInt64 >>> ((54 : Int32) &&& 0x3f).toInt64.toUInt64).toInt64)))])) := fun t k => by
      refine r26 t ?_
      show Steps p.tables e below (T26.setTop (mkF m 19 #[.val (.long p0), .second, .val (.long ((p0 ^^^ ((p0.toUInt64 >>> ((31 : Int32) &&& 0x3f).toInt64.toUInt64).toInt64)) ^^^ ((p0.toUInt64 >>> ((62 : Int32) &&& 0x3f).toInt64.toUInt64).toInt64))), .second] [(.long (own_inv (-7723592293110705685 : Int64))), (.long ((p0 ^^^ ((p0.toUInt64 >>> ((31 : Int32) &&& 0x3f).toInt64.toUInt64).toInt64)) ^^^ ((p0.toUInt64 >>> ((62 : Int32) &&& 0x3f).toInt64.toUInt64).toInt64)))])) _
      refine XS.lmul X26.here hx rfl (hb hby d4_19) rfl ?_
      show Steps p.tables e below (T26.setTop (mkF m 20 #[.val (.long p0), .second, .val (.long ((p0 ^^^ ((p0.toUInt64 >>> ((31 : Int32) &&& 0x3f).toInt64.toUInt64).toInt64)) ^^^ ((p0.toUInt64 >>> ((62 : Int32) &&& 0x3f).toInt64.toUInt64).toInt64))), .second] [(.long (((p0 ^^^ ((p0.toUInt64 >>> ((31 : Int32) &&& 0x3f).toInt64.toUInt64).toInt64)) ^^^ ((p0.toUInt64 >>> ((62 : Int32) &&& 0x3f).toInt64.toUInt64).toInt64)) * (own_inv (-7723592293110705685 : Int64))))])) _
      refine XS.lstoreN X26.here hx rfl (hb hby d4_20) rfl (l' := #[.val (.long p0), .second, .val (.long (((p0 ^^^ ((p0.toUInt64 >>> ((31 : Int32) &&& 0x3f).toInt64.toUInt64).toInt64)) ^^^ ((p0.toUInt64 >>> ((62 : Int32) &&& 0x3f).toInt64.toUInt64).toInt64)) * (own_inv (-7723592293110705685 : Int64)))), .second]) rfl ?_
      show Steps p.tables e below (T26.setTop (mkF m 21 #[.val (.long p0), .second, .val (.long (((p0 ^^^ ((p0.toUInt64 >>> ((31 : Int32) &&& 0x3f).toInt64.toUInt64).toInt64)) ^^^ ((p0.toUInt64 >>> ((62 : Int32) &&& 0x3f).toInt64.toUInt64).toInt64)) * (own_inv (-7723592293110705685 : Int64)))), .second] [])) _
      refine XS.lloadN X26.here hx rfl (hb hby d4_21) rfl ?_
      show Steps p.tables e below (T26.setTop (mkF m 22 #[.val (.long p0), .second, .val (.long (((p0 ^^^ ((p0.toUInt64 >>> ((31 : Int32) &&& 0x3f).toInt64.toUInt64).toInt64)) ^^^ ((p0.toUInt64 >>> ((62 : Int32) &&& 0x3f).toInt64.toUInt64).toInt64)) * (own_inv (-7723592293110705685 : Int64)))), .second] [(.long (((p0 ^^^ ((p0.toUInt64 >>> ((31 : Int32) &&& 0x3f).toInt64.toUInt64).toInt64)) ^^^ ((p0.toUInt64 >>> ((62 : Int32) &&& 0x3f).toInt64.toUInt64).toInt64)) * (own_inv (-7723592293110705685 : Int64))))])) _
      refine XS.lloadN X26.here hx rfl (hb hby d4_22) rfl ?_
      show Steps p.tables e below (T26.setTop (mkF m 23 #[.val (.long p0), .second, .val (.long (((p0 ^^^ ((p0.toUInt64 >>> ((31 : Int32) &&& 0x3f).toInt64.toUInt64).toInt64)) ^^^ ((p0.toUInt64 >>> ((62 : Int32) &&& 0x3f).toInt64.toUInt64).toInt64)) * (own_inv (-7723592293110705685 : Int64)))), .second] [(.long (((p0 ^^^ ((p0.toUInt64 >>> ((31 : Int32) &&& 0x3f).toInt64.toUInt64).toInt64)) ^^^ ((p0.toUInt64 >>> ((62 : Int32) &&& 0x3f).toInt64.toUInt64).toInt64)) * (own_inv (-7723592293110705685 : Int64)))), (.long (((p0 ^^^ ((p0.toUInt64 >>> ((31 : Int32) &&& 0x3f).toInt64.toUInt64).toInt64)) ^^^ ((p0.toUInt64 >>> ((62 : Int32) &&& 0x3f).toInt64.toUInt64).toInt64)) * (own_inv (-7723592293110705685 : Int64))))])) _
      refine XS.bipush X26.here hx rfl (hb hby d4_23) ?_
      show Steps p.tables e below (T26.setTop (mkF m 25 #[.val (.long p0), .second, .val (.long (((p0 ^^^ ((p0.toUInt64 >>> ((31 : Int32) &&& 0x3f).toInt64.toUInt64).toInt64)) ^^^ ((p0.toUInt64 >>> ((62 : Int32) &&& 0x3f).toInt64.toUInt64).toInt64)) * (own_inv (-7723592293110705685 : Int64)))), .second] [(.int (27 : Int32)), (.long (((p0 ^^^ ((p0.toUInt64 >>> ((31 : Int32) &&& 0x3f).toInt64.toUInt64).toInt64)) ^^^ ((p0.toUInt64 >>> ((62 : Int32) &&& 0x3f).toInt64.toUInt64).toInt64)) * (own_inv (-7723592293110705685 : Int64)))), (.long (((p0 ^^^ ((p0.toUInt64 >>> ((31 : Int32) &&& 0x3f).toInt64.toUInt64).toInt64)) ^^^ ((p0.toUInt64 >>> ((62 : Int32) &&& 0x3f).toInt64.toUInt64).toInt64)) * (own_inv (-7723592293110705685 : Int64))))])) _
      refine XS.lushr X26.here hx rfl (hb hby d4_25) rfl ?_
      show Steps p.tables e below (T26.setTop (mkF m 26 #[.val (.long p0), .second, .val (.long (((p0 ^^^ ((p0.toUInt64 >>> ((31 : Int32) &&& 0x3f).toInt64.toUInt64).toInt64)) ^^^ ((p0.toUInt64 >>> ((62 : Int32) &&& 0x3f).toInt64.toUInt64).toInt64)) * (own_inv (-7723592293110705685 : Int64)))), .second] [(.long (((((p0 ^^^ ((p0.toUInt64 >>> ((31 : Int32) &&& 0x3f).toInt64.toUInt64).toInt64)) ^^^ ((p0.toUInt64 >>> ((62 : Int32) &&& 0x3f).toInt64.toUInt64).toInt64)) * (own_inv (-7723592293110705685 : Int64))).toUInt64 >>> ((27 : Int32) &&& 0x3f).toInt64.toUInt64).toInt64)), (.long (((p0 ^^^ ((p0.toUInt64 >>> ((31 : Int32) &&& 0x3f).toInt64.toUInt64).toInt64)) ^^^ ((p0.toUInt64 >>> ((62 : Int32) &&& 0x3f).toInt64.toUInt64).toInt64)) * (own_inv (-7723592293110705685 : Int64))))])) _
      refine XS.lxor X26.here hx rfl (hb hby d4_26) rfl ?_
      show Steps p.tables e below (T26.setTop (mkF m 27 #[.val (.long p0), .second, .val (.long (((p0 ^^^ ((p0.toUInt64 >>> ((31 : Int32) &&& 0x3f).toInt64.toUInt64).toInt64)) ^^^ ((p0.toUInt64 >>> ((62 : Int32) &&& 0x3f).toInt64.toUInt64).toInt64)) * (own_inv (-7723592293110705685 : Int64)))), .second] [(.long ((((p0 ^^^ ((p0.toUInt64 >>> ((31 : Int32) &&& 0x3f).toInt64.toUInt64).toInt64)) ^^^ ((p0.toUInt64 >>> ((62 : Int32) &&& 0x3f).toInt64.toUInt64).toInt64)) * (own_inv (-7723592293110705685 : Int64))) ^^^ (((((p0 ^^^ ((p0.toUInt64 >>> ((31 : Int32) &&& 0x3f).toInt64.toUInt64).toInt64)) ^^^ ((p0.toUInt64 >>> ((62 : Int32) &&& 0x3f).toInt64.toUInt64).toInt64)) * (own_inv (-7723592293110705685 : Int64))).toUInt64 >>> ((27 : Int32) &&& 0x3f).toInt64.toUInt64).toInt64)))])) _
      refine XS.lloadN X26.here hx rfl (hb hby d4_27) rfl ?_
      show Steps p.tables e below (T26.setTop (mkF m 28 #[.val (.long p0), .second, .val (.long (((p0 ^^^ ((p0.toUInt64 >>> ((31 : Int32) &&& 0x3f).toInt64.toUInt64).toInt64)) ^^^ ((p0.toUInt64 >>> ((62 : Int32) &&& 0x3f).toInt64.toUInt64).toInt64)) * (own_inv (-7723592293110705685 : Int64)))), .second] [(.long (((p0 ^^^ ((p0.toUInt64 >>> ((31 : Int32) &&& 0x3f).toInt64.toUInt64).toInt64)) ^^^ ((p0.toUInt64 >>> ((62 : Int32) &&& 0x3f).toInt64.toUInt64).toInt64)) * (own_inv (-7723592293110705685 : Int64)))), (.long ((((p0 ^^^ ((p0.toUInt64 >>> ((31 : Int32) &&& 0x3f).toInt64.toUInt64).toInt64)) ^^^ ((p0.toUInt64 >>> ((62 : Int32) &&& 0x3f).toInt64.toUInt64).toInt64)) * (own_inv (-7723592293110705685 : Int64))) ^^^ (((((p0 ^^^ ((p0.toUInt64 >>> ((31 : Int32) &&& 0x3f).toInt64.toUInt64).toInt64)) ^^^ ((p0.toUInt64 >>> ((62 : Int32) &&& 0x3f).toInt64.toUInt64).toInt64)) * (own_inv (-7723592293110705685 : Int64))).toUInt64 >>> ((27 : Int32) &&& 0x3f).toInt64.toUInt64).toInt64)))])) _
      refine XS.bipush X26.here hx rfl (hb hby d4_28) ?_
      show Steps p.tables e below (T26.setTop (mkF m 30 #[.val (.long p0), .second, .val (.long (((p0 ^^^ ((p0.toUInt64 >>> ((31 : Int32) &&& 0x3f).toInt64.toUInt64).toInt64)) ^^^ ((p0.toUInt64 >>> ((62 : Int32) &&& 0x3f).toInt64.toUInt64).toInt64)) * (own_inv (-7723592293110705685 : Int64)))), .second] [(.int (54 : Int32)), (.long (((p0 ^^^ ((p0.toUInt64 >>> ((31 : Int32) &&& 0x3f).toInt64.toUInt64).toInt64)) ^^^ ((p0.toUInt64 >>> ((62 : Int32) &&& 0x3f).toInt64.toUInt64).toInt64)) * (own_inv (-7723592293110705685 : Int64)))), (.long ((((p0 ^^^ ((p0.toUInt64 >>> ((31 : Int32) &&& 0x3f).toInt64.toUInt64).toInt64)) ^^^ ((p0.toUInt64 >>> ((62 : Int32) &&& 0x3f).toInt64.toUInt64).toInt64)) * (own_inv (-7723592293110705685 : Int64))) ^^^ (((((p0 ^^^ ((p0.toUInt64 >>> ((31 : Int32) &&& 0x3f).toInt64.toUInt64).toInt64)) ^^^ ((p0.toUInt64 >>> ((62 : Int32) &&& 0x3f).toInt64.toUInt64).toInt64)) * (own_inv (-7723592293110705685 : Int64))).toUInt64 >>> ((27 : Int32) &&& 0x3f).toInt64.toUInt64).toInt64)))])) _
      refine XS.lushr X26.here hx rfl (hb hby d4_30) rfl ?_
      show Steps p.tables e below (T26.setTop (mkF m 31 #[.val (.long p0), .second, .val (.long (((p0 ^^^ ((p0.toUInt64 >>> ((31 : Int32) &&& 0x3f).toInt64.toUInt64).toInt64)) ^^^ ((p0.toUInt64 >>> ((62 : Int32) &&& 0x3f).toInt64.toUInt64).toInt64)) * (own_inv (-7723592293110705685 : Int64)))), .second] [(.long (((((p0 ^^^ ((p0.toUInt64 >>> ((31 : Int32) &&& 0x3f).toInt64.toUInt64).toInt64)) ^^^ ((p0.toUInt64 >>> ((62 : Int32) &&& 0x3f).toInt64.toUInt64).toInt64)) * (own_inv (-7723592293110705685 : Int64))).toUInt64 >>> ((54 : Int32) &&& 0x3f).toInt64.toUInt64).toInt64)), (.long ((((p0 ^^^ ((p0.toUInt64 >>> ((31 : Int32) &&& 0x3f).toInt64.toUInt64).toInt64)) ^^^ ((p0.toUInt64 >>> ((62 : Int32) &&& 0x3f).toInt64.toUInt64).toInt64)) * (own_inv (-7723592293110705685 : Int64))) ^^^ (((((p0 ^^^ ((p0.toUInt64 >>> ((31 : Int32) &&& 0x3f).toInt64.toUInt64).toInt64)) ^^^ ((p0.toUInt64 >>> ((62 : Int32) &&& 0x3f).toInt64.toUInt64).toInt64)) * (own_inv (-7723592293110705685 : Int64))).toUInt64 >>> ((27 : Int32) &&& 0x3f).toInt64.toUInt64).toInt64)))])) _
      refine XS.lxor X26.here hx rfl (hb hby d4_31) rfl ?_
      show Steps p.tables e below (T26.setTop (mkF m 32 #[.val (.long p0), .second, .val (.long (((p0 ^^^ ((p0.toUInt64 >>> ((31 : Int32) &&& 0x3f).toInt64.toUInt64).toInt64)) ^^^ ((p0.toUInt64 >>> ((62 : Int32) &&& 0x3f).toInt64.toUInt64).toInt64)) * (own_inv (-7723592293110705685 : Int64)))), .second] [(.long (((((p0 ^^^ ((p0.toUInt64 >>> ((31 : Int32) &&& 0x3f).toInt64.toUInt64).toInt64)) ^^^ ((p0.toUInt64 >>> ((62 : Int32) &&& 0x3f).toInt64.toUInt64).toInt64)) * (own_inv (-7723592293110705685 : Int64))) ^^^ (((((p0 ^^^ ((p0.toUInt64 >>> ((31 : Int32) &&& 0x3f).toInt64.toUInt64).toInt64)) ^^^ ((p0.toUInt64 >>> ((62 : Int32) &&& 0x3f).toInt64.toUInt64).toInt64)) * (own_inv (-7723592293110705685 : Int64))).toUInt64 >>> ((27 : Int32) &&& 0x3f).toInt64.toUInt64).toInt64)) ^^^ (((((p0 ^^^ ((p0.toUInt64 >>> ((31 : Int32) &&& 0x3f).toInt64.toUInt64).toInt64)) ^^^ ((p0.toUInt64 >>> ((62 : Int32) &&& 0x3f).toInt64.toUInt64).toInt64)) * (own_inv (-7723592293110705685 : Int64))).toUInt64 >>> ((54 : Int32) &&& 0x3f).toInt64.toUInt64).toInt64)))])) _
      refine XS.lstoreN X26.here hx rfl (hb hby d4_32) rfl (l' := #[.val (.long p0), .second, .val (.long (((((p0 ^^^ ((p0.toUInt64 >>> ((31 : Int32) &&& 0x3f).toInt64.toUInt64).toInt64)) ^^^ ((p0.toUInt64 >>> ((62 : Int32) &&& 0x3f).toInt64.toUInt64).toInt64)) * (own_inv (-7723592293110705685 : Int64))) ^^^ (((((p0 ^^^ ((p0.toUInt64 >>> ((31 : Int32) &&& 0x3f).toInt64.toUInt64).toInt64)) ^^^ ((p0.toUInt64 >>> ((62 : Int32) &&& 0x3f).toInt64.toUInt64).toInt64)) * (own_inv (-7723592293110705685 : Int64))).toUInt64 >>> ((27 : Int32) &&& 0x3f).toInt64.toUInt64).toInt64)) ^^^ (((((p0 ^^^ ((p0.toUInt64 >>> ((31 : Int32) &&& 0x3f).toInt64.toUInt64).toInt64)) ^^^ ((p0.toUInt64 >>> ((62 : Int32) &&& 0x3f).toInt64.toUInt64).toInt64)) * (own_inv (-7723592293110705685 : Int64))).toUInt64 >>> ((54 : Int32) &&& 0x3f).toInt64.toUInt64).toInt64))), .second]) rfl ?_
      show Steps p.tables e below (T26.setTop (mkF m 33 #[.val (.long p0), .second, .val (.long (((((p0 ^^^ ((p0.toUInt64 >>> ((31 : Int32) &&& 0x3f).toInt64.toUInt64).toInt64)) ^^^ ((p0.toUInt64 >>> ((62 : Int32) &&& 0x3f).toInt64.toUInt64).toInt64)) * (own_inv (-7723592293110705685 : Int64))) ^^^ (((((p0 ^^^ ((p0.toUInt64 >>> ((31 : Int32) &&& 0x3f).toInt64.toUInt64).toInt64)) ^^^ ((p0.toUInt64 >>> ((62 : Int32) &&& 0x3f).toInt64.toUInt64).toInt64)) * (own_inv (-7723592293110705685 : Int64))).toUInt64 >>> ((27 : Int32) &&& 0x3f).toInt64.toUInt64).toInt64)) ^^^ (((((p0 ^^^ ((p0.toUInt64 >>> ((31 : Int32) &&& 0x3f).toInt64.toUInt64).toInt64)) ^^^ ((p0.toUInt64 >>> ((62 : Int32) &&& 0x3f).toInt64.toUInt64).toInt64)) * (own_inv (-7723592293110705685 : Int64))).toUInt64 >>> ((54 : Int32) &&& 0x3f).toInt64.toUInt64).toInt64))), .second] [])) _
      refine XS.lloadN X26.here hx rfl (hb hby d4_33) rfl ?_
      show Steps p.tables e below (T26.setTop (mkF m 34 #[.val (.long p0), .second, .val (.long (((((p0 ^^^ ((p0.toUInt64 >>> ((31 : Int32) &&& 0x3f).toInt64.toUInt64).toInt64)) ^^^ ((p0.toUInt64 >>> ((62 : Int32) &&& 0x3f).toInt64.toUInt64).toInt64)) * (own_inv (-7723592293110705685 : Int64))) ^^^ (((((p0 ^^^ ((p0.toUInt64 >>> ((31 : Int32) &&& 0x3f).toInt64.toUInt64).toInt64)) ^^^ ((p0.toUInt64 >>> ((62 : Int32) &&& 0x3f).toInt64.toUInt64).toInt64)) * (own_inv (-7723592293110705685 : Int64))).toUInt64 >>> ((27 : Int32) &&& 0x3f).toInt64.toUInt64).toInt64)) ^^^ (((((p0 ^^^ ((p0.toUInt64 >>> ((31 : Int32) &&& 0x3f).toInt64.toUInt64).toInt64)) ^^^ ((p0.toUInt64 >>> ((62 : Int32) &&& 0x3f).toInt64.toUInt64).toInt64)) * (own_inv (-7723592293110705685 : Int64))).toUInt64 >>> ((54 : Int32) &&& 0x3f).toInt64.toUInt64).toInt64))), .second] [(.long (((((p0 ^^^ ((p0.toUInt64 >>> ((31 : Int32) &&& 0x3f).toInt64.toUInt64).toInt64)) ^^^ ((p0.toUInt64 >>> ((62 : Int32) &&& 0x3f).toInt64.toUInt64).toInt64)) * (own_inv (-7723592293110705685 : Int64))) ^^^ (((((p0 ^^^ ((p0.toUInt64 >>> ((31 : Int32) &&& 0x3f).toInt64.toUInt64).toInt64)) ^^^ ((p0.toUInt64 >>> ((62 : Int32) &&& 0x3f).toInt64.toUInt64).toInt64)) * (own_inv (-7723592293110705685 : Int64))).toUInt64 >>> ((27 : Int32) &&& 0x3f).toInt64.toUInt64).toInt64)) ^^^ (((((p0 ^^^ ((p0.toUInt64 >>> ((31 : Int32) &&& 0x3f).toInt64.toUInt64).toInt64)) ^^^ ((p0.toUInt64 >>> ((62 : Int32) &&& 0x3f).toInt64.toUInt64).toInt64)) * (own_inv (-7723592293110705685 : Int64))).toUInt64 >>> ((54 : Int32) &&& 0x3f).toInt64.toUInt64).toInt64)))])) _
      refine X26.ldc2J hx hown (mvT hZ (hw _ (List.mem_of_getElem? (i := 28) rfl))) rfl (hb hby d4_34) ?_
      exact k
    obtain ⟨_, _, ⟨T28, L28, k28, n28⟩, -, X28, ⟨Lc28, hQ28, l28, y28, z28⟩, st28⟩ := Jvm.LawKit.callS X26 hx (y := (⟨"com/example/sharp_bound/sharpbound/SeededRandomNextLongPinLaw", "inverse", "(J)J"⟩ : MethodName)) hown (mvT hZ (hw _ (List.mem_of_getElem? (i := 24) rfl))) (mvT hZ (hw _ (List.mem_of_getElem? (i := 25) rfl))) (mvT hZ (hw _ (List.mem_of_getElem? (i := 21) rfl))) (mvT hZ (hw _ (List.mem_of_getElem? (i := 26) rfl))) (by decide) (backOf (W := 2) (rm5 l Z a0 hw [] (-4658895280553007687 : Int64) h0 n0 Z0 ) hZ (hw _ (List.mem_of_getElem? (i := 26) rfl)) (hw _ (List.mem_of_getElem? (i := 21) rfl)) (by decide) (by decide)) (g := (mkF m 37 #[.val (.long p0), .second, .val (.long (((((p0 ^^^ ((p0.toUInt64 >>> ((31 : Int32) &&& 0x3f).toInt64.toUInt64).toInt64)) ^^^ ((p0.toUInt64 >>> ((62 : Int32) &&& 0x3f).toInt64.toUInt64).toInt64)) * (own_inv (-7723592293110705685 : Int64))) ^^^ (((((p0 ^^^ ((p0.toUInt64 >>> ((31 : Int32) &&& 0x3f).toInt64.toUInt64).toInt64)) ^^^ ((p0.toUInt64 >>> ((62 : Int32) &&& 0x3f).toInt64.toUInt64).toInt64)) * (own_inv (-7723592293110705685 : Int64))).toUInt64 >>> ((27 : Int32) &&& 0x3f).toInt64.toUInt64).toInt64)) ^^^ (((((p0 ^^^ ((p0.toUInt64 >>> ((31 : Int32) &&& 0x3f).toInt64.toUInt64).toInt64)) ^^^ ((p0.toUInt64 >>> ((62 : Int32) &&& 0x3f).toInt64.toUInt64).toInt64)) * (own_inv (-7723592293110705685 : Int64))).toUInt64 >>> ((54 : Int32) &&& 0x3f).toInt64.toUInt64).toInt64))), .second] [(.long (-4658895280553007687 : Int64)), (.long (((((p0 ^^^ ((p0.toUInt64 >>> ((31 : Int32) &&& 0x3f).toInt64.toUInt64).toInt64)) ^^^ ((p0.toUInt64 >>> ((62 : Int32) &&& 0x3f).toInt64.toUInt64).toInt64)) * (own_inv (-7723592293110705685 : Int64))) ^^^ (((((p0 ^^^ ((p0.toUInt64 >>> ((31 : Int32) &&& 0x3f).toInt64.toUInt64).toInt64)) ^^^ ((p0.toUInt64 >>> ((62 : Int32) &&& 0x3f).toInt64.toUInt64).toInt64)) * (own_inv (-7723592293110705685 : Int64))).toUInt64 >>> ((27 : Int32) &&& 0x3f).toInt64.toUInt64).toInt64)) ^^^ (((((p0 ^^^ ((p0.toUInt64 >>> ((31 : Int32) &&& 0x3f).toInt64.toUInt64).toInt64)) ^^^ ((p0.toUInt64 >>> ((62 : Int32) &&& 0x3f).toInt64.toUInt64).toInt64)) * (own_inv (-7723592293110705685 : Int64))).toUInt64 >>> ((54 : Int32) &&& 0x3f).toInt64.toUInt64).toInt64)))])) rfl (by rw [hml]; rfl) (argsL := [(.long (-4658895280553007687 : Int64))]) (rest := [(.long (((((p0 ^^^ ((p0.toUInt64 >>> ((31 : Int32) &&& 0x3f).toInt64.toUInt64).toInt64)) ^^^ ((p0.toUInt64 >>> ((62 : Int32) &&& 0x3f).toInt64.toUInt64).toInt64)) * (own_inv (-7723592293110705685 : Int64))) ^^^ (((((p0 ^^^ ((p0.toUInt64 >>> ((31 : Int32) &&& 0x3f).toInt64.toUInt64).toInt64)) ^^^ ((p0.toUInt64 >>> ((62 : Int32) &&& 0x3f).toInt64.toUInt64).toInt64)) * (own_inv (-7723592293110705685 : Int64))).toUInt64 >>> ((27 : Int32) &&& 0x3f).toInt64.toUInt64).toInt64)) ^^^ (((((p0 ^^^ ((p0.toUInt64 >>> ((31 : Int32) &&& 0x3f).toInt64.toUInt64).toInt64)) ^^^ ((p0.toUInt64 >>> ((62 : Int32) &&& 0x3f).toInt64.toUInt64).toInt64)) * (own_inv (-7723592293110705685 : Int64))).toUInt64 >>> ((54 : Int32) &&& 0x3f).toInt64.toUInt64).toInt64)))]) (lenOf pd_0 rfl) rfl (by show 2 * 0 + _ ≤ _; exact Nat.le_of_eq rfl) (hb hby d4_37) (fun _ _ => ⟨rfl, I26_0, (by decide : 0 + 0 ≤ _), (by decide : 0 + 0 ≤ _)⟩)
    dsimp only [Pt.U, Pt.locs, Pt.cells, Pt.slots] at X28 l28 y28 z28 st28 hQ28
    subst l28 y28 z28
    obtain ⟨rfl, N28q, I28_0⟩ := hQ28
    have N28 := Fr.app N26 N28q
    have r28 : own_R p.tables e below F0 (T28.setTop (mkF m 40 #[.val (.long p0), .second, .val (.long (((((p0 ^^^ ((p0.toUInt64 >>> ((31 : Int32) &&& 0x3f).toInt64.toUInt64).toInt64)) ^^^ ((p0.toUInt64 >>> ((62 : Int32) &&& 0x3f).toInt64.toUInt64).toInt64)) * (own_inv (-7723592293110705685 : Int64))) ^^^ (((((p0 ^^^ ((p0.toUInt64 >>> ((31 : Int32) &&& 0x3f).toInt64.toUInt64).toInt64)) ^^^ ((p0.toUInt64 >>> ((62 : Int32) &&& 0x3f).toInt64.toUInt64).toInt64)) * (own_inv (-7723592293110705685 : Int64))).toUInt64 >>> ((27 : Int32) &&& 0x3f).toInt64.toUInt64).toInt64)) ^^^ (((((p0 ^^^ ((p0.toUInt64 >>> ((31 : Int32) &&& 0x3f).toInt64.toUInt64).toInt64)) ^^^ ((p0.toUInt64 >>> ((62 : Int32) &&& 0x3f).toInt64.toUInt64).toInt64)) * (own_inv (-7723592293110705685 : Int64))).toUInt64 >>> ((54 : Int32) &&& 0x3f).toInt64.toUInt64).toInt64))), .second] [(.long (own_inv (-4658895280553007687 : Int64))), (.long (((((p0 ^^^ ((p0.toUInt64 >>> ((31 : Int32) &&& 0x3f).toInt64.toUInt64).toInt64)) ^^^ ((p0.toUInt64 >>> ((62 : Int32) &&& 0x3f).toInt64.toUInt64).toInt64)) * (own_inv (-7723592293110705685 : Int64))) ^^^ (((((p0 ^^^ ((p0.toUInt64 >>> ((31 : Int32) &&& 0x3f).toInt64.toUInt64).toInt64)) ^^^ ((p0.toUInt64 >>> ((62 : Int32) &&& 0x3f).toInt64.toUInt64).toInt64)) * (own_inv (-7723592293110705685 : Int64))).toUInt64 >>> ((27 : Int32) &&& 0x3f).toInt64.toUInt64).toInt64)) ^^^ (((((p0 ^^^ ((p0.toUInt64 >>> ((31 : Int32) &&& 0x3f).toInt64.toUInt64).toInt64)) ^^^ ((p0.toUInt64 >>> ((62 : Int32) &&& 0x3f).toInt64.toUInt64).toInt64)) * (own_inv (-7723592293110705685 : Int64))).toUInt64 >>> ((54 : Int32) &&& 0x3f).toInt64.toUInt64).toInt64)))])) := fun t k => r27 t (st28 t k)
    have r29 : own_R p.tables e below F0 (T28.setTop (mkF m 55 #[.val (.long p0), .second, .val (.long ((((((((p0 ^^^ ((p0.toUInt64 >>> ((31 : Int32) &&& 0x3f).toInt64.toUInt64).toInt64)) ^^^ ((p0.toUInt64 >>> ((62 : Int32) &&& 0x3f).toInt64.toUInt64).toInt64)) * (own_inv (-7723592293110705685 : Int64))) ^^^ (((((p0 ^^^ ((p0.toUInt64 >>> ((31 : Int32) &&& 0x3f).toInt64.toUInt64).toInt64)) ^^^ ((p0.toUInt64 >>> ((62 : Int32) &&& 0x3f).toInt64.toUInt64).toInt64)) * (own_inv (-7723592293110705685 : Int64))).toUInt64 >>> ((27 : Int32) &&& 0x3f).toInt64.toUInt64).toInt64)) ^^^ (((((p0 ^^^ ((p0.toUInt64 >>> ((31 : Int32) &&& 0x3f).toInt64.toUInt64).toInt64)) ^^^ ((p0.toUInt64 >>> ((62 : Int32) &&& 0x3f).toInt64.toUInt64).toInt64)) * (own_inv (-7723592293110705685 : Int64))).toUInt64 >>> ((54 : Int32) &&& 0x3f).toInt64.toUInt64).toInt64)) * (own_inv (-4658895280553007687 : Int64))) ^^^ ((((((((p0 ^^^ ((p0.toUInt64 >>> ((31 : Int32) &&& 0x3f).toInt64.toUInt64).toInt64)) ^^^ ((p0.toUInt64 >>> ((62 : Int32) &&& 0x3f).toInt64.toUInt64).toInt64)) * (own_inv (-7723592293110705685 : Int64))) ^^^ (((((p0 ^^^ ((p0.toUInt64 >>> ((31 : Int32) &&& 0x3f).toInt64.toUInt64).toInt64)) ^^^ ((p0.toUInt64 >>> ((62 : Int32) &&& 0x3f).toInt64.toUInt64).toInt64)) * (own_inv (-7723592293110705685 : Int64))).toUInt64 >>> ((27 : Int32) &&& 0x3f).toInt64.toUInt64).toInt64)) ^^^ (((((p0 ^^^ ((p0.toUInt64 >>> ((31 : Int32) &&& 0x3f).toInt64.toUInt64).toInt64)) ^^^ ((p0.toUInt64 >>> ((62 : Int32) &&& 0x3f).toInt64.toUInt64).toInt64)) * (own_inv (-7723592293110705685 : Int64))).toUInt64 >>> ((54 : Int32) &&& 0x3f).toInt64.toUInt64).toInt64)) * (own_inv (-4658895280553007687 : Int64))).toUInt64 >>> ((30 : Int32) &&& 0x3f).toInt64.toUInt64).toInt64)) ^^^ ((((((((p0 ^^^ ((p0.toUInt64 >>> ((31 : Int32) &&& 0x3f).toInt64.toUInt64).toInt64)) ^^^ ((p0.toUInt64 >>> ((62 : Int32) &&& 0x3f).toInt64.toUInt64).toInt64)) * (own_inv (-7723592293110705685 : Int64))) ^^^ (((((p0 ^^^ ((p0.toUInt64 >>> ((31 : Int32) &&& 0x3f).toInt64.toUInt64).toInt64)) ^^^ ((p0.toUInt64 >>> ((62 : Int32) &&& 0x3f).toInt64.toUInt64).toInt64)) * (own_inv (-7723592293110705685 : Int64))).toUInt64 >>> ((27 : Int32) &&& 0x3f).toInt64.toUInt64).toInt64)) ^^^ (((((p0 ^^^ ((p0.toUInt64 >>> ((31 : Int32) &&& 0x3f).toInt64.toUInt64).toInt64)) ^^^ ((p0.toUInt64 >>> ((62 : Int32) &&& 0x3f).toInt64.toUInt64).toInt64)) * (own_inv (-7723592293110705685 : Int64))).toUInt64 >>> ((54 : Int32) &&& 0x3f).toInt64.toUInt64).toInt64)) * (own_inv (-4658895280553007687 : Int64))).toUInt64 >>> ((60 : Int32) &&& 0x3f).toInt64.toUInt64).toInt64))), .second] [(.long ((((((((p0 ^^^ ((p0.toUInt64 >>> ((31 : Int32) &&& 0x3f).toInt64.toUInt64).toInt64)) ^^^ ((p0.toUInt64 >>> ((62 : Int32) &&& 0x3f).toInt64.toUInt64).toInt64)) * (own_inv (-7723592293110705685 : Int64))) ^^^ (((((p0 ^^^ ((p0.toUInt64 >>> ((31 : Int32) &&& 0x3f).toInt64.toUInt64).toInt64)) ^^^ ((p0.toUInt64 >>> ((62 : Int32) &&& 0x3f).toInt64.toUInt64).toInt64)) * (own_inv (-7723592293110705685 : Int64))).toUInt64 >>> ((27 : Int32) &&& 0x3f).toInt64.toUInt64).toInt64)) ^^^ (((((p0 ^^^ ((p0.toUInt64 >>> ((31 : Int32) &&& 0x3f).toInt64.toUInt64).toInt64)) ^^^ ((p0.toUInt64 >>> ((62 : Int32) &&& 0x3f).toInt64.toUInt64).toInt64)) * (own_inv (-7723592293110705685 : Int64))).toUInt64 >>> ((54 : Int32) &&& 0x3f).toInt64.toUInt64).toInt64)) * (own_inv (-4658895280553007687 : Int64))) ^^^ ((((((((p0 ^^^ ((p0.toUInt64 >>> ((31 : Int32) &&& 0x3f).toInt64.toUInt64).toInt64)) ^^^ ((p0.toUInt64 >>> ((62 : Int32) &&& 0x3f).toInt64.toUInt64).toInt64)) * (own_inv (-7723592293110705685 : Int64))) ^^^ (((((p0 ^^^ ((p0.toUInt64 >>> ((31 : Int32) &&& 0x3f).toInt64.toUInt64).toInt64)) ^^^ ((p0.toUInt64 >>> ((62 : Int32) &&& 0x3f).toInt64.toUInt64).toInt64)) * (own_inv (-7723592293110705685 : Int64))).toUInt64 >>> ((27 : Int32) &&& 0x3f).toInt64.toUInt64).toInt64)) ^^^ (((((p0 ^^^ ((p0.toUInt64 >>> ((31 : Int32) &&& 0x3f).toInt64.toUInt64).toInt64)) ^^^ ((p0.toUInt64 >>> ((62 : Int32) &&& 0x3f).toInt64.toUInt64).toInt64)) * (own_inv (-7723592293110705685 : Int64))).toUInt64 >>> ((54 : Int32) &&& 0x3f).toInt64.toUInt64).toInt64)) * (own_inv (-4658895280553007687 : Int64))).toUInt64 >>> ((30 : Int32) &&& 0x3f).toInt64.toUInt64).toInt64)) ^^^ ((((((((p0 ^^^ ((p0.toUInt64 >>> ((31 : Int32) &&& 0x3f).toInt64.toUInt64).toInt64)) ^^^ ((p0.toUInt64 >>> ((62 : Int32) &&& 0x3f).toInt64.toUInt64).toInt64)) * (own_inv (-7723592293110705685 : Int64))) ^^^ (((((p0 ^^^ ((p0.toUInt64 >>> ((31 : Int32) &&& 0x3f).toInt64.toUInt64).toInt64)) ^^^ ((p0.toUInt64 >>> ((62 : Int32) &&& 0x3f).toInt64.toUInt64).toInt64)) * (own_inv (-7723592293110705685 : Int64))).toUInt64 >>> ((27 : Int32) &&& 0x3f).toInt64.toUInt64).toInt64)) ^^^ (((((p0 ^^^ ((p0.toUInt64 >>> ((31 : Int32) &&& 0x3f).toInt64.toUInt64).toInt64)) ^^^ ((p0.toUInt64 >>> ((62 : Int32) &&& 0x3f).toInt64.toUInt64).toInt64)) * (own_inv (-7723592293110705685 : Int64))).toUInt64 >>> ((54 : Int32) &&& 0x3f).toInt64.toUInt64).toInt64)) * (own_inv (-4658895280553007687 : Int64))).toUInt64 >>> ((60 : Int32) &&& 0x3f).toInt64.toUInt64).toInt64)))])) := fun t k => by
      refine r28 t ?_
      show Steps p.tables e below (T28.setTop (mkF m 40 #[.val (.long p0), .second, .val (.long (((((p0 ^^^ ((p0.toUInt64 >>> ((31 : Int32) &&& 0x3f).toInt64.toUInt64).toInt64)) ^^^ ((p0.toUInt64 >>> ((62 : Int32) &&& 0x3f).toInt64.toUInt64).toInt64)) * (own_inv (-7723592293110705685 : Int64))) ^^^ (((((p0 ^^^ ((p0.toUInt64 >>> ((31 : Int32) &&& 0x3f).toInt64.toUInt64).toInt64)) ^^^ ((p0.toUInt64 >>> ((62 : Int32) &&& 0x3f).toInt64.toUInt64).toInt64)) * (own_inv (-7723592293110705685 : Int64))).toUInt64 >>> ((27 : Int32) &&& 0x3f).toInt64.toUInt64).toInt64)) ^^^ (((((p0 ^^^ ((p0.toUInt64 >>> ((31 : Int32) &&& 0x3f).toInt64.toUInt64).toInt64)) ^^^ ((p0.toUInt64 >>> ((62 : Int32) &&& 0x3f).toInt64.toUInt64).toInt64)) * (own_inv (-7723592293110705685 : Int64))).toUInt64 >>> ((54 : Int32) &&& 0x3f).toInt64.toUInt64).toInt64))), .second] [(.long (own_inv (-4658895280553007687 : Int64))), (.long (((((p0 ^^^ ((p0.toUInt64 >>> ((31 : Int32) &&& 0x3f).toInt64.toUInt64).toInt64)) ^^^ ((p0.toUInt64 >>> ((62 : Int32) &&& 0x3f).toInt64.toUInt64).toInt64)) * (own_inv (-7723592293110705685 : Int64))) ^^^ (((((p0 ^^^ ((p0.toUInt64 >>> ((31 : Int32) &&& 0x3f).toInt64.toUInt64).toInt64)) ^^^ ((p0.toUInt64 >>> ((62 : Int32) &&& 0x3f).toInt64.toUInt64).toInt64)) * (own_inv (-7723592293110705685 : Int64))).toUInt64 >>> ((27 : Int32) &&& 0x3f).toInt64.toUInt64).toInt64)) ^^^ (((((p0 ^^^ ((p0.toUInt64 >>> ((31 : Int32) &&& 0x3f).toInt64.toUInt64).toInt64)) ^^^ ((p0.toUInt64 >>> ((62 : Int32) &&& 0x3f).toInt64.toUInt64).toInt64)) * (own_inv (-7723592293110705685 : Int64))).toUInt64 >>> ((54 : Int32) &&& 0x3f).toInt64.toUInt64).toInt64)))])) _
      refine XS.lmul X28.here hx rfl (hb hby d4_40) rfl ?_
      show Steps p.tables e below (T28.setTop (mkF m 41 #[.val (.long p0), .second, .val (.long (((((p0 ^^^ ((p0.toUInt64 >>> ((31 : Int32) &&& 0x3f).toInt64.toUInt64).toInt64)) ^^^ ((p0.toUInt64 >>> ((62 : Int32) &&& 0x3f).toInt64.toUInt64).toInt64)) * (own_inv (-7723592293110705685 : Int64))) ^^^ (((((p0 ^^^ ((p0.toUInt64 >>> ((31 : Int32) &&& 0x3f).toInt64.toUInt64).toInt64)) ^^^ ((p0.toUInt64 >>> ((62 : Int32) &&& 0x3f).toInt64.toUInt64).toInt64)) * (own_inv (-7723592293110705685 : Int64))).toUInt64 >>> ((27 : Int32) &&& 0x3f).toInt64.toUInt64).toInt64)) ^^^ (((((p0 ^^^ ((p0.toUInt64 >>> ((31 : Int32) &&& 0x3f).toInt64.toUInt64).toInt64)) ^^^ ((p0.toUInt64 >>> ((62 : Int32) &&& 0x3f).toInt64.toUInt64).toInt64)) * (own_inv (-7723592293110705685 : Int64))).toUInt64 >>> ((54 : Int32) &&& 0x3f).toInt64.toUInt64).toInt64))), .second] [(.long ((((((p0 ^^^ ((p0.toUInt64 >>> ((31 : Int32) &&& 0x3f).toInt64.toUInt64).toInt64)) ^^^ ((p0.toUInt64 >>> ((62 : Int32) &&& 0x3f).toInt64.toUInt64).toInt64)) * (own_inv (-7723592293110705685 : Int64))) ^^^ (((((p0 ^^^ ((p0.toUInt64 >>> ((31 : Int32) &&& 0x3f).toInt64.toUInt64).toInt64)) ^^^ ((p0.toUInt64 >>> ((62 : Int32) &&& 0x3f).toInt64.toUInt64).toInt64)) * (own_inv (-7723592293110705685 : Int64))).toUInt64 >>> ((27 : Int32) &&& 0x3f).toInt64.toUInt64).toInt64)) ^^^ (((((p0 ^^^ ((p0.toUInt64 >>> ((31 : Int32) &&& 0x3f).toInt64.toUInt64).toInt64)) ^^^ ((p0.toUInt64 >>> ((62 : Int32) &&& 0x3f).toInt64.toUInt64).toInt64)) * (own_inv (-7723592293110705685 : Int64))).toUInt64 >>> ((54 : Int32) &&& 0x3f).toInt64.toUInt64).toInt64)) * (own_inv (-4658895280553007687 : Int64))))])) _
      refine XS.lstoreN X28.here hx rfl (hb hby d4_41) rfl (l' := #[.val (.long p0), .second, .val (.long ((((((p0 ^^^ ((p0.toUInt64 >>> ((31 : Int32) &&& 0x3f).toInt64.toUInt64).toInt64)) ^^^ ((p0.toUInt64 >>> ((62 : Int32) &&& 0x3f).toInt64.toUInt64).toInt64)) * (own_inv (-7723592293110705685 : Int64))) ^^^ (((((p0 ^^^ ((p0.toUInt64 >>> ((31 : Int32) &&& 0x3f).toInt64.toUInt64).toInt64)) ^^^ ((p0.toUInt64 >>> ((62 : Int32) &&& 0x3f).toInt64.toUInt64).toInt64)) * (own_inv (-7723592293110705685 : Int64))).toUInt64 >>> ((27 : Int32) &&& 0x3f).toInt64.toUInt64).toInt64)) ^^^ (((((p0 ^^^ ((p0.toUInt64 >>> ((31 : Int32) &&& 0x3f).toInt64.toUInt64).toInt64)) ^^^ ((p0.toUInt64 >>> ((62 : Int32) &&& 0x3f).toInt64.toUInt64).toInt64)) * (own_inv (-7723592293110705685 : Int64))).toUInt64 >>> ((54 : Int32) &&& 0x3f).toInt64.toUInt64).toInt64)) * (own_inv (-4658895280553007687 : Int64)))), .second]) rfl ?_
      show Steps p.tables e below (T28.setTop (mkF m 42 #[.val (.long p0), .second, .val (.long ((((((p0 ^^^ ((p0.toUInt64 >>> ((31 : Int32) &&& 0x3f).toInt64.toUInt64).toInt64)) ^^^ ((p0.toUInt64 >>> ((62 : Int32) &&& 0x3f).toInt64.toUInt64).toInt64)) * (own_inv (-7723592293110705685 : Int64))) ^^^ (((((p0 ^^^ ((p0.toUInt64 >>> ((31 : Int32) &&& 0x3f).toInt64.toUInt64).toInt64)) ^^^ ((p0.toUInt64 >>> ((62 : Int32) &&& 0x3f).toInt64.toUInt64).toInt64)) * (own_inv (-7723592293110705685 : Int64))).toUInt64 >>> ((27 : Int32) &&& 0x3f).toInt64.toUInt64).toInt64)) ^^^ (((((p0 ^^^ ((p0.toUInt64 >>> ((31 : Int32) &&& 0x3f).toInt64.toUInt64).toInt64)) ^^^ ((p0.toUInt64 >>> ((62 : Int32) &&& 0x3f).toInt64.toUInt64).toInt64)) * (own_inv (-7723592293110705685 : Int64))).toUInt64 >>> ((54 : Int32) &&& 0x3f).toInt64.toUInt64).toInt64)) * (own_inv (-4658895280553007687 : Int64)))), .second] [])) _
      refine XS.lloadN X28.here hx rfl (hb hby d4_42) rfl ?_
      show Steps p.tables e below (T28.setTop (mkF m 43 #[.val (.long p0), .second, .val (.long ((((((p0 ^^^ ((p0.toUInt64 >>> ((31 : Int32) &&& 0x3f).toInt64.toUInt64).toInt64)) ^^^ ((p0.toUInt64 >>> ((62 : Int32) &&& 0x3f).toInt64.toUInt64).toInt64)) * (own_inv (-7723592293110705685 : Int64))) ^^^ (((((p0 ^^^ ((p0.toUInt64 >>> ((31 : Int32) &&& 0x3f).toInt64.toUInt64).toInt64)) ^^^ ((p0.toUInt64 >>> ((62 : Int32) &&& 0x3f).toInt64.toUInt64).toInt64)) * (own_inv (-7723592293110705685 : Int64))).toUInt64 >>> ((27 : Int32) &&& 0x3f).toInt64.toUInt64).toInt64)) ^^^ (((((p0 ^^^ ((p0.toUInt64 >>> ((31 : Int32) &&& 0x3f).toInt64.toUInt64).toInt64)) ^^^ ((p0.toUInt64 >>> ((62 : Int32) &&& 0x3f).toInt64.toUInt64).toInt64)) * (own_inv (-7723592293110705685 : Int64))).toUInt64 >>> ((54 : Int32) &&& 0x3f).toInt64.toUInt64).toInt64)) * (own_inv (-4658895280553007687 : Int64)))), .second] [(.long ((((((p0 ^^^ ((p0.toUInt64 >>> ((31 : Int32) &&& 0x3f).toInt64.toUInt64).toInt64)) ^^^ ((p0.toUInt64 >>> ((62 : Int32) &&& 0x3f).toInt64.toUInt64).toInt64)) * (own_inv (-7723592293110705685 : Int64))) ^^^ (((((p0 ^^^ ((p0.toUInt64 >>> ((31 : Int32) &&& 0x3f).toInt64.toUInt64).toInt64)) ^^^ ((p0.toUInt64 >>> ((62 : Int32) &&& 0x3f).toInt64.toUInt64).toInt64)) * (own_inv (-7723592293110705685 : Int64))).toUInt64 >>> ((27 : Int32) &&& 0x3f).toInt64.toUInt64).toInt64)) ^^^ (((((p0 ^^^ ((p0.toUInt64 >>> ((31 : Int32) &&& 0x3f).toInt64.toUInt64).toInt64)) ^^^ ((p0.toUInt64 >>> ((62 : Int32) &&& 0x3f).toInt64.toUInt64).toInt64)) * (own_inv (-7723592293110705685 : Int64))).toUInt64 >>> ((54 : Int32) &&& 0x3f).toInt64.toUInt64).toInt64)) * (own_inv (-4658895280553007687 : Int64))))])) _
      refine XS.lloadN X28.here hx rfl (hb hby d4_43) rfl ?_
      show Steps p.tables e below (T28.setTop (mkF m 44 #[.val (.long p0), .second, .val (.long ((((((p0 ^^^ ((p0.toUInt64 >>> ((31 : Int32) &&& 0x3f).toInt64.toUInt64).toInt64)) ^^^ ((p0.toUInt64 >>> ((62 : Int32) &&& 0x3f).toInt64.toUInt64).toInt64)) * (own_inv (-7723592293110705685 : Int64))) ^^^ (((((p0 ^^^ ((p0.toUInt64 >>> ((31 : Int32) &&& 0x3f).toInt64.toUInt64).toInt64)) ^^^ ((p0.toUInt64 >>> ((62 : Int32) &&& 0x3f).toInt64.toUInt64).toInt64)) * (own_inv (-7723592293110705685 : Int64))).toUInt64 >>> ((27 : Int32) &&& 0x3f).toInt64.toUInt64).toInt64)) ^^^ (((((p0 ^^^ ((p0.toUInt64 >>> ((31 : Int32) &&& 0x3f).toInt64.toUInt64).toInt64)) ^^^ ((p0.toUInt64 >>> ((62 : Int32) &&& 0x3f).toInt64.toUInt64).toInt64)) * (own_inv (-7723592293110705685 : Int64))).toUInt64 >>> ((54 : Int32) &&& 0x3f).toInt64.toUInt64).toInt64)) * (own_inv (-4658895280553007687 : Int64)))), .second] [(.long ((((((p0 ^^^ ((p0.toUInt64 >>> ((31 : Int32) &&& 0x3f).toInt64.toUInt64).toInt64)) ^^^ ((p0.toUInt64 >>> ((62 : Int32) &&& 0x3f).toInt64.toUInt64).toInt64)) * (own_inv (-7723592293110705685 : Int64))) ^^^ (((((p0 ^^^ ((p0.toUInt64 >>> ((31 : Int32) &&& 0x3f).toInt64.toUInt64).toInt64)) ^^^ ((p0.toUInt64 >>> ((62 : Int32) &&& 0x3f).toInt64.toUInt64).toInt64)) * (own_inv (-7723592293110705685 : Int64))).toUInt64 >>> ((27 : Int32) &&& 0x3f).toInt64.toUInt64).toInt64)) ^^^ (((((p0 ^^^ ((p0.toUInt64 >>> ((31 : Int32) &&& 0x3f).toInt64.toUInt64).toInt64)) ^^^ ((p0.toUInt64 >>> ((62 : Int32) &&& 0x3f).toInt64.toUInt64).toInt64)) * (own_inv (-7723592293110705685 : Int64))).toUInt64 >>> ((54 : Int32) &&& 0x3f).toInt64.toUInt64).toInt64)) * (own_inv (-4658895280553007687 : Int64)))), (.long ((((((p0 ^^^ ((p0.toUInt64 >>> ((31 : Int32) &&& 0x3f).toInt64.toUInt64).toInt64)) ^^^ ((p0.toUInt64 >>> ((62 : Int32) &&& 0x3f).toInt64.toUInt64).toInt64)) * (own_inv (-7723592293110705685 : Int64))) ^^^ (((((p0 ^^^ ((p0.toUInt64 >>> ((31 : Int32) &&& 0x3f).toInt64.toUInt64).toInt64)) ^^^ ((p0.toUInt64 >>> ((62 : Int32) &&& 0x3f).toInt64.toUInt64).toInt64)) * (own_inv (-7723592293110705685 : Int64))).toUInt64 >>> ((27 : Int32) &&& 0x3f).toInt64.toUInt64).toInt64)) ^^^ (((((p0 ^^^ ((p0.toUInt64 >>> ((31 : Int32) &&& 0x3f).toInt64.toUInt64).toInt64)) ^^^ ((p0.toUInt64 >>> ((62 : Int32) &&& 0x3f).toInt64.toUInt64).toInt64)) * (own_inv (-7723592293110705685 : Int64))).toUInt64 >>> ((54 : Int32) &&& 0x3f).toInt64.toUInt64).toInt64)) * (own_inv (-4658895280553007687 : Int64))))])) _
      refine XS.bipush X28.here hx rfl (hb hby d4_44) ?_
      show Steps p.tables e below (T28.setTop (mkF m 46 #[.val (.long p0), .second, .val (.long ((((((p0 ^^^ ((p0.toUInt64 >>> ((31 : Int32) &&& 0x3f).toInt64.toUInt64).toInt64)) ^^^ ((p0.toUInt64 >>> ((62 : Int32) &&& 0x3f).toInt64.toUInt64).toInt64)) * (own_inv (-7723592293110705685 : Int64))) ^^^ (((((p0 ^^^ ((p0.toUInt64 >>> ((31 : Int32) &&& 0x3f).toInt64.toUInt64).toInt64)) ^^^ ((p0.toUInt64 >>> ((62 : Int32) &&& 0x3f).toInt64.toUInt64).toInt64)) * (own_inv (-7723592293110705685 : Int64))).toUInt64 >>> ((27 : Int32) &&& 0x3f).toInt64.toUInt64).toInt64)) ^^^ (((((p0 ^^^ ((p0.toUInt64 >>> ((31 : Int32) &&& 0x3f).toInt64.toUInt64).toInt64)) ^^^ ((p0.toUInt64 >>> ((62 : Int32) &&& 0x3f).toInt64.toUInt64).toInt64)) * (own_inv (-7723592293110705685 : Int64))).toUInt64 >>> ((54 : Int32) &&& 0x3f).toInt64.toUInt64).toInt64)) * (own_inv (-4658895280553007687 : Int64)))), .second] [(.int (30 : Int32)), (.long ((((((p0 ^^^ ((p0.toUInt64 >>> ((31 : Int32) &&& 0x3f).toInt64.toUInt64).toInt64)) ^^^ ((p0.toUInt64 >>> ((62 : Int32) &&& 0x3f).toInt64.toUInt64).toInt64)) * (own_inv (-7723592293110705685 : Int64))) ^^^ (((((p0 ^^^ ((p0.toUInt64 >>> ((31 : Int32) &&& 0x3f).toInt64.toUInt64).toInt64)) ^^^ ((p0.toUInt64 >>> ((62 : Int32) &&& 0x3f).toInt64.toUInt64).toInt64)) * (own_inv (-7723592293110705685 : Int64))).toUInt64 >>> ((27 : Int32) &&& 0x3f).toInt64.toUInt64).toInt64)) ^^^ (((((p0 ^^^ ((p0.toUInt64 >>> ((31 : Int32) &&& 0x3f).toInt64.toUInt64).toInt64)) ^^^ ((p0.toUInt64 >>> ((62 : Int32) &&& 0x3f).toInt64.toUInt64).toInt64)) * (own_inv (-7723592293110705685 : Int64))).toUInt64 >>> ((54 : Int32) &&& 0x3f).toInt64.toUInt64).toInt64)) * (own_inv (-4658895280553007687 : Int64)))), (.long ((((((p0 ^^^ ((p0.toUInt64 >>> ((31 : Int32) &&& 0x3f).toInt64.toUInt64).toInt64)) ^^^ ((p0.toUInt64 >>> ((62 : Int32) &&& 0x3f).toInt64.toUInt64).toInt64)) * (own_inv (-7723592293110705685 : Int64))) ^^^ (((((p0 ^^^ ((p0.toUInt64 >>> ((31 : Int32) &&& 0x3f).toInt64.toUInt64).toInt64)) ^^^ ((p0.toUInt64 >>> ((62 : Int32) &&& 0x3f).toInt64.toUInt64).toInt64)) * (own_inv (-7723592293110705685 : Int64))).toUInt64 >>> ((27 : Int32) &&& 0x3f).toInt64.toUInt64).toInt64)) ^^^ (((((p0 ^^^ ((p0.toUInt64 >>> ((31 : Int32) &&& 0x3f).toInt64.toUInt64).toInt64)) ^^^ ((p0.toUInt64 >>> ((62 : Int32) &&& 0x3f).toInt64.toUInt64).toInt64)) * (own_inv (-7723592293110705685 : Int64))).toUInt64 >>> ((54 : Int32) &&& 0x3f).toInt64.toUInt64).toInt64)) * (own_inv (-4658895280553007687 : Int64))))])) _
      refine XS.lushr X28.here hx rfl (hb hby d4_46) rfl ?_
      show Steps p.tables e below (T28.setTop (mkF m 47 #[.val (.long p0), .second, .val (.long ((((((p0 ^^^ ((p0.toUInt64 >>> ((31 : Int32) &&& 0x3f).toInt64.toUInt64).toInt64)) ^^^ ((p0.toUInt64 >>> ((62 : Int32) &&& 0x3f).toInt64.toUInt64).toInt64)) * (own_inv (-7723592293110705685 : Int64))) ^^^ (((((p0 ^^^ ((p0.toUInt64 >>> ((31 : Int32) &&& 0x3f).toInt64.toUInt64).toInt64)) ^^^ ((p0.toUInt64 >>> ((62 : Int32) &&& 0x3f).toInt64.toUInt64).toInt64)) * (own_inv (-7723592293110705685 : Int64))).toUInt64 >>> ((27 : Int32) &&& 0x3f).toInt64.toUInt64).toInt64)) ^^^ (((((p0 ^^^ ((p0.toUInt64 >>> ((31 : Int32) &&& 0x3f).toInt64.toUInt64).toInt64)) ^^^ ((p0.toUInt64 >>> ((62 : Int32) &&& 0x3f).toInt64.toUInt64).toInt64)) * (own_inv (-7723592293110705685 : Int64))).toUInt64 >>> ((54 : Int32) &&& 0x3f).toInt64.toUInt64).toInt64)) * (own_inv (-4658895280553007687 : Int64)))), .second] [(.long ((((((((p0 ^^^ ((p0.toUInt64 >>> ((31 : Int32) &&& 0x3f).toInt64.toUInt64).toInt64)) ^^^ ((p0.toUInt64 >>> ((62 : Int32) &&& 0x3f).toInt64.toUInt64).toInt64)) * (own_inv (-7723592293110705685 : Int64))) ^^^ (((((p0 ^^^ ((p0.toUInt64 >>> ((31 : Int32) &&& 0x3f).toInt64.toUInt64).toInt64)) ^^^ ((p0.toUInt64 >>> ((62 : Int32) &&& 0x3f).toInt64.toUInt64).toInt64)) * (own_inv (-7723592293110705685 : Int64))).toUInt64 >>> ((27 : Int32) &&& 0x3f).toInt64.toUInt64).toInt64)) ^^^ (((((p0 ^^^ ((p0.toUInt64 >>> ((31 : Int32) &&& 0x3f).toInt64.toUInt64).toInt64)) ^^^ ((p0.toUInt64 >>> ((62 : Int32) &&& 0x3f).toInt64.toUInt64).toInt64)) * (own_inv (-7723592293110705685 : Int64))).toUInt64 >>> ((54 : Int32) &&& 0x3f).toInt64.toUInt64).toInt64)) * (own_inv (-4658895280553007687 : Int64))).toUInt64 >>> ((30 : Int32) &&& 0x3f).toInt64.toUInt64).toInt64)), (.long ((((((p0 ^^^ ((p0.toUInt64 >>> ((31 : Int32) &&& 0x3f).toInt64.toUInt64).toInt64)) ^^^ ((p0.toUInt64 >>> ((62 : Int32) &&& 0x3f).toInt64.toUInt64).toInt64)) * (own_inv (-7723592293110705685 : Int64))) ^^^ (((((p0 ^^^ ((p0.toUInt64 >>> ((31 : Int32) &&& 0x3f).toInt64.toUInt64).toInt64)) ^^^ ((p0.toUInt64 >>> ((62 : Int32) &&& 0x3f).toInt64.toUInt64).toInt64)) * (own_inv (-7723592293110705685 : Int64))).toUInt64 >>> ((27 : Int32) &&& 0x3f).toInt64.toUInt64).toInt64)) ^^^ (((((p0 ^^^ ((p0.toUInt64 >>> ((31 : Int32) &&& 0x3f).toInt64.toUInt64).toInt64)) ^^^ ((p0.toUInt64 >>> ((62 : Int32) &&& 0x3f).toInt64.toUInt64).toInt64)) * (own_inv (-7723592293110705685 : Int64))).toUInt64 >>> ((54 : Int32) &&& 0x3f).toInt64.toUInt64).toInt64)) * (own_inv (-4658895280553007687 : Int64))))])) _
      refine XS.lxor X28.here hx rfl (hb hby d4_47) rfl ?_
      show Steps p.tables e below (T28.setTop (mkF m 48 #[.val (.long p0), .second, .val (.long ((((((p0 ^^^ ((p0.toUInt64 >>> ((31 : Int32) &&& 0x3f).toInt64.toUInt64).toInt64)) ^^^ ((p0.toUInt64 >>> ((62 : Int32) &&& 0x3f).toInt64.toUInt64).toInt64)) * (own_inv (-7723592293110705685 : Int64))) ^^^ (((((p0 ^^^ ((p0.toUInt64 >>> ((31 : Int32) &&& 0x3f).toInt64.toUInt64).toInt64)) ^^^ ((p0.toUInt64 >>> ((62 : Int32) &&& 0x3f).toInt64.toUInt64).toInt64)) * (own_inv (-7723592293110705685 : Int64))).toUInt64 >>> ((27 : Int32) &&& 0x3f).toInt64.toUInt64).toInt64)) ^^^ (((((p0 ^^^ ((p0.toUInt64 >>> ((31 : Int32) &&& 0x3f).toInt64.toUInt64).toInt64)) ^^^ ((p0.toUInt64 >>> ((62 : Int32) &&& 0x3f).toInt64.toUInt64).toInt64)) * (own_inv (-7723592293110705685 : Int64))).toUInt64 >>> ((54 : Int32) &&& 0x3f).toInt64.toUInt64).toInt64)) * (own_inv (-4658895280553007687 : Int64)))), .second] [(.long (((((((p0 ^^^ ((p0.toUInt64 >>> ((31 : Int32) &&& 0x3f).toInt64.toUInt64).toInt64)) ^^^ ((p0.toUInt64 >>> ((62 : Int32) &&& 0x3f).toInt64.toUInt64).toInt64)) * (own_inv (-7723592293110705685 : Int64))) ^^^ (((((p0 ^^^ ((p0.toUInt64 >>> ((31 : Int32) &&& 0x3f).toInt64.toUInt64).toInt64)) ^^^ ((p0.toUInt64 >>> ((62 : Int32) &&& 0x3f).toInt64.toUInt64).toInt64)) * (own_inv (-7723592293110705685 : Int64))).toUInt64 >>> ((27 : Int32) &&& 0x3f).toInt64.toUInt64).toInt64)) ^^^ (((((p0 ^^^ ((p0.toUInt64 >>> ((31 : Int32) &&& 0x3f).toInt64.toUInt64).toInt64)) ^^^ ((p0.toUInt64 >>> ((62 : Int32) &&& 0x3f).toInt64.toUInt64).toInt64)) * (own_inv (-7723592293110705685 : Int64))).toUInt64 >>> ((54 : Int32) &&& 0x3f).toInt64.toUInt64).toInt64)) * (own_inv (-4658895280553007687 : Int64))) ^^^ ((((((((p0 ^^^ ((p0.toUInt64 >>> ((31 : Int32) &&& 0x3f).toInt64.toUInt64).toInt64)) ^^^ ((p0.toUInt64 >>> ((62 : Int32) &&& 0x3f).toInt64.toUInt64).toInt64)) * (own_inv (-7723592293110705685 : Int64))) ^^^ (((((p0 ^^^ ((p0.toUInt64 >>> ((31 : Int32) &&& 0x3f).toInt64.toUInt64).toInt64)) ^^^ ((p0.toUInt64 >>> ((62 : Int32) &&& 0x3f).toInt64.toUInt64).toInt64)) * (own_inv (-7723592293110705685 : Int64))).toUInt64 >>> ((27 : Int32) &&& 0x3f).toInt64.toUInt64).toInt64)) ^^^ (((((p0 ^^^ ((p0.toUInt64 >>> ((31 : Int32) &&& 0x3f).toInt64.toUInt64).toInt64)) ^^^ ((p0.toUInt64 >>> ((62 : Int32) &&& 0x3f).toInt64.toUInt64).toInt64)) * (own_inv (-7723592293110705685 : Int64))).toUInt64 >>> ((54 : Int32) &&& 0x3f).toInt64.toUInt64).toInt64)) * (own_inv (-4658895280553007687 : Int64))).toUInt64 >>> ((30 : Int32) &&& 0x3f).toInt64.toUInt64).toInt64)))])) _
      refine XS.lloadN X28.here hx rfl (hb hby d4_48) rfl ?_
      show Steps p.tables e below (T28.setTop (mkF m 49 #[.val (.long p0), .second, .val (.long ((((((p0 ^^^ ((p0.toUInt64 >>> ((31 : Int32) &&& 0x3f).toInt64.toUInt64).toInt64)) ^^^ ((p0.toUInt64 >>> ((62 : Int32) &&& 0x3f).toInt64.toUInt64).toInt64)) * (own_inv (-7723592293110705685 : Int64))) ^^^ (((((p0 ^^^ ((p0.toUInt64 >>> ((31 : Int32) &&& 0x3f).toInt64.toUInt64).toInt64)) ^^^ ((p0.toUInt64 >>> ((62 : Int32) &&& 0x3f).toInt64.toUInt64).toInt64)) * (own_inv (-7723592293110705685 : Int64))).toUInt64 >>> ((27 : Int32) &&& 0x3f).toInt64.toUInt64).toInt64)) ^^^ (((((p0 ^^^ ((p0.toUInt64 >>> ((31 : Int32) &&& 0x3f).toInt64.toUInt64).toInt64)) ^^^ ((p0.toUInt64 >>> ((62 : Int32) &&& 0x3f).toInt64.toUInt64).toInt64)) * (own_inv (-7723592293110705685 : Int64))).toUInt64 >>> ((54 : Int32) &&& 0x3f).toInt64.toUInt64).toInt64)) * (own_inv (-4658895280553007687 : Int64)))), .second] [(.long ((((((p0 ^^^ ((p0.toUInt64 >>> ((31 : Int32) &&& 0x3f).toInt64.toUInt64).toInt64)) ^^^ ((p0.toUInt64 >>> ((62 : Int32) &&& 0x3f).toInt64.toUInt64).toInt64)) * (own_inv (-7723592293110705685 : Int64))) ^^^ (((((p0 ^^^ ((p0.toUInt64 >>> ((31 : Int32) &&& 0x3f).toInt64.toUInt64).toInt64)) ^^^ ((p0.toUInt64 >>> ((62 : Int32) &&& 0x3f).toInt64.toUInt64).toInt64)) * (own_inv (-7723592293110705685 : Int64))).toUInt64 >>> ((27 : Int32) &&& 0x3f).toInt64.toUInt64).toInt64)) ^^^ (((((p0 ^^^ ((p0.toUInt64 >>> ((31 : Int32) &&& 0x3f).toInt64.toUInt64).toInt64)) ^^^ ((p0.toUInt64 >>> ((62 : Int32) &&& 0x3f).toInt64.toUInt64).toInt64)) * (own_inv (-7723592293110705685 : Int64))).toUInt64 >>> ((54 : Int32) &&& 0x3f).toInt64.toUInt64).toInt64)) * (own_inv (-4658895280553007687 : Int64)))), (.long (((((((p0 ^^^ ((p0.toUInt64 >>> ((31 : Int32) &&& 0x3f).toInt64.toUInt64).toInt64)) ^^^ ((p0.toUInt64 >>> ((62 : Int32) &&& 0x3f).toInt64.toUInt64).toInt64)) * (own_inv (-7723592293110705685 : Int64))) ^^^ (((((p0 ^^^ ((p0.toUInt64 >>> ((31 : Int32) &&& 0x3f).toInt64.toUInt64).toInt64)) ^^^ ((p0.toUInt64 >>> ((62 : Int32) &&& 0x3f).toInt64.toUInt64).toInt64)) * (own_inv (-7723592293110705685 : Int64))).toUInt64 >>> ((27 : Int32) &&& 0x3f).toInt64.toUInt64).toInt64)) ^^^ (((((p0 ^^^ ((p0.toUInt64 >>> ((31 : Int32) &&& 0x3f).toInt64.toUInt64).toInt64)) ^^^ ((p0.toUInt64 >>> ((62 : Int32) &&& 0x3f).toInt64.toUInt64).toInt64)) * (own_inv (-7723592293110705685 : Int64))).toUInt64 >>> ((54 : Int32) &&& 0x3f).toInt64.toUInt64).toInt64)) * (own_inv (-4658895280553007687 : Int64))) ^^^ ((((((((p0 ^^^ ((p0.toUInt64 >>> ((31 : Int32) &&& 0x3f).toInt64.toUInt64).toInt64)) ^^^ ((p0.toUInt64 >>> ((62 : Int32) &&& 0x3f).toInt64.toUInt64).toInt64)) * (own_inv (-7723592293110705685 : Int64))) ^^^ (((((p0 ^^^ ((p0.toUInt64 >>> ((31 : Int32) &&& 0x3f).toInt64.toUInt64).toInt64)) ^^^ ((p0.toUInt64 >>> ((62 : Int32) &&& 0x3f).toInt64.toUInt64).toInt64)) * (own_inv (-7723592293110705685 : Int64))).toUInt64 >>> ((27 : Int32) &&& 0x3f).toInt64.toUInt64).toInt64)) ^^^ (((((p0 ^^^ ((p0.toUInt64 >>> ((31 : Int32) &&& 0x3f).toInt64.toUInt64).toInt64)) ^^^ ((p0.toUInt64 >>> ((62 : Int32) &&& 0x3f).toInt64.toUInt64).toInt64)) * (own_inv (-7723592293110705685 : Int64))).toUInt64 >>> ((54 : Int32) &&& 0x3f).toInt64.toUInt64).toInt64)) * (own_inv (-4658895280553007687 : Int64))).toUInt64 >>> ((30 : Int32) &&& 0x3f).toInt64.toUInt64).toInt64)))])) _
      refine XS.bipush X28.here hx rfl (hb hby d4_49) ?_
      show Steps p.tables e below (T28.setTop (mkF m 51 #[.val (.long p0), .second, .val (.long ((((((p0 ^^^ ((p0.toUInt64 >>> ((31 : Int32) &&& 0x3f).toInt64.toUInt64).toInt64)) ^^^ ((p0.toUInt64 >>> ((62 : Int32) &&& 0x3f).toInt64.toUInt64).toInt64)) * (own_inv (-7723592293110705685 : Int64))) ^^^ (((((p0 ^^^ ((p0.toUInt64 >>> ((31 : Int32) &&& 0x3f).toInt64.toUInt64).toInt64)) ^^^ ((p0.toUInt64 >>> ((62 : Int32) &&& 0x3f).toInt64.toUInt64).toInt64)) * (own_inv (-7723592293110705685 : Int64))).toUInt64 >>> ((27 : Int32) &&& 0x3f).toInt64.toUInt64).toInt64)) ^^^ (((((p0 ^^^ ((p0.toUInt64 >>> ((31 : Int32) &&& 0x3f).toInt64.toUInt64).toInt64)) ^^^ ((p0.toUInt64 >>> ((62 : Int32) &&& 0x3f).toInt64.toUInt64).toInt64)) * (own_inv (-7723592293110705685 : Int64))).toUInt64 >>> ((54 : Int32) &&& 0x3f).toInt64.toUInt64).toInt64)) * (own_inv (-4658895280553007687 : Int64)))), .second] [(.int (60 : Int32)), (.long ((((((p0 ^^^ ((p0.toUInt64 >>> ((31 : Int32) &&& 0x3f).toInt64.toUInt64).toInt64)) ^^^ ((p0.toUInt64 >>> ((62 : Int32) &&& 0x3f).toInt64.toUInt64).toInt64)) * (own_inv (-7723592293110705685 : Int64))) ^^^ (((((p0 ^^^ ((p0.toUInt64 >>> ((31 : Int32) &&& 0x3f).toInt64.toUInt64).toInt64)) ^^^ ((p0.toUInt64 >>> ((62 : Int32) &&& 0x3f).toInt64.toUInt64).toInt64)) * (own_inv (-7723592293110705685 : Int64))).toUInt64 >>> ((27 : Int32) &&& 0x3f).toInt64.toUInt64).toInt64)) ^^^ (((((p0 ^^^ ((p0.toUInt64 >>> ((31 : Int32) &&& 0x3f).toInt64.toUInt64).toInt64)) ^^^ ((p0.toUInt64 >>> ((62 : Int32) &&& 0x3f).toInt64.toUInt64).toInt64)) * (own_inv (-7723592293110705685 : Int64))).toUInt64 >>> ((54 : Int32) &&& 0x3f).toInt64.toUInt64).toInt64)) * (own_inv (-4658895280553007687 : Int64)))), (.long (((((((p0 ^^^ ((p0.toUInt64 >>> ((31 : Int32) &&& 0x3f).toInt64.toUInt64).toInt64)) ^^^ ((p0.toUInt64 >>> ((62 : Int32) &&& 0x3f).toInt64.toUInt64).toInt64)) * (own_inv (-7723592293110705685 : Int64))) ^^^ (((((p0 ^^^ ((p0.toUInt64 >>> ((31 : Int32) &&& 0x3f).toInt64.toUInt64).toInt64)) ^^^ ((p0.toUInt64 >>> ((62 : Int32) &&& 0x3f).toInt64.toUInt64).toInt64)) * (own_inv (-7723592293110705685 : Int64))).toUInt64 >>> ((27 : Int32) &&& 0x3f).toInt64.toUInt64).toInt64)) ^^^ (((((p0 ^^^ ((p0.toUInt64 >>> ((31 : Int32) &&& 0x3f).toInt64.toUInt64).toInt64)) ^^^ ((p0.toUInt64 >>> ((62 : Int32) &&& 0x3f).toInt64.toUInt64).toInt64)) * (own_inv (-7723592293110705685 : Int64))).toUInt64 >>> ((54 : Int32) &&& 0x3f).toInt64.toUInt64).toInt64)) * (own_inv (-4658895280553007687 : Int64))) ^^^ ((((((((p0 ^^^ ((p0.toUInt64 >>> ((31 : Int32) &&& 0x3f).toInt64.toUInt64).toInt64)) ^^^ ((p0.toUInt64 >>> ((62 : Int32) &&& 0x3f).toInt64.toUInt64).toInt64)) * (own_inv (-7723592293110705685 : Int64))) ^^^ (((((p0 ^^^ ((p0.toUInt64 >>> ((31 : Int32) &&& 0x3f).toInt64.toUInt64).toInt64)) ^^^ ((p0.toUInt64 >>> ((62 : Int32) &&& 0x3f).toInt64.toUInt64).toInt64)) * (own_inv (-7723592293110705685 : Int64))).toUInt64 >>> ((27 : Int32) &&& 0x3f).toInt64.toUInt64).toInt64)) ^^^ (((((p0 ^^^ ((p0.toUInt64 >>> ((31 : Int32) &&& 0x3f).toInt64.toUInt64).toInt64)) ^^^ ((p0.toUInt64 >>> ((62 : Int32) &&& 0x3f).toInt64.toUInt64).toInt64)) * (own_inv (-7723592293110705685 : Int64))).toUInt64 >>> ((54 : Int32) &&& 0x3f).toInt64.toUInt64).toInt64)) * (own_inv (-4658895280553007687 : Int64))).toUInt64 >>> ((30 : Int32) &&& 0x3f).toInt64.toUInt64).toInt64)))])) _
      refine XS.lushr X28.here hx rfl (hb hby d4_51) rfl ?_
      show Steps p.tables e below (T28.setTop (mkF m 52 #[.val (.long p0), .second, .val (.long ((((((p0 ^^^ ((p0.toUInt64 >>> ((31 : Int32) &&& 0x3f).toInt64.toUInt64).toInt64)) ^^^ ((p0.toUInt64 >>> ((62 : Int32) &&& 0x3f).toInt64.toUInt64).toInt64)) * (own_inv (-7723592293110705685 : Int64))) ^^^ (((((p0 ^^^ ((p0.toUInt64 >>> ((31 : Int32) &&& 0x3f).toInt64.toUInt64).toInt64)) ^^^ ((p0.toUInt64 >>> ((62 : Int32) &&& 0x3f).toInt64.toUInt64).toInt64)) * (own_inv (-7723592293110705685 : Int64))).toUInt64 >>> ((27 : Int32) &&& 0x3f).toInt64.toUInt64).toInt64)) ^^^ (((((p0 ^^^ ((p0.toUInt64 >>> ((31 : Int32) &&& 0x3f).toInt64.toUInt64).toInt64)) ^^^ ((p0.toUInt64 >>> ((62 : Int32) &&& 0x3f).toInt64.toUInt64).toInt64)) * (own_inv (-7723592293110705685 : Int64))).toUInt64 >>> ((54 : Int32) &&& 0x3f).toInt64.toUInt64).toInt64)) * (own_inv (-4658895280553007687 : Int64)))), .second] [(.long ((((((((p0 ^^^ ((p0.toUInt64 >>> ((31 : Int32) &&& 0x3f).toInt64.toUInt64).toInt64)) ^^^ ((p0.toUInt64 >>> ((62 : Int32) &&& 0x3f).toInt64.toUInt64).toInt64)) * (own_inv (-7723592293110705685 : Int64))) ^^^ (((((p0 ^^^ ((p0.toUInt64 >>> ((31 : Int32) &&& 0x3f).toInt64.toUInt64).toInt64)) ^^^ ((p0.toUInt64 >>> ((62 : Int32) &&& 0x3f).toInt64.toUInt64).toInt64)) * (own_inv (-7723592293110705685 : Int64))).toUInt64 >>> ((27 : Int32) &&& 0x3f).toInt64.toUInt64).toInt64)) ^^^ (((((p0 ^^^ ((p0.toUInt64 >>> ((31 : Int32) &&& 0x3f).toInt64.toUInt64).toInt64)) ^^^ ((p0.toUInt64 >>> ((62 : Int32) &&& 0x3f).toInt64.toUInt64).toInt64)) * (own_inv (-7723592293110705685 : Int64))).toUInt64 >>> ((54 : Int32) &&& 0x3f).toInt64.toUInt64).toInt64)) * (own_inv (-4658895280553007687 : Int64))).toUInt64 >>> ((60 : Int32) &&& 0x3f).toInt64.toUInt64).toInt64)), (.long (((((((p0 ^^^ ((p0.toUInt64 >>> ((31 : Int32) &&& 0x3f).toInt64.toUInt64).toInt64)) ^^^ ((p0.toUInt64 >>> ((62 : Int32) &&& 0x3f).toInt64.toUInt64).toInt64)) * (own_inv (-7723592293110705685 : Int64))) ^^^ (((((p0 ^^^ ((p0.toUInt64 >>> ((31 : Int32) &&& 0x3f).toInt64.toUInt64).toInt64)) ^^^ ((p0.toUInt64 >>> ((62 : Int32) &&& 0x3f).toInt64.toUInt64).toInt64)) * (own_inv (-7723592293110705685 : Int64))).toUInt64 >>> ((27 : Int32) &&& 0x3f).toInt64.toUInt64).toInt64)) ^^^ (((((p0 ^^^ ((p0.toUInt64 >>> ((31 : Int32) &&& 0x3f).toInt64.toUInt64).toInt64)) ^^^ ((p0.toUInt64 >>> ((62 : Int32) &&& 0x3f).toInt64.toUInt64).toInt64)) * (own_inv (-7723592293110705685 : Int64))).toUInt64 >>> ((54 : Int32) &&& 0x3f).toInt64.toUInt64).toInt64)) * (own_inv (-4658895280553007687 : Int64))) ^^^ ((((((((p0 ^^^ ((p0.toUInt64 >>> ((31 : Int32) &&& 0x3f).toInt64.toUInt64).toInt64)) ^^^ ((p0.toUInt64 >>> ((62 : Int32) &&& 0x3f).toInt64.toUInt64).toInt64)) * (own_inv (-7723592293110705685 : Int64))) ^^^ (((((p0 ^^^ ((p0.toUInt64 >>> ((31 : Int32) &&& 0x3f).toInt64.toUInt64).toInt64)) ^^^ ((p0.toUInt64 >>> ((62 : Int32) &&& 0x3f).toInt64.toUInt64).toInt64)) * (own_inv (-7723592293110705685 : Int64))).toUInt64 >>> ((27 : Int32) &&& 0x3f).toInt64.toUInt64).toInt64)) ^^^ (((((p0 ^^^ ((p0.toUInt64 >>> ((31 : Int32) &&& 0x3f).toInt64.toUInt64).toInt64)) ^^^ ((p0.toUInt64 >>> ((62 : Int32) &&& 0x3f).toInt64.toUInt64).toInt64)) * (own_inv (-7723592293110705685 : Int64))).toUInt64 >>> ((54 : Int32) &&& 0x3f).toInt64.toUInt64).toInt64)) * (own_inv (-4658895280553007687 : Int64))).toUInt64 >>> ((30 : Int32) &&& 0x3f).toInt64.toUInt64).toInt64)))])) _
      refine XS.lxor X28.here hx rfl (hb hby d4_52) rfl ?_
      show Steps p.tables e below (T28.setTop (mkF m 53 #[.val (.long p0), .second, .val (.long ((((((p0 ^^^ ((p0.toUInt64 >>> ((31 : Int32) &&& 0x3f).toInt64.toUInt64).toInt64)) ^^^ ((p0.toUInt64 >>> ((62 : Int32) &&& 0x3f).toInt64.toUInt64).toInt64)) * (own_inv (-7723592293110705685 : Int64))) ^^^ (((((p0 ^^^ ((p0.toUInt64 >>> ((31 : Int32) &&& 0x3f).toInt64.toUInt64).toInt64)) ^^^ ((p0.toUInt64 >>> ((62 : Int32) &&& 0x3f).toInt64.toUInt64).toInt64)) * (own_inv (-7723592293110705685 : Int64))).toUInt64 >>> ((27 : Int32) &&& 0x3f).toInt64.toUInt64).toInt64)) ^^^ (((((p0 ^^^ ((p0.toUInt64 >>> ((31 : Int32) &&& 0x3f).toInt64.toUInt64).toInt64)) ^^^ ((p0.toUInt64 >>> ((62 : Int32) &&& 0x3f).toInt64.toUInt64).toInt64)) * (own_inv (-7723592293110705685 : Int64))).toUInt64 >>> ((54 : Int32) &&& 0x3f).toInt64.toUInt64).toInt64)) * (own_inv (-4658895280553007687 : Int64)))), .second] [(.long ((((((((p0 ^^^ ((p0.toUInt64 >>> ((31 : Int32) &&& 0x3f).toInt64.toUInt64).toInt64)) ^^^ ((p0.toUInt64 >>> ((62 : Int32) &&& 0x3f).toInt64.toUInt64).toInt64)) * (own_inv (-7723592293110705685 : Int64))) ^^^ (((((p0 ^^^ ((p0.toUInt64 >>> ((31 : Int32) &&& 0x3f).toInt64.toUInt64).toInt64)) ^^^ ((p0.toUInt64 >>> ((62 : Int32) &&& 0x3f).toInt64.toUInt64).toInt64)) * (own_inv (-7723592293110705685 : Int64))).toUInt64 >>> ((27 : Int32) &&& 0x3f).toInt64.toUInt64).toInt64)) ^^^ (((((p0 ^^^ ((p0.toUInt64 >>> ((31 : Int32) &&& 0x3f).toInt64.toUInt64).toInt64)) ^^^ ((p0.toUInt64 >>> ((62 : Int32) &&& 0x3f).toInt64.toUInt64).toInt64)) * (own_inv (-7723592293110705685 : Int64))).toUInt64 >>> ((54 : Int32) &&& 0x3f).toInt64.toUInt64).toInt64)) * (own_inv (-4658895280553007687 : Int64))) ^^^ ((((((((p0 ^^^ ((p0.toUInt64 >>> ((31 : Int32) &&& 0x3f).toInt64.toUInt64).toInt64)) ^^^ ((p0.toUInt64 >>> ((62 : Int32) &&& 0x3f).toInt64.toUInt64).toInt64)) * (own_inv (-7723592293110705685 : Int64))) ^^^ (((((p0 ^^^ ((p0.toUInt64 >>> ((31 : Int32) &&& 0x3f).toInt64.toUInt64).toInt64)) ^^^ ((p0.toUInt64 >>> ((62 : Int32) &&& 0x3f).toInt64.toUInt64).toInt64)) * (own_inv (-7723592293110705685 : Int64))).toUInt64 >>> ((27 : Int32) &&& 0x3f).toInt64.toUInt64).toInt64)) ^^^ (((((p0 ^^^ ((p0.toUInt64 >>> ((31 : Int32) &&& 0x3f).toInt64.toUInt64).toInt64)) ^^^ ((p0.toUInt64 >>> ((62 : Int32) &&& 0x3f).toInt64.toUInt64).toInt64)) * (own_inv (-7723592293110705685 : Int64))).toUInt64 >>> ((54 : Int32) &&& 0x3f).toInt64.toUInt64).toInt64)) * (own_inv (-4658895280553007687 : Int64))).toUInt64 >>> ((30 : Int32) &&& 0x3f).toInt64.toUInt64).toInt64)) ^^^ ((((((((p0 ^^^ ((p0.toUInt64 >>> ((31 : Int32) &&& 0x3f).toInt64.toUInt64).toInt64)) ^^^ ((p0.toUInt64 >>> ((62 : Int32) &&& 0x3f).toInt64.toUInt64).toInt64)) * (own_inv (-7723592293110705685 : Int64))) ^^^ (((((p0 ^^^ ((p0.toUInt64 >>> ((31 : Int32) &&& 0x3f).toInt64.toUInt64).toInt64)) ^^^ ((p0.toUInt64 >>> ((62 : Int32) &&& 0x3f).toInt64.toUInt64).toInt64)) * (own_inv (-7723592293110705685 : Int64))).toUInt64 >>> ((27 : Int32) &&& 0x3f).toInt64.toUInt64).toInt64)) ^^^ (((((p0 ^^^ ((p0.toUInt64 >>> ((31 : Int32) &&& 0x3f).toInt64.toUInt64).toInt64)) ^^^ ((p0.toUInt64 >>> ((62 : Int32) &&& 0x3f).toInt64.toUInt64).toInt64)) * (own_inv (-7723592293110705685 : Int64))).toUInt64 >>> ((54 : Int32) &&& 0x3f).toInt64.toUInt64).toInt64)) * (own_inv (-4658895280553007687 : Int64))).toUInt64 >>> ((60 : Int32) &&& 0x3f).toInt64.toUInt64).toInt64)))])) _
      refine XS.lstoreN X28.here hx rfl (hb hby d4_53) rfl (l' := #[.val (.long p0), .second, .val (.long ((((((((p0 ^^^ ((p0.toUInt64 >>> ((31 : Int32) &&& 0x3f).toInt64.toUInt64).toInt64)) ^^^ ((p0.toUInt64 >>> ((62 : Int32) &&& 0x3f).toInt64.toUInt64).toInt64)) * (own_inv (-7723592293110705685 : Int64))) ^^^ (((((p0 ^^^ ((p0.toUInt64 >>> ((31 : Int32) &&& 0x3f).toInt64.toUInt64).toInt64)) ^^^ ((p0.toUInt64 >>> ((62 : Int32) &&& 0x3f).toInt64.toUInt64).toInt64)) * (own_inv (-7723592293110705685 : Int64))).toUInt64 >>> ((27 : Int32) &&& 0x3f).toInt64.toUInt64).toInt64)) ^^^ (((((p0 ^^^ ((p0.toUInt64 >>> ((31 : Int32) &&& 0x3f).toInt64.toUInt64).toInt64)) ^^^ ((p0.toUInt64 >>> ((62 : Int32) &&& 0x3f).toInt64.toUInt64).toInt64)) * (own_inv (-7723592293110705685 : Int64))).toUInt64 >>> ((54 : Int32) &&& 0x3f).toInt64.toUInt64).toInt64)) * (own_inv (-4658895280553007687 : Int64))) ^^^ ((((((((p0 ^^^ ((p0.toUInt64 >>> ((31 : Int32) &&& 0x3f).toInt64.toUInt64).toInt64)) ^^^ ((p0.toUInt64 >>> ((62 : Int32) &&& 0x3f).toInt64.toUInt64).toInt64)) * (own_inv (-7723592293110705685 : Int64))) ^^^ (((((p0 ^^^ ((p0.toUInt64 >>> ((31 : Int32) &&& 0x3f).toInt64.toUInt64).toInt64)) ^^^ ((p0.toUInt64 >>> ((62 : Int32) &&& 0x3f).toInt64.toUInt64).toInt64)) * (own_inv (-7723592293110705685 : Int64))).toUInt64 >>> ((27 : Int32) &&& 0x3f).toInt64.toUInt64).toInt64)) ^^^ (((((p0 ^^^ ((p0.toUInt64 >>> ((31 : Int32) &&& 0x3f).toInt64.toUInt64).toInt64)) ^^^ ((p0.toUInt64 >>> ((62 : Int32) &&& 0x3f).toInt64.toUInt64).toInt64)) * (own_inv (-7723592293110705685 : Int64))).toUInt64 >>> ((54 : Int32) &&& 0x3f).toInt64.toUInt64).toInt64)) * (own_inv (-4658895280553007687 : Int64))).toUInt64 >>> ((30 : Int32) &&& 0x3f).toInt64.toUInt64).toInt64)) ^^^ ((((((((p0 ^^^ ((p0.toUInt64 >>> ((31 : Int32) &&& 0x3f).toInt64.toUInt64).toInt64)) ^^^ ((p0.toUInt64 >>> ((62 : Int32) &&& 0x3f).toInt64.toUInt64).toInt64)) * (own_inv (-7723592293110705685 : Int64))) ^^^ (((((p0 ^^^ ((p0.toUInt64 >>> ((31 : Int32) &&& 0x3f).toInt64.toUInt64).toInt64)) ^^^ ((p0.toUInt64 >>> ((62 : Int32) &&& 0x3f).toInt64.toUInt64).toInt64)) * (own_inv (-7723592293110705685 : Int64))).toUInt64 >>> ((27 : Int32) &&& 0x3f).toInt64.toUInt64).toInt64)) ^^^ (((((p0 ^^^ ((p0.toUInt64 >>> ((31 : Int32) &&& 0x3f).toInt64.toUInt64).toInt64)) ^^^ ((p0.toUInt64 >>> ((62 : Int32) &&& 0x3f).toInt64.toUInt64).toInt64)) * (own_inv (-7723592293110705685 : Int64))).toUInt64 >>> ((54 : Int32) &&& 0x3f).toInt64.toUInt64).toInt64)) * (own_inv (-4658895280553007687 : Int64))).toUInt64 >>> ((60 : Int32) &&& 0x3f).toInt64.toUInt64).toInt64))), .second]) rfl ?_
      show Steps p.tables e below (T28.setTop (mkF m 54 #[.val (.long p0), .second, .val (.long ((((((((p0 ^^^ ((p0.toUInt64 >>> ((31 : Int32) &&& 0x3f).toInt64.toUInt64).toInt64)) ^^^ ((p0.toUInt64 >>> ((62 : Int32) &&& 0x3f).toInt64.toUInt64).toInt64)) * (own_inv (-7723592293110705685 : Int64))) ^^^ (((((p0 ^^^ ((p0.toUInt64 >>> ((31 : Int32) &&& 0x3f).toInt64.toUInt64).toInt64)) ^^^ ((p0.toUInt64 >>> ((62 : Int32) &&& 0x3f).toInt64.toUInt64).toInt64)) * (own_inv (-7723592293110705685 : Int64))).toUInt64 >>> ((27 : Int32) &&& 0x3f).toInt64.toUInt64).toInt64)) ^^^ (((((p0 ^^^ ((p0.toUInt64 >>> ((31 : Int32) &&& 0x3f).toInt64.toUInt64).toInt64)) ^^^ ((p0.toUInt64 >>> ((62 : Int32) &&& 0x3f).toInt64.toUInt64).toInt64)) * (own_inv (-7723592293110705685 : Int64))).toUInt64 >>> ((54 : Int32) &&& 0x3f).toInt64.toUInt64).toInt64)) * (own_inv (-4658895280553007687 : Int64))) ^^^ ((((((((p0 ^^^ ((p0.toUInt64 >>> ((31 : Int32) &&& 0x3f).toInt64.toUInt64).toInt64)) ^^^ ((p0.toUInt64 >>> ((62 : Int32) &&& 0x3f).toInt64.toUInt64).toInt64)) * (own_inv (-7723592293110705685 : Int64))) ^^^ (((((p0 ^^^ ((p0.toUInt64 >>> ((31 : Int32) &&& 0x3f).toInt64.toUInt64).toInt64)) ^^^ ((p0.toUInt64 >>> ((62 : Int32) &&& 0x3f).toInt64.toUInt64).toInt64)) * (own_inv (-7723592293110705685 : Int64))).toUInt64 >>> ((27 : Int32) &&& 0x3f).toInt64.toUInt64).toInt64)) ^^^ (((((p0 ^^^ ((p0.toUInt64 >>> ((31 : Int32) &&& 0x3f).toInt64.toUInt64).toInt64)) ^^^ ((p0.toUInt64 >>> ((62 : Int32) &&& 0x3f).toInt64.toUInt64).toInt64)) * (own_inv (-7723592293110705685 : Int64))).toUInt64 >>> ((54 : Int32) &&& 0x3f).toInt64.toUInt64).toInt64)) * (own_inv (-4658895280553007687 : Int64))).toUInt64 >>> ((30 : Int32) &&& 0x3f).toInt64.toUInt64).toInt64)) ^^^ ((((((((p0 ^^^ ((p0.toUInt64 >>> ((31 : Int32) &&& 0x3f).toInt64.toUInt64).toInt64)) ^^^ ((p0.toUInt64 >>> ((62 : Int32) &&& 0x3f).toInt64.toUInt64).toInt64)) * (own_inv (-7723592293110705685 : Int64))) ^^^ (((((p0 ^^^ ((p0.toUInt64 >>> ((31 : Int32) &&& 0x3f).toInt64.toUInt64).toInt64)) ^^^ ((p0.toUInt64 >>> ((62 : Int32) &&& 0x3f).toInt64.toUInt64).toInt64)) * (own_inv (-7723592293110705685 : Int64))).toUInt64 >>> ((27 : Int32) &&& 0x3f).toInt64.toUInt64).toInt64)) ^^^ (((((p0 ^^^ ((p0.toUInt64 >>> ((31 : Int32) &&& 0x3f).toInt64.toUInt64).toInt64)) ^^^ ((p0.toUInt64 >>> ((62 : Int32) &&& 0x3f).toInt64.toUInt64).toInt64)) * (own_inv (-7723592293110705685 : Int64))).toUInt64 >>> ((54 : Int32) &&& 0x3f).toInt64.toUInt64).toInt64)) * (own_inv (-4658895280553007687 : Int64))).toUInt64 >>> ((60 : Int32) &&& 0x3f).toInt64.toUInt64).toInt64))), .second] [])) _
      refine XS.lloadN X28.here hx rfl (hb hby d4_54) rfl ?_
      exact k
    refine hG (own_fin X28 hlk (some (.long ((((((((p0 ^^^ ((p0.toUInt64 >>> ((31 : Int32) &&& 0x3f).toInt64.toUInt64).toInt64)) ^^^ ((p0.toUInt64 >>> ((62 : Int32) &&& 0x3f).toInt64.toUInt64).toInt64)) * (own_inv (-7723592293110705685 : Int64))) ^^^ (((((p0 ^^^ ((p0.toUInt64 >>> ((31 : Int32) &&& 0x3f).toInt64.toUInt64).toInt64)) ^^^ ((p0.toUInt64 >>> ((62 : Int32) &&& 0x3f).toInt64.toUInt64).toInt64)) * (own_inv (-7723592293110705685 : Int64))).toUInt64 >>> ((27 : Int32) &&& 0x3f).toInt64.toUInt64).toInt64)) ^^^ (((((p0 ^^^ ((p0.toUInt64 >>> ((31 : Int32) &&& 0x3f).toInt64.toUInt64).toInt64)) ^^^ ((p0.toUInt64 >>> ((62 : Int32) &&& 0x3f).toInt64.toUInt64).toInt64)) * (own_inv (-7723592293110705685 : Int64))).toUInt64 >>> ((54 : Int32) &&& 0x3f).toInt64.toUInt64).toInt64)) * (own_inv (-4658895280553007687 : Int64))) ^^^ ((((((((p0 ^^^ ((p0.toUInt64 >>> ((31 : Int32) &&& 0x3f).toInt64.toUInt64).toInt64)) ^^^ ((p0.toUInt64 >>> ((62 : Int32) &&& 0x3f).toInt64.toUInt64).toInt64)) * (own_inv (-7723592293110705685 : Int64))) ^^^ (((((p0 ^^^ ((p0.toUInt64 >>> ((31 : Int32) &&& 0x3f).toInt64.toUInt64).toInt64)) ^^^ ((p0.toUInt64 >>> ((62 : Int32) &&& 0x3f).toInt64.toUInt64).toInt64)) * (own_inv (-7723592293110705685 : Int64))).toUInt64 >>> ((27 : Int32) &&& 0x3f).toInt64.toUInt64).toInt64)) ^^^ (((((p0 ^^^ ((p0.toUInt64 >>> ((31 : Int32) &&& 0x3f).toInt64.toUInt64).toInt64)) ^^^ ((p0.toUInt64 >>> ((62 : Int32) &&& 0x3f).toInt64.toUInt64).toInt64)) * (own_inv (-7723592293110705685 : Int64))).toUInt64 >>> ((54 : Int32) &&& 0x3f).toInt64.toUInt64).toInt64)) * (own_inv (-4658895280553007687 : Int64))).toUInt64 >>> ((30 : Int32) &&& 0x3f).toInt64.toUInt64).toInt64)) ^^^ ((((((((p0 ^^^ ((p0.toUInt64 >>> ((31 : Int32) &&& 0x3f).toInt64.toUInt64).toInt64)) ^^^ ((p0.toUInt64 >>> ((62 : Int32) &&& 0x3f).toInt64.toUInt64).toInt64)) * (own_inv (-7723592293110705685 : Int64))) ^^^ (((((p0 ^^^ ((p0.toUInt64 >>> ((31 : Int32) &&& 0x3f).toInt64.toUInt64).toInt64)) ^^^ ((p0.toUInt64 >>> ((62 : Int32) &&& 0x3f).toInt64.toUInt64).toInt64)) * (own_inv (-7723592293110705685 : Int64))).toUInt64 >>> ((27 : Int32) &&& 0x3f).toInt64.toUInt64).toInt64)) ^^^ (((((p0 ^^^ ((p0.toUInt64 >>> ((31 : Int32) &&& 0x3f).toInt64.toUInt64).toInt64)) ^^^ ((p0.toUInt64 >>> ((62 : Int32) &&& 0x3f).toInt64.toUInt64).toInt64)) * (own_inv (-7723592293110705685 : Int64))).toUInt64 >>> ((54 : Int32) &&& 0x3f).toInt64.toUInt64).toInt64)) * (own_inv (-4658895280553007687 : Int64))).toUInt64 >>> ((60 : Int32) &&& 0x3f).toInt64.toUInt64).toInt64)))) (own_hv Bd.returns) ?_ (by decide) (by decide) (fun fs hr => r29 _ (retOut X28 hx Bd.returns rfl (Or.inr (Or.inl ⟨rfl, rfl, _, rfl⟩)) (hb hby d4_55) hr)))
    rw [I28_0]
    refine ⟨?_, N28, rfl⟩
    rfl
  exact key _ _ id (fun t k => castTop (ef_4 m p0) k)
theorem pd_1 : parseMethodDescriptor "(J)V" = some ⟨[.long], none⟩ := by decide +kernel
theorem pd_2 : parseMethodDescriptor "()J" = some ⟨[], some .long⟩ := by decide +kernel
theorem ef_0 (m : MethodId) (x0 : Int64) : entryFrame m #[(.long x0)] maxLocals = mkF m 0 #[.val (.long x0), .second, .unset, .unset, .unset, .unset, .unset] [] := by first | (simp [entryFrame, mkF, argsToLocals, Value.category, maxLocals]; done) | rfl
def Q0 (Z : State) (p0s : Int64) (h0 : Heap) (n0 : Nat) (v : Option Value) (h : Heap) (L : List Loc) : Prop := v = some (.int (1 : Int32)) ∧ Fr n0 L
set_option maxRecDepth 65536 in
set_option maxHeartbeats 40000000 in
theorem rm0 (l : Launch) (Z : State) (a0 : Array Value) (hw : ∀ d ∈ tables_1, d.before a0 Z = true) (ws : List Jvm.Cond) (p0s : Int64) (h0 : Heap) (n0 : Nat) (Z0 : n0 ≤ h0.size) :
    MetFree l x (head1 (Jvm.Cond.code x code maxLocals ret :: ws) room_1) (fun a U => a = #[(.long p0s)] ∧ Z.Warmed39 U.vm ∧ U.heap = h0) (fun _ _ _ _ _ => True) (fun _ U o U' => ∃ v L, o = .returned v ∧ Q0 Z p0s h0 n0 v U'.heap L ∧ FrameEnd U o U' L 16 128) := by
  refine MetFree.of_bodySF (plainFor_of_name pn_1) hisR ?_
  intro p e s m args below meth c s₁ Bd hml0 hP hK
  obtain ⟨rfl, hZ, hh⟩ := hP
  have hx := Bd.exec
  have hby := Bd.bytes
  have hml : c.maxLocals = 7 := hml0
  have hown : s.vm.findClass "com/example/sharp_bound/sharpbound/SeededRandomNextLongPinLaw" = some m.cls := findClass_of_methodNamed Bd.named
  have hnm := (name_of_methodNamed Bd.named Bd.method).1
  have hlk : meth.locks = false := BodyLoose.notSynchronized Bd
  have X0 : Stand p l e room_1 s m #[(.long p0s)] below meth c s₁ [] 0 0 := Stand.of_body Bd
  have e0 : s₁.heap = h0 := by rw [← hh, Bd.state]; rfl
  have N0 := Fr.nil n0
  have K0 : Keep h0 h0 [] := Keep.refl h0 _
  have key : ∀ (F0 : State) (G : Prop), (own_G p e below s F0 (Q0 Z p0s h0 n0) 16 128 → G) → own_R p.tables e below F0 (s₁.setTop (mkF m 0 #[.val (.long p0s), .second, .unset, .unset, .unset, .unset, .unset] [])) → G := by
    intro F0 G hG r0
    obtain ⟨T30, h30, X30, e30, E30, A30, D30, -, st30⟩ := newO X0 hx hZ hown (hw _ (List.mem_of_getElem? (i := 0) rfl)) (hw _ (List.mem_of_getElem? (i := 1) rfl)) (hw _ (List.mem_of_getElem? (i := 2) rfl)) e0 (g := (mkF m 0 #[.val (.long p0s), .second, .unset, .unset, .unset, .unset, .unset] [])) rfl (hb hby at_0) (by decide) (by decide)
    obtain ⟨b30, g30⟩ : ∃ z, z = h0.size := ⟨_, rfl⟩
    rw [← g30] at A30 D30 st30
    have ge30 : n0 ≤ b30 := Nat.le_trans Z0 (Nat.le_of_eq g30.symm)
    have old30 : h0.size ≤ b30 := Nat.le_trans K0.1 (Nat.le_of_eq g30.symm)
    have K30 : Keep h0 h30 [] := K0.ext E30
    have Zs31 : n0 ≤ h30.size := Nat.le_trans Z0 E30.1
    have F32 : Fld Z h30 b30 "com/example/sharp_bound/sharpbound/SeededRandom" "state" "J" (.long (0 : Int64)) := D30 (Or.inl (hw _ (List.mem_of_getElem? (i := 10) rfl))) (ty := .long) (by decide)
    have r30 : own_R p.tables e below F0 (T30.setTop (mkF m 3 #[.val (.long p0s), .second, .unset, .unset, .unset, .unset, .unset] [(.ref b30)])) := fun t k => r0 t (st30 t k)
    have r33 : own_R p.tables e below F0 (T30.setTop (mkF m 5 #[.val (.long p0s), .second, .unset, .unset, .unset, .unset, .unset] [(.long p0s), (.ref b30), (.ref b30)])) := fun t k => by
      refine r30 t ?_
      show Steps p.tables e below (T30.setTop (mkF m 3 #[.val (.long p0s), .second, .unset, .unset, .unset, .unset, .unset] [(.ref b30)])) _
      refine XS.dup X30.here hx rfl (hb hby at_3) rfl rfl ?_
      show Steps p.tables e below (T30.setTop (mkF m 4 #[.val (.long p0s), .second, .unset, .unset, .unset, .unset, .unset] [(.ref b30), (.ref b30)])) _
      refine XS.lloadN X30.here hx rfl (hb hby at_4) rfl ?_
      exact k
    obtain ⟨_, _, ⟨T34, L34, k34, n34⟩, -, X34, ⟨Lc34, hQ34, l34, y34, z34⟩, st34⟩ := X30.specialBack hx (y := (⟨"com/example/sharp_bound/sharpbound/SeededRandom", "<init>", "(J)V"⟩ : MethodName)) rfl hown (mvT hZ (hw _ (List.mem_of_getElem? (i := 3) rfl))) (mvT hZ (hw _ (List.mem_of_getElem? (i := 4) rfl))) (mvT hZ (hw _ (List.mem_of_getElem? (i := 5) rfl))) (by decide) (backOf (W := 1) (rm1 l Z a0 hw [] b30 p0s h30 n0 Zs31 A30 F32 ge30) hZ (hw _ (List.mem_of_getElem? (i := 5) rfl)) (hw _ (List.mem_of_getElem? (i := 2) rfl)) (by decide) (by decide)) (g := (mkF m 5 #[.val (.long p0s), .second, .unset, .unset, .unset, .unset, .unset] [(.long p0s), (.ref b30), (.ref b30)])) rfl (by rw [hml]; rfl) (Steps.refl _) (a := b30) (argsL := [(.long p0s)]) (rest := [(.ref b30)]) (lenOf pd_1 rfl) rfl (by show 2 * 0 + _ ≤ _; exact Nat.le_of_eq rfl) (hb hby at_5) (fun _ _ => ⟨rfl, e30, (by decide : 1 + 0 ≤ _), (by decide : 1 + 0 ≤ _)⟩)
    dsimp only [Pt.U, Pt.locs, Pt.cells, Pt.slots] at X34 l34 y34 z34 st34 hQ34
    subst l34 y34 z34
    obtain ⟨rfl, N34q, I34_0, I34_1, I34_2⟩ := hQ34
    have N34 := Fr.app N0 N34q
    obtain ⟨h34, e34⟩ : ∃ z, T34.heap = z := ⟨_, rfl⟩
    rw [e34] at I34_0 I34_1 I34_2
    have K35 : Keep h0 h34 [] := K30.trans I34_0 (allS (Or.inr old30) all0)
    have Zs36 : n0 ≤ h34.size := Nat.le_trans Zs31 I34_0.1
    have r34 : own_R p.tables e below F0 (T34.setTop (mkF m 8 #[.val (.long p0s), .second, .unset, .unset, .unset, .unset, .unset] [(.ref b30)])) := fun t k => r33 t (st34.trans k)
    have r37 : own_R p.tables e below F0 (T34.setTop (mkF m 10 #[.val (.long p0s), .second, .val (.ref b30), .unset, .unset, .unset, .unset] [(.ref b30)])) := fun t k => by
      refine r34 t ?_
      show Steps p.tables e below (T34.setTop (mkF m 8 #[.val (.long p0s), .second, .unset, .unset, .unset, .unset, .unset] [(.ref b30)])) _
      refine XS.astoreN X34.here hx rfl (hb hby at_8) rfl rfl (l' := #[.val (.long p0s), .second, .val (.ref b30), .unset, .unset, .unset, .unset]) rfl ?_
      show Steps p.tables e below (T34.setTop (mkF m 9 #[.val (.long p0s), .second, .val (.ref b30), .unset, .unset, .unset, .unset] [])) _
      refine XS.aloadN X34.here hx rfl (hb hby at_9) rfl rfl ?_
      exact k
    obtain ⟨cq38, kq38, q38a, q38b, q38c⟩ := isOf hZ e34 I34_1
    obtain ⟨_, _, ⟨T38, L38, k38, n38⟩, -, X38, ⟨Lc38, hQ38, l38, y38, z38⟩, st38⟩ := X34.virtualBack hx (y := (⟨"com/example/sharp_bound/sharpbound/SeededRandom", "nextLong", "()J"⟩ : MethodName)) (z := (⟨"com/example/sharp_bound/sharpbound/SeededRandom", "nextLong", "()J"⟩ : MethodName)) hown (mvT hZ (hw _ (List.mem_of_getElem? (i := 11) rfl))) (mvT hZ (hw _ (List.mem_of_getElem? (i := 12) rfl))) (notFace_of_selects (args := #[]) (mvT hZ (hw _ (List.mem_of_getElem? (i := 14) rfl)))) (mvT hZ (hw _ (List.mem_of_getElem? (i := 14) rfl))) (mvT hZ (hw _ (List.mem_of_getElem? (i := 13) rfl))) (by decide) (backOf (W := 0) (rm3 l Z a0 hw [] b30 (p0s) h34 n0 Zs36 I34_1 I34_2 ge30) hZ (hw _ (List.mem_of_getElem? (i := 15) rfl)) (hw _ (List.mem_of_getElem? (i := 2) rfl)) (by decide) (by decide)) q38a q38c (g := (mkF m 10 #[.val (.long p0s), .second, .val (.ref b30), .unset, .unset, .unset, .unset] [(.ref b30)])) rfl (by rw [hml]; rfl) (Steps.refl _) (argsL := []) (rest := []) (lenOf pd_2 rfl) rfl (by show 2 * 0 + _ ≤ _; exact Nat.le_of_eq rfl) (hb hby at_10) (fun _ _ => ⟨rfl, e34, (by decide : 1 + 0 ≤ _), (by decide : 1 + 0 ≤ _)⟩)
    dsimp only [Pt.U, Pt.locs, Pt.cells, Pt.slots] at X38 l38 y38 z38 st38 hQ38
    subst l38 y38 z38
    obtain ⟨rfl, N38q, I38_0, I38_1, I38_2⟩ := hQ38
    have N38 := Fr.app N34 N38q
    obtain ⟨h38, e38⟩ : ∃ z, T38.heap = z := ⟨_, rfl⟩
    rw [e38] at I38_0 I38_1 I38_2
    have K39 : Keep h0 h38 [] := K35.trans I38_0 (allS (Or.inr old30) all0)
    have Zs40 : n0 ≤ h38.size := Nat.le_trans Zs36 I38_0.1
    have r38 : own_R p.tables e below F0 (T38.setTop (mkF m 13 #[.val (.long p0s), .second, .val (.ref b30), .unset, .unset, .unset, .unset] [(.long (own_mix (p0s + (-7046029254386353131 : Int64))))])) := fun t k => r37 t (st38.trans k)
    have r41 : own_R p.tables e below F0 (T38.setTop (mkF m 15 #[.val (.long p0s), .second, .val (.ref b30), .val (.long (own_mix (p0s + (-7046029254386353131 : Int64)))), .second, .unset, .unset] [(.ref b30)])) := fun t k => by
      refine r38 t ?_
      show Steps p.tables e below (T38.setTop (mkF m 13 #[.val (.long p0s), .second, .val (.ref b30), .unset, .unset, .unset, .unset] [(.long (own_mix (p0s + (-7046029254386353131 : Int64))))])) _
      refine XS.lstoreN X38.here hx rfl (hb hby at_13) rfl (l' := #[.val (.long p0s), .second, .val (.ref b30), .val (.long (own_mix (p0s + (-7046029254386353131 : Int64)))), .second, .unset, .unset]) rfl ?_
      show Steps p.tables e below (T38.setTop (mkF m 14 #[.val (.long p0s), .second, .val (.ref b30), .val (.long (own_mix (p0s + (-7046029254386353131 : Int64)))), .second, .unset, .unset] [])) _
      refine XS.aloadN X38.here hx rfl (hb hby at_14) rfl rfl ?_
      exact k
    obtain ⟨cq42, kq42, q42a, q42b, q42c⟩ := isOf hZ e38 I38_1
    obtain ⟨_, _, ⟨T42, L42, k42, n42⟩, -, X42, ⟨Lc42, hQ42, l42, y42, z42⟩, st42⟩ := X38.virtualBack hx (y := (⟨"com/example/sharp_bound/sharpbound/SeededRandom", "nextLong", "()J"⟩ : MethodName)) (z := (⟨"com/example/sharp_bound/sharpbound/SeededRandom", "nextLong", "()J"⟩ : MethodName)) hown (mvT hZ (hw _ (List.mem_of_getElem? (i := 11) rfl))) (mvT hZ (hw _ (List.mem_of_getElem? (i := 12) rfl))) (notFace_of_selects (args := #[]) (mvT hZ (hw _ (List.mem_of_getElem? (i := 14) rfl)))) (mvT hZ (hw _ (List.mem_of_getElem? (i := 14) rfl))) (mvT hZ (hw _ (List.mem_of_getElem? (i := 13) rfl))) (by decide) (backOf (W := 0) (rm3 l Z a0 hw [] b30 ((p0s + (-7046029254386353131 : Int64))) h38 n0 Zs40 I38_1 I38_2 ge30) hZ (hw _ (List.mem_of_getElem? (i := 15) rfl)) (hw _ (List.mem_of_getElem? (i := 2) rfl)) (by decide) (by decide)) q42a q42c (g := (mkF m 15 #[.val (.long p0s), .second, .val (.ref b30), .val (.long (own_mix (p0s + (-7046029254386353131 : Int64)))), .second, .unset, .unset] [(.ref b30)])) rfl (by rw [hml]; rfl) (Steps.refl _) (argsL := []) (rest := []) (lenOf pd_2 rfl) rfl (by show 2 * 0 + _ ≤ _; exact Nat.le_of_eq rfl) (hb hby at_15) (fun _ _ => ⟨rfl, e38, (by decide : 1 + 0 ≤ _), (by decide : 1 + 0 ≤ _)⟩)
    dsimp only [Pt.U, Pt.locs, Pt.cells, Pt.slots] at X42 l42 y42 z42 st42 hQ42
    subst l42 y42 z42
    obtain ⟨rfl, N42q, I42_0, I42_1, I42_2⟩ := hQ42
    have N42 := Fr.app N38 N42q
    obtain ⟨h42, e42⟩ : ∃ z, T42.heap = z := ⟨_, rfl⟩
    rw [e42] at I42_0 I42_1 I42_2
    have K43 : Keep h0 h42 [] := K39.trans I42_0 (allS (Or.inr old30) all0)
    have Zs44 : n0 ≤ h42.size := Nat.le_trans Zs40 I42_0.1
    have r42 : own_R p.tables e below F0 (T42.setTop (mkF m 18 #[.val (.long p0s), .second, .val (.ref b30), .val (.long (own_mix (p0s + (-7046029254386353131 : Int64)))), .second, .unset, .unset] [(.long (own_mix ((p0s + (-7046029254386353131 : Int64)) + (-7046029254386353131 : Int64))))])) := fun t k => r41 t (st42.trans k)
    have r45 : own_R p.tables e below F0 (T42.setTop (mkF m 21 #[.val (.long p0s), .second, .val (.ref b30), .val (.long (own_mix (p0s + (-7046029254386353131 : Int64)))), .second, .val (.long (own_mix ((p0s + (-7046029254386353131 : Int64)) + (-7046029254386353131 : Int64)))), .second] [(.long (own_mix (p0s + (-7046029254386353131 : Int64))))])) := fun t k => by
      refine r42 t ?_
      show Steps p.tables e below (T42.setTop (mkF m 18 #[.val (.long p0s), .second, .val (.ref b30), .val (.long (own_mix (p0s + (-7046029254386353131 : Int64)))), .second, .unset, .unset] [(.long (own_mix ((p0s + (-7046029254386353131 : Int64)) + (-7046029254386353131 : Int64))))])) _
      refine XS.lstore X42.here hx rfl (hb hby at_18) rfl (l' := #[.val (.long p0s), .second, .val (.ref b30), .val (.long (own_mix (p0s + (-7046029254386353131 : Int64)))), .second, .val (.long (own_mix ((p0s + (-7046029254386353131 : Int64)) + (-7046029254386353131 : Int64)))), .second]) rfl ?_
      show Steps p.tables e below (T42.setTop (mkF m 20 #[.val (.long p0s), .second, .val (.ref b30), .val (.long (own_mix (p0s + (-7046029254386353131 : Int64)))), .second, .val (.long (own_mix ((p0s + (-7046029254386353131 : Int64)) + (-7046029254386353131 : Int64)))), .second] [])) _
      refine XS.lloadN X42.here hx rfl (hb hby at_20) rfl ?_
      exact k
    obtain ⟨_, _, ⟨T46, L46, k46, n46⟩, -, X46, ⟨Lc46, hQ46, l46, y46, z46⟩, st46⟩ := Jvm.LawKit.callS X42 hx (y := (⟨"com/example/sharp_bound/sharpbound/SeededRandomNextLongPinLaw", "unmix", "(J)J"⟩ : MethodName)) hown (mvT hZ (hw _ (List.mem_of_getElem? (i := 19) rfl))) (mvT hZ (hw _ (List.mem_of_getElem? (i := 20) rfl))) (mvT hZ (hw _ (List.mem_of_getElem? (i := 21) rfl))) (mvT hZ (hw _ (List.mem_of_getElem? (i := 22) rfl))) (by decide) (backOf (W := 0) (rm4 l Z a0 hw [] (own_mix (p0s + (-7046029254386353131 : Int64))) h42 n0 Zs44 ) hZ (hw _ (List.mem_of_getElem? (i := 22) rfl)) (hw _ (List.mem_of_getElem? (i := 21) rfl)) (by decide) (by decide)) (g := (mkF m 21 #[.val (.long p0s), .second, .val (.ref b30), .val (.long (own_mix (p0s + (-7046029254386353131 : Int64)))), .second, .val (.long (own_mix ((p0s + (-7046029254386353131 : Int64)) + (-7046029254386353131 : Int64)))), .second] [(.long (own_mix (p0s + (-7046029254386353131 : Int64))))])) rfl (by rw [hml]; rfl) (argsL := [(.long (own_mix (p0s + (-7046029254386353131 : Int64))))]) (rest := []) (lenOf pd_0 rfl) rfl (by show 2 * 0 + _ ≤ _; exact Nat.le_of_eq rfl) (hb hby at_21) (fun _ _ => ⟨rfl, e42, (by decide : 1 + 0 ≤ _), (by decide : 1 + 0 ≤ _)⟩)
    dsimp only [Pt.U, Pt.locs, Pt.cells, Pt.slots] at X46 l46 y46 z46 st46 hQ46
    subst l46 y46 z46
    obtain ⟨rfl, N46q, I46_0⟩ := hQ46
    have N46 := Fr.app N42 N46q
    have r46 : own_R p.tables e below F0 (T46.setTop (mkF m 24 #[.val (.long p0s), .second, .val (.ref b30), .val (.long (own_mix (p0s + (-7046029254386353131 : Int64)))), .second, .val (.long (own_mix ((p0s + (-7046029254386353131 : Int64)) + (-7046029254386353131 : Int64)))), .second] [(.long (own_unmix (own_mix (p0s + (-7046029254386353131 : Int64)))))])) := fun t k => r45 t (st46 t k)
    have r48 : own_R p.tables e below F0 (T46.setTop (mkF m 30 #[.val (.long p0s), .second, .val (.ref b30), .val (.long (own_mix (p0s + (-7046029254386353131 : Int64)))), .second, .val (.long (own_mix ((p0s + (-7046029254386353131 : Int64)) + (-7046029254386353131 : Int64)))), .second] [(.int (lcmpW (own_unmix (own_mix (p0s + (-7046029254386353131 : Int64)))) (p0s + (-7046029254386353131 : Int64))))])) := fun t k => by
      refine r46 t ?_
      show Steps p.tables e below (T46.setTop (mkF m 24 #[.val (.long p0s), .second, .val (.ref b30), .val (.long (own_mix (p0s + (-7046029254386353131 : Int64)))), .second, .val (.long (own_mix ((p0s + (-7046029254386353131 : Int64)) + (-7046029254386353131 : Int64)))), .second] [(.long (own_unmix (own_mix (p0s + (-7046029254386353131 : Int64)))))])) _
      refine XS.lloadN X46.here hx rfl (hb hby at_24) rfl ?_
      show Steps p.tables e below (T46.setTop (mkF m 25 #[.val (.long p0s), .second, .val (.ref b30), .val (.long (own_mix (p0s + (-7046029254386353131 : Int64)))), .second, .val (.long (own_mix ((p0s + (-7046029254386353131 : Int64)) + (-7046029254386353131 : Int64)))), .second] [(.long p0s), (.long (own_unmix (own_mix (p0s + (-7046029254386353131 : Int64)))))])) _
      refine X46.ldc2J hx hown (mvT hZ (hw _ (List.mem_of_getElem? (i := 29) rfl))) rfl (hb hby at_25) ?_
      show Steps p.tables e below (T46.setTop (mkF m 28 #[.val (.long p0s), .second, .val (.ref b30), .val (.long (own_mix (p0s + (-7046029254386353131 : Int64)))), .second, .val (.long (own_mix ((p0s + (-7046029254386353131 : Int64)) + (-7046029254386353131 : Int64)))), .second] [(.long (-7046029254386353131 : Int64)), (.long p0s), (.long (own_unmix (own_mix (p0s + (-7046029254386353131 : Int64)))))])) _
      refine XS.ladd X46.here hx rfl (hb hby at_28) rfl ?_
      show Steps p.tables e below (T46.setTop (mkF m 29 #[.val (.long p0s), .second, .val (.ref b30), .val (.long (own_mix (p0s + (-7046029254386353131 : Int64)))), .second, .val (.long (own_mix ((p0s + (-7046029254386353131 : Int64)) + (-7046029254386353131 : Int64)))), .second] [(.long (p0s + (-7046029254386353131 : Int64))), (.long (own_unmix (own_mix (p0s + (-7046029254386353131 : Int64)))))])) _
      refine XS.lcmp X46.here hx rfl (hb hby at_29) rfl ?_
      exact k
    have hc47 : (own_unmix (own_mix (p0s + (-7046029254386353131 : Int64)))) = (p0s + (-7046029254386353131 : Int64)) := own_um _
    have r49 : own_R p.tables e below F0 (T46.setTop (mkF m 35 #[.val (.long p0s), .second, .val (.ref b30), .val (.long (own_mix (p0s + (-7046029254386353131 : Int64)))), .second, .val (.long (own_mix ((p0s + (-7046029254386353131 : Int64)) + (-7046029254386353131 : Int64)))), .second] [(.long (own_mix ((p0s + (-7046029254386353131 : Int64)) + (-7046029254386353131 : Int64))))])) := fun t k => by
      refine r48 t ?_
      show Steps p.tables e below (T46.setTop (mkF m 30 #[.val (.long p0s), .second, .val (.ref b30), .val (.long (own_mix (p0s + (-7046029254386353131 : Int64)))), .second, .val (.long (own_mix ((p0s + (-7046029254386353131 : Int64)) + (-7046029254386353131 : Int64)))), .second] [(.int (lcmpW (own_unmix (own_mix (p0s + (-7046029254386353131 : Int64)))) (p0s + (-7046029254386353131 : Int64))))])) _
      refine XS.ifNo X46.here hx rfl (hb hby at_30) rfl (own_l_eq hc47).2 ?_
      show Steps p.tables e below (T46.setTop (mkF m 33 #[.val (.long p0s), .second, .val (.ref b30), .val (.long (own_mix (p0s + (-7046029254386353131 : Int64)))), .second, .val (.long (own_mix ((p0s + (-7046029254386353131 : Int64)) + (-7046029254386353131 : Int64)))), .second] [])) _
      refine XS.lload X46.here hx rfl (hb hby at_33) rfl ?_
      exact k
    obtain ⟨_, _, ⟨T50, L50, k50, n50⟩, -, X50, ⟨Lc50, hQ50, l50, y50, z50⟩, st50⟩ := Jvm.LawKit.callS X46 hx (y := (⟨"com/example/sharp_bound/sharpbound/SeededRandomNextLongPinLaw", "unmix", "(J)J"⟩ : MethodName)) hown (mvT hZ (hw _ (List.mem_of_getElem? (i := 19) rfl))) (mvT hZ (hw _ (List.mem_of_getElem? (i := 20) rfl))) (mvT hZ (hw _ (List.mem_of_getElem? (i := 21) rfl))) (mvT hZ (hw _ (List.mem_of_getElem? (i := 22) rfl))) (by decide) (backOf (W := 0) (rm4 l Z a0 hw [] (own_mix ((p0s + (-7046029254386353131 : Int64)) + (-7046029254386353131 : Int64))) h42 n0 Zs44 ) hZ (hw _ (List.mem_of_getElem? (i := 22) rfl)) (hw _ (List.mem_of_getElem? (i := 21) rfl)) (by decide) (by decide)) (g := (mkF m 35 #[.val (.long p0s), .second, .val (.ref b30), .val (.long (own_mix (p0s + (-7046029254386353131 : Int64)))), .second, .val (.long (own_mix ((p0s + (-7046029254386353131 : Int64)) + (-7046029254386353131 : Int64)))), .second] [(.long (own_mix ((p0s + (-7046029254386353131 : Int64)) + (-7046029254386353131 : Int64))))])) rfl (by rw [hml]; rfl) (argsL := [(.long (own_mix ((p0s + (-7046029254386353131 : Int64)) + (-7046029254386353131 : Int64))))]) (rest := []) (lenOf pd_0 rfl) rfl (by show 2 * 0 + _ ≤ _; exact Nat.le_of_eq rfl) (hb hby at_35) (fun _ _ => ⟨rfl, I46_0, (by decide : 1 + 0 ≤ _), (by decide : 1 + 0 ≤ _)⟩)
    dsimp only [Pt.U, Pt.locs, Pt.cells, Pt.slots] at X50 l50 y50 z50 st50 hQ50
    subst l50 y50 z50
    obtain ⟨rfl, N50q, I50_0⟩ := hQ50
    have N50 := Fr.app N46 N50q
    have r50 : own_R p.tables e below F0 (T50.setTop (mkF m 38 #[.val (.long p0s), .second, .val (.ref b30), .val (.long (own_mix (p0s + (-7046029254386353131 : Int64)))), .second, .val (.long (own_mix ((p0s + (-7046029254386353131 : Int64)) + (-7046029254386353131 : Int64)))), .second] [(.long (own_unmix (own_mix ((p0s + (-7046029254386353131 : Int64)) + (-7046029254386353131 : Int64)))))])) := fun t k => r49 t (st50 t k)
    have r52 : own_R p.tables e below F0 (T50.setTop (mkF m 48 #[.val (.long p0s), .second, .val (.ref b30), .val (.long (own_mix (p0s + (-7046029254386353131 : Int64)))), .second, .val (.long (own_mix ((p0s + (-7046029254386353131 : Int64)) + (-7046029254386353131 : Int64)))), .second] [(.int (lcmpW (own_unmix (own_mix ((p0s + (-7046029254386353131 : Int64)) + (-7046029254386353131 : Int64)))) ((p0s + (-7046029254386353131 : Int64)) + (-7046029254386353131 : Int64))))])) := fun t k => by
      refine r50 t ?_
      show Steps p.tables e below (T50.setTop (mkF m 38 #[.val (.long p0s), .second, .val (.ref b30), .val (.long (own_mix (p0s + (-7046029254386353131 : Int64)))), .second, .val (.long (own_mix ((p0s + (-7046029254386353131 : Int64)) + (-7046029254386353131 : Int64)))), .second] [(.long (own_unmix (own_mix ((p0s + (-7046029254386353131 : Int64)) + (-7046029254386353131 : Int64)))))])) _
      refine XS.lloadN X50.here hx rfl (hb hby at_38) rfl ?_
      show Steps p.tables e below (T50.setTop (mkF m 39 #[.val (.long p0s), .second, .val (.ref b30), .val (.long (own_mix (p0s + (-7046029254386353131 : Int64)))), .second, .val (.long (own_mix ((p0s + (-7046029254386353131 : Int64)) + (-7046029254386353131 : Int64)))), .second] [(.long p0s), (.long (own_unmix (own_mix ((p0s + (-7046029254386353131 : Int64)) + (-7046029254386353131 : Int64)))))])) _
      refine X50.ldc2J hx hown (mvT hZ (hw _ (List.mem_of_getElem? (i := 29) rfl))) rfl (hb hby at_39) ?_
      show Steps p.tables e below (T50.setTop (mkF m 42 #[.val (.long p0s), .second, .val (.ref b30), .val (.long (own_mix (p0s + (-7046029254386353131 : Int64)))), .second, .val (.long (own_mix ((p0s + (-7046029254386353131 : Int64)) + (-7046029254386353131 : Int64)))), .second] [(.long (-7046029254386353131 : Int64)), (.long p0s), (.long (own_unmix (own_mix ((p0s + (-7046029254386353131 : Int64)) + (-7046029254386353131 : Int64)))))])) _
      refine XS.ladd X50.here hx rfl (hb hby at_42) rfl ?_
      show Steps p.tables e below (T50.setTop (mkF m 43 #[.val (.long p0s), .second, .val (.ref b30), .val (.long (own_mix (p0s + (-7046029254386353131 : Int64)))), .second, .val (.long (own_mix ((p0s + (-7046029254386353131 : Int64)) + (-7046029254386353131 : Int64)))), .second] [(.long (p0s + (-7046029254386353131 : Int64))), (.long (own_unmix (own_mix ((p0s + (-7046029254386353131 : Int64)) + (-7046029254386353131 : Int64)))))])) _
      refine X50.ldc2J hx hown (mvT hZ (hw _ (List.mem_of_getElem? (i := 29) rfl))) rfl (hb hby at_43) ?_
      show Steps p.tables e below (T50.setTop (mkF m 46 #[.val (.long p0s), .second, .val (.ref b30), .val (.long (own_mix (p0s + (-7046029254386353131 : Int64)))), .second, .val (.long (own_mix ((p0s + (-7046029254386353131 : Int64)) + (-7046029254386353131 : Int64)))), .second] [(.long (-7046029254386353131 : Int64)), (.long (p0s + (-7046029254386353131 : Int64))), (.long (own_unmix (own_mix ((p0s + (-7046029254386353131 : Int64)) + (-7046029254386353131 : Int64)))))])) _
      refine XS.ladd X50.here hx rfl (hb hby at_46) rfl ?_
      show Steps p.tables e below (T50.setTop (mkF m 47 #[.val (.long p0s), .second, .val (.ref b30), .val (.long (own_mix (p0s + (-7046029254386353131 : Int64)))), .second, .val (.long (own_mix ((p0s + (-7046029254386353131 : Int64)) + (-7046029254386353131 : Int64)))), .second] [(.long ((p0s + (-7046029254386353131 : Int64)) + (-7046029254386353131 : Int64))), (.long (own_unmix (own_mix ((p0s + (-7046029254386353131 : Int64)) + (-7046029254386353131 : Int64)))))])) _
      refine XS.lcmp X50.here hx rfl (hb hby at_47) rfl ?_
      exact k
    have hc51 : (own_unmix (own_mix ((p0s + (-7046029254386353131 : Int64)) + (-7046029254386353131 : Int64)))) = ((p0s + (-7046029254386353131 : Int64)) + (-7046029254386353131 : Int64)) := own_um _
    have r53 : own_R p.tables e below F0 (T50.setTop (mkF m 56 #[.val (.long p0s), .second, .val (.ref b30), .val (.long (own_mix (p0s + (-7046029254386353131 : Int64)))), .second, .val (.long (own_mix ((p0s + (-7046029254386353131 : Int64)) + (-7046029254386353131 : Int64)))), .second] [(.int (1 : Int32))])) := fun t k => by
      refine r52 t ?_
      show Steps p.tables e below (T50.setTop (mkF m 48 #[.val (.long p0s), .second, .val (.ref b30), .val (.long (own_mix (p0s + (-7046029254386353131 : Int64)))), .second, .val (.long (own_mix ((p0s + (-7046029254386353131 : Int64)) + (-7046029254386353131 : Int64)))), .second] [(.int (lcmpW (own_unmix (own_mix ((p0s + (-7046029254386353131 : Int64)) + (-7046029254386353131 : Int64)))) ((p0s + (-7046029254386353131 : Int64)) + (-7046029254386353131 : Int64))))])) _
      refine XS.ifNo X50.here hx rfl (hb hby at_48) rfl (own_l_eq hc51).2 ?_
      show Steps p.tables e below (T50.setTop (mkF m 51 #[.val (.long p0s), .second, .val (.ref b30), .val (.long (own_mix (p0s + (-7046029254386353131 : Int64)))), .second, .val (.long (own_mix ((p0s + (-7046029254386353131 : Int64)) + (-7046029254386353131 : Int64)))), .second] [])) _
      refine XS.iconst X50.here hx rfl (hb hby at_51) ?_
      show Steps p.tables e below (T50.setTop (mkF m 52 #[.val (.long p0s), .second, .val (.ref b30), .val (.long (own_mix (p0s + (-7046029254386353131 : Int64)))), .second, .val (.long (own_mix ((p0s + (-7046029254386353131 : Int64)) + (-7046029254386353131 : Int64)))), .second] [(.int (1 : Int32))])) _
      refine XS.goto X50.here hx rfl (pc0 := 52) (pc' := 56) rfl (hb hby at_52) (by decide) (by decide) ?_
      exact k
    refine hG (own_fin X50 hlk (some (.int (nar .boolean (1 : Int32)))) (own_hv Bd.returns) ?_ (by decide) (by decide) (fun fs hr => r53 _ (retN X50 hx (t := .boolean) Bd.returns (by simp) (hb hby at_56) hr)))
    rw [I50_0]
    exact ⟨rfl, N50⟩
  exact key _ _ id (fun t k => castTop (ef_0 m p0s) k)
set_option maxRecDepth 65536 in
set_option maxHeartbeats 40000000 in
theorem comes_1 {Post : Tables → Env → Array Value → State → Outcome → State → Prop} (hpost : ∀ tb e args s v u, (limb_1_1.after args s (.returned v) u = true ∧ limb_1_2.after args s (.returned v) u = true ∧ True) → FrameEnd s (.returned v) u (Jvm.fieldLocs frame_1_writes args s ++ Jvm.arrayLocs frame_1_arrays args s ++ Jvm.staticLocs frame_1_statics s) 16 128 → Post tb e args s (.returned v) u) :
    ArmFor flags0 classFile x code maxLocals ret World_1 tables_1 room_1 Calls_1 rest_1 Pre_1 Post := by
  intro l hfl _ _ p e ha hc hk s m args below hf hA hF happ hP
  obtain ⟨hcalls, hrest, hpre⟩ := hP
  obtain ⟨-, -, -, hnamed, -, -, -, hat⟩ := (Spec.applies_iff hf).mp happ
  obtain ⟨hg, hn⟩ := and_e (Cond.before_iff.mp (show (Jvm.Cond.and given_1 narrow_1).before args s = true from hpre))
  obtain ⟨gw1, gw2⟩ := and_e hg
  obtain ⟨w0, rfl⟩ : ∃ w0 : Value, args = #[w0] := by
    have hs : args.size = 1 := by simpa [Cond.value, given_1] using gw1
    obtain ⟨L⟩ := args
    match L, hs with
    | [w0], _ => exact ⟨w0, rfl⟩
  have hw := fun d (hd : d ∈ tables_1) => atoms_spec (ws := Jvm.Cond.code x code maxLocals ret :: tables_1) hat d (List.mem_cons_of_mem _ hd)
  have hfit : Fit s := fun {y c} hc i hi => by
    obtain ⟨ha, rfl⟩ := Array.getElem?_eq_some_iff.mp hc
    have q := List.all_eq_true.mp ((Array.all_eq_true_iff_forall_mem.mp hF) _ (Array.getElem_mem ha)) i (List.mem_range.mpr hi)
    simpa [Array.getElem?_eq_getElem hi] using q
  obtain ⟨i0, ei0⟩ := isL_v gw2
  obtain rfl : w0 = (.long i0) := Option.some.inj ei0
  obtain ⟨n, o, h1, h2, h3, _, L, rfl, ⟨rfl, N⟩, hq⟩ := rm0 l s _ hw tables_1 i0  s.heap s.heap.size (Nat.le_refl _)  p e ha hc hk s m _ below hf ((Spec.applies_iff_loose hf).mp happ).1 ⟨rfl, State.Warmed39.refl s, rfl⟩ trivial
  refine ⟨n, _, h1, h2, h3, hpost _ _ _ _ _ _ ⟨Cond.after_iff.mpr rfl, Cond.after_iff.mpr (eq_i res_at (Term.int_eval (1)) rfl), trivial⟩ ⟨hq.1, hq.2.1, (hq.2.2.sift fun y hy => Or.inr (N y hy)).mono (by decide) (by decide)⟩⟩
theorem main_1_1 : Claimed_1_1 := comes_1 fun _ _ _ _ _ _ h hF => ⟨h.1, hF⟩
theorem main_1_2 : Claimed_1_2 := comes_1 fun _ _ _ _ _ _ h hF => ⟨h.2.1, hF⟩
end Jvm.Pilot.@@N@@
namespace Jvm.Pilot.@@N@@
open Jvm Jvm.ClassFile Sem Op Lib Jvm.Free Jvm.Stand Jvm.Pilot.@@N@@.Jvm.D
/-! MADE BY PROGRAM (witnessworld.py) out of the Statement's table words and the real class files: 9 classes; the members and pool entries that the words name. The judged class is class 1, her method 3. -/
namespace start1
open Jvm.ClassFile
def u (s : String) : CpInfo := .utf8 (stringToUtf16 s)
/-- a pool by its gaps: so many unusable entries, then the entry; so many at the end -/
def gap : Nat → List CpInfo → List CpInfo
  | 0, r => r
  | n + 1, r => .unusable :: gap n r
def poolList (es : List (Nat × CpInfo)) (last : Nat) : List CpInfo := es.foldr (fun e r => gap e.1 (e.2 :: r)) (gap last [])
def pool (es : List (Nat × CpInfo)) (last : Nat) : Array CpInfo := ⟨poolList es last⟩
def fileOf (pool : Array CpInfo) (this : Nat) (attrs : Array Attribute := #[]) (ms : Array MethodInfo := #[]) (fl : Nat := 33) (sup : Nat := 0) (ifs : Array Nat := #[]) (fds : Array FieldInfo := #[]) : ClassFile where
  minorVersion := 0
  majorVersion := 65
  constantPool := pool
  accessFlags := fl
  thisClass := this
  superClass := sup
  interfaces := ifs
  fields := fds
  methods := ms
  attributes := attrs
def plain (name : String) (sup : Option ClassId) : Class where
  name := name
  kind := .ordinary
  loader := none
  accessFlags := 33
  super := sup
  interfaces := #[]
  cf := none
  fields := #[]
  methods := #[]
  instanceTypes := #[]
  staticTypes := #[]
  resolved := #[]
  callSites := []
  init := .initialized
  statics := none
  mirror := none

def pool0 : Array CpInfo := pool [(5, u "<init>"), (0, u "()V"), (1, .class_ 10), (1, u "java/lang/Object")] 113

def k0c0 : Code := { maxStack := 0, maxLocals := 1, code := object_method_1_code, exceptionTable := #[], attributes := #[] }
def k0m0 : Method := { name := "<init>", desc := "()V", sig := { parameters := [], returnType := none }, accessFlags := 1, code := some k0c0 }
/-- java/lang/Object -/
def k0 : Class := { plain "java/lang/Object" none with
  accessFlags := 33
  interfaces := #[]
  cf := some (fileOf pool0 8 #[] #[{ accessFlags := 1, nameIndex := 5, descriptorIndex := 6, attributes := #[] }] 33 0 #[] #[])
  fields := #[]
  methods := #[k0m0]
  instanceTypes := #[]
  staticTypes := #[]
  resolved := Array.replicate 124 none
  statics := none }

def pool1 : Array CpInfo := pool [(2, .class_ 4), (1, u "java/lang/Object"), (0, u "<init>"), (0, u "()V"), (0, .long 2), (1, .long 10723151780598845931), (1, .methodref 12 13), (0, .class_ 14), (0, .nameAndType 15 16), (0, u "com/example/sharp_bound/sharpbound/SeededRandomNextLongPinLaw"), (0, u "inverse"), (0, u "(J)J"), (0, .long 13787848793156543929), (1, .class_ 20), (0, u "com/example/sharp_bound/sharpbound/SeededRandom"), (0, .methodref 19 22), (0, .nameAndType 5 23), (0, u "(J)V"), (0, .methodref 19 25), (0, .nameAndType 26 27), (0, u "nextLong"), (0, u "()J"), (0, .methodref 12 29), (0, .nameAndType 30 16), (0, u "unmix"), (0, .long 11400714819323198485), (1, u "GAMMA"), (0, u "J"), (3, u "law"), (0, u "(J)Z")] 3

def k1m0 : Method := { name := "<init>", desc := "()V", sig := { parameters := [], returnType := none }, accessFlags := 1, code := none }
def k1c1 : Code := { maxStack := 8, maxLocals := 4, code := method_2_code, exceptionTable := #[], attributes := #[] }
def k1m1 : Method := { name := "inverse", desc := "(J)J", sig := { parameters := [.long], returnType := some .long }, accessFlags := 10, code := some k1c1 }
def k1c2 : Code := { maxStack := 5, maxLocals := 4, code := method_3_code, exceptionTable := #[], attributes := #[] }
def k1m2 : Method := { name := "unmix", desc := "(J)J", sig := { parameters := [.long], returnType := some .long }, accessFlags := 10, code := some k1c2 }
def k1c3 : Code := { maxStack := 6, maxLocals := 7, code := code, exceptionTable := #[], attributes := #[] }
def k1m3 : Method := { name := "law", desc := "(J)Z", sig := { parameters := [.long], returnType := some .boolean }, accessFlags := 9, code := some k1c3 }
/-- com/example/sharp_bound/sharpbound/SeededRandomNextLongPinLaw -/
def k1 : Class := { plain "com/example/sharp_bound/sharpbound/SeededRandomNextLongPinLaw" (some 0) with
  accessFlags := 49
  interfaces := #[]
  cf := some (fileOf pool1 12 #[] #[{ accessFlags := 1, nameIndex := 5, descriptorIndex := 6, attributes := #[] }, { accessFlags := 10, nameIndex := 15, descriptorIndex := 16, attributes := #[] }, { accessFlags := 10, nameIndex := 30, descriptorIndex := 16, attributes := #[] }, { accessFlags := 9, nameIndex := 38, descriptorIndex := 39, attributes := #[] }] 49 2 #[] #[{ accessFlags := 26, nameIndex := 33, descriptorIndex := 34, attributes := #[] }])
  fields := #[{ name := "GAMMA", type := .long, accessFlags := 26, slot := 0, constantValue := 0 }]
  methods := #[k1m0, k1m1, k1m2, k1m3]
  instanceTypes := #[]
  staticTypes := #[.long]
  resolved := Array.replicate 43 none
  statics := none }

def pool2 : Array CpInfo := pool [(1, .methodref 2 3), (0, .class_ 4), (0, .nameAndType 5 6), (0, u "java/lang/Object"), (0, u "<init>"), (0, u "()V"), (0, .fieldref 8 9), (0, .class_ 10), (0, .nameAndType 11 12), (0, u "com/example/sharp_bound/sharpbound/SeededRandom"), (0, u "state"), (0, u "J"), (0, .long 11400714819323198485), (1, .long 13787848793156543929), (1, .long 10723151780598845931), (16, u "nextLong"), (0, u "()J"), (4, u "GOLDEN_GAMMA"), (1, u "(J)V")] 21

def k2c0 : Code := { maxStack := 3, maxLocals := 3, code := prog_24_method_1_code, exceptionTable := #[], attributes := #[] }
def k2m0 : Method := { name := "<init>", desc := "(J)V", sig := { parameters := [.long], returnType := none }, accessFlags := 0, code := some k2c0 }
def k2c1 : Code := { maxStack := 5, maxLocals := 3, code := prog_24_method_2_code, exceptionTable := #[], attributes := #[] }
def k2m1 : Method := { name := "nextLong", desc := "()J", sig := { parameters := [], returnType := some .long }, accessFlags := 0, code := some k2c1 }
/-- com/example/sharp_bound/sharpbound/SeededRandom -/
def k2 : Class := { plain "com/example/sharp_bound/sharpbound/SeededRandom" (some 0) with
  accessFlags := 32
  interfaces := #[]
  cf := some (fileOf pool2 8 #[] #[{ accessFlags := 0, nameIndex := 5, descriptorIndex := 42, attributes := #[] }, { accessFlags := 0, nameIndex := 34, descriptorIndex := 35, attributes := #[] }] 32 2 #[] #[{ accessFlags := 26, nameIndex := 40, descriptorIndex := 12, attributes := #[] }, { accessFlags := 2, nameIndex := 11, descriptorIndex := 12, attributes := #[] }])
  fields := #[{ name := "GOLDEN_GAMMA", type := .long, accessFlags := 26, slot := 0, constantValue := 0 }, { name := "state", type := .long, accessFlags := 2, slot := 0, constantValue := 0 }]
  methods := #[k2m0, k2m1]
  instanceTypes := #[.long]
  staticTypes := #[.long]
  resolved := Array.replicate 64 none
  statics := none }

def pool3 : Array CpInfo := pool [(1, u "java/lang/Cloneable"), (0, .class_ 1), (0, u "java/lang/Object"), (0, .class_ 3)] 3

/-- java/lang/Cloneable -/
def k3 : Class := { plain "java/lang/Cloneable" (some 0) with
  accessFlags := 1537
  interfaces := #[]
  cf := some (fileOf pool3 2 #[] #[] 1537 4 #[] #[])
  fields := #[]
  methods := #[]
  instanceTypes := #[]
  staticTypes := #[]
  resolved := Array.replicate 8 none
  statics := none }

def pool4 : Array CpInfo := pool [(1, u "java/io/Serializable"), (0, .class_ 1), (0, u "java/lang/Object"), (0, .class_ 3)] 3

/-- java/io/Serializable -/
def k4 : Class := { plain "java/io/Serializable" (some 0) with
  accessFlags := 1537
  interfaces := #[]
  cf := some (fileOf pool4 2 #[] #[] 1537 4 #[] #[])
  fields := #[]
  methods := #[]
  instanceTypes := #[]
  staticTypes := #[]
  resolved := Array.replicate 8 none
  statics := none }

/-- the primitive byte -/
def k5 : Class := { plain "byte" none with kind := .primitive 'B', accessFlags := 0x411 }
/-- [B -/
def k6 : Class := { plain "[B" (some 0) with kind := .array 5 .byte, interfaces := #[3, 4], accessFlags := 1041 }

/-- the primitive int -/
def k7 : Class := { plain "int" none with kind := .primitive 'I', accessFlags := 0x411 }
/-- [I -/
def k8 : Class := { plain "[I" (some 0) with kind := .array 7 .int, interfaces := #[3, 4], accessFlags := 1041 }

def heap : Heap := #[]
def classes : Array Class := #[k0, k1, k2, k3, k4, k5, k6, k7, k8]
def interned : List (Array UInt16 × Addr) := []
def slotsUsed : Nat := 0
def theMethod : MethodId := ⟨1, 3⟩
def args0 : Array Value := #[.long 5]
def aboutOver (below : List Frame) : State where
  vm := { classes := classes, interned := interned.toArray }
  heap := heap
  slotsUsed := slotsUsed
  threads := #[{ frames := .invoking theMethod args0 :: below }]
def below0 : List Frame := [.native { method := ⟨0, 0⟩, args := #[] }]
def about1 : State := aboutOver below0
def p0 : Program := .bare "" "" ""
def e0 : Env := launch0.env 0 0 0
theorem w_frames : about1.frames = Frame.invoking theMethod args0 :: below0 := rfl
set_option maxRecDepth 65536 in
theorem w_args : argsFit about1.vm theMethod args0 = true := by decide +kernel
set_option maxRecDepth 65536 in
theorem w_heap : heapFits about1 = true := by decide +kernel
set_option maxRecDepth 65536 in
theorem w_runnable : about1.curStatus? = some .runnable := by decide +kernel
set_option maxRecDepth 65536 in
theorem w_alone : about1.alone = true := by decide +kernel
set_option maxRecDepth 65536 in
theorem w_named : about1.methodNamed? x = some theMethod := by decide +kernel
set_option maxRecDepth 65536 in
theorem w_hears : about1.hears theMethod below0 = true := by decide +kernel
set_option maxRecDepth 65536 in
theorem w_ripe : about1.ripe theMethod args0 below0 = true := by decide +kernel
theorem w_running : about1.status = .running := rfl
set_option maxRecDepth 65536 in
theorem w_room : about1.hasRoom e0.platform room_1 = true :=
  launch0.hasRoom_least _ room_1 (by decide +kernel) (by decide +kernel) (by decide +kernel) (by decide +kernel) (by decide +kernel) (by decide +kernel)
theorem allAtoms_all (ts : List Jvm.Cond) (a : Array Jvm.Value) (st : Jvm.State) : (allAtoms ts).before a st = ts.all (fun c => c.before a st) := by
  induction ts with
  | nil => rfl
  | cons c t ih =>
    show (Jvm.Cond.and c (allAtoms t)).before a st = _
    rw [Jvm.Cond.before_and, ih, List.all_cons]
def words1 : List Jvm.Cond := Jvm.Cond.code x code maxLocals ret :: tables_1
/-- a 'code' word, met by the world's own term for the bytes: nothing is compared byte by byte -/
theorem code_word {y : MethodName} {bytes : ByteArray} {mx : Nat} {rt : Option FieldType} {a : Array Value} {s : State} {m : MethodId} {meth : Method} {c : Code} (h1 : s.methodNamed? y = some m) (h2 : s.vm.method? m = some meth) (h3 : meth.code = some c) (h4 : c.code = bytes)
    (h5 : (c.maxLocals == mx && c.exceptionTable.isEmpty && decide (c.maxStack ≤ mostOperands) && decide (meth.sig.returnType = rt) && !meth.locks && decide (parseMethodDescriptor y.desc = some meth.sig)) = true) : (Jvm.Cond.code y bytes mx rt).before a s = true := by
  simp only [Bool.and_eq_true, beq_iff_eq, Bool.not_eq_true', decide_eq_true_eq] at h5
  obtain ⟨⟨⟨⟨⟨g1, g2⟩, g3⟩, g4⟩, g5⟩, g6⟩ := h5
  simp [Cond.before, Cond.holds, Cond.value, h1, h2, h3, h4, g1, g2, g3, g4, g5, g6]
def isCode : Jvm.Cond → Bool
  | .code _ _ _ _ => true
  | _ => false
theorem all_split {L : List Jvm.Cond} {P : Jvm.Cond → Bool} (h1 : L.all (fun c => isCode c || P c) = true) (h2 : ∀ c ∈ L.filter isCode, P c = true) : L.all P = true := by
  refine List.all_eq_true.mpr fun c hc => ?_
  have h := List.all_eq_true.mp h1 c hc
  rcases Bool.eq_false_or_eq_true (isCode c) with hi | hi
  · exact h2 c (List.mem_filter.mpr ⟨hc, hi⟩)
  · simpa [hi] using h
set_option maxRecDepth 65536 in
theorem w_c0 : (Jvm.Cond.code x code maxLocals ret).before args0 about1 = true := code_word (m := ⟨1, 3⟩) (meth := k1m3) (c := k1c3) (by decide +kernel) rfl rfl rfl (by decide +kernel)
set_option maxRecDepth 65536 in
theorem w_c1 : (Jvm.Cond.code ({ cls := "com/example/sharp_bound/sharpbound/SeededRandom", name := "<init>", desc := "(J)V" } : Jvm.MethodName) prog_24_method_1_code (3 : Nat) (Option.none : Option Jvm.ClassFile.FieldType)).before args0 about1 = true := code_word (m := ⟨2, 0⟩) (meth := k2m0) (c := k2c0) (by decide +kernel) rfl rfl rfl (by decide +kernel)
set_option maxRecDepth 65536 in
theorem w_c2 : (Jvm.Cond.code ({ cls := "java/lang/Object", name := "<init>", desc := "()V" } : Jvm.MethodName) object_method_1_code (1 : Nat) (Option.none : Option Jvm.ClassFile.FieldType)).before args0 about1 = true := code_word (m := ⟨0, 0⟩) (meth := k0m0) (c := k0c0) (by decide +kernel) rfl rfl rfl (by decide +kernel)
set_option maxRecDepth 65536 in
theorem w_c3 : (Jvm.Cond.code ({ cls := "com/example/sharp_bound/sharpbound/SeededRandom", name := "nextLong", desc := "()J" } : Jvm.MethodName) prog_24_method_2_code (3 : Nat) (Option.some Jvm.ClassFile.FieldType.long)).before args0 about1 = true := code_word (m := ⟨2, 1⟩) (meth := k2m1) (c := k2c1) (by decide +kernel) rfl rfl rfl (by decide +kernel)
set_option maxRecDepth 65536 in
theorem w_c4 : (Jvm.Cond.code ({ cls := "com/example/sharp_bound/sharpbound/SeededRandomNextLongPinLaw", name := "unmix", desc := "(J)J" } : Jvm.MethodName) method_3_code (4 : Nat) (Option.some Jvm.ClassFile.FieldType.long)).before args0 about1 = true := code_word (m := ⟨1, 2⟩) (meth := k1m2) (c := k1c2) (by decide +kernel) rfl rfl rfl (by decide +kernel)
set_option maxRecDepth 65536 in
theorem w_c5 : (Jvm.Cond.code ({ cls := "com/example/sharp_bound/sharpbound/SeededRandomNextLongPinLaw", name := "inverse", desc := "(J)J" } : Jvm.MethodName) method_2_code (4 : Nat) (Option.some Jvm.ClassFile.FieldType.long)).before args0 about1 = true := code_word (m := ⟨1, 1⟩) (meth := k1m1) (c := k1c1) (by decide +kernel) rfl rfl rfl (by decide +kernel)
def codes1 : List Jvm.Cond := [Jvm.Cond.code x code maxLocals ret, Jvm.Cond.code ({ cls := "com/example/sharp_bound/sharpbound/SeededRandom", name := "<init>", desc := "(J)V" } : Jvm.MethodName) prog_24_method_1_code (3 : Nat) (Option.none : Option Jvm.ClassFile.FieldType), Jvm.Cond.code ({ cls := "java/lang/Object", name := "<init>", desc := "()V" } : Jvm.MethodName) object_method_1_code (1 : Nat) (Option.none : Option Jvm.ClassFile.FieldType), Jvm.Cond.code ({ cls := "com/example/sharp_bound/sharpbound/SeededRandom", name := "nextLong", desc := "()J" } : Jvm.MethodName) prog_24_method_2_code (3 : Nat) (Option.some Jvm.ClassFile.FieldType.long), Jvm.Cond.code ({ cls := "com/example/sharp_bound/sharpbound/SeededRandomNextLongPinLaw", name := "unmix", desc := "(J)J" } : Jvm.MethodName) method_3_code (4 : Nat) (Option.some Jvm.ClassFile.FieldType.long), Jvm.Cond.code ({ cls := "com/example/sharp_bound/sharpbound/SeededRandomNextLongPinLaw", name := "inverse", desc := "(J)J" } : Jvm.MethodName) method_2_code (4 : Nat) (Option.some Jvm.ClassFile.FieldType.long)]
set_option maxRecDepth 65536 in
theorem codes_eq : words1.filter isCode = codes1 := rfl
theorem w_codes : ∀ c ∈ words1.filter isCode, c.before args0 about1 = true := by
  rw [codes_eq]
  intro c hc
  simp only [codes1, List.mem_cons, List.not_mem_nil, or_false] at hc
  rcases hc with rfl | rfl | rfl | rfl | rfl | rfl
  · exact w_c0
  · exact w_c1
  · exact w_c2
  · exact w_c3
  · exact w_c4
  · exact w_c5
set_option maxRecDepth 65536 in
theorem w_t1 : (words1.take 24).all (fun c => isCode c || c.before args0 about1) = true := by decide +kernel
set_option maxRecDepth 65536 in
theorem w_t2 : (words1.drop 24).all (fun c => isCode c || c.before args0 about1) = true := by decide +kernel
theorem w_tables : (allAtoms (Jvm.Cond.code x code maxLocals ret :: tables_1)).before args0 about1 = true := by
  rw [allAtoms_all]
  show words1.all (fun c => c.before args0 about1) = true
  refine all_split ?_ w_codes
  rw [← List.take_append_drop 24 words1, List.all_append, w_t1, w_t2]
  rfl
set_option maxRecDepth 65536 in
theorem w_case : (Jvm.Cond.and given_1 narrow_1).before args0 about1 = true := by decide +kernel
theorem w_applies : (headSpec (Jvm.Cond.code x code maxLocals ret :: tables_1) room_1).applies x e0.platform about1 = true :=
  (Spec.applies_iff w_frames).mpr ⟨w_running, w_runnable, w_alone, w_named, w_hears, w_ripe, w_room, w_tables⟩
theorem atStart : AtStart classFile x code maxLocals ret World_1 tables_1 room_1 Calls_1 rest_1 Pre_1 launch0 p0 e0 about1 theMethod args0 below0 :=
  ⟨lists_1, trivial, launch0.admits_env _ _ _, launch0.least_env, fairChoices_fair.cas, fairChoices_fair.clock, w_frames, w_args, w_heap, w_applies, trivial, trivial, w_case⟩
end start1
theorem witness_1 : WitnessClaimed_1 := ⟨start1.p0, start1.e0, start1.about1, start1.theMethod, start1.args0, start1.below0, start1.atStart⟩
end Jvm.Pilot.@@N@@
