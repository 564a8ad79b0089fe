import JvmDerived
import JvmDerived.Pilot.@@N@@Statement
import JvmDerived.Pilot.@@N@@Code
set_option linter.unusedVariables false
set_option linter.unusedSimpArgs false
namespace Jvm.Pilot.@@N@@
open Jvm Jvm.ClassFile Sem Op Lib Jvm.Free Jvm.Stand Jvm.LawKit Jvm.RoadKit Bundle Jvm.Pilot.@@N@@.Jvm.D
-- OWN KIT (mine): reach, finish, weakening of the counters, arrays by a function, arithmetic in omega's form
abbrev own_R (tb : Tables) (e : Env) (below : List Frame) (F0 F : State) : Prop := ∀ t, Steps tb e below F t → Steps tb e below F0 t
abbrev own_G (p : Program) (e : Env) (below : List Frame) (s F0 : State) (Q : Option Value → Heap → List Loc → Prop) (kc ks : Nat) : Prop :=
  ∃ s₂ o, Steps p.tables e below F0 s₂ ∧ s₂.status = .running ∧ Ended s₂ below o ∧ ∃ v L, o = .returned v ∧ Q v s₂.heap L ∧ FrameEnd s o s₂ L kc ks
section OwnKit
variable {p : Program} {l : Launch} {e : Env} {R : Room} {s : State} {m : MethodId} {args : Array Value} {below : List Frame} {meth : Method} {c : Code} {T : State} {locs : List Loc} {cells slots : Nat}
theorem own_fin (X : Stand p l e R s m args below meth c T locs cells slots) (hl : meth.locks = false) {F0 : State} {Q : Option Value → Heap → List Loc → Prop} {kc ks : Nat} (v : Option Value) (hv : meth.sig.returnType = none → v = none) (hq : Q v T.heap locs) (hc : cells ≤ kc) (hs : slots ≤ ks)
    (st : ∀ fs, (∀ (f : JFrame) (acts : List Action), f.method = m → f.locked = none → f.entered = [] → (doReturn e (T.setTop f) acts v).1 = T.setFrames fs) → Steps p.tables e below F0 (T.setFrames fs)) : own_G p e below s F0 Q kc ks := by
  obtain ⟨fs, hr, hrun, hended, hW, hsame⟩ := X.leave hv hl
  exact ⟨_, _, st fs hr, hrun, hended, _, _, rfl, hq, ⟨_, rfl⟩, hW, hsame.mono hc hs⟩
theorem own_mono (X : Stand p l e R s m args below meth c T locs cells slots) {c' s' : Nat} (hc : cells ≤ c') (hs : slots ≤ s') : Stand p l e R s m args below meth c T locs c' s' := { X with same := X.same.mono hc hs }
end OwnKit
theorem own_hv {meth : Method} {t : FieldType} {v : Option Value} (h : meth.sig.returnType = some t) : meth.sig.returnType = none → v = none := fun q => by rw [h] at q; cases q
theorem own_lt32 {a b : Int32} (h : a < b) : a.toInt < b.toInt := Int32.lt_iff_toInt_lt.mp h
theorem own_nlt32 {a b : Int32} (h : ¬ a < b) : b.toInt ≤ a.toInt := Int.not_lt.mp fun q => h (Int32.lt_iff_toInt_lt.mpr q)
theorem own_eq32 {a b : Int32} (h : a = b) : a.toInt = b.toInt := congrArg Int32.toInt h
theorem own_ne32 {a b : Int32} (h : ¬ a = b) : a.toInt ≠ b.toInt := fun q => h (Int32.toInt_inj.mp q)
theorem own_lt64 {a b : Int64} (h : a < b) : a.toInt < b.toInt := Int64.lt_iff_toInt_lt.mp h
theorem own_nlt64 {a b : Int64} (h : ¬ a < b) : b.toInt ≤ a.toInt := Int.not_lt.mp fun q => h (Int64.lt_iff_toInt_lt.mpr q)
theorem own_eq64 {a b : Int64} (h : a = b) : a.toInt = b.toInt := congrArg Int64.toInt h
theorem own_ne64 {a b : Int64} (h : ¬ a = b) : a.toInt ≠ b.toInt := fun q => h (Int64.toInt_inj.mp q)
theorem own_imulc (x y : Int32) (d : Int) (h : y.toInt = d) : ((x * y).toInt - x.toInt * d) % 4294967296 = 0 := by rw [← h]; exact c_imul x y
theorem own_imulc' (x y : Int32) (d : Int) (h : x.toInt = d) : ((x * y).toInt - d * y.toInt) % 4294967296 = 0 := by rw [← h]; exact c_imul x y
theorem own_lmulc (x y : Int64) (d : Int) (h : y.toInt = d) : ((x * y).toInt - x.toInt * d) % 18446744073709551616 = 0 := by rw [← h]; exact c_lmul x y
theorem own_lmulc' (x y : Int64) (d : Int) (h : x.toInt = d) : ((x * y).toInt - d * y.toInt) % 18446744073709551616 = 0 := by rw [← h]; exact c_lmul x y
theorem own_mask (x m : Int32) (k : Nat) (P : Int) (hk : k ≤ 31) (hm : m.toBitVec.toNat = 2 ^ k - 1) (hP : P = ((2 ^ k : Nat) : Int)) : (x &&& m).toInt = x.toInt % P := by rw [hP]; exact c_mask x m k hk hm
theorem own_maskL (x m : Int64) (k : Nat) (P : Int) (hk : k ≤ 63) (hm : m.toBitVec.toNat = 2 ^ k - 1) (hP : P = ((2 ^ k : Nat) : Int)) : (x &&& m).toInt = x.toInt % P := by rw [hP]; exact c_maskL x m k hk hm
theorem own_ishr (x q : Int32) (k : Nat) (P : Int) (hk : q.toBitVec.toNat % 32 = k) (hP : P = ((2 ^ k : Nat) : Int)) : (x >>> (q &&& 31)).toInt = x.toInt / P := by rw [hP]; exact c_ishr x q k hk
theorem own_ishl (x q : Int32) (k : Nat) (P : Int) (hk : q.toBitVec.toNat % 32 = k) (hP : P = ((2 ^ k : Nat) : Int)) : ((x <<< (q &&& 31)).toInt - x.toInt * P) % 4294967296 = 0 := by rw [hP]; exact c_ishl x q k hk
theorem own_iushr (x q : Int32) (k : Nat) (P : Int) (hk : q.toBitVec.toNat % 32 = k) (h0 : 0 < k) (hP : P = ((2 ^ k : Nat) : Int)) : ((x.toUInt32 >>> (q &&& 31).toUInt32).toInt32).toInt = (x.toInt % 4294967296) / P := by rw [hP]; exact c_iushr x q k hk h0
theorem own_lshr (x : Int64) (q : Int32) (k : Nat) (P : Int) (hk : q.toBitVec.toNat % 64 = k) (hP : P = ((2 ^ k : Nat) : Int)) : (x >>> (q &&& 0x3f).toInt64).toInt = x.toInt / P := by rw [hP]; exact c_lshr x q k hk
theorem own_lshl (x : Int64) (q : Int32) (k : Nat) (P : Int) (hk : q.toBitVec.toNat % 64 = k) (hP : P = ((2 ^ k : Nat) : Int)) : ((x <<< (q &&& 0x3f).toInt64).toInt - x.toInt * P) % 18446744073709551616 = 0 := by rw [hP]; exact c_lshl x q k hk
theorem own_lushr (x : Int64) (q : Int32) (k : Nat) (P : Int) (hk : q.toBitVec.toNat % 64 = k) (h0 : 0 < k) (hP : P = ((2 ^ k : Nat) : Int)) : ((x.toUInt64 >>> (q &&& 0x3f).toInt64.toUInt64).toInt64).toInt = (x.toInt % 18446744073709551616) / P := by rw [hP]; exact c_lushr x q k hk h0
theorem own_lc_lt {x y : Int64} {cd : ClassFile.Cond} {b : Bool} (h : if_icmp.holds cd (lcmpW x y) 0 = b) : ifCond.holds cd (lcmpW x y) = b := (if0 _ _).trans h
theorem own_l_lt {x y : Int64} (h : x < y) : ifCond.holds .lt (lcmpW x y) = true ∧ ifCond.holds .ge (lcmpW x y) = false := ⟨(if0 _ _).trans (tlt ((lw_lt x y).mpr h)).1, (if0 _ _).trans (tlt ((lw_lt x y).mpr h)).2.1⟩
theorem own_l_nlt {x y : Int64} (h : ¬ x < y) : ifCond.holds .lt (lcmpW x y) = false ∧ ifCond.holds .ge (lcmpW x y) = true := ⟨(if0 _ _).trans (flt (fun q => h ((lw_lt x y).mp q))).1, (if0 _ _).trans (flt (fun q => h ((lw_lt x y).mp q))).2.1⟩
theorem own_l_gt {x y : Int64} (h : y < x) : ifCond.holds .gt (lcmpW x y) = true ∧ ifCond.holds .le (lcmpW x y) = false := ⟨(if0 _ _).trans (tlt ((lw_gt x y).mpr h)).2.2.1, (if0 _ _).trans (tlt ((lw_gt x y).mpr h)).2.2.2⟩
theorem own_l_ngt {x y : Int64} (h : ¬ y < x) : ifCond.holds .gt (lcmpW x y) = false ∧ ifCond.holds .le (lcmpW x y) = true := ⟨(if0 _ _).trans (flt (fun q => h ((lw_gt x y).mp q))).2.2.1, (if0 _ _).trans (flt (fun q => h ((lw_gt x y).mp q))).2.2.2⟩
theorem own_l_eq {x y : Int64} (h : x = y) : ifCond.holds .eq (lcmpW x y) = true ∧ ifCond.holds .ne (lcmpW x y) = false := ⟨(if0 _ _).trans (teq ((lw_eq x y).mpr h)).1, (if0 _ _).trans (teq ((lw_eq x y).mpr h)).2⟩
theorem own_l_neq {x y : Int64} (h : ¬ x = y) : ifCond.holds .eq (lcmpW x y) = false ∧ ifCond.holds .ne (lcmpW x y) = true := ⟨(if0 _ _).trans (feq (fun q => h ((lw_eq x y).mp q))).1, (if0 _ _).trans (feq (fun q => h ((lw_eq x y).mp q))).2⟩
theorem own_lrem {x y : Int64} {d : Int} (hy : y.toInt = d) : (0 ≤ x.toInt → (x - (x / y) * y).toInt = x.toInt % d) ∧ (x.toInt < 0 → (x - (x / y) * y).toInt = -((-x.toInt) % d)) := c_lrem x y d hy
theorem own_lremf (x y : Int64) (d : Int) (hy : y.toInt = d) : (0 ≤ x.toInt → (x % y).toInt = x.toInt % d) ∧ (x.toInt < 0 → (x % y).toInt = -((-x.toInt) % d)) := by rw [Int64.toInt_mod, hy]; exact tr _ _
theorem own_lremM {p : Program} {l : Launch} {e : Env} {R : Room} {s : State} {m : MethodId} {args : Array Value} {below : List Frame} {meth : Method} {c : Code} {T : State} {locs : List Loc} {cells slots : Nat} {g : JFrame} {target : State} (X : Stand p l e R s m args below meth c T locs cells slots) (hx : p.tables.exec = Jvm.exec) (hg : g.method = m) {x y : Int64} {rest : List Value} (hd : decode c.code g.pc = .ok (.lrem, 1)) (hs : g.stack = .long y :: .long x :: rest) (hy : y ≠ 0)
    (hr : Steps p.tables e below (T.setTop { g with pc := g.pc + 1, stack := .long (x % y) :: rest }) target) : Steps p.tables e below (T.setTop g) target :=
  XS.lrem X.here hx hg hd hs hy (by rw [lrem_mod]; exact hr)
theorem own_R32 (x : Int32) : -2147483648 ≤ x.toInt ∧ x.toInt ≤ 2147483647 := by have := rng32 x; omega
theorem own_R64 (x : Int64) : -9223372036854775808 ≤ x.toInt ∧ x.toInt ≤ 9223372036854775807 := by have := rng64 x; omega
theorem own_iaddR {x y : Int32} {a b c d : Int} (lo hi : Int) (hx : a ≤ x.toInt ∧ x.toInt ≤ b) (hy : c ≤ y.toInt ∧ y.toInt ≤ d) (h1 : -2147483648 ≤ a + c ∧ b + d ≤ 2147483647) (h2 : lo ≤ a + c ∧ b + d ≤ hi) : (x + y).toInt = x.toInt + y.toInt ∧ lo ≤ (x + y).toInt ∧ (x + y).toInt ≤ hi := by have := c_iadd x y; have := rng32 (x + y); omega
theorem own_isubR {x y : Int32} {a b c d : Int} (lo hi : Int) (hx : a ≤ x.toInt ∧ x.toInt ≤ b) (hy : c ≤ y.toInt ∧ y.toInt ≤ d) (h1 : -2147483648 ≤ a - d ∧ b - c ≤ 2147483647) (h2 : lo ≤ a - d ∧ b - c ≤ hi) : (x - y).toInt = x.toInt - y.toInt ∧ lo ≤ (x - y).toInt ∧ (x - y).toInt ≤ hi := by have := c_isub x y; have := rng32 (x - y); omega
theorem own_laddR {x y : Int64} {a b c d : Int} (lo hi : Int) (hx : a ≤ x.toInt ∧ x.toInt ≤ b) (hy : c ≤ y.toInt ∧ y.toInt ≤ d) (h1 : -9223372036854775808 ≤ a + c ∧ b + d ≤ 9223372036854775807) (h2 : lo ≤ a + c ∧ b + d ≤ hi) : (x + y).toInt = x.toInt + y.toInt ∧ lo ≤ (x + y).toInt ∧ (x + y).toInt ≤ hi := by have := c_ladd x y; have := rng64 (x + y); omega
theorem own_lsubR {x y : Int64} {a b c d : Int} (lo hi : Int) (hx : a ≤ x.toInt ∧ x.toInt ≤ b) (hy : c ≤ y.toInt ∧ y.toInt ≤ d) (h1 : -9223372036854775808 ≤ a - d ∧ b - c ≤ 9223372036854775807) (h2 : lo ≤ a - d ∧ b - c ≤ hi) : (x - y).toInt = x.toInt - y.toInt ∧ lo ≤ (x - y).toInt ∧ (x - y).toInt ≤ hi := by have := c_lsub x y; have := rng64 (x - y); omega
theorem own_imulR {x y : Int32} {a b k : Int} (lo hi : Int) (hx : a ≤ x.toInt ∧ x.toInt ≤ b) (hy : y.toInt = k) (hk : 0 ≤ k) (h1 : -2147483648 ≤ a * k ∧ b * k ≤ 2147483647) (h2 : lo ≤ a * k ∧ b * k ≤ hi) : (x * y).toInt = x.toInt * k ∧ lo ≤ (x * y).toInt ∧ (x * y).toInt ≤ hi := by
  have h := c_imul x y; have := rng32 (x * y); rw [hy] at h
  have p1 := Int.mul_le_mul_of_nonneg_right hx.1 hk; have p2 := Int.mul_le_mul_of_nonneg_right hx.2 hk
  generalize x.toInt * k = z at *; generalize a * k = z1 at *; generalize b * k = z2 at *; omega
theorem own_lmulR {x y : Int64} {a b k : Int} (lo hi : Int) (hx : a ≤ x.toInt ∧ x.toInt ≤ b) (hy : y.toInt = k) (hk : 0 ≤ k) (h1 : -9223372036854775808 ≤ a * k ∧ b * k ≤ 9223372036854775807) (h2 : lo ≤ a * k ∧ b * k ≤ hi) : (x * y).toInt = x.toInt * k ∧ lo ≤ (x * y).toInt ∧ (x * y).toInt ≤ hi := by
  have h := c_lmul x y; have := rng64 (x * y); rw [hy] at h
  have p1 := Int.mul_le_mul_of_nonneg_right hx.1 hk; have p2 := Int.mul_le_mul_of_nonneg_right hx.2 hk
  generalize x.toInt * k = z at *; generalize a * k = z1 at *; generalize b * k = z2 at *; omega
theorem own_imulR' {x y : Int32} {a b k : Int} (lo hi : Int) (hx : a ≤ y.toInt ∧ y.toInt ≤ b) (hy : x.toInt = k) (hk : 0 ≤ k) (h1 : -2147483648 ≤ a * k ∧ b * k ≤ 2147483647) (h2 : lo ≤ a * k ∧ b * k ≤ hi) : (x * y).toInt = y.toInt * k ∧ lo ≤ (x * y).toInt ∧ (x * y).toInt ≤ hi := by rw [Int32.mul_comm]; exact own_imulR lo hi hx hy hk h1 h2
theorem own_lmulR' {x y : Int64} {a b k : Int} (lo hi : Int) (hx : a ≤ y.toInt ∧ y.toInt ≤ b) (hy : x.toInt = k) (hk : 0 ≤ k) (h1 : -9223372036854775808 ≤ a * k ∧ b * k ≤ 9223372036854775807) (h2 : lo ≤ a * k ∧ b * k ≤ hi) : (x * y).toInt = y.toInt * k ∧ lo ≤ (x * y).toInt ∧ (x * y).toInt ≤ hi := by rw [Int64.mul_comm]; exact own_lmulR lo hi hx hy hk h1 h2
theorem own_maskR (x m : Int32) (k : Nat) (P : Int) (hk : k ≤ 31) (hm : m.toBitVec.toNat = 2 ^ k - 1) (hP : P = ((2 ^ k : Nat) : Int)) (hi : Int) (h0 : 0 < P) (h : P ≤ hi + 1) : (x &&& m).toInt = x.toInt % P ∧ 0 ≤ (x &&& m).toInt ∧ (x &&& m).toInt ≤ hi := by
  have e := own_mask x m k P hk hm hP; have h1 := Int.emod_nonneg x.toInt (show P ≠ 0 by omega); have h2 := Int.emod_lt_of_pos x.toInt h0; omega
theorem own_maskLR (x m : Int64) (k : Nat) (P : Int) (hk : k ≤ 63) (hm : m.toBitVec.toNat = 2 ^ k - 1) (hP : P = ((2 ^ k : Nat) : Int)) (hi : Int) (h0 : 0 < P) (h : P ≤ hi + 1) : (x &&& m).toInt = x.toInt % P ∧ 0 ≤ (x &&& m).toInt ∧ (x &&& m).toInt ≤ hi := by
  have e := own_maskL x m k P hk hm hP; have h1 := Int.emod_nonneg x.toInt (show P ≠ 0 by omega); have h2 := Int.emod_lt_of_pos x.toInt h0; omega
theorem own_iremR {x y : Int32} {a b d : Int} (hi : Int) (hx : a ≤ x.toInt ∧ x.toInt ≤ b) (hy : y.toInt = d) (ha : 0 ≤ a) (hd : 0 < d) (h : d ≤ hi + 1) : (x % y).toInt = x.toInt % d ∧ 0 ≤ (x % y).toInt ∧ (x % y).toInt ≤ hi := by
  have e := (c_irem x y d hy).1 (by omega); have h1 := Int.emod_nonneg x.toInt (show d ≠ 0 by omega); have h2 := Int.emod_lt_of_pos x.toInt hd; omega
theorem own_lremR {x y : Int64} {a b d : Int} (hi : Int) (hx : a ≤ x.toInt ∧ x.toInt ≤ b) (hy : y.toInt = d) (ha : 0 ≤ a) (hd : 0 < d) (h : d ≤ hi + 1) : (x % y).toInt = x.toInt % d ∧ 0 ≤ (x % y).toInt ∧ (x % y).toInt ≤ hi := by
  have e := (own_lremf x y d hy).1 (by omega); have h1 := Int.emod_nonneg x.toInt (show d ≠ 0 by omega); have h2 := Int.emod_lt_of_pos x.toInt hd; omega
theorem own_idivR {x y : Int32} {a b d : Int} (lo hi : Int) (hx : a ≤ x.toInt ∧ x.toInt ≤ b) (hy : y.toInt = d) (hy1 : y ≠ -1) (ha : 0 ≤ a) (hd : 0 < d) (h : lo ≤ a / d ∧ b / d ≤ hi) : (x / y).toInt = x.toInt / d ∧ lo ≤ (x / y).toInt ∧ (x / y).toInt ≤ hi := by
  have e := (c_idiv x y d hy hy1).1 (by omega); have h1 := Int.ediv_le_ediv hd hx.1; have h2 := Int.ediv_le_ediv hd hx.2; omega
theorem own_ldivR {x y : Int64} {a b d : Int} (lo hi : Int) (hx : a ≤ x.toInt ∧ x.toInt ≤ b) (hy : y.toInt = d) (hy1 : y ≠ -1) (ha : 0 ≤ a) (hd : 0 < d) (h : lo ≤ a / d ∧ b / d ≤ hi) : (x / y).toInt = x.toInt / d ∧ lo ≤ (x / y).toInt ∧ (x / y).toInt ≤ hi := by
  have e := (c_ldiv x y d hy hy1).1 (by omega); have h1 := Int.ediv_le_ediv hd hx.1; have h2 := Int.ediv_le_ediv hd hx.2; omega
theorem own_l2iR {x : Int64} {a b : Int} (hx : a ≤ x.toInt ∧ x.toInt ≤ b) (h1 : -2147483648 ≤ a ∧ b ≤ 2147483647) : x.toInt32.toInt = x.toInt ∧ a ≤ x.toInt32.toInt ∧ x.toInt32.toInt ≤ b := by have := c_l2i x; have := rng32 x.toInt32; omega
theorem own_i2lR {x : Int32} {a b : Int} (hx : a ≤ x.toInt ∧ x.toInt ≤ b) : x.toInt64.toInt = x.toInt ∧ a ≤ x.toInt64.toInt ∧ x.toInt64.toInt ≤ b := by have := c_i2l x; omega
theorem own_eqR32 {x y : Int32} {a b : Int} (h : x = y) (hy : a ≤ y.toInt ∧ y.toInt ≤ b) : x.toInt = y.toInt ∧ a ≤ x.toInt ∧ x.toInt ≤ b := by subst h; exact ⟨rfl, hy⟩
theorem own_eqR64 {x y : Int64} {a b : Int} (h : x = y) (hy : a ≤ y.toInt ∧ y.toInt ≤ b) : x.toInt = y.toInt ∧ a ≤ x.toInt ∧ x.toInt ≤ b := by subst h; exact ⟨rfl, hy⟩
theorem own_lushrR {x : Int64} {a b : Int} (q : Int32) (k : Nat) (P lo hi : Int) (hx : a ≤ x.toInt ∧ x.toInt ≤ b) (ha : 0 ≤ a) (hk : q.toBitVec.toNat % 64 = k) (h0 : 0 < k) (hP : P = ((2 ^ k : Nat) : Int)) (hPp : 0 < P) (h : lo ≤ a / P ∧ b / P ≤ hi) : ((x.toUInt64 >>> (q &&& 0x3f).toInt64.toUInt64).toInt64).toInt = x.toInt / P ∧ lo ≤ ((x.toUInt64 >>> (q &&& 0x3f).toInt64.toUInt64).toInt64).toInt ∧ ((x.toUInt64 >>> (q &&& 0x3f).toInt64.toUInt64).toInt64).toInt ≤ hi := by
  have e := own_lushr x q k P hk h0 hP; have := rng64 x; rw [Int.emod_eq_of_lt (by omega) (by omega)] at e; have h1 := Int.ediv_le_ediv hPp hx.1; have h2 := Int.ediv_le_ediv hPp hx.2; omega
theorem own_iushrR {x : Int32} {a b : Int} (q : Int32) (k : Nat) (P lo hi : Int) (hx : a ≤ x.toInt ∧ x.toInt ≤ b) (ha : 0 ≤ a) (hk : q.toBitVec.toNat % 32 = k) (h0 : 0 < k) (hP : P = ((2 ^ k : Nat) : Int)) (hPp : 0 < P) (h : lo ≤ a / P ∧ b / P ≤ hi) : ((x.toUInt32 >>> (q &&& 31).toUInt32).toInt32).toInt = x.toInt / P ∧ lo ≤ ((x.toUInt32 >>> (q &&& 31).toUInt32).toInt32).toInt ∧ ((x.toUInt32 >>> (q &&& 31).toUInt32).toInt32).toInt ≤ hi := by
  have e := own_iushr x q k P hk h0 hP; have := rng32 x; rw [Int.emod_eq_of_lt (by omega) (by omega)] at e; have h1 := Int.ediv_le_ediv hPp hx.1; have h2 := Int.ediv_le_ediv hPp hx.2; omega
-- OWN KIT 2 (mine): Java's >>> on longs as a shift of bits
def own_sh (x : Int64) (k : Int32) : Int64 := (x.toUInt64 >>> (k &&& 0x3f).toInt64.toUInt64).toInt64
theorem own_sh_bv (x : Int64) (k : Int32) (n : Nat) (hk : k.toBitVec.toNat % 64 = n) : (own_sh x k).toBitVec = x.toBitVec >>> n := by
  obtain ⟨q1, q2⟩ := sm64 k n hk
  show (x.toBitVec >>> ((k &&& 0x3f).toInt64.toBitVec % 64)) = _
  rw [q1]
  show x.toBitVec >>> (BitVec.ofNat 64 n % 64).toNat = _
  rw [BitVec.toNat_umod, BitVec.toNat_ofNat]
  congr 1
  show n % 2 ^ 64 % 64 = n
  omega
def own_sl (x : Int64) (k : Int32) : Int64 := x <<< (k &&& 0x3f).toInt64
theorem own_sl_bv (x : Int64) (k : Int32) (n : Nat) (hk : k.toBitVec.toNat % 64 = n) : (own_sl x k).toBitVec = x.toBitVec <<< n := by
  obtain ⟨q1, q2⟩ := sm64 k n hk
  show (x.toBitVec <<< ((k &&& 0x3f).toInt64.toBitVec.smod 64)) = _
  rw [q1]
  show x.toBitVec <<< ((BitVec.ofNat 64 n).smod 64).toNat = _
  rw [smod64 n q2]
def own_m1 (x : Int64) : Int64 := (x ^^^ own_sh x 30) * (-4658895280553007687 : Int64)
def own_m2 (x : Int64) : Int64 := (x ^^^ own_sh x 27) * (-7723592293110705685 : Int64)
def own_m3 (x : Int64) : Int64 := x ^^^ own_sh x 31
def own_mix (x : Int64) : Int64 := own_m3 (own_m2 (own_m1 x))
def own_dr (w : Int64) (k : Nat) : Int64 := own_sh (own_mix (w + Int64.ofNat k * (-7046029254386353131 : Int64))) (1 : Int32)
def own_lim (b : Int64) : Int64 := (9223372036854775807 : Int64) - ((((9223372036854775807 : Int64) % b) + (1 : Int64)) % b)
theorem own_mix0 : own_mix 0 = 0 := by decide +kernel
theorem own_step (w : Int64) (k : Nat) : (w + Int64.ofNat k * (-7046029254386353131 : Int64)) + (-7046029254386353131 : Int64) = w + Int64.ofNat (k + 1) * (-7046029254386353131 : Int64) := by
  rw [Int64.ofNat_add, Int64.add_mul, Int64.add_assoc]
  congr 2
theorem own_one (w : Int64) : w + (-7046029254386353131 : Int64) = w + Int64.ofNat 1 * (-7046029254386353131 : Int64) := by
  rw [show Int64.ofNat 1 = 1 from rfl, Int64.one_mul]
theorem own_ginv : (-1018231460777725123 : Int64) * (-7046029254386353131 : Int64) = 1 := by decide +kernel
theorem own_J0 (w : Int64) : ∃ J : Nat, 1 ≤ J ∧ w + Int64.ofNat J * (-7046029254386353131 : Int64) = 0 := by
  refine ⟨(-w * (-1018231460777725123 : Int64)).toBitVec.toNat + 2 ^ 64, by omega, ?_⟩
  have e : Int64.ofNat ((-w * (-1018231460777725123 : Int64)).toBitVec.toNat + 2 ^ 64) = -w * (-1018231460777725123 : Int64) := by
    apply Int64.toBitVec_inj.mp
    show BitVec.ofNat 64 _ = _
    apply BitVec.eq_of_toNat_eq
    rw [BitVec.toNat_ofNat, Nat.add_mod_right, Nat.mod_eq_of_lt (BitVec.isLt _)]
  rw [e, Int64.mul_assoc, own_ginv, Int64.mul_one, Int64.add_comm]
  exact Int64.add_left_neg w
theorem own_dr0 {w : Int64} {J : Nat} (h : w + Int64.ofNat J * (-7046029254386353131 : Int64) = 0) : own_dr w J = 0 := by
  unfold own_dr; rw [h, own_mix0]; decide +kernel
theorem own_drI (w : Int64) (k : Nat) : 0 ≤ (own_dr w k).toInt := by
  have := own_lushr (own_mix (w + Int64.ofNat k * (-7046029254386353131 : Int64))) 1 1 2 (by decide) (by decide) (by decide)
  have e : own_dr w k = ((own_mix (w + Int64.ofNat k * (-7046029254386353131 : Int64))).toUInt64 >>> ((1 : Int32) &&& 0x3f).toInt64.toUInt64).toInt64 := rfl
  rw [e]; omega
theorem own_limI {b : Int64} (hb : 0 < b.toInt) : (own_lim b).toInt = 9223372036854775807 - (9223372036854775807 % b.toInt + 1) % b.toInt := by
  have e0 : (9223372036854775807 : Int64).toInt = 9223372036854775807 := by decide
  have e1 : (1 : Int64).toInt = 1 := by decide
  have h1 : ((9223372036854775807 : Int64) % b).toInt = 9223372036854775807 % b.toInt := by rw [Int64.toInt_mod, e0, Int.tmod_eq_emod_of_nonneg (by omega)]
  have h2 := Int.emod_nonneg 9223372036854775807 (show b.toInt ≠ 0 by omega)
  have h3 := Int.emod_lt_of_pos 9223372036854775807 hb
  have h4 := rng64 b
  have h5 : (((9223372036854775807 : Int64) % b) + (1 : Int64)).toInt = 9223372036854775807 % b.toInt + 1 := by
    have := c_ladd ((9223372036854775807 : Int64) % b) 1; have := rng64 (((9223372036854775807 : Int64) % b) + (1 : Int64)); omega
  have h6 : ((((9223372036854775807 : Int64) % b) + (1 : Int64)) % b).toInt = (9223372036854775807 % b.toInt + 1) % b.toInt := by rw [Int64.toInt_mod, h5, Int.tmod_eq_emod_of_nonneg (by omega)]
  have h7 := Int.emod_nonneg (9223372036854775807 % b.toInt + 1) (show b.toInt ≠ 0 by omega)
  have h8 := Int.emod_lt_of_pos (9223372036854775807 % b.toInt + 1) hb
  have h9 := c_lsub (9223372036854775807 : Int64) ((((9223372036854775807 : Int64) % b) + (1 : Int64)) % b)
  have h10 := rng64 (own_lim b)
  have e2 : own_lim b = (9223372036854775807 : Int64) - ((((9223372036854775807 : Int64) % b) + (1 : Int64)) % b) := rfl
  rw [e2] at h10 ⊢
  omega
theorem own_limN {b : Int64} (hb : 0 < b.toInt) : 0 ≤ (own_lim b).toInt := by
  have h := own_limI hb
  have h4 := rng64 b
  have h7 := Int.emod_nonneg (9223372036854775807 % b.toInt + 1) (show b.toInt ≠ 0 by omega)
  have h8 := Int.emod_lt_of_pos (9223372036854775807 % b.toInt + 1) hb
  omega
theorem own_klt {w b : Int64} {k J : Nat} (hk : k ≤ J) (hJ : w + Int64.ofNat J * (-7046029254386353131 : Int64) = 0) (hb : 0 < b.toInt) (h : own_lim b < own_dr w k) : k < J := by
  rcases Nat.lt_or_eq_of_le hk with q | q
  · exact q
  · exfalso
    subst q
    rw [own_dr0 hJ] at h
    have := own_lt64 h
    have := own_limN hb
    have : (0 : Int64).toInt = 0 := rfl
    omega
theorem own_comp {d b : Int64} (hd : 0 ≤ d.toInt) (hb : 0 < b.toInt) : ((9223372036854775807 : Int64) - (b - (1 : Int64))) < ((d / b) * b) ↔ own_lim b < d := by
  rw [Int64.lt_iff_toInt_lt, Int64.lt_iff_toInt_lt, own_limI hb]
  have r1 := rng64 d
  have r2 := rng64 b
  have e0 : (9223372036854775807 : Int64).toInt = 9223372036854775807 := by decide
  have e1 : (1 : Int64).toInt = 1 := by decide
  have k1 : ((9223372036854775807 : Int64) - (b - (1 : Int64))).toInt = 9223372036854775807 - (b.toInt - 1) := by
    have := c_lsub b 1; have := rng64 (b - 1); have := c_lsub (9223372036854775807 : Int64) (b - 1); have := rng64 ((9223372036854775807 : Int64) - (b - (1 : Int64))); omega
  have hm1 : b ≠ -1 := fun q => by rw [q] at hb; exact absurd hb (by decide)
  have k2 : (d / b).toInt = d.toInt / b.toInt := by rw [Int64.toInt_div_of_ne_right d b hm1, Int.tdiv_eq_ediv_of_nonneg hd]
  have q1 : d.toInt / b.toInt * b.toInt ≤ d.toInt := Int.ediv_mul_le _ (by omega)
  have q2 : d.toInt < (d.toInt / b.toInt + 1) * b.toInt := Int.lt_ediv_add_one_mul_self _ hb
  have q0 : 0 ≤ d.toInt / b.toInt := Int.ediv_nonneg hd (by omega)
  have q00 : 0 ≤ d.toInt / b.toInt * b.toInt := Int.mul_nonneg q0 (by omega)
  have k3 : ((d / b) * b).toInt = d.toInt / b.toInt * b.toInt := by
    have h1 := c_lmul (d / b) b
    rw [k2] at h1
    have := rng64 ((d / b) * b)
    omega
  rw [k1, k3]
  have p0 : b.toInt * (9223372036854775807 / b.toInt) + 9223372036854775807 % b.toInt = 9223372036854775807 := Int.mul_ediv_add_emod 9223372036854775807 b.toInt
  have p1 := Int.emod_nonneg 9223372036854775807 (show b.toInt ≠ 0 by omega)
  have p2 := Int.emod_lt_of_pos 9223372036854775807 hb
  have p3 : d.toInt / b.toInt ≤ 9223372036854775807 / b.toInt := Int.ediv_le_ediv hb (by omega)
  rw [Int.mul_comm] at p0
  rw [Int.add_mul, Int.one_mul] at q2
  generalize hQ : d.toInt / b.toInt = Q at *
  generalize hP : (9223372036854775807 : Int) / b.toInt = P at *
  generalize hR : (9223372036854775807 : Int) % b.toInt = R at *
  generalize b.toInt = B at *
  generalize d.toInt = D at *
  have s1 : Q * B ≤ P * B := Int.mul_le_mul_of_nonneg_right p3 (by omega)
  by_cases hq : Q = P
  · subst hq
    by_cases hr : R + 1 = B
    · rw [hr, Int.emod_self]; omega
    · rw [Int.emod_eq_of_lt (by omega) (by omega)]; omega
  · have s2 : (Q + 1) * B ≤ P * B := Int.mul_le_mul_of_nonneg_right (by omega) (by omega)
    rw [Int.add_mul, Int.one_mul] at s2
    by_cases hr : R + 1 = B
    · rw [hr, Int.emod_self]; omega
    · rw [Int.emod_eq_of_lt (by omega) (by omega)]; omega
theorem own_modI {d b : Int64} (hd : 0 ≤ d.toInt) (hb : 0 < b.toInt) : 0 ≤ (d % b).toInt ∧ (d % b).toInt < b.toInt := by
  rw [Int64.toInt_mod, Int.tmod_eq_emod_of_nonneg hd]
  exact ⟨Int.emod_nonneg _ (by omega), Int.emod_lt_of_pos _ hb⟩
theorem own_sh1N (x : Int64) : 0 ≤ ((x.toUInt64 >>> ((1 : Int32) &&& 0x3f).toInt64.toUInt64).toInt64).toInt := by
  have := own_lushr x 1 1 2 (by decide) (by decide) (by decide)
  omega
theorem own_modN {d b : Int64} (hd : 0 ≤ d.toInt) (hb : 0 < b.toInt) : ¬ (d % b) < (0 : Int64) := fun q => by
  have h1 := own_lt64 q
  have h2 := (own_modI hd hb).1
  rw [show (0 : Int64).toInt = 0 from rfl] at h1
  exact absurd h1 (Int.not_lt.mpr h2)
theorem own_nz {b : Int64} (hb : 0 < b.toInt) : b ≠ 0 := fun q => by rw [q] at hb; exact absurd hb (by decide)
theorem own_dr1 (w : Int64) : own_dr w 1 = own_sh (own_mix (w + (-7046029254386353131 : Int64))) (1 : Int32) := by unfold own_dr; rw [← own_one]
theorem own_dr2 (w : Int64) : own_dr w 2 = own_sh (own_mix ((w + (-7046029254386353131 : Int64)) + (-7046029254386353131 : Int64))) (1 : Int32) := by unfold own_dr; rw [← own_step, ← own_one]
theorem own_k1 {w b : Int64} {k : Nat} (hk : 1 ≤ k) (hal : ∀ j, 1 ≤ j → j < k → own_lim b < own_dr w j) (h : ¬ own_lim b < own_dr w 1) : k = 1 := by
  rcases Nat.lt_or_eq_of_le hk with q | q
  · exact absurd (hal 1 (by omega) q) h
  · exact q.symm
theorem own_k2 {w b : Int64} {k : Nat} (hk : 1 ≤ k) (hdk : ¬ own_lim b < own_dr w k) (hal : ∀ j, 1 ≤ j → j < k → own_lim b < own_dr w j) (h1 : own_lim b < own_dr w 1) (h : ¬ own_lim b < own_dr w 2) : k = 2 := by
  have q1 : k ≠ 1 := fun q => hdk (q ▸ h1)
  have q2 : ¬ 2 < k := fun q => h (hal 2 (by omega) q)
  omega
theorem pn_0 : plainName "com/example/sharp_bound/sharpbound/SeededRandom" = true := by first | (simp [plainName, overriddenIn]; done) | decide +kernel
theorem d1_0 : decode prog_24_method_1_code 0 = .ok (.aload_n 0, 1) := by decide +kernel
theorem d1_1 : decode prog_24_method_1_code 1 = .ok (.invokespecial 1, 3) := by decide +kernel
theorem d1_4 : decode prog_24_method_1_code 4 = .ok (.aload_n 0, 1) := by decide +kernel
theorem d1_5 : decode prog_24_method_1_code 5 = .ok (.lload_n 1, 1) := by decide +kernel
theorem d1_6 : decode prog_24_method_1_code 6 = .ok (.putfield 7, 3) := by decide +kernel
theorem d1_9 : decode prog_24_method_1_code 9 = .ok (.return_, 1) := by decide +kernel
theorem ef_1 (m : MethodId) (x0 : Addr) (x1 : Int64) : entryFrame m #[(.ref x0), (.long x1)] 3 = mkF m 0 #[.val (.ref x0), .val (.long x1), .second] [] := by first | (simp [entryFrame, mkF, argsToLocals, Value.category]; done) | rfl
def Q1 (Z : State) (a1 : Addr) (p2 : Int64) (h0 : Heap) (n0 : Nat) (v : Option Value) (h : Heap) (L : List Loc) : Prop := v = none ∧ Fr n0 L ∧ Keep h0 h [a1] ∧ Exa Z h a1 "com/example/sharp_bound/sharpbound/SeededRandom" ∧ Fld Z h a1 "com/example/sharp_bound/sharpbound/SeededRandom" "state" "J" (.long p2)
set_option maxRecDepth 65536 in
set_option maxHeartbeats 40000000 in
theorem rm1 (l : Launch) (Z : State) (a0 : Array Value) (hw : ∀ d ∈ tables_1, d.before a0 Z = true) (ws : List Jvm.Cond) (a1 : Addr) (p2 : Int64) (h0 : Heap) (n0 : Nat) (Z0 : n0 ≤ h0.size) (E1 : Exa Z h0 a1 "com/example/sharp_bound/sharpbound/SeededRandom") (Fp0 : Fld Z h0 a1 "com/example/sharp_bound/sharpbound/SeededRandom" "state" "J" (.long (0 : Int64))) (ga1 : n0 ≤ a1) :
    MetFree l (⟨"com/example/sharp_bound/sharpbound/SeededRandom", "<init>", "(J)V"⟩ : MethodName) (head1 (Jvm.Cond.code (⟨"com/example/sharp_bound/sharpbound/SeededRandom", "<init>", "(J)V"⟩ : MethodName) prog_24_method_1_code 3 none :: ws) ({ frames := 1, cells := 0, slots := 0, locals := 12 } : Room)) (fun a U => a = #[(.ref a1), (.long p2)] ∧ Z.Warmed39 U.vm ∧ U.heap = h0) (fun _ _ _ _ _ => True) (fun _ U o U' => ∃ v L, o = .returned v ∧ Q1 Z a1 p2 h0 n0 v U'.heap L ∧ FrameEnd U o U' L ({ frames := 1, cells := 0, slots := 0, locals := 12 } : Room).cells ({ frames := 1, cells := 0, slots := 0, locals := 12 } : Room).slots) := by
  refine MetFree.of_bodySF (plainFor_of_name pn_0) hisR ?_
  intro p e s m args below meth c s₁ Bd hml0 hP hK
  obtain ⟨rfl, hZ, hh⟩ := hP
  have hx := Bd.exec
  have hby := Bd.bytes
  have hml : c.maxLocals = 3 := hml0
  have hown : s.vm.findClass "com/example/sharp_bound/sharpbound/SeededRandom" = some m.cls := findClass_of_methodNamed Bd.named
  have hnm := (name_of_methodNamed Bd.named Bd.method).1
  have hlk : meth.locks = false := BodyLoose.notSynchronized Bd
  have X0 : Stand p l e ({ frames := 1, cells := 0, slots := 0, locals := 12 } : Room) s m #[(.ref a1), (.long p2)] below meth c s₁ [] 0 0 := Stand.of_body Bd
  have e0 : s₁.heap = h0 := by rw [← hh, Bd.state]; rfl
  have N0 := Fr.nil n0
  have K0 : Keep h0 h0 [a1] := Keep.refl h0 _
  have key : ∀ (F0 : State) (G : Prop), (own_G p e below s F0 (Q1 Z a1 p2 h0 n0) ({ frames := 1, cells := 0, slots := 0, locals := 12 } : Room).cells ({ frames := 1, cells := 0, slots := 0, locals := 12 } : Room).slots → G) → own_R p.tables e below F0 (s₁.setTop (mkF m 0 #[.val (.ref a1), .val (.long p2), .second] [])) → G := by
    intro F0 G hG r0
    have r1 : own_R p.tables e below F0 (s₁.setTop (mkF m 1 #[.val (.ref a1), .val (.long p2), .second] [(.ref a1)])) := fun tg_ kg_ => by
      refine r0 tg_ ?_
      show Steps p.tables e below (s₁.setTop (mkF m 0 #[.val (.ref a1), .val (.long p2), .second] [])) _
      refine XS.aloadN X0.here hx rfl (hb hby d1_0) rfl rfl ?_
      exact kg_
    obtain ⟨T2, X2, e2, st2⟩ := initO X0 hx hZ hown (hw _ (List.mem_of_getElem? (i := 7) rfl)) (hw _ (List.mem_of_getElem? (i := 8) rfl)) (hw _ (List.mem_of_getElem? (i := 9) rfl)) e0 (g := (mkF m 1 #[.val (.ref a1), .val (.long p2), .second] [(.ref a1)])) rfl (by rw [hml]; rfl) rfl (hb hby d1_1) (by decide) (W := 0) (by show 2 * 0 + _ ≤ _; exact Nat.le_of_eq rfl) (by decide)
    have r2 : own_R p.tables e below F0 (T2.setTop (mkF m 4 #[.val (.ref a1), .val (.long p2), .second] [])) := fun tg_ kg_ => r1 tg_ (st2 tg_ kg_)
    have r3 : own_R p.tables e below F0 (T2.setTop (mkF m 6 #[.val (.ref a1), .val (.long p2), .second] [(.long p2), (.ref a1)])) := fun tg_ kg_ => by
      refine r2 tg_ ?_
      show Steps p.tables e below (T2.setTop (mkF m 4 #[.val (.ref a1), .val (.long p2), .second] [])) _
      refine XS.aloadN X2.here hx rfl (hb hby d1_4) rfl rfl ?_
      show Steps p.tables e below (T2.setTop (mkF m 5 #[.val (.ref a1), .val (.long p2), .second] [(.ref a1)])) _
      refine XS.lloadN X2.here hx rfl (hb hby d1_5) rfl ?_
      exact kg_
    obtain ⟨T4, h4, X4, e4, W4, st4⟩ := putF X2 hx hZ hown (host := "") (Or.inl (hw _ (List.mem_of_getElem? (i := 10) rfl))) Via.refl e2 Fp0 E1 (Or.inl (hw _ (List.mem_of_getElem? (i := 11) rfl))) (hw _ (List.mem_of_getElem? (i := 2) rfl)) (ty := .long) (by decide) rfl rfl (g := (mkF m 6 #[.val (.ref a1), .val (.long p2), .second] [(.long p2), (.ref a1)])) rfl rfl (hb hby d1_6)
    have F5 : Exa Z h4 a1 "com/example/sharp_bound/sharpbound/SeededRandom" := E1.wr W4
    have F6 : Fld Z h4 a1 "com/example/sharp_bound/sharpbound/SeededRandom" "state" "J" (.long p2) := Fp0.same W4
    have Zs7 : n0 ≤ h4.size := by rw [W4.size]; exact Z0
    have N8 := Fr.snoc X4 N0 ga1
    have K9 : Keep h0 h4 [a1] := K0.wr W4 (Or.inl (List.mem_of_getElem? (i := 0) rfl))
    have r4 : own_R p.tables e below F0 (T4.setTop (mkF m 9 #[.val (.ref a1), .val (.long p2), .second] [])) := fun tg_ kg_ => r3 tg_ (st4 tg_ kg_)
    refine hG (own_fin X4 hlk (none) (fun _ => rfl) ?_ (by decide) (by decide) (fun fs hr => r4 _ (X4.returnOut hx Bd.returns (hb hby d1_9) hr)))
    rw [e4]
    refine ⟨?_, N8, K9, F5, F6⟩
    rfl
  exact key _ _ id (fun t k => castTop (ef_1 m a1 p2) k)
theorem d4_0 : decode prog_24_method_2_code 0 = .ok (.aload_n 0, 1) := by decide +kernel
theorem d4_1 : decode prog_24_method_2_code 1 = .ok (.dup, 1) := by decide +kernel
theorem d4_2 : decode prog_24_method_2_code 2 = .ok (.getfield 7, 3) := by decide +kernel
theorem d4_5 : decode prog_24_method_2_code 5 = .ok (.ldc2_w 13, 3) := by decide +kernel
theorem d4_8 : decode prog_24_method_2_code 8 = .ok (.ladd, 1) := by decide +kernel
theorem d4_9 : decode prog_24_method_2_code 9 = .ok (.putfield 7, 3) := by decide +kernel
theorem d4_12 : decode prog_24_method_2_code 12 = .ok (.aload_n 0, 1) := by decide +kernel
theorem d4_13 : decode prog_24_method_2_code 13 = .ok (.getfield 7, 3) := by decide +kernel
theorem d4_16 : decode prog_24_method_2_code 16 = .ok (.aload_n 0, 1) := by decide +kernel
theorem d4_17 : decode prog_24_method_2_code 17 = .ok (.getfield 7, 3) := by decide +kernel
theorem d4_20 : decode prog_24_method_2_code 20 = .ok (.bipush 30, 2) := by decide +kernel
theorem d4_22 : decode prog_24_method_2_code 22 = .ok (.lushr, 1) := by decide +kernel
theorem d4_23 : decode prog_24_method_2_code 23 = .ok (.lxor, 1) := by decide +kernel
theorem d4_24 : decode prog_24_method_2_code 24 = .ok (.ldc2_w 15, 3) := by decide +kernel
theorem d4_27 : decode prog_24_method_2_code 27 = .ok (.lmul, 1) := by decide +kernel
theorem d4_28 : decode prog_24_method_2_code 28 = .ok (.lstore_n 1, 1) := by decide +kernel
theorem d4_29 : decode prog_24_method_2_code 29 = .ok (.lload_n 1, 1) := by decide +kernel
theorem d4_30 : decode prog_24_method_2_code 30 = .ok (.lload_n 1, 1) := by decide +kernel
theorem d4_31 : decode prog_24_method_2_code 31 = .ok (.bipush 27, 2) := by decide +kernel
theorem d4_33 : decode prog_24_method_2_code 33 = .ok (.lushr, 1) := by decide +kernel
theorem d4_34 : decode prog_24_method_2_code 34 = .ok (.lxor, 1) := by decide +kernel
theorem d4_35 : decode prog_24_method_2_code 35 = .ok (.ldc2_w 17, 3) := by decide +kernel
theorem d4_38 : decode prog_24_method_2_code 38 = .ok (.lmul, 1) := by decide +kernel
theorem d4_39 : decode prog_24_method_2_code 39 = .ok (.lstore_n 1, 1) := by decide +kernel
theorem d4_40 : decode prog_24_method_2_code 40 = .ok (.lload_n 1, 1) := by decide +kernel
theorem d4_41 : decode prog_24_method_2_code 41 = .ok (.lload_n 1, 1) := by decide +kernel
theorem d4_42 : decode prog_24_method_2_code 42 = .ok (.bipush 31, 2) := by decide +kernel
theorem d4_44 : decode prog_24_method_2_code 44 = .ok (.lushr, 1) := by decide +kernel
theorem d4_45 : decode prog_24_method_2_code 45 = .ok (.lxor, 1) := by decide +kernel
theorem d4_46 : decode prog_24_method_2_code 46 = .ok (.lreturn, 1) := by decide +kernel
theorem ef_4 (m : MethodId) (x0 : Addr) : entryFrame m #[(.ref x0)] 3 = mkF m 0 #[.val (.ref x0), .unset, .unset] [] := by first | (simp [entryFrame, mkF, argsToLocals, Value.category]; done) | rfl
def Q4 (Z : State) (a1 : Addr) (w : Int64) (h0 : Heap) (n0 : Nat) (v : Option Value) (h : Heap) (L : List Loc) : Prop := v = some (.long (own_mix (w + (-7046029254386353131 : Int64)))) ∧ Fr n0 L ∧ Keep h0 h [a1] ∧ Exa Z h a1 "com/example/sharp_bound/sharpbound/SeededRandom" ∧ Fld Z h a1 "com/example/sharp_bound/sharpbound/SeededRandom" "state" "J" (.long (w + (-7046029254386353131 : Int64)))
set_option maxRecDepth 65536 in
set_option maxHeartbeats 40000000 in
theorem rm4 (l : Launch) (Z : State) (a0 : Array Value) (hw : ∀ d ∈ tables_1, d.before a0 Z = true) (ws : List Jvm.Cond) (a1 : Addr) (w : Int64) (h0 : Heap) (n0 : Nat) (Z0 : n0 ≤ h0.size) (E1 : Exa Z h0 a1 "com/example/sharp_bound/sharpbound/SeededRandom") (F1 : Fld Z h0 a1 "com/example/sharp_bound/sharpbound/SeededRandom" "state" "J" (.long w)) (ga1 : n0 ≤ a1) :
    MetFree l (⟨"com/example/sharp_bound/sharpbound/SeededRandom", "nextLong", "()J"⟩ : MethodName) (head1 (Jvm.Cond.code (⟨"com/example/sharp_bound/sharpbound/SeededRandom", "nextLong", "()J"⟩ : MethodName) prog_24_method_2_code 3 (some .long) :: ws) ({ frames := 0, cells := 0, slots := 0, locals := 0 } : Room)) (fun a U => a = #[(.ref a1)] ∧ Z.Warmed39 U.vm ∧ U.heap = h0) (fun _ _ _ _ _ => True) (fun _ U o U' => ∃ v L, o = .returned v ∧ Q4 Z a1 w h0 n0 v U'.heap L ∧ FrameEnd U o U' L ({ frames := 0, cells := 0, slots := 0, locals := 0 } : Room).cells ({ frames := 0, cells := 0, slots := 0, locals := 0 } : Room).slots) := by
  refine MetFree.of_bodySF (plainFor_of_name pn_0) hisR ?_
  intro p e s m args below meth c s₁ Bd hml0 hP hK
  obtain ⟨rfl, hZ, hh⟩ := hP
  have hx := Bd.exec
  have hby := Bd.bytes
  have hml : c.maxLocals = 3 := hml0
  have hown : s.vm.findClass "com/example/sharp_bound/sharpbound/SeededRandom" = some m.cls := findClass_of_methodNamed Bd.named
  have hnm := (name_of_methodNamed Bd.named Bd.method).1
  have hlk : meth.locks = false := BodyLoose.notSynchronized Bd
  have X0 : Stand p l e ({ frames := 0, cells := 0, slots := 0, locals := 0 } : Room) s m #[(.ref a1)] below meth c s₁ [] 0 0 := Stand.of_body Bd
  have e0 : s₁.heap = h0 := by rw [← hh, Bd.state]; rfl
  have N0 := Fr.nil n0
  have K0 : Keep h0 h0 [a1] := Keep.refl h0 _
  have key : ∀ (F0 : State) (G : Prop), (own_G p e below s F0 (Q4 Z a1 w h0 n0) ({ frames := 0, cells := 0, slots := 0, locals := 0 } : Room).cells ({ frames := 0, cells := 0, slots := 0, locals := 0 } : Room).slots → G) → own_R p.tables e below F0 (s₁.setTop (mkF m 0 #[.val (.ref a1), .unset, .unset] [])) → G := by
    intro F0 G hG r0
    have r10 : own_R p.tables e below F0 (s₁.setTop (mkF m 2 #[.val (.ref a1), .unset, .unset] [(.ref a1), (.ref a1)])) := fun tg_ kg_ => by
      refine r0 tg_ ?_
      show Steps p.tables e below (s₁.setTop (mkF m 0 #[.val (.ref a1), .unset, .unset] [])) _
      refine XS.aloadN X0.here hx rfl (hb hby d4_0) rfl rfl ?_
      show Steps p.tables e below (s₁.setTop (mkF m 1 #[.val (.ref a1), .unset, .unset] [(.ref a1)])) _
      refine XS.dup X0.here hx rfl (hb hby d4_1) rfl rfl ?_
      exact kg_
    obtain ⟨T11, X11, e11, st11⟩ := getF X0 hx hZ hown (host := "") (Or.inl (hw _ (List.mem_of_getElem? (i := 10) rfl))) Via.refl e0 F1 (g := (mkF m 2 #[.val (.ref a1), .unset, .unset] [(.ref a1), (.ref a1)])) rfl rfl (hb hby d4_2)
    have r11 : own_R p.tables e below F0 (T11.setTop (mkF m 5 #[.val (.ref a1), .unset, .unset] [(.long w), (.ref a1)])) := fun tg_ kg_ => r10 tg_ (st11 tg_ kg_)
    have r12 : own_R p.tables e below F0 (T11.setTop (mkF m 9 #[.val (.ref a1), .unset, .unset] [(.long (w + (-7046029254386353131 : Int64))), (.ref a1)])) := fun tg_ kg_ => by
      refine r11 tg_ ?_
      show Steps p.tables e below (T11.setTop (mkF m 5 #[.val (.ref a1), .unset, .unset] [(.long w), (.ref a1)])) _
      refine X11.ldc2J hx hown (mvT hZ (hw _ (List.mem_of_getElem? (i := 23) rfl))) rfl (hb hby d4_5) ?_
      show Steps p.tables e below (T11.setTop (mkF m 8 #[.val (.ref a1), .unset, .unset] [(.long (-7046029254386353131 : Int64)), (.long w), (.ref a1)])) _
      refine XS.ladd X11.here hx rfl (hb hby d4_8) rfl ?_
      exact kg_
    obtain ⟨T13, h13, X13, e13, W13, st13⟩ := putF X11 hx hZ hown (host := "") (Or.inl (hw _ (List.mem_of_getElem? (i := 10) rfl))) Via.refl e11 F1 E1 (Or.inl (hw _ (List.mem_of_getElem? (i := 11) rfl))) (hw _ (List.mem_of_getElem? (i := 2) rfl)) (ty := .long) (by decide) rfl rfl (g := (mkF m 9 #[.val (.ref a1), .unset, .unset] [(.long (w + (-7046029254386353131 : Int64))), (.ref a1)])) rfl rfl (hb hby d4_9)
    have F14 : Exa Z h13 a1 "com/example/sharp_bound/sharpbound/SeededRandom" := E1.wr W13
    have F15 : Fld Z h13 a1 "com/example/sharp_bound/sharpbound/SeededRandom" "state" "J" (.long (w + (-7046029254386353131 : Int64))) := F1.same W13
    have Zs16 : n0 ≤ h13.size := by rw [W13.size]; exact Z0
    have N17 := Fr.snoc X13 N0 ga1
    have K18 : Keep h0 h13 [a1] := K0.wr W13 (Or.inl (List.mem_of_getElem? (i := 0) rfl))
    have r13 : own_R p.tables e below F0 (T13.setTop (mkF m 12 #[.val (.ref a1), .unset, .unset] [])) := fun tg_ kg_ => r12 tg_ (st13 tg_ kg_)
    have r19 : own_R p.tables e below F0 (T13.setTop (mkF m 13 #[.val (.ref a1), .unset, .unset] [(.ref a1)])) := fun tg_ kg_ => by
      refine r13 tg_ ?_
      show Steps p.tables e below (T13.setTop (mkF m 12 #[.val (.ref a1), .unset, .unset] [])) _
      refine XS.aloadN X13.here hx rfl (hb hby d4_12) rfl rfl ?_
      exact kg_
    obtain ⟨T20, X20, e20, st20⟩ := getF X13 hx hZ hown (host := "") (Or.inl (hw _ (List.mem_of_getElem? (i := 10) rfl))) Via.refl e13 F15 (g := (mkF m 13 #[.val (.ref a1), .unset, .unset] [(.ref a1)])) rfl rfl (hb hby d4_13)
    have r20 : own_R p.tables e below F0 (T20.setTop (mkF m 16 #[.val (.ref a1), .unset, .unset] [(.long (w + (-7046029254386353131 : Int64)))])) := fun tg_ kg_ => r19 tg_ (st20 tg_ kg_)
    have r21 : own_R p.tables e below F0 (T20.setTop (mkF m 17 #[.val (.ref a1), .unset, .unset] [(.ref a1), (.long (w + (-7046029254386353131 : Int64)))])) := fun tg_ kg_ => by
      refine r20 tg_ ?_
      show Steps p.tables e below (T20.setTop (mkF m 16 #[.val (.ref a1), .unset, .unset] [(.long (w + (-7046029254386353131 : Int64)))])) _
      refine XS.aloadN X20.here hx rfl (hb hby d4_16) rfl rfl ?_
      exact kg_
    obtain ⟨T22, X22, e22, st22⟩ := getF X20 hx hZ hown (host := "") (Or.inl (hw _ (List.mem_of_getElem? (i := 10) rfl))) Via.refl e20 F15 (g := (mkF m 17 #[.val (.ref a1), .unset, .unset] [(.ref a1), (.long (w + (-7046029254386353131 : Int64)))])) rfl rfl (hb hby d4_17)
    have r22 : own_R p.tables e below F0 (T22.setTop (mkF m 20 #[.val (.ref a1), .unset, .unset] [(.long (w + (-7046029254386353131 : Int64))), (.long (w + (-7046029254386353131 : Int64)))])) := fun tg_ kg_ => r21 tg_ (st22 tg_ kg_)
    have r23 : own_R p.tables e below F0 (T22.setTop (mkF m 46 #[.val (.ref a1), .val (.long (((((w + (-7046029254386353131 : Int64)) ^^^ (((w + (-7046029254386353131 : Int64)).toUInt64 >>> ((30 : Int32) &&& 0x3f).toInt64.toUInt64).toInt64)) * (-4658895280553007687 : Int64)) ^^^ (((((w + (-7046029254386353131 : Int64)) ^^^ (((w + (-7046029254386353131 : Int64)).toUInt64 >>> ((30 : Int32) &&& 0x3f).toInt64.toUInt64).toInt64)) * (-4658895280553007687 : Int64)).toUInt64 >>> ((27 : Int32) &&& 0x3f).toInt64.toUInt64).toInt64)) * (-7723592293110705685 : Int64))), .second] [(.long ((((((w + (-7046029254386353131 : Int64)) ^^^ (((w + (-7046029254386353131 : Int64)).toUInt64 >>> ((30 : Int32) &&& 0x3f).toInt64.toUInt64).toInt64)) * (-4658895280553007687 : Int64)) ^^^ (((((w + (-7046029254386353131 : Int64)) ^^^ (((w + (-7046029254386353131 : Int64)).toUInt64 >>> ((30 : Int32) &&& 0x3f).toInt64.toUInt64).toInt64)) * (-4658895280553007687 : Int64)).toUInt64 >>> ((27 : Int32) &&& 0x3f).toInt64.toUInt64).toInt64)) * (-7723592293110705685 : Int64)) ^^^ (((((((w + (-7046029254386353131 : Int64)) ^^^ (((w + (-7046029254386353131 : Int64)).toUInt64 >>> ((30 : Int32) &&& 0x3f).toInt64.toUInt64).toInt64)) * (-4658895280553007687 : Int64)) ^^^ (((((w + (-7046029254386353131 : Int64)) ^^^ (((w + (-7046029254386353131 : Int64)).toUInt64 >>> ((30 : Int32) &&& 0x3f).toInt64.toUInt64).toInt64)) * (-4658895280553007687 : Int64)).toUInt64 >>> ((27 : Int32) &&& 0x3f).toInt64.toUInt64).toInt64)) * (-7723592293110705685 : Int64)).toUInt64 >>> ((31 : Int32) &&& 0x3f).toInt64.toUInt64).toInt64)))])) := fun tg_ kg_ => by
      refine r22 tg_ ?_
      show Steps p.tables e below (T22.setTop (mkF m 20 #[.val (.ref a1), .unset, .unset] [(.long (w + (-7046029254386353131 : Int64))), (.long (w + (-7046029254386353131 : Int64)))])) _
      refine XS.bipush X22.here hx rfl (hb hby d4_20) ?_
      show Steps p.tables e below (T22.setTop (mkF m 22 #[.val (.ref a1), .unset, .unset] [(.int (30 : Int32)), (.long (w + (-7046029254386353131 : Int64))), (.long (w + (-7046029254386353131 : Int64)))])) _
      refine XS.lushr X22.here hx rfl (hb hby d4_22) rfl ?_
      show Steps p.tables e below (T22.setTop (mkF m 23 #[.val (.ref a1), .unset, .unset] [(.long (((w + (-7046029254386353131 : Int64)).toUInt64 >>> ((30 : Int32) &&& 0x3f).toInt64.toUInt64).toInt64)), (.long (w + (-7046029254386353131 : Int64)))])) _
      refine XS.lxor X22.here hx rfl (hb hby d4_23) rfl ?_
      show Steps p.tables e below (T22.setTop (mkF m 24 #[.val (.ref a1), .unset, .unset] [(.long ((w + (-7046029254386353131 : Int64)) ^^^ (((w + (-7046029254386353131 : Int64)).toUInt64 >>> ((30 : Int32) &&& 0x3f).toInt64.toUInt64).toInt64)))])) _
      refine X22.ldc2J hx hown (mvT hZ (hw _ (List.mem_of_getElem? (i := 24) rfl))) rfl (hb hby d4_24) ?_
      show Steps p.tables e below (T22.setTop (mkF m 27 #[.val (.ref a1), .unset, .unset] [(.long (-4658895280553007687 : Int64)), (.long ((w + (-7046029254386353131 : Int64)) ^^^ (((w + (-7046029254386353131 : Int64)).toUInt64 >>> ((30 : Int32) &&& 0x3f).toInt64.toUInt64).toInt64)))])) _
      refine XS.lmul X22.here hx rfl (hb hby d4_27) rfl ?_
      show Steps p.tables e below (T22.setTop (mkF m 28 #[.val (.ref a1), .unset, .unset] [(.long (((w + (-7046029254386353131 : Int64)) ^^^ (((w + (-7046029254386353131 : Int64)).toUInt64 >>> ((30 : Int32) &&& 0x3f).toInt64.toUInt64).toInt64)) * (-4658895280553007687 : Int64)))])) _
      refine XS.lstoreN X22.here hx rfl (hb hby d4_28) rfl (l' := #[.val (.ref a1), .val (.long (((w + (-7046029254386353131 : Int64)) ^^^ (((w + (-7046029254386353131 : Int64)).toUInt64 >>> ((30 : Int32) &&& 0x3f).toInt64.toUInt64).toInt64)) * (-4658895280553007687 : Int64))), .second]) rfl ?_
      show Steps p.tables e below (T22.setTop (mkF m 29 #[.val (.ref a1), .val (.long (((w + (-7046029254386353131 : Int64)) ^^^ (((w + (-7046029254386353131 : Int64)).toUInt64 >>> ((30 : Int32) &&& 0x3f).toInt64.toUInt64).toInt64)) * (-4658895280553007687 : Int64))), .second] [])) _
      refine XS.lloadN X22.here hx rfl (hb hby d4_29) rfl ?_
      show Steps p.tables e below (T22.setTop (mkF m 30 #[.val (.ref a1), .val (.long (((w + (-7046029254386353131 : Int64)) ^^^ (((w + (-7046029254386353131 : Int64)).toUInt64 >>> ((30 : Int32) &&& 0x3f).toInt64.toUInt64).toInt64)) * (-4658895280553007687 : Int64))), .second] [(.long (((w + (-7046029254386353131 : Int64)) ^^^ (((w + (-7046029254386353131 : Int64)).toUInt64 >>> ((30 : Int32) &&& 0x3f).toInt64.toUInt64).toInt64)) * (-4658895280553007687 : Int64)))])) _
      refine XS.lloadN X22.here hx rfl (hb hby d4_30) rfl ?_
      show Steps p.tables e below (T22.setTop (mkF m 31 #[.val (.ref a1), .val (.long (((w + (-7046029254386353131 : Int64)) ^^^ (((w + (-7046029254386353131 : Int64)).toUInt64 >>> ((30 : Int32) &&& 0x3f).toInt64.toUInt64).toInt64)) * (-4658895280553007687 : Int64))), .second] [(.long (((w + (-7046029254386353131 : Int64)) ^^^ (((w + (-7046029254386353131 : Int64)).toUInt64 >>> ((30 : Int32) &&& 0x3f).toInt64.toUInt64).toInt64)) * (-4658895280553007687 : Int64))), (.long (((w + (-7046029254386353131 : Int64)) ^^^ (((w + (-7046029254386353131 : Int64)).toUInt64 >>> ((30 : Int32) &&& 0x3f).toInt64.toUInt64).toInt64)) * (-4658895280553007687 : Int64)))])) _
      refine XS.bipush X22.here hx rfl (hb hby d4_31) ?_
      show Steps p.tables e below (T22.setTop (mkF m 33 #[.val (.ref a1), .val (.long (((w + (-7046029254386353131 : Int64)) ^^^ (((w + (-7046029254386353131 : Int64)).toUInt64 >>> ((30 : Int32) &&& 0x3f).toInt64.toUInt64).toInt64)) * (-4658895280553007687 : Int64))), .second] [(.int (27 : Int32)), (.long (((w + (-7046029254386353131 : Int64)) ^^^ (((w + (-7046029254386353131 : Int64)).toUInt64 >>> ((30 : Int32) &&& 0x3f).toInt64.toUInt64).toInt64)) * (-4658895280553007687 : Int64))), (.long (((w + (-7046029254386353131 : Int64)) ^^^ (((w + (-7046029254386353131 : Int64)).toUInt64 >>> ((30 : Int32) &&& 0x3f).toInt64.toUInt64).toInt64)) * (-4658895280553007687 : Int64)))])) _
      refine XS.lushr X22.here hx rfl (hb hby d4_33) rfl ?_
      show Steps p.tables e below (T22.setTop (mkF m 34 #[.val (.ref a1), .val (.long (((w + (-7046029254386353131 : Int64)) ^^^ (((w + (-7046029254386353131 : Int64)).toUInt64 >>> ((30 : Int32) &&& 0x3f).toInt64.toUInt64).toInt64)) * (-4658895280553007687 : Int64))), .second] [(.long (((((w + (-7046029254386353131 : Int64)) ^^^ (((w + (-7046029254386353131 : Int64)).toUInt64 >>> ((30 : Int32) &&& 0x3f).toInt64.toUInt64).toInt64)) * (-4658895280553007687 : Int64)).toUInt64 >>> ((27 : Int32) &&& 0x3f).toInt64.toUInt64).toInt64)), (.long (((w + (-7046029254386353131 : Int64)) ^^^ (((w + (-7046029254386353131 : Int64)).toUInt64 >>> ((30 : Int32) &&& 0x3f).toInt64.toUInt64).toInt64)) * (-4658895280553007687 : Int64)))])) _
      refine XS.lxor X22.here hx rfl (hb hby d4_34) rfl ?_
      show Steps p.tables e below (T22.setTop (mkF m 35 #[.val (.ref a1), .val (.long (((w + (-7046029254386353131 : Int64)) ^^^ (((w + (-7046029254386353131 : Int64)).toUInt64 >>> ((30 : Int32) &&& 0x3f).toInt64.toUInt64).toInt64)) * (-4658895280553007687 : Int64))), .second] [(.long ((((w + (-7046029254386353131 : Int64)) ^^^ (((w + (-7046029254386353131 : Int64)).toUInt64 >>> ((30 : Int32) &&& 0x3f).toInt64.toUInt64).toInt64)) * (-4658895280553007687 : Int64)) ^^^ (((((w + (-7046029254386353131 : Int64)) ^^^ (((w + (-7046029254386353131 : Int64)).toUInt64 >>> ((30 : Int32) &&& 0x3f).toInt64.toUInt64).toInt64)) * (-4658895280553007687 : Int64)).toUInt64 >>> ((27 : Int32) &&& 0x3f).toInt64.toUInt64).toInt64)))])) _
      refine X22.ldc2J hx hown (mvT hZ (hw _ (List.mem_of_getElem? (i := 25) rfl))) rfl (hb hby d4_35) ?_
      show Steps p.tables e below (T22.setTop (mkF m 38 #[.val (.ref a1), .val (.long (((w + (-7046029254386353131 : Int64)) ^^^ (((w + (-7046029254386353131 : Int64)).toUInt64 >>> ((30 : Int32) &&& 0x3f).toInt64.toUInt64).toInt64)) * (-4658895280553007687 : Int64))), .second] [(.long (-7723592293110705685 : Int64)), (.long ((((w + (-7046029254386353131 : Int64)) ^^^ (((w + (-7046029254386353131 : Int64)).toUInt64 >>> ((30 : Int32) &&& 0x3f).toInt64.toUInt64).toInt64)) * (-4658895280553007687 : Int64)) ^^^ (((((w + (-7046029254386353131 : Int64)) ^^^ (((w + (-7046029254386353131 : Int64)).toUInt64 >>> ((30 : Int32) &&& 0x3f).toInt64.toUInt64).toInt64)) * (-4658895280553007687 : Int64)).toUInt64 >>> ((27 : Int32) &&& 0x3f).toInt64.toUInt64).toInt64)))])) _
      refine XS.lmul X22.here hx rfl (hb hby d4_38) rfl ?_
      show Steps p.tables e below (T22.setTop (mkF m 39 #[.val (.ref a1), .val (.long (((w + (-7046029254386353131 : Int64)) ^^^ (((w + (-7046029254386353131 : Int64)).toUInt64 >>> ((30 : Int32) &&& 0x3f).toInt64.toUInt64).toInt64)) * (-4658895280553007687 : Int64))), .second] [(.long (((((w + (-7046029254386353131 : Int64)) ^^^ (((w + (-7046029254386353131 : Int64)).toUInt64 >>> ((30 : Int32) &&& 0x3f).toInt64.toUInt64).toInt64)) * (-4658895280553007687 : Int64)) ^^^ (((((w + (-7046029254386353131 : Int64)) ^^^ (((w + (-7046029254386353131 : Int64)).toUInt64 >>> ((30 : Int32) &&& 0x3f).toInt64.toUInt64).toInt64)) * (-4658895280553007687 : Int64)).toUInt64 >>> ((27 : Int32) &&& 0x3f).toInt64.toUInt64).toInt64)) * (-7723592293110705685 : Int64)))])) _
      refine XS.lstoreN X22.here hx rfl (hb hby d4_39) rfl (l' := #[.val (.ref a1), .val (.long (((((w + (-7046029254386353131 : Int64)) ^^^ (((w + (-7046029254386353131 : Int64)).toUInt64 >>> ((30 : Int32) &&& 0x3f).toInt64.toUInt64).toInt64)) * (-4658895280553007687 : Int64)) ^^^ (((((w + (-7046029254386353131 : Int64)) ^^^ (((w + (-7046029254386353131 : Int64)).toUInt64 >>> ((30 : Int32) &&& 0x3f).toInt64.toUInt64).toInt64)) * (-4658895280553007687 : Int64)).toUInt64 >>> ((27 : Int32) &&& 0x3f).toInt64.toUInt64).toInt64)) * (-7723592293110705685 : Int64))), .second]) rfl ?_
      show Steps p.tables e below (T22.setTop (mkF m 40 #[.val (.ref a1), .val (.long (((((w + (-7046029254386353131 : Int64)) ^^^ (((w + (-7046029254386353131 : Int64)).toUInt64 >>> ((30 : Int32) &&& 0x3f).toInt64.toUInt64).toInt64)) * (-4658895280553007687 : Int64)) ^^^ (((((w + (-7046029254386353131 : Int64)) ^^^ (((w + (-7046029254386353131 : Int64)).toUInt64 >>> ((30 : Int32) &&& 0x3f).toInt64.toUInt64).toInt64)) * (-4658895280553007687 : Int64)).toUInt64 >>> ((27 : Int32) &&& 0x3f).toInt64.toUInt64).toInt64)) * (-7723592293110705685 : Int64))), .second] [])) _
      refine XS.lloadN X22.here hx rfl (hb hby d4_40) rfl ?_
      show Steps p.tables e below (T22.setTop (mkF m 41 #[.val (.ref a1), .val (.long (((((w + (-7046029254386353131 : Int64)) ^^^ (((w + (-7046029254386353131 : Int64)).toUInt64 >>> ((30 : Int32) &&& 0x3f).toInt64.toUInt64).toInt64)) * (-4658895280553007687 : Int64)) ^^^ (((((w + (-7046029254386353131 : Int64)) ^^^ (((w + (-7046029254386353131 : Int64)).toUInt64 >>> ((30 : Int32) &&& 0x3f).toInt64.toUInt64).toInt64)) * (-4658895280553007687 : Int64)).toUInt64 >>> ((27 : Int32) &&& 0x3f).toInt64.toUInt64).toInt64)) * (-7723592293110705685 : Int64))), .second] [(.long (((((w + (-7046029254386353131 : Int64)) ^^^ (((w + (-7046029254386353131 : Int64)).toUInt64 >>> ((30 : Int32) &&& 0x3f).toInt64.toUInt64).toInt64)) * (-4658895280553007687 : Int64)) ^^^ (((((w + (-7046029254386353131 : Int64)) ^^^ (((w + (-7046029254386353131 : Int64)).toUInt64 >>> ((30 : Int32) &&& 0x3f).toInt64.toUInt64).toInt64)) * (-4658895280553007687 : Int64)).toUInt64 >>> ((27 : Int32) &&& 0x3f).toInt64.toUInt64).toInt64)) * (-7723592293110705685 : Int64)))])) _
      refine XS.lloadN X22.here hx rfl (hb hby d4_41) rfl ?_
      show Steps p.tables e below (T22.setTop (mkF m 42 #[.val (.ref a1), .val (.long (((((w + (-7046029254386353131 : Int64)) ^^^ (((w + (-7046029254386353131 : Int64)).toUInt64 >>> ((30 : Int32) &&& 0x3f).toInt64.toUInt64).toInt64)) * (-4658895280553007687 : Int64)) ^^^ (((((w + (-7046029254386353131 : Int64)) ^^^ (((w + (-7046029254386353131 : Int64)).toUInt64 >>> ((30 : Int32) &&& 0x3f).toInt64.toUInt64).toInt64)) * (-4658895280553007687 : Int64)).toUInt64 >>> ((27 : Int32) &&& 0x3f).toInt64.toUInt64).toInt64)) * (-7723592293110705685 : Int64))), .second] [(.long (((((w + (-7046029254386353131 : Int64)) ^^^ (((w + (-7046029254386353131 : Int64)).toUInt64 >>> ((30 : Int32) &&& 0x3f).toInt64.toUInt64).toInt64)) * (-4658895280553007687 : Int64)) ^^^ (((((w + (-7046029254386353131 : Int64)) ^^^ (((w + (-7046029254386353131 : Int64)).toUInt64 >>> ((30 : Int32) &&& 0x3f).toInt64.toUInt64).toInt64)) * (-4658895280553007687 : Int64)).toUInt64 >>> ((27 : Int32) &&& 0x3f).toInt64.toUInt64).toInt64)) * (-7723592293110705685 : Int64))), (.long (((((w + (-7046029254386353131 : Int64)) ^^^ (((w + (-7046029254386353131 : Int64)).toUInt64 >>> ((30 : Int32) &&& 0x3f).toInt64.toUInt64).toInt64)) * (-4658895280553007687 : Int64)) ^^^ (((((w + (-7046029254386353131 : Int64)) ^^^ (((w + (-7046029254386353131 : Int64)).toUInt64 >>> ((30 : Int32) &&& 0x3f).toInt64.toUInt64).toInt64)) * (-4658895280553007687 : Int64)).toUInt64 >>> ((27 : Int32) &&& 0x3f).toInt64.toUInt64).toInt64)) * (-7723592293110705685 : Int64)))])) _
      refine XS.bipush X22.here hx rfl (hb hby d4_42) ?_
      show Steps p.tables e below (T22.setTop (mkF m 44 #[.val (.ref a1), .val (.long (((((w + (-7046029254386353131 : Int64)) ^^^ (((w + (-7046029254386353131 : Int64)).toUInt64 >>> ((30 : Int32) &&& 0x3f).toInt64.toUInt64).toInt64)) * (-4658895280553007687 : Int64)) ^^^ (((((w + (-7046029254386353131 : Int64)) ^^^ (((w + (-7046029254386353131 : Int64)).toUInt64 >>> ((30 : Int32) &&& 0x3f).toInt64.toUInt64).toInt64)) * (-4658895280553007687 : Int64)).toUInt64 >>> ((27 : Int32) &&& 0x3f).toInt64.toUInt64).toInt64)) * (-7723592293110705685 : Int64))), .second] [(.int (31 : Int32)), (.long (((((w + (-7046029254386353131 : Int64)) ^^^ (((w + (-7046029254386353131 : Int64)).toUInt64 >>> ((30 : Int32) &&& 0x3f).toInt64.toUInt64).toInt64)) * (-4658895280553007687 : Int64)) ^^^ (((((w + (-7046029254386353131 : Int64)) ^^^ (((w + (-7046029254386353131 : Int64)).toUInt64 >>> ((30 : Int32) &&& 0x3f).toInt64.toUInt64).toInt64)) * (-4658895280553007687 : Int64)).toUInt64 >>> ((27 : Int32) &&& 0x3f).toInt64.toUInt64).toInt64)) * (-7723592293110705685 : Int64))), (.long (((((w + (-7046029254386353131 : Int64)) ^^^ (((w + (-7046029254386353131 : Int64)).toUInt64 >>> ((30 : Int32) &&& 0x3f).toInt64.toUInt64).toInt64)) * (-4658895280553007687 : Int64)) ^^^ (((((w + (-7046029254386353131 : Int64)) ^^^ (((w + (-7046029254386353131 : Int64)).toUInt64 >>> ((30 : Int32) &&& 0x3f).toInt64.toUInt64).toInt64)) * (-4658895280553007687 : Int64)).toUInt64 >>> ((27 : Int32) &&& 0x3f).toInt64.toUInt64).toInt64)) * (-7723592293110705685 : Int64)))])) _
      refine XS.lushr X22.here hx rfl (hb hby d4_44) rfl ?_
      show Steps p.tables e below (T22.setTop (mkF m 45 #[.val (.ref a1), .val (.long (((((w + (-7046029254386353131 : Int64)) ^^^ (((w + (-7046029254386353131 : Int64)).toUInt64 >>> ((30 : Int32) &&& 0x3f).toInt64.toUInt64).toInt64)) * (-4658895280553007687 : Int64)) ^^^ (((((w + (-7046029254386353131 : Int64)) ^^^ (((w + (-7046029254386353131 : Int64)).toUInt64 >>> ((30 : Int32) &&& 0x3f).toInt64.toUInt64).toInt64)) * (-4658895280553007687 : Int64)).toUInt64 >>> ((27 : Int32) &&& 0x3f).toInt64.toUInt64).toInt64)) * (-7723592293110705685 : Int64))), .second] [(.long (((((((w + (-7046029254386353131 : Int64)) ^^^ (((w + (-7046029254386353131 : Int64)).toUInt64 >>> ((30 : Int32) &&& 0x3f).toInt64.toUInt64).toInt64)) * (-4658895280553007687 : Int64)) ^^^ (((((w + (-7046029254386353131 : Int64)) ^^^ (((w + (-7046029254386353131 : Int64)).toUInt64 >>> ((30 : Int32) &&& 0x3f).toInt64.toUInt64).toInt64)) * (-4658895280553007687 : Int64)).toUInt64 >>> ((27 : Int32) &&& 0x3f).toInt64.toUInt64).toInt64)) * (-7723592293110705685 : Int64)).toUInt64 >>> ((31 : Int32) &&& 0x3f).toInt64.toUInt64).toInt64)), (.long (((((w + (-7046029254386353131 : Int64)) ^^^ (((w + (-7046029254386353131 : Int64)).toUInt64 >>> ((30 : Int32) &&& 0x3f).toInt64.toUInt64).toInt64)) * (-4658895280553007687 : Int64)) ^^^ (((((w + (-7046029254386353131 : Int64)) ^^^ (((w + (-7046029254386353131 : Int64)).toUInt64 >>> ((30 : Int32) &&& 0x3f).toInt64.toUInt64).toInt64)) * (-4658895280553007687 : Int64)).toUInt64 >>> ((27 : Int32) &&& 0x3f).toInt64.toUInt64).toInt64)) * (-7723592293110705685 : Int64)))])) _
      refine XS.lxor X22.here hx rfl (hb hby d4_45) rfl ?_
      exact kg_
    refine hG (own_fin X22 hlk (some (.long ((((((w + (-7046029254386353131 : Int64)) ^^^ (((w + (-7046029254386353131 : Int64)).toUInt64 >>> ((30 : Int32) &&& 0x3f).toInt64.toUInt64).toInt64)) * (-4658895280553007687 : Int64)) ^^^ (((((w + (-7046029254386353131 : Int64)) ^^^ (((w + (-7046029254386353131 : Int64)).toUInt64 >>> ((30 : Int32) &&& 0x3f).toInt64.toUInt64).toInt64)) * (-4658895280553007687 : Int64)).toUInt64 >>> ((27 : Int32) &&& 0x3f).toInt64.toUInt64).toInt64)) * (-7723592293110705685 : Int64)) ^^^ (((((((w + (-7046029254386353131 : Int64)) ^^^ (((w + (-7046029254386353131 : Int64)).toUInt64 >>> ((30 : Int32) &&& 0x3f).toInt64.toUInt64).toInt64)) * (-4658895280553007687 : Int64)) ^^^ (((((w + (-7046029254386353131 : Int64)) ^^^ (((w + (-7046029254386353131 : Int64)).toUInt64 >>> ((30 : Int32) &&& 0x3f).toInt64.toUInt64).toInt64)) * (-4658895280553007687 : Int64)).toUInt64 >>> ((27 : Int32) &&& 0x3f).toInt64.toUInt64).toInt64)) * (-7723592293110705685 : Int64)).toUInt64 >>> ((31 : Int32) &&& 0x3f).toInt64.toUInt64).toInt64)))) (own_hv Bd.returns) ?_ (by decide) (by decide) (fun fs hr => r23 _ (retOut X22 hx Bd.returns rfl (Or.inr (Or.inl ⟨rfl, rfl, _, rfl⟩)) (hb hby d4_46) hr)))
    rw [e22]
    refine ⟨?_, N17, K18, F14, F15⟩
    rfl
  exact key _ _ id (fun t k => castTop (ef_4 m a1) k)
theorem pd_0 : parseMethodDescriptor "()J" = some ⟨[], some .long⟩ := by decide +kernel
theorem d3_0 : decode prog_24_method_3_code 0 = .ok (.lload_n 1, 1) := by decide +kernel
theorem d3_1 : decode prog_24_method_3_code 1 = .ok (.lconst 0, 1) := by decide +kernel
theorem d3_2 : decode prog_24_method_3_code 2 = .ok (.lcmp, 1) := by decide +kernel
theorem d3_3 : decode prog_24_method_3_code 3 = .ok (.ifCond .gt 17, 3) := by decide +kernel
theorem d3_20 : decode prog_24_method_3_code 20 = .ok (.ldc2_w 30, 3) := by decide +kernel
theorem d3_23 : decode prog_24_method_3_code 23 = .ok (.lload_n 1, 1) := by decide +kernel
theorem d3_24 : decode prog_24_method_3_code 24 = .ok (.lrem, 1) := by decide +kernel
theorem d3_25 : decode prog_24_method_3_code 25 = .ok (.lconst 1, 1) := by decide +kernel
theorem d3_26 : decode prog_24_method_3_code 26 = .ok (.ladd, 1) := by decide +kernel
theorem d3_27 : decode prog_24_method_3_code 27 = .ok (.lload_n 1, 1) := by decide +kernel
theorem d3_28 : decode prog_24_method_3_code 28 = .ok (.lrem, 1) := by decide +kernel
theorem d3_29 : decode prog_24_method_3_code 29 = .ok (.lstore_n 3, 1) := by decide +kernel
theorem d3_30 : decode prog_24_method_3_code 30 = .ok (.aload_n 0, 1) := by decide +kernel
theorem d3_31 : decode prog_24_method_3_code 31 = .ok (.invokevirtual 32, 3) := by decide +kernel
theorem d3_34 : decode prog_24_method_3_code 34 = .ok (.iconst 1, 1) := by decide +kernel
theorem d3_35 : decode prog_24_method_3_code 35 = .ok (.lushr, 1) := by decide +kernel
theorem d3_36 : decode prog_24_method_3_code 36 = .ok (.lstore 5, 2) := by decide +kernel
theorem d3_38 : decode prog_24_method_3_code 38 = .ok (.lload 5, 2) := by decide +kernel
theorem d3_40 : decode prog_24_method_3_code 40 = .ok (.ldc2_w 30, 3) := by decide +kernel
theorem d3_43 : decode prog_24_method_3_code 43 = .ok (.lload_n 3, 1) := by decide +kernel
theorem d3_44 : decode prog_24_method_3_code 44 = .ok (.lsub, 1) := by decide +kernel
theorem d3_45 : decode prog_24_method_3_code 45 = .ok (.lcmp, 1) := by decide +kernel
theorem d3_46 : decode prog_24_method_3_code 46 = .ok (.ifCond .le 14, 3) := by decide +kernel
theorem d3_49 : decode prog_24_method_3_code 49 = .ok (.aload_n 0, 1) := by decide +kernel
theorem d3_50 : decode prog_24_method_3_code 50 = .ok (.invokevirtual 32, 3) := by decide +kernel
theorem d3_53 : decode prog_24_method_3_code 53 = .ok (.iconst 1, 1) := by decide +kernel
theorem d3_54 : decode prog_24_method_3_code 54 = .ok (.lushr, 1) := by decide +kernel
theorem d3_55 : decode prog_24_method_3_code 55 = .ok (.lstore 5, 2) := by decide +kernel
theorem d3_57 : decode prog_24_method_3_code 57 = .ok (.goto (-19), 3) := by decide +kernel
theorem d3_60 : decode prog_24_method_3_code 60 = .ok (.lload 5, 2) := by decide +kernel
theorem d3_62 : decode prog_24_method_3_code 62 = .ok (.lload_n 1, 1) := by decide +kernel
theorem d3_63 : decode prog_24_method_3_code 63 = .ok (.lrem, 1) := by decide +kernel
theorem d3_64 : decode prog_24_method_3_code 64 = .ok (.lreturn, 1) := by decide +kernel
theorem ef_3 (m : MethodId) (x0 : Addr) (x1 : Int64) : entryFrame m #[(.ref x0), (.long x1)] 7 = mkF m 0 #[.val (.ref x0), .val (.long x1), .second, .unset, .unset, .unset, .unset] [] := by first | (simp [entryFrame, mkF, argsToLocals, Value.category]; done) | rfl
def Q3 (Z : State) (a1 : Addr) (p1 : Int64) (w : Int64) (h0 : Heap) (n0 : Nat) (v : Option Value) (h : Heap) (L : List Loc) : Prop := ∃ (k : Nat), ∃ (sv : Int64), v = some (.long ((own_dr w k) % p1)) ∧ Fr n0 L ∧ Keep h0 h [a1] ∧ Exa Z h a1 "com/example/sharp_bound/sharpbound/SeededRandom" ∧ Fld Z h a1 "com/example/sharp_bound/sharpbound/SeededRandom" "state" "J" (.long sv) ∧ sv = w + Int64.ofNat k * (-7046029254386353131 : Int64) ∧ 1 ≤ k ∧ ¬ own_lim p1 < own_dr w k ∧ ∀ j, 1 ≤ j → j < k → own_lim p1 < own_dr w j
set_option maxRecDepth 65536 in
set_option maxHeartbeats 40000000 in
theorem rm3 (l : Launch) (Z : State) (a0 : Array Value) (hw : ∀ d ∈ tables_1, d.before a0 Z = true) (ws : List Jvm.Cond) (a1 : Addr) (p1 : Int64) (w : Int64) (h0 : Heap) (n0 : Nat) (Z0 : n0 ≤ h0.size) (E1 : Exa Z h0 a1 "com/example/sharp_bound/sharpbound/SeededRandom") (F1 : Fld Z h0 a1 "com/example/sharp_bound/sharpbound/SeededRandom" "state" "J" (.long w)) (ga1 : n0 ≤ a1) (hbp : 0 < p1.toInt) :
    MetFree l (⟨"com/example/sharp_bound/sharpbound/SeededRandom", "below", "(J)J"⟩ : MethodName) (head1 (Jvm.Cond.code (⟨"com/example/sharp_bound/sharpbound/SeededRandom", "below", "(J)J"⟩ : MethodName) prog_24_method_3_code 7 (some .long) :: ws) ({ frames := 1, cells := 0, slots := 0, locals := 14 } : Room)) (fun a U => a = #[(.ref a1), (.long p1)] ∧ Z.Warmed39 U.vm ∧ U.heap = h0) (fun _ _ _ _ _ => True) (fun _ U o U' => ∃ v L, o = .returned v ∧ Q3 Z a1 p1 w h0 n0 v U'.heap L ∧ FrameEnd U o U' L ({ frames := 1, cells := 0, slots := 0, locals := 14 } : Room).cells ({ frames := 1, cells := 0, slots := 0, locals := 14 } : Room).slots) := by
  refine MetFree.of_bodySF (plainFor_of_name pn_0) hisR ?_
  intro p e s m args below meth c s₁ Bd hml0 hP hK
  obtain ⟨rfl, hZ, hh⟩ := hP
  have hx := Bd.exec
  have hby := Bd.bytes
  have hml : c.maxLocals = 7 := hml0
  have hown : s.vm.findClass "com/example/sharp_bound/sharpbound/SeededRandom" = some m.cls := findClass_of_methodNamed Bd.named
  have hnm := (name_of_methodNamed Bd.named Bd.method).1
  have hlk : meth.locks = false := BodyLoose.notSynchronized Bd
  have X0 : Stand p l e ({ frames := 1, cells := 0, slots := 0, locals := 14 } : Room) s m #[(.ref a1), (.long p1)] below meth c s₁ [] 0 0 := Stand.of_body Bd
  have e0 : s₁.heap = h0 := by rw [← hh, Bd.state]; rfl
  have N0 := Fr.nil n0
  have K0 : Keep h0 h0 [a1] := Keep.refl h0 _
  have key : ∀ (F0 : State) (G : Prop), (own_G p e below s F0 (Q3 Z a1 p1 w h0 n0) ({ frames := 1, cells := 0, slots := 0, locals := 14 } : Room).cells ({ frames := 1, cells := 0, slots := 0, locals := 14 } : Room).slots → G) → own_R p.tables e below F0 (s₁.setTop (mkF m 0 #[.val (.ref a1), .val (.long p1), .second, .unset, .unset, .unset, .unset] [])) → G := by
    intro F0 G hG r0
    obtain ⟨J0, hJ1, hJ⟩ := own_J0 w
    have r25 : own_R p.tables e below F0 (s₁.setTop (mkF m 3 #[.val (.ref a1), .val (.long p1), .second, .unset, .unset, .unset, .unset] [(.int (lcmpW p1 (0 : Int64)))])) := fun tg_ kg_ => by
      refine r0 tg_ ?_
      show Steps p.tables e below (s₁.setTop (mkF m 0 #[.val (.ref a1), .val (.long p1), .second, .unset, .unset, .unset, .unset] [])) _
      refine XS.lloadN X0.here hx rfl (hb hby d3_0) rfl ?_
      show Steps p.tables e below (s₁.setTop (mkF m 1 #[.val (.ref a1), .val (.long p1), .second, .unset, .unset, .unset, .unset] [(.long p1)])) _
      refine XS.lconst X0.here hx rfl (hb hby d3_1) ?_
      show Steps p.tables e below (s₁.setTop (mkF m 2 #[.val (.ref a1), .val (.long p1), .second, .unset, .unset, .unset, .unset] [(.long (0 : Int64)), (.long p1)])) _
      refine XS.lcmp X0.here hx rfl (hb hby d3_2) rfl ?_
      exact kg_
    have hc24 : (0 : Int64) < p1 := (Int64.lt_iff_toInt_lt.mpr hbp)
    have r26 : own_R p.tables e below F0 (s₁.setTop (mkF m 31 #[.val (.ref a1), .val (.long p1), .second, .val (.long ((((9223372036854775807 : Int64) % p1) + (1 : Int64)) % p1)), .second, .unset, .unset] [(.ref a1)])) := fun tg_ kg_ => by
      refine r25 tg_ ?_
      show Steps p.tables e below (s₁.setTop (mkF m 3 #[.val (.ref a1), .val (.long p1), .second, .unset, .unset, .unset, .unset] [(.int (lcmpW p1 (0 : Int64)))])) _
      refine XS.ifYes X0.here hx rfl (pc0 := 3) (pc' := 20) rfl (hb hby d3_3) rfl (own_l_gt hc24).1 (by decide) (by decide) ?_
      show Steps p.tables e below (s₁.setTop (mkF m 20 #[.val (.ref a1), .val (.long p1), .second, .unset, .unset, .unset, .unset] [])) _
      refine X0.ldc2J hx hown (mvT hZ (hw _ (List.mem_of_getElem? (i := 17) rfl))) rfl (hb hby d3_20) ?_
      show Steps p.tables e below (s₁.setTop (mkF m 23 #[.val (.ref a1), .val (.long p1), .second, .unset, .unset, .unset, .unset] [(.long (9223372036854775807 : Int64))])) _
      refine XS.lloadN X0.here hx rfl (hb hby d3_23) rfl ?_
      show Steps p.tables e below (s₁.setTop (mkF m 24 #[.val (.ref a1), .val (.long p1), .second, .unset, .unset, .unset, .unset] [(.long p1), (.long (9223372036854775807 : Int64))])) _
      refine own_lremM X0 hx rfl (hb hby d3_24) rfl (own_nz hbp) ?_
      show Steps p.tables e below (s₁.setTop (mkF m 25 #[.val (.ref a1), .val (.long p1), .second, .unset, .unset, .unset, .unset] [(.long ((9223372036854775807 : Int64) % p1))])) _
      refine XS.lconst X0.here hx rfl (hb hby d3_25) ?_
      show Steps p.tables e below (s₁.setTop (mkF m 26 #[.val (.ref a1), .val (.long p1), .second, .unset, .unset, .unset, .unset] [(.long (1 : Int64)), (.long ((9223372036854775807 : Int64) % p1))])) _
      refine XS.ladd X0.here hx rfl (hb hby d3_26) rfl ?_
      show Steps p.tables e below (s₁.setTop (mkF m 27 #[.val (.ref a1), .val (.long p1), .second, .unset, .unset, .unset, .unset] [(.long (((9223372036854775807 : Int64) % p1) + (1 : Int64)))])) _
      refine XS.lloadN X0.here hx rfl (hb hby d3_27) rfl ?_
      show Steps p.tables e below (s₁.setTop (mkF m 28 #[.val (.ref a1), .val (.long p1), .second, .unset, .unset, .unset, .unset] [(.long p1), (.long (((9223372036854775807 : Int64) % p1) + (1 : Int64)))])) _
      refine own_lremM X0 hx rfl (hb hby d3_28) rfl (own_nz hbp) ?_
      show Steps p.tables e below (s₁.setTop (mkF m 29 #[.val (.ref a1), .val (.long p1), .second, .unset, .unset, .unset, .unset] [(.long ((((9223372036854775807 : Int64) % p1) + (1 : Int64)) % p1))])) _
      refine XS.lstoreN X0.here hx rfl (hb hby d3_29) rfl (l' := #[.val (.ref a1), .val (.long p1), .second, .val (.long ((((9223372036854775807 : Int64) % p1) + (1 : Int64)) % p1)), .second, .unset, .unset]) rfl ?_
      show Steps p.tables e below (s₁.setTop (mkF m 30 #[.val (.ref a1), .val (.long p1), .second, .val (.long ((((9223372036854775807 : Int64) % p1) + (1 : Int64)) % p1)), .second, .unset, .unset] [])) _
      refine XS.aloadN X0.here hx rfl (hb hby d3_30) rfl rfl ?_
      exact kg_
    obtain ⟨cq27, kq27, q27a, q27b, q27c⟩ := isOf hZ e0 E1
    obtain ⟨_, _, ⟨T27, L27, k27, n27⟩, -, X27, ⟨Lc27, hQ27, l27, y27, z27⟩, st27⟩ := X0.virtualBack hx (y := (⟨"com/example/sharp_bound/sharpbound/SeededRandom", "nextLong", "()J"⟩ : MethodName)) (z := (⟨"com/example/sharp_bound/sharpbound/SeededRandom", "nextLong", "()J"⟩ : MethodName)) hown (mvT hZ (hw _ (List.mem_of_getElem? (i := 18) rfl))) (mvT hZ (hw _ (List.mem_of_getElem? (i := 19) rfl))) (notFace_of_selects (args := #[]) (mvT hZ (hw _ (List.mem_of_getElem? (i := 21) rfl)))) (mvT hZ (hw _ (List.mem_of_getElem? (i := 21) rfl))) (mvT hZ (hw _ (List.mem_of_getElem? (i := 20) rfl))) (by decide) (backOf (W := 0) (rm4 l Z a0 hw [] a1 (w) h0 n0 Z0 E1 F1 ga1) hZ (hw _ (List.mem_of_getElem? (i := 22) rfl)) (hw _ (List.mem_of_getElem? (i := 3) rfl)) (by decide) (by decide)) q27a q27c (g := (mkF m 31 #[.val (.ref a1), .val (.long p1), .second, .val (.long ((((9223372036854775807 : Int64) % p1) + (1 : Int64)) % p1)), .second, .unset, .unset] [(.ref a1)])) rfl (by rw [hml]; rfl) (Steps.refl _) (argsL := []) (rest := []) (lenOf pd_0 rfl) rfl (by show 2 * 0 + _ ≤ _; exact Nat.le_of_eq rfl) (hb hby d3_31) (fun _ _ => ⟨rfl, e0, (by decide : 0 + 0 ≤ _), (by decide : 0 + 0 ≤ _)⟩)
    dsimp only [Pt.U, Pt.locs, Pt.cells, Pt.slots] at X27 l27 y27 z27 st27 hQ27
    subst l27 y27 z27
    obtain ⟨rfl, N27q, I27_0, I27_1, I27_2⟩ := hQ27
    have N27 := Fr.app N0 N27q
    obtain ⟨h27, e27⟩ : ∃ z, T27.heap = z := ⟨_, rfl⟩
    rw [e27] at I27_0 I27_1 I27_2
    have K28 : Keep h0 h27 [a1] := K0.trans I27_0 (allS (Or.inl (List.mem_of_getElem? (i := 0) rfl)) all0)
    have Zs29 : n0 ≤ h27.size := Nat.le_trans Z0 I27_0.1
    have r27 : own_R p.tables e below F0 (T27.setTop (mkF m 34 #[.val (.ref a1), .val (.long p1), .second, .val (.long ((((9223372036854775807 : Int64) % p1) + (1 : Int64)) % p1)), .second, .unset, .unset] [(.long (own_mix (w + (-7046029254386353131 : Int64))))])) := fun tg_ kg_ => r26 tg_ (st27.trans kg_)
    have r30 : own_R p.tables e below F0 (T27.setTop (mkF m 38 #[.val (.ref a1), .val (.long p1), .second, .val (.long ((((9223372036854775807 : Int64) % p1) + (1 : Int64)) % p1)), .second, .val (.long (((own_mix (w + (-7046029254386353131 : Int64))).toUInt64 >>> ((1 : Int32) &&& 0x3f).toInt64.toUInt64).toInt64)), .second] [])) := fun tg_ kg_ => by
      refine r27 tg_ ?_
      show Steps p.tables e below (T27.setTop (mkF m 34 #[.val (.ref a1), .val (.long p1), .second, .val (.long ((((9223372036854775807 : Int64) % p1) + (1 : Int64)) % p1)), .second, .unset, .unset] [(.long (own_mix (w + (-7046029254386353131 : Int64))))])) _
      refine XS.iconst X27.here hx rfl (hb hby d3_34) ?_
      show Steps p.tables e below (T27.setTop (mkF m 35 #[.val (.ref a1), .val (.long p1), .second, .val (.long ((((9223372036854775807 : Int64) % p1) + (1 : Int64)) % p1)), .second, .unset, .unset] [(.int (1 : Int32)), (.long (own_mix (w + (-7046029254386353131 : Int64))))])) _
      refine XS.lushr X27.here hx rfl (hb hby d3_35) rfl ?_
      show Steps p.tables e below (T27.setTop (mkF m 36 #[.val (.ref a1), .val (.long p1), .second, .val (.long ((((9223372036854775807 : Int64) % p1) + (1 : Int64)) % p1)), .second, .unset, .unset] [(.long (((own_mix (w + (-7046029254386353131 : Int64))).toUInt64 >>> ((1 : Int32) &&& 0x3f).toInt64.toUInt64).toInt64))])) _
      refine XS.lstore X27.here hx rfl (hb hby d3_36) rfl (l' := #[.val (.ref a1), .val (.long p1), .second, .val (.long ((((9223372036854775807 : Int64) % p1) + (1 : Int64)) % p1)), .second, .val (.long (((own_mix (w + (-7046029254386353131 : Int64))).toUInt64 >>> ((1 : Int32) &&& 0x3f).toInt64.toUInt64).toInt64)), .second]) rfl ?_
      exact kg_
    have J31 : ∀ (k44 : Nat) (d : Int64) (k : Nat) (sv : Int64) (T32 : State) (lo39 : List Loc) (h34 : Heap) (X33 : Stand p l e ({ frames := 1, cells := 0, slots := 0, locals := 14 } : Room) s m #[(.ref a1), (.long p1)] below meth c T32 lo39 0 0) (e35 : T32.heap = h34) (N36 : Fr n0 lo39) (Zs37 : n0 ≤ h34.size) (K38 : Keep h0 h34 [a1]) (F40 : Exa Z h34 a1 "com/example/sharp_bound/sharpbound/SeededRandom") (F41 : Fld Z h34 a1 "com/example/sharp_bound/sharpbound/SeededRandom" "state" "J" (.long sv)) (hk1 : 1 ≤ k) (hkJ : k ≤ J0) (hs : sv = w + Int64.ofNat k * (-7046029254386353131 : Int64)) (hd : d = own_dr w k) (hal : ∀ j, 1 ≤ j → j < k → own_lim p1 < own_dr w j) (_ : J0 - k = k44) (r42 : own_R p.tables e below F0 (T32.setTop (mkF m 38 #[.val (.ref a1), .val (.long p1), .second, .val (.long ((((9223372036854775807 : Int64) % p1) + (1 : Int64)) % p1)), .second, .val (.long d), .second] []))), G := by
      intro k44
      induction k44 using Nat.strongRecOn with
      | ind k44 ih43 =>
        intro d k sv T32 lo39 h34 X33 e35 N36 Zs37 K38 F40 F41 hk1 hkJ hs hd hal hm45 r42
        have r46 : own_R p.tables e below F0 (T32.setTop (mkF m 46 #[.val (.ref a1), .val (.long p1), .second, .val (.long ((((9223372036854775807 : Int64) % p1) + (1 : Int64)) % p1)), .second, .val (.long d), .second] [(.int (lcmpW d ((9223372036854775807 : Int64) - ((((9223372036854775807 : Int64) % p1) + (1 : Int64)) % p1))))])) := fun tg_ kg_ => by
          refine r42 tg_ ?_
          show Steps p.tables e below (T32.setTop (mkF m 38 #[.val (.ref a1), .val (.long p1), .second, .val (.long ((((9223372036854775807 : Int64) % p1) + (1 : Int64)) % p1)), .second, .val (.long d), .second] [])) _
          refine XS.lload X33.here hx rfl (hb hby d3_38) rfl ?_
          show Steps p.tables e below (T32.setTop (mkF m 40 #[.val (.ref a1), .val (.long p1), .second, .val (.long ((((9223372036854775807 : Int64) % p1) + (1 : Int64)) % p1)), .second, .val (.long d), .second] [(.long d)])) _
          refine X33.ldc2J hx hown (mvT hZ (hw _ (List.mem_of_getElem? (i := 17) rfl))) rfl (hb hby d3_40) ?_
          show Steps p.tables e below (T32.setTop (mkF m 43 #[.val (.ref a1), .val (.long p1), .second, .val (.long ((((9223372036854775807 : Int64) % p1) + (1 : Int64)) % p1)), .second, .val (.long d), .second] [(.long (9223372036854775807 : Int64)), (.long d)])) _
          refine XS.lloadN X33.here hx rfl (hb hby d3_43) rfl ?_
          show Steps p.tables e below (T32.setTop (mkF m 44 #[.val (.ref a1), .val (.long p1), .second, .val (.long ((((9223372036854775807 : Int64) % p1) + (1 : Int64)) % p1)), .second, .val (.long d), .second] [(.long ((((9223372036854775807 : Int64) % p1) + (1 : Int64)) % p1)), (.long (9223372036854775807 : Int64)), (.long d)])) _
          refine XS.lsub X33.here hx rfl (hb hby d3_44) rfl ?_
          show Steps p.tables e below (T32.setTop (mkF m 45 #[.val (.ref a1), .val (.long p1), .second, .val (.long ((((9223372036854775807 : Int64) % p1) + (1 : Int64)) % p1)), .second, .val (.long d), .second] [(.long ((9223372036854775807 : Int64) - ((((9223372036854775807 : Int64) % p1) + (1 : Int64)) % p1))), (.long d)])) _
          refine XS.lcmp X33.here hx rfl (hb hby d3_45) rfl ?_
          exact kg_
        by_cases hc47 : ((9223372036854775807 : Int64) - ((((9223372036854775807 : Int64) % p1) + (1 : Int64)) % p1)) < d
        · have r48 : own_R p.tables e below F0 (T32.setTop (mkF m 50 #[.val (.ref a1), .val (.long p1), .second, .val (.long ((((9223372036854775807 : Int64) % p1) + (1 : Int64)) % p1)), .second, .val (.long d), .second] [(.ref a1)])) := fun tg_ kg_ => by
            refine r46 tg_ ?_
            show Steps p.tables e below (T32.setTop (mkF m 46 #[.val (.ref a1), .val (.long p1), .second, .val (.long ((((9223372036854775807 : Int64) % p1) + (1 : Int64)) % p1)), .second, .val (.long d), .second] [(.int (lcmpW d ((9223372036854775807 : Int64) - ((((9223372036854775807 : Int64) % p1) + (1 : Int64)) % p1))))])) _
            refine XS.ifNo X33.here hx rfl (hb hby d3_46) rfl (own_l_gt hc47).2 ?_
            show Steps p.tables e below (T32.setTop (mkF m 49 #[.val (.ref a1), .val (.long p1), .second, .val (.long ((((9223372036854775807 : Int64) % p1) + (1 : Int64)) % p1)), .second, .val (.long d), .second] [])) _
            refine XS.aloadN X33.here hx rfl (hb hby d3_49) rfl rfl ?_
            exact kg_
          obtain ⟨cq49, kq49, q49a, q49b, q49c⟩ := isOf hZ e35 F40
          obtain ⟨_, _, ⟨T49, L49, k49, n49⟩, -, X49, ⟨Lc49, hQ49, l49, y49, z49⟩, st49⟩ := X33.virtualBack hx (y := (⟨"com/example/sharp_bound/sharpbound/SeededRandom", "nextLong", "()J"⟩ : MethodName)) (z := (⟨"com/example/sharp_bound/sharpbound/SeededRandom", "nextLong", "()J"⟩ : MethodName)) hown (mvT hZ (hw _ (List.mem_of_getElem? (i := 18) rfl))) (mvT hZ (hw _ (List.mem_of_getElem? (i := 19) rfl))) (notFace_of_selects (args := #[]) (mvT hZ (hw _ (List.mem_of_getElem? (i := 21) rfl)))) (mvT hZ (hw _ (List.mem_of_getElem? (i := 21) rfl))) (mvT hZ (hw _ (List.mem_of_getElem? (i := 20) rfl))) (by decide) (backOf (W := 0) (rm4 l Z a0 hw [] a1 (sv) h34 n0 Zs37 F40 F41 ga1) hZ (hw _ (List.mem_of_getElem? (i := 22) rfl)) (hw _ (List.mem_of_getElem? (i := 3) rfl)) (by decide) (by decide)) q49a q49c (g := (mkF m 50 #[.val (.ref a1), .val (.long p1), .second, .val (.long ((((9223372036854775807 : Int64) % p1) + (1 : Int64)) % p1)), .second, .val (.long d), .second] [(.ref a1)])) rfl (by rw [hml]; rfl) (Steps.refl _) (argsL := []) (rest := []) (lenOf pd_0 rfl) rfl (by show 2 * 0 + _ ≤ _; exact Nat.le_of_eq rfl) (hb hby d3_50) (fun _ _ => ⟨rfl, e35, (by decide : 0 + 0 ≤ _), (by decide : 0 + 0 ≤ _)⟩)
          dsimp only [Pt.U, Pt.locs, Pt.cells, Pt.slots] at X49 l49 y49 z49 st49 hQ49
          subst l49 y49 z49
          obtain ⟨rfl, N49q, I49_0, I49_1, I49_2⟩ := hQ49
          have N49 := Fr.app N36 N49q
          obtain ⟨h49, e49⟩ : ∃ z, T49.heap = z := ⟨_, rfl⟩
          rw [e49] at I49_0 I49_1 I49_2
          have K50 : Keep h0 h49 [a1] := K38.trans I49_0 (allS (Or.inl (List.mem_of_getElem? (i := 0) rfl)) all0)
          have Zs51 : n0 ≤ h49.size := Nat.le_trans Zs37 I49_0.1
          have r49 : own_R p.tables e below F0 (T49.setTop (mkF m 53 #[.val (.ref a1), .val (.long p1), .second, .val (.long ((((9223372036854775807 : Int64) % p1) + (1 : Int64)) % p1)), .second, .val (.long d), .second] [(.long (own_mix (sv + (-7046029254386353131 : Int64))))])) := fun tg_ kg_ => r48 tg_ (st49.trans kg_)
          have r52 : own_R p.tables e below F0 (T49.setTop (mkF m 38 #[.val (.ref a1), .val (.long p1), .second, .val (.long ((((9223372036854775807 : Int64) % p1) + (1 : Int64)) % p1)), .second, .val (.long (((own_mix (sv + (-7046029254386353131 : Int64))).toUInt64 >>> ((1 : Int32) &&& 0x3f).toInt64.toUInt64).toInt64)), .second] [])) := fun tg_ kg_ => by
            refine r49 tg_ ?_
            show Steps p.tables e below (T49.setTop (mkF m 53 #[.val (.ref a1), .val (.long p1), .second, .val (.long ((((9223372036854775807 : Int64) % p1) + (1 : Int64)) % p1)), .second, .val (.long d), .second] [(.long (own_mix (sv + (-7046029254386353131 : Int64))))])) _
            refine XS.iconst X49.here hx rfl (hb hby d3_53) ?_
            show Steps p.tables e below (T49.setTop (mkF m 54 #[.val (.ref a1), .val (.long p1), .second, .val (.long ((((9223372036854775807 : Int64) % p1) + (1 : Int64)) % p1)), .second, .val (.long d), .second] [(.int (1 : Int32)), (.long (own_mix (sv + (-7046029254386353131 : Int64))))])) _
            refine XS.lushr X49.here hx rfl (hb hby d3_54) rfl ?_
            show Steps p.tables e below (T49.setTop (mkF m 55 #[.val (.ref a1), .val (.long p1), .second, .val (.long ((((9223372036854775807 : Int64) % p1) + (1 : Int64)) % p1)), .second, .val (.long d), .second] [(.long (((own_mix (sv + (-7046029254386353131 : Int64))).toUInt64 >>> ((1 : Int32) &&& 0x3f).toInt64.toUInt64).toInt64))])) _
            refine XS.lstore X49.here hx rfl (hb hby d3_55) rfl (l' := #[.val (.ref a1), .val (.long p1), .second, .val (.long ((((9223372036854775807 : Int64) % p1) + (1 : Int64)) % p1)), .second, .val (.long (((own_mix (sv + (-7046029254386353131 : Int64))).toUInt64 >>> ((1 : Int32) &&& 0x3f).toInt64.toUInt64).toInt64)), .second]) rfl ?_
            show Steps p.tables e below (T49.setTop (mkF m 57 #[.val (.ref a1), .val (.long p1), .second, .val (.long ((((9223372036854775807 : Int64) % p1) + (1 : Int64)) % p1)), .second, .val (.long (((own_mix (sv + (-7046029254386353131 : Int64))).toUInt64 >>> ((1 : Int32) &&& 0x3f).toInt64.toUInt64).toInt64)), .second] [])) _
            refine XS.goto X49.here hx rfl (pc0 := 57) (pc' := 38) rfl (hb hby d3_57) (by decide) (by decide) ?_
            exact kg_
          have hld : own_lim p1 < own_dr w k := by rw [← hd]; exact hc47
          have hkl : k < J0 := own_klt hkJ hJ hbp hld
          exact ih43 _ (by omega) (((own_mix (sv + (-7046029254386353131 : Int64))).toUInt64 >>> ((1 : Int32) &&& 0x3f).toInt64.toUInt64).toInt64) (k + 1) (sv + (-7046029254386353131 : Int64)) T49 _ _ X49 e49 N49 Zs51 K50 I49_1 I49_2 (by omega) (by omega) (by rw [hs]; exact own_step w k) (by rw [hs, own_step]; rfl) (fun j h1 h2 => by
            rcases Nat.lt_succ_iff_lt_or_eq.mp h2 with q | q
            · exact hal j h1 q
            · subst q; exact hld) rfl r52
        · have r53 : own_R p.tables e below F0 (T32.setTop (mkF m 64 #[.val (.ref a1), .val (.long p1), .second, .val (.long ((((9223372036854775807 : Int64) % p1) + (1 : Int64)) % p1)), .second, .val (.long d), .second] [(.long (d % p1))])) := fun tg_ kg_ => by
            refine r46 tg_ ?_
            show Steps p.tables e below (T32.setTop (mkF m 46 #[.val (.ref a1), .val (.long p1), .second, .val (.long ((((9223372036854775807 : Int64) % p1) + (1 : Int64)) % p1)), .second, .val (.long d), .second] [(.int (lcmpW d ((9223372036854775807 : Int64) - ((((9223372036854775807 : Int64) % p1) + (1 : Int64)) % p1))))])) _
            refine XS.ifYes X33.here hx rfl (pc0 := 46) (pc' := 60) rfl (hb hby d3_46) rfl (own_l_ngt hc47).2 (by decide) (by decide) ?_
            show Steps p.tables e below (T32.setTop (mkF m 60 #[.val (.ref a1), .val (.long p1), .second, .val (.long ((((9223372036854775807 : Int64) % p1) + (1 : Int64)) % p1)), .second, .val (.long d), .second] [])) _
            refine XS.lload X33.here hx rfl (hb hby d3_60) rfl ?_
            show Steps p.tables e below (T32.setTop (mkF m 62 #[.val (.ref a1), .val (.long p1), .second, .val (.long ((((9223372036854775807 : Int64) % p1) + (1 : Int64)) % p1)), .second, .val (.long d), .second] [(.long d)])) _
            refine XS.lloadN X33.here hx rfl (hb hby d3_62) rfl ?_
            show Steps p.tables e below (T32.setTop (mkF m 63 #[.val (.ref a1), .val (.long p1), .second, .val (.long ((((9223372036854775807 : Int64) % p1) + (1 : Int64)) % p1)), .second, .val (.long d), .second] [(.long p1), (.long d)])) _
            refine own_lremM X33 hx rfl (hb hby d3_63) rfl (own_nz hbp) ?_
            exact kg_
          refine hG (own_fin X33 hlk (some (.long (d % p1))) (own_hv Bd.returns) ?_ (by decide) (by decide) (fun fs hr => r53 _ (retOut X33 hx Bd.returns rfl (Or.inr (Or.inl ⟨rfl, rfl, _, rfl⟩)) (hb hby d3_64) hr)))
          rw [e35]
          refine ⟨k, sv, ?_, N36, K38, F40, F41, hs, hk1, (by rw [← hd]; exact hc47), hal⟩
          rw [hd]
    exact J31 _ (((own_mix (w + (-7046029254386353131 : Int64))).toUInt64 >>> ((1 : Int32) &&& 0x3f).toInt64.toUInt64).toInt64) 1 (w + (-7046029254386353131 : Int64)) T27 _ _ X27 e27 N27 Zs29 K28 I27_1 I27_2 (Nat.le_refl 1) hJ1 (own_one w) (own_dr1 w).symm (fun j h1 h2 => absurd h1 (by omega)) rfl r30
  exact key _ _ id (fun t k => castTop (ef_3 m a1 p1) k)
def own_compl (p0 : Int64) (p1 : Int64) : Int32 := (if ((9223372036854775807 : Int64) - (p1 - (1 : Int64))) < ((p0 / p1) * p1) then (0 : Int32) else (1 : Int32))
theorem pn_1 : plainName "com/example/sharp_bound/sharpbound/SeededRandomBelowPinLaw" = true := by first | (simp [plainName, overriddenIn]; done) | decide +kernel
theorem d5_0 : decode method_2_code 0 = .ok (.lload_n 0, 1) := by decide +kernel
theorem d5_1 : decode method_2_code 1 = .ok (.lload_n 2, 1) := by decide +kernel
theorem d5_2 : decode method_2_code 2 = .ok (.ldiv, 1) := by decide +kernel
theorem d5_3 : decode method_2_code 3 = .ok (.lload_n 2, 1) := by decide +kernel
theorem d5_4 : decode method_2_code 4 = .ok (.lmul, 1) := by decide +kernel
theorem d5_5 : decode method_2_code 5 = .ok (.ldc2_w 9, 3) := by decide +kernel
theorem d5_8 : decode method_2_code 8 = .ok (.lload_n 2, 1) := by decide +kernel
theorem d5_9 : decode method_2_code 9 = .ok (.lconst 1, 1) := by decide +kernel
theorem d5_10 : decode method_2_code 10 = .ok (.lsub, 1) := by decide +kernel
theorem d5_11 : decode method_2_code 11 = .ok (.lsub, 1) := by decide +kernel
theorem d5_12 : decode method_2_code 12 = .ok (.lcmp, 1) := by decide +kernel
theorem d5_13 : decode method_2_code 13 = .ok (.ifCond .gt 7, 3) := by decide +kernel
theorem d5_16 : decode method_2_code 16 = .ok (.iconst 1, 1) := by decide +kernel
theorem d5_17 : decode method_2_code 17 = .ok (.goto 4, 3) := by decide +kernel
theorem d5_20 : decode method_2_code 20 = .ok (.iconst 0, 1) := by decide +kernel
theorem d5_21 : decode method_2_code 21 = .ok (.ireturn, 1) := by decide +kernel
theorem ef_5 (m : MethodId) (x0 : Int64) (x1 : Int64) : entryFrame m #[(.long x0), (.long x1)] 4 = mkF m 0 #[.val (.long x0), .second, .val (.long x1), .second] [] := by first | (simp [entryFrame, mkF, argsToLocals, Value.category]; done) | rfl
def Q5 (Z : State) (p0 : Int64) (p1 : Int64) (h0 : Heap) (n0 : Nat) (v : Option Value) (h : Heap) (L : List Loc) : Prop := v = some (.int (own_compl p0 p1)) ∧ Fr n0 L ∧ h = h0
set_option maxRecDepth 65536 in
set_option maxHeartbeats 40000000 in
theorem rm5 (l : Launch) (Z : State) (a0 : Array Value) (hw : ∀ d ∈ tables_1, d.before a0 Z = true) (ws : List Jvm.Cond) (p0 : Int64) (p1 : Int64) (h0 : Heap) (n0 : Nat) (Z0 : n0 ≤ h0.size) (hbp : 0 < p1.toInt) :
    MetFree l (⟨"com/example/sharp_bound/sharpbound/SeededRandomBelowPinLaw", "complete", "(JJ)Z"⟩ : MethodName) (head1 (Jvm.Cond.code (⟨"com/example/sharp_bound/sharpbound/SeededRandomBelowPinLaw", "complete", "(JJ)Z"⟩ : MethodName) method_2_code 4 (some .boolean) :: ws) ({ frames := 0, cells := 0, slots := 0, locals := 0 } : Room)) (fun a U => a = #[(.long p0), (.long p1)] ∧ Z.Warmed39 U.vm ∧ U.heap = h0) (fun _ _ _ _ _ => True) (fun _ U o U' => ∃ v L, o = .returned v ∧ Q5 Z p0 p1 h0 n0 v U'.heap L ∧ FrameEnd U o U' L ({ frames := 0, cells := 0, slots := 0, locals := 0 } : Room).cells ({ frames := 0, cells := 0, slots := 0, locals := 0 } : Room).slots) := by
  refine MetFree.of_bodySF (plainFor_of_name pn_1) hisR ?_
  intro p e s m args below meth c s₁ Bd hml0 hP hK
  obtain ⟨rfl, hZ, hh⟩ := hP
  have hx := Bd.exec
  have hby := Bd.bytes
  have hml : c.maxLocals = 4 := hml0
  have hown : s.vm.findClass "com/example/sharp_bound/sharpbound/SeededRandomBelowPinLaw" = some m.cls := findClass_of_methodNamed Bd.named
  have hnm := (name_of_methodNamed Bd.named Bd.method).1
  have hlk : meth.locks = false := BodyLoose.notSynchronized Bd
  have X0 : Stand p l e ({ frames := 0, cells := 0, slots := 0, locals := 0 } : Room) s m #[(.long p0), (.long p1)] below meth c s₁ [] 0 0 := Stand.of_body Bd
  have e0 : s₁.heap = h0 := by rw [← hh, Bd.state]; rfl
  have N0 := Fr.nil n0
  have K0 : Keep h0 h0 [] := Keep.refl h0 _
  have key : ∀ (F0 : State) (G : Prop), (own_G p e below s F0 (Q5 Z p0 p1 h0 n0) ({ frames := 0, cells := 0, slots := 0, locals := 0 } : Room).cells ({ frames := 0, cells := 0, slots := 0, locals := 0 } : Room).slots → G) → own_R p.tables e below F0 (s₁.setTop (mkF m 0 #[.val (.long p0), .second, .val (.long p1), .second] [])) → G := by
    intro F0 G hG r0
    have r54 : own_R p.tables e below F0 (s₁.setTop (mkF m 13 #[.val (.long p0), .second, .val (.long p1), .second] [(.int (lcmpW ((p0 / p1) * p1) ((9223372036854775807 : Int64) - (p1 - (1 : Int64)))))])) := fun tg_ kg_ => by
      refine r0 tg_ ?_
      show Steps p.tables e below (s₁.setTop (mkF m 0 #[.val (.long p0), .second, .val (.long p1), .second] [])) _
      refine XS.lloadN X0.here hx rfl (hb hby d5_0) rfl ?_
      show Steps p.tables e below (s₁.setTop (mkF m 1 #[.val (.long p0), .second, .val (.long p1), .second] [(.long p0)])) _
      refine XS.lloadN X0.here hx rfl (hb hby d5_1) rfl ?_
      show Steps p.tables e below (s₁.setTop (mkF m 2 #[.val (.long p0), .second, .val (.long p1), .second] [(.long p1), (.long p0)])) _
      refine XS.ldiv X0.here hx rfl (hb hby d5_2) rfl (own_nz hbp) ?_
      show Steps p.tables e below (s₁.setTop (mkF m 3 #[.val (.long p0), .second, .val (.long p1), .second] [(.long (p0 / p1))])) _
      refine XS.lloadN X0.here hx rfl (hb hby d5_3) rfl ?_
      show Steps p.tables e below (s₁.setTop (mkF m 4 #[.val (.long p0), .second, .val (.long p1), .second] [(.long p1), (.long (p0 / p1))])) _
      refine XS.lmul X0.here hx rfl (hb hby d5_4) rfl ?_
      show Steps p.tables e below (s₁.setTop (mkF m 5 #[.val (.long p0), .second, .val (.long p1), .second] [(.long ((p0 / p1) * p1))])) _
      refine X0.ldc2J hx hown (mvT hZ (hw _ (List.mem_of_getElem? (i := 0) rfl))) rfl (hb hby d5_5) ?_
      show Steps p.tables e below (s₁.setTop (mkF m 8 #[.val (.long p0), .second, .val (.long p1), .second] [(.long (9223372036854775807 : Int64)), (.long ((p0 / p1) * p1))])) _
      refine XS.lloadN X0.here hx rfl (hb hby d5_8) rfl ?_
      show Steps p.tables e below (s₁.setTop (mkF m 9 #[.val (.long p0), .second, .val (.long p1), .second] [(.long p1), (.long (9223372036854775807 : Int64)), (.long ((p0 / p1) * p1))])) _
      refine XS.lconst X0.here hx rfl (hb hby d5_9) ?_
      show Steps p.tables e below (s₁.setTop (mkF m 10 #[.val (.long p0), .second, .val (.long p1), .second] [(.long (1 : Int64)), (.long p1), (.long (9223372036854775807 : Int64)), (.long ((p0 / p1) * p1))])) _
      refine XS.lsub X0.here hx rfl (hb hby d5_10) rfl ?_
      show Steps p.tables e below (s₁.setTop (mkF m 11 #[.val (.long p0), .second, .val (.long p1), .second] [(.long (p1 - (1 : Int64))), (.long (9223372036854775807 : Int64)), (.long ((p0 / p1) * p1))])) _
      refine XS.lsub X0.here hx rfl (hb hby d5_11) rfl ?_
      show Steps p.tables e below (s₁.setTop (mkF m 12 #[.val (.long p0), .second, .val (.long p1), .second] [(.long ((9223372036854775807 : Int64) - (p1 - (1 : Int64)))), (.long ((p0 / p1) * p1))])) _
      refine XS.lcmp X0.here hx rfl (hb hby d5_12) rfl ?_
      exact kg_
    by_cases hc55 : ((9223372036854775807 : Int64) - (p1 - (1 : Int64))) < ((p0 / p1) * p1)
    · have r56 : own_R p.tables e below F0 (s₁.setTop (mkF m 21 #[.val (.long p0), .second, .val (.long p1), .second] [(.int (0 : Int32))])) := fun tg_ kg_ => by
        refine r54 tg_ ?_
        show Steps p.tables e below (s₁.setTop (mkF m 13 #[.val (.long p0), .second, .val (.long p1), .second] [(.int (lcmpW ((p0 / p1) * p1) ((9223372036854775807 : Int64) - (p1 - (1 : Int64)))))])) _
        refine XS.ifYes X0.here hx rfl (pc0 := 13) (pc' := 20) rfl (hb hby d5_13) rfl (own_l_gt hc55).1 (by decide) (by decide) ?_
        show Steps p.tables e below (s₁.setTop (mkF m 20 #[.val (.long p0), .second, .val (.long p1), .second] [])) _
        refine XS.iconst X0.here hx rfl (hb hby d5_20) ?_
        exact kg_
      refine hG (own_fin X0 hlk (some (.int (nar .boolean (0 : Int32)))) (own_hv Bd.returns) ?_ (by decide) (by decide) (fun fs hr => r56 _ (retN X0 hx (t := .boolean) Bd.returns (by simp) (hb hby d5_21) hr)))
      rw [e0]
      refine ⟨?_, N0, rfl⟩
      have ev : (own_compl p0 p1) = (0 : Int32) := by unfold own_compl; rw [if_pos hc55]
      rw [ev]
      rfl
    · have r57 : own_R p.tables e below F0 (s₁.setTop (mkF m 21 #[.val (.long p0), .second, .val (.long p1), .second] [(.int (1 : Int32))])) := fun tg_ kg_ => by
        refine r54 tg_ ?_
        show Steps p.tables e below (s₁.setTop (mkF m 13 #[.val (.long p0), .second, .val (.long p1), .second] [(.int (lcmpW ((p0 / p1) * p1) ((9223372036854775807 : Int64) - (p1 - (1 : Int64)))))])) _
        refine XS.ifNo X0.here hx rfl (hb hby d5_13) rfl (own_l_ngt hc55).1 ?_
        show Steps p.tables e below (s₁.setTop (mkF m 16 #[.val (.long p0), .second, .val (.long p1), .second] [])) _
        refine XS.iconst X0.here hx rfl (hb hby d5_16) ?_
        show Steps p.tables e below (s₁.setTop (mkF m 17 #[.val (.long p0), .second, .val (.long p1), .second] [(.int (1 : Int32))])) _
        refine XS.goto X0.here hx rfl (pc0 := 17) (pc' := 21) rfl (hb hby d5_17) (by decide) (by decide) ?_
        exact kg_
      refine hG (own_fin X0 hlk (some (.int (nar .boolean (1 : Int32)))) (own_hv Bd.returns) ?_ (by decide) (by decide) (fun fs hr => r57 _ (retN X0 hx (t := .boolean) Bd.returns (by simp) (hb hby d5_21) hr)))
      rw [e0]
      refine ⟨?_, N0, rfl⟩
      have ev : (own_compl p0 p1) = (1 : Int32) := by unfold own_compl; rw [if_neg hc55]
      rw [ev]
      rfl
  exact key _ _ id (fun t k => castTop (ef_5 m p0 p1) k)
theorem pd_1 : parseMethodDescriptor "(J)V" = some ⟨[.long], none⟩ := by decide +kernel
theorem pd_2 : parseMethodDescriptor "(J)J" = some ⟨[.long], some .long⟩ := by decide +kernel
theorem pd_3 : parseMethodDescriptor "(JJ)Z" = some ⟨[.long, .long], some .boolean⟩ := by decide +kernel
theorem ef_0 (m : MethodId) (x0 : Int64) (x1 : Int64) : entryFrame m #[(.long x0), (.long x1)] maxLocals = mkF m 0 #[.val (.long x0), .second, .val (.long x1), .second, .unset, .unset, .unset, .unset, .unset, .unset, .unset, .unset, .unset, .unset] [] := by first | (simp [entryFrame, mkF, argsToLocals, Value.category, maxLocals]; done) | rfl
def Q0 (Z : State) (p0s : Int64) (p1s : Int64) (h0 : Heap) (n0 : Nat) (v : Option Value) (h : Heap) (L : List Loc) : Prop := v = some (.int (1 : Int32)) ∧ Fr n0 L
set_option maxRecDepth 65536 in
set_option maxHeartbeats 40000000 in
theorem rm0 (l : Launch) (Z : State) (a0 : Array Value) (hw : ∀ d ∈ tables_1, d.before a0 Z = true) (ws : List Jvm.Cond) (p0s : Int64) (p1s : Int64) (h0 : Heap) (n0 : Nat) (Z0 : n0 ≤ h0.size) :
    MetFree l x (head1 (Jvm.Cond.code x code maxLocals ret :: ws) room_1) (fun a U => a = #[(.long p0s), (.long p1s)] ∧ Z.Warmed39 U.vm ∧ U.heap = h0) (fun _ _ _ _ _ => True) (fun _ U o U' => ∃ v L, o = .returned v ∧ Q0 Z p0s p1s h0 n0 v U'.heap L ∧ FrameEnd U o U' L 16 128) := by
  refine MetFree.of_bodySF (plainFor_of_name pn_1) hisR ?_
  intro p e s m args below meth c s₁ Bd hml0 hP hK
  obtain ⟨rfl, hZ, hh⟩ := hP
  have hx := Bd.exec
  have hby := Bd.bytes
  have hml : c.maxLocals = 14 := hml0
  have hown : s.vm.findClass "com/example/sharp_bound/sharpbound/SeededRandomBelowPinLaw" = some m.cls := findClass_of_methodNamed Bd.named
  have hnm := (name_of_methodNamed Bd.named Bd.method).1
  have hlk : meth.locks = false := BodyLoose.notSynchronized Bd
  have X0 : Stand p l e room_1 s m #[(.long p0s), (.long p1s)] below meth c s₁ [] 0 0 := Stand.of_body Bd
  have e0 : s₁.heap = h0 := by rw [← hh, Bd.state]; rfl
  have N0 := Fr.nil n0
  have K0 : Keep h0 h0 [] := Keep.refl h0 _
  have key : ∀ (F0 : State) (G : Prop), (own_G p e below s F0 (Q0 Z p0s p1s h0 n0) 16 128 → G) → own_R p.tables e below F0 (s₁.setTop (mkF m 0 #[.val (.long p0s), .second, .val (.long p1s), .second, .unset, .unset, .unset, .unset, .unset, .unset, .unset, .unset, .unset, .unset] [])) → G := by
    intro F0 G hG r0
    have r58 : own_R p.tables e below F0 (s₁.setTop (mkF m 11 #[.val (.long p0s), .second, .val (.long p1s), .second, .val (.long (p1s &&& (9223372036854775807 : Int64))), .second, .unset, .unset, .unset, .unset, .unset, .unset, .unset, .unset] [(.int (lcmpW (p1s &&& (9223372036854775807 : Int64)) (0 : Int64)))])) := fun tg_ kg_ => by
      refine r0 tg_ ?_
      show Steps p.tables e below (s₁.setTop (mkF m 0 #[.val (.long p0s), .second, .val (.long p1s), .second, .unset, .unset, .unset, .unset, .unset, .unset, .unset, .unset, .unset, .unset] [])) _
      refine XS.lloadN X0.here hx rfl (hb hby at_0) rfl ?_
      show Steps p.tables e below (s₁.setTop (mkF m 1 #[.val (.long p0s), .second, .val (.long p1s), .second, .unset, .unset, .unset, .unset, .unset, .unset, .unset, .unset, .unset, .unset] [(.long p1s)])) _
      refine X0.ldc2J hx hown (mvT hZ (hw _ (List.mem_of_getElem? (i := 0) rfl))) rfl (hb hby at_1) ?_
      show Steps p.tables e below (s₁.setTop (mkF m 4 #[.val (.long p0s), .second, .val (.long p1s), .second, .unset, .unset, .unset, .unset, .unset, .unset, .unset, .unset, .unset, .unset] [(.long (9223372036854775807 : Int64)), (.long p1s)])) _
      refine XS.land X0.here hx rfl (hb hby at_4) rfl ?_
      show Steps p.tables e below (s₁.setTop (mkF m 5 #[.val (.long p0s), .second, .val (.long p1s), .second, .unset, .unset, .unset, .unset, .unset, .unset, .unset, .unset, .unset, .unset] [(.long (p1s &&& (9223372036854775807 : Int64)))])) _
      refine XS.lstore X0.here hx rfl (hb hby at_5) rfl (l' := #[.val (.long p0s), .second, .val (.long p1s), .second, .val (.long (p1s &&& (9223372036854775807 : Int64))), .second, .unset, .unset, .unset, .unset, .unset, .unset, .unset, .unset]) rfl ?_
      show Steps p.tables e below (s₁.setTop (mkF m 7 #[.val (.long p0s), .second, .val (.long p1s), .second, .val (.long (p1s &&& (9223372036854775807 : Int64))), .second, .unset, .unset, .unset, .unset, .unset, .unset, .unset, .unset] [])) _
      refine XS.lload X0.here hx rfl (hb hby at_7) rfl ?_
      show Steps p.tables e below (s₁.setTop (mkF m 9 #[.val (.long p0s), .second, .val (.long p1s), .second, .val (.long (p1s &&& (9223372036854775807 : Int64))), .second, .unset, .unset, .unset, .unset, .unset, .unset, .unset, .unset] [(.long (p1s &&& (9223372036854775807 : Int64)))])) _
      refine XS.lconst X0.here hx rfl (hb hby at_9) ?_
      show Steps p.tables e below (s₁.setTop (mkF m 10 #[.val (.long p0s), .second, .val (.long p1s), .second, .val (.long (p1s &&& (9223372036854775807 : Int64))), .second, .unset, .unset, .unset, .unset, .unset, .unset, .unset, .unset] [(.long (0 : Int64)), (.long (p1s &&& (9223372036854775807 : Int64)))])) _
      refine XS.lcmp X0.here hx rfl (hb hby at_10) rfl ?_
      exact kg_
    have J59 : ∀ (b : Int64) (hbp : 0 < b.toInt) (r60 : own_R p.tables e below F0 (s₁.setTop (mkF m 17 #[.val (.long p0s), .second, .val (.long p1s), .second, .val (.long b), .second, .unset, .unset, .unset, .unset, .unset, .unset, .unset, .unset] []))), G := by
      intro b hbp r60
      obtain ⟨T61, h61, X61, e61, E61, A61, D61, -, st61⟩ := newO X0 hx hZ hown (hw _ (List.mem_of_getElem? (i := 1) rfl)) (hw _ (List.mem_of_getElem? (i := 2) rfl)) (hw _ (List.mem_of_getElem? (i := 3) rfl)) e0 (g := (mkF m 17 #[.val (.long p0s), .second, .val (.long p1s), .second, .val (.long b), .second, .unset, .unset, .unset, .unset, .unset, .unset, .unset, .unset] [])) rfl (hb hby at_17) (by decide) (by decide)
      obtain ⟨b61, g61⟩ : ∃ z, z = h0.size := ⟨_, rfl⟩
      rw [← g61] at A61 D61 st61
      have ge61 : n0 ≤ b61 := Nat.le_trans Z0 (Nat.le_of_eq g61.symm)
      have old61 : h0.size ≤ b61 := Nat.le_trans K0.1 (Nat.le_of_eq g61.symm)
      have K61 : Keep h0 h61 [] := K0.ext E61
      have Zs62 : n0 ≤ h61.size := Nat.le_trans Z0 E61.1
      have F63 : Fld Z h61 b61 "com/example/sharp_bound/sharpbound/SeededRandom" "state" "J" (.long (0 : Int64)) := D61 (Or.inl (hw _ (List.mem_of_getElem? (i := 11) rfl))) (ty := .long) (by decide)
      have r61 : own_R p.tables e below F0 (T61.setTop (mkF m 20 #[.val (.long p0s), .second, .val (.long p1s), .second, .val (.long b), .second, .unset, .unset, .unset, .unset, .unset, .unset, .unset, .unset] [(.ref b61)])) := fun tg_ kg_ => r60 tg_ (st61 tg_ kg_)
      have r64 : own_R p.tables e below F0 (T61.setTop (mkF m 22 #[.val (.long p0s), .second, .val (.long p1s), .second, .val (.long b), .second, .unset, .unset, .unset, .unset, .unset, .unset, .unset, .unset] [(.long p0s), (.ref b61), (.ref b61)])) := fun tg_ kg_ => by
        refine r61 tg_ ?_
        show Steps p.tables e below (T61.setTop (mkF m 20 #[.val (.long p0s), .second, .val (.long p1s), .second, .val (.long b), .second, .unset, .unset, .unset, .unset, .unset, .unset, .unset, .unset] [(.ref b61)])) _
        refine XS.dup X61.here hx rfl (hb hby at_20) rfl rfl ?_
        show Steps p.tables e below (T61.setTop (mkF m 21 #[.val (.long p0s), .second, .val (.long p1s), .second, .val (.long b), .second, .unset, .unset, .unset, .unset, .unset, .unset, .unset, .unset] [(.ref b61), (.ref b61)])) _
        refine XS.lloadN X61.here hx rfl (hb hby at_21) rfl ?_
        exact kg_
      obtain ⟨_, _, ⟨T65, L65, k65, n65⟩, -, X65, ⟨Lc65, hQ65, l65, y65, z65⟩, st65⟩ := X61.specialBack hx (y := (⟨"com/example/sharp_bound/sharpbound/SeededRandom", "<init>", "(J)V"⟩ : MethodName)) rfl hown (mvT hZ (hw _ (List.mem_of_getElem? (i := 4) rfl))) (mvT hZ (hw _ (List.mem_of_getElem? (i := 5) rfl))) (mvT hZ (hw _ (List.mem_of_getElem? (i := 6) rfl))) (by decide) (backOf (W := 1) (rm1 l Z a0 hw [] b61 p0s h61 n0 Zs62 A61 F63 ge61) hZ (hw _ (List.mem_of_getElem? (i := 6) rfl)) (hw _ (List.mem_of_getElem? (i := 3) rfl)) (by decide) (by decide)) (g := (mkF m 22 #[.val (.long p0s), .second, .val (.long p1s), .second, .val (.long b), .second, .unset, .unset, .unset, .unset, .unset, .unset, .unset, .unset] [(.long p0s), (.ref b61), (.ref b61)])) rfl (by rw [hml]; rfl) (Steps.refl _) (a := b61) (argsL := [(.long p0s)]) (rest := [(.ref b61)]) (lenOf pd_1 rfl) rfl (by show 2 * 0 + _ ≤ _; exact Nat.le_of_eq rfl) (hb hby at_22) (fun _ _ => ⟨rfl, e61, (by decide : 1 + 0 ≤ _), (by decide : 1 + 0 ≤ _)⟩)
      dsimp only [Pt.U, Pt.locs, Pt.cells, Pt.slots] at X65 l65 y65 z65 st65 hQ65
      subst l65 y65 z65
      obtain ⟨rfl, N65q, I65_0, I65_1, I65_2⟩ := hQ65
      have N65 := Fr.app N0 N65q
      obtain ⟨h65, e65⟩ : ∃ z, T65.heap = z := ⟨_, rfl⟩
      rw [e65] at I65_0 I65_1 I65_2
      have K66 : Keep h0 h65 [] := K61.trans I65_0 (allS (Or.inr old61) all0)
      have Zs67 : n0 ≤ h65.size := Nat.le_trans Zs62 I65_0.1
      have r65 : own_R p.tables e below F0 (T65.setTop (mkF m 25 #[.val (.long p0s), .second, .val (.long p1s), .second, .val (.long b), .second, .unset, .unset, .unset, .unset, .unset, .unset, .unset, .unset] [(.ref b61)])) := fun tg_ kg_ => r64 tg_ (st65.trans kg_)
      have r68 : own_R p.tables e below F0 (T65.setTop (mkF m 27 #[.val (.long p0s), .second, .val (.long p1s), .second, .val (.long b), .second, .val (.ref b61), .unset, .unset, .unset, .unset, .unset, .unset, .unset] [])) := fun tg_ kg_ => by
        refine r65 tg_ ?_
        show Steps p.tables e below (T65.setTop (mkF m 25 #[.val (.long p0s), .second, .val (.long p1s), .second, .val (.long b), .second, .unset, .unset, .unset, .unset, .unset, .unset, .unset, .unset] [(.ref b61)])) _
        refine XS.astore X65.here hx rfl (hb hby at_25) rfl rfl (l' := #[.val (.long p0s), .second, .val (.long p1s), .second, .val (.long b), .second, .val (.ref b61), .unset, .unset, .unset, .unset, .unset, .unset, .unset]) rfl ?_
        exact kg_
      obtain ⟨T69, h69, X69, e69, E69, A69, D69, -, st69⟩ := newO X65 hx hZ hown (hw _ (List.mem_of_getElem? (i := 1) rfl)) (hw _ (List.mem_of_getElem? (i := 2) rfl)) (hw _ (List.mem_of_getElem? (i := 3) rfl)) e65 (g := (mkF m 27 #[.val (.long p0s), .second, .val (.long p1s), .second, .val (.long b), .second, .val (.ref b61), .unset, .unset, .unset, .unset, .unset, .unset, .unset] [])) rfl (hb hby at_27) (by decide) (by decide)
      obtain ⟨b69, g69⟩ : ∃ z, z = h65.size := ⟨_, rfl⟩
      rw [← g69] at A69 D69 st69
      have ne70 : b61 ≠ b69 := Nat.ne_of_lt (Nat.lt_of_lt_of_le I65_1.lt (Nat.le_of_eq g69.symm))
      have ge69 : n0 ≤ b69 := Nat.le_trans Zs67 (Nat.le_of_eq g69.symm)
      have old69 : h0.size ≤ b69 := Nat.le_trans K66.1 (Nat.le_of_eq g69.symm)
      have K69 : Keep h0 h69 [] := K66.ext E69
      have F71 : Exa Z h69 b61 "com/example/sharp_bound/sharpbound/SeededRandom" := I65_1.ext E69
      have F72 : Fld Z h69 b61 "com/example/sharp_bound/sharpbound/SeededRandom" "state" "J" (.long p0s) := I65_2.ext E69
      have Zs73 : n0 ≤ h69.size := Nat.le_trans Zs67 E69.1
      have F74 : Fld Z h69 b69 "com/example/sharp_bound/sharpbound/SeededRandom" "state" "J" (.long (0 : Int64)) := D69 (Or.inl (hw _ (List.mem_of_getElem? (i := 11) rfl))) (ty := .long) (by decide)
      have r69 : own_R p.tables e below F0 (T69.setTop (mkF m 30 #[.val (.long p0s), .second, .val (.long p1s), .second, .val (.long b), .second, .val (.ref b61), .unset, .unset, .unset, .unset, .unset, .unset, .unset] [(.ref b69)])) := fun tg_ kg_ => r68 tg_ (st69 tg_ kg_)
      have r75 : own_R p.tables e below F0 (T69.setTop (mkF m 32 #[.val (.long p0s), .second, .val (.long p1s), .second, .val (.long b), .second, .val (.ref b61), .unset, .unset, .unset, .unset, .unset, .unset, .unset] [(.long p0s), (.ref b69), (.ref b69)])) := fun tg_ kg_ => by
        refine r69 tg_ ?_
        show Steps p.tables e below (T69.setTop (mkF m 30 #[.val (.long p0s), .second, .val (.long p1s), .second, .val (.long b), .second, .val (.ref b61), .unset, .unset, .unset, .unset, .unset, .unset, .unset] [(.ref b69)])) _
        refine XS.dup X69.here hx rfl (hb hby at_30) rfl rfl ?_
        show Steps p.tables e below (T69.setTop (mkF m 31 #[.val (.long p0s), .second, .val (.long p1s), .second, .val (.long b), .second, .val (.ref b61), .unset, .unset, .unset, .unset, .unset, .unset, .unset] [(.ref b69), (.ref b69)])) _
        refine XS.lloadN X69.here hx rfl (hb hby at_31) rfl ?_
        exact kg_
      obtain ⟨_, _, ⟨T76, L76, k76, n76⟩, -, X76, ⟨Lc76, hQ76, l76, y76, z76⟩, st76⟩ := X69.specialBack hx (y := (⟨"com/example/sharp_bound/sharpbound/SeededRandom", "<init>", "(J)V"⟩ : MethodName)) rfl hown (mvT hZ (hw _ (List.mem_of_getElem? (i := 4) rfl))) (mvT hZ (hw _ (List.mem_of_getElem? (i := 5) rfl))) (mvT hZ (hw _ (List.mem_of_getElem? (i := 6) rfl))) (by decide) (backOf (W := 1) (rm1 l Z a0 hw [] b69 p0s h69 n0 Zs73 A69 F74 ge69) hZ (hw _ (List.mem_of_getElem? (i := 6) rfl)) (hw _ (List.mem_of_getElem? (i := 3) rfl)) (by decide) (by decide)) (g := (mkF m 32 #[.val (.long p0s), .second, .val (.long p1s), .second, .val (.long b), .second, .val (.ref b61), .unset, .unset, .unset, .unset, .unset, .unset, .unset] [(.long p0s), (.ref b69), (.ref b69)])) rfl (by rw [hml]; rfl) (Steps.refl _) (a := b69) (argsL := [(.long p0s)]) (rest := [(.ref b69)]) (lenOf pd_1 rfl) rfl (by show 2 * 0 + _ ≤ _; exact Nat.le_of_eq rfl) (hb hby at_32) (fun _ _ => ⟨rfl, e69, (by decide : 2 + 0 ≤ _), (by decide : 2 + 0 ≤ _)⟩)
      dsimp only [Pt.U, Pt.locs, Pt.cells, Pt.slots] at X76 l76 y76 z76 st76 hQ76
      subst l76 y76 z76
      obtain ⟨rfl, N76q, I76_0, I76_1, I76_2⟩ := hQ76
      have N76 := Fr.app N65 N76q
      obtain ⟨h76, e76⟩ : ∃ z, T76.heap = z := ⟨_, rfl⟩
      rw [e76] at I76_0 I76_1 I76_2
      have F77 : Exa Z h76 b61 "com/example/sharp_bound/sharpbound/SeededRandom" := F71.keep I76_0
      have F78 : Fld Z h76 b61 "com/example/sharp_bound/sharpbound/SeededRandom" "state" "J" (.long p0s) := F72.keep I76_0 (ninS ne70 nin0)
      have K79 : Keep h0 h76 [] := K69.trans I76_0 (allS (Or.inr old69) all0)
      have Zs80 : n0 ≤ h76.size := Nat.le_trans Zs73 I76_0.1
      have r76 : own_R p.tables e below F0 (T76.setTop (mkF m 35 #[.val (.long p0s), .second, .val (.long p1s), .second, .val (.long b), .second, .val (.ref b61), .unset, .unset, .unset, .unset, .unset, .unset, .unset] [(.ref b69)])) := fun tg_ kg_ => r75 tg_ (st76.trans kg_)
      have r81 : own_R p.tables e below F0 (T76.setTop (mkF m 41 #[.val (.long p0s), .second, .val (.long p1s), .second, .val (.long b), .second, .val (.ref b61), .val (.ref b69), .unset, .unset, .unset, .unset, .unset, .unset] [(.long b), (.ref b61)])) := fun tg_ kg_ => by
        refine r76 tg_ ?_
        show Steps p.tables e below (T76.setTop (mkF m 35 #[.val (.long p0s), .second, .val (.long p1s), .second, .val (.long b), .second, .val (.ref b61), .unset, .unset, .unset, .unset, .unset, .unset, .unset] [(.ref b69)])) _
        refine XS.astore X76.here hx rfl (hb hby at_35) rfl rfl (l' := #[.val (.long p0s), .second, .val (.long p1s), .second, .val (.long b), .second, .val (.ref b61), .val (.ref b69), .unset, .unset, .unset, .unset, .unset, .unset]) rfl ?_
        show Steps p.tables e below (T76.setTop (mkF m 37 #[.val (.long p0s), .second, .val (.long p1s), .second, .val (.long b), .second, .val (.ref b61), .val (.ref b69), .unset, .unset, .unset, .unset, .unset, .unset] [])) _
        refine XS.aload X76.here hx rfl (hb hby at_37) rfl rfl ?_
        show Steps p.tables e below (T76.setTop (mkF m 39 #[.val (.long p0s), .second, .val (.long p1s), .second, .val (.long b), .second, .val (.ref b61), .val (.ref b69), .unset, .unset, .unset, .unset, .unset, .unset] [(.ref b61)])) _
        refine XS.lload X76.here hx rfl (hb hby at_39) rfl ?_
        exact kg_
      obtain ⟨cq82, kq82, q82a, q82b, q82c⟩ := isOf hZ e76 F77
      obtain ⟨_, _, ⟨T82, L82, k82, n82⟩, -, X82, ⟨Lc82, hQ82, l82, y82, z82⟩, st82⟩ := X76.virtualBack hx (y := (⟨"com/example/sharp_bound/sharpbound/SeededRandom", "below", "(J)J"⟩ : MethodName)) (z := (⟨"com/example/sharp_bound/sharpbound/SeededRandom", "below", "(J)J"⟩ : MethodName)) hown (mvT hZ (hw _ (List.mem_of_getElem? (i := 12) rfl))) (mvT hZ (hw _ (List.mem_of_getElem? (i := 13) rfl))) (notFace_of_selects (args := #[]) (mvT hZ (hw _ (List.mem_of_getElem? (i := 15) rfl)))) (mvT hZ (hw _ (List.mem_of_getElem? (i := 15) rfl))) (mvT hZ (hw _ (List.mem_of_getElem? (i := 14) rfl))) (by decide) (backOf (W := 0) (rm3 l Z a0 hw [] b61 b (p0s) h76 n0 Zs80 F77 F78 ge61 hbp) hZ (hw _ (List.mem_of_getElem? (i := 16) rfl)) (hw _ (List.mem_of_getElem? (i := 3) rfl)) (by decide) (by decide)) q82a q82c (g := (mkF m 41 #[.val (.long p0s), .second, .val (.long p1s), .second, .val (.long b), .second, .val (.ref b61), .val (.ref b69), .unset, .unset, .unset, .unset, .unset, .unset] [(.long b), (.ref b61)])) rfl (by rw [hml]; rfl) (Steps.refl _) (argsL := [(.long b)]) (rest := []) (lenOf pd_2 rfl) rfl (by show 2 * 0 + _ ≤ _; exact Nat.le_of_eq rfl) (hb hby at_41) (fun _ _ => ⟨rfl, e76, (by decide : 2 + 0 ≤ _), (by decide : 2 + 0 ≤ _)⟩)
      dsimp only [Pt.U, Pt.locs, Pt.cells, Pt.slots] at X82 l82 y82 z82 st82 hQ82
      subst l82 y82 z82
      obtain ⟨k_82, sv_82, rfl, N82q, I82_0, I82_1, I82_2, I82_3, I82_4, I82_5, I82_6⟩ := hQ82
      have N82 := Fr.app N76 N82q
      obtain ⟨h82, e82⟩ : ∃ z, T82.heap = z := ⟨_, rfl⟩
      rw [e82] at I82_0 I82_1 I82_2
      have F83 : Exa Z h82 b69 "com/example/sharp_bound/sharpbound/SeededRandom" := I76_1.keep I82_0
      have F84 : Fld Z h82 b69 "com/example/sharp_bound/sharpbound/SeededRandom" "state" "J" (.long p0s) := I76_2.keep I82_0 (ninS (Ne.symm ne70) nin0)
      have K85 : Keep h0 h82 [] := K79.trans I82_0 (allS (Or.inr old61) all0)
      have Zs86 : n0 ≤ h82.size := Nat.le_trans Zs80 I82_0.1
      have r82 : own_R p.tables e below F0 (T82.setTop (mkF m 44 #[.val (.long p0s), .second, .val (.long p1s), .second, .val (.long b), .second, .val (.ref b61), .val (.ref b69), .unset, .unset, .unset, .unset, .unset, .unset] [(.long ((own_dr p0s k_82) % b))])) := fun tg_ kg_ => r81 tg_ (st82.trans kg_)
      have r87 : own_R p.tables e below F0 (T82.setTop (mkF m 48 #[.val (.long p0s), .second, .val (.long p1s), .second, .val (.long b), .second, .val (.ref b61), .val (.ref b69), .val (.long ((own_dr p0s k_82) % b)), .second, .unset, .unset, .unset, .unset] [(.ref b69)])) := fun tg_ kg_ => by
        refine r82 tg_ ?_
        show Steps p.tables e below (T82.setTop (mkF m 44 #[.val (.long p0s), .second, .val (.long p1s), .second, .val (.long b), .second, .val (.ref b61), .val (.ref b69), .unset, .unset, .unset, .unset, .unset, .unset] [(.long ((own_dr p0s k_82) % b))])) _
        refine XS.lstore X82.here hx rfl (hb hby at_44) rfl (l' := #[.val (.long p0s), .second, .val (.long p1s), .second, .val (.long b), .second, .val (.ref b61), .val (.ref b69), .val (.long ((own_dr p0s k_82) % b)), .second, .unset, .unset, .unset, .unset]) rfl ?_
        show Steps p.tables e below (T82.setTop (mkF m 46 #[.val (.long p0s), .second, .val (.long p1s), .second, .val (.long b), .second, .val (.ref b61), .val (.ref b69), .val (.long ((own_dr p0s k_82) % b)), .second, .unset, .unset, .unset, .unset] [])) _
        refine XS.aload X82.here hx rfl (hb hby at_46) rfl rfl ?_
        exact kg_
      obtain ⟨cq88, kq88, q88a, q88b, q88c⟩ := isOf hZ e82 F83
      obtain ⟨_, _, ⟨T88, L88, k88, n88⟩, -, X88, ⟨Lc88, hQ88, l88, y88, z88⟩, st88⟩ := X82.virtualBack hx (y := (⟨"com/example/sharp_bound/sharpbound/SeededRandom", "nextLong", "()J"⟩ : MethodName)) (z := (⟨"com/example/sharp_bound/sharpbound/SeededRandom", "nextLong", "()J"⟩ : MethodName)) hown (mvT hZ (hw _ (List.mem_of_getElem? (i := 26) rfl))) (mvT hZ (hw _ (List.mem_of_getElem? (i := 19) rfl))) (notFace_of_selects (args := #[]) (mvT hZ (hw _ (List.mem_of_getElem? (i := 21) rfl)))) (mvT hZ (hw _ (List.mem_of_getElem? (i := 21) rfl))) (mvT hZ (hw _ (List.mem_of_getElem? (i := 20) rfl))) (by decide) (backOf (W := 0) (rm4 l Z a0 hw [] b69 (p0s) h82 n0 Zs86 F83 F84 ge69) hZ (hw _ (List.mem_of_getElem? (i := 22) rfl)) (hw _ (List.mem_of_getElem? (i := 3) rfl)) (by decide) (by decide)) q88a q88c (g := (mkF m 48 #[.val (.long p0s), .second, .val (.long p1s), .second, .val (.long b), .second, .val (.ref b61), .val (.ref b69), .val (.long ((own_dr p0s k_82) % b)), .second, .unset, .unset, .unset, .unset] [(.ref b69)])) rfl (by rw [hml]; rfl) (Steps.refl _) (argsL := []) (rest := []) (lenOf pd_0 rfl) rfl (by show 2 * 0 + _ ≤ _; exact Nat.le_of_eq rfl) (hb hby at_48) (fun _ _ => ⟨rfl, e82, (by decide : 2 + 0 ≤ _), (by decide : 2 + 0 ≤ _)⟩)
      dsimp only [Pt.U, Pt.locs, Pt.cells, Pt.slots] at X88 l88 y88 z88 st88 hQ88
      subst l88 y88 z88
      obtain ⟨rfl, N88q, I88_0, I88_1, I88_2⟩ := hQ88
      have N88 := Fr.app N82 N88q
      obtain ⟨h88, e88⟩ : ∃ z, T88.heap = z := ⟨_, rfl⟩
      rw [e88] at I88_0 I88_1 I88_2
      have F89 : Exa Z h88 b61 "com/example/sharp_bound/sharpbound/SeededRandom" := I82_1.keep I88_0
      have F90 : Fld Z h88 b61 "com/example/sharp_bound/sharpbound/SeededRandom" "state" "J" (.long sv_82) := I82_2.keep I88_0 (ninS ne70 nin0)
      have K91 : Keep h0 h88 [] := K85.trans I88_0 (allS (Or.inr old69) all0)
      have Zs92 : n0 ≤ h88.size := Nat.le_trans Zs86 I88_0.1
      have r88 : own_R p.tables e below F0 (T88.setTop (mkF m 51 #[.val (.long p0s), .second, .val (.long p1s), .second, .val (.long b), .second, .val (.ref b61), .val (.ref b69), .val (.long ((own_dr p0s k_82) % b)), .second, .unset, .unset, .unset, .unset] [(.long (own_mix (p0s + (-7046029254386353131 : Int64))))])) := fun tg_ kg_ => r87 tg_ (st88.trans kg_)
      have r93 : own_R p.tables e below F0 (T88.setTop (mkF m 59 #[.val (.long p0s), .second, .val (.long p1s), .second, .val (.long b), .second, .val (.ref b61), .val (.ref b69), .val (.long ((own_dr p0s k_82) % b)), .second, .val (.long (((own_mix (p0s + (-7046029254386353131 : Int64))).toUInt64 >>> ((1 : Int32) &&& 0x3f).toInt64.toUInt64).toInt64)), .second, .unset, .unset] [(.long b), (.long (((own_mix (p0s + (-7046029254386353131 : Int64))).toUInt64 >>> ((1 : Int32) &&& 0x3f).toInt64.toUInt64).toInt64))])) := fun tg_ kg_ => by
        refine r88 tg_ ?_
        show Steps p.tables e below (T88.setTop (mkF m 51 #[.val (.long p0s), .second, .val (.long p1s), .second, .val (.long b), .second, .val (.ref b61), .val (.ref b69), .val (.long ((own_dr p0s k_82) % b)), .second, .unset, .unset, .unset, .unset] [(.long (own_mix (p0s + (-7046029254386353131 : Int64))))])) _
        refine XS.iconst X88.here hx rfl (hb hby at_51) ?_
        show Steps p.tables e below (T88.setTop (mkF m 52 #[.val (.long p0s), .second, .val (.long p1s), .second, .val (.long b), .second, .val (.ref b61), .val (.ref b69), .val (.long ((own_dr p0s k_82) % b)), .second, .unset, .unset, .unset, .unset] [(.int (1 : Int32)), (.long (own_mix (p0s + (-7046029254386353131 : Int64))))])) _
        refine XS.lushr X88.here hx rfl (hb hby at_52) rfl ?_
        show Steps p.tables e below (T88.setTop (mkF m 53 #[.val (.long p0s), .second, .val (.long p1s), .second, .val (.long b), .second, .val (.ref b61), .val (.ref b69), .val (.long ((own_dr p0s k_82) % b)), .second, .unset, .unset, .unset, .unset] [(.long (((own_mix (p0s + (-7046029254386353131 : Int64))).toUInt64 >>> ((1 : Int32) &&& 0x3f).toInt64.toUInt64).toInt64))])) _
        refine XS.lstore X88.here hx rfl (hb hby at_53) rfl (l' := #[.val (.long p0s), .second, .val (.long p1s), .second, .val (.long b), .second, .val (.ref b61), .val (.ref b69), .val (.long ((own_dr p0s k_82) % b)), .second, .val (.long (((own_mix (p0s + (-7046029254386353131 : Int64))).toUInt64 >>> ((1 : Int32) &&& 0x3f).toInt64.toUInt64).toInt64)), .second, .unset, .unset]) rfl ?_
        show Steps p.tables e below (T88.setTop (mkF m 55 #[.val (.long p0s), .second, .val (.long p1s), .second, .val (.long b), .second, .val (.ref b61), .val (.ref b69), .val (.long ((own_dr p0s k_82) % b)), .second, .val (.long (((own_mix (p0s + (-7046029254386353131 : Int64))).toUInt64 >>> ((1 : Int32) &&& 0x3f).toInt64.toUInt64).toInt64)), .second, .unset, .unset] [])) _
        refine XS.lload X88.here hx rfl (hb hby at_55) rfl ?_
        show Steps p.tables e below (T88.setTop (mkF m 57 #[.val (.long p0s), .second, .val (.long p1s), .second, .val (.long b), .second, .val (.ref b61), .val (.ref b69), .val (.long ((own_dr p0s k_82) % b)), .second, .val (.long (((own_mix (p0s + (-7046029254386353131 : Int64))).toUInt64 >>> ((1 : Int32) &&& 0x3f).toInt64.toUInt64).toInt64)), .second, .unset, .unset] [(.long (((own_mix (p0s + (-7046029254386353131 : Int64))).toUInt64 >>> ((1 : Int32) &&& 0x3f).toInt64.toUInt64).toInt64))])) _
        refine XS.lload X88.here hx rfl (hb hby at_57) rfl ?_
        exact kg_
      obtain ⟨_, _, ⟨T94, L94, k94, n94⟩, -, X94, ⟨Lc94, hQ94, l94, y94, z94⟩, st94⟩ := Jvm.LawKit.callS X88 hx (y := (⟨"com/example/sharp_bound/sharpbound/SeededRandomBelowPinLaw", "complete", "(JJ)Z"⟩ : MethodName)) hown (mvT hZ (hw _ (List.mem_of_getElem? (i := 27) rfl))) (mvT hZ (hw _ (List.mem_of_getElem? (i := 28) rfl))) (mvT hZ (hw _ (List.mem_of_getElem? (i := 29) rfl))) (mvT hZ (hw _ (List.mem_of_getElem? (i := 30) rfl))) (by decide) (backOf (W := 0) (rm5 l Z a0 hw [] (((own_mix (p0s + (-7046029254386353131 : Int64))).toUInt64 >>> ((1 : Int32) &&& 0x3f).toInt64.toUInt64).toInt64) b h88 n0 Zs92 hbp) hZ (hw _ (List.mem_of_getElem? (i := 30) rfl)) (hw _ (List.mem_of_getElem? (i := 29) rfl)) (by decide) (by decide)) (g := (mkF m 59 #[.val (.long p0s), .second, .val (.long p1s), .second, .val (.long b), .second, .val (.ref b61), .val (.ref b69), .val (.long ((own_dr p0s k_82) % b)), .second, .val (.long (((own_mix (p0s + (-7046029254386353131 : Int64))).toUInt64 >>> ((1 : Int32) &&& 0x3f).toInt64.toUInt64).toInt64)), .second, .unset, .unset] [(.long b), (.long (((own_mix (p0s + (-7046029254386353131 : Int64))).toUInt64 >>> ((1 : Int32) &&& 0x3f).toInt64.toUInt64).toInt64))])) rfl (by rw [hml]; rfl) (argsL := [(.long (((own_mix (p0s + (-7046029254386353131 : Int64))).toUInt64 >>> ((1 : Int32) &&& 0x3f).toInt64.toUInt64).toInt64)), (.long b)]) (rest := []) (lenOf pd_3 rfl) rfl (by show 2 * 0 + _ ≤ _; exact Nat.le_of_eq rfl) (hb hby at_59) (fun _ _ => ⟨rfl, e88, (by decide : 2 + 0 ≤ _), (by decide : 2 + 0 ≤ _)⟩)
      dsimp only [Pt.U, Pt.locs, Pt.cells, Pt.slots] at X94 l94 y94 z94 st94 hQ94
      subst l94 y94 z94
      obtain ⟨rfl, N94q, I94_0⟩ := hQ94
      have N94 := Fr.app N88 N94q
      have r94 : own_R p.tables e below F0 (T94.setTop (mkF m 62 #[.val (.long p0s), .second, .val (.long p1s), .second, .val (.long b), .second, .val (.ref b61), .val (.ref b69), .val (.long ((own_dr p0s k_82) % b)), .second, .val (.long (((own_mix (p0s + (-7046029254386353131 : Int64))).toUInt64 >>> ((1 : Int32) &&& 0x3f).toInt64.toUInt64).toInt64)), .second, .unset, .unset] [(.int (own_compl (((own_mix (p0s + (-7046029254386353131 : Int64))).toUInt64 >>> ((1 : Int32) &&& 0x3f).toInt64.toUInt64).toInt64) b))])) := fun tg_ kg_ => r93 tg_ (st94 tg_ kg_)
      by_cases hc95 : ((9223372036854775807 : Int64) - (b - (1 : Int64))) < (((((own_mix (p0s + (-7046029254386353131 : Int64))).toUInt64 >>> ((1 : Int32) &&& 0x3f).toInt64.toUInt64).toInt64) / b) * b)
      · have ev96 : (own_compl (((own_mix (p0s + (-7046029254386353131 : Int64))).toUInt64 >>> ((1 : Int32) &&& 0x3f).toInt64.toUInt64).toInt64) b) = (0 : Int32) := by unfold own_compl; rw [if_pos hc95]
        have r97 : own_R p.tables e below F0 (T94.setTop (mkF m 62 #[.val (.long p0s), .second, .val (.long p1s), .second, .val (.long b), .second, .val (.ref b61), .val (.ref b69), .val (.long ((own_dr p0s k_82) % b)), .second, .val (.long (((own_mix (p0s + (-7046029254386353131 : Int64))).toUInt64 >>> ((1 : Int32) &&& 0x3f).toInt64.toUInt64).toInt64)), .second, .unset, .unset] [(.int (0 : Int32))])) := by have q := r94; rw [ev96] at q; exact q
        have r98 : own_R p.tables e below F0 (T94.setTop (mkF m 98 #[.val (.long p0s), .second, .val (.long p1s), .second, .val (.long b), .second, .val (.ref b61), .val (.ref b69), .val (.long ((own_dr p0s k_82) % b)), .second, .val (.long (((own_mix (p0s + (-7046029254386353131 : Int64))).toUInt64 >>> ((1 : Int32) &&& 0x3f).toInt64.toUInt64).toInt64)), .second, .unset, .unset] [(.ref b69)])) := fun tg_ kg_ => by
          refine r97 tg_ ?_
          show Steps p.tables e below (T94.setTop (mkF m 62 #[.val (.long p0s), .second, .val (.long p1s), .second, .val (.long b), .second, .val (.ref b61), .val (.ref b69), .val (.long ((own_dr p0s k_82) % b)), .second, .val (.long (((own_mix (p0s + (-7046029254386353131 : Int64))).toUInt64 >>> ((1 : Int32) &&& 0x3f).toInt64.toUInt64).toInt64)), .second, .unset, .unset] [(.int (0 : Int32))])) _
          refine XS.ifYes X94.here hx rfl (pc0 := 62) (pc' := 96) rfl (hb hby at_62) rfl ((if0 _ _).trans (teq (show (0 : Int32) = (0 : Int32) from by decide)).1) (by decide) (by decide) ?_
          show Steps p.tables e below (T94.setTop (mkF m 96 #[.val (.long p0s), .second, .val (.long p1s), .second, .val (.long b), .second, .val (.ref b61), .val (.ref b69), .val (.long ((own_dr p0s k_82) % b)), .second, .val (.long (((own_mix (p0s + (-7046029254386353131 : Int64))).toUInt64 >>> ((1 : Int32) &&& 0x3f).toInt64.toUInt64).toInt64)), .second, .unset, .unset] [])) _
          refine XS.aload X94.here hx rfl (hb hby at_96) rfl rfl ?_
          exact kg_
        obtain ⟨cq99, kq99, q99a, q99b, q99c⟩ := isOf hZ I94_0 I88_1
        obtain ⟨_, _, ⟨T99, L99, k99, n99⟩, -, X99, ⟨Lc99, hQ99, l99, y99, z99⟩, st99⟩ := X94.virtualBack hx (y := (⟨"com/example/sharp_bound/sharpbound/SeededRandom", "nextLong", "()J"⟩ : MethodName)) (z := (⟨"com/example/sharp_bound/sharpbound/SeededRandom", "nextLong", "()J"⟩ : MethodName)) hown (mvT hZ (hw _ (List.mem_of_getElem? (i := 26) rfl))) (mvT hZ (hw _ (List.mem_of_getElem? (i := 19) rfl))) (notFace_of_selects (args := #[]) (mvT hZ (hw _ (List.mem_of_getElem? (i := 21) rfl)))) (mvT hZ (hw _ (List.mem_of_getElem? (i := 21) rfl))) (mvT hZ (hw _ (List.mem_of_getElem? (i := 20) rfl))) (by decide) (backOf (W := 0) (rm4 l Z a0 hw [] b69 ((p0s + (-7046029254386353131 : Int64))) h88 n0 Zs92 I88_1 I88_2 ge69) hZ (hw _ (List.mem_of_getElem? (i := 22) rfl)) (hw _ (List.mem_of_getElem? (i := 3) rfl)) (by decide) (by decide)) q99a q99c (g := (mkF m 98 #[.val (.long p0s), .second, .val (.long p1s), .second, .val (.long b), .second, .val (.ref b61), .val (.ref b69), .val (.long ((own_dr p0s k_82) % b)), .second, .val (.long (((own_mix (p0s + (-7046029254386353131 : Int64))).toUInt64 >>> ((1 : Int32) &&& 0x3f).toInt64.toUInt64).toInt64)), .second, .unset, .unset] [(.ref b69)])) rfl (by rw [hml]; rfl) (Steps.refl _) (argsL := []) (rest := []) (lenOf pd_0 rfl) rfl (by show 2 * 0 + _ ≤ _; exact Nat.le_of_eq rfl) (hb hby at_98) (fun _ _ => ⟨rfl, I94_0, (by decide : 2 + 0 ≤ _), (by decide : 2 + 0 ≤ _)⟩)
        dsimp only [Pt.U, Pt.locs, Pt.cells, Pt.slots] at X99 l99 y99 z99 st99 hQ99
        subst l99 y99 z99
        obtain ⟨rfl, N99q, I99_0, I99_1, I99_2⟩ := hQ99
        have N99 := Fr.app N94 N99q
        obtain ⟨h99, e99⟩ : ∃ z, T99.heap = z := ⟨_, rfl⟩
        rw [e99] at I99_0 I99_1 I99_2
        have F100 : Exa Z h99 b61 "com/example/sharp_bound/sharpbound/SeededRandom" := F89.keep I99_0
        have F101 : Fld Z h99 b61 "com/example/sharp_bound/sharpbound/SeededRandom" "state" "J" (.long sv_82) := F90.keep I99_0 (ninS ne70 nin0)
        have K102 : Keep h0 h99 [] := K91.trans I99_0 (allS (Or.inr old69) all0)
        have Zs103 : n0 ≤ h99.size := Nat.le_trans Zs92 I99_0.1
        have r99 : own_R p.tables e below F0 (T99.setTop (mkF m 101 #[.val (.long p0s), .second, .val (.long p1s), .second, .val (.long b), .second, .val (.ref b61), .val (.ref b69), .val (.long ((own_dr p0s k_82) % b)), .second, .val (.long (((own_mix (p0s + (-7046029254386353131 : Int64))).toUInt64 >>> ((1 : Int32) &&& 0x3f).toInt64.toUInt64).toInt64)), .second, .unset, .unset] [(.long (own_mix ((p0s + (-7046029254386353131 : Int64)) + (-7046029254386353131 : Int64))))])) := fun tg_ kg_ => r98 tg_ (st99.trans kg_)
        have r104 : own_R p.tables e below F0 (T99.setTop (mkF m 109 #[.val (.long p0s), .second, .val (.long p1s), .second, .val (.long b), .second, .val (.ref b61), .val (.ref b69), .val (.long ((own_dr p0s k_82) % b)), .second, .val (.long (((own_mix (p0s + (-7046029254386353131 : Int64))).toUInt64 >>> ((1 : Int32) &&& 0x3f).toInt64.toUInt64).toInt64)), .second, .val (.long (((own_mix ((p0s + (-7046029254386353131 : Int64)) + (-7046029254386353131 : Int64))).toUInt64 >>> ((1 : Int32) &&& 0x3f).toInt64.toUInt64).toInt64)), .second] [(.long b), (.long (((own_mix ((p0s + (-7046029254386353131 : Int64)) + (-7046029254386353131 : Int64))).toUInt64 >>> ((1 : Int32) &&& 0x3f).toInt64.toUInt64).toInt64))])) := fun tg_ kg_ => by
          refine r99 tg_ ?_
          show Steps p.tables e below (T99.setTop (mkF m 101 #[.val (.long p0s), .second, .val (.long p1s), .second, .val (.long b), .second, .val (.ref b61), .val (.ref b69), .val (.long ((own_dr p0s k_82) % b)), .second, .val (.long (((own_mix (p0s + (-7046029254386353131 : Int64))).toUInt64 >>> ((1 : Int32) &&& 0x3f).toInt64.toUInt64).toInt64)), .second, .unset, .unset] [(.long (own_mix ((p0s + (-7046029254386353131 : Int64)) + (-7046029254386353131 : Int64))))])) _
          refine XS.iconst X99.here hx rfl (hb hby at_101) ?_
          show Steps p.tables e below (T99.setTop (mkF m 102 #[.val (.long p0s), .second, .val (.long p1s), .second, .val (.long b), .second, .val (.ref b61), .val (.ref b69), .val (.long ((own_dr p0s k_82) % b)), .second, .val (.long (((own_mix (p0s + (-7046029254386353131 : Int64))).toUInt64 >>> ((1 : Int32) &&& 0x3f).toInt64.toUInt64).toInt64)), .second, .unset, .unset] [(.int (1 : Int32)), (.long (own_mix ((p0s + (-7046029254386353131 : Int64)) + (-7046029254386353131 : Int64))))])) _
          refine XS.lushr X99.here hx rfl (hb hby at_102) rfl ?_
          show Steps p.tables e below (T99.setTop (mkF m 103 #[.val (.long p0s), .second, .val (.long p1s), .second, .val (.long b), .second, .val (.ref b61), .val (.ref b69), .val (.long ((own_dr p0s k_82) % b)), .second, .val (.long (((own_mix (p0s + (-7046029254386353131 : Int64))).toUInt64 >>> ((1 : Int32) &&& 0x3f).toInt64.toUInt64).toInt64)), .second, .unset, .unset] [(.long (((own_mix ((p0s + (-7046029254386353131 : Int64)) + (-7046029254386353131 : Int64))).toUInt64 >>> ((1 : Int32) &&& 0x3f).toInt64.toUInt64).toInt64))])) _
          refine XS.lstore X99.here hx rfl (hb hby at_103) rfl (l' := #[.val (.long p0s), .second, .val (.long p1s), .second, .val (.long b), .second, .val (.ref b61), .val (.ref b69), .val (.long ((own_dr p0s k_82) % b)), .second, .val (.long (((own_mix (p0s + (-7046029254386353131 : Int64))).toUInt64 >>> ((1 : Int32) &&& 0x3f).toInt64.toUInt64).toInt64)), .second, .val (.long (((own_mix ((p0s + (-7046029254386353131 : Int64)) + (-7046029254386353131 : Int64))).toUInt64 >>> ((1 : Int32) &&& 0x3f).toInt64.toUInt64).toInt64)), .second]) rfl ?_
          show Steps p.tables e below (T99.setTop (mkF m 105 #[.val (.long p0s), .second, .val (.long p1s), .second, .val (.long b), .second, .val (.ref b61), .val (.ref b69), .val (.long ((own_dr p0s k_82) % b)), .second, .val (.long (((own_mix (p0s + (-7046029254386353131 : Int64))).toUInt64 >>> ((1 : Int32) &&& 0x3f).toInt64.toUInt64).toInt64)), .second, .val (.long (((own_mix ((p0s + (-7046029254386353131 : Int64)) + (-7046029254386353131 : Int64))).toUInt64 >>> ((1 : Int32) &&& 0x3f).toInt64.toUInt64).toInt64)), .second] [])) _
          refine XS.lload X99.here hx rfl (hb hby at_105) rfl ?_
          show Steps p.tables e below (T99.setTop (mkF m 107 #[.val (.long p0s), .second, .val (.long p1s), .second, .val (.long b), .second, .val (.ref b61), .val (.ref b69), .val (.long ((own_dr p0s k_82) % b)), .second, .val (.long (((own_mix (p0s + (-7046029254386353131 : Int64))).toUInt64 >>> ((1 : Int32) &&& 0x3f).toInt64.toUInt64).toInt64)), .second, .val (.long (((own_mix ((p0s + (-7046029254386353131 : Int64)) + (-7046029254386353131 : Int64))).toUInt64 >>> ((1 : Int32) &&& 0x3f).toInt64.toUInt64).toInt64)), .second] [(.long (((own_mix ((p0s + (-7046029254386353131 : Int64)) + (-7046029254386353131 : Int64))).toUInt64 >>> ((1 : Int32) &&& 0x3f).toInt64.toUInt64).toInt64))])) _
          refine XS.lload X99.here hx rfl (hb hby at_107) rfl ?_
          exact kg_
        obtain ⟨_, _, ⟨T105, L105, k105, n105⟩, -, X105, ⟨Lc105, hQ105, l105, y105, z105⟩, st105⟩ := Jvm.LawKit.callS X99 hx (y := (⟨"com/example/sharp_bound/sharpbound/SeededRandomBelowPinLaw", "complete", "(JJ)Z"⟩ : MethodName)) hown (mvT hZ (hw _ (List.mem_of_getElem? (i := 27) rfl))) (mvT hZ (hw _ (List.mem_of_getElem? (i := 28) rfl))) (mvT hZ (hw _ (List.mem_of_getElem? (i := 29) rfl))) (mvT hZ (hw _ (List.mem_of_getElem? (i := 30) rfl))) (by decide) (backOf (W := 0) (rm5 l Z a0 hw [] (((own_mix ((p0s + (-7046029254386353131 : Int64)) + (-7046029254386353131 : Int64))).toUInt64 >>> ((1 : Int32) &&& 0x3f).toInt64.toUInt64).toInt64) b h99 n0 Zs103 hbp) hZ (hw _ (List.mem_of_getElem? (i := 30) rfl)) (hw _ (List.mem_of_getElem? (i := 29) rfl)) (by decide) (by decide)) (g := (mkF m 109 #[.val (.long p0s), .second, .val (.long p1s), .second, .val (.long b), .second, .val (.ref b61), .val (.ref b69), .val (.long ((own_dr p0s k_82) % b)), .second, .val (.long (((own_mix (p0s + (-7046029254386353131 : Int64))).toUInt64 >>> ((1 : Int32) &&& 0x3f).toInt64.toUInt64).toInt64)), .second, .val (.long (((own_mix ((p0s + (-7046029254386353131 : Int64)) + (-7046029254386353131 : Int64))).toUInt64 >>> ((1 : Int32) &&& 0x3f).toInt64.toUInt64).toInt64)), .second] [(.long b), (.long (((own_mix ((p0s + (-7046029254386353131 : Int64)) + (-7046029254386353131 : Int64))).toUInt64 >>> ((1 : Int32) &&& 0x3f).toInt64.toUInt64).toInt64))])) rfl (by rw [hml]; rfl) (argsL := [(.long (((own_mix ((p0s + (-7046029254386353131 : Int64)) + (-7046029254386353131 : Int64))).toUInt64 >>> ((1 : Int32) &&& 0x3f).toInt64.toUInt64).toInt64)), (.long b)]) (rest := []) (lenOf pd_3 rfl) rfl (by show 2 * 0 + _ ≤ _; exact Nat.le_of_eq rfl) (hb hby at_109) (fun _ _ => ⟨rfl, e99, (by decide : 2 + 0 ≤ _), (by decide : 2 + 0 ≤ _)⟩)
        dsimp only [Pt.U, Pt.locs, Pt.cells, Pt.slots] at X105 l105 y105 z105 st105 hQ105
        subst l105 y105 z105
        obtain ⟨rfl, N105q, I105_0⟩ := hQ105
        have N105 := Fr.app N99 N105q
        have r105 : own_R p.tables e below F0 (T105.setTop (mkF m 112 #[.val (.long p0s), .second, .val (.long p1s), .second, .val (.long b), .second, .val (.ref b61), .val (.ref b69), .val (.long ((own_dr p0s k_82) % b)), .second, .val (.long (((own_mix (p0s + (-7046029254386353131 : Int64))).toUInt64 >>> ((1 : Int32) &&& 0x3f).toInt64.toUInt64).toInt64)), .second, .val (.long (((own_mix ((p0s + (-7046029254386353131 : Int64)) + (-7046029254386353131 : Int64))).toUInt64 >>> ((1 : Int32) &&& 0x3f).toInt64.toUInt64).toInt64)), .second] [(.int (own_compl (((own_mix ((p0s + (-7046029254386353131 : Int64)) + (-7046029254386353131 : Int64))).toUInt64 >>> ((1 : Int32) &&& 0x3f).toInt64.toUInt64).toInt64) b))])) := fun tg_ kg_ => r104 tg_ (st105 tg_ kg_)
        by_cases hc106 : ((9223372036854775807 : Int64) - (b - (1 : Int64))) < (((((own_mix ((p0s + (-7046029254386353131 : Int64)) + (-7046029254386353131 : Int64))).toUInt64 >>> ((1 : Int32) &&& 0x3f).toInt64.toUInt64).toInt64) / b) * b)
        · have ev107 : (own_compl (((own_mix ((p0s + (-7046029254386353131 : Int64)) + (-7046029254386353131 : Int64))).toUInt64 >>> ((1 : Int32) &&& 0x3f).toInt64.toUInt64).toInt64) b) = (0 : Int32) := by unfold own_compl; rw [if_pos hc106]
          have r108 : own_R p.tables e below F0 (T105.setTop (mkF m 112 #[.val (.long p0s), .second, .val (.long p1s), .second, .val (.long b), .second, .val (.ref b61), .val (.ref b69), .val (.long ((own_dr p0s k_82) % b)), .second, .val (.long (((own_mix (p0s + (-7046029254386353131 : Int64))).toUInt64 >>> ((1 : Int32) &&& 0x3f).toInt64.toUInt64).toInt64)), .second, .val (.long (((own_mix ((p0s + (-7046029254386353131 : Int64)) + (-7046029254386353131 : Int64))).toUInt64 >>> ((1 : Int32) &&& 0x3f).toInt64.toUInt64).toInt64)), .second] [(.int (0 : Int32))])) := by have q := r105; rw [ev107] at q; exact q
          have r110 : own_R p.tables e below F0 (T105.setTop (mkF m 150 #[.val (.long p0s), .second, .val (.long p1s), .second, .val (.long b), .second, .val (.ref b61), .val (.ref b69), .val (.long ((own_dr p0s k_82) % b)), .second, .val (.long (((own_mix (p0s + (-7046029254386353131 : Int64))).toUInt64 >>> ((1 : Int32) &&& 0x3f).toInt64.toUInt64).toInt64)), .second, .val (.long (((own_mix ((p0s + (-7046029254386353131 : Int64)) + (-7046029254386353131 : Int64))).toUInt64 >>> ((1 : Int32) &&& 0x3f).toInt64.toUInt64).toInt64)), .second] [(.int (lcmpW ((own_dr p0s k_82) % b) (0 : Int64)))])) := fun tg_ kg_ => by
            refine r108 tg_ ?_
            show Steps p.tables e below (T105.setTop (mkF m 112 #[.val (.long p0s), .second, .val (.long p1s), .second, .val (.long b), .second, .val (.ref b61), .val (.ref b69), .val (.long ((own_dr p0s k_82) % b)), .second, .val (.long (((own_mix (p0s + (-7046029254386353131 : Int64))).toUInt64 >>> ((1 : Int32) &&& 0x3f).toInt64.toUInt64).toInt64)), .second, .val (.long (((own_mix ((p0s + (-7046029254386353131 : Int64)) + (-7046029254386353131 : Int64))).toUInt64 >>> ((1 : Int32) &&& 0x3f).toInt64.toUInt64).toInt64)), .second] [(.int (0 : Int32))])) _
            refine XS.ifYes X105.here hx rfl (pc0 := 112) (pc' := 146) rfl (hb hby at_112) rfl ((if0 _ _).trans (teq (show (0 : Int32) = (0 : Int32) from by decide)).1) (by decide) (by decide) ?_
            show Steps p.tables e below (T105.setTop (mkF m 146 #[.val (.long p0s), .second, .val (.long p1s), .second, .val (.long b), .second, .val (.ref b61), .val (.ref b69), .val (.long ((own_dr p0s k_82) % b)), .second, .val (.long (((own_mix (p0s + (-7046029254386353131 : Int64))).toUInt64 >>> ((1 : Int32) &&& 0x3f).toInt64.toUInt64).toInt64)), .second, .val (.long (((own_mix ((p0s + (-7046029254386353131 : Int64)) + (-7046029254386353131 : Int64))).toUInt64 >>> ((1 : Int32) &&& 0x3f).toInt64.toUInt64).toInt64)), .second] [])) _
            refine XS.lload X105.here hx rfl (hb hby at_146) rfl ?_
            show Steps p.tables e below (T105.setTop (mkF m 148 #[.val (.long p0s), .second, .val (.long p1s), .second, .val (.long b), .second, .val (.ref b61), .val (.ref b69), .val (.long ((own_dr p0s k_82) % b)), .second, .val (.long (((own_mix (p0s + (-7046029254386353131 : Int64))).toUInt64 >>> ((1 : Int32) &&& 0x3f).toInt64.toUInt64).toInt64)), .second, .val (.long (((own_mix ((p0s + (-7046029254386353131 : Int64)) + (-7046029254386353131 : Int64))).toUInt64 >>> ((1 : Int32) &&& 0x3f).toInt64.toUInt64).toInt64)), .second] [(.long ((own_dr p0s k_82) % b))])) _
            refine XS.lconst X105.here hx rfl (hb hby at_148) ?_
            show Steps p.tables e below (T105.setTop (mkF m 149 #[.val (.long p0s), .second, .val (.long p1s), .second, .val (.long b), .second, .val (.ref b61), .val (.ref b69), .val (.long ((own_dr p0s k_82) % b)), .second, .val (.long (((own_mix (p0s + (-7046029254386353131 : Int64))).toUInt64 >>> ((1 : Int32) &&& 0x3f).toInt64.toUInt64).toInt64)), .second, .val (.long (((own_mix ((p0s + (-7046029254386353131 : Int64)) + (-7046029254386353131 : Int64))).toUInt64 >>> ((1 : Int32) &&& 0x3f).toInt64.toUInt64).toInt64)), .second] [(.long (0 : Int64)), (.long ((own_dr p0s k_82) % b))])) _
            refine XS.lcmp X105.here hx rfl (hb hby at_149) rfl ?_
            exact kg_
          have hc109 : ¬ (((own_dr p0s k_82) % b) < (0 : Int64)) := (own_modN (own_drI p0s k_82) hbp)
          have r112 : own_R p.tables e below F0 (T105.setTop (mkF m 158 #[.val (.long p0s), .second, .val (.long p1s), .second, .val (.long b), .second, .val (.ref b61), .val (.ref b69), .val (.long ((own_dr p0s k_82) % b)), .second, .val (.long (((own_mix (p0s + (-7046029254386353131 : Int64))).toUInt64 >>> ((1 : Int32) &&& 0x3f).toInt64.toUInt64).toInt64)), .second, .val (.long (((own_mix ((p0s + (-7046029254386353131 : Int64)) + (-7046029254386353131 : Int64))).toUInt64 >>> ((1 : Int32) &&& 0x3f).toInt64.toUInt64).toInt64)), .second] [(.int (lcmpW ((own_dr p0s k_82) % b) b))])) := fun tg_ kg_ => by
            refine r110 tg_ ?_
            show Steps p.tables e below (T105.setTop (mkF m 150 #[.val (.long p0s), .second, .val (.long p1s), .second, .val (.long b), .second, .val (.ref b61), .val (.ref b69), .val (.long ((own_dr p0s k_82) % b)), .second, .val (.long (((own_mix (p0s + (-7046029254386353131 : Int64))).toUInt64 >>> ((1 : Int32) &&& 0x3f).toInt64.toUInt64).toInt64)), .second, .val (.long (((own_mix ((p0s + (-7046029254386353131 : Int64)) + (-7046029254386353131 : Int64))).toUInt64 >>> ((1 : Int32) &&& 0x3f).toInt64.toUInt64).toInt64)), .second] [(.int (lcmpW ((own_dr p0s k_82) % b) (0 : Int64)))])) _
            refine XS.ifNo X105.here hx rfl (hb hby at_150) rfl (own_l_nlt hc109).1 ?_
            show Steps p.tables e below (T105.setTop (mkF m 153 #[.val (.long p0s), .second, .val (.long p1s), .second, .val (.long b), .second, .val (.ref b61), .val (.ref b69), .val (.long ((own_dr p0s k_82) % b)), .second, .val (.long (((own_mix (p0s + (-7046029254386353131 : Int64))).toUInt64 >>> ((1 : Int32) &&& 0x3f).toInt64.toUInt64).toInt64)), .second, .val (.long (((own_mix ((p0s + (-7046029254386353131 : Int64)) + (-7046029254386353131 : Int64))).toUInt64 >>> ((1 : Int32) &&& 0x3f).toInt64.toUInt64).toInt64)), .second] [])) _
            refine XS.lload X105.here hx rfl (hb hby at_153) rfl ?_
            show Steps p.tables e below (T105.setTop (mkF m 155 #[.val (.long p0s), .second, .val (.long p1s), .second, .val (.long b), .second, .val (.ref b61), .val (.ref b69), .val (.long ((own_dr p0s k_82) % b)), .second, .val (.long (((own_mix (p0s + (-7046029254386353131 : Int64))).toUInt64 >>> ((1 : Int32) &&& 0x3f).toInt64.toUInt64).toInt64)), .second, .val (.long (((own_mix ((p0s + (-7046029254386353131 : Int64)) + (-7046029254386353131 : Int64))).toUInt64 >>> ((1 : Int32) &&& 0x3f).toInt64.toUInt64).toInt64)), .second] [(.long ((own_dr p0s k_82) % b))])) _
            refine XS.lload X105.here hx rfl (hb hby at_155) rfl ?_
            show Steps p.tables e below (T105.setTop (mkF m 157 #[.val (.long p0s), .second, .val (.long p1s), .second, .val (.long b), .second, .val (.ref b61), .val (.ref b69), .val (.long ((own_dr p0s k_82) % b)), .second, .val (.long (((own_mix (p0s + (-7046029254386353131 : Int64))).toUInt64 >>> ((1 : Int32) &&& 0x3f).toInt64.toUInt64).toInt64)), .second, .val (.long (((own_mix ((p0s + (-7046029254386353131 : Int64)) + (-7046029254386353131 : Int64))).toUInt64 >>> ((1 : Int32) &&& 0x3f).toInt64.toUInt64).toInt64)), .second] [(.long b), (.long ((own_dr p0s k_82) % b))])) _
            refine XS.lcmp X105.here hx rfl (hb hby at_157) rfl ?_
            exact kg_
          have hc111 : ((own_dr p0s k_82) % b) < b := (Int64.lt_iff_toInt_lt.mpr (own_modI (own_drI p0s k_82) hbp).2)
          have r113 : own_R p.tables e below F0 (T105.setTop (mkF m 166 #[.val (.long p0s), .second, .val (.long p1s), .second, .val (.long b), .second, .val (.ref b61), .val (.ref b69), .val (.long ((own_dr p0s k_82) % b)), .second, .val (.long (((own_mix (p0s + (-7046029254386353131 : Int64))).toUInt64 >>> ((1 : Int32) &&& 0x3f).toInt64.toUInt64).toInt64)), .second, .val (.long (((own_mix ((p0s + (-7046029254386353131 : Int64)) + (-7046029254386353131 : Int64))).toUInt64 >>> ((1 : Int32) &&& 0x3f).toInt64.toUInt64).toInt64)), .second] [(.int (1 : Int32))])) := fun tg_ kg_ => by
            refine r112 tg_ ?_
            show Steps p.tables e below (T105.setTop (mkF m 158 #[.val (.long p0s), .second, .val (.long p1s), .second, .val (.long b), .second, .val (.ref b61), .val (.ref b69), .val (.long ((own_dr p0s k_82) % b)), .second, .val (.long (((own_mix (p0s + (-7046029254386353131 : Int64))).toUInt64 >>> ((1 : Int32) &&& 0x3f).toInt64.toUInt64).toInt64)), .second, .val (.long (((own_mix ((p0s + (-7046029254386353131 : Int64)) + (-7046029254386353131 : Int64))).toUInt64 >>> ((1 : Int32) &&& 0x3f).toInt64.toUInt64).toInt64)), .second] [(.int (lcmpW ((own_dr p0s k_82) % b) b))])) _
            refine XS.ifNo X105.here hx rfl (hb hby at_158) rfl (own_l_lt hc111).2 ?_
            show Steps p.tables e below (T105.setTop (mkF m 161 #[.val (.long p0s), .second, .val (.long p1s), .second, .val (.long b), .second, .val (.ref b61), .val (.ref b69), .val (.long ((own_dr p0s k_82) % b)), .second, .val (.long (((own_mix (p0s + (-7046029254386353131 : Int64))).toUInt64 >>> ((1 : Int32) &&& 0x3f).toInt64.toUInt64).toInt64)), .second, .val (.long (((own_mix ((p0s + (-7046029254386353131 : Int64)) + (-7046029254386353131 : Int64))).toUInt64 >>> ((1 : Int32) &&& 0x3f).toInt64.toUInt64).toInt64)), .second] [])) _
            refine XS.iconst X105.here hx rfl (hb hby at_161) ?_
            show Steps p.tables e below (T105.setTop (mkF m 162 #[.val (.long p0s), .second, .val (.long p1s), .second, .val (.long b), .second, .val (.ref b61), .val (.ref b69), .val (.long ((own_dr p0s k_82) % b)), .second, .val (.long (((own_mix (p0s + (-7046029254386353131 : Int64))).toUInt64 >>> ((1 : Int32) &&& 0x3f).toInt64.toUInt64).toInt64)), .second, .val (.long (((own_mix ((p0s + (-7046029254386353131 : Int64)) + (-7046029254386353131 : Int64))).toUInt64 >>> ((1 : Int32) &&& 0x3f).toInt64.toUInt64).toInt64)), .second] [(.int (1 : Int32))])) _
            refine XS.goto X105.here hx rfl (pc0 := 162) (pc' := 166) rfl (hb hby at_162) (by decide) (by decide) ?_
            exact kg_
          refine hG (own_fin X105 hlk (some (.int (nar .boolean (1 : Int32)))) (own_hv Bd.returns) ?_ (by decide) (by decide) (fun fs hr => r113 _ (retN X105 hx (t := .boolean) Bd.returns (by simp) (hb hby at_166) hr)))
          rw [I105_0]
          exact ⟨rfl, N105⟩
        · have ev114 : (own_compl (((own_mix ((p0s + (-7046029254386353131 : Int64)) + (-7046029254386353131 : Int64))).toUInt64 >>> ((1 : Int32) &&& 0x3f).toInt64.toUInt64).toInt64) b) = (1 : Int32) := by unfold own_compl; rw [if_neg hc106]
          have r115 : own_R p.tables e below F0 (T105.setTop (mkF m 112 #[.val (.long p0s), .second, .val (.long p1s), .second, .val (.long b), .second, .val (.ref b61), .val (.ref b69), .val (.long ((own_dr p0s k_82) % b)), .second, .val (.long (((own_mix (p0s + (-7046029254386353131 : Int64))).toUInt64 >>> ((1 : Int32) &&& 0x3f).toInt64.toUInt64).toInt64)), .second, .val (.long (((own_mix ((p0s + (-7046029254386353131 : Int64)) + (-7046029254386353131 : Int64))).toUInt64 >>> ((1 : Int32) &&& 0x3f).toInt64.toUInt64).toInt64)), .second] [(.int (1 : Int32))])) := by have q := r105; rw [ev114] at q; exact q
          have hk_ : k_82 = 2 := own_k2 I82_4 I82_5 I82_6 (by rw [own_dr1]; exact (own_comp (own_sh1N _) hbp).mp hc95) (by rw [own_dr2]; exact fun q => hc106 ((own_comp (own_sh1N _) hbp).mpr q))
          have r117 : own_R p.tables e below F0 (T105.setTop (mkF m 123 #[.val (.long p0s), .second, .val (.long p1s), .second, .val (.long b), .second, .val (.ref b61), .val (.ref b69), .val (.long ((own_dr p0s k_82) % b)), .second, .val (.long (((own_mix (p0s + (-7046029254386353131 : Int64))).toUInt64 >>> ((1 : Int32) &&& 0x3f).toInt64.toUInt64).toInt64)), .second, .val (.long (((own_mix ((p0s + (-7046029254386353131 : Int64)) + (-7046029254386353131 : Int64))).toUInt64 >>> ((1 : Int32) &&& 0x3f).toInt64.toUInt64).toInt64)), .second] [(.int (lcmpW ((own_dr p0s k_82) % b) ((((own_mix ((p0s + (-7046029254386353131 : Int64)) + (-7046029254386353131 : Int64))).toUInt64 >>> ((1 : Int32) &&& 0x3f).toInt64.toUInt64).toInt64) % b)))])) := fun tg_ kg_ => by
            refine r115 tg_ ?_
            show Steps p.tables e below (T105.setTop (mkF m 112 #[.val (.long p0s), .second, .val (.long p1s), .second, .val (.long b), .second, .val (.ref b61), .val (.ref b69), .val (.long ((own_dr p0s k_82) % b)), .second, .val (.long (((own_mix (p0s + (-7046029254386353131 : Int64))).toUInt64 >>> ((1 : Int32) &&& 0x3f).toInt64.toUInt64).toInt64)), .second, .val (.long (((own_mix ((p0s + (-7046029254386353131 : Int64)) + (-7046029254386353131 : Int64))).toUInt64 >>> ((1 : Int32) &&& 0x3f).toInt64.toUInt64).toInt64)), .second] [(.int (1 : Int32))])) _
            refine XS.ifNo X105.here hx rfl (hb hby at_112) rfl ((if0 _ _).trans (feq (show ¬ ((1 : Int32) = (0 : Int32)) from by decide)).1) ?_
            show Steps p.tables e below (T105.setTop (mkF m 115 #[.val (.long p0s), .second, .val (.long p1s), .second, .val (.long b), .second, .val (.ref b61), .val (.ref b69), .val (.long ((own_dr p0s k_82) % b)), .second, .val (.long (((own_mix (p0s + (-7046029254386353131 : Int64))).toUInt64 >>> ((1 : Int32) &&& 0x3f).toInt64.toUInt64).toInt64)), .second, .val (.long (((own_mix ((p0s + (-7046029254386353131 : Int64)) + (-7046029254386353131 : Int64))).toUInt64 >>> ((1 : Int32) &&& 0x3f).toInt64.toUInt64).toInt64)), .second] [])) _
            refine XS.lload X105.here hx rfl (hb hby at_115) rfl ?_
            show Steps p.tables e below (T105.setTop (mkF m 117 #[.val (.long p0s), .second, .val (.long p1s), .second, .val (.long b), .second, .val (.ref b61), .val (.ref b69), .val (.long ((own_dr p0s k_82) % b)), .second, .val (.long (((own_mix (p0s + (-7046029254386353131 : Int64))).toUInt64 >>> ((1 : Int32) &&& 0x3f).toInt64.toUInt64).toInt64)), .second, .val (.long (((own_mix ((p0s + (-7046029254386353131 : Int64)) + (-7046029254386353131 : Int64))).toUInt64 >>> ((1 : Int32) &&& 0x3f).toInt64.toUInt64).toInt64)), .second] [(.long ((own_dr p0s k_82) % b))])) _
            refine XS.lload X105.here hx rfl (hb hby at_117) rfl ?_
            show Steps p.tables e below (T105.setTop (mkF m 119 #[.val (.long p0s), .second, .val (.long p1s), .second, .val (.long b), .second, .val (.ref b61), .val (.ref b69), .val (.long ((own_dr p0s k_82) % b)), .second, .val (.long (((own_mix (p0s + (-7046029254386353131 : Int64))).toUInt64 >>> ((1 : Int32) &&& 0x3f).toInt64.toUInt64).toInt64)), .second, .val (.long (((own_mix ((p0s + (-7046029254386353131 : Int64)) + (-7046029254386353131 : Int64))).toUInt64 >>> ((1 : Int32) &&& 0x3f).toInt64.toUInt64).toInt64)), .second] [(.long (((own_mix ((p0s + (-7046029254386353131 : Int64)) + (-7046029254386353131 : Int64))).toUInt64 >>> ((1 : Int32) &&& 0x3f).toInt64.toUInt64).toInt64)), (.long ((own_dr p0s k_82) % b))])) _
            refine XS.lload X105.here hx rfl (hb hby at_119) rfl ?_
            show Steps p.tables e below (T105.setTop (mkF m 121 #[.val (.long p0s), .second, .val (.long p1s), .second, .val (.long b), .second, .val (.ref b61), .val (.ref b69), .val (.long ((own_dr p0s k_82) % b)), .second, .val (.long (((own_mix (p0s + (-7046029254386353131 : Int64))).toUInt64 >>> ((1 : Int32) &&& 0x3f).toInt64.toUInt64).toInt64)), .second, .val (.long (((own_mix ((p0s + (-7046029254386353131 : Int64)) + (-7046029254386353131 : Int64))).toUInt64 >>> ((1 : Int32) &&& 0x3f).toInt64.toUInt64).toInt64)), .second] [(.long b), (.long (((own_mix ((p0s + (-7046029254386353131 : Int64)) + (-7046029254386353131 : Int64))).toUInt64 >>> ((1 : Int32) &&& 0x3f).toInt64.toUInt64).toInt64)), (.long ((own_dr p0s k_82) % b))])) _
            refine own_lremM X105 hx rfl (hb hby at_121) rfl (own_nz hbp) ?_
            show Steps p.tables e below (T105.setTop (mkF m 122 #[.val (.long p0s), .second, .val (.long p1s), .second, .val (.long b), .second, .val (.ref b61), .val (.ref b69), .val (.long ((own_dr p0s k_82) % b)), .second, .val (.long (((own_mix (p0s + (-7046029254386353131 : Int64))).toUInt64 >>> ((1 : Int32) &&& 0x3f).toInt64.toUInt64).toInt64)), .second, .val (.long (((own_mix ((p0s + (-7046029254386353131 : Int64)) + (-7046029254386353131 : Int64))).toUInt64 >>> ((1 : Int32) &&& 0x3f).toInt64.toUInt64).toInt64)), .second] [(.long ((((own_mix ((p0s + (-7046029254386353131 : Int64)) + (-7046029254386353131 : Int64))).toUInt64 >>> ((1 : Int32) &&& 0x3f).toInt64.toUInt64).toInt64) % b)), (.long ((own_dr p0s k_82) % b))])) _
            refine XS.lcmp X105.here hx rfl (hb hby at_122) rfl ?_
            exact kg_
          have hc116 : ((own_dr p0s k_82) % b) = ((((own_mix ((p0s + (-7046029254386353131 : Int64)) + (-7046029254386353131 : Int64))).toUInt64 >>> ((1 : Int32) &&& 0x3f).toInt64.toUInt64).toInt64) % b) := (by rw [hk_, own_dr2]; rfl)
          have r118 : own_R p.tables e below F0 (T105.setTop (mkF m 128 #[.val (.long p0s), .second, .val (.long p1s), .second, .val (.long b), .second, .val (.ref b61), .val (.ref b69), .val (.long ((own_dr p0s k_82) % b)), .second, .val (.long (((own_mix (p0s + (-7046029254386353131 : Int64))).toUInt64 >>> ((1 : Int32) &&& 0x3f).toInt64.toUInt64).toInt64)), .second, .val (.long (((own_mix ((p0s + (-7046029254386353131 : Int64)) + (-7046029254386353131 : Int64))).toUInt64 >>> ((1 : Int32) &&& 0x3f).toInt64.toUInt64).toInt64)), .second] [(.ref b61)])) := fun tg_ kg_ => by
            refine r117 tg_ ?_
            show Steps p.tables e below (T105.setTop (mkF m 123 #[.val (.long p0s), .second, .val (.long p1s), .second, .val (.long b), .second, .val (.ref b61), .val (.ref b69), .val (.long ((own_dr p0s k_82) % b)), .second, .val (.long (((own_mix (p0s + (-7046029254386353131 : Int64))).toUInt64 >>> ((1 : Int32) &&& 0x3f).toInt64.toUInt64).toInt64)), .second, .val (.long (((own_mix ((p0s + (-7046029254386353131 : Int64)) + (-7046029254386353131 : Int64))).toUInt64 >>> ((1 : Int32) &&& 0x3f).toInt64.toUInt64).toInt64)), .second] [(.int (lcmpW ((own_dr p0s k_82) % b) ((((own_mix ((p0s + (-7046029254386353131 : Int64)) + (-7046029254386353131 : Int64))).toUInt64 >>> ((1 : Int32) &&& 0x3f).toInt64.toUInt64).toInt64) % b)))])) _
            refine XS.ifNo X105.here hx rfl (hb hby at_123) rfl (own_l_eq hc116).2 ?_
            show Steps p.tables e below (T105.setTop (mkF m 126 #[.val (.long p0s), .second, .val (.long p1s), .second, .val (.long b), .second, .val (.ref b61), .val (.ref b69), .val (.long ((own_dr p0s k_82) % b)), .second, .val (.long (((own_mix (p0s + (-7046029254386353131 : Int64))).toUInt64 >>> ((1 : Int32) &&& 0x3f).toInt64.toUInt64).toInt64)), .second, .val (.long (((own_mix ((p0s + (-7046029254386353131 : Int64)) + (-7046029254386353131 : Int64))).toUInt64 >>> ((1 : Int32) &&& 0x3f).toInt64.toUInt64).toInt64)), .second] [])) _
            refine XS.aload X105.here hx rfl (hb hby at_126) rfl rfl ?_
            exact kg_
          obtain ⟨cq119, kq119, q119a, q119b, q119c⟩ := isOf hZ I105_0 F100
          obtain ⟨_, _, ⟨T119, L119, k119, n119⟩, -, X119, ⟨Lc119, hQ119, l119, y119, z119⟩, st119⟩ := X105.virtualBack hx (y := (⟨"com/example/sharp_bound/sharpbound/SeededRandom", "nextLong", "()J"⟩ : MethodName)) (z := (⟨"com/example/sharp_bound/sharpbound/SeededRandom", "nextLong", "()J"⟩ : MethodName)) hown (mvT hZ (hw _ (List.mem_of_getElem? (i := 26) rfl))) (mvT hZ (hw _ (List.mem_of_getElem? (i := 19) rfl))) (notFace_of_selects (args := #[]) (mvT hZ (hw _ (List.mem_of_getElem? (i := 21) rfl)))) (mvT hZ (hw _ (List.mem_of_getElem? (i := 21) rfl))) (mvT hZ (hw _ (List.mem_of_getElem? (i := 20) rfl))) (by decide) (backOf (W := 0) (rm4 l Z a0 hw [] b61 (sv_82) h99 n0 Zs103 F100 F101 ge61) hZ (hw _ (List.mem_of_getElem? (i := 22) rfl)) (hw _ (List.mem_of_getElem? (i := 3) rfl)) (by decide) (by decide)) q119a q119c (g := (mkF m 128 #[.val (.long p0s), .second, .val (.long p1s), .second, .val (.long b), .second, .val (.ref b61), .val (.ref b69), .val (.long ((own_dr p0s k_82) % b)), .second, .val (.long (((own_mix (p0s + (-7046029254386353131 : Int64))).toUInt64 >>> ((1 : Int32) &&& 0x3f).toInt64.toUInt64).toInt64)), .second, .val (.long (((own_mix ((p0s + (-7046029254386353131 : Int64)) + (-7046029254386353131 : Int64))).toUInt64 >>> ((1 : Int32) &&& 0x3f).toInt64.toUInt64).toInt64)), .second] [(.ref b61)])) rfl (by rw [hml]; rfl) (Steps.refl _) (argsL := []) (rest := []) (lenOf pd_0 rfl) rfl (by show 2 * 0 + _ ≤ _; exact Nat.le_of_eq rfl) (hb hby at_128) (fun _ _ => ⟨rfl, I105_0, (by decide : 2 + 0 ≤ _), (by decide : 2 + 0 ≤ _)⟩)
          dsimp only [Pt.U, Pt.locs, Pt.cells, Pt.slots] at X119 l119 y119 z119 st119 hQ119
          subst l119 y119 z119
          obtain ⟨rfl, N119q, I119_0, I119_1, I119_2⟩ := hQ119
          have N119 := Fr.app N105 N119q
          obtain ⟨h119, e119⟩ : ∃ z, T119.heap = z := ⟨_, rfl⟩
          rw [e119] at I119_0 I119_1 I119_2
          have F120 : Exa Z h119 b69 "com/example/sharp_bound/sharpbound/SeededRandom" := I99_1.keep I119_0
          have F121 : Fld Z h119 b69 "com/example/sharp_bound/sharpbound/SeededRandom" "state" "J" (.long ((p0s + (-7046029254386353131 : Int64)) + (-7046029254386353131 : Int64))) := I99_2.keep I119_0 (ninS (Ne.symm ne70) nin0)
          have K122 : Keep h0 h119 [] := K102.trans I119_0 (allS (Or.inr old61) all0)
          have Zs123 : n0 ≤ h119.size := Nat.le_trans Zs103 I119_0.1
          have r119 : own_R p.tables e below F0 (T119.setTop (mkF m 131 #[.val (.long p0s), .second, .val (.long p1s), .second, .val (.long b), .second, .val (.ref b61), .val (.ref b69), .val (.long ((own_dr p0s k_82) % b)), .second, .val (.long (((own_mix (p0s + (-7046029254386353131 : Int64))).toUInt64 >>> ((1 : Int32) &&& 0x3f).toInt64.toUInt64).toInt64)), .second, .val (.long (((own_mix ((p0s + (-7046029254386353131 : Int64)) + (-7046029254386353131 : Int64))).toUInt64 >>> ((1 : Int32) &&& 0x3f).toInt64.toUInt64).toInt64)), .second] [(.long (own_mix (sv_82 + (-7046029254386353131 : Int64))))])) := fun tg_ kg_ => r118 tg_ (st119.trans kg_)
          have r124 : own_R p.tables e below F0 (T119.setTop (mkF m 133 #[.val (.long p0s), .second, .val (.long p1s), .second, .val (.long b), .second, .val (.ref b61), .val (.ref b69), .val (.long ((own_dr p0s k_82) % b)), .second, .val (.long (((own_mix (p0s + (-7046029254386353131 : Int64))).toUInt64 >>> ((1 : Int32) &&& 0x3f).toInt64.toUInt64).toInt64)), .second, .val (.long (((own_mix ((p0s + (-7046029254386353131 : Int64)) + (-7046029254386353131 : Int64))).toUInt64 >>> ((1 : Int32) &&& 0x3f).toInt64.toUInt64).toInt64)), .second] [(.ref b69), (.long (own_mix (sv_82 + (-7046029254386353131 : Int64))))])) := fun tg_ kg_ => by
            refine r119 tg_ ?_
            show Steps p.tables e below (T119.setTop (mkF m 131 #[.val (.long p0s), .second, .val (.long p1s), .second, .val (.long b), .second, .val (.ref b61), .val (.ref b69), .val (.long ((own_dr p0s k_82) % b)), .second, .val (.long (((own_mix (p0s + (-7046029254386353131 : Int64))).toUInt64 >>> ((1 : Int32) &&& 0x3f).toInt64.toUInt64).toInt64)), .second, .val (.long (((own_mix ((p0s + (-7046029254386353131 : Int64)) + (-7046029254386353131 : Int64))).toUInt64 >>> ((1 : Int32) &&& 0x3f).toInt64.toUInt64).toInt64)), .second] [(.long (own_mix (sv_82 + (-7046029254386353131 : Int64))))])) _
            refine XS.aload X119.here hx rfl (hb hby at_131) rfl rfl ?_
            exact kg_
          obtain ⟨cq125, kq125, q125a, q125b, q125c⟩ := isOf hZ e119 F120
          obtain ⟨_, _, ⟨T125, L125, k125, n125⟩, -, X125, ⟨Lc125, hQ125, l125, y125, z125⟩, st125⟩ := X119.virtualBack hx (y := (⟨"com/example/sharp_bound/sharpbound/SeededRandom", "nextLong", "()J"⟩ : MethodName)) (z := (⟨"com/example/sharp_bound/sharpbound/SeededRandom", "nextLong", "()J"⟩ : MethodName)) hown (mvT hZ (hw _ (List.mem_of_getElem? (i := 26) rfl))) (mvT hZ (hw _ (List.mem_of_getElem? (i := 19) rfl))) (notFace_of_selects (args := #[]) (mvT hZ (hw _ (List.mem_of_getElem? (i := 21) rfl)))) (mvT hZ (hw _ (List.mem_of_getElem? (i := 21) rfl))) (mvT hZ (hw _ (List.mem_of_getElem? (i := 20) rfl))) (by decide) (backOf (W := 2) (rm4 l Z a0 hw [] b69 (((p0s + (-7046029254386353131 : Int64)) + (-7046029254386353131 : Int64))) h119 n0 Zs123 F120 F121 ge69) hZ (hw _ (List.mem_of_getElem? (i := 22) rfl)) (hw _ (List.mem_of_getElem? (i := 3) rfl)) (by decide) (by decide)) q125a q125c (g := (mkF m 133 #[.val (.long p0s), .second, .val (.long p1s), .second, .val (.long b), .second, .val (.ref b61), .val (.ref b69), .val (.long ((own_dr p0s k_82) % b)), .second, .val (.long (((own_mix (p0s + (-7046029254386353131 : Int64))).toUInt64 >>> ((1 : Int32) &&& 0x3f).toInt64.toUInt64).toInt64)), .second, .val (.long (((own_mix ((p0s + (-7046029254386353131 : Int64)) + (-7046029254386353131 : Int64))).toUInt64 >>> ((1 : Int32) &&& 0x3f).toInt64.toUInt64).toInt64)), .second] [(.ref b69), (.long (own_mix (sv_82 + (-7046029254386353131 : Int64))))])) rfl (by rw [hml]; rfl) (Steps.refl _) (argsL := []) (rest := [(.long (own_mix (sv_82 + (-7046029254386353131 : Int64))))]) (lenOf pd_0 rfl) rfl (by show 2 * 0 + _ ≤ _; exact Nat.le_of_eq rfl) (hb hby at_133) (fun _ _ => ⟨rfl, e119, (by decide : 2 + 0 ≤ _), (by decide : 2 + 0 ≤ _)⟩)
          dsimp only [Pt.U, Pt.locs, Pt.cells, Pt.slots] at X125 l125 y125 z125 st125 hQ125
          subst l125 y125 z125
          obtain ⟨rfl, N125q, I125_0, I125_1, I125_2⟩ := hQ125
          have N125 := Fr.app N119 N125q
          obtain ⟨h125, e125⟩ : ∃ z, T125.heap = z := ⟨_, rfl⟩
          rw [e125] at I125_0 I125_1 I125_2
          have F126 : Exa Z h125 b61 "com/example/sharp_bound/sharpbound/SeededRandom" := I119_1.keep I125_0
          have F127 : Fld Z h125 b61 "com/example/sharp_bound/sharpbound/SeededRandom" "state" "J" (.long (sv_82 + (-7046029254386353131 : Int64))) := I119_2.keep I125_0 (ninS ne70 nin0)
          have K128 : Keep h0 h125 [] := K122.trans I125_0 (allS (Or.inr old69) all0)
          have Zs129 : n0 ≤ h125.size := Nat.le_trans Zs123 I125_0.1
          have r125 : own_R p.tables e below F0 (T125.setTop (mkF m 136 #[.val (.long p0s), .second, .val (.long p1s), .second, .val (.long b), .second, .val (.ref b61), .val (.ref b69), .val (.long ((own_dr p0s k_82) % b)), .second, .val (.long (((own_mix (p0s + (-7046029254386353131 : Int64))).toUInt64 >>> ((1 : Int32) &&& 0x3f).toInt64.toUInt64).toInt64)), .second, .val (.long (((own_mix ((p0s + (-7046029254386353131 : Int64)) + (-7046029254386353131 : Int64))).toUInt64 >>> ((1 : Int32) &&& 0x3f).toInt64.toUInt64).toInt64)), .second] [(.long (own_mix (((p0s + (-7046029254386353131 : Int64)) + (-7046029254386353131 : Int64)) + (-7046029254386353131 : Int64)))), (.long (own_mix (sv_82 + (-7046029254386353131 : Int64))))])) := fun tg_ kg_ => r124 tg_ (st125.trans kg_)
          have r131 : own_R p.tables e below F0 (T125.setTop (mkF m 137 #[.val (.long p0s), .second, .val (.long p1s), .second, .val (.long b), .second, .val (.ref b61), .val (.ref b69), .val (.long ((own_dr p0s k_82) % b)), .second, .val (.long (((own_mix (p0s + (-7046029254386353131 : Int64))).toUInt64 >>> ((1 : Int32) &&& 0x3f).toInt64.toUInt64).toInt64)), .second, .val (.long (((own_mix ((p0s + (-7046029254386353131 : Int64)) + (-7046029254386353131 : Int64))).toUInt64 >>> ((1 : Int32) &&& 0x3f).toInt64.toUInt64).toInt64)), .second] [(.int (lcmpW (own_mix (sv_82 + (-7046029254386353131 : Int64))) (own_mix (((p0s + (-7046029254386353131 : Int64)) + (-7046029254386353131 : Int64)) + (-7046029254386353131 : Int64)))))])) := fun tg_ kg_ => by
            refine r125 tg_ ?_
            show Steps p.tables e below (T125.setTop (mkF m 136 #[.val (.long p0s), .second, .val (.long p1s), .second, .val (.long b), .second, .val (.ref b61), .val (.ref b69), .val (.long ((own_dr p0s k_82) % b)), .second, .val (.long (((own_mix (p0s + (-7046029254386353131 : Int64))).toUInt64 >>> ((1 : Int32) &&& 0x3f).toInt64.toUInt64).toInt64)), .second, .val (.long (((own_mix ((p0s + (-7046029254386353131 : Int64)) + (-7046029254386353131 : Int64))).toUInt64 >>> ((1 : Int32) &&& 0x3f).toInt64.toUInt64).toInt64)), .second] [(.long (own_mix (((p0s + (-7046029254386353131 : Int64)) + (-7046029254386353131 : Int64)) + (-7046029254386353131 : Int64)))), (.long (own_mix (sv_82 + (-7046029254386353131 : Int64))))])) _
            refine XS.lcmp X125.here hx rfl (hb hby at_136) rfl ?_
            exact kg_
          have hc130 : (own_mix (sv_82 + (-7046029254386353131 : Int64))) = (own_mix (((p0s + (-7046029254386353131 : Int64)) + (-7046029254386353131 : Int64)) + (-7046029254386353131 : Int64))) := (by rw [I82_3, hk_, ← own_step, ← own_one])
          have r132 : own_R p.tables e below F0 (T125.setTop (mkF m 145 #[.val (.long p0s), .second, .val (.long p1s), .second, .val (.long b), .second, .val (.ref b61), .val (.ref b69), .val (.long ((own_dr p0s k_82) % b)), .second, .val (.long (((own_mix (p0s + (-7046029254386353131 : Int64))).toUInt64 >>> ((1 : Int32) &&& 0x3f).toInt64.toUInt64).toInt64)), .second, .val (.long (((own_mix ((p0s + (-7046029254386353131 : Int64)) + (-7046029254386353131 : Int64))).toUInt64 >>> ((1 : Int32) &&& 0x3f).toInt64.toUInt64).toInt64)), .second] [(.int (1 : Int32))])) := fun tg_ kg_ => by
            refine r131 tg_ ?_
            show Steps p.tables e below (T125.setTop (mkF m 137 #[.val (.long p0s), .second, .val (.long p1s), .second, .val (.long b), .second, .val (.ref b61), .val (.ref b69), .val (.long ((own_dr p0s k_82) % b)), .second, .val (.long (((own_mix (p0s + (-7046029254386353131 : Int64))).toUInt64 >>> ((1 : Int32) &&& 0x3f).toInt64.toUInt64).toInt64)), .second, .val (.long (((own_mix ((p0s + (-7046029254386353131 : Int64)) + (-7046029254386353131 : Int64))).toUInt64 >>> ((1 : Int32) &&& 0x3f).toInt64.toUInt64).toInt64)), .second] [(.int (lcmpW (own_mix (sv_82 + (-7046029254386353131 : Int64))) (own_mix (((p0s + (-7046029254386353131 : Int64)) + (-7046029254386353131 : Int64)) + (-7046029254386353131 : Int64)))))])) _
            refine XS.ifNo X125.here hx rfl (hb hby at_137) rfl (own_l_eq hc130).2 ?_
            show Steps p.tables e below (T125.setTop (mkF m 140 #[.val (.long p0s), .second, .val (.long p1s), .second, .val (.long b), .second, .val (.ref b61), .val (.ref b69), .val (.long ((own_dr p0s k_82) % b)), .second, .val (.long (((own_mix (p0s + (-7046029254386353131 : Int64))).toUInt64 >>> ((1 : Int32) &&& 0x3f).toInt64.toUInt64).toInt64)), .second, .val (.long (((own_mix ((p0s + (-7046029254386353131 : Int64)) + (-7046029254386353131 : Int64))).toUInt64 >>> ((1 : Int32) &&& 0x3f).toInt64.toUInt64).toInt64)), .second] [])) _
            refine XS.iconst X125.here hx rfl (hb hby at_140) ?_
            show Steps p.tables e below (T125.setTop (mkF m 141 #[.val (.long p0s), .second, .val (.long p1s), .second, .val (.long b), .second, .val (.ref b61), .val (.ref b69), .val (.long ((own_dr p0s k_82) % b)), .second, .val (.long (((own_mix (p0s + (-7046029254386353131 : Int64))).toUInt64 >>> ((1 : Int32) &&& 0x3f).toInt64.toUInt64).toInt64)), .second, .val (.long (((own_mix ((p0s + (-7046029254386353131 : Int64)) + (-7046029254386353131 : Int64))).toUInt64 >>> ((1 : Int32) &&& 0x3f).toInt64.toUInt64).toInt64)), .second] [(.int (1 : Int32))])) _
            refine XS.goto X125.here hx rfl (pc0 := 141) (pc' := 145) rfl (hb hby at_141) (by decide) (by decide) ?_
            exact kg_
          refine hG (own_fin X125 hlk (some (.int (nar .boolean (1 : Int32)))) (own_hv Bd.returns) ?_ (by decide) (by decide) (fun fs hr => r132 _ (retN X125 hx (t := .boolean) Bd.returns (by simp) (hb hby at_145) hr)))
          rw [e125]
          exact ⟨rfl, N125⟩
      · have ev133 : (own_compl (((own_mix (p0s + (-7046029254386353131 : Int64))).toUInt64 >>> ((1 : Int32) &&& 0x3f).toInt64.toUInt64).toInt64) b) = (1 : Int32) := by unfold own_compl; rw [if_neg hc95]
        have r134 : own_R p.tables e below F0 (T94.setTop (mkF m 62 #[.val (.long p0s), .second, .val (.long p1s), .second, .val (.long b), .second, .val (.ref b61), .val (.ref b69), .val (.long ((own_dr p0s k_82) % b)), .second, .val (.long (((own_mix (p0s + (-7046029254386353131 : Int64))).toUInt64 >>> ((1 : Int32) &&& 0x3f).toInt64.toUInt64).toInt64)), .second, .unset, .unset] [(.int (1 : Int32))])) := by have q := r94; rw [ev133] at q; exact q
        have hk_ : k_82 = 1 := own_k1 I82_4 I82_6 (by rw [own_dr1]; exact fun q => hc95 ((own_comp (own_sh1N _) hbp).mpr q))
        have r136 : own_R p.tables e below F0 (T94.setTop (mkF m 73 #[.val (.long p0s), .second, .val (.long p1s), .second, .val (.long b), .second, .val (.ref b61), .val (.ref b69), .val (.long ((own_dr p0s k_82) % b)), .second, .val (.long (((own_mix (p0s + (-7046029254386353131 : Int64))).toUInt64 >>> ((1 : Int32) &&& 0x3f).toInt64.toUInt64).toInt64)), .second, .unset, .unset] [(.int (lcmpW ((own_dr p0s k_82) % b) ((((own_mix (p0s + (-7046029254386353131 : Int64))).toUInt64 >>> ((1 : Int32) &&& 0x3f).toInt64.toUInt64).toInt64) % b)))])) := fun tg_ kg_ => by
          refine r134 tg_ ?_
          show Steps p.tables e below (T94.setTop (mkF m 62 #[.val (.long p0s), .second, .val (.long p1s), .second, .val (.long b), .second, .val (.ref b61), .val (.ref b69), .val (.long ((own_dr p0s k_82) % b)), .second, .val (.long (((own_mix (p0s + (-7046029254386353131 : Int64))).toUInt64 >>> ((1 : Int32) &&& 0x3f).toInt64.toUInt64).toInt64)), .second, .unset, .unset] [(.int (1 : Int32))])) _
          refine XS.ifNo X94.here hx rfl (hb hby at_62) rfl ((if0 _ _).trans (feq (show ¬ ((1 : Int32) = (0 : Int32)) from by decide)).1) ?_
          show Steps p.tables e below (T94.setTop (mkF m 65 #[.val (.long p0s), .second, .val (.long p1s), .second, .val (.long b), .second, .val (.ref b61), .val (.ref b69), .val (.long ((own_dr p0s k_82) % b)), .second, .val (.long (((own_mix (p0s + (-7046029254386353131 : Int64))).toUInt64 >>> ((1 : Int32) &&& 0x3f).toInt64.toUInt64).toInt64)), .second, .unset, .unset] [])) _
          refine XS.lload X94.here hx rfl (hb hby at_65) rfl ?_
          show Steps p.tables e below (T94.setTop (mkF m 67 #[.val (.long p0s), .second, .val (.long p1s), .second, .val (.long b), .second, .val (.ref b61), .val (.ref b69), .val (.long ((own_dr p0s k_82) % b)), .second, .val (.long (((own_mix (p0s + (-7046029254386353131 : Int64))).toUInt64 >>> ((1 : Int32) &&& 0x3f).toInt64.toUInt64).toInt64)), .second, .unset, .unset] [(.long ((own_dr p0s k_82) % b))])) _
          refine XS.lload X94.here hx rfl (hb hby at_67) rfl ?_
          show Steps p.tables e below (T94.setTop (mkF m 69 #[.val (.long p0s), .second, .val (.long p1s), .second, .val (.long b), .second, .val (.ref b61), .val (.ref b69), .val (.long ((own_dr p0s k_82) % b)), .second, .val (.long (((own_mix (p0s + (-7046029254386353131 : Int64))).toUInt64 >>> ((1 : Int32) &&& 0x3f).toInt64.toUInt64).toInt64)), .second, .unset, .unset] [(.long (((own_mix (p0s + (-7046029254386353131 : Int64))).toUInt64 >>> ((1 : Int32) &&& 0x3f).toInt64.toUInt64).toInt64)), (.long ((own_dr p0s k_82) % b))])) _
          refine XS.lload X94.here hx rfl (hb hby at_69) rfl ?_
          show Steps p.tables e below (T94.setTop (mkF m 71 #[.val (.long p0s), .second, .val (.long p1s), .second, .val (.long b), .second, .val (.ref b61), .val (.ref b69), .val (.long ((own_dr p0s k_82) % b)), .second, .val (.long (((own_mix (p0s + (-7046029254386353131 : Int64))).toUInt64 >>> ((1 : Int32) &&& 0x3f).toInt64.toUInt64).toInt64)), .second, .unset, .unset] [(.long b), (.long (((own_mix (p0s + (-7046029254386353131 : Int64))).toUInt64 >>> ((1 : Int32) &&& 0x3f).toInt64.toUInt64).toInt64)), (.long ((own_dr p0s k_82) % b))])) _
          refine own_lremM X94 hx rfl (hb hby at_71) rfl (own_nz hbp) ?_
          show Steps p.tables e below (T94.setTop (mkF m 72 #[.val (.long p0s), .second, .val (.long p1s), .second, .val (.long b), .second, .val (.ref b61), .val (.ref b69), .val (.long ((own_dr p0s k_82) % b)), .second, .val (.long (((own_mix (p0s + (-7046029254386353131 : Int64))).toUInt64 >>> ((1 : Int32) &&& 0x3f).toInt64.toUInt64).toInt64)), .second, .unset, .unset] [(.long ((((own_mix (p0s + (-7046029254386353131 : Int64))).toUInt64 >>> ((1 : Int32) &&& 0x3f).toInt64.toUInt64).toInt64) % b)), (.long ((own_dr p0s k_82) % b))])) _
          refine XS.lcmp X94.here hx rfl (hb hby at_72) rfl ?_
          exact kg_
        have hc135 : ((own_dr p0s k_82) % b) = ((((own_mix (p0s + (-7046029254386353131 : Int64))).toUInt64 >>> ((1 : Int32) &&& 0x3f).toInt64.toUInt64).toInt64) % b) := (by rw [hk_, own_dr1]; rfl)
        have r137 : own_R p.tables e below F0 (T94.setTop (mkF m 78 #[.val (.long p0s), .second, .val (.long p1s), .second, .val (.long b), .second, .val (.ref b61), .val (.ref b69), .val (.long ((own_dr p0s k_82) % b)), .second, .val (.long (((own_mix (p0s + (-7046029254386353131 : Int64))).toUInt64 >>> ((1 : Int32) &&& 0x3f).toInt64.toUInt64).toInt64)), .second, .unset, .unset] [(.ref b61)])) := fun tg_ kg_ => by
          refine r136 tg_ ?_
          show Steps p.tables e below (T94.setTop (mkF m 73 #[.val (.long p0s), .second, .val (.long p1s), .second, .val (.long b), .second, .val (.ref b61), .val (.ref b69), .val (.long ((own_dr p0s k_82) % b)), .second, .val (.long (((own_mix (p0s + (-7046029254386353131 : Int64))).toUInt64 >>> ((1 : Int32) &&& 0x3f).toInt64.toUInt64).toInt64)), .second, .unset, .unset] [(.int (lcmpW ((own_dr p0s k_82) % b) ((((own_mix (p0s + (-7046029254386353131 : Int64))).toUInt64 >>> ((1 : Int32) &&& 0x3f).toInt64.toUInt64).toInt64) % b)))])) _
          refine XS.ifNo X94.here hx rfl (hb hby at_73) rfl (own_l_eq hc135).2 ?_
          show Steps p.tables e below (T94.setTop (mkF m 76 #[.val (.long p0s), .second, .val (.long p1s), .second, .val (.long b), .second, .val (.ref b61), .val (.ref b69), .val (.long ((own_dr p0s k_82) % b)), .second, .val (.long (((own_mix (p0s + (-7046029254386353131 : Int64))).toUInt64 >>> ((1 : Int32) &&& 0x3f).toInt64.toUInt64).toInt64)), .second, .unset, .unset] [])) _
          refine XS.aload X94.here hx rfl (hb hby at_76) rfl rfl ?_
          exact kg_
        obtain ⟨cq138, kq138, q138a, q138b, q138c⟩ := isOf hZ I94_0 F89
        obtain ⟨_, _, ⟨T138, L138, k138, n138⟩, -, X138, ⟨Lc138, hQ138, l138, y138, z138⟩, st138⟩ := X94.virtualBack hx (y := (⟨"com/example/sharp_bound/sharpbound/SeededRandom", "nextLong", "()J"⟩ : MethodName)) (z := (⟨"com/example/sharp_bound/sharpbound/SeededRandom", "nextLong", "()J"⟩ : MethodName)) hown (mvT hZ (hw _ (List.mem_of_getElem? (i := 26) rfl))) (mvT hZ (hw _ (List.mem_of_getElem? (i := 19) rfl))) (notFace_of_selects (args := #[]) (mvT hZ (hw _ (List.mem_of_getElem? (i := 21) rfl)))) (mvT hZ (hw _ (List.mem_of_getElem? (i := 21) rfl))) (mvT hZ (hw _ (List.mem_of_getElem? (i := 20) rfl))) (by decide) (backOf (W := 0) (rm4 l Z a0 hw [] b61 (sv_82) h88 n0 Zs92 F89 F90 ge61) hZ (hw _ (List.mem_of_getElem? (i := 22) rfl)) (hw _ (List.mem_of_getElem? (i := 3) rfl)) (by decide) (by decide)) q138a q138c (g := (mkF m 78 #[.val (.long p0s), .second, .val (.long p1s), .second, .val (.long b), .second, .val (.ref b61), .val (.ref b69), .val (.long ((own_dr p0s k_82) % b)), .second, .val (.long (((own_mix (p0s + (-7046029254386353131 : Int64))).toUInt64 >>> ((1 : Int32) &&& 0x3f).toInt64.toUInt64).toInt64)), .second, .unset, .unset] [(.ref b61)])) rfl (by rw [hml]; rfl) (Steps.refl _) (argsL := []) (rest := []) (lenOf pd_0 rfl) rfl (by show 2 * 0 + _ ≤ _; exact Nat.le_of_eq rfl) (hb hby at_78) (fun _ _ => ⟨rfl, I94_0, (by decide : 2 + 0 ≤ _), (by decide : 2 + 0 ≤ _)⟩)
        dsimp only [Pt.U, Pt.locs, Pt.cells, Pt.slots] at X138 l138 y138 z138 st138 hQ138
        subst l138 y138 z138
        obtain ⟨rfl, N138q, I138_0, I138_1, I138_2⟩ := hQ138
        have N138 := Fr.app N94 N138q
        obtain ⟨h138, e138⟩ : ∃ z, T138.heap = z := ⟨_, rfl⟩
        rw [e138] at I138_0 I138_1 I138_2
        have F139 : Exa Z h138 b69 "com/example/sharp_bound/sharpbound/SeededRandom" := I88_1.keep I138_0
        have F140 : Fld Z h138 b69 "com/example/sharp_bound/sharpbound/SeededRandom" "state" "J" (.long (p0s + (-7046029254386353131 : Int64))) := I88_2.keep I138_0 (ninS (Ne.symm ne70) nin0)
        have K141 : Keep h0 h138 [] := K91.trans I138_0 (allS (Or.inr old61) all0)
        have Zs142 : n0 ≤ h138.size := Nat.le_trans Zs92 I138_0.1
        have r138 : own_R p.tables e below F0 (T138.setTop (mkF m 81 #[.val (.long p0s), .second, .val (.long p1s), .second, .val (.long b), .second, .val (.ref b61), .val (.ref b69), .val (.long ((own_dr p0s k_82) % b)), .second, .val (.long (((own_mix (p0s + (-7046029254386353131 : Int64))).toUInt64 >>> ((1 : Int32) &&& 0x3f).toInt64.toUInt64).toInt64)), .second, .unset, .unset] [(.long (own_mix (sv_82 + (-7046029254386353131 : Int64))))])) := fun tg_ kg_ => r137 tg_ (st138.trans kg_)
        have r143 : own_R p.tables e below F0 (T138.setTop (mkF m 83 #[.val (.long p0s), .second, .val (.long p1s), .second, .val (.long b), .second, .val (.ref b61), .val (.ref b69), .val (.long ((own_dr p0s k_82) % b)), .second, .val (.long (((own_mix (p0s + (-7046029254386353131 : Int64))).toUInt64 >>> ((1 : Int32) &&& 0x3f).toInt64.toUInt64).toInt64)), .second, .unset, .unset] [(.ref b69), (.long (own_mix (sv_82 + (-7046029254386353131 : Int64))))])) := fun tg_ kg_ => by
          refine r138 tg_ ?_
          show Steps p.tables e below (T138.setTop (mkF m 81 #[.val (.long p0s), .second, .val (.long p1s), .second, .val (.long b), .second, .val (.ref b61), .val (.ref b69), .val (.long ((own_dr p0s k_82) % b)), .second, .val (.long (((own_mix (p0s + (-7046029254386353131 : Int64))).toUInt64 >>> ((1 : Int32) &&& 0x3f).toInt64.toUInt64).toInt64)), .second, .unset, .unset] [(.long (own_mix (sv_82 + (-7046029254386353131 : Int64))))])) _
          refine XS.aload X138.here hx rfl (hb hby at_81) rfl rfl ?_
          exact kg_
        obtain ⟨cq144, kq144, q144a, q144b, q144c⟩ := isOf hZ e138 F139
        obtain ⟨_, _, ⟨T144, L144, k144, n144⟩, -, X144, ⟨Lc144, hQ144, l144, y144, z144⟩, st144⟩ := X138.virtualBack hx (y := (⟨"com/example/sharp_bound/sharpbound/SeededRandom", "nextLong", "()J"⟩ : MethodName)) (z := (⟨"com/example/sharp_bound/sharpbound/SeededRandom", "nextLong", "()J"⟩ : MethodName)) hown (mvT hZ (hw _ (List.mem_of_getElem? (i := 26) rfl))) (mvT hZ (hw _ (List.mem_of_getElem? (i := 19) rfl))) (notFace_of_selects (args := #[]) (mvT hZ (hw _ (List.mem_of_getElem? (i := 21) rfl)))) (mvT hZ (hw _ (List.mem_of_getElem? (i := 21) rfl))) (mvT hZ (hw _ (List.mem_of_getElem? (i := 20) rfl))) (by decide) (backOf (W := 2) (rm4 l Z a0 hw [] b69 ((p0s + (-7046029254386353131 : Int64))) h138 n0 Zs142 F139 F140 ge69) hZ (hw _ (List.mem_of_getElem? (i := 22) rfl)) (hw _ (List.mem_of_getElem? (i := 3) rfl)) (by decide) (by decide)) q144a q144c (g := (mkF m 83 #[.val (.long p0s), .second, .val (.long p1s), .second, .val (.long b), .second, .val (.ref b61), .val (.ref b69), .val (.long ((own_dr p0s k_82) % b)), .second, .val (.long (((own_mix (p0s + (-7046029254386353131 : Int64))).toUInt64 >>> ((1 : Int32) &&& 0x3f).toInt64.toUInt64).toInt64)), .second, .unset, .unset] [(.ref b69), (.long (own_mix (sv_82 + (-7046029254386353131 : Int64))))])) rfl (by rw [hml]; rfl) (Steps.refl _) (argsL := []) (rest := [(.long (own_mix (sv_82 + (-7046029254386353131 : Int64))))]) (lenOf pd_0 rfl) rfl (by show 2 * 0 + _ ≤ _; exact Nat.le_of_eq rfl) (hb hby at_83) (fun _ _ => ⟨rfl, e138, (by decide : 2 + 0 ≤ _), (by decide : 2 + 0 ≤ _)⟩)
        dsimp only [Pt.U, Pt.locs, Pt.cells, Pt.slots] at X144 l144 y144 z144 st144 hQ144
        subst l144 y144 z144
        obtain ⟨rfl, N144q, I144_0, I144_1, I144_2⟩ := hQ144
        have N144 := Fr.app N138 N144q
        obtain ⟨h144, e144⟩ : ∃ z, T144.heap = z := ⟨_, rfl⟩
        rw [e144] at I144_0 I144_1 I144_2
        have F145 : Exa Z h144 b61 "com/example/sharp_bound/sharpbound/SeededRandom" := I138_1.keep I144_0
        have F146 : Fld Z h144 b61 "com/example/sharp_bound/sharpbound/SeededRandom" "state" "J" (.long (sv_82 + (-7046029254386353131 : Int64))) := I138_2.keep I144_0 (ninS ne70 nin0)
        have K147 : Keep h0 h144 [] := K141.trans I144_0 (allS (Or.inr old69) all0)
        have Zs148 : n0 ≤ h144.size := Nat.le_trans Zs142 I144_0.1
        have r144 : own_R p.tables e below F0 (T144.setTop (mkF m 86 #[.val (.long p0s), .second, .val (.long p1s), .second, .val (.long b), .second, .val (.ref b61), .val (.ref b69), .val (.long ((own_dr p0s k_82) % b)), .second, .val (.long (((own_mix (p0s + (-7046029254386353131 : Int64))).toUInt64 >>> ((1 : Int32) &&& 0x3f).toInt64.toUInt64).toInt64)), .second, .unset, .unset] [(.long (own_mix ((p0s + (-7046029254386353131 : Int64)) + (-7046029254386353131 : Int64)))), (.long (own_mix (sv_82 + (-7046029254386353131 : Int64))))])) := fun tg_ kg_ => r143 tg_ (st144.trans kg_)
        have r150 : own_R p.tables e below F0 (T144.setTop (mkF m 87 #[.val (.long p0s), .second, .val (.long p1s), .second, .val (.long b), .second, .val (.ref b61), .val (.ref b69), .val (.long ((own_dr p0s k_82) % b)), .second, .val (.long (((own_mix (p0s + (-7046029254386353131 : Int64))).toUInt64 >>> ((1 : Int32) &&& 0x3f).toInt64.toUInt64).toInt64)), .second, .unset, .unset] [(.int (lcmpW (own_mix (sv_82 + (-7046029254386353131 : Int64))) (own_mix ((p0s + (-7046029254386353131 : Int64)) + (-7046029254386353131 : Int64)))))])) := fun tg_ kg_ => by
          refine r144 tg_ ?_
          show Steps p.tables e below (T144.setTop (mkF m 86 #[.val (.long p0s), .second, .val (.long p1s), .second, .val (.long b), .second, .val (.ref b61), .val (.ref b69), .val (.long ((own_dr p0s k_82) % b)), .second, .val (.long (((own_mix (p0s + (-7046029254386353131 : Int64))).toUInt64 >>> ((1 : Int32) &&& 0x3f).toInt64.toUInt64).toInt64)), .second, .unset, .unset] [(.long (own_mix ((p0s + (-7046029254386353131 : Int64)) + (-7046029254386353131 : Int64)))), (.long (own_mix (sv_82 + (-7046029254386353131 : Int64))))])) _
          refine XS.lcmp X144.here hx rfl (hb hby at_86) rfl ?_
          exact kg_
        have hc149 : (own_mix (sv_82 + (-7046029254386353131 : Int64))) = (own_mix ((p0s + (-7046029254386353131 : Int64)) + (-7046029254386353131 : Int64))) := (by rw [I82_3, hk_, ← own_one])
        have r151 : own_R p.tables e below F0 (T144.setTop (mkF m 95 #[.val (.long p0s), .second, .val (.long p1s), .second, .val (.long b), .second, .val (.ref b61), .val (.ref b69), .val (.long ((own_dr p0s k_82) % b)), .second, .val (.long (((own_mix (p0s + (-7046029254386353131 : Int64))).toUInt64 >>> ((1 : Int32) &&& 0x3f).toInt64.toUInt64).toInt64)), .second, .unset, .unset] [(.int (1 : Int32))])) := fun tg_ kg_ => by
          refine r150 tg_ ?_
          show Steps p.tables e below (T144.setTop (mkF m 87 #[.val (.long p0s), .second, .val (.long p1s), .second, .val (.long b), .second, .val (.ref b61), .val (.ref b69), .val (.long ((own_dr p0s k_82) % b)), .second, .val (.long (((own_mix (p0s + (-7046029254386353131 : Int64))).toUInt64 >>> ((1 : Int32) &&& 0x3f).toInt64.toUInt64).toInt64)), .second, .unset, .unset] [(.int (lcmpW (own_mix (sv_82 + (-7046029254386353131 : Int64))) (own_mix ((p0s + (-7046029254386353131 : Int64)) + (-7046029254386353131 : Int64)))))])) _
          refine XS.ifNo X144.here hx rfl (hb hby at_87) rfl (own_l_eq hc149).2 ?_
          show Steps p.tables e below (T144.setTop (mkF m 90 #[.val (.long p0s), .second, .val (.long p1s), .second, .val (.long b), .second, .val (.ref b61), .val (.ref b69), .val (.long ((own_dr p0s k_82) % b)), .second, .val (.long (((own_mix (p0s + (-7046029254386353131 : Int64))).toUInt64 >>> ((1 : Int32) &&& 0x3f).toInt64.toUInt64).toInt64)), .second, .unset, .unset] [])) _
          refine XS.iconst X144.here hx rfl (hb hby at_90) ?_
          show Steps p.tables e below (T144.setTop (mkF m 91 #[.val (.long p0s), .second, .val (.long p1s), .second, .val (.long b), .second, .val (.ref b61), .val (.ref b69), .val (.long ((own_dr p0s k_82) % b)), .second, .val (.long (((own_mix (p0s + (-7046029254386353131 : Int64))).toUInt64 >>> ((1 : Int32) &&& 0x3f).toInt64.toUInt64).toInt64)), .second, .unset, .unset] [(.int (1 : Int32))])) _
          refine XS.goto X144.here hx rfl (pc0 := 91) (pc' := 95) rfl (hb hby at_91) (by decide) (by decide) ?_
          exact kg_
        refine hG (own_fin X144 hlk (some (.int (nar .boolean (1 : Int32)))) (own_hv Bd.returns) ?_ (by decide) (by decide) (fun fs hr => r151 _ (retN X144 hx (t := .boolean) Bd.returns (by simp) (hb hby at_95) hr)))
        rw [e144]
        exact ⟨rfl, N144⟩
    by_cases hc152 : (p1s &&& (9223372036854775807 : Int64)) = (0 : Int64)
    · have r153 : own_R p.tables e below F0 (s₁.setTop (mkF m 17 #[.val (.long p0s), .second, .val (.long p1s), .second, .val (.long (1 : Int64)), .second, .unset, .unset, .unset, .unset, .unset, .unset, .unset, .unset] [])) := fun tg_ kg_ => by
        refine r58 tg_ ?_
        show Steps p.tables e below (s₁.setTop (mkF m 11 #[.val (.long p0s), .second, .val (.long p1s), .second, .val (.long (p1s &&& (9223372036854775807 : Int64))), .second, .unset, .unset, .unset, .unset, .unset, .unset, .unset, .unset] [(.int (lcmpW (p1s &&& (9223372036854775807 : Int64)) (0 : Int64)))])) _
        refine XS.ifNo X0.here hx rfl (hb hby at_11) rfl (own_l_eq hc152).2 ?_
        show Steps p.tables e below (s₁.setTop (mkF m 14 #[.val (.long p0s), .second, .val (.long p1s), .second, .val (.long (p1s &&& (9223372036854775807 : Int64))), .second, .unset, .unset, .unset, .unset, .unset, .unset, .unset, .unset] [])) _
        refine XS.lconst X0.here hx rfl (hb hby at_14) ?_
        show Steps p.tables e below (s₁.setTop (mkF m 15 #[.val (.long p0s), .second, .val (.long p1s), .second, .val (.long (p1s &&& (9223372036854775807 : Int64))), .second, .unset, .unset, .unset, .unset, .unset, .unset, .unset, .unset] [(.long (1 : Int64))])) _
        refine XS.lstore X0.here hx rfl (hb hby at_15) rfl (l' := #[.val (.long p0s), .second, .val (.long p1s), .second, .val (.long (1 : Int64)), .second, .unset, .unset, .unset, .unset, .unset, .unset, .unset, .unset]) rfl ?_
        exact kg_
      exact J59 (1 : Int64) (by
                have q12_r := own_R64 p1s
                have q13_e : (9223372036854775807 : Int64).toInt = 9223372036854775807 := (by decide)
                have q13_r : (9223372036854775807 : Int) ≤ (9223372036854775807 : Int64).toInt ∧ (9223372036854775807 : Int64).toInt ≤ 9223372036854775807 := ⟨Int.le_of_eq q13_e.symm, Int.le_of_eq q13_e⟩
                have q14_ := own_maskLR p1s (9223372036854775807 : Int64) 63 9223372036854775808 (by decide) (by decide) (by decide) 9223372036854775807 (by decide) (by decide)
                have q14_e := q14_.1
                have q14_r := q14_.2
                have q15_e : (0 : Int64).toInt = 0 := (by decide)
                have q15_r : (0 : Int) ≤ (0 : Int64).toInt ∧ (0 : Int64).toInt ≤ 0 := ⟨Int.le_of_eq q15_e.symm, Int.le_of_eq q15_e⟩
                have q16_e : (1 : Int64).toInt = 1 := (by decide)
                have q16_r : (1 : Int) ≤ (1 : Int64).toInt ∧ (1 : Int64).toInt ≤ 1 := ⟨Int.le_of_eq q16_e.symm, Int.le_of_eq q16_e⟩
                have q17_c := own_eq64 hc152
                omega) r153
    · have r154 : own_R p.tables e below F0 (s₁.setTop (mkF m 17 #[.val (.long p0s), .second, .val (.long p1s), .second, .val (.long (p1s &&& (9223372036854775807 : Int64))), .second, .unset, .unset, .unset, .unset, .unset, .unset, .unset, .unset] [])) := fun tg_ kg_ => by
        refine r58 tg_ ?_
        show Steps p.tables e below (s₁.setTop (mkF m 11 #[.val (.long p0s), .second, .val (.long p1s), .second, .val (.long (p1s &&& (9223372036854775807 : Int64))), .second, .unset, .unset, .unset, .unset, .unset, .unset, .unset, .unset] [(.int (lcmpW (p1s &&& (9223372036854775807 : Int64)) (0 : Int64)))])) _
        refine XS.ifYes X0.here hx rfl (pc0 := 11) (pc' := 17) rfl (hb hby at_11) rfl (own_l_neq hc152).2 (by decide) (by decide) ?_
        exact kg_
      exact J59 (p1s &&& (9223372036854775807 : Int64)) (by
                have q18_r := own_R64 p1s
                have q19_e : (9223372036854775807 : Int64).toInt = 9223372036854775807 := (by decide)
                have q19_r : (9223372036854775807 : Int) ≤ (9223372036854775807 : Int64).toInt ∧ (9223372036854775807 : Int64).toInt ≤ 9223372036854775807 := ⟨Int.le_of_eq q19_e.symm, Int.le_of_eq q19_e⟩
                have q20_ := own_maskLR p1s (9223372036854775807 : Int64) 63 9223372036854775808 (by decide) (by decide) (by decide) 9223372036854775807 (by decide) (by decide)
                have q20_e := q20_.1
                have q20_r := q20_.2
                have q21_e : (0 : Int64).toInt = 0 := (by decide)
                have q21_r : (0 : Int) ≤ (0 : Int64).toInt ∧ (0 : Int64).toInt ≤ 0 := ⟨Int.le_of_eq q21_e.symm, Int.le_of_eq q21_e⟩
                have q22_c := own_ne64 hc152
                omega) r154
  exact key _ _ id (fun t k => castTop (ef_0 m p0s p1s) k)
set_option maxRecDepth 65536 in
set_option maxHeartbeats 40000000 in
theorem comes_1 {Post : Tables → Env → Array Value → State → Outcome → State → Prop} (hpost : ∀ tb e args s v u, (limb_1_1.after args s (.returned v) u = true ∧ limb_1_2.after args s (.returned v) u = true ∧ True) → FrameEnd s (.returned v) u (Jvm.fieldLocs frame_1_writes args s ++ Jvm.arrayLocs frame_1_arrays args s ++ Jvm.staticLocs frame_1_statics s) 16 128 → Post tb e args s (.returned v) u) :
    ArmFor flags0 classFile x code maxLocals ret World_1 tables_1 room_1 Calls_1 rest_1 Pre_1 Post := by
  intro l hfl _ _ p e ha hc hk s m args below hf hA hF happ hP
  obtain ⟨hcalls, hrest, hpre⟩ := hP
  obtain ⟨-, -, -, hnamed, -, -, -, hat⟩ := (Spec.applies_iff hf).mp happ
  obtain ⟨hg, hn⟩ := and_e (Cond.before_iff.mp (show (Jvm.Cond.and given_1 narrow_1).before args s = true from hpre))
  obtain ⟨gw1, gw2⟩ := and_e hg
  obtain ⟨gw3, gw4⟩ := and_e gw2
  obtain ⟨w0, w1, rfl⟩ : ∃ w0 w1 : Value, args = #[w0, w1] := by
    have hs : args.size = 2 := by simpa [Cond.value, given_1] using gw1
    obtain ⟨L⟩ := args
    match L, hs with
    | [w0, w1], _ => exact ⟨w0, w1, rfl⟩
  have hw := fun d (hd : d ∈ tables_1) => atoms_spec (ws := Jvm.Cond.code x code maxLocals ret :: tables_1) hat d (List.mem_cons_of_mem _ hd)
  have hfit : Fit s := fun {y c} hc i hi => by
    obtain ⟨ha, rfl⟩ := Array.getElem?_eq_some_iff.mp hc
    have q := List.all_eq_true.mp ((Array.all_eq_true_iff_forall_mem.mp hF) _ (Array.getElem_mem ha)) i (List.mem_range.mpr hi)
    simpa [Array.getElem?_eq_getElem hi] using q
  obtain ⟨i0, ei0⟩ := isL_v gw3
  obtain rfl : w0 = (.long i0) := Option.some.inj ei0
  obtain ⟨i1, ei1⟩ := isL_v gw4
  obtain rfl : w1 = (.long i1) := Option.some.inj ei1
  obtain ⟨n, o, h1, h2, h3, _, L, rfl, ⟨rfl, N⟩, hq⟩ := rm0 l s _ hw tables_1 i0 i1  s.heap s.heap.size (Nat.le_refl _)  p e ha hc hk s m _ below hf ((Spec.applies_iff_loose hf).mp happ).1 ⟨rfl, State.Warmed39.refl s, rfl⟩ trivial
  refine ⟨n, _, h1, h2, h3, hpost _ _ _ _ _ _ ⟨Cond.after_iff.mpr rfl, Cond.after_iff.mpr (eq_i res_at (Term.int_eval (1)) rfl), trivial⟩ ⟨hq.1, hq.2.1, (hq.2.2.sift fun y hy => Or.inr (N y hy)).mono (by decide) (by decide)⟩⟩
theorem main_1_1 : Claimed_1_1 := comes_1 fun _ _ _ _ _ _ h hF => ⟨h.1, hF⟩
theorem main_1_2 : Claimed_1_2 := comes_1 fun _ _ _ _ _ _ h hF => ⟨h.2.1, hF⟩
end Jvm.Pilot.@@N@@
namespace Jvm.Pilot.@@N@@
open Jvm Jvm.ClassFile Sem Op Lib Jvm.Free Jvm.Stand Jvm.Pilot.@@N@@.Jvm.D
/-! MADE BY PROGRAM (witnessworld.py) out of the Statement's table words and the real class files: 9 classes; the members and pool entries that the words name. The judged class is class 1, her method 2. -/
namespace start1
open Jvm.ClassFile
def u (s : String) : CpInfo := .utf8 (stringToUtf16 s)
/-- a pool by its gaps: so many unusable entries, then the entry; so many at the end -/
def gap : Nat → List CpInfo → List CpInfo
  | 0, r => r
  | n + 1, r => .unusable :: gap n r
def poolList (es : List (Nat × CpInfo)) (last : Nat) : List CpInfo := es.foldr (fun e r => gap e.1 (e.2 :: r)) (gap last [])
def pool (es : List (Nat × CpInfo)) (last : Nat) : Array CpInfo := ⟨poolList es last⟩
def fileOf (pool : Array CpInfo) (this : Nat) (attrs : Array Attribute := #[]) (ms : Array MethodInfo := #[]) (fl : Nat := 33) (sup : Nat := 0) (ifs : Array Nat := #[]) (fds : Array FieldInfo := #[]) : ClassFile where
  minorVersion := 0
  majorVersion := 65
  constantPool := pool
  accessFlags := fl
  thisClass := this
  superClass := sup
  interfaces := ifs
  fields := fds
  methods := ms
  attributes := attrs
def plain (name : String) (sup : Option ClassId) : Class where
  name := name
  kind := .ordinary
  loader := none
  accessFlags := 33
  super := sup
  interfaces := #[]
  cf := none
  fields := #[]
  methods := #[]
  instanceTypes := #[]
  staticTypes := #[]
  resolved := #[]
  callSites := []
  init := .initialized
  statics := none
  mirror := none

def pool0 : Array CpInfo := pool [(5, u "<init>"), (0, u "()V"), (1, .class_ 10), (1, u "java/lang/Object")] 113

def k0c0 : Code := { maxStack := 0, maxLocals := 1, code := object_method_1_code, exceptionTable := #[], attributes := #[] }
def k0m0 : Method := { name := "<init>", desc := "()V", sig := { parameters := [], returnType := none }, accessFlags := 1, code := some k0c0 }
/-- java/lang/Object -/
def k0 : Class := { plain "java/lang/Object" none with
  accessFlags := 33
  interfaces := #[]
  cf := some (fileOf pool0 8 #[] #[{ accessFlags := 1, nameIndex := 5, descriptorIndex := 6, attributes := #[] }] 33 0 #[] #[])
  fields := #[]
  methods := #[k0m0]
  instanceTypes := #[]
  staticTypes := #[]
  resolved := Array.replicate 124 none
  statics := none }

def pool1 : Array CpInfo := pool [(2, .class_ 4), (1, u "java/lang/Object"), (0, u "<init>"), (0, u "()V"), (2, .long 9223372036854775807), (1, .class_ 12), (0, u "com/example/sharp_bound/sharpbound/SeededRandom"), (0, .methodref 11 14), (0, .nameAndType 5 15), (0, u "(J)V"), (0, .methodref 11 17), (0, .nameAndType 18 19), (0, u "below"), (0, u "(J)J"), (0, .methodref 11 21), (0, .nameAndType 22 23), (0, u "nextLong"), (0, u "()J"), (0, .methodref 25 26), (0, .class_ 27), (0, .nameAndType 28 29), (0, u "com/example/sharp_bound/sharpbound/SeededRandomBelowPinLaw"), (0, u "complete"), (0, u "(JJ)Z"), (3, u "law")] 2

def k1m0 : Method := { name := "<init>", desc := "()V", sig := { parameters := [], returnType := none }, accessFlags := 2, code := none }
def k1c1 : Code := { maxStack := 8, maxLocals := 4, code := method_2_code, exceptionTable := #[], attributes := #[] }
def k1m1 : Method := { name := "complete", desc := "(JJ)Z", sig := { parameters := [.long, .long], returnType := some .boolean }, accessFlags := 10, code := some k1c1 }
def k1c2 : Code := { maxStack := 6, maxLocals := 14, code := code, exceptionTable := #[], attributes := #[] }
def k1m2 : Method := { name := "law", desc := "(JJ)Z", sig := { parameters := [.long, .long], returnType := some .boolean }, accessFlags := 9, code := some k1c2 }
/-- com/example/sharp_bound/sharpbound/SeededRandomBelowPinLaw -/
def k1 : Class := { plain "com/example/sharp_bound/sharpbound/SeededRandomBelowPinLaw" (some 0) with
  accessFlags := 49
  interfaces := #[]
  cf := some (fileOf pool1 25 #[] #[{ accessFlags := 2, nameIndex := 5, descriptorIndex := 6, attributes := #[] }, { accessFlags := 10, nameIndex := 28, descriptorIndex := 29, attributes := #[] }, { accessFlags := 9, nameIndex := 33, descriptorIndex := 29, attributes := #[] }] 49 2 #[] #[])
  fields := #[]
  methods := #[k1m0, k1m1, k1m2]
  instanceTypes := #[]
  staticTypes := #[]
  resolved := Array.replicate 36 none
  statics := none }

def pool2 : Array CpInfo := pool [(1, .methodref 2 3), (0, .class_ 4), (0, .nameAndType 5 6), (0, u "java/lang/Object"), (0, u "<init>"), (0, u "()V"), (0, .fieldref 8 9), (0, .class_ 10), (0, .nameAndType 11 12), (0, u "com/example/sharp_bound/sharpbound/SeededRandom"), (0, u "state"), (0, u "J"), (0, .long 11400714819323198485), (1, .long 13787848793156543929), (1, .long 10723151780598845931), (12, .long 9223372036854775807), (1, .methodref 8 33), (0, .nameAndType 34 35), (0, u "nextLong"), (0, u "()J"), (2, u "below"), (0, u "(J)J"), (0, u "GOLDEN_GAMMA"), (1, u "(J)V")] 21

def k2c0 : Code := { maxStack := 3, maxLocals := 3, code := prog_24_method_1_code, exceptionTable := #[], attributes := #[] }
def k2m0 : Method := { name := "<init>", desc := "(J)V", sig := { parameters := [.long], returnType := none }, accessFlags := 0, code := some k2c0 }
def k2c1 : Code := { maxStack := 5, maxLocals := 3, code := prog_24_method_2_code, exceptionTable := #[], attributes := #[] }
def k2m1 : Method := { name := "nextLong", desc := "()J", sig := { parameters := [], returnType := some .long }, accessFlags := 0, code := some k2c1 }
def k2c2 : Code := { maxStack := 6, maxLocals := 7, code := prog_24_method_3_code, exceptionTable := #[], attributes := #[] }
def k2m2 : Method := { name := "below", desc := "(J)J", sig := { parameters := [.long], returnType := some .long }, accessFlags := 0, code := some k2c2 }
/-- com/example/sharp_bound/sharpbound/SeededRandom -/
def k2 : Class := { plain "com/example/sharp_bound/sharpbound/SeededRandom" (some 0) with
  accessFlags := 32
  interfaces := #[]
  cf := some (fileOf pool2 8 #[] #[{ accessFlags := 0, nameIndex := 5, descriptorIndex := 42, attributes := #[] }, { accessFlags := 0, nameIndex := 34, descriptorIndex := 35, attributes := #[] }, { accessFlags := 0, nameIndex := 38, descriptorIndex := 39, attributes := #[] }] 32 2 #[] #[{ accessFlags := 26, nameIndex := 40, descriptorIndex := 12, attributes := #[] }, { accessFlags := 2, nameIndex := 11, descriptorIndex := 12, attributes := #[] }])
  fields := #[{ name := "GOLDEN_GAMMA", type := .long, accessFlags := 26, slot := 0, constantValue := 0 }, { name := "state", type := .long, accessFlags := 2, slot := 0, constantValue := 0 }]
  methods := #[k2m0, k2m1, k2m2]
  instanceTypes := #[.long]
  staticTypes := #[.long]
  resolved := Array.replicate 64 none
  statics := none }

def pool3 : Array CpInfo := pool [(1, u "java/lang/Cloneable"), (0, .class_ 1), (0, u "java/lang/Object"), (0, .class_ 3)] 3

/-- java/lang/Cloneable -/
def k3 : Class := { plain "java/lang/Cloneable" (some 0) with
  accessFlags := 1537
  interfaces := #[]
  cf := some (fileOf pool3 2 #[] #[] 1537 4 #[] #[])
  fields := #[]
  methods := #[]
  instanceTypes := #[]
  staticTypes := #[]
  resolved := Array.replicate 8 none
  statics := none }

def pool4 : Array CpInfo := pool [(1, u "java/io/Serializable"), (0, .class_ 1), (0, u "java/lang/Object"), (0, .class_ 3)] 3

/-- java/io/Serializable -/
def k4 : Class := { plain "java/io/Serializable" (some 0) with
  accessFlags := 1537
  interfaces := #[]
  cf := some (fileOf pool4 2 #[] #[] 1537 4 #[] #[])
  fields := #[]
  methods := #[]
  instanceTypes := #[]
  staticTypes := #[]
  resolved := Array.replicate 8 none
  statics := none }

/-- the primitive byte -/
def k5 : Class := { plain "byte" none with kind := .primitive 'B', accessFlags := 0x411 }
/-- [B -/
def k6 : Class := { plain "[B" (some 0) with kind := .array 5 .byte, interfaces := #[3, 4], accessFlags := 1041 }

/-- the primitive int -/
def k7 : Class := { plain "int" none with kind := .primitive 'I', accessFlags := 0x411 }
/-- [I -/
def k8 : Class := { plain "[I" (some 0) with kind := .array 7 .int, interfaces := #[3, 4], accessFlags := 1041 }

def heap : Heap := #[]
def classes : Array Class := #[k0, k1, k2, k3, k4, k5, k6, k7, k8]
def interned : List (Array UInt16 × Addr) := []
def slotsUsed : Nat := 0
def theMethod : MethodId := ⟨1, 2⟩
def args0 : Array Value := #[.long 5, .long 3]
def aboutOver (below : List Frame) : State where
  vm := { classes := classes, interned := interned.toArray }
  heap := heap
  slotsUsed := slotsUsed
  threads := #[{ frames := .invoking theMethod args0 :: below }]
def below0 : List Frame := [.native { method := ⟨0, 0⟩, args := #[] }]
def about1 : State := aboutOver below0
def p0 : Program := .bare "" "" ""
def e0 : Env := launch0.env 0 0 0
theorem w_frames : about1.frames = Frame.invoking theMethod args0 :: below0 := rfl
set_option maxRecDepth 65536 in
theorem w_args : argsFit about1.vm theMethod args0 = true := by decide +kernel
set_option maxRecDepth 65536 in
theorem w_heap : heapFits about1 = true := by decide +kernel
set_option maxRecDepth 65536 in
theorem w_runnable : about1.curStatus? = some .runnable := by decide +kernel
set_option maxRecDepth 65536 in
theorem w_alone : about1.alone = true := by decide +kernel
set_option maxRecDepth 65536 in
theorem w_named : about1.methodNamed? x = some theMethod := by decide +kernel
set_option maxRecDepth 65536 in
theorem w_hears : about1.hears theMethod below0 = true := by decide +kernel
set_option maxRecDepth 65536 in
theorem w_ripe : about1.ripe theMethod args0 below0 = true := by decide +kernel
theorem w_running : about1.status = .running := rfl
set_option maxRecDepth 65536 in
theorem w_room : about1.hasRoom e0.platform room_1 = true :=
  launch0.hasRoom_least _ room_1 (by decide +kernel) (by decide +kernel) (by decide +kernel) (by decide +kernel) (by decide +kernel) (by decide +kernel)
theorem allAtoms_all (ts : List Jvm.Cond) (a : Array Jvm.Value) (st : Jvm.State) : (allAtoms ts).before a st = ts.all (fun c => c.before a st) := by
  induction ts with
  | nil => rfl
  | cons c t ih =>
    show (Jvm.Cond.and c (allAtoms t)).before a st = _
    rw [Jvm.Cond.before_and, ih, List.all_cons]
def words1 : List Jvm.Cond := Jvm.Cond.code x code maxLocals ret :: tables_1
/-- a 'code' word, met by the world's own term for the bytes: nothing is compared byte by byte -/
theorem code_word {y : MethodName} {bytes : ByteArray} {mx : Nat} {rt : Option FieldType} {a : Array Value} {s : State} {m : MethodId} {meth : Method} {c : Code} (h1 : s.methodNamed? y = some m) (h2 : s.vm.method? m = some meth) (h3 : meth.code = some c) (h4 : c.code = bytes)
    (h5 : (c.maxLocals == mx && c.exceptionTable.isEmpty && decide (c.maxStack ≤ mostOperands) && decide (meth.sig.returnType = rt) && !meth.locks && decide (parseMethodDescriptor y.desc = some meth.sig)) = true) : (Jvm.Cond.code y bytes mx rt).before a s = true := by
  simp only [Bool.and_eq_true, beq_iff_eq, Bool.not_eq_true', decide_eq_true_eq] at h5
  obtain ⟨⟨⟨⟨⟨g1, g2⟩, g3⟩, g4⟩, g5⟩, g6⟩ := h5
  simp [Cond.before, Cond.holds, Cond.value, h1, h2, h3, h4, g1, g2, g3, g4, g5, g6]
def isCode : Jvm.Cond → Bool
  | .code _ _ _ _ => true
  | _ => false
theorem all_split {L : List Jvm.Cond} {P : Jvm.Cond → Bool} (h1 : L.all (fun c => isCode c || P c) = true) (h2 : ∀ c ∈ L.filter isCode, P c = true) : L.all P = true := by
  refine List.all_eq_true.mpr fun c hc => ?_
  have h := List.all_eq_true.mp h1 c hc
  rcases Bool.eq_false_or_eq_true (isCode c) with hi | hi
  · exact h2 c (List.mem_filter.mpr ⟨hc, hi⟩)
  · simpa [hi] using h
set_option maxRecDepth 65536 in
theorem w_c0 : (Jvm.Cond.code x code maxLocals ret).before args0 about1 = true := code_word (m := ⟨1, 2⟩) (meth := k1m2) (c := k1c2) (by decide +kernel) rfl rfl rfl (by decide +kernel)
set_option maxRecDepth 65536 in
theorem w_c1 : (Jvm.Cond.code ({ cls := "com/example/sharp_bound/sharpbound/SeededRandom", name := "<init>", desc := "(J)V" } : Jvm.MethodName) prog_24_method_1_code (3 : Nat) (Option.none : Option Jvm.ClassFile.FieldType)).before args0 about1 = true := code_word (m := ⟨2, 0⟩) (meth := k2m0) (c := k2c0) (by decide +kernel) rfl rfl rfl (by decide +kernel)
set_option maxRecDepth 65536 in
theorem w_c2 : (Jvm.Cond.code ({ cls := "java/lang/Object", name := "<init>", desc := "()V" } : Jvm.MethodName) object_method_1_code (1 : Nat) (Option.none : Option Jvm.ClassFile.FieldType)).before args0 about1 = true := code_word (m := ⟨0, 0⟩) (meth := k0m0) (c := k0c0) (by decide +kernel) rfl rfl rfl (by decide +kernel)
set_option maxRecDepth 65536 in
theorem w_c3 : (Jvm.Cond.code ({ cls := "com/example/sharp_bound/sharpbound/SeededRandom", name := "below", desc := "(J)J" } : Jvm.MethodName) prog_24_method_3_code (7 : Nat) (Option.some Jvm.ClassFile.FieldType.long)).before args0 about1 = true := code_word (m := ⟨2, 2⟩) (meth := k2m2) (c := k2c2) (by decide +kernel) rfl rfl rfl (by decide +kernel)
set_option maxRecDepth 65536 in
theorem w_c4 : (Jvm.Cond.code ({ cls := "com/example/sharp_bound/sharpbound/SeededRandom", name := "nextLong", desc := "()J" } : Jvm.MethodName) prog_24_method_2_code (3 : Nat) (Option.some Jvm.ClassFile.FieldType.long)).before args0 about1 = true := code_word (m := ⟨2, 1⟩) (meth := k2m1) (c := k2c1) (by decide +kernel) rfl rfl rfl (by decide +kernel)
set_option maxRecDepth 65536 in
theorem w_c5 : (Jvm.Cond.code ({ cls := "com/example/sharp_bound/sharpbound/SeededRandomBelowPinLaw", name := "complete", desc := "(JJ)Z" } : Jvm.MethodName) method_2_code (4 : Nat) (Option.some Jvm.ClassFile.FieldType.boolean)).before args0 about1 = true := code_word (m := ⟨1, 1⟩) (meth := k1m1) (c := k1c1) (by decide +kernel) rfl rfl rfl (by decide +kernel)
def codes1 : List Jvm.Cond := [Jvm.Cond.code x code maxLocals ret, Jvm.Cond.code ({ cls := "com/example/sharp_bound/sharpbound/SeededRandom", name := "<init>", desc := "(J)V" } : Jvm.MethodName) prog_24_method_1_code (3 : Nat) (Option.none : Option Jvm.ClassFile.FieldType), Jvm.Cond.code ({ cls := "java/lang/Object", name := "<init>", desc := "()V" } : Jvm.MethodName) object_method_1_code (1 : Nat) (Option.none : Option Jvm.ClassFile.FieldType), Jvm.Cond.code ({ cls := "com/example/sharp_bound/sharpbound/SeededRandom", name := "below", desc := "(J)J" } : Jvm.MethodName) prog_24_method_3_code (7 : Nat) (Option.some Jvm.ClassFile.FieldType.long), Jvm.Cond.code ({ cls := "com/example/sharp_bound/sharpbound/SeededRandom", name := "nextLong", desc := "()J" } : Jvm.MethodName) prog_24_method_2_code (3 : Nat) (Option.some Jvm.ClassFile.FieldType.long), Jvm.Cond.code ({ cls := "com/example/sharp_bound/sharpbound/SeededRandomBelowPinLaw", name := "complete", desc := "(JJ)Z" } : Jvm.MethodName) method_2_code (4 : Nat) (Option.some Jvm.ClassFile.FieldType.boolean)]
set_option maxRecDepth 65536 in
theorem codes_eq : words1.filter isCode = codes1 := rfl
theorem w_codes : ∀ c ∈ words1.filter isCode, c.before args0 about1 = true := by
  rw [codes_eq]
  intro c hc
  simp only [codes1, List.mem_cons, List.not_mem_nil, or_false] at hc
  rcases hc with rfl | rfl | rfl | rfl | rfl | rfl
  · exact w_c0
  · exact w_c1
  · exact w_c2
  · exact w_c3
  · exact w_c4
  · exact w_c5
set_option maxRecDepth 65536 in
theorem w_t1 : (words1.take 24).all (fun c => isCode c || c.before args0 about1) = true := by decide +kernel
set_option maxRecDepth 65536 in
theorem w_t2 : (words1.drop 24).all (fun c => isCode c || c.before args0 about1) = true := by decide +kernel
theorem w_tables : (allAtoms (Jvm.Cond.code x code maxLocals ret :: tables_1)).before args0 about1 = true := by
  rw [allAtoms_all]
  show words1.all (fun c => c.before args0 about1) = true
  refine all_split ?_ w_codes
  rw [← List.take_append_drop 24 words1, List.all_append, w_t1, w_t2]
  rfl
set_option maxRecDepth 65536 in
theorem w_case : (Jvm.Cond.and given_1 narrow_1).before args0 about1 = true := by decide +kernel
theorem w_applies : (headSpec (Jvm.Cond.code x code maxLocals ret :: tables_1) room_1).applies x e0.platform about1 = true :=
  (Spec.applies_iff w_frames).mpr ⟨w_running, w_runnable, w_alone, w_named, w_hears, w_ripe, w_room, w_tables⟩
theorem atStart : AtStart classFile x code maxLocals ret World_1 tables_1 room_1 Calls_1 rest_1 Pre_1 launch0 p0 e0 about1 theMethod args0 below0 :=
  ⟨lists_1, trivial, launch0.admits_env _ _ _, launch0.least_env, fairChoices_fair.cas, fairChoices_fair.clock, w_frames, w_args, w_heap, w_applies, trivial, trivial, w_case⟩
end start1
theorem witness_1 : WitnessClaimed_1 := ⟨start1.p0, start1.e0, start1.about1, start1.theMethod, start1.args0, start1.below0, start1.atStart⟩
end Jvm.Pilot.@@N@@
