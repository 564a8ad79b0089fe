import JvmDerived
import JvmDerived.Pilot.@@N@@Statement
import JvmDerived.Pilot.@@N@@Code
set_option linter.unusedVariables false
set_option linter.unusedSimpArgs false
namespace Jvm.Pilot.@@N@@
open Jvm Jvm.ClassFile Sem Op Lib Jvm.Free Jvm.Stand Jvm.LawKit Jvm.RoadKit Bundle Jvm.Pilot.@@N@@.Jvm.D
-- OWN KIT (mine): reach, finish, weakening of the counters, arrays by a function, arithmetic in omega's form
abbrev own_R (tb : Tables) (e : Env) (below : List Frame) (F0 F : State) : Prop := ∀ t, Steps tb e below F t → Steps tb e below F0 t
abbrev own_G (p : Program) (e : Env) (below : List Frame) (s F0 : State) (Q : Option Value → Heap → List Loc → Prop) (kc ks : Nat) : Prop :=
  ∃ s₂ o, Steps p.tables e below F0 s₂ ∧ s₂.status = .running ∧ Ended s₂ below o ∧ ∃ v L, o = .returned v ∧ Q v s₂.heap L ∧ FrameEnd s o s₂ L kc ks
section OwnKit
variable {p : Program} {l : Launch} {e : Env} {R : Room} {s : State} {m : MethodId} {args : Array Value} {below : List Frame} {meth : Method} {c : Code} {T : State} {locs : List Loc} {cells slots : Nat}
theorem own_fin (X : Stand p l e R s m args below meth c T locs cells slots) (hl : meth.locks = false) {F0 : State} {Q : Option Value → Heap → List Loc → Prop} {kc ks : Nat} (v : Option Value) (hv : meth.sig.returnType = none → v = none) (hq : Q v T.heap locs) (hc : cells ≤ kc) (hs : slots ≤ ks)
    (st : ∀ fs, (∀ (f : JFrame) (acts : List Action), f.method = m → f.locked = none → f.entered = [] → (doReturn e (T.setTop f) acts v).1 = T.setFrames fs) → Steps p.tables e below F0 (T.setFrames fs)) : own_G p e below s F0 Q kc ks := by
  obtain ⟨fs, hr, hrun, hended, hW, hsame⟩ := X.leave hv hl
  exact ⟨_, _, st fs hr, hrun, hended, _, _, rfl, hq, ⟨_, rfl⟩, hW, hsame.mono hc hs⟩
theorem own_mono (X : Stand p l e R s m args below meth c T locs cells slots) {c' s' : Nat} (hc : cells ≤ c') (hs : slots ≤ s') : Stand p l e R s m args below meth c T locs c' s' := { X with same := X.same.mono hc hs }
end OwnKit
theorem own_hv {meth : Method} {t : FieldType} {v : Option Value} (h : meth.sig.returnType = some t) : meth.sig.returnType = none → v = none := fun q => by rw [h] at q; cases q
theorem own_lt32 {a b : Int32} (h : a < b) : a.toInt < b.toInt := Int32.lt_iff_toInt_lt.mp h
theorem own_nlt32 {a b : Int32} (h : ¬ a < b) : b.toInt ≤ a.toInt := Int.not_lt.mp fun q => h (Int32.lt_iff_toInt_lt.mpr q)
theorem own_eq32 {a b : Int32} (h : a = b) : a.toInt = b.toInt := congrArg Int32.toInt h
theorem own_ne32 {a b : Int32} (h : ¬ a = b) : a.toInt ≠ b.toInt := fun q => h (Int32.toInt_inj.mp q)
theorem own_lt64 {a b : Int64} (h : a < b) : a.toInt < b.toInt := Int64.lt_iff_toInt_lt.mp h
theorem own_nlt64 {a b : Int64} (h : ¬ a < b) : b.toInt ≤ a.toInt := Int.not_lt.mp fun q => h (Int64.lt_iff_toInt_lt.mpr q)
theorem own_eq64 {a b : Int64} (h : a = b) : a.toInt = b.toInt := congrArg Int64.toInt h
theorem own_ne64 {a b : Int64} (h : ¬ a = b) : a.toInt ≠ b.toInt := fun q => h (Int64.toInt_inj.mp q)
theorem own_imulc (x y : Int32) (d : Int) (h : y.toInt = d) : ((x * y).toInt - x.toInt * d) % 4294967296 = 0 := by rw [← h]; exact c_imul x y
theorem own_imulc' (x y : Int32) (d : Int) (h : x.toInt = d) : ((x * y).toInt - d * y.toInt) % 4294967296 = 0 := by rw [← h]; exact c_imul x y
theorem own_lmulc (x y : Int64) (d : Int) (h : y.toInt = d) : ((x * y).toInt - x.toInt * d) % 18446744073709551616 = 0 := by rw [← h]; exact c_lmul x y
theorem own_lmulc' (x y : Int64) (d : Int) (h : x.toInt = d) : ((x * y).toInt - d * y.toInt) % 18446744073709551616 = 0 := by rw [← h]; exact c_lmul x y
theorem own_mask (x m : Int32) (k : Nat) (P : Int) (hk : k ≤ 31) (hm : m.toBitVec.toNat = 2 ^ k - 1) (hP : P = ((2 ^ k : Nat) : Int)) : (x &&& m).toInt = x.toInt % P := by rw [hP]; exact c_mask x m k hk hm
theorem own_maskL (x m : Int64) (k : Nat) (P : Int) (hk : k ≤ 63) (hm : m.toBitVec.toNat = 2 ^ k - 1) (hP : P = ((2 ^ k : Nat) : Int)) : (x &&& m).toInt = x.toInt % P := by rw [hP]; exact c_maskL x m k hk hm
theorem own_ishr (x q : Int32) (k : Nat) (P : Int) (hk : q.toBitVec.toNat % 32 = k) (hP : P = ((2 ^ k : Nat) : Int)) : (x >>> (q &&& 31)).toInt = x.toInt / P := by rw [hP]; exact c_ishr x q k hk
theorem own_ishl (x q : Int32) (k : Nat) (P : Int) (hk : q.toBitVec.toNat % 32 = k) (hP : P = ((2 ^ k : Nat) : Int)) : ((x <<< (q &&& 31)).toInt - x.toInt * P) % 4294967296 = 0 := by rw [hP]; exact c_ishl x q k hk
theorem own_iushr (x q : Int32) (k : Nat) (P : Int) (hk : q.toBitVec.toNat % 32 = k) (h0 : 0 < k) (hP : P = ((2 ^ k : Nat) : Int)) : ((x.toUInt32 >>> (q &&& 31).toUInt32).toInt32).toInt = (x.toInt % 4294967296) / P := by rw [hP]; exact c_iushr x q k hk h0
theorem own_lshr (x : Int64) (q : Int32) (k : Nat) (P : Int) (hk : q.toBitVec.toNat % 64 = k) (hP : P = ((2 ^ k : Nat) : Int)) : (x >>> (q &&& 0x3f).toInt64).toInt = x.toInt / P := by rw [hP]; exact c_lshr x q k hk
theorem own_lshl (x : Int64) (q : Int32) (k : Nat) (P : Int) (hk : q.toBitVec.toNat % 64 = k) (hP : P = ((2 ^ k : Nat) : Int)) : ((x <<< (q &&& 0x3f).toInt64).toInt - x.toInt * P) % 18446744073709551616 = 0 := by rw [hP]; exact c_lshl x q k hk
theorem own_lushr (x : Int64) (q : Int32) (k : Nat) (P : Int) (hk : q.toBitVec.toNat % 64 = k) (h0 : 0 < k) (hP : P = ((2 ^ k : Nat) : Int)) : ((x.toUInt64 >>> (q &&& 0x3f).toInt64.toUInt64).toInt64).toInt = (x.toInt % 18446744073709551616) / P := by rw [hP]; exact c_lushr x q k hk h0
theorem own_lc_lt {x y : Int64} {cd : ClassFile.Cond} {b : Bool} (h : if_icmp.holds cd (lcmpW x y) 0 = b) : ifCond.holds cd (lcmpW x y) = b := (if0 _ _).trans h
theorem own_l_lt {x y : Int64} (h : x < y) : ifCond.holds .lt (lcmpW x y) = true ∧ ifCond.holds .ge (lcmpW x y) = false := ⟨(if0 _ _).trans (tlt ((lw_lt x y).mpr h)).1, (if0 _ _).trans (tlt ((lw_lt x y).mpr h)).2.1⟩
theorem own_l_nlt {x y : Int64} (h : ¬ x < y) : ifCond.holds .lt (lcmpW x y) = false ∧ ifCond.holds .ge (lcmpW x y) = true := ⟨(if0 _ _).trans (flt (fun q => h ((lw_lt x y).mp q))).1, (if0 _ _).trans (flt (fun q => h ((lw_lt x y).mp q))).2.1⟩
theorem own_l_gt {x y : Int64} (h : y < x) : ifCond.holds .gt (lcmpW x y) = true ∧ ifCond.holds .le (lcmpW x y) = false := ⟨(if0 _ _).trans (tlt ((lw_gt x y).mpr h)).2.2.1, (if0 _ _).trans (tlt ((lw_gt x y).mpr h)).2.2.2⟩
theorem own_l_ngt {x y : Int64} (h : ¬ y < x) : ifCond.holds .gt (lcmpW x y) = false ∧ ifCond.holds .le (lcmpW x y) = true := ⟨(if0 _ _).trans (flt (fun q => h ((lw_gt x y).mp q))).2.2.1, (if0 _ _).trans (flt (fun q => h ((lw_gt x y).mp q))).2.2.2⟩
theorem own_l_eq {x y : Int64} (h : x = y) : ifCond.holds .eq (lcmpW x y) = true ∧ ifCond.holds .ne (lcmpW x y) = false := ⟨(if0 _ _).trans (teq ((lw_eq x y).mpr h)).1, (if0 _ _).trans (teq ((lw_eq x y).mpr h)).2⟩
theorem own_l_neq {x y : Int64} (h : ¬ x = y) : ifCond.holds .eq (lcmpW x y) = false ∧ ifCond.holds .ne (lcmpW x y) = true := ⟨(if0 _ _).trans (feq (fun q => h ((lw_eq x y).mp q))).1, (if0 _ _).trans (feq (fun q => h ((lw_eq x y).mp q))).2⟩
theorem own_lrem {x y : Int64} {d : Int} (hy : y.toInt = d) : (0 ≤ x.toInt → (x - (x / y) * y).toInt = x.toInt % d) ∧ (x.toInt < 0 → (x - (x / y) * y).toInt = -((-x.toInt) % d)) := c_lrem x y d hy
theorem own_lremf (x y : Int64) (d : Int) (hy : y.toInt = d) : (0 ≤ x.toInt → (x % y).toInt = x.toInt % d) ∧ (x.toInt < 0 → (x % y).toInt = -((-x.toInt) % d)) := by rw [Int64.toInt_mod, hy]; exact tr _ _
theorem own_lremM {p : Program} {l : Launch} {e : Env} {R : Room} {s : State} {m : MethodId} {args : Array Value} {below : List Frame} {meth : Method} {c : Code} {T : State} {locs : List Loc} {cells slots : Nat} {g : JFrame} {target : State} (X : Stand p l e R s m args below meth c T locs cells slots) (hx : p.tables.exec = Jvm.exec) (hg : g.method = m) {x y : Int64} {rest : List Value} (hd : decode c.code g.pc = .ok (.lrem, 1)) (hs : g.stack = .long y :: .long x :: rest) (hy : y ≠ 0)
    (hr : Steps p.tables e below (T.setTop { g with pc := g.pc + 1, stack := .long (x % y) :: rest }) target) : Steps p.tables e below (T.setTop g) target :=
  XS.lrem X.here hx hg hd hs hy (by rw [lrem_mod]; exact hr)
theorem own_R32 (x : Int32) : -2147483648 ≤ x.toInt ∧ x.toInt ≤ 2147483647 := by have := rng32 x; omega
theorem own_R64 (x : Int64) : -9223372036854775808 ≤ x.toInt ∧ x.toInt ≤ 9223372036854775807 := by have := rng64 x; omega
theorem own_iaddR {x y : Int32} {a b c d : Int} (lo hi : Int) (hx : a ≤ x.toInt ∧ x.toInt ≤ b) (hy : c ≤ y.toInt ∧ y.toInt ≤ d) (h1 : -2147483648 ≤ a + c ∧ b + d ≤ 2147483647) (h2 : lo ≤ a + c ∧ b + d ≤ hi) : (x + y).toInt = x.toInt + y.toInt ∧ lo ≤ (x + y).toInt ∧ (x + y).toInt ≤ hi := by have := c_iadd x y; have := rng32 (x + y); omega
theorem own_isubR {x y : Int32} {a b c d : Int} (lo hi : Int) (hx : a ≤ x.toInt ∧ x.toInt ≤ b) (hy : c ≤ y.toInt ∧ y.toInt ≤ d) (h1 : -2147483648 ≤ a - d ∧ b - c ≤ 2147483647) (h2 : lo ≤ a - d ∧ b - c ≤ hi) : (x - y).toInt = x.toInt - y.toInt ∧ lo ≤ (x - y).toInt ∧ (x - y).toInt ≤ hi := by have := c_isub x y; have := rng32 (x - y); omega
theorem own_laddR {x y : Int64} {a b c d : Int} (lo hi : Int) (hx : a ≤ x.toInt ∧ x.toInt ≤ b) (hy : c ≤ y.toInt ∧ y.toInt ≤ d) (h1 : -9223372036854775808 ≤ a + c ∧ b + d ≤ 9223372036854775807) (h2 : lo ≤ a + c ∧ b + d ≤ hi) : (x + y).toInt = x.toInt + y.toInt ∧ lo ≤ (x + y).toInt ∧ (x + y).toInt ≤ hi := by have := c_ladd x y; have := rng64 (x + y); omega
theorem own_lsubR {x y : Int64} {a b c d : Int} (lo hi : Int) (hx : a ≤ x.toInt ∧ x.toInt ≤ b) (hy : c ≤ y.toInt ∧ y.toInt ≤ d) (h1 : -9223372036854775808 ≤ a - d ∧ b - c ≤ 9223372036854775807) (h2 : lo ≤ a - d ∧ b - c ≤ hi) : (x - y).toInt = x.toInt - y.toInt ∧ lo ≤ (x - y).toInt ∧ (x - y).toInt ≤ hi := by have := c_lsub x y; have := rng64 (x - y); omega
theorem own_imulR {x y : Int32} {a b k : Int} (lo hi : Int) (hx : a ≤ x.toInt ∧ x.toInt ≤ b) (hy : y.toInt = k) (hk : 0 ≤ k) (h1 : -2147483648 ≤ a * k ∧ b * k ≤ 2147483647) (h2 : lo ≤ a * k ∧ b * k ≤ hi) : (x * y).toInt = x.toInt * k ∧ lo ≤ (x * y).toInt ∧ (x * y).toInt ≤ hi := by
  have h := c_imul x y; have := rng32 (x * y); rw [hy] at h
  have p1 := Int.mul_le_mul_of_nonneg_right hx.1 hk; have p2 := Int.mul_le_mul_of_nonneg_right hx.2 hk
  generalize x.toInt * k = z at *; generalize a * k = z1 at *; generalize b * k = z2 at *; omega
theorem own_lmulR {x y : Int64} {a b k : Int} (lo hi : Int) (hx : a ≤ x.toInt ∧ x.toInt ≤ b) (hy : y.toInt = k) (hk : 0 ≤ k) (h1 : -9223372036854775808 ≤ a * k ∧ b * k ≤ 9223372036854775807) (h2 : lo ≤ a * k ∧ b * k ≤ hi) : (x * y).toInt = x.toInt * k ∧ lo ≤ (x * y).toInt ∧ (x * y).toInt ≤ hi := by
  have h := c_lmul x y; have := rng64 (x * y); rw [hy] at h
  have p1 := Int.mul_le_mul_of_nonneg_right hx.1 hk; have p2 := Int.mul_le_mul_of_nonneg_right hx.2 hk
  generalize x.toInt * k = z at *; generalize a * k = z1 at *; generalize b * k = z2 at *; omega
theorem own_imulR' {x y : Int32} {a b k : Int} (lo hi : Int) (hx : a ≤ y.toInt ∧ y.toInt ≤ b) (hy : x.toInt = k) (hk : 0 ≤ k) (h1 : -2147483648 ≤ a * k ∧ b * k ≤ 2147483647) (h2 : lo ≤ a * k ∧ b * k ≤ hi) : (x * y).toInt = y.toInt * k ∧ lo ≤ (x * y).toInt ∧ (x * y).toInt ≤ hi := by rw [Int32.mul_comm]; exact own_imulR lo hi hx hy hk h1 h2
theorem own_lmulR' {x y : Int64} {a b k : Int} (lo hi : Int) (hx : a ≤ y.toInt ∧ y.toInt ≤ b) (hy : x.toInt = k) (hk : 0 ≤ k) (h1 : -9223372036854775808 ≤ a * k ∧ b * k ≤ 9223372036854775807) (h2 : lo ≤ a * k ∧ b * k ≤ hi) : (x * y).toInt = y.toInt * k ∧ lo ≤ (x * y).toInt ∧ (x * y).toInt ≤ hi := by rw [Int64.mul_comm]; exact own_lmulR lo hi hx hy hk h1 h2
theorem own_maskR (x m : Int32) (k : Nat) (P : Int) (hk : k ≤ 31) (hm : m.toBitVec.toNat = 2 ^ k - 1) (hP : P = ((2 ^ k : Nat) : Int)) (hi : Int) (h0 : 0 < P) (h : P ≤ hi + 1) : (x &&& m).toInt = x.toInt % P ∧ 0 ≤ (x &&& m).toInt ∧ (x &&& m).toInt ≤ hi := by
  have e := own_mask x m k P hk hm hP; have h1 := Int.emod_nonneg x.toInt (show P ≠ 0 by omega); have h2 := Int.emod_lt_of_pos x.toInt h0; omega
theorem own_maskLR (x m : Int64) (k : Nat) (P : Int) (hk : k ≤ 63) (hm : m.toBitVec.toNat = 2 ^ k - 1) (hP : P = ((2 ^ k : Nat) : Int)) (hi : Int) (h0 : 0 < P) (h : P ≤ hi + 1) : (x &&& m).toInt = x.toInt % P ∧ 0 ≤ (x &&& m).toInt ∧ (x &&& m).toInt ≤ hi := by
  have e := own_maskL x m k P hk hm hP; have h1 := Int.emod_nonneg x.toInt (show P ≠ 0 by omega); have h2 := Int.emod_lt_of_pos x.toInt h0; omega
theorem own_iremR {x y : Int32} {a b d : Int} (hi : Int) (hx : a ≤ x.toInt ∧ x.toInt ≤ b) (hy : y.toInt = d) (ha : 0 ≤ a) (hd : 0 < d) (h : d ≤ hi + 1) : (x % y).toInt = x.toInt % d ∧ 0 ≤ (x % y).toInt ∧ (x % y).toInt ≤ hi := by
  have e := (c_irem x y d hy).1 (by omega); have h1 := Int.emod_nonneg x.toInt (show d ≠ 0 by omega); have h2 := Int.emod_lt_of_pos x.toInt hd; omega
theorem own_lremR {x y : Int64} {a b d : Int} (hi : Int) (hx : a ≤ x.toInt ∧ x.toInt ≤ b) (hy : y.toInt = d) (ha : 0 ≤ a) (hd : 0 < d) (h : d ≤ hi + 1) : (x % y).toInt = x.toInt % d ∧ 0 ≤ (x % y).toInt ∧ (x % y).toInt ≤ hi := by
  have e := (own_lremf x y d hy).1 (by omega); have h1 := Int.emod_nonneg x.toInt (show d ≠ 0 by omega); have h2 := Int.emod_lt_of_pos x.toInt hd; omega
theorem own_idivR {x y : Int32} {a b d : Int} (lo hi : Int) (hx : a ≤ x.toInt ∧ x.toInt ≤ b) (hy : y.toInt = d) (hy1 : y ≠ -1) (ha : 0 ≤ a) (hd : 0 < d) (h : lo ≤ a / d ∧ b / d ≤ hi) : (x / y).toInt = x.toInt / d ∧ lo ≤ (x / y).toInt ∧ (x / y).toInt ≤ hi := by
  have e := (c_idiv x y d hy hy1).1 (by omega); have h1 := Int.ediv_le_ediv hd hx.1; have h2 := Int.ediv_le_ediv hd hx.2; omega
theorem own_ldivR {x y : Int64} {a b d : Int} (lo hi : Int) (hx : a ≤ x.toInt ∧ x.toInt ≤ b) (hy : y.toInt = d) (hy1 : y ≠ -1) (ha : 0 ≤ a) (hd : 0 < d) (h : lo ≤ a / d ∧ b / d ≤ hi) : (x / y).toInt = x.toInt / d ∧ lo ≤ (x / y).toInt ∧ (x / y).toInt ≤ hi := by
  have e := (c_ldiv x y d hy hy1).1 (by omega); have h1 := Int.ediv_le_ediv hd hx.1; have h2 := Int.ediv_le_ediv hd hx.2; omega
theorem own_l2iR {x : Int64} {a b : Int} (hx : a ≤ x.toInt ∧ x.toInt ≤ b) (h1 : -2147483648 ≤ a ∧ b ≤ 2147483647) : x.toInt32.toInt = x.toInt ∧ a ≤ x.toInt32.toInt ∧ x.toInt32.toInt ≤ b := by have := c_l2i x; have := rng32 x.toInt32; omega
theorem own_i2lR {x : Int32} {a b : Int} (hx : a ≤ x.toInt ∧ x.toInt ≤ b) : x.toInt64.toInt = x.toInt ∧ a ≤ x.toInt64.toInt ∧ x.toInt64.toInt ≤ b := by have := c_i2l x; omega
theorem own_eqR32 {x y : Int32} {a b : Int} (h : x = y) (hy : a ≤ y.toInt ∧ y.toInt ≤ b) : x.toInt = y.toInt ∧ a ≤ x.toInt ∧ x.toInt ≤ b := by subst h; exact ⟨rfl, hy⟩
theorem own_eqR64 {x y : Int64} {a b : Int} (h : x = y) (hy : a ≤ y.toInt ∧ y.toInt ≤ b) : x.toInt = y.toInt ∧ a ≤ x.toInt ∧ x.toInt ≤ b := by subst h; exact ⟨rfl, hy⟩
theorem own_lushrR {x : Int64} {a b : Int} (q : Int32) (k : Nat) (P lo hi : Int) (hx : a ≤ x.toInt ∧ x.toInt ≤ b) (ha : 0 ≤ a) (hk : q.toBitVec.toNat % 64 = k) (h0 : 0 < k) (hP : P = ((2 ^ k : Nat) : Int)) (hPp : 0 < P) (h : lo ≤ a / P ∧ b / P ≤ hi) : ((x.toUInt64 >>> (q &&& 0x3f).toInt64.toUInt64).toInt64).toInt = x.toInt / P ∧ lo ≤ ((x.toUInt64 >>> (q &&& 0x3f).toInt64.toUInt64).toInt64).toInt ∧ ((x.toUInt64 >>> (q &&& 0x3f).toInt64.toUInt64).toInt64).toInt ≤ hi := by
  have e := own_lushr x q k P hk h0 hP; have := rng64 x; rw [Int.emod_eq_of_lt (by omega) (by omega)] at e; have h1 := Int.ediv_le_ediv hPp hx.1; have h2 := Int.ediv_le_ediv hPp hx.2; omega
theorem own_iushrR {x : Int32} {a b : Int} (q : Int32) (k : Nat) (P lo hi : Int) (hx : a ≤ x.toInt ∧ x.toInt ≤ b) (ha : 0 ≤ a) (hk : q.toBitVec.toNat % 32 = k) (h0 : 0 < k) (hP : P = ((2 ^ k : Nat) : Int)) (hPp : 0 < P) (h : lo ≤ a / P ∧ b / P ≤ hi) : ((x.toUInt32 >>> (q &&& 31).toUInt32).toInt32).toInt = x.toInt / P ∧ lo ≤ ((x.toUInt32 >>> (q &&& 31).toUInt32).toInt32).toInt ∧ ((x.toUInt32 >>> (q &&& 31).toUInt32).toInt32).toInt ≤ hi := by
  have e := own_iushr x q k P hk h0 hP; have := rng32 x; rw [Int.emod_eq_of_lt (by omega) (by omega)] at e; have h1 := Int.ediv_le_ediv hPp hx.1; have h2 := Int.ediv_le_ediv hPp hx.2; omega
theorem own_iremVR {x y : Int32} {a b c d : Int} (hi : Int) (hx : a ≤ x.toInt ∧ x.toInt ≤ b) (hy : c ≤ y.toInt ∧ y.toInt ≤ d) (ha : 0 ≤ a) (hc : 0 < c) (h : d ≤ hi + 1) : ((x % y).toInt < y.toInt ∧ (x % y).toInt ≤ x.toInt) ∧ 0 ≤ (x % y).toInt ∧ (x % y).toInt ≤ hi := by
  have q := (c_iremV x y).1 (by omega) (by omega); omega
-- OWN KIT 1 (mine): an array by a function of its places
def own_Arf (Z : State) (h : Heap) (a : Addr) (ty : FieldType) (n : Nat) (f : Nat → Value) : Prop := ∃ c : Cell, Arr Z h a c ty ∧ c.slots.size = n ∧ n < 2 ^ 31 ∧ ∀ j, j < n → c.slots[j]? = some (f j)
section OwnArf
variable {Z : State} {h h' : Heap} {a b : Addr} {ty : FieldType} {n : Nat} {f f' : Nat → Value} {sl : Nat} {v : Value} {ws : List Addr}
theorem own_Arf.lt (F : own_Arf Z h a ty n f) : a < h.size := by obtain ⟨c, A, -⟩ := F; exact A.lt
theorem own_Arf.ext (F : own_Arf Z h a ty n f) (E : Ext h h') : own_Arf Z h' a ty n f := by obtain ⟨c, A, r⟩ := F; exact ⟨c, A.ext E, r⟩
theorem own_Arf.other (F : own_Arf Z h b ty n f) (W : Wr h h' a sl v) (q : b ≠ a) : own_Arf Z h' b ty n f := by obtain ⟨c, A, r⟩ := F; exact ⟨c, A.other W q, r⟩
theorem own_Arf.keep (F : own_Arf Z h a ty n f) (K : Keep h h' ws) (q : a ∉ ws) : own_Arf Z h' a ty n f := by obtain ⟨c, A, r⟩ := F; exact ⟨c, ⟨K.2.1 a c A.1 q, A.2⟩, r⟩
theorem own_Arf.cong (F : own_Arf Z h a ty n f) (q : ∀ j, j < n → f j = f' j) : own_Arf Z h a ty n f' := by obtain ⟨c, A, r1, r2, r3⟩ := F; exact ⟨c, A, r1, r2, fun j hj => (q j hj) ▸ r3 j hj⟩
theorem own_Arf.new {k : ClassId} {z : Int32} (A : Arr Z h a (newA k ty z) ty) (q : ¬ z < 0) : own_Arf Z h a ty z.toNatClampNeg (fun _ => defaultValue ty) :=
  ⟨_, A, sz_new _ _ _, (back32 q).2, fun j hj => by simp [newA, hj]⟩
theorem own_inb {j : Int32} {n : Nat} (h1 : 0 ≤ j.toInt) (h2 : j.toInt < n) : ¬ (j < 0 ∨ n ≤ j.toNatClampNeg) := by
  have q : j.toNatClampNeg = j.toInt.toNat := rfl
  rintro (p | p)
  · have := Int32.lt_iff_toInt_lt.mp p; rw [show (0 : Int32).toInt = 0 from rfl] at this; omega
  · rw [q] at p; omega
theorem own_set {c : Cell} {k : Nat} (A : Arr Z h a c ty) (S : c.slots.size = n) (hn : n < 2 ^ 31) (H : ∀ j, j < n → c.slots[j]? = some (f j)) (W : Wr h h' a k v) (hk : k < n) : own_Arf Z h' a ty n (fun i => if i = k then v else f i) := by
  refine ⟨_, A.same W, by rw [sz_set]; exact S, hn, fun j hj => ?_⟩
  by_cases q : j = k
  · subst q; simp [Cell.setSlot, S, hj]
  · show _ = some (if j = k then v else f j)
    rw [if_neg q, ← H j hj]; exact Array.getElem?_setIfInBounds_ne (Ne.symm q)
variable {p : Program} {l : Launch} {e : Env} {R : Room} {s : State} {m : MethodId} {args : Array Value} {below : List Frame} {meth : Method} {c : Code} {T : State} {locs : List Loc} {cells slots : Nat}
theorem own_ld {A : Prop} {j : Int32} (F : own_Arf Z h a ty n f) (h1 : 0 ≤ j.toInt) (h2 : j.toInt < n) (k : ∀ c : Cell, Arr Z h a c ty → ¬ (j < 0 ∨ c.slots.size ≤ j.toNatClampNeg) → c.slots[j.toNatClampNeg]? = some (f j.toNatClampNeg) → A) : A := by
  obtain ⟨c, Ar, S, hn, H⟩ := F
  exact k c Ar (by rw [S]; exact own_inb h1 h2) (H _ (by have q : j.toNatClampNeg = j.toInt.toNat := rfl; omega))
theorem own_iaload (X : Stand p l e R s m args below meth c T locs cells slots) (hx : p.tables.exec = Jvm.exec) (hZ : Z.Warmed39 s.vm) (eT : T.heap = h) {j : Int32} (F : own_Arf Z h a .int n f) (h1 : 0 ≤ j.toInt) (h2 : j.toInt < n) {w : Value} (hv : f j.toNatClampNeg = w) {g : JFrame} (hg : g.method = m) {rest : List Value} (hs : g.stack = .int j :: .ref a :: rest) (hd : decode c.code g.pc = .ok (.iaload, 1)) :
    ∀ target, Steps p.tables e below (T.setTop { g with pc := g.pc + 1, stack := w :: rest }) target → Steps p.tables e below (T.setTop g) target := by
  subst hv
  exact own_ld F h1 h2 fun cl Ar hin hat => X.iaload hx (j := j) (by rw [eT]; exact Ar.1) (State.isArrayOf_alike hZ.alike Ar.2.1) Ar.2.2 hin hat hg hs hd
theorem own_baloadB (X : Stand p l e R s m args below meth c T locs cells slots) (hx : p.tables.exec = Jvm.exec) (hZ : Z.Warmed39 s.vm) (eT : T.heap = h) {j : Int32} (F : own_Arf Z h a .byte n f) (h1 : 0 ≤ j.toInt) (h2 : j.toInt < n) {w : Value} (hv : f j.toNatClampNeg = w) {g : JFrame} (hg : g.method = m) {rest : List Value} (hs : g.stack = .int j :: .ref a :: rest) (hd : decode c.code g.pc = .ok (.baload, 1)) :
    ∀ target, Steps p.tables e below (T.setTop { g with pc := g.pc + 1, stack := w :: rest }) target → Steps p.tables e below (T.setTop g) target := by
  subst hv
  exact own_ld F h1 h2 fun cl Ar hin hat => X.baloadBytes hx (j := j) (by rw [eT]; exact Ar.1) (State.isArrayOf_alike hZ.alike Ar.2.1) Ar.2.2 hin hat hg hs hd
theorem own_baloadZ (X : Stand p l e R s m args below meth c T locs cells slots) (hx : p.tables.exec = Jvm.exec) (hZ : Z.Warmed39 s.vm) (eT : T.heap = h) {j : Int32} (F : own_Arf Z h a .boolean n f) (h1 : 0 ≤ j.toInt) (h2 : j.toInt < n) {w : Value} (hv : f j.toNatClampNeg = w) {g : JFrame} (hg : g.method = m) {rest : List Value} (hs : g.stack = .int j :: .ref a :: rest) (hd : decode c.code g.pc = .ok (.baload, 1)) :
    ∀ target, Steps p.tables e below (T.setTop { g with pc := g.pc + 1, stack := w :: rest }) target → Steps p.tables e below (T.setTop g) target := by
  subst hv
  exact own_ld F h1 h2 fun cl Ar hin hat => X.baloadBooleans hx (j := j) (by rw [eT]; exact Ar.1) (State.isArrayOf_alike hZ.alike Ar.2.1) Ar.2.2 hin hat hg hs hd
theorem own_len32 {c : Cell} {n : Nat} (S : c.slots.size = n) {z : Int32} (hz : z = Int32.ofNat n) : c.slots.size.toInt32 = z := by rw [S, hz]
theorem own_alen (X : Stand p l e R s m args below meth c T locs cells slots) (hx : p.tables.exec = Jvm.exec) (hZ : Z.Warmed39 s.vm) (eT : T.heap = h) (F : own_Arf Z h a ty n f) (z : Int32) (hz : z = Int32.ofNat n) {g : JFrame} (hg : g.method = m) {rest : List Value} (hs : g.stack = .ref a :: rest) (hd : decode c.code g.pc = .ok (.arraylength, 1)) :
    ∀ target, Steps p.tables e below (T.setTop { g with pc := g.pc + 1, stack := .int z :: rest }) target → Steps p.tables e below (T.setTop g) target := by
  obtain ⟨cl, Ar, S, hn, H⟩ := F
  intro t k
  refine X.arraylength hx (cell := cl) (by rw [eT]; exact Ar.1) (State.isArrayOf_alike hZ.alike Ar.2.1) hg hs hd t ?_
  rw [own_len32 S hz]; exact k
theorem own_stI (X : Stand p l e R s m args below meth c T locs cells slots) (hx : p.tables.exec = Jvm.exec) (hZ : Z.Warmed39 s.vm) (eT : T.heap = h) {j x : Int32} (F : own_Arf Z h a .int n f) (h1 : 0 ≤ j.toInt) (h2 : j.toInt < n) {g : JFrame} (hg : g.method = m) {rest : List Value} (hs : g.stack = .int x :: .int j :: .ref a :: rest) (hd : decode c.code g.pc = .ok (.iastore, 1)) :
    ∃ T' h', Stand p l e R s m args below meth c T' (locs ++ [⟨a, j.toNatClampNeg⟩]) cells slots ∧ T'.heap = h' ∧ Wr h h' a j.toNatClampNeg (.int x) ∧ own_Arf Z h' a .int n (fun i => if i = j.toNatClampNeg then .int x else f i) ∧ ∀ target, Steps p.tables e below (T'.setTop { g with pc := g.pc + 1, stack := rest }) target → Steps p.tables e below (T.setTop g) target := by
  obtain ⟨cl, Ar, S, hn, H⟩ := F
  have hin : ¬ (j < 0 ∨ cl.slots.size ≤ j.toNatClampNeg) := by rw [S]; exact own_inb h1 h2
  obtain ⟨T', h', X', e', W, st⟩ := stI X hx hZ eT Ar (j := j) hin hg hs hd
  exact ⟨T', h', X', e', W, own_set Ar S hn H W (by have q : j.toNatClampNeg = j.toInt.toNat := rfl; omega), st⟩
theorem own_stB (X : Stand p l e R s m args below meth c T locs cells slots) (hx : p.tables.exec = Jvm.exec) (hZ : Z.Warmed39 s.vm) (eT : T.heap = h) {j x : Int32} (F : own_Arf Z h a .byte n f) (h1 : 0 ≤ j.toInt) (h2 : j.toInt < n) {g : JFrame} (hg : g.method = m) {rest : List Value} (hs : g.stack = .int x :: .int j :: .ref a :: rest) (hd : decode c.code g.pc = .ok (.bastore, 1)) :
    ∃ T' h', Stand p l e R s m args below meth c T' (locs ++ [⟨a, j.toNatClampNeg⟩]) cells slots ∧ T'.heap = h' ∧ Wr h h' a j.toNatClampNeg (.int (nar .byte x)) ∧ own_Arf Z h' a .byte n (fun i => if i = j.toNatClampNeg then .int (nar .byte x) else f i) ∧ ∀ target, Steps p.tables e below (T'.setTop { g with pc := g.pc + 1, stack := rest }) target → Steps p.tables e below (T.setTop g) target := by
  obtain ⟨cl, Ar, S, hn, H⟩ := F
  have hin : ¬ (j < 0 ∨ cl.slots.size ≤ j.toNatClampNeg) := by rw [S]; exact own_inb h1 h2
  obtain ⟨T', h', X', e', W, st⟩ := stB X hx hZ eT Ar (j := j) hin hg hs hd
  exact ⟨T', h', X', e', W, own_set Ar S hn H W (by have q : j.toNatClampNeg = j.toInt.toNat := rfl; omega), st⟩
theorem own_stZ (X : Stand p l e R s m args below meth c T locs cells slots) (hx : p.tables.exec = Jvm.exec) (hZ : Z.Warmed39 s.vm) (eT : T.heap = h) {j x : Int32} (F : own_Arf Z h a .boolean n f) (h1 : 0 ≤ j.toInt) (h2 : j.toInt < n) {g : JFrame} (hg : g.method = m) {rest : List Value} (hs : g.stack = .int x :: .int j :: .ref a :: rest) (hd : decode c.code g.pc = .ok (.bastore, 1)) :
    ∃ T' h', Stand p l e R s m args below meth c T' (locs ++ [⟨a, j.toNatClampNeg⟩]) cells slots ∧ T'.heap = h' ∧ Wr h h' a j.toNatClampNeg (.int (nar .boolean x)) ∧ own_Arf Z h' a .boolean n (fun i => if i = j.toNatClampNeg then .int (nar .boolean x) else f i) ∧ ∀ target, Steps p.tables e below (T'.setTop { g with pc := g.pc + 1, stack := rest }) target → Steps p.tables e below (T.setTop g) target := by
  obtain ⟨cl, Ar, S, hn, H⟩ := F
  have hin : ¬ (j < 0 ∨ cl.slots.size ≤ j.toNatClampNeg) := by rw [S]; exact own_inb h1 h2
  obtain ⟨T', h', X', e', W, st⟩ := stZ X hx hZ eT Ar (j := j) hin hg hs hd
  exact ⟨T', h', X', e', W, own_set Ar S hn H W (by have q : j.toNatClampNeg = j.toInt.toNat := rfl; omega), st⟩
end OwnArf
theorem own_clamp {i : Int32} {k : Nat} (h : i.toInt = k) : i.toNatClampNeg = k := by show i.toInt.toNat = k; omega
theorem own_tabArf {s : State} {a : Addr} {cl : Cell} {ty : FieldType} {n : Nat} (hf : Fit s) (A : Arr s s.heap a cl ty) (ht : ty = .int ∨ ty = .boolean ∨ ty = .byte ∨ ty = .char ∨ ty = .short) (S : cl.slots.size = n) (hn : n < 2 ^ 31) : ∃ g : Nat → Int32, own_Arf s s.heap a ty n (fun i => .int (g i)) := by
  refine ⟨fun i => atv cl (Int32.ofNat i), cl, A, S, hn, fun j hj => ?_⟩
  have e1 : (Int32.ofNat j).toInt = j := Int32.toInt_ofNat_of_lt (by omega)
  have e2 : (Int32.ofNat j).toNatClampNeg = j := by show (Int32.ofNat j).toInt.toNat = j; omega
  have hin : ¬ (Int32.ofNat j < 0 ∨ cl.slots.size ≤ (Int32.ofNat j).toNatClampNeg) := by rw [S]; exact own_inb (by omega) (by omega)
  obtain ⟨v, h1, h2⟩ := elem_fit hf A hin
  obtain ⟨x, rfl⟩ := fit_I h2 ht
  show cl.slots[j]? = some (.int (atv cl (Int32.ofNat j)))
  rw [atv_of h1, ← e2]; exact h1
theorem own_lenOf {args : Array Value} {s : State} {t : Term} {a : Addr} {cl : Cell} {ty : FieldType} {k : Int32} (ev : t.eval args s none [] s = some (.ref a)) (A : Arr s s.heap a cl ty) (h : (Cond.eq (.length t) (.int k)).value args s none s [] = some true) (hk : 0 ≤ k.toInt) : cl.slots.size = k.toInt.toNat ∧ cl.slots.size < 2 ^ 31 := by
  have ha := A.fin (Vm.Alike.refl _)
  by_cases q : cl.slots.size < 2 ^ 31
  · have e1 : (Term.length t).eval args s none [] s = some (.int cl.slots.size.toInt32) := len_f ev ha q
    have e2 : cl.slots.size.toInt32 = k := by
      have hh := h
      simp only [Cond.value] at hh
      rw [e1] at hh
      simpa [Term.eval] using hh
    have e3 := len_toInt q
    rw [e2] at e3
    exact ⟨by omega, q⟩
  · exfalso
    have e1 : (Term.length t).eval args s none [] s = none := by simp [Term.eval, ev, ha, q]
    simp [Cond.value, e1] at h
theorem own_nameI {Z : State} {h : Heap} {a : Addr} {ty : FieldType} {n k : Nat} {g : Nat → Int32} {x : Int32} (V : own_Arf Z h a ty n (fun i => if i = k then .int x else .int (g i))) : ∃ g' : Nat → Int32, (∀ i, g' i = if i = k then x else g i) ∧ own_Arf Z h a ty n (fun i => .int (g' i)) :=
  ⟨fun i => if i = k then x else g i, fun _ => rfl, V.cong (fun i _ => by by_cases q : i = k <;> simp [q])⟩
theorem own_nameD {Z : State} {h : Heap} {a : Addr} {ty : FieldType} {n k : Nat} {g : Nat → UInt64} {x : UInt64} (V : own_Arf Z h a ty n (fun i => if i = k then .double x else .double (g i))) : ∃ g' : Nat → UInt64, (∀ i, g' i = if i = k then x else g i) ∧ own_Arf Z h a ty n (fun i => .double (g' i)) :=
  ⟨fun i => if i = k then x else g i, fun _ => rfl, V.cong (fun i _ => by by_cases q : i = k <;> simp [q])⟩
theorem own_natOf {i : Int32} {lo hi : Int} (h1 : 0 ≤ i.toInt) : ∃ k : Nat, i.toInt = k := ⟨i.toInt.toNat, by omega⟩
theorem own_tn {i : Int32} {k : Nat} (h : i.toInt = k) : i.toBitVec.toNat = k := by
  have h1 : i.toBitVec.toInt = k := h
  have h2 := BitVec.toInt_eq_toNat_cond i.toBitVec
  have h3 := i.toBitVec.isLt
  rw [h1] at h2
  split at h2 <;> omega
-- OWN KIT 3 (mine): extension, clones, arrays of references
theorem own_extR (h : Heap) : Ext h h := ⟨Nat.le_refl _, fun _ _ q => q⟩
theorem own_extT {h h' h'' : Heap} (E : Ext h h') (E' : Ext h' h'') : Ext h h'' := ⟨Nat.le_trans E.1 E'.1, fun a c q => E'.2 a c (E.2 a c q)⟩
theorem own_extK {h h' : Heap} (K : Keep h h' []) : Ext h h' := ⟨K.1, fun a c q => K.2.1 a c q nin0⟩
section OwnRef
variable {Z : State} {h h' : Heap} {a b : Addr} {ty : FieldType} {n : Nat} {f f' : Nat → Value} {p : Program} {l : Launch} {e : Env} {R : Room} {s : State} {m : MethodId} {args : Array Value} {below : List Frame} {meth : Method} {c : Code} {T : State} {locs : List Loc} {cells slots : Nat} {a0 : Array Value}
theorem own_aaload (X : Stand p l e R s m args below meth c T locs cells slots) (hx : p.tables.exec = Jvm.exec) (hZ : Z.Warmed39 s.vm) (eT : T.heap = h) {j : Int32} (F : own_Arf Z h a ty n f) (h1 : 0 ≤ j.toInt) (h2 : j.toInt < n) {w : Value} (hv : f j.toNatClampNeg = w) (hty : ty.isReference = true) {g : JFrame} (hg : g.method = m) {rest : List Value} (hs : g.stack = .int j :: .ref a :: rest) (hd : decode c.code g.pc = .ok (.aaload, 1)) :
    ∀ target, Steps p.tables e below (T.setTop { g with pc := g.pc + 1, stack := w :: rest }) target → Steps p.tables e below (T.setTop g) target := by
  subst hv
  exact own_ld F h1 h2 fun cl Ar hin hat => X.aaload hx (j := j) (by rw [eT]; exact Ar.1) (State.isArrayOf_alike hZ.alike Ar.2.1) hty Ar.2.2 hin hat hg hs hd
theorem own_clone (X : Stand p l e R s m args below meth c T locs cells slots) (hx : p.tables.exec = Jvm.exec) (hZ : Z.Warmed39 s.vm) {own ad : String} {index : Nat} (hown : s.vm.findClass own = some m.cls)
    (w1 : (Cond.methodLink own index ⟨ad, "clone", "()Ljava/lang/Object;"⟩).before a0 Z = true) (w2 : (Cond.sameMethod ad "java/lang/Object" "clone" "()Ljava/lang/Object;").before a0 Z = true) (w3 : (Cond.native ⟨"java/lang/Object", "clone", "()Ljava/lang/Object;"⟩).before a0 Z = true)
    (w4 : (Cond.instanceMethod ⟨"java/lang/Object", "clone", "()Ljava/lang/Object;"⟩).before a0 Z = true) (w5 : (Cond.selects ad ⟨ad, "clone", "()Ljava/lang/Object;"⟩ ⟨"java/lang/Object", "clone", "()Ljava/lang/Object;"⟩).before a0 Z = true) (w6 : (Cond.castable ad "java/lang/Cloneable").before a0 Z = true)
    (eT : T.heap = h) (F : own_Arf Z h a ty n f) (hfit : ∀ j, j < n → fits ty (f j) = true) (E : Exa Z h a ad) {g : JFrame} (hg : g.method = m) (hsize : g.locals.size = c.maxLocals) {rest : List Value} (hs : g.stack = .ref a :: rest) (hd : decode c.code g.pc = .ok (.invokevirtual index, 3))
    (hf : 1 ≤ R.frames) {W cap : Nat} (hW : 2 * g.monitorRoom + (rest.map fun v => v.category).sum ≤ W) (hl : W + 14 ≤ R.locals) (hcap : n ≤ cap) (hc : cells + 1 ≤ R.cells) (hsl : slots + cap ≤ R.slots) :
    ∃ T' h', Stand p l e R s m args below meth c T' locs (cells + 1) (slots + cap) ∧ T'.heap = h' ∧ Ext h h' ∧ own_Arf Z h' h.size ty n f ∧ Exa Z h' h.size ad ∧
      ∀ target, Steps p.tables e below (T'.setTop { g with pc := g.pc + 3, stack := .ref h.size :: rest }) target → Steps p.tables e below (T.setTop g) target := by
  obtain ⟨cl, A, S, hn, H⟩ := F
  have FC : FitC Z cl := fitC_of A fun i hi v hv => by rw [H i (by omega)] at hv; cases hv; exact hfit i (by omega)
  obtain ⟨T', h', X', e', ex, A', E', st⟩ := cloneA X hx hZ hown w1 w2 w3 w4 w5 w6 eT A E FC hg hsize hs hd hf hW hl (by omega) hc hsl
  exact ⟨T', h', X', e', ex, ⟨cloneOf cl, A', S, hn, H⟩, E', st⟩
end OwnRef
theorem own_elemAt {args : Array Value} {s : State} {t u : Term} {a b : Addr} {cl : Cell} {ty : FieldType} {k : Int32} (ev : t.eval args s none [] s = some (.ref a)) (eu : u.eval args s none [] s = some (.ref b)) (A : Arr s s.heap a cl ty) (h : (Cond.eq (.elem t (.int k)) u).value args s none s [] = some true) (hk : ¬ k < 0) : cl.slots[k.toNatClampNeg]? = some (.ref b) := by
  have ha := A.fin (Vm.Alike.refl _)
  have e1 : (Term.elem t (.int k)).eval args s none [] s = cl.slots[k.toNatClampNeg]? := elem_f ev rfl ha hk
  have hh := h
  simp only [Cond.value] at hh
  rw [e1, eu] at hh
  cases hc : cl.slots[k.toNatClampNeg]? with
  | none => rw [hc] at hh; simp at hh
  | some v => rw [hc] at hh; cases v <;> simp at hh; rw [hh]
theorem own_privSel {s : State} {args : Array Value} {y : MethodName} {n : Nat} (hi : (Cond.instantiable y.cls n).before args s = true) (hpriv : s.PrivateAt y) (hinst : (Cond.instanceMethod y).before args s = true) (hy : y.cls ≠ "java/lang/invoke/MethodHandle" ∧ y.cls ≠ "java/lang/invoke/VarHandle") : (Cond.selects y.cls y y).before args s = true := by
  obtain ⟨c, k, h1, h2, -, h4, -⟩ := Cond.instantiable_spec hi
  exact Jvm.Stand.selects_self_of_private h1 h2 (by simp only [Bool.or_eq_false_iff] at h4; exact h4.1) hpriv hinst hy
theorem own_zeroArv {Z : State} {h : Heap} {a : Addr} {ty : FieldType} {n : Nat} {v : Value} (F : own_Arf Z h a ty n (fun _ => v)) (hf : fits ty v = true) : ∃ k, Arv Z h a k ty (Int32.ofNat n) [] v := by
  obtain ⟨c, A, S, hn, H⟩ := F
  have e1 : (Int32.ofNat n).toInt = n := Int32.toInt_ofNat_of_lt (by omega)
  have e2 : (Int32.ofNat n).toNatClampNeg = n := by show (Int32.ofNat n).toInt.toNat = n; omega
  refine ⟨c.cls, c, A, rfl, by rw [e2]; exact S, fun q => ?_, fun k hk => by rw [H k (by omega)]; simp, fun i hi => by simpa using hf⟩
  have := own_lt32 q; rw [show (0 : Int32).toInt = 0 from rfl] at this; omega
-- OWN KIT 5 (mine): arrays of chars; walks that may intern
section OwnChr
variable {Z : State} {h h' : Heap} {a b : Addr} {ty : FieldType} {n : Nat} {f f' : Nat → Value} {p : Program} {l : Launch} {e : Env} {R : Room} {s : State} {m : MethodId} {args : Array Value} {below : List Frame} {meth : Method} {c : Code} {T : State} {locs : List Loc} {cells slots : Nat}
theorem own_caload (X : Stand p l e R s m args below meth c T locs cells slots) (hx : p.tables.exec = Jvm.exec) (hZ : Z.Warmed39 s.vm) (eT : T.heap = h) {j : Int32} (F : own_Arf Z h a .char n f) (h1 : 0 ≤ j.toInt) (h2 : j.toInt < n) {w : Value} (hv : f j.toNatClampNeg = w) {g : JFrame} (hg : g.method = m) {rest : List Value} (hs : g.stack = .int j :: .ref a :: rest) (hd : decode c.code g.pc = .ok (.caload, 1)) :
    ∀ target, Steps p.tables e below (T.setTop { g with pc := g.pc + 1, stack := w :: rest }) target → Steps p.tables e below (T.setTop g) target := by
  subst hv
  exact own_ld F h1 h2 fun cl Ar hin hat => X.caload hx (j := j) (by rw [eT]; exact Ar.1) (State.isArrayOf_alike hZ.alike Ar.2.1) Ar.2.2 hin hat hg hs hd
theorem own_stC (X : Stand p l e R s m args below meth c T locs cells slots) (hx : p.tables.exec = Jvm.exec) (hZ : Z.Warmed39 s.vm) (eT : T.heap = h) {j x : Int32} (F : own_Arf Z h a .char n f) (h1 : 0 ≤ j.toInt) (h2 : j.toInt < n) {g : JFrame} (hg : g.method = m) {rest : List Value} (hs : g.stack = .int x :: .int j :: .ref a :: rest) (hd : decode c.code g.pc = .ok (.castore, 1)) :
    ∃ T' h', Stand p l e R s m args below meth c T' (locs ++ [⟨a, j.toNatClampNeg⟩]) cells slots ∧ T'.heap = h' ∧ Wr h h' a j.toNatClampNeg (.int (nar .char x)) ∧ own_Arf Z h' a .char n (fun i => if i = j.toNatClampNeg then .int (nar .char x) else f i) ∧ ∀ target, Steps p.tables e below (T'.setTop { g with pc := g.pc + 1, stack := rest }) target → Steps p.tables e below (T.setTop g) target := by
  obtain ⟨cl, Ar, S, hn, H⟩ := F
  have hin : ¬ (j < 0 ∨ cl.slots.size ≤ j.toNatClampNeg) := by rw [S]; exact own_inb h1 h2
  obtain ⟨T', h', X', e', W, st⟩ := stC X hx hZ eT Ar (j := j) hin hg hs hd
  exact ⟨T', h', X', e', W, own_set Ar S hn H W (by have q : j.toNatClampNeg = j.toInt.toNat := rfl; omega), st⟩
end OwnChr
abbrev own_GW (p : Program) (e : Env) (below : List Frame) (s F0 Z : State) (EL : List (String × Nat)) (Q : Option Value → Heap → List Loc → Prop) (kc ks : Nat) : Prop :=
  ∃ s₂ o, Steps p.tables e below F0 s₂ ∧ s₂.status = .running ∧ Ended s₂ below o ∧ ∃ v L, o = .returned v ∧ Q v s₂.heap L ∧ CHr Z EL s.vm s.heap s₂.vm s₂.heap ∧ ReturnedEndW s o s₂ L kc ks
theorem own_finW {p : Program} {l : Launch} {e : Env} {R : Room} {s : State} {vm0 : Vm} {m : MethodId} {args : Array Value} {below : List Frame} {meth : Method} {c : Code} {T : State} {locs : List Loc} {cells slots : Nat} {Z : State} {a0 : Array Value} {EL : List (String × Nat)} {k0 : Nat}
    (X : Stand p l e R (s.setVm vm0) m args below meth c T locs cells slots) (hS : s.Since vm0 k0) (hk : k0 ≤ T.heap.size) (hl : meth.locks = false) (hZ : Z.Warmed39 vm0) (hEL : EW Z a0 EL) (CR : CHr Z EL s.vm s.heap vm0 T.heap)
    {F0 : State} {Q : Option Value → Heap → List Loc → Prop} {kc ks : Nat} (v : Option Value) (hv : meth.sig.returnType = none → v = none) (hq : Q v T.heap locs) (hc : cells ≤ kc) (hs : slots ≤ ks)
    (st : ∀ fs, (∀ (f : JFrame) (acts : List Action), f.method = m → f.locked = none → f.entered = [] → (doReturn e (T.setTop f) acts v).1 = T.setFrames fs) → Steps p.tables e below F0 (T.setFrames fs)) : own_GW p e below s F0 Z EL Q kc ks := by
  obtain ⟨fs, hr, hrun, hended, h1, h2, h3, h4⟩ := X.leaveW hS hk hv hl
  have A := CHv.at X hZ hEL CR.1
  exact ⟨_, _, st fs hr, hrun, hended, _, _, rfl, hq, CR.trans A, h1, h2, h3, h4.mono hc hs⟩
theorem own_safeNull {Z : State} {EL : List (String × Nat)} {vm : Vm} {h : Heap} {x : Addr} (hal : Z.vm.Alike vm) (E : Exa Z h x "java/lang/String") (F : Fld Z h x "java/lang/String" "value" "[B" .null) : Safe Z EL vm h x := fun B => by
  obtain ⟨p, -, u, a, -, q, -, G, rfl | rfl⟩ := B
  · obtain ⟨cell, cf, k, i, f, h1, h2, h3, h4, h5, h6, h7⟩ := F
    have g1 : h[q.sa]? = some q.sC := G.ha
    cases g1.symm.trans h1
    obtain ⟨cS, ⟨⟨-, -, -, ⟨cv, kv, iv, s4, -⟩, -, -, -, s8, -⟩, -⟩, -⟩ := G
    obtain ⟨k', e4⟩ := ff_back (U := Wst Z vm h) hal s4
    cases e4.symm.trans h2
    rw [s8] at h7; cases h7
  · obtain ⟨cell, k, e1, e2, -⟩ := E
    have g1 : h[q.sd]? = some q.SA := G.hd
    cases g1.symm.trans e1
    obtain ⟨cS, -, -, f, -⟩ := G
    have f' : vm.findClass "[B" = some q.SA.cls := f
    rw [hal.findClass] at f'
    exact ids_ne e2 f' (by decide) rfl
theorem own_safeArf {Z : State} {EL : List (String × Nat)} {vm : Vm} {h : Heap} {x : Addr} {ty : FieldType} {n : Nat} {f : Nat → Value} (hal : Z.vm.Alike vm) (F : own_Arf Z h x ty n f) (ht : ty ≠ .byte) : Safe Z EL vm h x := by
  obtain ⟨c, A, -⟩ := F; exact Safe.arr hal A ht
theorem own_ArfLit {Z : State} {h : Heap} {b : Addr} {k : ClassId} {ty : FieldType} {d : Value} (A : Arv Z h b k ty (0 : Int32) [] d) : own_Arf Z h b ty 0 (fun _ => d) := by
  obtain ⟨c, A, -, S, -, H, -⟩ := A
  exact ⟨c, A, S, by decide, fun j hj => absurd hj (Nat.not_lt_zero _)⟩
theorem own_EW {Z : State} {a0 : Array Value} (hw : ∀ d ∈ tables_1, d.before a0 Z = true) : EW Z a0 consts_1 := EW.cons (text := "") (hw _ (List.mem_of_getElem? (i := 34) rfl)) (by decide) EW.nil
theorem own_wS {Z : State} {a0 : Array Value} (hw : ∀ d ∈ tables_1, d.before a0 Z = true) : ∀ a ∈ Bundle.stringAtoms, a.before a0 Z = true := by
  intro a ha
  simp only [Bundle.stringAtoms, List.mem_cons, List.not_mem_nil, or_false] at ha
  rcases ha with rfl | rfl | rfl | rfl | rfl | rfl | rfl
  · exact (hw _ (List.mem_of_getElem? (i := 6) rfl))
  · exact (hw _ (List.mem_of_getElem? (i := 5) rfl))
  · exact (hw _ (List.mem_of_getElem? (i := 23) rfl))
  · exact (hw _ (List.mem_of_getElem? (i := 33) rfl))
  · exact (hw _ (List.mem_of_getElem? (i := 31) rfl))
  · exact (hw _ (List.mem_of_getElem? (i := 35) rfl))
  · exact (hw _ (List.mem_of_getElem? (i := 36) rfl))
theorem own_chV (y : Int32) : 0 ≤ (nar .char ((y &&& (255 : Int32)).toUInt32.toUInt16.toUInt32.toInt32)).toInt ∧ (nar .char ((y &&& (255 : Int32)).toUInt32.toUInt16.toUInt32.toInt32)).toInt ≤ 255 := by
  rw [i2c_mask, show nar .char (y &&& 255) = (y &&& 255).toUInt32.toUInt16.toUInt32.toInt32 from rfl, i2c_mask]
  have q := c_and y 255 (by decide)
  have z : (255 : Int32).toInt = 255 := rfl
  omega
theorem own_ch0 (j : Nat) : 0 ≤ ((fun (_ : Nat) => (0 : Int32)) j).toInt ∧ ((fun (_ : Nat) => (0 : Int32)) j).toInt ≤ 255 := by
  show 0 ≤ (0 : Int32).toInt ∧ (0 : Int32).toInt ≤ 255
  decide
theorem own_chS {gf gr : Nat → Int32} {k : Nat} {x : Int32} (hgf : ∀ i, gf i = if i = k then x else gr i) (hx : 0 ≤ x.toInt ∧ x.toInt ≤ 255) (hr : ∀ j, 0 ≤ (gr j).toInt ∧ (gr j).toInt ≤ 255) : ∀ j, 0 ≤ (gf j).toInt ∧ (gf j).toInt ≤ 255 := fun j => by
  rw [hgf j]
  by_cases q : j = k
  · rw [if_pos q]; exact hx
  · rw [if_neg q]; exact hr j
theorem own_mless {n k m : Nat} (hm : n - k = m) (h : k < n) : n - (k + 1) < m := by omega
theorem own_of0 {n : Nat} (h : n ≤ 3) : (Int32.ofNat n).toInt = n := Int32.toInt_ofNat_of_lt (by omega)
theorem pn_0 : plainName "java/lang/Record" = true := by first | (simp [plainName, overriddenIn]; done) | decide +kernel
theorem d9_0 : decode jdk_30_method_1_code 0 = .ok (.aload_n 0, 1) := by decide +kernel
theorem d9_1 : decode jdk_30_method_1_code 1 = .ok (.invokespecial 1, 3) := by decide +kernel
theorem d9_4 : decode jdk_30_method_1_code 4 = .ok (.return_, 1) := by decide +kernel
theorem ef_9 (m : MethodId) (x0 : Addr) : entryFrame m #[(.ref x0)] 1 = mkF m 0 #[.val (.ref x0)] [] := by first | (simp [entryFrame, mkF, argsToLocals, Value.category]; done) | rfl
def Q9 (Z : State) (a1 : Addr) (h0 : Heap) (n0 : Nat) (v : Option Value) (h : Heap) (L : List Loc) : Prop := v = none ∧ Fr n0 L ∧ h = h0
set_option maxRecDepth 65536 in
set_option maxHeartbeats 40000000 in
theorem rm9 (l : Launch) (Z : State) (a0 : Array Value) (hw : ∀ d ∈ tables_1, d.before a0 Z = true) (ws : List Jvm.Cond) (a1 : Addr) (h0 : Heap) (n0 : Nat) (Z0 : n0 ≤ h0.size) :
    MetFree l (⟨"java/lang/Record", "<init>", "()V"⟩ : MethodName) (head1 (Jvm.Cond.code (⟨"java/lang/Record", "<init>", "()V"⟩ : MethodName) jdk_30_method_1_code 1 none :: ws) ({ frames := 1, cells := 0, slots := 0, locals := 12 } : Room)) (fun a U => a = #[(.ref a1)] ∧ Z.Warmed39 U.vm ∧ U.heap = h0) (fun _ _ _ _ _ => True) (fun _ U o U' => ∃ v L, o = .returned v ∧ Q9 Z a1 h0 n0 v U'.heap L ∧ FrameEnd U o U' L ({ frames := 1, cells := 0, slots := 0, locals := 12 } : Room).cells ({ frames := 1, cells := 0, slots := 0, locals := 12 } : Room).slots) := by
  refine MetFree.of_bodySF (plainFor_of_name pn_0) hisR ?_
  intro p e s m args below meth c s₁ Bd hml0 hP hK
  obtain ⟨rfl, hZ, hh⟩ := hP
  have hx := Bd.exec
  have hby := Bd.bytes
  have hml : c.maxLocals = 1 := hml0
  have hown : s.vm.findClass "java/lang/Record" = some m.cls := findClass_of_methodNamed Bd.named
  have hnm := (name_of_methodNamed Bd.named Bd.method).1
  have hlk : meth.locks = false := BodyLoose.notSynchronized Bd
  have X0 : Stand p l e ({ frames := 1, cells := 0, slots := 0, locals := 12 } : Room) s m #[(.ref a1)] below meth c s₁ [] 0 0 := Stand.of_body Bd
  have e0 : s₁.heap = h0 := by rw [← hh, Bd.state]; rfl
  have N0 := Fr.nil n0
  have K0 : Keep h0 h0 [] := Keep.refl h0 _
  have key : ∀ (F0 : State) (G : Prop), (own_G p e below s F0 (Q9 Z a1 h0 n0) ({ frames := 1, cells := 0, slots := 0, locals := 12 } : Room).cells ({ frames := 1, cells := 0, slots := 0, locals := 12 } : Room).slots → G) → own_R p.tables e below F0 (s₁.setTop (mkF m 0 #[.val (.ref a1)] [])) → G := by
    intro F0 G hG r0
    have r1 : own_R p.tables e below F0 (s₁.setTop (mkF m 1 #[.val (.ref a1)] [(.ref a1)])) := fun tg_ kg_ => by
      refine r0 tg_ ?_
      show Steps p.tables e below (s₁.setTop (mkF m 0 #[.val (.ref a1)] [])) _
      refine XS.aloadN X0.here hx rfl (hb hby d9_0) rfl rfl ?_
      exact kg_
    obtain ⟨T2, X2, e2, st2⟩ := initO X0 hx hZ hown (hw _ (List.mem_of_getElem? (i := 48) rfl)) (hw _ (List.mem_of_getElem? (i := 16) rfl)) (hw _ (List.mem_of_getElem? (i := 17) rfl)) e0 (g := (mkF m 1 #[.val (.ref a1)] [(.ref a1)])) rfl (by rw [hml]; rfl) rfl (hb hby d9_1) (by decide) (W := 0) (by show 2 * 0 + _ ≤ _; exact Nat.le_of_eq rfl) (by decide)
    have r2 : own_R p.tables e below F0 (T2.setTop (mkF m 4 #[.val (.ref a1)] [])) := fun tg_ kg_ => r1 tg_ (st2 tg_ kg_)
    refine hG (own_fin X2 hlk (none) (fun _ => rfl) ?_ (by decide) (by decide) (fun fs hr => r2 _ (X2.returnOut hx Bd.returns (hb hby d9_4) hr)))
    rw [e2]
    refine ⟨?_, N0, rfl⟩
    rfl
  exact key _ _ id (fun t k => castTop (ef_9 m a1) k)
theorem pn_1 : plainName "java/lang/StringUTF16" = true := by first | (simp [plainName, overriddenIn]; done) | decide +kernel
theorem d7_0 : decode jdk_52_method_15_code 0 = .ok (.iload_n 1, 1) := by decide +kernel
theorem d7_1 : decode jdk_52_method_15_code 1 = .ok (.aload_n 0, 1) := by decide +kernel
theorem d7_2 : decode jdk_52_method_15_code 2 = .ok (.arraylength, 1) := by decide +kernel
theorem d7_3 : decode jdk_52_method_15_code 3 = .ok (.isub, 1) := by decide +kernel
theorem d7_4 : decode jdk_52_method_15_code 4 = .ok (.bipush 31, 2) := by decide +kernel
theorem d7_6 : decode jdk_52_method_15_code 6 = .ok (.iushr, 1) := by decide +kernel
theorem d7_7 : decode jdk_52_method_15_code 7 = .ok (.i2b, 1) := by decide +kernel
theorem d7_8 : decode jdk_52_method_15_code 8 = .ok (.ireturn, 1) := by decide +kernel
theorem ef_7 (m : MethodId) (x0 : Addr) (x1 : Int32) : entryFrame m #[(.ref x0), (.int x1)] 2 = mkF m 0 #[.val (.ref x0), .val (.int x1)] [] := by first | (simp [entryFrame, mkF, argsToLocals, Value.category]; done) | rfl
def Q7 (Z : State) (bd : Addr) (ln : Int32) (nn : Nat) (gb : Nat → Int32) (h0 : Heap) (n0 : Nat) (v : Option Value) (h : Heap) (L : List Loc) : Prop := ∃ (rc : Int32), v = some (.int rc) ∧ Fr n0 L ∧ h = h0
set_option maxRecDepth 65536 in
set_option maxHeartbeats 40000000 in
theorem rm7 (l : Launch) (Z : State) (a0 : Array Value) (hw : ∀ d ∈ tables_1, d.before a0 Z = true) (ws : List Jvm.Cond) (bd : Addr) (ln : Int32) (nn : Nat) (gb : Nat → Int32) (h0 : Heap) (n0 : Nat) (Z0 : n0 ≤ h0.size) (A1 : own_Arf Z h0 bd .byte nn (fun i => (.int (gb i)))) :
    MetFree l (⟨"java/lang/StringUTF16", "coderFromArrayLen", "([BI)B"⟩ : MethodName) (head1 (Jvm.Cond.code (⟨"java/lang/StringUTF16", "coderFromArrayLen", "([BI)B"⟩ : MethodName) jdk_52_method_15_code 2 (some .byte) :: ws) ({ frames := 0, cells := 0, slots := 0, locals := 0 } : Room)) (fun a U => a = #[(.ref bd), (.int ln)] ∧ Z.Warmed39 U.vm ∧ U.heap = h0) (fun _ _ _ _ _ => True) (fun _ U o U' => ∃ v L, o = .returned v ∧ Q7 Z bd ln nn gb h0 n0 v U'.heap L ∧ FrameEnd U o U' L ({ frames := 0, cells := 0, slots := 0, locals := 0 } : Room).cells ({ frames := 0, cells := 0, slots := 0, locals := 0 } : Room).slots) := by
  refine MetFree.of_bodySF (plainFor_of_name pn_1) hisR ?_
  intro p e s m args below meth c s₁ Bd hml0 hP hK
  obtain ⟨rfl, hZ, hh⟩ := hP
  have hx := Bd.exec
  have hby := Bd.bytes
  have hml : c.maxLocals = 2 := hml0
  have hown : s.vm.findClass "java/lang/StringUTF16" = some m.cls := findClass_of_methodNamed Bd.named
  have hnm := (name_of_methodNamed Bd.named Bd.method).1
  have hlk : meth.locks = false := BodyLoose.notSynchronized Bd
  have X0 : Stand p l e ({ frames := 0, cells := 0, slots := 0, locals := 0 } : Room) s m #[(.ref bd), (.int ln)] below meth c s₁ [] 0 0 := Stand.of_body Bd
  have e0 : s₁.heap = h0 := by rw [← hh, Bd.state]; rfl
  have N0 := Fr.nil n0
  have K0 : Keep h0 h0 [] := Keep.refl h0 _
  have key : ∀ (F0 : State) (G : Prop), (own_G p e below s F0 (Q7 Z bd ln nn gb h0 n0) ({ frames := 0, cells := 0, slots := 0, locals := 0 } : Room).cells ({ frames := 0, cells := 0, slots := 0, locals := 0 } : Room).slots → G) → own_R p.tables e below F0 (s₁.setTop (mkF m 0 #[.val (.ref bd), .val (.int ln)] [])) → G := by
    intro F0 G hG r0
    have r3 : own_R p.tables e below F0 (s₁.setTop (mkF m 8 #[.val (.ref bd), .val (.int ln)] [(.int ((((ln - (Int32.ofNat nn)).toUInt32 >>> ((31 : Int32) &&& 31).toUInt32).toInt32).toInt8.toInt32))])) := fun tg_ kg_ => by
      refine r0 tg_ ?_
      show Steps p.tables e below (s₁.setTop (mkF m 0 #[.val (.ref bd), .val (.int ln)] [])) _
      refine XS.iloadN X0.here hx rfl (hb hby d7_0) rfl ?_
      show Steps p.tables e below (s₁.setTop (mkF m 1 #[.val (.ref bd), .val (.int ln)] [(.int ln)])) _
      refine XS.aloadN X0.here hx rfl (hb hby d7_1) rfl rfl ?_
      show Steps p.tables e below (s₁.setTop (mkF m 2 #[.val (.ref bd), .val (.int ln)] [(.ref bd), (.int ln)])) _
      refine own_alen X0 hx hZ e0 A1 (Int32.ofNat nn) rfl (g := (mkF m 2 #[.val (.ref bd), .val (.int ln)] [(.ref bd), (.int ln)])) rfl rfl (hb hby d7_2) _ ?_
      show Steps p.tables e below (s₁.setTop (mkF m 3 #[.val (.ref bd), .val (.int ln)] [(.int (Int32.ofNat nn)), (.int ln)])) _
      refine XS.isub X0.here hx rfl (hb hby d7_3) rfl ?_
      show Steps p.tables e below (s₁.setTop (mkF m 4 #[.val (.ref bd), .val (.int ln)] [(.int (ln - (Int32.ofNat nn)))])) _
      refine XS.bipush X0.here hx rfl (hb hby d7_4) ?_
      show Steps p.tables e below (s₁.setTop (mkF m 6 #[.val (.ref bd), .val (.int ln)] [(.int (31 : Int32)), (.int (ln - (Int32.ofNat nn)))])) _
      refine XS.iushr X0.here hx rfl (hb hby d7_6) rfl ?_
      show Steps p.tables e below (s₁.setTop (mkF m 7 #[.val (.ref bd), .val (.int ln)] [(.int (((ln - (Int32.ofNat nn)).toUInt32 >>> ((31 : Int32) &&& 31).toUInt32).toInt32))])) _
      refine XS.i2b X0.here hx rfl (hb hby d7_7) rfl ?_
      exact kg_
    refine hG (own_fin X0 hlk (some (.int (nar .byte ((((ln - (Int32.ofNat nn)).toUInt32 >>> ((31 : Int32) &&& 31).toUInt32).toInt32).toInt8.toInt32)))) (own_hv Bd.returns) ?_ (by decide) (by decide) (fun fs hr => r3 _ (retN X0 hx (t := .byte) Bd.returns (by simp) (hb hby d7_8) hr)))
    rw [e0]
    refine ⟨(nar .byte ((((ln - (Int32.ofNat nn)).toUInt32 >>> ((31 : Int32) &&& 31).toUInt32).toInt32).toInt8.toInt32)), ?_, N0, rfl⟩
    rfl
  exact key _ _ id (fun t k => castTop (ef_7 m bd ln) k)
theorem d6_0 : decode jdk_52_method_21_code 0 = .ok (.iconst 0, 1) := by decide +kernel
theorem d6_1 : decode jdk_52_method_21_code 1 = .ok (.istore 5, 2) := by decide +kernel
theorem d6_3 : decode jdk_52_method_21_code 3 = .ok (.iload 5, 2) := by decide +kernel
theorem d6_5 : decode jdk_52_method_21_code 5 = .ok (.iload 4, 2) := by decide +kernel
theorem d6_7 : decode jdk_52_method_21_code 7 = .ok (.if_icmp .ge 37, 3) := by decide +kernel
theorem d6_10 : decode jdk_52_method_21_code 10 = .ok (.aload_n 0, 1) := by decide +kernel
theorem d6_11 : decode jdk_52_method_21_code 11 = .ok (.iload_n 1, 1) := by decide +kernel
theorem d6_12 : decode jdk_52_method_21_code 12 = .ok (.caload, 1) := by decide +kernel
theorem d6_13 : decode jdk_52_method_21_code 13 = .ok (.istore 6, 2) := by decide +kernel
theorem d6_15 : decode jdk_52_method_21_code 15 = .ok (.iload 6, 2) := by decide +kernel
theorem d6_17 : decode jdk_52_method_21_code 17 = .ok (.sipush 255, 3) := by decide +kernel
theorem d6_20 : decode jdk_52_method_21_code 20 = .ok (.if_icmp .le 6, 3) := by decide +kernel
theorem d6_26 : decode jdk_52_method_21_code 26 = .ok (.aload_n 2, 1) := by decide +kernel
theorem d6_27 : decode jdk_52_method_21_code 27 = .ok (.iload_n 3, 1) := by decide +kernel
theorem d6_28 : decode jdk_52_method_21_code 28 = .ok (.iload 6, 2) := by decide +kernel
theorem d6_30 : decode jdk_52_method_21_code 30 = .ok (.i2b, 1) := by decide +kernel
theorem d6_31 : decode jdk_52_method_21_code 31 = .ok (.bastore, 1) := by decide +kernel
theorem d6_32 : decode jdk_52_method_21_code 32 = .ok (.iinc 1 1, 3) := by decide +kernel
theorem d6_35 : decode jdk_52_method_21_code 35 = .ok (.iinc 3 1, 3) := by decide +kernel
theorem d6_38 : decode jdk_52_method_21_code 38 = .ok (.iinc 5 1, 3) := by decide +kernel
theorem d6_41 : decode jdk_52_method_21_code 41 = .ok (.goto (-38), 3) := by decide +kernel
theorem d6_44 : decode jdk_52_method_21_code 44 = .ok (.iload 4, 2) := by decide +kernel
theorem d6_46 : decode jdk_52_method_21_code 46 = .ok (.ireturn, 1) := by decide +kernel
theorem ef_6 (m : MethodId) (x0 : Addr) (x2 : Addr) (x4 : Int32) : entryFrame m #[(.ref x0), (.int (0 : Int32)), (.ref x2), (.int (0 : Int32)), (.int x4)] 7 = mkF m 0 #[.val (.ref x0), .val (.int (0 : Int32)), .val (.ref x2), .val (.int (0 : Int32)), .val (.int x4), .unset, .unset] [] := by first | (simp [entryFrame, mkF, argsToLocals, Value.category]; done) | rfl
def Q6 (Z : State) (ca : Addr) (bd : Addr) (ln : Int32) (nn : Nat) (gc : Nat → Int32) (gb : Nat → Int32) (h0 : Heap) (n0 : Nat) (v : Option Value) (h : Heap) (L : List Loc) : Prop := ∃ (gx : Nat → Int32), v = some (.int ln) ∧ Fr n0 L ∧ Keep h0 h [bd] ∧ own_Arf Z h bd .byte nn (fun i => (.int (gx i)))
set_option maxRecDepth 65536 in
set_option maxHeartbeats 40000000 in
theorem rm6 (l : Launch) (Z : State) (a0 : Array Value) (hw : ∀ d ∈ tables_1, d.before a0 Z = true) (ws : List Jvm.Cond) (ca : Addr) (bd : Addr) (ln : Int32) (nn : Nat) (gc : Nat → Int32) (gb : Nat → Int32) (h0 : Heap) (n0 : Nat) (Z0 : n0 ≤ h0.size) (A1 : own_Arf Z h0 ca .char nn (fun i => (.int (gc i)))) (A2 : own_Arf Z h0 bd .byte nn (fun i => (.int (gb i)))) (hln : ln.toInt = nn) (hnn : nn ≤ 3) (hch : ∀ j, 0 ≤ (gc j).toInt ∧ (gc j).toInt ≤ 255) (nab : ca ≠ bd) (gbd : n0 ≤ bd) :
    MetFree l (⟨"java/lang/StringUTF16", "compress", "([CI[BII)I"⟩ : MethodName) (head1 (Jvm.Cond.code (⟨"java/lang/StringUTF16", "compress", "([CI[BII)I"⟩ : MethodName) jdk_52_method_21_code 7 (some .int) :: ws) ({ frames := 0, cells := 0, slots := 0, locals := 0 } : Room)) (fun a U => a = #[(.ref ca), (.int (0 : Int32)), (.ref bd), (.int (0 : Int32)), (.int ln)] ∧ Z.Warmed39 U.vm ∧ U.heap = h0) (fun _ _ _ _ _ => True) (fun _ U o U' => ∃ v L, o = .returned v ∧ Q6 Z ca bd ln nn gc gb h0 n0 v U'.heap L ∧ FrameEnd U o U' L ({ frames := 0, cells := 0, slots := 0, locals := 0 } : Room).cells ({ frames := 0, cells := 0, slots := 0, locals := 0 } : Room).slots) := by
  refine MetFree.of_bodySF (plainFor_of_name pn_1) hisR ?_
  intro p e s m args below meth c s₁ Bd hml0 hP hK
  obtain ⟨rfl, hZ, hh⟩ := hP
  have hx := Bd.exec
  have hby := Bd.bytes
  have hml : c.maxLocals = 7 := hml0
  have hown : s.vm.findClass "java/lang/StringUTF16" = some m.cls := findClass_of_methodNamed Bd.named
  have hnm := (name_of_methodNamed Bd.named Bd.method).1
  have hlk : meth.locks = false := BodyLoose.notSynchronized Bd
  have X0 : Stand p l e ({ frames := 0, cells := 0, slots := 0, locals := 0 } : Room) s m #[(.ref ca), (.int (0 : Int32)), (.ref bd), (.int (0 : Int32)), (.int ln)] below meth c s₁ [] 0 0 := Stand.of_body Bd
  have e0 : s₁.heap = h0 := by rw [← hh, Bd.state]; rfl
  have N0 := Fr.nil n0
  have K0 : Keep h0 h0 [bd] := Keep.refl h0 _
  have key : ∀ (F0 : State) (G : Prop), (own_G p e below s F0 (Q6 Z ca bd ln nn gc gb h0 n0) ({ frames := 0, cells := 0, slots := 0, locals := 0 } : Room).cells ({ frames := 0, cells := 0, slots := 0, locals := 0 } : Room).slots → G) → own_R p.tables e below F0 (s₁.setTop (mkF m 0 #[.val (.ref ca), .val (.int (0 : Int32)), .val (.ref bd), .val (.int (0 : Int32)), .val (.int ln), .unset, .unset] [])) → G := by
    intro F0 G hG r0
    have r4 : own_R p.tables e below F0 (s₁.setTop (mkF m 3 #[.val (.ref ca), .val (.int (0 : Int32)), .val (.ref bd), .val (.int (0 : Int32)), .val (.int ln), .val (.int (0 : Int32)), .unset] [])) := fun tg_ kg_ => by
      refine r0 tg_ ?_
      show Steps p.tables e below (s₁.setTop (mkF m 0 #[.val (.ref ca), .val (.int (0 : Int32)), .val (.ref bd), .val (.int (0 : Int32)), .val (.int ln), .unset, .unset] [])) _
      refine XS.iconst X0.here hx rfl (hb hby d6_0) ?_
      show Steps p.tables e below (s₁.setTop (mkF m 1 #[.val (.ref ca), .val (.int (0 : Int32)), .val (.ref bd), .val (.int (0 : Int32)), .val (.int ln), .unset, .unset] [(.int (0 : Int32))])) _
      refine XS.istore X0.here hx rfl (hb hby d6_1) rfl (l' := #[.val (.ref ca), .val (.int (0 : Int32)), .val (.ref bd), .val (.int (0 : Int32)), .val (.int ln), .val (.int (0 : Int32)), .unset]) rfl ?_
      exact kg_
    have J5 : ∀ (k18 : Nat) (i1 : Int32) (i3 : Int32) (i5 : Int32) (s6 : Slot) (q : Nat) (gr : Nat → Int32) (T6 : State) (lo13 : List Loc) (h8 : Heap) (X7 : Stand p l e ({ frames := 0, cells := 0, slots := 0, locals := 0 } : Room) s m #[(.ref ca), (.int (0 : Int32)), (.ref bd), (.int (0 : Int32)), (.int ln)] below meth c T6 lo13 0 0) (e9 : T6.heap = h8) (N10 : Fr n0 lo13) (Zs11 : n0 ≤ h8.size) (K12 : Keep h0 h8 [bd]) (F14 : own_Arf Z h8 ca .char nn (fun i => (.int (gc i)))) (F15 : own_Arf Z h8 bd .byte nn (fun i => (.int (gr i)))) (hs6 : One s6) (h1 : i1.toInt = q) (h3 : i3.toInt = q) (h5 : i5.toInt = q) (hq : q ≤ nn) (_ : nn - q = k18) (r16 : own_R p.tables e below F0 (T6.setTop (mkF m 3 #[.val (.ref ca), .val (.int i1), .val (.ref bd), .val (.int i3), .val (.int ln), .val (.int i5), s6] []))), G := by
      intro k18
      induction k18 using Nat.strongRecOn with
      | ind k18 ih17 =>
        intro i1 i3 i5 s6 q gr T6 lo13 h8 X7 e9 N10 Zs11 K12 F14 F15 hs6 h1 h3 h5 hq hm19 r16
        have r20 : own_R p.tables e below F0 (T6.setTop (mkF m 7 #[.val (.ref ca), .val (.int i1), .val (.ref bd), .val (.int i3), .val (.int ln), .val (.int i5), s6] [(.int ln), (.int i5)])) := fun tg_ kg_ => by
          refine r16 tg_ ?_
          show Steps p.tables e below (T6.setTop (mkF m 3 #[.val (.ref ca), .val (.int i1), .val (.ref bd), .val (.int i3), .val (.int ln), .val (.int i5), s6] [])) _
          refine XS.iload X7.here hx rfl (hb hby d6_3) rfl ?_
          show Steps p.tables e below (T6.setTop (mkF m 5 #[.val (.ref ca), .val (.int i1), .val (.ref bd), .val (.int i3), .val (.int ln), .val (.int i5), s6] [(.int i5)])) _
          refine XS.iload X7.here hx rfl (hb hby d6_5) rfl ?_
          exact kg_
        by_cases hc21 : i5 < ln
        · have r22 : own_R p.tables e below F0 (T6.setTop (mkF m 10 #[.val (.ref ca), .val (.int i1), .val (.ref bd), .val (.int i3), .val (.int ln), .val (.int i5), s6] [])) := fun tg_ kg_ => by
            refine r20 tg_ ?_
            show Steps p.tables e below (T6.setTop (mkF m 7 #[.val (.ref ca), .val (.int i1), .val (.ref bd), .val (.int i3), .val (.int ln), .val (.int i5), s6] [(.int ln), (.int i5)])) _
            refine XS.icmpNo X7.here hx rfl (hb hby d6_7) rfl (tlt hc21).2.1 ?_
            exact kg_
          have q19_r := own_R32 i5
          have q20_r := own_R32 ln
          have q21_c := own_lt32 hc21
          have hqn : q < nn := by omega
          have r24 : own_R p.tables e below F0 (T6.setTop (mkF m 20 #[.val (.ref ca), .val (.int i1), .val (.ref bd), .val (.int i3), .val (.int ln), .val (.int i5), .val (.int (gc q))] [(.int (255 : Int32)), (.int (gc q))])) := fun tg_ kg_ => by
            refine r22 tg_ ?_
            show Steps p.tables e below (T6.setTop (mkF m 10 #[.val (.ref ca), .val (.int i1), .val (.ref bd), .val (.int i3), .val (.int ln), .val (.int i5), s6] [])) _
            refine XS.aloadN X7.here hx rfl (hb hby d6_10) rfl rfl ?_
            show Steps p.tables e below (T6.setTop (mkF m 11 #[.val (.ref ca), .val (.int i1), .val (.ref bd), .val (.int i3), .val (.int ln), .val (.int i5), s6] [(.ref ca)])) _
            refine XS.iloadN X7.here hx rfl (hb hby d6_11) rfl ?_
            show Steps p.tables e below (T6.setTop (mkF m 12 #[.val (.ref ca), .val (.int i1), .val (.ref bd), .val (.int i3), .val (.int ln), .val (.int i5), s6] [(.int i1), (.ref ca)])) _
            refine own_caload X7 hx hZ e9 (j := i1) F14 (by omega) (by omega) (w := (.int (gc q))) (congrArg (fun j => Value.int (gc j)) (own_clamp h1)) (g := (mkF m 12 #[.val (.ref ca), .val (.int i1), .val (.ref bd), .val (.int i3), .val (.int ln), .val (.int i5), s6] [(.int i1), (.ref ca)])) rfl rfl (hb hby d6_12) _ ?_
            show Steps p.tables e below (T6.setTop (mkF m 13 #[.val (.ref ca), .val (.int i1), .val (.ref bd), .val (.int i3), .val (.int ln), .val (.int i5), s6] [(.int (gc q))])) _
            refine XS.istore X7.here hx rfl (hb hby d6_13) rfl (l' := #[.val (.ref ca), .val (.int i1), .val (.ref bd), .val (.int i3), .val (.int ln), .val (.int i5), .val (.int (gc q))]) (by
                          rcases hs6 with rfl | ⟨w, rfl, hw⟩
                          · rfl
                          · cases w <;> first | rfl | (simp [Value.category] at hw)) ?_
            show Steps p.tables e below (T6.setTop (mkF m 15 #[.val (.ref ca), .val (.int i1), .val (.ref bd), .val (.int i3), .val (.int ln), .val (.int i5), .val (.int (gc q))] [])) _
            refine XS.iload X7.here hx rfl (hb hby d6_15) rfl ?_
            show Steps p.tables e below (T6.setTop (mkF m 17 #[.val (.ref ca), .val (.int i1), .val (.ref bd), .val (.int i3), .val (.int ln), .val (.int i5), .val (.int (gc q))] [(.int (gc q))])) _
            refine XS.sipush X7.here hx rfl (hb hby d6_17) ?_
            exact kg_
          have hc23 : ¬ ((255 : Int32) < (gc q)) := (fun z => by have q1 := own_lt32 z; have q2 := (hch q).2; have q3 : (255 : Int32).toInt = 255 := rfl; omega)
          have r25 : own_R p.tables e below F0 (T6.setTop (mkF m 31 #[.val (.ref ca), .val (.int i1), .val (.ref bd), .val (.int i3), .val (.int ln), .val (.int i5), .val (.int (gc q))] [(.int ((gc q).toInt8.toInt32)), (.int i3), (.ref bd)])) := fun tg_ kg_ => by
            refine r24 tg_ ?_
            show Steps p.tables e below (T6.setTop (mkF m 20 #[.val (.ref ca), .val (.int i1), .val (.ref bd), .val (.int i3), .val (.int ln), .val (.int i5), .val (.int (gc q))] [(.int (255 : Int32)), (.int (gc q))])) _
            refine XS.icmpYes X7.here hx rfl (pc0 := 20) (pc' := 26) rfl (hb hby d6_20) rfl (flt hc23).2.2.2 (by decide) (by decide) ?_
            show Steps p.tables e below (T6.setTop (mkF m 26 #[.val (.ref ca), .val (.int i1), .val (.ref bd), .val (.int i3), .val (.int ln), .val (.int i5), .val (.int (gc q))] [])) _
            refine XS.aloadN X7.here hx rfl (hb hby d6_26) rfl rfl ?_
            show Steps p.tables e below (T6.setTop (mkF m 27 #[.val (.ref ca), .val (.int i1), .val (.ref bd), .val (.int i3), .val (.int ln), .val (.int i5), .val (.int (gc q))] [(.ref bd)])) _
            refine XS.iloadN X7.here hx rfl (hb hby d6_27) rfl ?_
            show Steps p.tables e below (T6.setTop (mkF m 28 #[.val (.ref ca), .val (.int i1), .val (.ref bd), .val (.int i3), .val (.int ln), .val (.int i5), .val (.int (gc q))] [(.int i3), (.ref bd)])) _
            refine XS.iload X7.here hx rfl (hb hby d6_28) rfl ?_
            show Steps p.tables e below (T6.setTop (mkF m 30 #[.val (.ref ca), .val (.int i1), .val (.ref bd), .val (.int i3), .val (.int ln), .val (.int i5), .val (.int (gc q))] [(.int (gc q)), (.int i3), (.ref bd)])) _
            refine XS.i2b X7.here hx rfl (hb hby d6_30) rfl ?_
            exact kg_
          obtain ⟨T26, h26, X26, e26, W26, V26, st26⟩ := own_stB X7 hx hZ e9 (j := i3) F15 (by omega) (by omega) (g := (mkF m 31 #[.val (.ref ca), .val (.int i1), .val (.ref bd), .val (.int i3), .val (.int ln), .val (.int i5), .val (.int (gc q))] [(.int ((gc q).toInt8.toInt32)), (.int i3), (.ref bd)])) rfl rfl (hb hby d6_31)
          rw [show (i3).toNatClampNeg = q from own_clamp h3] at V26
          obtain ⟨gf26, hgf26, V26'⟩ := own_nameI (g := gr) V26
          have F27 : own_Arf Z h26 ca .char nn (fun i => (.int (gc i))) := F14.other W26 nab
          have F28 : own_Arf Z h26 bd .byte nn (fun i => (.int (gf26 i))) := V26'
          have Zs29 : n0 ≤ h26.size := by rw [W26.size]; exact Zs11
          have N30 := Fr.snoc X26 N10 gbd
          have K31 : Keep h0 h26 [bd] := K12.wr W26 (Or.inl (List.mem_of_getElem? (i := 0) rfl))
          have r26 : own_R p.tables e below F0 (T26.setTop (mkF m 32 #[.val (.ref ca), .val (.int i1), .val (.ref bd), .val (.int i3), .val (.int ln), .val (.int i5), .val (.int (gc q))] [])) := fun tg_ kg_ => r25 tg_ (st26 tg_ kg_)
          have r32 : own_R p.tables e below F0 (T26.setTop (mkF m 3 #[.val (.ref ca), .val (.int (i1 + (1 : Int32))), .val (.ref bd), .val (.int (i3 + (1 : Int32))), .val (.int ln), .val (.int (i5 + (1 : Int32))), .val (.int (gc q))] [])) := fun tg_ kg_ => by
            refine r26 tg_ ?_
            show Steps p.tables e below (T26.setTop (mkF m 32 #[.val (.ref ca), .val (.int i1), .val (.ref bd), .val (.int i3), .val (.int ln), .val (.int i5), .val (.int (gc q))] [])) _
            refine XS.iinc X26.here hx rfl (hb hby d6_32) rfl (l' := #[.val (.ref ca), .val (.int (i1 + (1 : Int32))), .val (.ref bd), .val (.int i3), .val (.int ln), .val (.int i5), .val (.int (gc q))]) rfl ?_
            show Steps p.tables e below (T26.setTop (mkF m 35 #[.val (.ref ca), .val (.int (i1 + (1 : Int32))), .val (.ref bd), .val (.int i3), .val (.int ln), .val (.int i5), .val (.int (gc q))] [])) _
            refine XS.iinc X26.here hx rfl (hb hby d6_35) rfl (l' := #[.val (.ref ca), .val (.int (i1 + (1 : Int32))), .val (.ref bd), .val (.int (i3 + (1 : Int32))), .val (.int ln), .val (.int i5), .val (.int (gc q))]) rfl ?_
            show Steps p.tables e below (T26.setTop (mkF m 38 #[.val (.ref ca), .val (.int (i1 + (1 : Int32))), .val (.ref bd), .val (.int (i3 + (1 : Int32))), .val (.int ln), .val (.int i5), .val (.int (gc q))] [])) _
            refine XS.iinc X26.here hx rfl (hb hby d6_38) rfl (l' := #[.val (.ref ca), .val (.int (i1 + (1 : Int32))), .val (.ref bd), .val (.int (i3 + (1 : Int32))), .val (.int ln), .val (.int (i5 + (1 : Int32))), .val (.int (gc q))]) rfl ?_
            show Steps p.tables e below (T26.setTop (mkF m 41 #[.val (.ref ca), .val (.int (i1 + (1 : Int32))), .val (.ref bd), .val (.int (i3 + (1 : Int32))), .val (.int ln), .val (.int (i5 + (1 : Int32))), .val (.int (gc q))] [])) _
            refine XS.goto X26.here hx rfl (pc0 := 41) (pc' := 3) rfl (hb hby d6_41) (by decide) (by decide) ?_
            exact kg_
          have q22_r := own_R32 i5
          have q23_r := own_R32 ln
          have q24_e : (255 : Int32).toInt = 255 := (by decide)
          have q24_r : (255 : Int) ≤ (255 : Int32).toInt ∧ (255 : Int32).toInt ≤ 255 := ⟨Int.le_of_eq q24_e.symm, Int.le_of_eq q24_e⟩
          have q25_r := own_R32 (gc q)
          have q26_r := own_R32 i1
          have q27_e : (1 : Int32).toInt = 1 := (by decide)
          have q27_r : (1 : Int) ≤ (1 : Int32).toInt ∧ (1 : Int32).toInt ≤ 1 := ⟨Int.le_of_eq q27_e.symm, Int.le_of_eq q27_e⟩
          have q28_r := own_R32 (i1 + (1 : Int32))
          have q29_ := c_iadd i1 (1 : Int32)
          have q30_r := own_R32 i3
          have q31_r := own_R32 (i3 + (1 : Int32))
          have q32_ := c_iadd i3 (1 : Int32)
          have q33_r := own_R32 (i5 + (1 : Int32))
          have q34_ := c_iadd i5 (1 : Int32)
          have q35_c := own_lt32 hc21
          have q36_c := own_nlt32 hc23
          exact ih17 _ (by exact own_mless (by assumption) hqn) (i1 + (1 : Int32)) (i3 + (1 : Int32)) (i5 + (1 : Int32)) (.val (.int (gc q))) (q + 1) gf26 T26 _ _ X26 e26 N30 Zs29 K31 F27 F28 (One.val rfl) (by omega) (by omega) (by omega) hqn rfl r32
        · have r33 : own_R p.tables e below F0 (T6.setTop (mkF m 46 #[.val (.ref ca), .val (.int i1), .val (.ref bd), .val (.int i3), .val (.int ln), .val (.int i5), s6] [(.int ln)])) := fun tg_ kg_ => by
            refine r20 tg_ ?_
            show Steps p.tables e below (T6.setTop (mkF m 7 #[.val (.ref ca), .val (.int i1), .val (.ref bd), .val (.int i3), .val (.int ln), .val (.int i5), s6] [(.int ln), (.int i5)])) _
            refine XS.icmpYes X7.here hx rfl (pc0 := 7) (pc' := 44) rfl (hb hby d6_7) rfl (flt hc21).2.1 (by decide) (by decide) ?_
            show Steps p.tables e below (T6.setTop (mkF m 44 #[.val (.ref ca), .val (.int i1), .val (.ref bd), .val (.int i3), .val (.int ln), .val (.int i5), s6] [])) _
            refine XS.iload X7.here hx rfl (hb hby d6_44) rfl ?_
            exact kg_
          refine hG (own_fin X7 hlk (some (.int ln)) (own_hv Bd.returns) ?_ (by decide) (by decide) (fun fs hr => r33 _ (retOut X7 hx Bd.returns rfl (Or.inl ⟨rfl, Or.inl rfl, _, rfl⟩) (hb hby d6_46) hr)))
          rw [e9]
          refine ⟨gr, ?_, N10, K12, F15⟩
          rfl
    exact J5 _ (0 : Int32) (0 : Int32) (0 : Int32) (.unset) 0 gb s₁ _ _ X0 e0 N0 Z0 K0 A1 A2 One.u (by decide) (by decide) (by decide) (Nat.zero_le _) rfl r4
  exact key _ _ id (fun t k => castTop (ef_6 m ca bd ln) k)
theorem pd_0 : parseMethodDescriptor "([CI[BII)I" = some ⟨[(.array .char), .int, (.array .byte), .int, .int], some .int⟩ := by decide +kernel
theorem d5_0 : decode jdk_52_method_16_code 0 = .ok (.iload_n 2, 1) := by decide +kernel
theorem d5_1 : decode jdk_52_method_16_code 1 = .ok (.newarray .byte, 2) := by decide +kernel
theorem d5_3 : decode jdk_52_method_16_code 3 = .ok (.astore_n 3, 1) := by decide +kernel
theorem d5_4 : decode jdk_52_method_16_code 4 = .ok (.aload_n 0, 1) := by decide +kernel
theorem d5_5 : decode jdk_52_method_16_code 5 = .ok (.iload_n 1, 1) := by decide +kernel
theorem d5_6 : decode jdk_52_method_16_code 6 = .ok (.aload_n 3, 1) := by decide +kernel
theorem d5_7 : decode jdk_52_method_16_code 7 = .ok (.iconst 0, 1) := by decide +kernel
theorem d5_8 : decode jdk_52_method_16_code 8 = .ok (.iload_n 2, 1) := by decide +kernel
theorem d5_9 : decode jdk_52_method_16_code 9 = .ok (.invokestatic 115, 3) := by decide +kernel
theorem d5_12 : decode jdk_52_method_16_code 12 = .ok (.istore 4, 2) := by decide +kernel
theorem d5_14 : decode jdk_52_method_16_code 14 = .ok (.iload 4, 2) := by decide +kernel
theorem d5_16 : decode jdk_52_method_16_code 16 = .ok (.iload_n 2, 1) := by decide +kernel
theorem d5_17 : decode jdk_52_method_16_code 17 = .ok (.if_icmp .eq 40, 3) := by decide +kernel
theorem d5_57 : decode jdk_52_method_16_code 57 = .ok (.aload_n 3, 1) := by decide +kernel
theorem d5_58 : decode jdk_52_method_16_code 58 = .ok (.areturn, 1) := by decide +kernel
theorem ef_5 (m : MethodId) (x0 : Addr) (x2 : Int32) : entryFrame m #[(.ref x0), (.int (0 : Int32)), (.int x2)] 6 = mkF m 0 #[.val (.ref x0), .val (.int (0 : Int32)), .val (.int x2), .unset, .unset, .unset] [] := by first | (simp [entryFrame, mkF, argsToLocals, Value.category]; done) | rfl
def Q5 (Z : State) (ca : Addr) (ln : Int32) (nn : Nat) (gc : Nat → Int32) (h0 : Heap) (n0 : Nat) (v : Option Value) (h : Heap) (L : List Loc) : Prop := ∃ (bb : Addr), ∃ (gx : Nat → Int32), v = some (.ref bb) ∧ Fr n0 L ∧ Keep h0 h [] ∧ h0.size ≤ bb ∧ own_Arf Z h bb .byte nn (fun i => (.int (gx i)))
set_option maxRecDepth 65536 in
set_option maxHeartbeats 40000000 in
theorem rm5 (l : Launch) (Z : State) (a0 : Array Value) (hw : ∀ d ∈ tables_1, d.before a0 Z = true) (ws : List Jvm.Cond) (ca : Addr) (ln : Int32) (nn : Nat) (gc : Nat → Int32) (h0 : Heap) (n0 : Nat) (Z0 : n0 ≤ h0.size) (A1 : own_Arf Z h0 ca .char nn (fun i => (.int (gc i)))) (hln : ln.toInt = nn) (hnn : nn ≤ 3) (hch : ∀ j, 0 ≤ (gc j).toInt ∧ (gc j).toInt ≤ 255) :
    MetFree l (⟨"java/lang/StringUTF16", "compress", "([CII)[B"⟩ : MethodName) (head1 (Jvm.Cond.code (⟨"java/lang/StringUTF16", "compress", "([CII)[B"⟩ : MethodName) jdk_52_method_16_code 6 (some (.array .byte)) :: ws) ({ frames := 1, cells := 1, slots := 3, locals := 18 } : Room)) (fun a U => a = #[(.ref ca), (.int (0 : Int32)), (.int ln)] ∧ Z.Warmed39 U.vm ∧ U.heap = h0) (fun _ _ _ _ _ => True) (fun _ U o U' => ∃ v L, o = .returned v ∧ Q5 Z ca ln nn gc h0 n0 v U'.heap L ∧ FrameEnd U o U' L ({ frames := 1, cells := 1, slots := 3, locals := 18 } : Room).cells ({ frames := 1, cells := 1, slots := 3, locals := 18 } : Room).slots) := by
  refine MetFree.of_bodySF (plainFor_of_name pn_1) hisR ?_
  intro p e s m args below meth c s₁ Bd hml0 hP hK
  obtain ⟨rfl, hZ, hh⟩ := hP
  have hx := Bd.exec
  have hby := Bd.bytes
  have hml : c.maxLocals = 6 := hml0
  have hown : s.vm.findClass "java/lang/StringUTF16" = some m.cls := findClass_of_methodNamed Bd.named
  have hnm := (name_of_methodNamed Bd.named Bd.method).1
  have hlk : meth.locks = false := BodyLoose.notSynchronized Bd
  have X0 : Stand p l e ({ frames := 1, cells := 1, slots := 3, locals := 18 } : Room) s m #[(.ref ca), (.int (0 : Int32)), (.int ln)] below meth c s₁ [] 0 0 := Stand.of_body Bd
  have e0 : s₁.heap = h0 := by rw [← hh, Bd.state]; rfl
  have N0 := Fr.nil n0
  have K0 : Keep h0 h0 [] := Keep.refl h0 _
  have key : ∀ (F0 : State) (G : Prop), (own_G p e below s F0 (Q5 Z ca ln nn gc h0 n0) ({ frames := 1, cells := 1, slots := 3, locals := 18 } : Room).cells ({ frames := 1, cells := 1, slots := 3, locals := 18 } : Room).slots → G) → own_R p.tables e below F0 (s₁.setTop (mkF m 0 #[.val (.ref ca), .val (.int (0 : Int32)), .val (.int ln), .unset, .unset, .unset] [])) → G := by
    intro F0 G hG r0
    have r34 : own_R p.tables e below F0 (s₁.setTop (mkF m 1 #[.val (.ref ca), .val (.int (0 : Int32)), .val (.int ln), .unset, .unset, .unset] [(.int ln)])) := fun tg_ kg_ => by
      refine r0 tg_ ?_
      show Steps p.tables e below (s₁.setTop (mkF m 0 #[.val (.ref ca), .val (.int (0 : Int32)), .val (.int ln), .unset, .unset, .unset] [])) _
      refine XS.iloadN X0.here hx rfl (hb hby d5_0) rfl ?_
      exact kg_
    obtain ⟨T35, h35, k35, X35, e35, E35, A35, st35⟩ := newP X0 hx hZ (hw _ (List.mem_of_getElem? (i := 23) rfl)) e0 (g := (mkF m 1 #[.val (.ref ca), .val (.int (0 : Int32)), .val (.int ln), .unset, .unset, .unset] [(.int ln)])) rfl (hb hby d5_1) rfl (fun q => by have := own_lt32 q; have : (0 : Int32).toInt = 0 := rfl; omega) (cap := 3) (by rw [own_clamp hln]; exact hnn) (by decide) (by decide) (by decide)
    obtain ⟨b35, g35⟩ : ∃ z, z = h0.size := ⟨_, rfl⟩
    rw [← g35] at A35 st35
    have ne36 : ca ≠ b35 := Nat.ne_of_lt (Nat.lt_of_lt_of_le A1.lt (Nat.le_of_eq g35.symm))
    have ge35 : n0 ≤ b35 := Nat.le_trans Z0 (Nat.le_of_eq g35.symm)
    have old35 : h0.size ≤ b35 := Nat.le_trans K0.1 (Nat.le_of_eq g35.symm)
    have K35 : Keep h0 h35 [] := K0.ext E35
    have F37 : own_Arf Z h35 ca .char nn (fun i => (.int (gc i))) := A1.ext E35
    have Zs38 : n0 ≤ h35.size := Nat.le_trans Z0 E35.1
    have F39 : own_Arf Z h35 b35 .byte nn (fun i => (.int ((fun _ => (0 : Int32)) i))) := by
      have q := own_Arf.new A35 (fun q => by have := own_lt32 q; have : (0 : Int32).toInt = 0 := rfl; omega)
      rw [show (ln).toNatClampNeg = nn from own_clamp hln] at q
      exact q
    have r35 : own_R p.tables e below F0 (T35.setTop (mkF m 3 #[.val (.ref ca), .val (.int (0 : Int32)), .val (.int ln), .unset, .unset, .unset] [(.ref b35)])) := fun tg_ kg_ => r34 tg_ (st35 tg_ kg_)
    have r40 : own_R p.tables e below F0 (T35.setTop (mkF m 9 #[.val (.ref ca), .val (.int (0 : Int32)), .val (.int ln), .val (.ref b35), .unset, .unset] [(.int ln), (.int (0 : Int32)), (.ref b35), (.int (0 : Int32)), (.ref ca)])) := fun tg_ kg_ => by
      refine r35 tg_ ?_
      show Steps p.tables e below (T35.setTop (mkF m 3 #[.val (.ref ca), .val (.int (0 : Int32)), .val (.int ln), .unset, .unset, .unset] [(.ref b35)])) _
      refine XS.astoreN X35.here hx rfl (hb hby d5_3) rfl rfl (l' := #[.val (.ref ca), .val (.int (0 : Int32)), .val (.int ln), .val (.ref b35), .unset, .unset]) rfl ?_
      show Steps p.tables e below (T35.setTop (mkF m 4 #[.val (.ref ca), .val (.int (0 : Int32)), .val (.int ln), .val (.ref b35), .unset, .unset] [])) _
      refine XS.aloadN X35.here hx rfl (hb hby d5_4) rfl rfl ?_
      show Steps p.tables e below (T35.setTop (mkF m 5 #[.val (.ref ca), .val (.int (0 : Int32)), .val (.int ln), .val (.ref b35), .unset, .unset] [(.ref ca)])) _
      refine XS.iloadN X35.here hx rfl (hb hby d5_5) rfl ?_
      show Steps p.tables e below (T35.setTop (mkF m 6 #[.val (.ref ca), .val (.int (0 : Int32)), .val (.int ln), .val (.ref b35), .unset, .unset] [(.int (0 : Int32)), (.ref ca)])) _
      refine XS.aloadN X35.here hx rfl (hb hby d5_6) rfl rfl ?_
      show Steps p.tables e below (T35.setTop (mkF m 7 #[.val (.ref ca), .val (.int (0 : Int32)), .val (.int ln), .val (.ref b35), .unset, .unset] [(.ref b35), (.int (0 : Int32)), (.ref ca)])) _
      refine XS.iconst X35.here hx rfl (hb hby d5_7) ?_
      show Steps p.tables e below (T35.setTop (mkF m 8 #[.val (.ref ca), .val (.int (0 : Int32)), .val (.int ln), .val (.ref b35), .unset, .unset] [(.int (0 : Int32)), (.ref b35), (.int (0 : Int32)), (.ref ca)])) _
      refine XS.iloadN X35.here hx rfl (hb hby d5_8) rfl ?_
      exact kg_
    obtain ⟨_, _, ⟨T41, L41, k41, n41⟩, -, X41, ⟨Lc41, hQ41, l41, y41, z41⟩, st41⟩ := Jvm.LawKit.callS X35 hx (y := (⟨"java/lang/StringUTF16", "compress", "([CI[BII)I"⟩ : MethodName)) hown (mvT hZ (hw _ (List.mem_of_getElem? (i := 24) rfl))) (mvT hZ (hw _ (List.mem_of_getElem? (i := 25) rfl))) (mvT hZ (hw _ (List.mem_of_getElem? (i := 21) rfl))) (mvT hZ (hw _ (List.mem_of_getElem? (i := 26) rfl))) (by decide) (backOf (W := 0) (rm6 l Z a0 hw [] ca b35 ln (nn) (gc) ((fun _ => (0 : Int32))) h35 n0 Zs38 F37 F39 hln hnn hch ne36 ge35) hZ (hw _ (List.mem_of_getElem? (i := 26) rfl)) (hw _ (List.mem_of_getElem? (i := 21) rfl)) (by decide) (by decide)) (g := (mkF m 9 #[.val (.ref ca), .val (.int (0 : Int32)), .val (.int ln), .val (.ref b35), .unset, .unset] [(.int ln), (.int (0 : Int32)), (.ref b35), (.int (0 : Int32)), (.ref ca)])) rfl (by rw [hml]; rfl) (argsL := [(.ref ca), (.int (0 : Int32)), (.ref b35), (.int (0 : Int32)), (.int ln)]) (rest := []) (lenOf pd_0 rfl) rfl (by show 2 * 0 + _ ≤ _; exact Nat.le_of_eq rfl) (hb hby d5_9) (fun _ _ => ⟨rfl, e35, (by decide : 1 + 0 ≤ _), (by decide : 3 + 0 ≤ _)⟩)
    dsimp only [Pt.U, Pt.locs, Pt.cells, Pt.slots] at X41 l41 y41 z41 st41 hQ41
    subst l41 y41 z41
    obtain ⟨gx_41, rfl, N41q, I41_0, I41_1⟩ := hQ41
    have N41 := Fr.app N0 N41q
    obtain ⟨h41, e41⟩ : ∃ z, T41.heap = z := ⟨_, rfl⟩
    rw [e41] at I41_0 I41_1
    have F42 : own_Arf Z h41 ca .char nn (fun i => (.int (gc i))) := F37.keep I41_0 (ninS ne36 nin0)
    have K43 : Keep h0 h41 [] := K35.trans I41_0 (allS (Or.inr old35) all0)
    have Zs44 : n0 ≤ h41.size := Nat.le_trans Zs38 I41_0.1
    have r41 : own_R p.tables e below F0 (T41.setTop (mkF m 12 #[.val (.ref ca), .val (.int (0 : Int32)), .val (.int ln), .val (.ref b35), .unset, .unset] [(.int ln)])) := fun tg_ kg_ => r40 tg_ (st41 tg_ kg_)
    have r45 : own_R p.tables e below F0 (T41.setTop (mkF m 58 #[.val (.ref ca), .val (.int (0 : Int32)), .val (.int ln), .val (.ref b35), .val (.int ln), .unset] [(.ref b35)])) := fun tg_ kg_ => by
      refine r41 tg_ ?_
      show Steps p.tables e below (T41.setTop (mkF m 12 #[.val (.ref ca), .val (.int (0 : Int32)), .val (.int ln), .val (.ref b35), .unset, .unset] [(.int ln)])) _
      refine XS.istore X41.here hx rfl (hb hby d5_12) rfl (l' := #[.val (.ref ca), .val (.int (0 : Int32)), .val (.int ln), .val (.ref b35), .val (.int ln), .unset]) rfl ?_
      show Steps p.tables e below (T41.setTop (mkF m 14 #[.val (.ref ca), .val (.int (0 : Int32)), .val (.int ln), .val (.ref b35), .val (.int ln), .unset] [])) _
      refine XS.iload X41.here hx rfl (hb hby d5_14) rfl ?_
      show Steps p.tables e below (T41.setTop (mkF m 16 #[.val (.ref ca), .val (.int (0 : Int32)), .val (.int ln), .val (.ref b35), .val (.int ln), .unset] [(.int ln)])) _
      refine XS.iloadN X41.here hx rfl (hb hby d5_16) rfl ?_
      show Steps p.tables e below (T41.setTop (mkF m 17 #[.val (.ref ca), .val (.int (0 : Int32)), .val (.int ln), .val (.ref b35), .val (.int ln), .unset] [(.int ln), (.int ln)])) _
      refine XS.icmpYes X41.here hx rfl (pc0 := 17) (pc' := 57) rfl (hb hby d5_17) rfl (teq rfl).1 (by decide) (by decide) ?_
      show Steps p.tables e below (T41.setTop (mkF m 57 #[.val (.ref ca), .val (.int (0 : Int32)), .val (.int ln), .val (.ref b35), .val (.int ln), .unset] [])) _
      refine XS.aloadN X41.here hx rfl (hb hby d5_57) rfl rfl ?_
      exact kg_
    refine hG (own_fin X41 hlk (some (.ref b35)) (own_hv Bd.returns) ?_ (by decide) (by decide) (fun fs hr => r45 _ (retOut X41 hx Bd.returns rfl (Or.inr (Or.inr (Or.inr (Or.inr ⟨rfl, rfl, rfl⟩)))) (hb hby d5_58) hr)))
    rw [e41]
    refine ⟨b35, gx_41, ?_, N41, K43, old35, I41_1⟩
    rfl
  exact key _ _ id (fun t k => castTop (ef_5 m ca ln) k)
theorem pn_2 : plainName "java/lang/String" = true := by first | (simp [plainName, overriddenIn]; done) | decide +kernel
theorem d3_0 : decode jdk_42_method_149_code 0 = .ok (.aload_n 0, 1) := by decide +kernel
theorem d3_1 : decode jdk_42_method_149_code 1 = .ok (.invokespecial 1, 3) := by decide +kernel
theorem d3_4 : decode jdk_42_method_149_code 4 = .ok (.iload_n 3, 1) := by decide +kernel
theorem d3_5 : decode jdk_42_method_149_code 5 = .ok (.ifCond .ne 22, 3) := by decide +kernel
theorem d3_8 : decode jdk_42_method_149_code 8 = .ok (.aload_n 0, 1) := by decide +kernel
theorem d3_9 : decode jdk_42_method_149_code 9 = .ok (.ldc 7, 2) := by decide +kernel
theorem d3_11 : decode jdk_42_method_149_code 11 = .ok (.getfield 9, 3) := by decide +kernel
theorem d3_14 : decode jdk_42_method_149_code 14 = .ok (.putfield 9, 3) := by decide +kernel
theorem d3_17 : decode jdk_42_method_149_code 17 = .ok (.aload_n 0, 1) := by decide +kernel
theorem d3_18 : decode jdk_42_method_149_code 18 = .ok (.ldc 7, 2) := by decide +kernel
theorem d3_20 : decode jdk_42_method_149_code 20 = .ok (.getfield 15, 3) := by decide +kernel
theorem d3_23 : decode jdk_42_method_149_code 23 = .ok (.putfield 15, 3) := by decide +kernel
theorem d3_26 : decode jdk_42_method_149_code 26 = .ok (.return_, 1) := by decide +kernel
theorem ef_3e (m : MethodId) (x0 : Addr) (x1 : Addr) : entryFrame m #[(.ref x0), (.ref x1), (.int (0 : Int32)), (.int (0 : Int32)), .null] 6 = mkF m 0 #[.val (.ref x0), .val (.ref x1), .val (.int (0 : Int32)), .val (.int (0 : Int32)), .val .null, .unset] [] := by first | (simp [entryFrame, mkF, argsToLocals, Value.category]; done) | rfl
def Q3e (Z : State) (a1 : Addr) (ca : Addr) (h0 : Heap) (n0 : Nat) (v : Option Value) (h : Heap) (L : List Loc) : Prop := ∃ (bb : Addr), v = none ∧ Fr n0 L ∧ Keep h0 h [a1] ∧ Exa Z h a1 "java/lang/String" ∧ Fld Z h a1 "java/lang/String" "value" "[B" (.ref bb) ∧ own_Arf Z h bb .byte 0 (fun i => (.int ((fun _ => (0 : Int32)) i)))
set_option maxRecDepth 65536 in
set_option maxHeartbeats 40000000 in
theorem rm3e (l : Launch) (Z : State) (a0 : Array Value) (hw : ∀ d ∈ tables_1, d.before a0 Z = true) (ws : List Jvm.Cond) (a1 : Addr) (ca : Addr) (h0 : Heap) (n0 : Nat) (Z0 : n0 ≤ h0.size) (E1 : Exa Z h0 a1 "java/lang/String") (Fv : Fld Z h0 a1 "java/lang/String" "value" "[B" .null) (Fc : Fld Z h0 a1 "java/lang/String" "coder" "B" (.int (0 : Int32))) (ga1 : n0 ≤ a1) :
    MetFree l (⟨"java/lang/String", "<init>", "([CIILjava/lang/Void;)V"⟩ : MethodName) (head1 (Jvm.Cond.code (⟨"java/lang/String", "<init>", "([CIILjava/lang/Void;)V"⟩ : MethodName) jdk_42_method_149_code 6 none :: ws) ({ frames := 1, cells := 4, slots := 8, locals := 12 } : Room)) (fun a U => a = #[(.ref a1), (.ref ca), (.int (0 : Int32)), (.int (0 : Int32)), .null] ∧ Z.Warmed39 U.vm ∧ U.heap = h0 ∧ CHv Z consts_1 U.vm h0) (fun _ _ _ _ _ => True) (fun _ U o U' => ∃ v L, o = .returned v ∧ Q3e Z a1 ca h0 n0 v U'.heap L ∧ CHr Z consts_1 U.vm U.heap U'.vm U'.heap ∧ ReturnedEndW U o U' L ({ frames := 1, cells := 4, slots := 8, locals := 12 } : Room).cells ({ frames := 1, cells := 4, slots := 8, locals := 12 } : Room).slots) := by
  refine MetFree.of_bodySF (plainFor_of_name pn_2) hisR ?_
  intro p e s m args below meth c s₁ Bd hml0 hP hK
  obtain ⟨rfl, hZ, hh, hCH⟩ := hP
  have hx := Bd.exec
  have hby := Bd.bytes
  have hml : c.maxLocals = 6 := hml0
  have hown : s.vm.findClass "java/lang/String" = some m.cls := findClass_of_methodNamed Bd.named
  have hnm := (name_of_methodNamed Bd.named Bd.method).1
  have hlk : meth.locks = false := BodyLoose.notSynchronized Bd
  have X0 : Stand p l e ({ frames := 1, cells := 4, slots := 8, locals := 12 } : Room) (s.setVm s.vm) m #[(.ref a1), (.ref ca), (.int (0 : Int32)), (.int (0 : Int32)), .null] below meth c s₁ [] 0 0 := Stand.of_body Bd
  have e0 : s₁.heap = h0 := by rw [← hh, Bd.state]; rfl
  have N0 := Fr.nil n0
  have K0 : Keep h0 h0 [a1] := Keep.refl h0 _
  have hZ : Z.Warmed39 (s.setVm s.vm).vm := hZ
  have hown : (s.setVm s.vm).vm.findClass "java/lang/String" = some m.cls := hown
  have hS0 : s.Since s.vm h0.size := State.WarmedH.since (State.WarmedH.refl s) _
  have hk0 : h0.size ≤ h0.size := Nat.le_refl _
  have CR0 : CHr Z consts_1 s.vm s.heap s.vm h0 := by rw [hh]; exact CHr.refl hCH
  have hEL : EW Z a0 consts_1 := own_EW hw
  have Sf0_a1 : Safe Z consts_1 s.vm h0 a1 := own_safeNull hZ.alike E1 Fv
  have key : ∀ (F0 : State) (G : Prop), (own_GW p e below s F0 Z consts_1 (Q3e Z a1 ca h0 n0) ({ frames := 1, cells := 4, slots := 8, locals := 12 } : Room).cells ({ frames := 1, cells := 4, slots := 8, locals := 12 } : Room).slots → G) → own_R p.tables e below F0 (s₁.setTop (mkF m 0 #[.val (.ref a1), .val (.ref ca), .val (.int (0 : Int32)), .val (.int (0 : Int32)), .val .null, .unset] [])) → G := by
    intro F0 G hG r0
    have r46 : own_R p.tables e below F0 (s₁.setTop (mkF m 1 #[.val (.ref a1), .val (.ref ca), .val (.int (0 : Int32)), .val (.int (0 : Int32)), .val .null, .unset] [(.ref a1)])) := fun tg_ kg_ => by
      refine r0 tg_ ?_
      show Steps p.tables e below (s₁.setTop (mkF m 0 #[.val (.ref a1), .val (.ref ca), .val (.int (0 : Int32)), .val (.int (0 : Int32)), .val .null, .unset] [])) _
      refine XS.aloadN X0.here hx rfl (hb hby d3_0) rfl rfl ?_
      exact kg_
    obtain ⟨T47, X47, e47, st47⟩ := initO X0 hx hZ hown (hw _ (List.mem_of_getElem? (i := 15) rfl)) (hw _ (List.mem_of_getElem? (i := 16) rfl)) (hw _ (List.mem_of_getElem? (i := 17) rfl)) e0 (g := (mkF m 1 #[.val (.ref a1), .val (.ref ca), .val (.int (0 : Int32)), .val (.int (0 : Int32)), .val .null, .unset] [(.ref a1)])) rfl (by rw [hml]; rfl) rfl (hb hby d3_1) (by decide) (W := 0) (by show 2 * 0 + _ ≤ _; exact Nat.le_of_eq rfl) (by decide)
    have r47 : own_R p.tables e below F0 (T47.setTop (mkF m 4 #[.val (.ref a1), .val (.ref ca), .val (.int (0 : Int32)), .val (.int (0 : Int32)), .val .null, .unset] [])) := fun tg_ kg_ => r46 tg_ (st47 tg_ kg_)
    have r48 : own_R p.tables e below F0 (T47.setTop (mkF m 9 #[.val (.ref a1), .val (.ref ca), .val (.int (0 : Int32)), .val (.int (0 : Int32)), .val .null, .unset] [(.ref a1)])) := fun tg_ kg_ => by
      refine r47 tg_ ?_
      show Steps p.tables e below (T47.setTop (mkF m 4 #[.val (.ref a1), .val (.ref ca), .val (.int (0 : Int32)), .val (.int (0 : Int32)), .val .null, .unset] [])) _
      refine XS.iloadN X47.here hx rfl (hb hby d3_4) rfl ?_
      show Steps p.tables e below (T47.setTop (mkF m 5 #[.val (.ref a1), .val (.ref ca), .val (.int (0 : Int32)), .val (.int (0 : Int32)), .val .null, .unset] [(.int (0 : Int32))])) _
      refine XS.ifNo X47.here hx rfl (hb hby d3_5) rfl ((if0 _ _).trans (teq (show (0 : Int32) = (0 : Int32) from by decide)).2) ?_
      show Steps p.tables e below (T47.setTop (mkF m 8 #[.val (.ref a1), .val (.ref ca), .val (.int (0 : Int32)), .val (.int (0 : Int32)), .val .null, .unset] [])) _
      refine XS.aloadN X47.here hx rfl (hb hby d3_8) rfl rfl ?_
      exact kg_
    obtain ⟨a49, T49, h49, k49, b49, kc49, X49, e49, E49, hS49, hk49, hZ, hown, A49, Fc49, Fv49, Ar49, -, -, CA49, Li49, ne49, st49⟩ := ldcCH (EL := consts_1) (s := s) (vm0 := s.vm) (own := "java/lang/String") (text := "") X47 hx hZ hown (hw _ (List.mem_of_getElem? (i := 34) rfl)) (own_wS hw) e47 hS0 hk0 hEL (List.mem_of_getElem? (i := 0) rfl) CR0.1 (vs := []) (z := (0 : Int32)) ⟨by decide, by decide⟩ (by decide) rfl (g := (mkF m 9 #[.val (.ref a1), .val (.ref ca), .val (.int (0 : Int32)), .val (.int (0 : Int32)), .val .null, .unset] [(.ref a1)])) rfl (hb hby d3_9) (n := 0) (by decide) (by decide) (by decide) (by decide)
    have F50 : Exa Z h49 a1 "java/lang/String" := E1.ext E49
    have F51 : Fld Z h49 a1 "java/lang/String" "value" "[B" .null := Fv.ext E49
    have F52 : Fld Z h49 a1 "java/lang/String" "coder" "B" (.int (0 : Int32)) := Fc.ext E49
    have Sf53 : Safe Z consts_1 T49.vm h49 a1 := CA49.safe E1.lt Sf0_a1
    have ne54 : a1 ≠ a49 := (ne49 _ Sf53).1
    have ne55 : a1 ≠ b49 := (ne49 _ Sf53).2
    have CR56 : CHr Z consts_1 s.vm s.heap T49.vm h49 := CR0.trans CA49
    have K49 : Keep h0 h49 [a1] := K0.ext E49
    have Zs57 : n0 ≤ h49.size := Nat.le_trans Z0 E49.1
    have F58 : own_Arf Z h49 b49 .byte 0 (fun i => (.int ((fun _ => (0 : Int32)) i))) := own_ArfLit Ar49
    have r49 : own_R p.tables e below F0 (T49.setTop (mkF m 11 #[.val (.ref a1), .val (.ref ca), .val (.int (0 : Int32)), .val (.int (0 : Int32)), .val .null, .unset] [(.ref a49), (.ref a1)])) := fun tg_ kg_ => r48 tg_ (st49 tg_ kg_)
    obtain ⟨T59, X59, e59, st59⟩ := getF X49 hx hZ hown (host := "") (Or.inl (hw _ (List.mem_of_getElem? (i := 32) rfl))) Via.refl e49 Fv49 (g := (mkF m 11 #[.val (.ref a1), .val (.ref ca), .val (.int (0 : Int32)), .val (.int (0 : Int32)), .val .null, .unset] [(.ref a49), (.ref a1)])) rfl rfl (hb hby d3_11)
    have r59 : own_R p.tables e below F0 (T59.setTop (mkF m 14 #[.val (.ref a1), .val (.ref ca), .val (.int (0 : Int32)), .val (.int (0 : Int32)), .val .null, .unset] [(.ref b49), (.ref a1)])) := fun tg_ kg_ => r49 tg_ (st59 tg_ kg_)
    obtain ⟨T60, h60, X60, e60, W60, st60⟩ := putF X59 hx hZ hown (host := "") (Or.inl (hw _ (List.mem_of_getElem? (i := 32) rfl))) Via.refl e59 F51 F50 (Or.inr ⟨(hw _ (List.mem_of_getElem? (i := 33) rfl)), rfl, hnm⟩) (hw _ (List.mem_of_getElem? (i := 5) rfl)) (ty := (.array .byte)) (by decide) rfl rfl (g := (mkF m 14 #[.val (.ref a1), .val (.ref ca), .val (.int (0 : Int32)), .val (.int (0 : Int32)), .val .null, .unset] [(.ref b49), (.ref a1)])) rfl rfl (hb hby d3_14)
    have Sf61 : Safe Z consts_1 T49.vm h60 a1 := Safe.wr W60 Sf53 CR56.1 Sf53
    have CR62 : CHr Z consts_1 s.vm s.heap T49.vm h60 := CR56.trans (CHr.wr W60 Sf53 CR56.1)
    have hk63 : k49 ≤ h60.size := Nat.le_trans hk49 (Nat.le_of_eq W60.size.symm)
    have F64 : Exa Z h60 a1 "java/lang/String" := F50.wr W60
    have F65 : Fld Z h60 a1 "java/lang/String" "value" "[B" (.ref b49) := F51.same W60
    have F66 : Fld Z h60 a1 "java/lang/String" "coder" "B" (.int (0 : Int32)) := F52.other W60 (Or.inr (slot_ne (Or.inr (hw _ (List.mem_of_getElem? (i := 31) rfl))) (Or.inr (hw _ (List.mem_of_getElem? (i := 33) rfl))) (by decide) (t := .byte) (t' := (.array .byte)) (by decide) (by decide)))
    have F67 : Exa Z h60 a49 "java/lang/String" := A49.wr W60
    have F68 : Fld Z h60 a49 "java/lang/String" "coder" "B" (.int (0 : Int32)) := Fc49.other W60 (Or.inl (Ne.symm ne54))
    have F69 : Fld Z h60 a49 "java/lang/String" "value" "[B" (.ref b49) := Fv49.other W60 (Or.inl (Ne.symm ne54))
    have F70 : own_Arf Z h60 b49 .byte 0 (fun i => (.int ((fun _ => (0 : Int32)) i))) := F58.other W60 (Ne.symm ne55)
    have Zs71 : n0 ≤ h60.size := by rw [W60.size]; exact Zs57
    have N72 := Fr.snoc X60 N0 ga1
    have K73 : Keep h0 h60 [a1] := K49.wr W60 (Or.inl (List.mem_of_getElem? (i := 0) rfl))
    have r60 : own_R p.tables e below F0 (T60.setTop (mkF m 17 #[.val (.ref a1), .val (.ref ca), .val (.int (0 : Int32)), .val (.int (0 : Int32)), .val .null, .unset] [])) := fun tg_ kg_ => r59 tg_ (st60 tg_ kg_)
    have r74 : own_R p.tables e below F0 (T60.setTop (mkF m 18 #[.val (.ref a1), .val (.ref ca), .val (.int (0 : Int32)), .val (.int (0 : Int32)), .val .null, .unset] [(.ref a1)])) := fun tg_ kg_ => by
      refine r60 tg_ ?_
      show Steps p.tables e below (T60.setTop (mkF m 17 #[.val (.ref a1), .val (.ref ca), .val (.int (0 : Int32)), .val (.int (0 : Int32)), .val .null, .unset] [])) _
      refine XS.aloadN X60.here hx rfl (hb hby d3_17) rfl rfl ?_
      exact kg_
    obtain ⟨a75, T75, h75, k75, b75, kc75, X75, e75, E75, hS75, hk75, hZ, hown, A75, Fc75, Fv75, Ar75, -, -, CA75, Li75, ne75, st75⟩ := ldcCH (EL := consts_1) (s := s) (vm0 := T49.vm) (own := "java/lang/String") (text := "") X60 hx hZ hown (hw _ (List.mem_of_getElem? (i := 34) rfl)) (own_wS hw) e60 hS49 hk63 hEL (List.mem_of_getElem? (i := 0) rfl) CR62.1 (vs := []) (z := (0 : Int32)) ⟨by decide, by decide⟩ (by decide) rfl (g := (mkF m 18 #[.val (.ref a1), .val (.ref ca), .val (.int (0 : Int32)), .val (.int (0 : Int32)), .val .null, .unset] [(.ref a1)])) rfl (hb hby d3_18) (n := 0) (by decide) (by decide) (by decide) (by decide)
    have F76 : Exa Z h75 a1 "java/lang/String" := F64.ext E75
    have F77 : Fld Z h75 a1 "java/lang/String" "value" "[B" (.ref b49) := F65.ext E75
    have F78 : Fld Z h75 a1 "java/lang/String" "coder" "B" (.int (0 : Int32)) := F66.ext E75
    have F79 : Exa Z h75 a49 "java/lang/String" := F67.ext E75
    have F80 : Fld Z h75 a49 "java/lang/String" "coder" "B" (.int (0 : Int32)) := F68.ext E75
    have F81 : Fld Z h75 a49 "java/lang/String" "value" "[B" (.ref b49) := F69.ext E75
    have F82 : own_Arf Z h75 b49 .byte 0 (fun i => (.int ((fun _ => (0 : Int32)) i))) := F70.ext E75
    have Sf83 : Safe Z consts_1 T75.vm h75 a1 := CA75.safe F64.lt Sf61
    have ne84 : a1 ≠ a75 := (ne75 _ Sf83).1
    have ne85 : a1 ≠ b75 := (ne75 _ Sf83).2
    have CR86 : CHr Z consts_1 s.vm s.heap T75.vm h75 := CR62.trans CA75
    have K75 : Keep h0 h75 [a1] := K73.ext E75
    have Zs87 : n0 ≤ h75.size := Nat.le_trans Zs71 E75.1
    have F88 : own_Arf Z h75 b75 .byte 0 (fun i => (.int ((fun _ => (0 : Int32)) i))) := own_ArfLit Ar75
    have r75 : own_R p.tables e below F0 (T75.setTop (mkF m 20 #[.val (.ref a1), .val (.ref ca), .val (.int (0 : Int32)), .val (.int (0 : Int32)), .val .null, .unset] [(.ref a75), (.ref a1)])) := fun tg_ kg_ => r74 tg_ (st75 tg_ kg_)
    obtain ⟨T89, X89, e89, st89⟩ := getF X75 hx hZ hown (host := "") (Or.inl (hw _ (List.mem_of_getElem? (i := 30) rfl))) Via.refl e75 Fc75 (g := (mkF m 20 #[.val (.ref a1), .val (.ref ca), .val (.int (0 : Int32)), .val (.int (0 : Int32)), .val .null, .unset] [(.ref a75), (.ref a1)])) rfl rfl (hb hby d3_20)
    have r89 : own_R p.tables e below F0 (T89.setTop (mkF m 23 #[.val (.ref a1), .val (.ref ca), .val (.int (0 : Int32)), .val (.int (0 : Int32)), .val .null, .unset] [(.int (0 : Int32)), (.ref a1)])) := fun tg_ kg_ => r75 tg_ (st89 tg_ kg_)
    obtain ⟨T90, h90, X90, e90, W90, st90⟩ := putFN X89 hx hZ hown (hw _ (List.mem_of_getElem? (i := 30) rfl)) Via.refl e89 F78 F76 (Or.inr ⟨(hw _ (List.mem_of_getElem? (i := 31) rfl)), rfl, hnm⟩) (hw _ (List.mem_of_getElem? (i := 5) rfl)) (ty := .byte) (v' := (.int (nar .byte (0 : Int32)))) (by decide) rfl (fits_nar_byte (0 : Int32)) (g := (mkF m 23 #[.val (.ref a1), .val (.ref ca), .val (.int (0 : Int32)), .val (.int (0 : Int32)), .val .null, .unset] [(.int (0 : Int32)), (.ref a1)])) rfl rfl (hb hby d3_23)
    have Sf91 : Safe Z consts_1 T75.vm h90 a1 := Safe.wr W90 Sf83 CR86.1 Sf83
    have CR92 : CHr Z consts_1 s.vm s.heap T75.vm h90 := CR86.trans (CHr.wr W90 Sf83 CR86.1)
    have hk93 : k75 ≤ h90.size := Nat.le_trans hk75 (Nat.le_of_eq W90.size.symm)
    have F94 : Exa Z h90 a1 "java/lang/String" := F76.wr W90
    have F95 : Fld Z h90 a1 "java/lang/String" "value" "[B" (.ref b49) := F77.other W90 (Or.inr (slot_ne (Or.inr (hw _ (List.mem_of_getElem? (i := 33) rfl))) (Or.inr (hw _ (List.mem_of_getElem? (i := 31) rfl))) (by decide) (t := (.array .byte)) (t' := .byte) (by decide) (by decide)))
    have F96 : Fld Z h90 a1 "java/lang/String" "coder" "B" (.int (nar .byte (0 : Int32))) := F78.same W90
    have F97 : Exa Z h90 a49 "java/lang/String" := F79.wr W90
    have F98 : Fld Z h90 a49 "java/lang/String" "coder" "B" (.int (0 : Int32)) := F80.other W90 (Or.inl (Ne.symm ne54))
    have F99 : Fld Z h90 a49 "java/lang/String" "value" "[B" (.ref b49) := F81.other W90 (Or.inl (Ne.symm ne54))
    have F100 : own_Arf Z h90 b49 .byte 0 (fun i => (.int ((fun _ => (0 : Int32)) i))) := F82.other W90 (Ne.symm ne55)
    have F101 : Exa Z h90 a75 "java/lang/String" := A75.wr W90
    have F102 : Fld Z h90 a75 "java/lang/String" "coder" "B" (.int (0 : Int32)) := Fc75.other W90 (Or.inl (Ne.symm ne84))
    have F103 : Fld Z h90 a75 "java/lang/String" "value" "[B" (.ref b75) := Fv75.other W90 (Or.inl (Ne.symm ne84))
    have F104 : own_Arf Z h90 b75 .byte 0 (fun i => (.int ((fun _ => (0 : Int32)) i))) := F88.other W90 (Ne.symm ne85)
    have Zs105 : n0 ≤ h90.size := by rw [W90.size]; exact Zs87
    have N106 := Fr.snoc X90 N72 ga1
    have K107 : Keep h0 h90 [a1] := K75.wr W90 (Or.inl (List.mem_of_getElem? (i := 0) rfl))
    have r90 : own_R p.tables e below F0 (T90.setTop (mkF m 26 #[.val (.ref a1), .val (.ref ca), .val (.int (0 : Int32)), .val (.int (0 : Int32)), .val .null, .unset] [])) := fun tg_ kg_ => r89 tg_ (st90 tg_ kg_)
    refine hG (own_finW X90 hS75 (Nat.le_trans hk93 (Nat.le_of_eq (by rw [e90]))) hlk hZ hEL (by rw [e90]; exact CR92) (none) (fun _ => rfl) ?_ (by decide) (by decide) (fun fs hr => r90 _ (X90.returnOut hx Bd.returns (hb hby d3_26) hr)))
    rw [e90]
    refine ⟨b49, ?_, N106, K107, F94, F95, F100⟩
    rfl
  exact key _ _ id (fun t k => castTop (ef_3e m a1 ca) k)
theorem pd_1 : parseMethodDescriptor "([CII)[B" = some ⟨[(.array .char), .int, .int], some (.array .byte)⟩ := by decide +kernel
theorem pd_2 : parseMethodDescriptor "([BI)B" = some ⟨[(.array .byte), .int], some .byte⟩ := by decide +kernel
theorem d3_27 : decode jdk_42_method_149_code 27 = .ok (.getstatic 38, 3) := by decide +kernel
theorem d3_30 : decode jdk_42_method_149_code 30 = .ok (.ifCond .eq 28, 3) := by decide +kernel
theorem d3_33 : decode jdk_42_method_149_code 33 = .ok (.aload_n 1, 1) := by decide +kernel
theorem d3_34 : decode jdk_42_method_149_code 34 = .ok (.iload_n 2, 1) := by decide +kernel
theorem d3_35 : decode jdk_42_method_149_code 35 = .ok (.iload_n 3, 1) := by decide +kernel
theorem d3_36 : decode jdk_42_method_149_code 36 = .ok (.invokestatic 177, 3) := by decide +kernel
theorem d3_39 : decode jdk_42_method_149_code 39 = .ok (.astore 5, 2) := by decide +kernel
theorem d3_41 : decode jdk_42_method_149_code 41 = .ok (.aload_n 0, 1) := by decide +kernel
theorem d3_42 : decode jdk_42_method_149_code 42 = .ok (.aload 5, 2) := by decide +kernel
theorem d3_44 : decode jdk_42_method_149_code 44 = .ok (.iload_n 3, 1) := by decide +kernel
theorem d3_45 : decode jdk_42_method_149_code 45 = .ok (.invokestatic 47, 3) := by decide +kernel
theorem d3_48 : decode jdk_42_method_149_code 48 = .ok (.putfield 15, 3) := by decide +kernel
theorem d3_51 : decode jdk_42_method_149_code 51 = .ok (.aload_n 0, 1) := by decide +kernel
theorem d3_52 : decode jdk_42_method_149_code 52 = .ok (.aload 5, 2) := by decide +kernel
theorem d3_54 : decode jdk_42_method_149_code 54 = .ok (.putfield 9, 3) := by decide +kernel
theorem d3_57 : decode jdk_42_method_149_code 57 = .ok (.return_, 1) := by decide +kernel
theorem ef_3n (m : MethodId) (x0 : Addr) (x1 : Addr) (x3 : Int32) : entryFrame m #[(.ref x0), (.ref x1), (.int (0 : Int32)), (.int x3), .null] 6 = mkF m 0 #[.val (.ref x0), .val (.ref x1), .val (.int (0 : Int32)), .val (.int x3), .val .null, .unset] [] := by first | (simp [entryFrame, mkF, argsToLocals, Value.category]; done) | rfl
def Q3n (Z : State) (a1 : Addr) (ca : Addr) (ln : Int32) (nn : Nat) (gc : Nat → Int32) (zc : Int32) (h0 : Heap) (n0 : Nat) (v : Option Value) (h : Heap) (L : List Loc) : Prop := ∃ (bb : Addr), ∃ (gx : Nat → Int32), v = none ∧ Fr n0 L ∧ Keep h0 h [a1] ∧ Exa Z h a1 "java/lang/String" ∧ Fld Z h a1 "java/lang/String" "value" "[B" (.ref bb) ∧ own_Arf Z h bb .byte nn (fun i => (.int (gx i)))
set_option maxRecDepth 65536 in
set_option maxHeartbeats 40000000 in
theorem rm3n (l : Launch) (Z : State) (a0 : Array Value) (hw : ∀ d ∈ tables_1, d.before a0 Z = true) (ws : List Jvm.Cond) (a1 : Addr) (ca : Addr) (ln : Int32) (nn : Nat) (gc : Nat → Int32) (zc : Int32) (h0 : Heap) (n0 : Nat) (Z0 : n0 ≤ h0.size) (E1 : Exa Z h0 a1 "java/lang/String") (Fv : Fld Z h0 a1 "java/lang/String" "value" "[B" .null) (Fc : Fld Z h0 a1 "java/lang/String" "coder" "B" (.int (0 : Int32))) (ga1 : n0 ≤ a1) (A1 : own_Arf Z h0 ca .char nn (fun i => (.int (gc i)))) (hnn : 1 ≤ nn ∧ nn ≤ 3) (hch : ∀ j, 0 ≤ (gc j).toInt ∧ (gc j).toInt ≤ 255) (nca : a1 ≠ ca) (S1 : Sta Z h0 "java/lang/String" "COMPACT_STRINGS" "Z" (.int zc)) (hzc : ¬ zc = (0 : Int32)) (hln : ln.toInt = nn) :
    MetFree l (⟨"java/lang/String", "<init>", "([CIILjava/lang/Void;)V"⟩ : MethodName) (head1 (Jvm.Cond.code (⟨"java/lang/String", "<init>", "([CIILjava/lang/Void;)V"⟩ : MethodName) jdk_42_method_149_code 6 none :: ws) ({ frames := 2, cells := 1, slots := 3, locals := 35 } : Room)) (fun a U => a = #[(.ref a1), (.ref ca), (.int (0 : Int32)), (.int ln), .null] ∧ Z.Warmed39 U.vm ∧ U.heap = h0) (fun _ _ _ _ _ => True) (fun _ U o U' => ∃ v L, o = .returned v ∧ Q3n Z a1 ca ln nn gc zc h0 n0 v U'.heap L ∧ FrameEnd U o U' L ({ frames := 2, cells := 1, slots := 3, locals := 35 } : Room).cells ({ frames := 2, cells := 1, slots := 3, locals := 35 } : Room).slots) := by
  refine MetFree.of_bodySF (plainFor_of_name pn_2) hisR ?_
  intro p e s m args below meth c s₁ Bd hml0 hP hK
  obtain ⟨rfl, hZ, hh⟩ := hP
  have hx := Bd.exec
  have hby := Bd.bytes
  have hml : c.maxLocals = 6 := hml0
  have hown : s.vm.findClass "java/lang/String" = some m.cls := findClass_of_methodNamed Bd.named
  have hnm := (name_of_methodNamed Bd.named Bd.method).1
  have hlk : meth.locks = false := BodyLoose.notSynchronized Bd
  have X0 : Stand p l e ({ frames := 2, cells := 1, slots := 3, locals := 35 } : Room) s m #[(.ref a1), (.ref ca), (.int (0 : Int32)), (.int ln), .null] below meth c s₁ [] 0 0 := Stand.of_body Bd
  have e0 : s₁.heap = h0 := by rw [← hh, Bd.state]; rfl
  have N0 := Fr.nil n0
  have K0 : Keep h0 h0 [a1] := Keep.refl h0 _
  have key : ∀ (F0 : State) (G : Prop), (own_G p e below s F0 (Q3n Z a1 ca ln nn gc zc h0 n0) ({ frames := 2, cells := 1, slots := 3, locals := 35 } : Room).cells ({ frames := 2, cells := 1, slots := 3, locals := 35 } : Room).slots → G) → own_R p.tables e below F0 (s₁.setTop (mkF m 0 #[.val (.ref a1), .val (.ref ca), .val (.int (0 : Int32)), .val (.int ln), .val .null, .unset] [])) → G := by
    intro F0 G hG r0
    have r108 : own_R p.tables e below F0 (s₁.setTop (mkF m 1 #[.val (.ref a1), .val (.ref ca), .val (.int (0 : Int32)), .val (.int ln), .val .null, .unset] [(.ref a1)])) := fun tg_ kg_ => by
      refine r0 tg_ ?_
      show Steps p.tables e below (s₁.setTop (mkF m 0 #[.val (.ref a1), .val (.ref ca), .val (.int (0 : Int32)), .val (.int ln), .val .null, .unset] [])) _
      refine XS.aloadN X0.here hx rfl (hb hby d3_0) rfl rfl ?_
      exact kg_
    obtain ⟨T109, X109, e109, st109⟩ := initO X0 hx hZ hown (hw _ (List.mem_of_getElem? (i := 15) rfl)) (hw _ (List.mem_of_getElem? (i := 16) rfl)) (hw _ (List.mem_of_getElem? (i := 17) rfl)) e0 (g := (mkF m 1 #[.val (.ref a1), .val (.ref ca), .val (.int (0 : Int32)), .val (.int ln), .val .null, .unset] [(.ref a1)])) rfl (by rw [hml]; rfl) rfl (hb hby d3_1) (by decide) (W := 0) (by show 2 * 0 + _ ≤ _; exact Nat.le_of_eq rfl) (by decide)
    have r109 : own_R p.tables e below F0 (T109.setTop (mkF m 4 #[.val (.ref a1), .val (.ref ca), .val (.int (0 : Int32)), .val (.int ln), .val .null, .unset] [])) := fun tg_ kg_ => r108 tg_ (st109 tg_ kg_)
    have r111 : own_R p.tables e below F0 (T109.setTop (mkF m 5 #[.val (.ref a1), .val (.ref ca), .val (.int (0 : Int32)), .val (.int ln), .val .null, .unset] [(.int ln)])) := fun tg_ kg_ => by
      refine r109 tg_ ?_
      show Steps p.tables e below (T109.setTop (mkF m 4 #[.val (.ref a1), .val (.ref ca), .val (.int (0 : Int32)), .val (.int ln), .val .null, .unset] [])) _
      refine XS.iloadN X109.here hx rfl (hb hby d3_4) rfl ?_
      exact kg_
    have hc110 : ¬ (ln = (0 : Int32)) := (fun q => by have q1 := own_eq32 q; have q3 : (0 : Int32).toInt = 0 := rfl; omega)
    have r112 : own_R p.tables e below F0 (T109.setTop (mkF m 27 #[.val (.ref a1), .val (.ref ca), .val (.int (0 : Int32)), .val (.int ln), .val .null, .unset] [])) := fun tg_ kg_ => by
      refine r111 tg_ ?_
      show Steps p.tables e below (T109.setTop (mkF m 5 #[.val (.ref a1), .val (.ref ca), .val (.int (0 : Int32)), .val (.int ln), .val .null, .unset] [(.int ln)])) _
      refine XS.ifYes X109.here hx rfl (pc0 := 5) (pc' := 27) rfl (hb hby d3_5) rfl ((if0 _ _).trans (feq hc110).2) (by decide) (by decide) ?_
      exact kg_
    obtain ⟨T113, X113, e113, st113⟩ := getS2 X109 hx hZ hown (host := "") (Or.inl (hw _ (List.mem_of_getElem? (i := 18) rfl))) Via.refl e109 S1 (g := (mkF m 27 #[.val (.ref a1), .val (.ref ca), .val (.int (0 : Int32)), .val (.int ln), .val .null, .unset] [])) rfl (hb hby d3_27)
    have r113 : own_R p.tables e below F0 (T113.setTop (mkF m 30 #[.val (.ref a1), .val (.ref ca), .val (.int (0 : Int32)), .val (.int ln), .val .null, .unset] [(.int zc)])) := fun tg_ kg_ => r112 tg_ (st113 tg_ kg_)
    have r114 : own_R p.tables e below F0 (T113.setTop (mkF m 36 #[.val (.ref a1), .val (.ref ca), .val (.int (0 : Int32)), .val (.int ln), .val .null, .unset] [(.int ln), (.int (0 : Int32)), (.ref ca)])) := fun tg_ kg_ => by
      refine r113 tg_ ?_
      show Steps p.tables e below (T113.setTop (mkF m 30 #[.val (.ref a1), .val (.ref ca), .val (.int (0 : Int32)), .val (.int ln), .val .null, .unset] [(.int zc)])) _
      refine XS.ifNo X113.here hx rfl (hb hby d3_30) rfl ((if0 _ _).trans (feq hzc).1) ?_
      show Steps p.tables e below (T113.setTop (mkF m 33 #[.val (.ref a1), .val (.ref ca), .val (.int (0 : Int32)), .val (.int ln), .val .null, .unset] [])) _
      refine XS.aloadN X113.here hx rfl (hb hby d3_33) rfl rfl ?_
      show Steps p.tables e below (T113.setTop (mkF m 34 #[.val (.ref a1), .val (.ref ca), .val (.int (0 : Int32)), .val (.int ln), .val .null, .unset] [(.ref ca)])) _
      refine XS.iloadN X113.here hx rfl (hb hby d3_34) rfl ?_
      show Steps p.tables e below (T113.setTop (mkF m 35 #[.val (.ref a1), .val (.ref ca), .val (.int (0 : Int32)), .val (.int ln), .val .null, .unset] [(.int (0 : Int32)), (.ref ca)])) _
      refine XS.iloadN X113.here hx rfl (hb hby d3_35) rfl ?_
      exact kg_
    obtain ⟨_, _, ⟨T115, L115, k115, n115⟩, -, X115, ⟨Lc115, hQ115, l115, y115, z115⟩, st115⟩ := Jvm.LawKit.callS X113 hx (y := (⟨"java/lang/StringUTF16", "compress", "([CII)[B"⟩ : MethodName)) hown (mvT hZ (hw _ (List.mem_of_getElem? (i := 19) rfl))) (mvT hZ (hw _ (List.mem_of_getElem? (i := 20) rfl))) (mvT hZ (hw _ (List.mem_of_getElem? (i := 21) rfl))) (mvT hZ (hw _ (List.mem_of_getElem? (i := 22) rfl))) (by decide) (backOf (W := 0) (rm5 l Z a0 hw [] ca ln (nn) (gc) h0 n0 Z0 A1 hln hnn.2 hch) hZ (hw _ (List.mem_of_getElem? (i := 22) rfl)) (hw _ (List.mem_of_getElem? (i := 21) rfl)) (by decide) (by decide)) (g := (mkF m 36 #[.val (.ref a1), .val (.ref ca), .val (.int (0 : Int32)), .val (.int ln), .val .null, .unset] [(.int ln), (.int (0 : Int32)), (.ref ca)])) rfl (by rw [hml]; rfl) (argsL := [(.ref ca), (.int (0 : Int32)), (.int ln)]) (rest := []) (lenOf pd_1 rfl) rfl (by show 2 * 0 + _ ≤ _; exact Nat.le_of_eq rfl) (hb hby d3_36) (fun _ _ => ⟨rfl, e113, (by decide : 0 + 1 ≤ _), (by decide : 0 + 3 ≤ _)⟩)
    dsimp only [Pt.U, Pt.locs, Pt.cells, Pt.slots] at X115 l115 y115 z115 st115 hQ115
    subst l115 y115 z115
    obtain ⟨bb_115, gx_115, rfl, N115q, I115_0, I115_1, I115_2⟩ := hQ115
    have N115 := Fr.app N0 N115q
    obtain ⟨h115, e115⟩ : ∃ z, T115.heap = z := ⟨_, rfl⟩
    rw [e115] at I115_0 I115_2
    have ne116 : a1 ≠ bb_115 := Nat.ne_of_lt (Nat.lt_of_lt_of_le E1.lt I115_1)
    have ne117 : ca ≠ bb_115 := Nat.ne_of_lt (Nat.lt_of_lt_of_le A1.lt I115_1)
    have ge118 : n0 ≤ bb_115 := Nat.le_trans Z0 I115_1
    have old119 : h0.size ≤ bb_115 := Nat.le_trans K0.1 I115_1
    have F120 : Exa Z h115 a1 "java/lang/String" := E1.ext (own_extK I115_0)
    have F121 : Fld Z h115 a1 "java/lang/String" "value" "[B" .null := Fv.ext (own_extK I115_0)
    have F122 : Fld Z h115 a1 "java/lang/String" "coder" "B" (.int (0 : Int32)) := Fc.ext (own_extK I115_0)
    have F123 : own_Arf Z h115 ca .char nn (fun i => (.int (gc i))) := A1.ext (own_extK I115_0)
    have F124 : Sta Z h115 "java/lang/String" "COMPACT_STRINGS" "Z" (.int zc) := S1.ext (own_extK I115_0)
    have K125 : Keep h0 h115 [a1] := K0.ext (own_extK I115_0)
    have Zs126 : n0 ≤ h115.size := Nat.le_trans Z0 (own_extK I115_0).1
    have r115 : own_R p.tables e below F0 (T115.setTop (mkF m 39 #[.val (.ref a1), .val (.ref ca), .val (.int (0 : Int32)), .val (.int ln), .val .null, .unset] [(.ref bb_115)])) := fun tg_ kg_ => r114 tg_ (st115 tg_ kg_)
    have r127 : own_R p.tables e below F0 (T115.setTop (mkF m 45 #[.val (.ref a1), .val (.ref ca), .val (.int (0 : Int32)), .val (.int ln), .val .null, .val (.ref bb_115)] [(.int ln), (.ref bb_115), (.ref a1)])) := fun tg_ kg_ => by
      refine r115 tg_ ?_
      show Steps p.tables e below (T115.setTop (mkF m 39 #[.val (.ref a1), .val (.ref ca), .val (.int (0 : Int32)), .val (.int ln), .val .null, .unset] [(.ref bb_115)])) _
      refine XS.astore X115.here hx rfl (hb hby d3_39) rfl rfl (l' := #[.val (.ref a1), .val (.ref ca), .val (.int (0 : Int32)), .val (.int ln), .val .null, .val (.ref bb_115)]) rfl ?_
      show Steps p.tables e below (T115.setTop (mkF m 41 #[.val (.ref a1), .val (.ref ca), .val (.int (0 : Int32)), .val (.int ln), .val .null, .val (.ref bb_115)] [])) _
      refine XS.aloadN X115.here hx rfl (hb hby d3_41) rfl rfl ?_
      show Steps p.tables e below (T115.setTop (mkF m 42 #[.val (.ref a1), .val (.ref ca), .val (.int (0 : Int32)), .val (.int ln), .val .null, .val (.ref bb_115)] [(.ref a1)])) _
      refine XS.aload X115.here hx rfl (hb hby d3_42) rfl rfl ?_
      show Steps p.tables e below (T115.setTop (mkF m 44 #[.val (.ref a1), .val (.ref ca), .val (.int (0 : Int32)), .val (.int ln), .val .null, .val (.ref bb_115)] [(.ref bb_115), (.ref a1)])) _
      refine XS.iloadN X115.here hx rfl (hb hby d3_44) rfl ?_
      exact kg_
    obtain ⟨_, _, ⟨T128, L128, k128, n128⟩, -, X128, ⟨Lc128, hQ128, l128, y128, z128⟩, st128⟩ := Jvm.LawKit.callS X115 hx (y := (⟨"java/lang/StringUTF16", "coderFromArrayLen", "([BI)B"⟩ : MethodName)) hown (mvT hZ (hw _ (List.mem_of_getElem? (i := 27) rfl))) (mvT hZ (hw _ (List.mem_of_getElem? (i := 28) rfl))) (mvT hZ (hw _ (List.mem_of_getElem? (i := 21) rfl))) (mvT hZ (hw _ (List.mem_of_getElem? (i := 29) rfl))) (by decide) (backOf (W := 1) (rm7 l Z a0 hw [] bb_115 ln (nn) (gx_115) h115 n0 Zs126 I115_2) hZ (hw _ (List.mem_of_getElem? (i := 29) rfl)) (hw _ (List.mem_of_getElem? (i := 21) rfl)) (by decide) (by decide)) (g := (mkF m 45 #[.val (.ref a1), .val (.ref ca), .val (.int (0 : Int32)), .val (.int ln), .val .null, .val (.ref bb_115)] [(.int ln), (.ref bb_115), (.ref a1)])) rfl (by rw [hml]; rfl) (argsL := [(.ref bb_115), (.int ln)]) (rest := [(.ref a1)]) (lenOf pd_2 rfl) rfl (by show 2 * 0 + _ ≤ _; exact Nat.le_of_eq rfl) (hb hby d3_45) (fun _ _ => ⟨rfl, e115, (by decide : 1 + 0 ≤ _), (by decide : 3 + 0 ≤ _)⟩)
    dsimp only [Pt.U, Pt.locs, Pt.cells, Pt.slots] at X128 l128 y128 z128 st128 hQ128
    subst l128 y128 z128
    obtain ⟨rc_128, rfl, N128q, I128_0⟩ := hQ128
    have N128 := Fr.app N115 N128q
    have r128 : own_R p.tables e below F0 (T128.setTop (mkF m 48 #[.val (.ref a1), .val (.ref ca), .val (.int (0 : Int32)), .val (.int ln), .val .null, .val (.ref bb_115)] [(.int rc_128), (.ref a1)])) := fun tg_ kg_ => r127 tg_ (st128 tg_ kg_)
    obtain ⟨T129, h129, X129, e129, W129, st129⟩ := putFN X128 hx hZ hown (hw _ (List.mem_of_getElem? (i := 30) rfl)) Via.refl I128_0 F122 F120 (Or.inr ⟨(hw _ (List.mem_of_getElem? (i := 31) rfl)), rfl, hnm⟩) (hw _ (List.mem_of_getElem? (i := 5) rfl)) (ty := .byte) (v' := (.int (nar .byte rc_128))) (by decide) rfl (fits_nar_byte rc_128) (g := (mkF m 48 #[.val (.ref a1), .val (.ref ca), .val (.int (0 : Int32)), .val (.int ln), .val .null, .val (.ref bb_115)] [(.int rc_128), (.ref a1)])) rfl rfl (hb hby d3_48)
    have F130 : Exa Z h129 a1 "java/lang/String" := F120.wr W129
    have F131 : Fld Z h129 a1 "java/lang/String" "value" "[B" .null := F121.other W129 (Or.inr (slot_ne (Or.inr (hw _ (List.mem_of_getElem? (i := 33) rfl))) (Or.inr (hw _ (List.mem_of_getElem? (i := 31) rfl))) (by decide) (t := (.array .byte)) (t' := .byte) (by decide) (by decide)))
    have F132 : Fld Z h129 a1 "java/lang/String" "coder" "B" (.int (nar .byte rc_128)) := F122.same W129
    have F133 : own_Arf Z h129 ca .char nn (fun i => (.int (gc i))) := F123.other W129 (Ne.symm nca)
    have F134 : Sta Z h129 "java/lang/String" "COMPACT_STRINGS" "Z" (.int zc) := F124.wr W129
    have F135 : own_Arf Z h129 bb_115 .byte nn (fun i => (.int (gx_115 i))) := I115_2.other W129 (Ne.symm ne116)
    have Zs136 : n0 ≤ h129.size := by rw [W129.size]; exact Zs126
    have N137 := Fr.snoc X129 N128 ga1
    have K138 : Keep h0 h129 [a1] := K125.wr W129 (Or.inl (List.mem_of_getElem? (i := 0) rfl))
    have r129 : own_R p.tables e below F0 (T129.setTop (mkF m 51 #[.val (.ref a1), .val (.ref ca), .val (.int (0 : Int32)), .val (.int ln), .val .null, .val (.ref bb_115)] [])) := fun tg_ kg_ => r128 tg_ (st129 tg_ kg_)
    have r139 : own_R p.tables e below F0 (T129.setTop (mkF m 54 #[.val (.ref a1), .val (.ref ca), .val (.int (0 : Int32)), .val (.int ln), .val .null, .val (.ref bb_115)] [(.ref bb_115), (.ref a1)])) := fun tg_ kg_ => by
      refine r129 tg_ ?_
      show Steps p.tables e below (T129.setTop (mkF m 51 #[.val (.ref a1), .val (.ref ca), .val (.int (0 : Int32)), .val (.int ln), .val .null, .val (.ref bb_115)] [])) _
      refine XS.aloadN X129.here hx rfl (hb hby d3_51) rfl rfl ?_
      show Steps p.tables e below (T129.setTop (mkF m 52 #[.val (.ref a1), .val (.ref ca), .val (.int (0 : Int32)), .val (.int ln), .val .null, .val (.ref bb_115)] [(.ref a1)])) _
      refine XS.aload X129.here hx rfl (hb hby d3_52) rfl rfl ?_
      exact kg_
    obtain ⟨T140, h140, X140, e140, W140, st140⟩ := putF X129 hx hZ hown (host := "") (Or.inl (hw _ (List.mem_of_getElem? (i := 32) rfl))) Via.refl e129 F131 F130 (Or.inr ⟨(hw _ (List.mem_of_getElem? (i := 33) rfl)), rfl, hnm⟩) (hw _ (List.mem_of_getElem? (i := 5) rfl)) (ty := (.array .byte)) (by decide) rfl rfl (g := (mkF m 54 #[.val (.ref a1), .val (.ref ca), .val (.int (0 : Int32)), .val (.int ln), .val .null, .val (.ref bb_115)] [(.ref bb_115), (.ref a1)])) rfl rfl (hb hby d3_54)
    have F141 : Exa Z h140 a1 "java/lang/String" := F130.wr W140
    have F142 : Fld Z h140 a1 "java/lang/String" "value" "[B" (.ref bb_115) := F131.same W140
    have F143 : Fld Z h140 a1 "java/lang/String" "coder" "B" (.int (nar .byte rc_128)) := F132.other W140 (Or.inr (slot_ne (Or.inr (hw _ (List.mem_of_getElem? (i := 31) rfl))) (Or.inr (hw _ (List.mem_of_getElem? (i := 33) rfl))) (by decide) (t := .byte) (t' := (.array .byte)) (by decide) (by decide)))
    have F144 : own_Arf Z h140 ca .char nn (fun i => (.int (gc i))) := F133.other W140 (Ne.symm nca)
    have F145 : Sta Z h140 "java/lang/String" "COMPACT_STRINGS" "Z" (.int zc) := F134.wr W140
    have F146 : own_Arf Z h140 bb_115 .byte nn (fun i => (.int (gx_115 i))) := F135.other W140 (Ne.symm ne116)
    have Zs147 : n0 ≤ h140.size := by rw [W140.size]; exact Zs136
    have N148 := Fr.snoc X140 N137 ga1
    have K149 : Keep h0 h140 [a1] := K138.wr W140 (Or.inl (List.mem_of_getElem? (i := 0) rfl))
    have r140 : own_R p.tables e below F0 (T140.setTop (mkF m 57 #[.val (.ref a1), .val (.ref ca), .val (.int (0 : Int32)), .val (.int ln), .val .null, .val (.ref bb_115)] [])) := fun tg_ kg_ => r139 tg_ (st140 tg_ kg_)
    refine hG (own_fin X140 hlk (none) (fun _ => rfl) ?_ (by decide) (by decide) (fun fs hr => r140 _ (X140.returnOut hx Bd.returns (hb hby d3_57) hr)))
    rw [e140]
    refine ⟨bb_115, gx_115, ?_, N148, K149, F141, F142, F146⟩
    rfl
  exact key _ _ id (fun t k => castTop (ef_3n m a1 ca ln) k)
theorem pd_3 : parseMethodDescriptor "([CIILjava/lang/Void;)V" = some ⟨[(.array .char), .int, .int, (.object "java/lang/Void")], none⟩ := by decide +kernel
theorem d2_0 : decode jdk_42_method_3_code 0 = .ok (.aload_n 0, 1) := by decide +kernel
theorem d2_1 : decode jdk_42_method_3_code 1 = .ok (.aload_n 1, 1) := by decide +kernel
theorem d2_2 : decode jdk_42_method_3_code 2 = .ok (.iconst 0, 1) := by decide +kernel
theorem d2_3 : decode jdk_42_method_3_code 3 = .ok (.aload_n 1, 1) := by decide +kernel
theorem d2_4 : decode jdk_42_method_3_code 4 = .ok (.arraylength, 1) := by decide +kernel
theorem d2_5 : decode jdk_42_method_3_code 5 = .ok (.aconst_null, 1) := by decide +kernel
theorem d2_6 : decode jdk_42_method_3_code 6 = .ok (.invokespecial 27, 3) := by decide +kernel
theorem d2_9 : decode jdk_42_method_3_code 9 = .ok (.return_, 1) := by decide +kernel
theorem ef_2e (m : MethodId) (x0 : Addr) (x1 : Addr) : entryFrame m #[(.ref x0), (.ref x1)] 2 = mkF m 0 #[.val (.ref x0), .val (.ref x1)] [] := by first | (simp [entryFrame, mkF, argsToLocals, Value.category]; done) | rfl
def Q2e (Z : State) (a1 : Addr) (ca : Addr) (gc : Nat → Int32) (h0 : Heap) (n0 : Nat) (v : Option Value) (h : Heap) (L : List Loc) : Prop := ∃ (bb : Addr), v = none ∧ Fr n0 L ∧ Keep h0 h [a1] ∧ Exa Z h a1 "java/lang/String" ∧ Fld Z h a1 "java/lang/String" "value" "[B" (.ref bb) ∧ own_Arf Z h bb .byte 0 (fun i => (.int ((fun _ => (0 : Int32)) i)))
set_option maxRecDepth 65536 in
set_option maxHeartbeats 40000000 in
theorem rm2e (l : Launch) (Z : State) (a0 : Array Value) (hw : ∀ d ∈ tables_1, d.before a0 Z = true) (ws : List Jvm.Cond) (a1 : Addr) (ca : Addr) (gc : Nat → Int32) (h0 : Heap) (n0 : Nat) (Z0 : n0 ≤ h0.size) (E1 : Exa Z h0 a1 "java/lang/String") (Fv : Fld Z h0 a1 "java/lang/String" "value" "[B" .null) (Fc : Fld Z h0 a1 "java/lang/String" "coder" "B" (.int (0 : Int32))) (ga1 : n0 ≤ a1) (A1 : own_Arf Z h0 ca .char 0 (fun i => (.int (gc i)))) (nca : a1 ≠ ca) :
    MetFree l (⟨"java/lang/String", "<init>", "([C)V"⟩ : MethodName) (head1 (Jvm.Cond.code (⟨"java/lang/String", "<init>", "([C)V"⟩ : MethodName) jdk_42_method_3_code 2 none :: ws) ({ frames := 2, cells := 4, slots := 8, locals := 29 } : Room)) (fun a U => a = #[(.ref a1), (.ref ca)] ∧ Z.Warmed39 U.vm ∧ U.heap = h0 ∧ CHv Z consts_1 U.vm h0) (fun _ _ _ _ _ => True) (fun _ U o U' => ∃ v L, o = .returned v ∧ Q2e Z a1 ca gc h0 n0 v U'.heap L ∧ CHr Z consts_1 U.vm U.heap U'.vm U'.heap ∧ ReturnedEndW U o U' L ({ frames := 2, cells := 4, slots := 8, locals := 29 } : Room).cells ({ frames := 2, cells := 4, slots := 8, locals := 29 } : Room).slots) := by
  refine MetFree.of_bodySF (plainFor_of_name pn_2) hisR ?_
  intro p e s m args below meth c s₁ Bd hml0 hP hK
  obtain ⟨rfl, hZ, hh, hCH⟩ := hP
  have hx := Bd.exec
  have hby := Bd.bytes
  have hml : c.maxLocals = 2 := hml0
  have hown : s.vm.findClass "java/lang/String" = some m.cls := findClass_of_methodNamed Bd.named
  have hnm := (name_of_methodNamed Bd.named Bd.method).1
  have hlk : meth.locks = false := BodyLoose.notSynchronized Bd
  have X0 : Stand p l e ({ frames := 2, cells := 4, slots := 8, locals := 29 } : Room) (s.setVm s.vm) m #[(.ref a1), (.ref ca)] below meth c s₁ [] 0 0 := Stand.of_body Bd
  have e0 : s₁.heap = h0 := by rw [← hh, Bd.state]; rfl
  have N0 := Fr.nil n0
  have K0 : Keep h0 h0 [a1] := Keep.refl h0 _
  have hZ : Z.Warmed39 (s.setVm s.vm).vm := hZ
  have hown : (s.setVm s.vm).vm.findClass "java/lang/String" = some m.cls := hown
  have hS0 : s.Since s.vm h0.size := State.WarmedH.since (State.WarmedH.refl s) _
  have hk0 : h0.size ≤ h0.size := Nat.le_refl _
  have CR0 : CHr Z consts_1 s.vm s.heap s.vm h0 := by rw [hh]; exact CHr.refl hCH
  have hEL : EW Z a0 consts_1 := own_EW hw
  have Sf0_a1 : Safe Z consts_1 s.vm h0 a1 := own_safeNull hZ.alike E1 Fv
  have key : ∀ (F0 : State) (G : Prop), (own_GW p e below s F0 Z consts_1 (Q2e Z a1 ca gc h0 n0) ({ frames := 2, cells := 4, slots := 8, locals := 29 } : Room).cells ({ frames := 2, cells := 4, slots := 8, locals := 29 } : Room).slots → G) → own_R p.tables e below F0 (s₁.setTop (mkF m 0 #[.val (.ref a1), .val (.ref ca)] [])) → G := by
    intro F0 G hG r0
    have r150 : own_R p.tables e below F0 (s₁.setTop (mkF m 6 #[.val (.ref a1), .val (.ref ca)] [.null, (.int (0 : Int32)), (.int (0 : Int32)), (.ref ca), (.ref a1)])) := fun tg_ kg_ => by
      refine r0 tg_ ?_
      show Steps p.tables e below (s₁.setTop (mkF m 0 #[.val (.ref a1), .val (.ref ca)] [])) _
      refine XS.aloadN X0.here hx rfl (hb hby d2_0) rfl rfl ?_
      show Steps p.tables e below (s₁.setTop (mkF m 1 #[.val (.ref a1), .val (.ref ca)] [(.ref a1)])) _
      refine XS.aloadN X0.here hx rfl (hb hby d2_1) rfl rfl ?_
      show Steps p.tables e below (s₁.setTop (mkF m 2 #[.val (.ref a1), .val (.ref ca)] [(.ref ca), (.ref a1)])) _
      refine XS.iconst X0.here hx rfl (hb hby d2_2) ?_
      show Steps p.tables e below (s₁.setTop (mkF m 3 #[.val (.ref a1), .val (.ref ca)] [(.int (0 : Int32)), (.ref ca), (.ref a1)])) _
      refine XS.aloadN X0.here hx rfl (hb hby d2_3) rfl rfl ?_
      show Steps p.tables e below (s₁.setTop (mkF m 4 #[.val (.ref a1), .val (.ref ca)] [(.ref ca), (.int (0 : Int32)), (.ref ca), (.ref a1)])) _
      refine own_alen X0 hx hZ e0 A1 (0 : Int32) rfl (g := (mkF m 4 #[.val (.ref a1), .val (.ref ca)] [(.ref ca), (.int (0 : Int32)), (.ref ca), (.ref a1)])) rfl rfl (hb hby d2_4) _ ?_
      show Steps p.tables e below (s₁.setTop (mkF m 5 #[.val (.ref a1), .val (.ref ca)] [(.int (0 : Int32)), (.int (0 : Int32)), (.ref ca), (.ref a1)])) _
      refine XS.aconstNull X0.here hx rfl (hb hby d2_5) ?_
      exact kg_
    obtain ⟨_, _, ⟨T151, L151, k151, n151⟩, -, X151, hSi151, gr151, ⟨Lc151, hQ151, l151, y151, z151, CA151⟩, st151⟩ := X0.specialBackS hx (y := (⟨"java/lang/String", "<init>", "([CIILjava/lang/Void;)V"⟩ : MethodName)) rfl hown (mvT hZ (hw _ (List.mem_of_getElem? (i := 11) rfl))) (mvT hZ (hw _ (List.mem_of_getElem? (i := 12) rfl))) (mvT hZ (hw _ (List.mem_of_getElem? (i := 14) rfl))) (by decide) (backOfSH (s := s) (vm0 := s.vm) (EL := consts_1) (W := 0) (rm3e l Z a0 hw [] a1 ca h0 n0 Z0 E1 Fv Fc ga1) hZ (hw _ (List.mem_of_getElem? (i := 14) rfl)) (hw _ (List.mem_of_getElem? (i := 6) rfl)) (by decide) (by decide) hEL CR0.1) (g := (mkF m 6 #[.val (.ref a1), .val (.ref ca)] [.null, (.int (0 : Int32)), (.int (0 : Int32)), (.ref ca), (.ref a1)])) rfl (by rw [hml]; rfl) (Steps.refl _) (a := a1) (argsL := [(.ref ca), (.int (0 : Int32)), (.int (0 : Int32)), .null]) (rest := []) (lenOf pd_3 rfl) rfl (by show 2 * 0 + _ ≤ _; exact Nat.le_of_eq rfl) (hb hby d2_6) (fun _ _ => ⟨rfl, e0, (by decide : 0 + 4 ≤ _), (by decide : 0 + 8 ≤ _)⟩)
    dsimp only [Pt.U, Pt.locs, Pt.cells, Pt.slots] at X151 l151 y151 z151 st151 hQ151 hSi151 gr151 CA151
    subst l151 y151 z151
    obtain ⟨X151, hS151, hZ, hown⟩ := rebS (s := s) (vm0 := s.vm) hS0 (show h0.size ≤ s₁.heap.size from Nat.le_trans hk0 (Nat.le_of_eq (by rw [e0]))) X151 hSi151 gr151 hZ hown
    obtain ⟨bb_151, rfl, N151q, I151_0, I151_1, I151_2, I151_3⟩ := hQ151
    have N151 := Fr.app N0 N151q
    obtain ⟨h151, e151⟩ : ∃ z, T151.heap = z := ⟨_, rfl⟩
    rw [e151] at I151_0 I151_1 I151_2 I151_3 CA151
    have F153 : own_Arf Z h151 ca .char 0 (fun i => (.int (gc i))) := A1.keep I151_0 (ninS (Ne.symm nca) nin0)
    have K154 : Keep h0 h151 [a1] := K0.trans I151_0 (allS (Or.inl (List.mem_of_getElem? (i := 0) rfl)) all0)
    have Zs155 : n0 ≤ h151.size := Nat.le_trans Z0 I151_0.1
    have Sf156 : Safe Z consts_1 T151.vm h151 a1 := CA151.safe E1.lt Sf0_a1
    have CR157 : CHr Z consts_1 s.vm s.heap T151.vm h151 := CR0.trans CA151
    have hk158 : T151.heap.size ≤ h151.size := Nat.le_of_eq (by rw [e151])
    have r151 : own_R p.tables e below F0 (T151.setTop (mkF m 9 #[.val (.ref a1), .val (.ref ca)] [])) := fun tg_ kg_ => r150 tg_ (st151.trans kg_)
    refine hG (own_finW X151 hS151 (Nat.le_refl _) hlk hZ hEL (by rw [e151]; exact CR157) (none) (fun _ => rfl) ?_ (by decide) (by decide) (fun fs hr => r151 _ (X151.returnOut hx Bd.returns (hb hby d2_9) hr)))
    rw [e151]
    refine ⟨bb_151, ?_, N151, K154, I151_1, I151_2, I151_3⟩
    rfl
  exact key _ _ id (fun t k => castTop (ef_2e m a1 ca) k)
theorem ef_2n (m : MethodId) (x0 : Addr) (x1 : Addr) : entryFrame m #[(.ref x0), (.ref x1)] 2 = mkF m 0 #[.val (.ref x0), .val (.ref x1)] [] := by first | (simp [entryFrame, mkF, argsToLocals, Value.category]; done) | rfl
def Q2n (Z : State) (a1 : Addr) (ca : Addr) (nn : Nat) (gc : Nat → Int32) (zc : Int32) (h0 : Heap) (n0 : Nat) (v : Option Value) (h : Heap) (L : List Loc) : Prop := ∃ (bb : Addr), ∃ (gx : Nat → Int32), v = none ∧ Fr n0 L ∧ Keep h0 h [a1] ∧ Exa Z h a1 "java/lang/String" ∧ Fld Z h a1 "java/lang/String" "value" "[B" (.ref bb) ∧ own_Arf Z h bb .byte nn (fun i => (.int (gx i)))
set_option maxRecDepth 65536 in
set_option maxHeartbeats 40000000 in
theorem rm2n (l : Launch) (Z : State) (a0 : Array Value) (hw : ∀ d ∈ tables_1, d.before a0 Z = true) (ws : List Jvm.Cond) (a1 : Addr) (ca : Addr) (nn : Nat) (gc : Nat → Int32) (zc : Int32) (h0 : Heap) (n0 : Nat) (Z0 : n0 ≤ h0.size) (E1 : Exa Z h0 a1 "java/lang/String") (Fv : Fld Z h0 a1 "java/lang/String" "value" "[B" .null) (Fc : Fld Z h0 a1 "java/lang/String" "coder" "B" (.int (0 : Int32))) (ga1 : n0 ≤ a1) (A1 : own_Arf Z h0 ca .char nn (fun i => (.int (gc i)))) (hnn : 1 ≤ nn ∧ nn ≤ 3) (hch : ∀ j, 0 ≤ (gc j).toInt ∧ (gc j).toInt ≤ 255) (nca : a1 ≠ ca) (S1 : Sta Z h0 "java/lang/String" "COMPACT_STRINGS" "Z" (.int zc)) (hzc : ¬ zc = (0 : Int32)) :
    MetFree l (⟨"java/lang/String", "<init>", "([C)V"⟩ : MethodName) (head1 (Jvm.Cond.code (⟨"java/lang/String", "<init>", "([C)V"⟩ : MethodName) jdk_42_method_3_code 2 none :: ws) ({ frames := 3, cells := 1, slots := 3, locals := 52 } : Room)) (fun a U => a = #[(.ref a1), (.ref ca)] ∧ Z.Warmed39 U.vm ∧ U.heap = h0) (fun _ _ _ _ _ => True) (fun _ U o U' => ∃ v L, o = .returned v ∧ Q2n Z a1 ca nn gc zc h0 n0 v U'.heap L ∧ FrameEnd U o U' L ({ frames := 3, cells := 1, slots := 3, locals := 52 } : Room).cells ({ frames := 3, cells := 1, slots := 3, locals := 52 } : Room).slots) := by
  refine MetFree.of_bodySF (plainFor_of_name pn_2) hisR ?_
  intro p e s m args below meth c s₁ Bd hml0 hP hK
  obtain ⟨rfl, hZ, hh⟩ := hP
  have hx := Bd.exec
  have hby := Bd.bytes
  have hml : c.maxLocals = 2 := hml0
  have hown : s.vm.findClass "java/lang/String" = some m.cls := findClass_of_methodNamed Bd.named
  have hnm := (name_of_methodNamed Bd.named Bd.method).1
  have hlk : meth.locks = false := BodyLoose.notSynchronized Bd
  have X0 : Stand p l e ({ frames := 3, cells := 1, slots := 3, locals := 52 } : Room) s m #[(.ref a1), (.ref ca)] below meth c s₁ [] 0 0 := Stand.of_body Bd
  have e0 : s₁.heap = h0 := by rw [← hh, Bd.state]; rfl
  have N0 := Fr.nil n0
  have K0 : Keep h0 h0 [a1] := Keep.refl h0 _
  have key : ∀ (F0 : State) (G : Prop), (own_G p e below s F0 (Q2n Z a1 ca nn gc zc h0 n0) ({ frames := 3, cells := 1, slots := 3, locals := 52 } : Room).cells ({ frames := 3, cells := 1, slots := 3, locals := 52 } : Room).slots → G) → own_R p.tables e below F0 (s₁.setTop (mkF m 0 #[.val (.ref a1), .val (.ref ca)] [])) → G := by
    intro F0 G hG r0
    have r159 : own_R p.tables e below F0 (s₁.setTop (mkF m 6 #[.val (.ref a1), .val (.ref ca)] [.null, (.int (Int32.ofNat nn)), (.int (0 : Int32)), (.ref ca), (.ref a1)])) := fun tg_ kg_ => by
      refine r0 tg_ ?_
      show Steps p.tables e below (s₁.setTop (mkF m 0 #[.val (.ref a1), .val (.ref ca)] [])) _
      refine XS.aloadN X0.here hx rfl (hb hby d2_0) rfl rfl ?_
      show Steps p.tables e below (s₁.setTop (mkF m 1 #[.val (.ref a1), .val (.ref ca)] [(.ref a1)])) _
      refine XS.aloadN X0.here hx rfl (hb hby d2_1) rfl rfl ?_
      show Steps p.tables e below (s₁.setTop (mkF m 2 #[.val (.ref a1), .val (.ref ca)] [(.ref ca), (.ref a1)])) _
      refine XS.iconst X0.here hx rfl (hb hby d2_2) ?_
      show Steps p.tables e below (s₁.setTop (mkF m 3 #[.val (.ref a1), .val (.ref ca)] [(.int (0 : Int32)), (.ref ca), (.ref a1)])) _
      refine XS.aloadN X0.here hx rfl (hb hby d2_3) rfl rfl ?_
      show Steps p.tables e below (s₁.setTop (mkF m 4 #[.val (.ref a1), .val (.ref ca)] [(.ref ca), (.int (0 : Int32)), (.ref ca), (.ref a1)])) _
      refine own_alen X0 hx hZ e0 A1 (Int32.ofNat nn) rfl (g := (mkF m 4 #[.val (.ref a1), .val (.ref ca)] [(.ref ca), (.int (0 : Int32)), (.ref ca), (.ref a1)])) rfl rfl (hb hby d2_4) _ ?_
      show Steps p.tables e below (s₁.setTop (mkF m 5 #[.val (.ref a1), .val (.ref ca)] [(.int (Int32.ofNat nn)), (.int (0 : Int32)), (.ref ca), (.ref a1)])) _
      refine XS.aconstNull X0.here hx rfl (hb hby d2_5) ?_
      exact kg_
    obtain ⟨_, _, ⟨T160, L160, k160, n160⟩, -, X160, ⟨Lc160, hQ160, l160, y160, z160⟩, st160⟩ := X0.specialBack hx (y := (⟨"java/lang/String", "<init>", "([CIILjava/lang/Void;)V"⟩ : MethodName)) rfl hown (mvT hZ (hw _ (List.mem_of_getElem? (i := 11) rfl))) (mvT hZ (hw _ (List.mem_of_getElem? (i := 12) rfl))) (mvT hZ (hw _ (List.mem_of_getElem? (i := 14) rfl))) (by decide) (backOf (W := 0) (rm3n l Z a0 hw [] a1 ca (Int32.ofNat nn) (nn) (gc) (zc) h0 n0 Z0 E1 Fv Fc ga1 A1 hnn hch nca S1 hzc (own_of0 hnn.2)) hZ (hw _ (List.mem_of_getElem? (i := 14) rfl)) (hw _ (List.mem_of_getElem? (i := 6) rfl)) (by decide) (by decide)) (g := (mkF m 6 #[.val (.ref a1), .val (.ref ca)] [.null, (.int (Int32.ofNat nn)), (.int (0 : Int32)), (.ref ca), (.ref a1)])) rfl (by rw [hml]; rfl) (Steps.refl _) (a := a1) (argsL := [(.ref ca), (.int (0 : Int32)), (.int (Int32.ofNat nn)), .null]) (rest := []) (lenOf pd_3 rfl) rfl (by show 2 * 0 + _ ≤ _; exact Nat.le_of_eq rfl) (hb hby d2_6) (fun _ _ => ⟨rfl, e0, (by decide : 0 + 1 ≤ _), (by decide : 0 + 3 ≤ _)⟩)
    dsimp only [Pt.U, Pt.locs, Pt.cells, Pt.slots] at X160 l160 y160 z160 st160 hQ160
    subst l160 y160 z160
    obtain ⟨bb_160, gx_160, rfl, N160q, I160_0, I160_1, I160_2, I160_3⟩ := hQ160
    have N160 := Fr.app N0 N160q
    obtain ⟨h160, e160⟩ : ∃ z, T160.heap = z := ⟨_, rfl⟩
    rw [e160] at I160_0 I160_1 I160_2 I160_3
    have F162 : own_Arf Z h160 ca .char nn (fun i => (.int (gc i))) := A1.keep I160_0 (ninS (Ne.symm nca) nin0)
    have K164 : Keep h0 h160 [a1] := K0.trans I160_0 (allS (Or.inl (List.mem_of_getElem? (i := 0) rfl)) all0)
    have Zs165 : n0 ≤ h160.size := Nat.le_trans Z0 I160_0.1
    have r160 : own_R p.tables e below F0 (T160.setTop (mkF m 9 #[.val (.ref a1), .val (.ref ca)] [])) := fun tg_ kg_ => r159 tg_ (st160.trans kg_)
    refine hG (own_fin X160 hlk (none) (fun _ => rfl) ?_ (by decide) (by decide) (fun fs hr => r160 _ (X160.returnOut hx Bd.returns (hb hby d2_9) hr)))
    rw [e160]
    refine ⟨bb_160, gx_160, ?_, N160, K164, I160_1, I160_2, I160_3⟩
    rfl
  exact key _ _ id (fun t k => castTop (ef_2n m a1 ca) k)
theorem pn_3 : plainName "com/example/mexpile/mexpile/rules/RuleSetNameHasParameterPinLaw" = true := by first | (simp [plainName, overriddenIn]; done) | decide +kernel
theorem pd_4 : parseMethodDescriptor "([C)V" = some ⟨[(.array .char)], none⟩ := by decide +kernel
theorem d1_0 : decode method_3_code 0 = .ok (.iload_n 0, 1) := by decide +kernel
theorem d1_1 : decode method_3_code 1 = .ok (.sipush 255, 3) := by decide +kernel
theorem d1_4 : decode method_3_code 4 = .ok (.iand, 1) := by decide +kernel
theorem d1_5 : decode method_3_code 5 = .ok (.i2c, 1) := by decide +kernel
theorem d1_6 : decode method_3_code 6 = .ok (.istore_n 2, 1) := by decide +kernel
theorem d1_7 : decode method_3_code 7 = .ok (.iload_n 0, 1) := by decide +kernel
theorem d1_8 : decode method_3_code 8 = .ok (.bipush 8, 2) := by decide +kernel
theorem d1_10 : decode method_3_code 10 = .ok (.iushr, 1) := by decide +kernel
theorem d1_11 : decode method_3_code 11 = .ok (.sipush 255, 3) := by decide +kernel
theorem d1_14 : decode method_3_code 14 = .ok (.iand, 1) := by decide +kernel
theorem d1_15 : decode method_3_code 15 = .ok (.i2c, 1) := by decide +kernel
theorem d1_16 : decode method_3_code 16 = .ok (.istore_n 3, 1) := by decide +kernel
theorem d1_17 : decode method_3_code 17 = .ok (.iload_n 0, 1) := by decide +kernel
theorem d1_18 : decode method_3_code 18 = .ok (.bipush 16, 2) := by decide +kernel
theorem d1_20 : decode method_3_code 20 = .ok (.iushr, 1) := by decide +kernel
theorem d1_21 : decode method_3_code 21 = .ok (.sipush 255, 3) := by decide +kernel
theorem d1_24 : decode method_3_code 24 = .ok (.iand, 1) := by decide +kernel
theorem d1_25 : decode method_3_code 25 = .ok (.i2c, 1) := by decide +kernel
theorem d1_26 : decode method_3_code 26 = .ok (.istore 4, 2) := by decide +kernel
theorem d1_28 : decode method_3_code 28 = .ok (.iload_n 1, 1) := by decide +kernel
theorem d1_29 : decode method_3_code 29 = .ok (.ifCond .ne 14, 3) := by decide +kernel
theorem d1_32 : decode method_3_code 32 = .ok (.new 22, 3) := by decide +kernel
theorem d1_35 : decode method_3_code 35 = .ok (.dup, 1) := by decide +kernel
theorem d1_36 : decode method_3_code 36 = .ok (.iconst 0, 1) := by decide +kernel
theorem d1_37 : decode method_3_code 37 = .ok (.newarray .char, 2) := by decide +kernel
theorem d1_39 : decode method_3_code 39 = .ok (.invokespecial 24, 3) := by decide +kernel
theorem d1_42 : decode method_3_code 42 = .ok (.areturn, 1) := by decide +kernel
theorem d1_43 : decode method_3_code 43 = .ok (.iload_n 1, 1) := by decide +kernel
theorem d1_44 : decode method_3_code 44 = .ok (.iconst 1, 1) := by decide +kernel
theorem d1_45 : decode method_3_code 45 = .ok (.if_icmp .ne 18, 3) := by decide +kernel
theorem d1_48 : decode method_3_code 48 = .ok (.new 22, 3) := by decide +kernel
theorem d1_51 : decode method_3_code 51 = .ok (.dup, 1) := by decide +kernel
theorem d1_52 : decode method_3_code 52 = .ok (.iconst 1, 1) := by decide +kernel
theorem d1_53 : decode method_3_code 53 = .ok (.newarray .char, 2) := by decide +kernel
theorem d1_55 : decode method_3_code 55 = .ok (.dup, 1) := by decide +kernel
theorem d1_56 : decode method_3_code 56 = .ok (.iconst 0, 1) := by decide +kernel
theorem d1_57 : decode method_3_code 57 = .ok (.iload_n 2, 1) := by decide +kernel
theorem d1_58 : decode method_3_code 58 = .ok (.castore, 1) := by decide +kernel
theorem d1_59 : decode method_3_code 59 = .ok (.invokespecial 24, 3) := by decide +kernel
theorem d1_62 : decode method_3_code 62 = .ok (.areturn, 1) := by decide +kernel
theorem d1_63 : decode method_3_code 63 = .ok (.iload_n 1, 1) := by decide +kernel
theorem d1_64 : decode method_3_code 64 = .ok (.iconst 2, 1) := by decide +kernel
theorem d1_65 : decode method_3_code 65 = .ok (.if_icmp .ne 22, 3) := by decide +kernel
theorem d1_68 : decode method_3_code 68 = .ok (.new 22, 3) := by decide +kernel
theorem d1_71 : decode method_3_code 71 = .ok (.dup, 1) := by decide +kernel
theorem d1_72 : decode method_3_code 72 = .ok (.iconst 2, 1) := by decide +kernel
theorem d1_73 : decode method_3_code 73 = .ok (.newarray .char, 2) := by decide +kernel
theorem d1_75 : decode method_3_code 75 = .ok (.dup, 1) := by decide +kernel
theorem d1_76 : decode method_3_code 76 = .ok (.iconst 0, 1) := by decide +kernel
theorem d1_77 : decode method_3_code 77 = .ok (.iload_n 2, 1) := by decide +kernel
theorem d1_78 : decode method_3_code 78 = .ok (.castore, 1) := by decide +kernel
theorem d1_79 : decode method_3_code 79 = .ok (.dup, 1) := by decide +kernel
theorem d1_80 : decode method_3_code 80 = .ok (.iconst 1, 1) := by decide +kernel
theorem d1_81 : decode method_3_code 81 = .ok (.iload_n 3, 1) := by decide +kernel
theorem d1_82 : decode method_3_code 82 = .ok (.castore, 1) := by decide +kernel
theorem d1_83 : decode method_3_code 83 = .ok (.invokespecial 24, 3) := by decide +kernel
theorem d1_86 : decode method_3_code 86 = .ok (.areturn, 1) := by decide +kernel
theorem d1_87 : decode method_3_code 87 = .ok (.new 22, 3) := by decide +kernel
theorem d1_90 : decode method_3_code 90 = .ok (.dup, 1) := by decide +kernel
theorem d1_91 : decode method_3_code 91 = .ok (.iconst 3, 1) := by decide +kernel
theorem d1_92 : decode method_3_code 92 = .ok (.newarray .char, 2) := by decide +kernel
theorem d1_94 : decode method_3_code 94 = .ok (.dup, 1) := by decide +kernel
theorem d1_95 : decode method_3_code 95 = .ok (.iconst 0, 1) := by decide +kernel
theorem d1_96 : decode method_3_code 96 = .ok (.iload_n 2, 1) := by decide +kernel
theorem d1_97 : decode method_3_code 97 = .ok (.castore, 1) := by decide +kernel
theorem d1_98 : decode method_3_code 98 = .ok (.dup, 1) := by decide +kernel
theorem d1_99 : decode method_3_code 99 = .ok (.iconst 1, 1) := by decide +kernel
theorem d1_100 : decode method_3_code 100 = .ok (.iload_n 3, 1) := by decide +kernel
theorem d1_101 : decode method_3_code 101 = .ok (.castore, 1) := by decide +kernel
theorem d1_102 : decode method_3_code 102 = .ok (.dup, 1) := by decide +kernel
theorem d1_103 : decode method_3_code 103 = .ok (.iconst 2, 1) := by decide +kernel
theorem d1_104 : decode method_3_code 104 = .ok (.iload 4, 2) := by decide +kernel
theorem d1_106 : decode method_3_code 106 = .ok (.castore, 1) := by decide +kernel
theorem d1_107 : decode method_3_code 107 = .ok (.invokespecial 24, 3) := by decide +kernel
theorem d1_110 : decode method_3_code 110 = .ok (.areturn, 1) := by decide +kernel
theorem ef_1 (m : MethodId) (x0 : Int32) (x1 : Int32) : entryFrame m #[(.int x0), (.int x1)] 5 = mkF m 0 #[.val (.int x0), .val (.int x1), .unset, .unset, .unset] [] := by first | (simp [entryFrame, mkF, argsToLocals, Value.category]; done) | rfl
def Q1 (Z : State) (p0 : Int32) (p1 : Int32) (zc : Int32) (h0 : Heap) (n0 : Nat) (v : Option Value) (h : Heap) (L : List Loc) : Prop := ∃ (sr : Addr), ∃ (bb : Addr), ∃ (nl : Nat), ∃ (gv : Nat → Int32), v = some (.ref sr) ∧ Fr n0 L ∧ Keep h0 h [] ∧ h0.size ≤ sr ∧ Exa Z h sr "java/lang/String" ∧ Fld Z h sr "java/lang/String" "value" "[B" (.ref bb) ∧ own_Arf Z h bb .byte nl (fun i => (.int (gv i))) ∧ (nl : Int) = p1.toInt
set_option maxRecDepth 65536 in
set_option maxHeartbeats 40000000 in
theorem rm1 (l : Launch) (Z : State) (a0 : Array Value) (hw : ∀ d ∈ tables_1, d.before a0 Z = true) (ws : List Jvm.Cond) (p0 : Int32) (p1 : Int32) (zc : Int32) (h0 : Heap) (n0 : Nat) (Z0 : n0 ≤ h0.size) (S1 : Sta Z h0 "java/lang/String" "COMPACT_STRINGS" "Z" (.int zc)) (hzc : ¬ zc = (0 : Int32)) (hp : 0 ≤ p1.toInt ∧ p1.toInt ≤ 3) :
    MetFree l (⟨"com/example/mexpile/mexpile/rules/RuleSetNameHasParameterPinLaw", "draw", "(II)Ljava/lang/String;"⟩ : MethodName) (head1 (Jvm.Cond.code (⟨"com/example/mexpile/mexpile/rules/RuleSetNameHasParameterPinLaw", "draw", "(II)Ljava/lang/String;"⟩ : MethodName) method_3_code 5 (some (.object "java/lang/String")) :: ws) ({ frames := 4, cells := 6, slots := 12, locals := 66 } : Room)) (fun a U => a = #[(.int p0), (.int p1)] ∧ Z.Warmed39 U.vm ∧ U.heap = h0 ∧ CHv Z consts_1 U.vm h0) (fun _ _ _ _ _ => True) (fun _ U o U' => ∃ v L, o = .returned v ∧ Q1 Z p0 p1 zc h0 n0 v U'.heap L ∧ CHr Z consts_1 U.vm U.heap U'.vm U'.heap ∧ ReturnedEndW U o U' L ({ frames := 4, cells := 6, slots := 12, locals := 66 } : Room).cells ({ frames := 4, cells := 6, slots := 12, locals := 66 } : Room).slots) := by
  refine MetFree.of_bodySF (plainFor_of_name pn_3) hisR ?_
  intro p e s m args below meth c s₁ Bd hml0 hP hK
  obtain ⟨rfl, hZ, hh, hCH⟩ := hP
  have hx := Bd.exec
  have hby := Bd.bytes
  have hml : c.maxLocals = 5 := hml0
  have hown : s.vm.findClass "com/example/mexpile/mexpile/rules/RuleSetNameHasParameterPinLaw" = some m.cls := findClass_of_methodNamed Bd.named
  have hnm := (name_of_methodNamed Bd.named Bd.method).1
  have hlk : meth.locks = false := BodyLoose.notSynchronized Bd
  have X0 : Stand p l e ({ frames := 4, cells := 6, slots := 12, locals := 66 } : Room) (s.setVm s.vm) m #[(.int p0), (.int p1)] below meth c s₁ [] 0 0 := Stand.of_body Bd
  have e0 : s₁.heap = h0 := by rw [← hh, Bd.state]; rfl
  have N0 := Fr.nil n0
  have K0 : Keep h0 h0 [] := Keep.refl h0 _
  have hZ : Z.Warmed39 (s.setVm s.vm).vm := hZ
  have hown : (s.setVm s.vm).vm.findClass "com/example/mexpile/mexpile/rules/RuleSetNameHasParameterPinLaw" = some m.cls := hown
  have hS0 : s.Since s.vm h0.size := State.WarmedH.since (State.WarmedH.refl s) _
  have hk0 : h0.size ≤ h0.size := Nat.le_refl _
  have CR0 : CHr Z consts_1 s.vm s.heap s.vm h0 := by rw [hh]; exact CHr.refl hCH
  have hEL : EW Z a0 consts_1 := own_EW hw
  have key : ∀ (F0 : State) (G : Prop), (own_GW p e below s F0 Z consts_1 (Q1 Z p0 p1 zc h0 n0) ({ frames := 4, cells := 6, slots := 12, locals := 66 } : Room).cells ({ frames := 4, cells := 6, slots := 12, locals := 66 } : Room).slots → G) → own_R p.tables e below F0 (s₁.setTop (mkF m 0 #[.val (.int p0), .val (.int p1), .unset, .unset, .unset] [])) → G := by
    intro F0 G hG r0
    have r166 : own_R p.tables e below F0 (s₁.setTop (mkF m 29 #[.val (.int p0), .val (.int p1), .val (.int ((p0 &&& (255 : Int32)).toUInt32.toUInt16.toUInt32.toInt32)), .val (.int ((((p0.toUInt32 >>> ((8 : Int32) &&& 31).toUInt32).toInt32) &&& (255 : Int32)).toUInt32.toUInt16.toUInt32.toInt32)), .val (.int ((((p0.toUInt32 >>> ((16 : Int32) &&& 31).toUInt32).toInt32) &&& (255 : Int32)).toUInt32.toUInt16.toUInt32.toInt32))] [(.int p1)])) := fun tg_ kg_ => by
      refine r0 tg_ ?_
      show Steps p.tables e below (s₁.setTop (mkF m 0 #[.val (.int p0), .val (.int p1), .unset, .unset, .unset] [])) _
      refine XS.iloadN X0.here hx rfl (hb hby d1_0) rfl ?_
      show Steps p.tables e below (s₁.setTop (mkF m 1 #[.val (.int p0), .val (.int p1), .unset, .unset, .unset] [(.int p0)])) _
      refine XS.sipush X0.here hx rfl (hb hby d1_1) ?_
      show Steps p.tables e below (s₁.setTop (mkF m 4 #[.val (.int p0), .val (.int p1), .unset, .unset, .unset] [(.int (255 : Int32)), (.int p0)])) _
      refine XS.iand X0.here hx rfl (hb hby d1_4) rfl ?_
      show Steps p.tables e below (s₁.setTop (mkF m 5 #[.val (.int p0), .val (.int p1), .unset, .unset, .unset] [(.int (p0 &&& (255 : Int32)))])) _
      refine XS.i2c X0.here hx rfl (hb hby d1_5) rfl ?_
      show Steps p.tables e below (s₁.setTop (mkF m 6 #[.val (.int p0), .val (.int p1), .unset, .unset, .unset] [(.int ((p0 &&& (255 : Int32)).toUInt32.toUInt16.toUInt32.toInt32))])) _
      refine XS.istoreN X0.here hx rfl (hb hby d1_6) rfl (l' := #[.val (.int p0), .val (.int p1), .val (.int ((p0 &&& (255 : Int32)).toUInt32.toUInt16.toUInt32.toInt32)), .unset, .unset]) rfl ?_
      show Steps p.tables e below (s₁.setTop (mkF m 7 #[.val (.int p0), .val (.int p1), .val (.int ((p0 &&& (255 : Int32)).toUInt32.toUInt16.toUInt32.toInt32)), .unset, .unset] [])) _
      refine XS.iloadN X0.here hx rfl (hb hby d1_7) rfl ?_
      show Steps p.tables e below (s₁.setTop (mkF m 8 #[.val (.int p0), .val (.int p1), .val (.int ((p0 &&& (255 : Int32)).toUInt32.toUInt16.toUInt32.toInt32)), .unset, .unset] [(.int p0)])) _
      refine XS.bipush X0.here hx rfl (hb hby d1_8) ?_
      show Steps p.tables e below (s₁.setTop (mkF m 10 #[.val (.int p0), .val (.int p1), .val (.int ((p0 &&& (255 : Int32)).toUInt32.toUInt16.toUInt32.toInt32)), .unset, .unset] [(.int (8 : Int32)), (.int p0)])) _
      refine XS.iushr X0.here hx rfl (hb hby d1_10) rfl ?_
      show Steps p.tables e below (s₁.setTop (mkF m 11 #[.val (.int p0), .val (.int p1), .val (.int ((p0 &&& (255 : Int32)).toUInt32.toUInt16.toUInt32.toInt32)), .unset, .unset] [(.int ((p0.toUInt32 >>> ((8 : Int32) &&& 31).toUInt32).toInt32))])) _
      refine XS.sipush X0.here hx rfl (hb hby d1_11) ?_
      show Steps p.tables e below (s₁.setTop (mkF m 14 #[.val (.int p0), .val (.int p1), .val (.int ((p0 &&& (255 : Int32)).toUInt32.toUInt16.toUInt32.toInt32)), .unset, .unset] [(.int (255 : Int32)), (.int ((p0.toUInt32 >>> ((8 : Int32) &&& 31).toUInt32).toInt32))])) _
      refine XS.iand X0.here hx rfl (hb hby d1_14) rfl ?_
      show Steps p.tables e below (s₁.setTop (mkF m 15 #[.val (.int p0), .val (.int p1), .val (.int ((p0 &&& (255 : Int32)).toUInt32.toUInt16.toUInt32.toInt32)), .unset, .unset] [(.int (((p0.toUInt32 >>> ((8 : Int32) &&& 31).toUInt32).toInt32) &&& (255 : Int32)))])) _
      refine XS.i2c X0.here hx rfl (hb hby d1_15) rfl ?_
      show Steps p.tables e below (s₁.setTop (mkF m 16 #[.val (.int p0), .val (.int p1), .val (.int ((p0 &&& (255 : Int32)).toUInt32.toUInt16.toUInt32.toInt32)), .unset, .unset] [(.int ((((p0.toUInt32 >>> ((8 : Int32) &&& 31).toUInt32).toInt32) &&& (255 : Int32)).toUInt32.toUInt16.toUInt32.toInt32))])) _
      refine XS.istoreN X0.here hx rfl (hb hby d1_16) rfl (l' := #[.val (.int p0), .val (.int p1), .val (.int ((p0 &&& (255 : Int32)).toUInt32.toUInt16.toUInt32.toInt32)), .val (.int ((((p0.toUInt32 >>> ((8 : Int32) &&& 31).toUInt32).toInt32) &&& (255 : Int32)).toUInt32.toUInt16.toUInt32.toInt32)), .unset]) rfl ?_
      show Steps p.tables e below (s₁.setTop (mkF m 17 #[.val (.int p0), .val (.int p1), .val (.int ((p0 &&& (255 : Int32)).toUInt32.toUInt16.toUInt32.toInt32)), .val (.int ((((p0.toUInt32 >>> ((8 : Int32) &&& 31).toUInt32).toInt32) &&& (255 : Int32)).toUInt32.toUInt16.toUInt32.toInt32)), .unset] [])) _
      refine XS.iloadN X0.here hx rfl (hb hby d1_17) rfl ?_
      show Steps p.tables e below (s₁.setTop (mkF m 18 #[.val (.int p0), .val (.int p1), .val (.int ((p0 &&& (255 : Int32)).toUInt32.toUInt16.toUInt32.toInt32)), .val (.int ((((p0.toUInt32 >>> ((8 : Int32) &&& 31).toUInt32).toInt32) &&& (255 : Int32)).toUInt32.toUInt16.toUInt32.toInt32)), .unset] [(.int p0)])) _
      refine XS.bipush X0.here hx rfl (hb hby d1_18) ?_
      show Steps p.tables e below (s₁.setTop (mkF m 20 #[.val (.int p0), .val (.int p1), .val (.int ((p0 &&& (255 : Int32)).toUInt32.toUInt16.toUInt32.toInt32)), .val (.int ((((p0.toUInt32 >>> ((8 : Int32) &&& 31).toUInt32).toInt32) &&& (255 : Int32)).toUInt32.toUInt16.toUInt32.toInt32)), .unset] [(.int (16 : Int32)), (.int p0)])) _
      refine XS.iushr X0.here hx rfl (hb hby d1_20) rfl ?_
      show Steps p.tables e below (s₁.setTop (mkF m 21 #[.val (.int p0), .val (.int p1), .val (.int ((p0 &&& (255 : Int32)).toUInt32.toUInt16.toUInt32.toInt32)), .val (.int ((((p0.toUInt32 >>> ((8 : Int32) &&& 31).toUInt32).toInt32) &&& (255 : Int32)).toUInt32.toUInt16.toUInt32.toInt32)), .unset] [(.int ((p0.toUInt32 >>> ((16 : Int32) &&& 31).toUInt32).toInt32))])) _
      refine XS.sipush X0.here hx rfl (hb hby d1_21) ?_
      show Steps p.tables e below (s₁.setTop (mkF m 24 #[.val (.int p0), .val (.int p1), .val (.int ((p0 &&& (255 : Int32)).toUInt32.toUInt16.toUInt32.toInt32)), .val (.int ((((p0.toUInt32 >>> ((8 : Int32) &&& 31).toUInt32).toInt32) &&& (255 : Int32)).toUInt32.toUInt16.toUInt32.toInt32)), .unset] [(.int (255 : Int32)), (.int ((p0.toUInt32 >>> ((16 : Int32) &&& 31).toUInt32).toInt32))])) _
      refine XS.iand X0.here hx rfl (hb hby d1_24) rfl ?_
      show Steps p.tables e below (s₁.setTop (mkF m 25 #[.val (.int p0), .val (.int p1), .val (.int ((p0 &&& (255 : Int32)).toUInt32.toUInt16.toUInt32.toInt32)), .val (.int ((((p0.toUInt32 >>> ((8 : Int32) &&& 31).toUInt32).toInt32) &&& (255 : Int32)).toUInt32.toUInt16.toUInt32.toInt32)), .unset] [(.int (((p0.toUInt32 >>> ((16 : Int32) &&& 31).toUInt32).toInt32) &&& (255 : Int32)))])) _
      refine XS.i2c X0.here hx rfl (hb hby d1_25) rfl ?_
      show Steps p.tables e below (s₁.setTop (mkF m 26 #[.val (.int p0), .val (.int p1), .val (.int ((p0 &&& (255 : Int32)).toUInt32.toUInt16.toUInt32.toInt32)), .val (.int ((((p0.toUInt32 >>> ((8 : Int32) &&& 31).toUInt32).toInt32) &&& (255 : Int32)).toUInt32.toUInt16.toUInt32.toInt32)), .unset] [(.int ((((p0.toUInt32 >>> ((16 : Int32) &&& 31).toUInt32).toInt32) &&& (255 : Int32)).toUInt32.toUInt16.toUInt32.toInt32))])) _
      refine XS.istore X0.here hx rfl (hb hby d1_26) rfl (l' := #[.val (.int p0), .val (.int p1), .val (.int ((p0 &&& (255 : Int32)).toUInt32.toUInt16.toUInt32.toInt32)), .val (.int ((((p0.toUInt32 >>> ((8 : Int32) &&& 31).toUInt32).toInt32) &&& (255 : Int32)).toUInt32.toUInt16.toUInt32.toInt32)), .val (.int ((((p0.toUInt32 >>> ((16 : Int32) &&& 31).toUInt32).toInt32) &&& (255 : Int32)).toUInt32.toUInt16.toUInt32.toInt32))]) rfl ?_
      show Steps p.tables e below (s₁.setTop (mkF m 28 #[.val (.int p0), .val (.int p1), .val (.int ((p0 &&& (255 : Int32)).toUInt32.toUInt16.toUInt32.toInt32)), .val (.int ((((p0.toUInt32 >>> ((8 : Int32) &&& 31).toUInt32).toInt32) &&& (255 : Int32)).toUInt32.toUInt16.toUInt32.toInt32)), .val (.int ((((p0.toUInt32 >>> ((16 : Int32) &&& 31).toUInt32).toInt32) &&& (255 : Int32)).toUInt32.toUInt16.toUInt32.toInt32))] [])) _
      refine XS.iloadN X0.here hx rfl (hb hby d1_28) rfl ?_
      exact kg_
    by_cases hc167 : p1 = (0 : Int32)
    · have r168 : own_R p.tables e below F0 (s₁.setTop (mkF m 32 #[.val (.int p0), .val (.int p1), .val (.int ((p0 &&& (255 : Int32)).toUInt32.toUInt16.toUInt32.toInt32)), .val (.int ((((p0.toUInt32 >>> ((8 : Int32) &&& 31).toUInt32).toInt32) &&& (255 : Int32)).toUInt32.toUInt16.toUInt32.toInt32)), .val (.int ((((p0.toUInt32 >>> ((16 : Int32) &&& 31).toUInt32).toInt32) &&& (255 : Int32)).toUInt32.toUInt16.toUInt32.toInt32))] [])) := fun tg_ kg_ => by
        refine r166 tg_ ?_
        show Steps p.tables e below (s₁.setTop (mkF m 29 #[.val (.int p0), .val (.int p1), .val (.int ((p0 &&& (255 : Int32)).toUInt32.toUInt16.toUInt32.toInt32)), .val (.int ((((p0.toUInt32 >>> ((8 : Int32) &&& 31).toUInt32).toInt32) &&& (255 : Int32)).toUInt32.toUInt16.toUInt32.toInt32)), .val (.int ((((p0.toUInt32 >>> ((16 : Int32) &&& 31).toUInt32).toInt32) &&& (255 : Int32)).toUInt32.toUInt16.toUInt32.toInt32))] [(.int p1)])) _
        refine XS.ifNo X0.here hx rfl (hb hby d1_29) rfl ((if0 _ _).trans (teq hc167).2) ?_
        exact kg_
      obtain ⟨T169, h169, X169, e169, E169, A169, D169, -, st169⟩ := newO X0 hx hZ hown (hw _ (List.mem_of_getElem? (i := 4) rfl)) (hw _ (List.mem_of_getElem? (i := 5) rfl)) (hw _ (List.mem_of_getElem? (i := 6) rfl)) e0 (g := (mkF m 32 #[.val (.int p0), .val (.int p1), .val (.int ((p0 &&& (255 : Int32)).toUInt32.toUInt16.toUInt32.toInt32)), .val (.int ((((p0.toUInt32 >>> ((8 : Int32) &&& 31).toUInt32).toInt32) &&& (255 : Int32)).toUInt32.toUInt16.toUInt32.toInt32)), .val (.int ((((p0.toUInt32 >>> ((16 : Int32) &&& 31).toUInt32).toInt32) &&& (255 : Int32)).toUInt32.toUInt16.toUInt32.toInt32))] [])) rfl (hb hby d1_32) (by decide) (by decide)
      obtain ⟨b169, g169⟩ : ∃ z, z = h0.size := ⟨_, rfl⟩
      rw [← g169] at A169 D169 st169
      have CR170 : CHr Z consts_1 s.vm s.heap s.vm h169 := CR0.trans (CHr.ext E169 CR0.1)
      have hk171 : h0.size ≤ h169.size := Nat.le_trans hk0 E169.1
      have Sf169 : Safe Z consts_1 s.vm h169 b169 := Safe.ext E169 CR0.1 (Safe.new (Nat.le_of_eq g169.symm))
      have ge169 : n0 ≤ b169 := Nat.le_trans Z0 (Nat.le_of_eq g169.symm)
      have old169 : h0.size ≤ b169 := Nat.le_trans K0.1 (Nat.le_of_eq g169.symm)
      have K169 : Keep h0 h169 [] := K0.ext E169
      have F172 : Sta Z h169 "java/lang/String" "COMPACT_STRINGS" "Z" (.int zc) := S1.ext E169
      have Zs173 : n0 ≤ h169.size := Nat.le_trans Z0 E169.1
      have F174 : Fld Z h169 b169 "java/lang/String" "coder" "B" (.int (0 : Int32)) := D169 (Or.inr (hw _ (List.mem_of_getElem? (i := 31) rfl))) (ty := .byte) (by decide)
      have F175 : Fld Z h169 b169 "java/lang/String" "value" "[B" .null := D169 (Or.inr (hw _ (List.mem_of_getElem? (i := 33) rfl))) (ty := (.array .byte)) (by decide)
      have r169 : own_R p.tables e below F0 (T169.setTop (mkF m 35 #[.val (.int p0), .val (.int p1), .val (.int ((p0 &&& (255 : Int32)).toUInt32.toUInt16.toUInt32.toInt32)), .val (.int ((((p0.toUInt32 >>> ((8 : Int32) &&& 31).toUInt32).toInt32) &&& (255 : Int32)).toUInt32.toUInt16.toUInt32.toInt32)), .val (.int ((((p0.toUInt32 >>> ((16 : Int32) &&& 31).toUInt32).toInt32) &&& (255 : Int32)).toUInt32.toUInt16.toUInt32.toInt32))] [(.ref b169)])) := fun tg_ kg_ => r168 tg_ (st169 tg_ kg_)
      have r176 : own_R p.tables e below F0 (T169.setTop (mkF m 37 #[.val (.int p0), .val (.int p1), .val (.int ((p0 &&& (255 : Int32)).toUInt32.toUInt16.toUInt32.toInt32)), .val (.int ((((p0.toUInt32 >>> ((8 : Int32) &&& 31).toUInt32).toInt32) &&& (255 : Int32)).toUInt32.toUInt16.toUInt32.toInt32)), .val (.int ((((p0.toUInt32 >>> ((16 : Int32) &&& 31).toUInt32).toInt32) &&& (255 : Int32)).toUInt32.toUInt16.toUInt32.toInt32))] [(.int (0 : Int32)), (.ref b169), (.ref b169)])) := fun tg_ kg_ => by
        refine r169 tg_ ?_
        show Steps p.tables e below (T169.setTop (mkF m 35 #[.val (.int p0), .val (.int p1), .val (.int ((p0 &&& (255 : Int32)).toUInt32.toUInt16.toUInt32.toInt32)), .val (.int ((((p0.toUInt32 >>> ((8 : Int32) &&& 31).toUInt32).toInt32) &&& (255 : Int32)).toUInt32.toUInt16.toUInt32.toInt32)), .val (.int ((((p0.toUInt32 >>> ((16 : Int32) &&& 31).toUInt32).toInt32) &&& (255 : Int32)).toUInt32.toUInt16.toUInt32.toInt32))] [(.ref b169)])) _
        refine XS.dup X169.here hx rfl (hb hby d1_35) rfl rfl ?_
        show Steps p.tables e below (T169.setTop (mkF m 36 #[.val (.int p0), .val (.int p1), .val (.int ((p0 &&& (255 : Int32)).toUInt32.toUInt16.toUInt32.toInt32)), .val (.int ((((p0.toUInt32 >>> ((8 : Int32) &&& 31).toUInt32).toInt32) &&& (255 : Int32)).toUInt32.toUInt16.toUInt32.toInt32)), .val (.int ((((p0.toUInt32 >>> ((16 : Int32) &&& 31).toUInt32).toInt32) &&& (255 : Int32)).toUInt32.toUInt16.toUInt32.toInt32))] [(.ref b169), (.ref b169)])) _
        refine XS.iconst X169.here hx rfl (hb hby d1_36) ?_
        exact kg_
      obtain ⟨T177, h177, k177, X177, e177, E177, A177, st177⟩ := newP X169 hx hZ (hw _ (List.mem_of_getElem? (i := 7) rfl)) e169 (g := (mkF m 37 #[.val (.int p0), .val (.int p1), .val (.int ((p0 &&& (255 : Int32)).toUInt32.toUInt16.toUInt32.toInt32)), .val (.int ((((p0.toUInt32 >>> ((8 : Int32) &&& 31).toUInt32).toInt32) &&& (255 : Int32)).toUInt32.toUInt16.toUInt32.toInt32)), .val (.int ((((p0.toUInt32 >>> ((16 : Int32) &&& 31).toUInt32).toInt32) &&& (255 : Int32)).toUInt32.toUInt16.toUInt32.toInt32))] [(.int (0 : Int32)), (.ref b169), (.ref b169)])) rfl (hb hby d1_37) rfl (by decide) (cap := 0) (by decide) (by decide) (by decide) (by decide)
      obtain ⟨b177, g177⟩ : ∃ z, z = h169.size := ⟨_, rfl⟩
      rw [← g177] at A177 st177
      have Sf178 : Safe Z consts_1 s.vm h177 b169 := Safe.ext E177 CR170.1 Sf169
      have CR179 : CHr Z consts_1 s.vm s.heap s.vm h177 := CR170.trans (CHr.ext E177 CR170.1)
      have hk180 : h0.size ≤ h177.size := Nat.le_trans hk171 E177.1
      have Sf177 : Safe Z consts_1 s.vm h177 b177 := Safe.ext E177 CR170.1 (Safe.new (Nat.le_of_eq g177.symm))
      have ne181 : b169 ≠ b177 := Nat.ne_of_lt (Nat.lt_of_lt_of_le A169.lt (Nat.le_of_eq g177.symm))
      have ge177 : n0 ≤ b177 := Nat.le_trans Zs173 (Nat.le_of_eq g177.symm)
      have old177 : h0.size ≤ b177 := Nat.le_trans K169.1 (Nat.le_of_eq g177.symm)
      have K177 : Keep h0 h177 [] := K169.ext E177
      have F182 : Sta Z h177 "java/lang/String" "COMPACT_STRINGS" "Z" (.int zc) := F172.ext E177
      have F183 : Exa Z h177 b169 "java/lang/String" := A169.ext E177
      have F184 : Fld Z h177 b169 "java/lang/String" "coder" "B" (.int (0 : Int32)) := F174.ext E177
      have F185 : Fld Z h177 b169 "java/lang/String" "value" "[B" .null := F175.ext E177
      have Zs186 : n0 ≤ h177.size := Nat.le_trans Zs173 E177.1
      have F187 : own_Arf Z h177 b177 .char 0 (fun i => (.int ((fun _ => (0 : Int32)) i))) := by
        have q := own_Arf.new A177 (by decide)
        rw [show ((0 : Int32)).toNatClampNeg = 0 from rfl] at q
        exact q
      have r177 : own_R p.tables e below F0 (T177.setTop (mkF m 39 #[.val (.int p0), .val (.int p1), .val (.int ((p0 &&& (255 : Int32)).toUInt32.toUInt16.toUInt32.toInt32)), .val (.int ((((p0.toUInt32 >>> ((8 : Int32) &&& 31).toUInt32).toInt32) &&& (255 : Int32)).toUInt32.toUInt16.toUInt32.toInt32)), .val (.int ((((p0.toUInt32 >>> ((16 : Int32) &&& 31).toUInt32).toInt32) &&& (255 : Int32)).toUInt32.toUInt16.toUInt32.toInt32))] [(.ref b177), (.ref b169), (.ref b169)])) := fun tg_ kg_ => r176 tg_ (st177 tg_ kg_)
      obtain ⟨_, _, ⟨T188, L188, k188, n188⟩, -, X188, hSi188, gr188, ⟨Lc188, hQ188, l188, y188, z188, CA188⟩, st188⟩ := X177.specialBackS hx (y := (⟨"java/lang/String", "<init>", "([C)V"⟩ : MethodName)) rfl hown (mvT hZ (hw _ (List.mem_of_getElem? (i := 8) rfl))) (mvT hZ (hw _ (List.mem_of_getElem? (i := 9) rfl))) (mvT hZ (hw _ (List.mem_of_getElem? (i := 10) rfl))) (by decide) (backOfSH (s := s) (vm0 := s.vm) (EL := consts_1) (W := 1) (rm2e l Z a0 hw [] b169 b177 ((fun _ => (0 : Int32))) h177 n0 Zs186 F183 F185 F184 ge169 F187 ne181) hZ (hw _ (List.mem_of_getElem? (i := 10) rfl)) (hw _ (List.mem_of_getElem? (i := 6) rfl)) (by decide) (by decide) hEL CR179.1) (g := (mkF m 39 #[.val (.int p0), .val (.int p1), .val (.int ((p0 &&& (255 : Int32)).toUInt32.toUInt16.toUInt32.toInt32)), .val (.int ((((p0.toUInt32 >>> ((8 : Int32) &&& 31).toUInt32).toInt32) &&& (255 : Int32)).toUInt32.toUInt16.toUInt32.toInt32)), .val (.int ((((p0.toUInt32 >>> ((16 : Int32) &&& 31).toUInt32).toInt32) &&& (255 : Int32)).toUInt32.toUInt16.toUInt32.toInt32))] [(.ref b177), (.ref b169), (.ref b169)])) rfl (by rw [hml]; rfl) (Steps.refl _) (a := b169) (argsL := [(.ref b177)]) (rest := [(.ref b169)]) (lenOf pd_4 rfl) rfl (by show 2 * 0 + _ ≤ _; exact Nat.le_of_eq rfl) (hb hby d1_39) (fun _ _ => ⟨rfl, e177, (by decide : 2 + 4 ≤ _), (by decide : 4 + 8 ≤ _)⟩)
      dsimp only [Pt.U, Pt.locs, Pt.cells, Pt.slots] at X188 l188 y188 z188 st188 hQ188 hSi188 gr188 CA188
      subst l188 y188 z188
      obtain ⟨X188, hS188, hZ, hown⟩ := rebS (s := s) (vm0 := s.vm) hS0 (show h0.size ≤ T177.heap.size from Nat.le_trans hk180 (Nat.le_of_eq (by rw [e177]))) X188 hSi188 gr188 hZ hown
      obtain ⟨bb_188, rfl, N188q, I188_0, I188_1, I188_2, I188_3⟩ := hQ188
      have N188 := Fr.app N0 N188q
      obtain ⟨h188, e188⟩ : ∃ z, T188.heap = z := ⟨_, rfl⟩
      rw [e188] at I188_0 I188_1 I188_2 I188_3 CA188
      have F191 : own_Arf Z h188 b177 .char 0 (fun i => (.int ((fun _ => (0 : Int32)) i))) := F187.keep I188_0 (ninS (Ne.symm ne181) nin0)
      have K192 : Keep h0 h188 [] := K177.trans I188_0 (allS (Or.inr old169) all0)
      have Zs193 : n0 ≤ h188.size := Nat.le_trans Zs186 I188_0.1
      have Sf194 : Safe Z consts_1 T188.vm h188 b169 := CA188.safe F183.lt Sf178
      have Sf195 : Safe Z consts_1 T188.vm h188 b177 := CA188.safe F187.lt Sf177
      have CR196 : CHr Z consts_1 s.vm s.heap T188.vm h188 := CR179.trans CA188
      have hk197 : T188.heap.size ≤ h188.size := Nat.le_of_eq (by rw [e188])
      have r188 : own_R p.tables e below F0 (T188.setTop (mkF m 42 #[.val (.int p0), .val (.int p1), .val (.int ((p0 &&& (255 : Int32)).toUInt32.toUInt16.toUInt32.toInt32)), .val (.int ((((p0.toUInt32 >>> ((8 : Int32) &&& 31).toUInt32).toInt32) &&& (255 : Int32)).toUInt32.toUInt16.toUInt32.toInt32)), .val (.int ((((p0.toUInt32 >>> ((16 : Int32) &&& 31).toUInt32).toInt32) &&& (255 : Int32)).toUInt32.toUInt16.toUInt32.toInt32))] [(.ref b169)])) := fun tg_ kg_ => r177 tg_ (st188.trans kg_)
      refine hG (own_finW X188 hS188 (Nat.le_refl _) hlk hZ hEL (by rw [e188]; exact CR196) (some (.ref b169)) (own_hv Bd.returns) ?_ (by decide) (by decide) (fun fs hr => r188 _ (retOut X188 hx Bd.returns rfl (Or.inr (Or.inr (Or.inr (Or.inr ⟨rfl, rfl, rfl⟩)))) (hb hby d1_42) hr)))
      rw [e188]
      refine ⟨b169, bb_188, 0, (fun _ => (0 : Int32)), ?_, N188, K192, old169, I188_1, I188_2, I188_3, (by
                have q59_r := own_R32 p1
                have q60_e : (0 : Int32).toInt = 0 := (by decide)
                have q60_r : (0 : Int) ≤ (0 : Int32).toInt ∧ (0 : Int32).toInt ≤ 0 := ⟨Int.le_of_eq q60_e.symm, Int.le_of_eq q60_e⟩
                have q61_c := own_eq32 hc167
                omega)⟩
      rfl
    · have r198 : own_R p.tables e below F0 (s₁.setTop (mkF m 45 #[.val (.int p0), .val (.int p1), .val (.int ((p0 &&& (255 : Int32)).toUInt32.toUInt16.toUInt32.toInt32)), .val (.int ((((p0.toUInt32 >>> ((8 : Int32) &&& 31).toUInt32).toInt32) &&& (255 : Int32)).toUInt32.toUInt16.toUInt32.toInt32)), .val (.int ((((p0.toUInt32 >>> ((16 : Int32) &&& 31).toUInt32).toInt32) &&& (255 : Int32)).toUInt32.toUInt16.toUInt32.toInt32))] [(.int (1 : Int32)), (.int p1)])) := fun tg_ kg_ => by
        refine r166 tg_ ?_
        show Steps p.tables e below (s₁.setTop (mkF m 29 #[.val (.int p0), .val (.int p1), .val (.int ((p0 &&& (255 : Int32)).toUInt32.toUInt16.toUInt32.toInt32)), .val (.int ((((p0.toUInt32 >>> ((8 : Int32) &&& 31).toUInt32).toInt32) &&& (255 : Int32)).toUInt32.toUInt16.toUInt32.toInt32)), .val (.int ((((p0.toUInt32 >>> ((16 : Int32) &&& 31).toUInt32).toInt32) &&& (255 : Int32)).toUInt32.toUInt16.toUInt32.toInt32))] [(.int p1)])) _
        refine XS.ifYes X0.here hx rfl (pc0 := 29) (pc' := 43) rfl (hb hby d1_29) rfl ((if0 _ _).trans (feq hc167).2) (by decide) (by decide) ?_
        show Steps p.tables e below (s₁.setTop (mkF m 43 #[.val (.int p0), .val (.int p1), .val (.int ((p0 &&& (255 : Int32)).toUInt32.toUInt16.toUInt32.toInt32)), .val (.int ((((p0.toUInt32 >>> ((8 : Int32) &&& 31).toUInt32).toInt32) &&& (255 : Int32)).toUInt32.toUInt16.toUInt32.toInt32)), .val (.int ((((p0.toUInt32 >>> ((16 : Int32) &&& 31).toUInt32).toInt32) &&& (255 : Int32)).toUInt32.toUInt16.toUInt32.toInt32))] [])) _
        refine XS.iloadN X0.here hx rfl (hb hby d1_43) rfl ?_
        show Steps p.tables e below (s₁.setTop (mkF m 44 #[.val (.int p0), .val (.int p1), .val (.int ((p0 &&& (255 : Int32)).toUInt32.toUInt16.toUInt32.toInt32)), .val (.int ((((p0.toUInt32 >>> ((8 : Int32) &&& 31).toUInt32).toInt32) &&& (255 : Int32)).toUInt32.toUInt16.toUInt32.toInt32)), .val (.int ((((p0.toUInt32 >>> ((16 : Int32) &&& 31).toUInt32).toInt32) &&& (255 : Int32)).toUInt32.toUInt16.toUInt32.toInt32))] [(.int p1)])) _
        refine XS.iconst X0.here hx rfl (hb hby d1_44) ?_
        exact kg_
      by_cases hc199 : p1 = (1 : Int32)
      · have r200 : own_R p.tables e below F0 (s₁.setTop (mkF m 48 #[.val (.int p0), .val (.int p1), .val (.int ((p0 &&& (255 : Int32)).toUInt32.toUInt16.toUInt32.toInt32)), .val (.int ((((p0.toUInt32 >>> ((8 : Int32) &&& 31).toUInt32).toInt32) &&& (255 : Int32)).toUInt32.toUInt16.toUInt32.toInt32)), .val (.int ((((p0.toUInt32 >>> ((16 : Int32) &&& 31).toUInt32).toInt32) &&& (255 : Int32)).toUInt32.toUInt16.toUInt32.toInt32))] [])) := fun tg_ kg_ => by
          refine r198 tg_ ?_
          show Steps p.tables e below (s₁.setTop (mkF m 45 #[.val (.int p0), .val (.int p1), .val (.int ((p0 &&& (255 : Int32)).toUInt32.toUInt16.toUInt32.toInt32)), .val (.int ((((p0.toUInt32 >>> ((8 : Int32) &&& 31).toUInt32).toInt32) &&& (255 : Int32)).toUInt32.toUInt16.toUInt32.toInt32)), .val (.int ((((p0.toUInt32 >>> ((16 : Int32) &&& 31).toUInt32).toInt32) &&& (255 : Int32)).toUInt32.toUInt16.toUInt32.toInt32))] [(.int (1 : Int32)), (.int p1)])) _
          refine XS.icmpNo X0.here hx rfl (hb hby d1_45) rfl (teq hc199).2 ?_
          exact kg_
        obtain ⟨T201, h201, X201, e201, E201, A201, D201, -, st201⟩ := newO X0 hx hZ hown (hw _ (List.mem_of_getElem? (i := 4) rfl)) (hw _ (List.mem_of_getElem? (i := 5) rfl)) (hw _ (List.mem_of_getElem? (i := 6) rfl)) e0 (g := (mkF m 48 #[.val (.int p0), .val (.int p1), .val (.int ((p0 &&& (255 : Int32)).toUInt32.toUInt16.toUInt32.toInt32)), .val (.int ((((p0.toUInt32 >>> ((8 : Int32) &&& 31).toUInt32).toInt32) &&& (255 : Int32)).toUInt32.toUInt16.toUInt32.toInt32)), .val (.int ((((p0.toUInt32 >>> ((16 : Int32) &&& 31).toUInt32).toInt32) &&& (255 : Int32)).toUInt32.toUInt16.toUInt32.toInt32))] [])) rfl (hb hby d1_48) (by decide) (by decide)
        obtain ⟨b201, g201⟩ : ∃ z, z = h0.size := ⟨_, rfl⟩
        rw [← g201] at A201 D201 st201
        have CR202 : CHr Z consts_1 s.vm s.heap s.vm h201 := CR0.trans (CHr.ext E201 CR0.1)
        have hk203 : h0.size ≤ h201.size := Nat.le_trans hk0 E201.1
        have Sf201 : Safe Z consts_1 s.vm h201 b201 := Safe.ext E201 CR0.1 (Safe.new (Nat.le_of_eq g201.symm))
        have ge201 : n0 ≤ b201 := Nat.le_trans Z0 (Nat.le_of_eq g201.symm)
        have old201 : h0.size ≤ b201 := Nat.le_trans K0.1 (Nat.le_of_eq g201.symm)
        have K201 : Keep h0 h201 [] := K0.ext E201
        have F204 : Sta Z h201 "java/lang/String" "COMPACT_STRINGS" "Z" (.int zc) := S1.ext E201
        have Zs205 : n0 ≤ h201.size := Nat.le_trans Z0 E201.1
        have F206 : Fld Z h201 b201 "java/lang/String" "coder" "B" (.int (0 : Int32)) := D201 (Or.inr (hw _ (List.mem_of_getElem? (i := 31) rfl))) (ty := .byte) (by decide)
        have F207 : Fld Z h201 b201 "java/lang/String" "value" "[B" .null := D201 (Or.inr (hw _ (List.mem_of_getElem? (i := 33) rfl))) (ty := (.array .byte)) (by decide)
        have r201 : own_R p.tables e below F0 (T201.setTop (mkF m 51 #[.val (.int p0), .val (.int p1), .val (.int ((p0 &&& (255 : Int32)).toUInt32.toUInt16.toUInt32.toInt32)), .val (.int ((((p0.toUInt32 >>> ((8 : Int32) &&& 31).toUInt32).toInt32) &&& (255 : Int32)).toUInt32.toUInt16.toUInt32.toInt32)), .val (.int ((((p0.toUInt32 >>> ((16 : Int32) &&& 31).toUInt32).toInt32) &&& (255 : Int32)).toUInt32.toUInt16.toUInt32.toInt32))] [(.ref b201)])) := fun tg_ kg_ => r200 tg_ (st201 tg_ kg_)
        have r208 : own_R p.tables e below F0 (T201.setTop (mkF m 53 #[.val (.int p0), .val (.int p1), .val (.int ((p0 &&& (255 : Int32)).toUInt32.toUInt16.toUInt32.toInt32)), .val (.int ((((p0.toUInt32 >>> ((8 : Int32) &&& 31).toUInt32).toInt32) &&& (255 : Int32)).toUInt32.toUInt16.toUInt32.toInt32)), .val (.int ((((p0.toUInt32 >>> ((16 : Int32) &&& 31).toUInt32).toInt32) &&& (255 : Int32)).toUInt32.toUInt16.toUInt32.toInt32))] [(.int (1 : Int32)), (.ref b201), (.ref b201)])) := fun tg_ kg_ => by
          refine r201 tg_ ?_
          show Steps p.tables e below (T201.setTop (mkF m 51 #[.val (.int p0), .val (.int p1), .val (.int ((p0 &&& (255 : Int32)).toUInt32.toUInt16.toUInt32.toInt32)), .val (.int ((((p0.toUInt32 >>> ((8 : Int32) &&& 31).toUInt32).toInt32) &&& (255 : Int32)).toUInt32.toUInt16.toUInt32.toInt32)), .val (.int ((((p0.toUInt32 >>> ((16 : Int32) &&& 31).toUInt32).toInt32) &&& (255 : Int32)).toUInt32.toUInt16.toUInt32.toInt32))] [(.ref b201)])) _
          refine XS.dup X201.here hx rfl (hb hby d1_51) rfl rfl ?_
          show Steps p.tables e below (T201.setTop (mkF m 52 #[.val (.int p0), .val (.int p1), .val (.int ((p0 &&& (255 : Int32)).toUInt32.toUInt16.toUInt32.toInt32)), .val (.int ((((p0.toUInt32 >>> ((8 : Int32) &&& 31).toUInt32).toInt32) &&& (255 : Int32)).toUInt32.toUInt16.toUInt32.toInt32)), .val (.int ((((p0.toUInt32 >>> ((16 : Int32) &&& 31).toUInt32).toInt32) &&& (255 : Int32)).toUInt32.toUInt16.toUInt32.toInt32))] [(.ref b201), (.ref b201)])) _
          refine XS.iconst X201.here hx rfl (hb hby d1_52) ?_
          exact kg_
        obtain ⟨T209, h209, k209, X209, e209, E209, A209, st209⟩ := newP X201 hx hZ (hw _ (List.mem_of_getElem? (i := 7) rfl)) e201 (g := (mkF m 53 #[.val (.int p0), .val (.int p1), .val (.int ((p0 &&& (255 : Int32)).toUInt32.toUInt16.toUInt32.toInt32)), .val (.int ((((p0.toUInt32 >>> ((8 : Int32) &&& 31).toUInt32).toInt32) &&& (255 : Int32)).toUInt32.toUInt16.toUInt32.toInt32)), .val (.int ((((p0.toUInt32 >>> ((16 : Int32) &&& 31).toUInt32).toInt32) &&& (255 : Int32)).toUInt32.toUInt16.toUInt32.toInt32))] [(.int (1 : Int32)), (.ref b201), (.ref b201)])) rfl (hb hby d1_53) rfl (by decide) (cap := 1) (by decide) (by decide) (by decide) (by decide)
        obtain ⟨b209, g209⟩ : ∃ z, z = h201.size := ⟨_, rfl⟩
        rw [← g209] at A209 st209
        have Sf210 : Safe Z consts_1 s.vm h209 b201 := Safe.ext E209 CR202.1 Sf201
        have CR211 : CHr Z consts_1 s.vm s.heap s.vm h209 := CR202.trans (CHr.ext E209 CR202.1)
        have hk212 : h0.size ≤ h209.size := Nat.le_trans hk203 E209.1
        have Sf209 : Safe Z consts_1 s.vm h209 b209 := Safe.ext E209 CR202.1 (Safe.new (Nat.le_of_eq g209.symm))
        have ne213 : b201 ≠ b209 := Nat.ne_of_lt (Nat.lt_of_lt_of_le A201.lt (Nat.le_of_eq g209.symm))
        have ge209 : n0 ≤ b209 := Nat.le_trans Zs205 (Nat.le_of_eq g209.symm)
        have old209 : h0.size ≤ b209 := Nat.le_trans K201.1 (Nat.le_of_eq g209.symm)
        have K209 : Keep h0 h209 [] := K201.ext E209
        have F214 : Sta Z h209 "java/lang/String" "COMPACT_STRINGS" "Z" (.int zc) := F204.ext E209
        have F215 : Exa Z h209 b201 "java/lang/String" := A201.ext E209
        have F216 : Fld Z h209 b201 "java/lang/String" "coder" "B" (.int (0 : Int32)) := F206.ext E209
        have F217 : Fld Z h209 b201 "java/lang/String" "value" "[B" .null := F207.ext E209
        have Zs218 : n0 ≤ h209.size := Nat.le_trans Zs205 E209.1
        have F219 : own_Arf Z h209 b209 .char 1 (fun i => (.int ((fun _ => (0 : Int32)) i))) := by
          have q := own_Arf.new A209 (by decide)
          rw [show ((1 : Int32)).toNatClampNeg = 1 from rfl] at q
          exact q
        have r209 : own_R p.tables e below F0 (T209.setTop (mkF m 55 #[.val (.int p0), .val (.int p1), .val (.int ((p0 &&& (255 : Int32)).toUInt32.toUInt16.toUInt32.toInt32)), .val (.int ((((p0.toUInt32 >>> ((8 : Int32) &&& 31).toUInt32).toInt32) &&& (255 : Int32)).toUInt32.toUInt16.toUInt32.toInt32)), .val (.int ((((p0.toUInt32 >>> ((16 : Int32) &&& 31).toUInt32).toInt32) &&& (255 : Int32)).toUInt32.toUInt16.toUInt32.toInt32))] [(.ref b209), (.ref b201), (.ref b201)])) := fun tg_ kg_ => r208 tg_ (st209 tg_ kg_)
        have r220 : own_R p.tables e below F0 (T209.setTop (mkF m 58 #[.val (.int p0), .val (.int p1), .val (.int ((p0 &&& (255 : Int32)).toUInt32.toUInt16.toUInt32.toInt32)), .val (.int ((((p0.toUInt32 >>> ((8 : Int32) &&& 31).toUInt32).toInt32) &&& (255 : Int32)).toUInt32.toUInt16.toUInt32.toInt32)), .val (.int ((((p0.toUInt32 >>> ((16 : Int32) &&& 31).toUInt32).toInt32) &&& (255 : Int32)).toUInt32.toUInt16.toUInt32.toInt32))] [(.int ((p0 &&& (255 : Int32)).toUInt32.toUInt16.toUInt32.toInt32)), (.int (0 : Int32)), (.ref b209), (.ref b209), (.ref b201), (.ref b201)])) := fun tg_ kg_ => by
          refine r209 tg_ ?_
          show Steps p.tables e below (T209.setTop (mkF m 55 #[.val (.int p0), .val (.int p1), .val (.int ((p0 &&& (255 : Int32)).toUInt32.toUInt16.toUInt32.toInt32)), .val (.int ((((p0.toUInt32 >>> ((8 : Int32) &&& 31).toUInt32).toInt32) &&& (255 : Int32)).toUInt32.toUInt16.toUInt32.toInt32)), .val (.int ((((p0.toUInt32 >>> ((16 : Int32) &&& 31).toUInt32).toInt32) &&& (255 : Int32)).toUInt32.toUInt16.toUInt32.toInt32))] [(.ref b209), (.ref b201), (.ref b201)])) _
          refine XS.dup X209.here hx rfl (hb hby d1_55) rfl rfl ?_
          show Steps p.tables e below (T209.setTop (mkF m 56 #[.val (.int p0), .val (.int p1), .val (.int ((p0 &&& (255 : Int32)).toUInt32.toUInt16.toUInt32.toInt32)), .val (.int ((((p0.toUInt32 >>> ((8 : Int32) &&& 31).toUInt32).toInt32) &&& (255 : Int32)).toUInt32.toUInt16.toUInt32.toInt32)), .val (.int ((((p0.toUInt32 >>> ((16 : Int32) &&& 31).toUInt32).toInt32) &&& (255 : Int32)).toUInt32.toUInt16.toUInt32.toInt32))] [(.ref b209), (.ref b209), (.ref b201), (.ref b201)])) _
          refine XS.iconst X209.here hx rfl (hb hby d1_56) ?_
          show Steps p.tables e below (T209.setTop (mkF m 57 #[.val (.int p0), .val (.int p1), .val (.int ((p0 &&& (255 : Int32)).toUInt32.toUInt16.toUInt32.toInt32)), .val (.int ((((p0.toUInt32 >>> ((8 : Int32) &&& 31).toUInt32).toInt32) &&& (255 : Int32)).toUInt32.toUInt16.toUInt32.toInt32)), .val (.int ((((p0.toUInt32 >>> ((16 : Int32) &&& 31).toUInt32).toInt32) &&& (255 : Int32)).toUInt32.toUInt16.toUInt32.toInt32))] [(.int (0 : Int32)), (.ref b209), (.ref b209), (.ref b201), (.ref b201)])) _
          refine XS.iloadN X209.here hx rfl (hb hby d1_57) rfl ?_
          exact kg_
        obtain ⟨T221, h221, X221, e221, W221, V221, st221⟩ := own_stC X209 hx hZ e209 (j := (0 : Int32)) F219 (by decide) (by decide) (g := (mkF m 58 #[.val (.int p0), .val (.int p1), .val (.int ((p0 &&& (255 : Int32)).toUInt32.toUInt16.toUInt32.toInt32)), .val (.int ((((p0.toUInt32 >>> ((8 : Int32) &&& 31).toUInt32).toInt32) &&& (255 : Int32)).toUInt32.toUInt16.toUInt32.toInt32)), .val (.int ((((p0.toUInt32 >>> ((16 : Int32) &&& 31).toUInt32).toInt32) &&& (255 : Int32)).toUInt32.toUInt16.toUInt32.toInt32))] [(.int ((p0 &&& (255 : Int32)).toUInt32.toUInt16.toUInt32.toInt32)), (.int (0 : Int32)), (.ref b209), (.ref b209), (.ref b201), (.ref b201)])) rfl rfl (hb hby d1_58)
        have V221 : own_Arf Z h221 b209 .char 1 (fun i => if i = 0 then (.int (nar .char ((p0 &&& (255 : Int32)).toUInt32.toUInt16.toUInt32.toInt32))) else (.int ((fun _ => (0 : Int32)) i))) := V221
        obtain ⟨gf221, hgf221, V221'⟩ := own_nameI (g := (fun _ => (0 : Int32))) V221
        have Sf222 : Safe Z consts_1 s.vm h221 b201 := Safe.wr W221 Sf209 CR211.1 Sf210
        have Sf223 : Safe Z consts_1 s.vm h221 b209 := Safe.wr W221 Sf209 CR211.1 Sf209
        have CR224 : CHr Z consts_1 s.vm s.heap s.vm h221 := CR211.trans (CHr.wr W221 Sf209 CR211.1)
        have hk225 : h0.size ≤ h221.size := Nat.le_trans hk212 (Nat.le_of_eq W221.size.symm)
        have F226 : Sta Z h221 "java/lang/String" "COMPACT_STRINGS" "Z" (.int zc) := F214.wr W221
        have F227 : Exa Z h221 b201 "java/lang/String" := F215.wr W221
        have F228 : Fld Z h221 b201 "java/lang/String" "coder" "B" (.int (0 : Int32)) := F216.other W221 (Or.inl ne213)
        have F229 : Fld Z h221 b201 "java/lang/String" "value" "[B" .null := F217.other W221 (Or.inl ne213)
        have F230 : own_Arf Z h221 b209 .char 1 (fun i => (.int (gf221 i))) := V221'
        have Zs231 : n0 ≤ h221.size := by rw [W221.size]; exact Zs218
        have N232 := Fr.snoc X221 N0 ge209
        have K233 : Keep h0 h221 [] := K209.wr W221 (Or.inr old209)
        have r221 : own_R p.tables e below F0 (T221.setTop (mkF m 59 #[.val (.int p0), .val (.int p1), .val (.int ((p0 &&& (255 : Int32)).toUInt32.toUInt16.toUInt32.toInt32)), .val (.int ((((p0.toUInt32 >>> ((8 : Int32) &&& 31).toUInt32).toInt32) &&& (255 : Int32)).toUInt32.toUInt16.toUInt32.toInt32)), .val (.int ((((p0.toUInt32 >>> ((16 : Int32) &&& 31).toUInt32).toInt32) &&& (255 : Int32)).toUInt32.toUInt16.toUInt32.toInt32))] [(.ref b209), (.ref b201), (.ref b201)])) := fun tg_ kg_ => r220 tg_ (st221 tg_ kg_)
        obtain ⟨_, _, ⟨T234, L234, k234, n234⟩, -, X234, ⟨Lc234, hQ234, l234, y234, z234⟩, st234⟩ := X221.specialBack hx (y := (⟨"java/lang/String", "<init>", "([C)V"⟩ : MethodName)) rfl hown (mvT hZ (hw _ (List.mem_of_getElem? (i := 8) rfl))) (mvT hZ (hw _ (List.mem_of_getElem? (i := 9) rfl))) (mvT hZ (hw _ (List.mem_of_getElem? (i := 10) rfl))) (by decide) (backOf (W := 1) (rm2n l Z a0 hw [] b201 b209 (1) (gf221) (zc) h221 n0 Zs231 F227 F229 F228 ge201 F230 (by decide) (own_chS hgf221 (own_chV _) own_ch0) ne213 F226 hzc) hZ (hw _ (List.mem_of_getElem? (i := 10) rfl)) (hw _ (List.mem_of_getElem? (i := 6) rfl)) (by decide) (by decide)) (g := (mkF m 59 #[.val (.int p0), .val (.int p1), .val (.int ((p0 &&& (255 : Int32)).toUInt32.toUInt16.toUInt32.toInt32)), .val (.int ((((p0.toUInt32 >>> ((8 : Int32) &&& 31).toUInt32).toInt32) &&& (255 : Int32)).toUInt32.toUInt16.toUInt32.toInt32)), .val (.int ((((p0.toUInt32 >>> ((16 : Int32) &&& 31).toUInt32).toInt32) &&& (255 : Int32)).toUInt32.toUInt16.toUInt32.toInt32))] [(.ref b209), (.ref b201), (.ref b201)])) rfl (by rw [hml]; rfl) (Steps.refl _) (a := b201) (argsL := [(.ref b209)]) (rest := [(.ref b201)]) (lenOf pd_4 rfl) rfl (by show 2 * 0 + _ ≤ _; exact Nat.le_of_eq rfl) (hb hby d1_59) (fun _ _ => ⟨rfl, e221, (by decide : 2 + 1 ≤ _), (by decide : 5 + 3 ≤ _)⟩)
        dsimp only [Pt.U, Pt.locs, Pt.cells, Pt.slots] at X234 l234 y234 z234 st234 hQ234
        subst l234 y234 z234
        obtain ⟨bb_234, gx_234, rfl, N234q, I234_0, I234_1, I234_2, I234_3⟩ := hQ234
        have N234 := Fr.app N232 N234q
        obtain ⟨h234, e234⟩ : ∃ z, T234.heap = z := ⟨_, rfl⟩
        rw [e234] at I234_0 I234_1 I234_2 I234_3
        have F237 : own_Arf Z h234 b209 .char 1 (fun i => (.int (gf221 i))) := F230.keep I234_0 (ninS (Ne.symm ne213) nin0)
        have K238 : Keep h0 h234 [] := K233.trans I234_0 (allS (Or.inr old201) all0)
        have Zs239 : n0 ≤ h234.size := Nat.le_trans Zs231 I234_0.1
        have Sf240 : Safe Z consts_1 s.vm h234 b201 := Safe.keep I234_0 (sfS Sf222 sf0) CR224.1 Sf222
        have Sf241 : Safe Z consts_1 s.vm h234 b209 := Safe.keep I234_0 (sfS Sf222 sf0) CR224.1 Sf223
        have CR242 : CHr Z consts_1 s.vm s.heap s.vm h234 := CR224.trans (CHr.keep I234_0 (sfS Sf222 sf0) CR224.1)
        have hk243 : h0.size ≤ h234.size := Nat.le_trans hk225 I234_0.1
        have r234 : own_R p.tables e below F0 (T234.setTop (mkF m 62 #[.val (.int p0), .val (.int p1), .val (.int ((p0 &&& (255 : Int32)).toUInt32.toUInt16.toUInt32.toInt32)), .val (.int ((((p0.toUInt32 >>> ((8 : Int32) &&& 31).toUInt32).toInt32) &&& (255 : Int32)).toUInt32.toUInt16.toUInt32.toInt32)), .val (.int ((((p0.toUInt32 >>> ((16 : Int32) &&& 31).toUInt32).toInt32) &&& (255 : Int32)).toUInt32.toUInt16.toUInt32.toInt32))] [(.ref b201)])) := fun tg_ kg_ => r221 tg_ (st234.trans kg_)
        refine hG (own_finW X234 hS0 (Nat.le_trans hk243 (Nat.le_of_eq (by rw [e234]))) hlk hZ hEL (by rw [e234]; exact CR242) (some (.ref b201)) (own_hv Bd.returns) ?_ (by decide) (by decide) (fun fs hr => r234 _ (retOut X234 hx Bd.returns rfl (Or.inr (Or.inr (Or.inr (Or.inr ⟨rfl, rfl, rfl⟩)))) (hb hby d1_62) hr)))
        rw [e234]
        refine ⟨b201, bb_234, 1, gx_234, ?_, N234, K238, old201, I234_1, I234_2, I234_3, (by
                    have q62_r := own_R32 p1
                    have q63_e : (0 : Int32).toInt = 0 := (by decide)
                    have q63_r : (0 : Int) ≤ (0 : Int32).toInt ∧ (0 : Int32).toInt ≤ 0 := ⟨Int.le_of_eq q63_e.symm, Int.le_of_eq q63_e⟩
                    have q64_e : (1 : Int32).toInt = 1 := (by decide)
                    have q64_r : (1 : Int) ≤ (1 : Int32).toInt ∧ (1 : Int32).toInt ≤ 1 := ⟨Int.le_of_eq q64_e.symm, Int.le_of_eq q64_e⟩
                    have q65_c := own_ne32 hc167
                    have q66_c := own_eq32 hc199
                    omega)⟩
        rfl
      · have r244 : own_R p.tables e below F0 (s₁.setTop (mkF m 65 #[.val (.int p0), .val (.int p1), .val (.int ((p0 &&& (255 : Int32)).toUInt32.toUInt16.toUInt32.toInt32)), .val (.int ((((p0.toUInt32 >>> ((8 : Int32) &&& 31).toUInt32).toInt32) &&& (255 : Int32)).toUInt32.toUInt16.toUInt32.toInt32)), .val (.int ((((p0.toUInt32 >>> ((16 : Int32) &&& 31).toUInt32).toInt32) &&& (255 : Int32)).toUInt32.toUInt16.toUInt32.toInt32))] [(.int (2 : Int32)), (.int p1)])) := fun tg_ kg_ => by
          refine r198 tg_ ?_
          show Steps p.tables e below (s₁.setTop (mkF m 45 #[.val (.int p0), .val (.int p1), .val (.int ((p0 &&& (255 : Int32)).toUInt32.toUInt16.toUInt32.toInt32)), .val (.int ((((p0.toUInt32 >>> ((8 : Int32) &&& 31).toUInt32).toInt32) &&& (255 : Int32)).toUInt32.toUInt16.toUInt32.toInt32)), .val (.int ((((p0.toUInt32 >>> ((16 : Int32) &&& 31).toUInt32).toInt32) &&& (255 : Int32)).toUInt32.toUInt16.toUInt32.toInt32))] [(.int (1 : Int32)), (.int p1)])) _
          refine XS.icmpYes X0.here hx rfl (pc0 := 45) (pc' := 63) rfl (hb hby d1_45) rfl (feq hc199).2 (by decide) (by decide) ?_
          show Steps p.tables e below (s₁.setTop (mkF m 63 #[.val (.int p0), .val (.int p1), .val (.int ((p0 &&& (255 : Int32)).toUInt32.toUInt16.toUInt32.toInt32)), .val (.int ((((p0.toUInt32 >>> ((8 : Int32) &&& 31).toUInt32).toInt32) &&& (255 : Int32)).toUInt32.toUInt16.toUInt32.toInt32)), .val (.int ((((p0.toUInt32 >>> ((16 : Int32) &&& 31).toUInt32).toInt32) &&& (255 : Int32)).toUInt32.toUInt16.toUInt32.toInt32))] [])) _
          refine XS.iloadN X0.here hx rfl (hb hby d1_63) rfl ?_
          show Steps p.tables e below (s₁.setTop (mkF m 64 #[.val (.int p0), .val (.int p1), .val (.int ((p0 &&& (255 : Int32)).toUInt32.toUInt16.toUInt32.toInt32)), .val (.int ((((p0.toUInt32 >>> ((8 : Int32) &&& 31).toUInt32).toInt32) &&& (255 : Int32)).toUInt32.toUInt16.toUInt32.toInt32)), .val (.int ((((p0.toUInt32 >>> ((16 : Int32) &&& 31).toUInt32).toInt32) &&& (255 : Int32)).toUInt32.toUInt16.toUInt32.toInt32))] [(.int p1)])) _
          refine XS.iconst X0.here hx rfl (hb hby d1_64) ?_
          exact kg_
        by_cases hc245 : p1 = (2 : Int32)
        · have r246 : own_R p.tables e below F0 (s₁.setTop (mkF m 68 #[.val (.int p0), .val (.int p1), .val (.int ((p0 &&& (255 : Int32)).toUInt32.toUInt16.toUInt32.toInt32)), .val (.int ((((p0.toUInt32 >>> ((8 : Int32) &&& 31).toUInt32).toInt32) &&& (255 : Int32)).toUInt32.toUInt16.toUInt32.toInt32)), .val (.int ((((p0.toUInt32 >>> ((16 : Int32) &&& 31).toUInt32).toInt32) &&& (255 : Int32)).toUInt32.toUInt16.toUInt32.toInt32))] [])) := fun tg_ kg_ => by
            refine r244 tg_ ?_
            show Steps p.tables e below (s₁.setTop (mkF m 65 #[.val (.int p0), .val (.int p1), .val (.int ((p0 &&& (255 : Int32)).toUInt32.toUInt16.toUInt32.toInt32)), .val (.int ((((p0.toUInt32 >>> ((8 : Int32) &&& 31).toUInt32).toInt32) &&& (255 : Int32)).toUInt32.toUInt16.toUInt32.toInt32)), .val (.int ((((p0.toUInt32 >>> ((16 : Int32) &&& 31).toUInt32).toInt32) &&& (255 : Int32)).toUInt32.toUInt16.toUInt32.toInt32))] [(.int (2 : Int32)), (.int p1)])) _
            refine XS.icmpNo X0.here hx rfl (hb hby d1_65) rfl (teq hc245).2 ?_
            exact kg_
          obtain ⟨T247, h247, X247, e247, E247, A247, D247, -, st247⟩ := newO X0 hx hZ hown (hw _ (List.mem_of_getElem? (i := 4) rfl)) (hw _ (List.mem_of_getElem? (i := 5) rfl)) (hw _ (List.mem_of_getElem? (i := 6) rfl)) e0 (g := (mkF m 68 #[.val (.int p0), .val (.int p1), .val (.int ((p0 &&& (255 : Int32)).toUInt32.toUInt16.toUInt32.toInt32)), .val (.int ((((p0.toUInt32 >>> ((8 : Int32) &&& 31).toUInt32).toInt32) &&& (255 : Int32)).toUInt32.toUInt16.toUInt32.toInt32)), .val (.int ((((p0.toUInt32 >>> ((16 : Int32) &&& 31).toUInt32).toInt32) &&& (255 : Int32)).toUInt32.toUInt16.toUInt32.toInt32))] [])) rfl (hb hby d1_68) (by decide) (by decide)
          obtain ⟨b247, g247⟩ : ∃ z, z = h0.size := ⟨_, rfl⟩
          rw [← g247] at A247 D247 st247
          have CR248 : CHr Z consts_1 s.vm s.heap s.vm h247 := CR0.trans (CHr.ext E247 CR0.1)
          have hk249 : h0.size ≤ h247.size := Nat.le_trans hk0 E247.1
          have Sf247 : Safe Z consts_1 s.vm h247 b247 := Safe.ext E247 CR0.1 (Safe.new (Nat.le_of_eq g247.symm))
          have ge247 : n0 ≤ b247 := Nat.le_trans Z0 (Nat.le_of_eq g247.symm)
          have old247 : h0.size ≤ b247 := Nat.le_trans K0.1 (Nat.le_of_eq g247.symm)
          have K247 : Keep h0 h247 [] := K0.ext E247
          have F250 : Sta Z h247 "java/lang/String" "COMPACT_STRINGS" "Z" (.int zc) := S1.ext E247
          have Zs251 : n0 ≤ h247.size := Nat.le_trans Z0 E247.1
          have F252 : Fld Z h247 b247 "java/lang/String" "coder" "B" (.int (0 : Int32)) := D247 (Or.inr (hw _ (List.mem_of_getElem? (i := 31) rfl))) (ty := .byte) (by decide)
          have F253 : Fld Z h247 b247 "java/lang/String" "value" "[B" .null := D247 (Or.inr (hw _ (List.mem_of_getElem? (i := 33) rfl))) (ty := (.array .byte)) (by decide)
          have r247 : own_R p.tables e below F0 (T247.setTop (mkF m 71 #[.val (.int p0), .val (.int p1), .val (.int ((p0 &&& (255 : Int32)).toUInt32.toUInt16.toUInt32.toInt32)), .val (.int ((((p0.toUInt32 >>> ((8 : Int32) &&& 31).toUInt32).toInt32) &&& (255 : Int32)).toUInt32.toUInt16.toUInt32.toInt32)), .val (.int ((((p0.toUInt32 >>> ((16 : Int32) &&& 31).toUInt32).toInt32) &&& (255 : Int32)).toUInt32.toUInt16.toUInt32.toInt32))] [(.ref b247)])) := fun tg_ kg_ => r246 tg_ (st247 tg_ kg_)
          have r254 : own_R p.tables e below F0 (T247.setTop (mkF m 73 #[.val (.int p0), .val (.int p1), .val (.int ((p0 &&& (255 : Int32)).toUInt32.toUInt16.toUInt32.toInt32)), .val (.int ((((p0.toUInt32 >>> ((8 : Int32) &&& 31).toUInt32).toInt32) &&& (255 : Int32)).toUInt32.toUInt16.toUInt32.toInt32)), .val (.int ((((p0.toUInt32 >>> ((16 : Int32) &&& 31).toUInt32).toInt32) &&& (255 : Int32)).toUInt32.toUInt16.toUInt32.toInt32))] [(.int (2 : Int32)), (.ref b247), (.ref b247)])) := fun tg_ kg_ => by
            refine r247 tg_ ?_
            show Steps p.tables e below (T247.setTop (mkF m 71 #[.val (.int p0), .val (.int p1), .val (.int ((p0 &&& (255 : Int32)).toUInt32.toUInt16.toUInt32.toInt32)), .val (.int ((((p0.toUInt32 >>> ((8 : Int32) &&& 31).toUInt32).toInt32) &&& (255 : Int32)).toUInt32.toUInt16.toUInt32.toInt32)), .val (.int ((((p0.toUInt32 >>> ((16 : Int32) &&& 31).toUInt32).toInt32) &&& (255 : Int32)).toUInt32.toUInt16.toUInt32.toInt32))] [(.ref b247)])) _
            refine XS.dup X247.here hx rfl (hb hby d1_71) rfl rfl ?_
            show Steps p.tables e below (T247.setTop (mkF m 72 #[.val (.int p0), .val (.int p1), .val (.int ((p0 &&& (255 : Int32)).toUInt32.toUInt16.toUInt32.toInt32)), .val (.int ((((p0.toUInt32 >>> ((8 : Int32) &&& 31).toUInt32).toInt32) &&& (255 : Int32)).toUInt32.toUInt16.toUInt32.toInt32)), .val (.int ((((p0.toUInt32 >>> ((16 : Int32) &&& 31).toUInt32).toInt32) &&& (255 : Int32)).toUInt32.toUInt16.toUInt32.toInt32))] [(.ref b247), (.ref b247)])) _
            refine XS.iconst X247.here hx rfl (hb hby d1_72) ?_
            exact kg_
          obtain ⟨T255, h255, k255, X255, e255, E255, A255, st255⟩ := newP X247 hx hZ (hw _ (List.mem_of_getElem? (i := 7) rfl)) e247 (g := (mkF m 73 #[.val (.int p0), .val (.int p1), .val (.int ((p0 &&& (255 : Int32)).toUInt32.toUInt16.toUInt32.toInt32)), .val (.int ((((p0.toUInt32 >>> ((8 : Int32) &&& 31).toUInt32).toInt32) &&& (255 : Int32)).toUInt32.toUInt16.toUInt32.toInt32)), .val (.int ((((p0.toUInt32 >>> ((16 : Int32) &&& 31).toUInt32).toInt32) &&& (255 : Int32)).toUInt32.toUInt16.toUInt32.toInt32))] [(.int (2 : Int32)), (.ref b247), (.ref b247)])) rfl (hb hby d1_73) rfl (by decide) (cap := 2) (by decide) (by decide) (by decide) (by decide)
          obtain ⟨b255, g255⟩ : ∃ z, z = h247.size := ⟨_, rfl⟩
          rw [← g255] at A255 st255
          have Sf256 : Safe Z consts_1 s.vm h255 b247 := Safe.ext E255 CR248.1 Sf247
          have CR257 : CHr Z consts_1 s.vm s.heap s.vm h255 := CR248.trans (CHr.ext E255 CR248.1)
          have hk258 : h0.size ≤ h255.size := Nat.le_trans hk249 E255.1
          have Sf255 : Safe Z consts_1 s.vm h255 b255 := Safe.ext E255 CR248.1 (Safe.new (Nat.le_of_eq g255.symm))
          have ne259 : b247 ≠ b255 := Nat.ne_of_lt (Nat.lt_of_lt_of_le A247.lt (Nat.le_of_eq g255.symm))
          have ge255 : n0 ≤ b255 := Nat.le_trans Zs251 (Nat.le_of_eq g255.symm)
          have old255 : h0.size ≤ b255 := Nat.le_trans K247.1 (Nat.le_of_eq g255.symm)
          have K255 : Keep h0 h255 [] := K247.ext E255
          have F260 : Sta Z h255 "java/lang/String" "COMPACT_STRINGS" "Z" (.int zc) := F250.ext E255
          have F261 : Exa Z h255 b247 "java/lang/String" := A247.ext E255
          have F262 : Fld Z h255 b247 "java/lang/String" "coder" "B" (.int (0 : Int32)) := F252.ext E255
          have F263 : Fld Z h255 b247 "java/lang/String" "value" "[B" .null := F253.ext E255
          have Zs264 : n0 ≤ h255.size := Nat.le_trans Zs251 E255.1
          have F265 : own_Arf Z h255 b255 .char 2 (fun i => (.int ((fun _ => (0 : Int32)) i))) := by
            have q := own_Arf.new A255 (by decide)
            rw [show ((2 : Int32)).toNatClampNeg = 2 from rfl] at q
            exact q
          have r255 : own_R p.tables e below F0 (T255.setTop (mkF m 75 #[.val (.int p0), .val (.int p1), .val (.int ((p0 &&& (255 : Int32)).toUInt32.toUInt16.toUInt32.toInt32)), .val (.int ((((p0.toUInt32 >>> ((8 : Int32) &&& 31).toUInt32).toInt32) &&& (255 : Int32)).toUInt32.toUInt16.toUInt32.toInt32)), .val (.int ((((p0.toUInt32 >>> ((16 : Int32) &&& 31).toUInt32).toInt32) &&& (255 : Int32)).toUInt32.toUInt16.toUInt32.toInt32))] [(.ref b255), (.ref b247), (.ref b247)])) := fun tg_ kg_ => r254 tg_ (st255 tg_ kg_)
          have r266 : own_R p.tables e below F0 (T255.setTop (mkF m 78 #[.val (.int p0), .val (.int p1), .val (.int ((p0 &&& (255 : Int32)).toUInt32.toUInt16.toUInt32.toInt32)), .val (.int ((((p0.toUInt32 >>> ((8 : Int32) &&& 31).toUInt32).toInt32) &&& (255 : Int32)).toUInt32.toUInt16.toUInt32.toInt32)), .val (.int ((((p0.toUInt32 >>> ((16 : Int32) &&& 31).toUInt32).toInt32) &&& (255 : Int32)).toUInt32.toUInt16.toUInt32.toInt32))] [(.int ((p0 &&& (255 : Int32)).toUInt32.toUInt16.toUInt32.toInt32)), (.int (0 : Int32)), (.ref b255), (.ref b255), (.ref b247), (.ref b247)])) := fun tg_ kg_ => by
            refine r255 tg_ ?_
            show Steps p.tables e below (T255.setTop (mkF m 75 #[.val (.int p0), .val (.int p1), .val (.int ((p0 &&& (255 : Int32)).toUInt32.toUInt16.toUInt32.toInt32)), .val (.int ((((p0.toUInt32 >>> ((8 : Int32) &&& 31).toUInt32).toInt32) &&& (255 : Int32)).toUInt32.toUInt16.toUInt32.toInt32)), .val (.int ((((p0.toUInt32 >>> ((16 : Int32) &&& 31).toUInt32).toInt32) &&& (255 : Int32)).toUInt32.toUInt16.toUInt32.toInt32))] [(.ref b255), (.ref b247), (.ref b247)])) _
            refine XS.dup X255.here hx rfl (hb hby d1_75) rfl rfl ?_
            show Steps p.tables e below (T255.setTop (mkF m 76 #[.val (.int p0), .val (.int p1), .val (.int ((p0 &&& (255 : Int32)).toUInt32.toUInt16.toUInt32.toInt32)), .val (.int ((((p0.toUInt32 >>> ((8 : Int32) &&& 31).toUInt32).toInt32) &&& (255 : Int32)).toUInt32.toUInt16.toUInt32.toInt32)), .val (.int ((((p0.toUInt32 >>> ((16 : Int32) &&& 31).toUInt32).toInt32) &&& (255 : Int32)).toUInt32.toUInt16.toUInt32.toInt32))] [(.ref b255), (.ref b255), (.ref b247), (.ref b247)])) _
            refine XS.iconst X255.here hx rfl (hb hby d1_76) ?_
            show Steps p.tables e below (T255.setTop (mkF m 77 #[.val (.int p0), .val (.int p1), .val (.int ((p0 &&& (255 : Int32)).toUInt32.toUInt16.toUInt32.toInt32)), .val (.int ((((p0.toUInt32 >>> ((8 : Int32) &&& 31).toUInt32).toInt32) &&& (255 : Int32)).toUInt32.toUInt16.toUInt32.toInt32)), .val (.int ((((p0.toUInt32 >>> ((16 : Int32) &&& 31).toUInt32).toInt32) &&& (255 : Int32)).toUInt32.toUInt16.toUInt32.toInt32))] [(.int (0 : Int32)), (.ref b255), (.ref b255), (.ref b247), (.ref b247)])) _
            refine XS.iloadN X255.here hx rfl (hb hby d1_77) rfl ?_
            exact kg_
          obtain ⟨T267, h267, X267, e267, W267, V267, st267⟩ := own_stC X255 hx hZ e255 (j := (0 : Int32)) F265 (by decide) (by decide) (g := (mkF m 78 #[.val (.int p0), .val (.int p1), .val (.int ((p0 &&& (255 : Int32)).toUInt32.toUInt16.toUInt32.toInt32)), .val (.int ((((p0.toUInt32 >>> ((8 : Int32) &&& 31).toUInt32).toInt32) &&& (255 : Int32)).toUInt32.toUInt16.toUInt32.toInt32)), .val (.int ((((p0.toUInt32 >>> ((16 : Int32) &&& 31).toUInt32).toInt32) &&& (255 : Int32)).toUInt32.toUInt16.toUInt32.toInt32))] [(.int ((p0 &&& (255 : Int32)).toUInt32.toUInt16.toUInt32.toInt32)), (.int (0 : Int32)), (.ref b255), (.ref b255), (.ref b247), (.ref b247)])) rfl rfl (hb hby d1_78)
          have V267 : own_Arf Z h267 b255 .char 2 (fun i => if i = 0 then (.int (nar .char ((p0 &&& (255 : Int32)).toUInt32.toUInt16.toUInt32.toInt32))) else (.int ((fun _ => (0 : Int32)) i))) := V267
          obtain ⟨gf267, hgf267, V267'⟩ := own_nameI (g := (fun _ => (0 : Int32))) V267
          have Sf268 : Safe Z consts_1 s.vm h267 b247 := Safe.wr W267 Sf255 CR257.1 Sf256
          have Sf269 : Safe Z consts_1 s.vm h267 b255 := Safe.wr W267 Sf255 CR257.1 Sf255
          have CR270 : CHr Z consts_1 s.vm s.heap s.vm h267 := CR257.trans (CHr.wr W267 Sf255 CR257.1)
          have hk271 : h0.size ≤ h267.size := Nat.le_trans hk258 (Nat.le_of_eq W267.size.symm)
          have F272 : Sta Z h267 "java/lang/String" "COMPACT_STRINGS" "Z" (.int zc) := F260.wr W267
          have F273 : Exa Z h267 b247 "java/lang/String" := F261.wr W267
          have F274 : Fld Z h267 b247 "java/lang/String" "coder" "B" (.int (0 : Int32)) := F262.other W267 (Or.inl ne259)
          have F275 : Fld Z h267 b247 "java/lang/String" "value" "[B" .null := F263.other W267 (Or.inl ne259)
          have F276 : own_Arf Z h267 b255 .char 2 (fun i => (.int (gf267 i))) := V267'
          have Zs277 : n0 ≤ h267.size := by rw [W267.size]; exact Zs264
          have N278 := Fr.snoc X267 N0 ge255
          have K279 : Keep h0 h267 [] := K255.wr W267 (Or.inr old255)
          have r267 : own_R p.tables e below F0 (T267.setTop (mkF m 79 #[.val (.int p0), .val (.int p1), .val (.int ((p0 &&& (255 : Int32)).toUInt32.toUInt16.toUInt32.toInt32)), .val (.int ((((p0.toUInt32 >>> ((8 : Int32) &&& 31).toUInt32).toInt32) &&& (255 : Int32)).toUInt32.toUInt16.toUInt32.toInt32)), .val (.int ((((p0.toUInt32 >>> ((16 : Int32) &&& 31).toUInt32).toInt32) &&& (255 : Int32)).toUInt32.toUInt16.toUInt32.toInt32))] [(.ref b255), (.ref b247), (.ref b247)])) := fun tg_ kg_ => r266 tg_ (st267 tg_ kg_)
          have r280 : own_R p.tables e below F0 (T267.setTop (mkF m 82 #[.val (.int p0), .val (.int p1), .val (.int ((p0 &&& (255 : Int32)).toUInt32.toUInt16.toUInt32.toInt32)), .val (.int ((((p0.toUInt32 >>> ((8 : Int32) &&& 31).toUInt32).toInt32) &&& (255 : Int32)).toUInt32.toUInt16.toUInt32.toInt32)), .val (.int ((((p0.toUInt32 >>> ((16 : Int32) &&& 31).toUInt32).toInt32) &&& (255 : Int32)).toUInt32.toUInt16.toUInt32.toInt32))] [(.int ((((p0.toUInt32 >>> ((8 : Int32) &&& 31).toUInt32).toInt32) &&& (255 : Int32)).toUInt32.toUInt16.toUInt32.toInt32)), (.int (1 : Int32)), (.ref b255), (.ref b255), (.ref b247), (.ref b247)])) := fun tg_ kg_ => by
            refine r267 tg_ ?_
            show Steps p.tables e below (T267.setTop (mkF m 79 #[.val (.int p0), .val (.int p1), .val (.int ((p0 &&& (255 : Int32)).toUInt32.toUInt16.toUInt32.toInt32)), .val (.int ((((p0.toUInt32 >>> ((8 : Int32) &&& 31).toUInt32).toInt32) &&& (255 : Int32)).toUInt32.toUInt16.toUInt32.toInt32)), .val (.int ((((p0.toUInt32 >>> ((16 : Int32) &&& 31).toUInt32).toInt32) &&& (255 : Int32)).toUInt32.toUInt16.toUInt32.toInt32))] [(.ref b255), (.ref b247), (.ref b247)])) _
            refine XS.dup X267.here hx rfl (hb hby d1_79) rfl rfl ?_
            show Steps p.tables e below (T267.setTop (mkF m 80 #[.val (.int p0), .val (.int p1), .val (.int ((p0 &&& (255 : Int32)).toUInt32.toUInt16.toUInt32.toInt32)), .val (.int ((((p0.toUInt32 >>> ((8 : Int32) &&& 31).toUInt32).toInt32) &&& (255 : Int32)).toUInt32.toUInt16.toUInt32.toInt32)), .val (.int ((((p0.toUInt32 >>> ((16 : Int32) &&& 31).toUInt32).toInt32) &&& (255 : Int32)).toUInt32.toUInt16.toUInt32.toInt32))] [(.ref b255), (.ref b255), (.ref b247), (.ref b247)])) _
            refine XS.iconst X267.here hx rfl (hb hby d1_80) ?_
            show Steps p.tables e below (T267.setTop (mkF m 81 #[.val (.int p0), .val (.int p1), .val (.int ((p0 &&& (255 : Int32)).toUInt32.toUInt16.toUInt32.toInt32)), .val (.int ((((p0.toUInt32 >>> ((8 : Int32) &&& 31).toUInt32).toInt32) &&& (255 : Int32)).toUInt32.toUInt16.toUInt32.toInt32)), .val (.int ((((p0.toUInt32 >>> ((16 : Int32) &&& 31).toUInt32).toInt32) &&& (255 : Int32)).toUInt32.toUInt16.toUInt32.toInt32))] [(.int (1 : Int32)), (.ref b255), (.ref b255), (.ref b247), (.ref b247)])) _
            refine XS.iloadN X267.here hx rfl (hb hby d1_81) rfl ?_
            exact kg_
          obtain ⟨T281, h281, X281, e281, W281, V281, st281⟩ := own_stC X267 hx hZ e267 (j := (1 : Int32)) F276 (by decide) (by decide) (g := (mkF m 82 #[.val (.int p0), .val (.int p1), .val (.int ((p0 &&& (255 : Int32)).toUInt32.toUInt16.toUInt32.toInt32)), .val (.int ((((p0.toUInt32 >>> ((8 : Int32) &&& 31).toUInt32).toInt32) &&& (255 : Int32)).toUInt32.toUInt16.toUInt32.toInt32)), .val (.int ((((p0.toUInt32 >>> ((16 : Int32) &&& 31).toUInt32).toInt32) &&& (255 : Int32)).toUInt32.toUInt16.toUInt32.toInt32))] [(.int ((((p0.toUInt32 >>> ((8 : Int32) &&& 31).toUInt32).toInt32) &&& (255 : Int32)).toUInt32.toUInt16.toUInt32.toInt32)), (.int (1 : Int32)), (.ref b255), (.ref b255), (.ref b247), (.ref b247)])) rfl rfl (hb hby d1_82)
          have V281 : own_Arf Z h281 b255 .char 2 (fun i => if i = 1 then (.int (nar .char ((((p0.toUInt32 >>> ((8 : Int32) &&& 31).toUInt32).toInt32) &&& (255 : Int32)).toUInt32.toUInt16.toUInt32.toInt32))) else (.int (gf267 i))) := V281
          obtain ⟨gf281, hgf281, V281'⟩ := own_nameI (g := gf267) V281
          have Sf282 : Safe Z consts_1 s.vm h281 b247 := Safe.wr W281 Sf269 CR270.1 Sf268
          have Sf283 : Safe Z consts_1 s.vm h281 b255 := Safe.wr W281 Sf269 CR270.1 Sf269
          have CR284 : CHr Z consts_1 s.vm s.heap s.vm h281 := CR270.trans (CHr.wr W281 Sf269 CR270.1)
          have hk285 : h0.size ≤ h281.size := Nat.le_trans hk271 (Nat.le_of_eq W281.size.symm)
          have F286 : Sta Z h281 "java/lang/String" "COMPACT_STRINGS" "Z" (.int zc) := F272.wr W281
          have F287 : Exa Z h281 b247 "java/lang/String" := F273.wr W281
          have F288 : Fld Z h281 b247 "java/lang/String" "coder" "B" (.int (0 : Int32)) := F274.other W281 (Or.inl ne259)
          have F289 : Fld Z h281 b247 "java/lang/String" "value" "[B" .null := F275.other W281 (Or.inl ne259)
          have F290 : own_Arf Z h281 b255 .char 2 (fun i => (.int (gf281 i))) := V281'
          have Zs291 : n0 ≤ h281.size := by rw [W281.size]; exact Zs277
          have N292 := Fr.snoc X281 N278 ge255
          have K293 : Keep h0 h281 [] := K279.wr W281 (Or.inr old255)
          have r281 : own_R p.tables e below F0 (T281.setTop (mkF m 83 #[.val (.int p0), .val (.int p1), .val (.int ((p0 &&& (255 : Int32)).toUInt32.toUInt16.toUInt32.toInt32)), .val (.int ((((p0.toUInt32 >>> ((8 : Int32) &&& 31).toUInt32).toInt32) &&& (255 : Int32)).toUInt32.toUInt16.toUInt32.toInt32)), .val (.int ((((p0.toUInt32 >>> ((16 : Int32) &&& 31).toUInt32).toInt32) &&& (255 : Int32)).toUInt32.toUInt16.toUInt32.toInt32))] [(.ref b255), (.ref b247), (.ref b247)])) := fun tg_ kg_ => r280 tg_ (st281 tg_ kg_)
          obtain ⟨_, _, ⟨T294, L294, k294, n294⟩, -, X294, ⟨Lc294, hQ294, l294, y294, z294⟩, st294⟩ := X281.specialBack hx (y := (⟨"java/lang/String", "<init>", "([C)V"⟩ : MethodName)) rfl hown (mvT hZ (hw _ (List.mem_of_getElem? (i := 8) rfl))) (mvT hZ (hw _ (List.mem_of_getElem? (i := 9) rfl))) (mvT hZ (hw _ (List.mem_of_getElem? (i := 10) rfl))) (by decide) (backOf (W := 1) (rm2n l Z a0 hw [] b247 b255 (2) (gf281) (zc) h281 n0 Zs291 F287 F289 F288 ge247 F290 (by decide) (own_chS hgf281 (own_chV _) (own_chS hgf267 (own_chV _) own_ch0)) ne259 F286 hzc) hZ (hw _ (List.mem_of_getElem? (i := 10) rfl)) (hw _ (List.mem_of_getElem? (i := 6) rfl)) (by decide) (by decide)) (g := (mkF m 83 #[.val (.int p0), .val (.int p1), .val (.int ((p0 &&& (255 : Int32)).toUInt32.toUInt16.toUInt32.toInt32)), .val (.int ((((p0.toUInt32 >>> ((8 : Int32) &&& 31).toUInt32).toInt32) &&& (255 : Int32)).toUInt32.toUInt16.toUInt32.toInt32)), .val (.int ((((p0.toUInt32 >>> ((16 : Int32) &&& 31).toUInt32).toInt32) &&& (255 : Int32)).toUInt32.toUInt16.toUInt32.toInt32))] [(.ref b255), (.ref b247), (.ref b247)])) rfl (by rw [hml]; rfl) (Steps.refl _) (a := b247) (argsL := [(.ref b255)]) (rest := [(.ref b247)]) (lenOf pd_4 rfl) rfl (by show 2 * 0 + _ ≤ _; exact Nat.le_of_eq rfl) (hb hby d1_83) (fun _ _ => ⟨rfl, e281, (by decide : 2 + 1 ≤ _), (by decide : 6 + 3 ≤ _)⟩)
          dsimp only [Pt.U, Pt.locs, Pt.cells, Pt.slots] at X294 l294 y294 z294 st294 hQ294
          subst l294 y294 z294
          obtain ⟨bb_294, gx_294, rfl, N294q, I294_0, I294_1, I294_2, I294_3⟩ := hQ294
          have N294 := Fr.app N292 N294q
          obtain ⟨h294, e294⟩ : ∃ z, T294.heap = z := ⟨_, rfl⟩
          rw [e294] at I294_0 I294_1 I294_2 I294_3
          have F297 : own_Arf Z h294 b255 .char 2 (fun i => (.int (gf281 i))) := F290.keep I294_0 (ninS (Ne.symm ne259) nin0)
          have K298 : Keep h0 h294 [] := K293.trans I294_0 (allS (Or.inr old247) all0)
          have Zs299 : n0 ≤ h294.size := Nat.le_trans Zs291 I294_0.1
          have Sf300 : Safe Z consts_1 s.vm h294 b247 := Safe.keep I294_0 (sfS Sf282 sf0) CR284.1 Sf282
          have Sf301 : Safe Z consts_1 s.vm h294 b255 := Safe.keep I294_0 (sfS Sf282 sf0) CR284.1 Sf283
          have CR302 : CHr Z consts_1 s.vm s.heap s.vm h294 := CR284.trans (CHr.keep I294_0 (sfS Sf282 sf0) CR284.1)
          have hk303 : h0.size ≤ h294.size := Nat.le_trans hk285 I294_0.1
          have r294 : own_R p.tables e below F0 (T294.setTop (mkF m 86 #[.val (.int p0), .val (.int p1), .val (.int ((p0 &&& (255 : Int32)).toUInt32.toUInt16.toUInt32.toInt32)), .val (.int ((((p0.toUInt32 >>> ((8 : Int32) &&& 31).toUInt32).toInt32) &&& (255 : Int32)).toUInt32.toUInt16.toUInt32.toInt32)), .val (.int ((((p0.toUInt32 >>> ((16 : Int32) &&& 31).toUInt32).toInt32) &&& (255 : Int32)).toUInt32.toUInt16.toUInt32.toInt32))] [(.ref b247)])) := fun tg_ kg_ => r281 tg_ (st294.trans kg_)
          refine hG (own_finW X294 hS0 (Nat.le_trans hk303 (Nat.le_of_eq (by rw [e294]))) hlk hZ hEL (by rw [e294]; exact CR302) (some (.ref b247)) (own_hv Bd.returns) ?_ (by decide) (by decide) (fun fs hr => r294 _ (retOut X294 hx Bd.returns rfl (Or.inr (Or.inr (Or.inr (Or.inr ⟨rfl, rfl, rfl⟩)))) (hb hby d1_86) hr)))
          rw [e294]
          refine ⟨b247, bb_294, 2, gx_294, ?_, N294, K298, old247, I294_1, I294_2, I294_3, (by
                        have q67_r := own_R32 p1
                        have q68_e : (0 : Int32).toInt = 0 := (by decide)
                        have q68_r : (0 : Int) ≤ (0 : Int32).toInt ∧ (0 : Int32).toInt ≤ 0 := ⟨Int.le_of_eq q68_e.symm, Int.le_of_eq q68_e⟩
                        have q69_e : (1 : Int32).toInt = 1 := (by decide)
                        have q69_r : (1 : Int) ≤ (1 : Int32).toInt ∧ (1 : Int32).toInt ≤ 1 := ⟨Int.le_of_eq q69_e.symm, Int.le_of_eq q69_e⟩
                        have q70_e : (2 : Int32).toInt = 2 := (by decide)
                        have q70_r : (2 : Int) ≤ (2 : Int32).toInt ∧ (2 : Int32).toInt ≤ 2 := ⟨Int.le_of_eq q70_e.symm, Int.le_of_eq q70_e⟩
                        have q71_c := own_ne32 hc167
                        have q72_c := own_ne32 hc199
                        have q73_c := own_eq32 hc245
                        omega)⟩
          rfl
        · have r304 : own_R p.tables e below F0 (s₁.setTop (mkF m 87 #[.val (.int p0), .val (.int p1), .val (.int ((p0 &&& (255 : Int32)).toUInt32.toUInt16.toUInt32.toInt32)), .val (.int ((((p0.toUInt32 >>> ((8 : Int32) &&& 31).toUInt32).toInt32) &&& (255 : Int32)).toUInt32.toUInt16.toUInt32.toInt32)), .val (.int ((((p0.toUInt32 >>> ((16 : Int32) &&& 31).toUInt32).toInt32) &&& (255 : Int32)).toUInt32.toUInt16.toUInt32.toInt32))] [])) := fun tg_ kg_ => by
            refine r244 tg_ ?_
            show Steps p.tables e below (s₁.setTop (mkF m 65 #[.val (.int p0), .val (.int p1), .val (.int ((p0 &&& (255 : Int32)).toUInt32.toUInt16.toUInt32.toInt32)), .val (.int ((((p0.toUInt32 >>> ((8 : Int32) &&& 31).toUInt32).toInt32) &&& (255 : Int32)).toUInt32.toUInt16.toUInt32.toInt32)), .val (.int ((((p0.toUInt32 >>> ((16 : Int32) &&& 31).toUInt32).toInt32) &&& (255 : Int32)).toUInt32.toUInt16.toUInt32.toInt32))] [(.int (2 : Int32)), (.int p1)])) _
            refine XS.icmpYes X0.here hx rfl (pc0 := 65) (pc' := 87) rfl (hb hby d1_65) rfl (feq hc245).2 (by decide) (by decide) ?_
            exact kg_
          obtain ⟨T305, h305, X305, e305, E305, A305, D305, -, st305⟩ := newO X0 hx hZ hown (hw _ (List.mem_of_getElem? (i := 4) rfl)) (hw _ (List.mem_of_getElem? (i := 5) rfl)) (hw _ (List.mem_of_getElem? (i := 6) rfl)) e0 (g := (mkF m 87 #[.val (.int p0), .val (.int p1), .val (.int ((p0 &&& (255 : Int32)).toUInt32.toUInt16.toUInt32.toInt32)), .val (.int ((((p0.toUInt32 >>> ((8 : Int32) &&& 31).toUInt32).toInt32) &&& (255 : Int32)).toUInt32.toUInt16.toUInt32.toInt32)), .val (.int ((((p0.toUInt32 >>> ((16 : Int32) &&& 31).toUInt32).toInt32) &&& (255 : Int32)).toUInt32.toUInt16.toUInt32.toInt32))] [])) rfl (hb hby d1_87) (by decide) (by decide)
          obtain ⟨b305, g305⟩ : ∃ z, z = h0.size := ⟨_, rfl⟩
          rw [← g305] at A305 D305 st305
          have CR306 : CHr Z consts_1 s.vm s.heap s.vm h305 := CR0.trans (CHr.ext E305 CR0.1)
          have hk307 : h0.size ≤ h305.size := Nat.le_trans hk0 E305.1
          have Sf305 : Safe Z consts_1 s.vm h305 b305 := Safe.ext E305 CR0.1 (Safe.new (Nat.le_of_eq g305.symm))
          have ge305 : n0 ≤ b305 := Nat.le_trans Z0 (Nat.le_of_eq g305.symm)
          have old305 : h0.size ≤ b305 := Nat.le_trans K0.1 (Nat.le_of_eq g305.symm)
          have K305 : Keep h0 h305 [] := K0.ext E305
          have F308 : Sta Z h305 "java/lang/String" "COMPACT_STRINGS" "Z" (.int zc) := S1.ext E305
          have Zs309 : n0 ≤ h305.size := Nat.le_trans Z0 E305.1
          have F310 : Fld Z h305 b305 "java/lang/String" "coder" "B" (.int (0 : Int32)) := D305 (Or.inr (hw _ (List.mem_of_getElem? (i := 31) rfl))) (ty := .byte) (by decide)
          have F311 : Fld Z h305 b305 "java/lang/String" "value" "[B" .null := D305 (Or.inr (hw _ (List.mem_of_getElem? (i := 33) rfl))) (ty := (.array .byte)) (by decide)
          have r305 : own_R p.tables e below F0 (T305.setTop (mkF m 90 #[.val (.int p0), .val (.int p1), .val (.int ((p0 &&& (255 : Int32)).toUInt32.toUInt16.toUInt32.toInt32)), .val (.int ((((p0.toUInt32 >>> ((8 : Int32) &&& 31).toUInt32).toInt32) &&& (255 : Int32)).toUInt32.toUInt16.toUInt32.toInt32)), .val (.int ((((p0.toUInt32 >>> ((16 : Int32) &&& 31).toUInt32).toInt32) &&& (255 : Int32)).toUInt32.toUInt16.toUInt32.toInt32))] [(.ref b305)])) := fun tg_ kg_ => r304 tg_ (st305 tg_ kg_)
          have r312 : own_R p.tables e below F0 (T305.setTop (mkF m 92 #[.val (.int p0), .val (.int p1), .val (.int ((p0 &&& (255 : Int32)).toUInt32.toUInt16.toUInt32.toInt32)), .val (.int ((((p0.toUInt32 >>> ((8 : Int32) &&& 31).toUInt32).toInt32) &&& (255 : Int32)).toUInt32.toUInt16.toUInt32.toInt32)), .val (.int ((((p0.toUInt32 >>> ((16 : Int32) &&& 31).toUInt32).toInt32) &&& (255 : Int32)).toUInt32.toUInt16.toUInt32.toInt32))] [(.int (3 : Int32)), (.ref b305), (.ref b305)])) := fun tg_ kg_ => by
            refine r305 tg_ ?_
            show Steps p.tables e below (T305.setTop (mkF m 90 #[.val (.int p0), .val (.int p1), .val (.int ((p0 &&& (255 : Int32)).toUInt32.toUInt16.toUInt32.toInt32)), .val (.int ((((p0.toUInt32 >>> ((8 : Int32) &&& 31).toUInt32).toInt32) &&& (255 : Int32)).toUInt32.toUInt16.toUInt32.toInt32)), .val (.int ((((p0.toUInt32 >>> ((16 : Int32) &&& 31).toUInt32).toInt32) &&& (255 : Int32)).toUInt32.toUInt16.toUInt32.toInt32))] [(.ref b305)])) _
            refine XS.dup X305.here hx rfl (hb hby d1_90) rfl rfl ?_
            show Steps p.tables e below (T305.setTop (mkF m 91 #[.val (.int p0), .val (.int p1), .val (.int ((p0 &&& (255 : Int32)).toUInt32.toUInt16.toUInt32.toInt32)), .val (.int ((((p0.toUInt32 >>> ((8 : Int32) &&& 31).toUInt32).toInt32) &&& (255 : Int32)).toUInt32.toUInt16.toUInt32.toInt32)), .val (.int ((((p0.toUInt32 >>> ((16 : Int32) &&& 31).toUInt32).toInt32) &&& (255 : Int32)).toUInt32.toUInt16.toUInt32.toInt32))] [(.ref b305), (.ref b305)])) _
            refine XS.iconst X305.here hx rfl (hb hby d1_91) ?_
            exact kg_
          obtain ⟨T313, h313, k313, X313, e313, E313, A313, st313⟩ := newP X305 hx hZ (hw _ (List.mem_of_getElem? (i := 7) rfl)) e305 (g := (mkF m 92 #[.val (.int p0), .val (.int p1), .val (.int ((p0 &&& (255 : Int32)).toUInt32.toUInt16.toUInt32.toInt32)), .val (.int ((((p0.toUInt32 >>> ((8 : Int32) &&& 31).toUInt32).toInt32) &&& (255 : Int32)).toUInt32.toUInt16.toUInt32.toInt32)), .val (.int ((((p0.toUInt32 >>> ((16 : Int32) &&& 31).toUInt32).toInt32) &&& (255 : Int32)).toUInt32.toUInt16.toUInt32.toInt32))] [(.int (3 : Int32)), (.ref b305), (.ref b305)])) rfl (hb hby d1_92) rfl (by decide) (cap := 3) (by decide) (by decide) (by decide) (by decide)
          obtain ⟨b313, g313⟩ : ∃ z, z = h305.size := ⟨_, rfl⟩
          rw [← g313] at A313 st313
          have Sf314 : Safe Z consts_1 s.vm h313 b305 := Safe.ext E313 CR306.1 Sf305
          have CR315 : CHr Z consts_1 s.vm s.heap s.vm h313 := CR306.trans (CHr.ext E313 CR306.1)
          have hk316 : h0.size ≤ h313.size := Nat.le_trans hk307 E313.1
          have Sf313 : Safe Z consts_1 s.vm h313 b313 := Safe.ext E313 CR306.1 (Safe.new (Nat.le_of_eq g313.symm))
          have ne317 : b305 ≠ b313 := Nat.ne_of_lt (Nat.lt_of_lt_of_le A305.lt (Nat.le_of_eq g313.symm))
          have ge313 : n0 ≤ b313 := Nat.le_trans Zs309 (Nat.le_of_eq g313.symm)
          have old313 : h0.size ≤ b313 := Nat.le_trans K305.1 (Nat.le_of_eq g313.symm)
          have K313 : Keep h0 h313 [] := K305.ext E313
          have F318 : Sta Z h313 "java/lang/String" "COMPACT_STRINGS" "Z" (.int zc) := F308.ext E313
          have F319 : Exa Z h313 b305 "java/lang/String" := A305.ext E313
          have F320 : Fld Z h313 b305 "java/lang/String" "coder" "B" (.int (0 : Int32)) := F310.ext E313
          have F321 : Fld Z h313 b305 "java/lang/String" "value" "[B" .null := F311.ext E313
          have Zs322 : n0 ≤ h313.size := Nat.le_trans Zs309 E313.1
          have F323 : own_Arf Z h313 b313 .char 3 (fun i => (.int ((fun _ => (0 : Int32)) i))) := by
            have q := own_Arf.new A313 (by decide)
            rw [show ((3 : Int32)).toNatClampNeg = 3 from rfl] at q
            exact q
          have r313 : own_R p.tables e below F0 (T313.setTop (mkF m 94 #[.val (.int p0), .val (.int p1), .val (.int ((p0 &&& (255 : Int32)).toUInt32.toUInt16.toUInt32.toInt32)), .val (.int ((((p0.toUInt32 >>> ((8 : Int32) &&& 31).toUInt32).toInt32) &&& (255 : Int32)).toUInt32.toUInt16.toUInt32.toInt32)), .val (.int ((((p0.toUInt32 >>> ((16 : Int32) &&& 31).toUInt32).toInt32) &&& (255 : Int32)).toUInt32.toUInt16.toUInt32.toInt32))] [(.ref b313), (.ref b305), (.ref b305)])) := fun tg_ kg_ => r312 tg_ (st313 tg_ kg_)
          have r324 : own_R p.tables e below F0 (T313.setTop (mkF m 97 #[.val (.int p0), .val (.int p1), .val (.int ((p0 &&& (255 : Int32)).toUInt32.toUInt16.toUInt32.toInt32)), .val (.int ((((p0.toUInt32 >>> ((8 : Int32) &&& 31).toUInt32).toInt32) &&& (255 : Int32)).toUInt32.toUInt16.toUInt32.toInt32)), .val (.int ((((p0.toUInt32 >>> ((16 : Int32) &&& 31).toUInt32).toInt32) &&& (255 : Int32)).toUInt32.toUInt16.toUInt32.toInt32))] [(.int ((p0 &&& (255 : Int32)).toUInt32.toUInt16.toUInt32.toInt32)), (.int (0 : Int32)), (.ref b313), (.ref b313), (.ref b305), (.ref b305)])) := fun tg_ kg_ => by
            refine r313 tg_ ?_
            show Steps p.tables e below (T313.setTop (mkF m 94 #[.val (.int p0), .val (.int p1), .val (.int ((p0 &&& (255 : Int32)).toUInt32.toUInt16.toUInt32.toInt32)), .val (.int ((((p0.toUInt32 >>> ((8 : Int32) &&& 31).toUInt32).toInt32) &&& (255 : Int32)).toUInt32.toUInt16.toUInt32.toInt32)), .val (.int ((((p0.toUInt32 >>> ((16 : Int32) &&& 31).toUInt32).toInt32) &&& (255 : Int32)).toUInt32.toUInt16.toUInt32.toInt32))] [(.ref b313), (.ref b305), (.ref b305)])) _
            refine XS.dup X313.here hx rfl (hb hby d1_94) rfl rfl ?_
            show Steps p.tables e below (T313.setTop (mkF m 95 #[.val (.int p0), .val (.int p1), .val (.int ((p0 &&& (255 : Int32)).toUInt32.toUInt16.toUInt32.toInt32)), .val (.int ((((p0.toUInt32 >>> ((8 : Int32) &&& 31).toUInt32).toInt32) &&& (255 : Int32)).toUInt32.toUInt16.toUInt32.toInt32)), .val (.int ((((p0.toUInt32 >>> ((16 : Int32) &&& 31).toUInt32).toInt32) &&& (255 : Int32)).toUInt32.toUInt16.toUInt32.toInt32))] [(.ref b313), (.ref b313), (.ref b305), (.ref b305)])) _
            refine XS.iconst X313.here hx rfl (hb hby d1_95) ?_
            show Steps p.tables e below (T313.setTop (mkF m 96 #[.val (.int p0), .val (.int p1), .val (.int ((p0 &&& (255 : Int32)).toUInt32.toUInt16.toUInt32.toInt32)), .val (.int ((((p0.toUInt32 >>> ((8 : Int32) &&& 31).toUInt32).toInt32) &&& (255 : Int32)).toUInt32.toUInt16.toUInt32.toInt32)), .val (.int ((((p0.toUInt32 >>> ((16 : Int32) &&& 31).toUInt32).toInt32) &&& (255 : Int32)).toUInt32.toUInt16.toUInt32.toInt32))] [(.int (0 : Int32)), (.ref b313), (.ref b313), (.ref b305), (.ref b305)])) _
            refine XS.iloadN X313.here hx rfl (hb hby d1_96) rfl ?_
            exact kg_
          obtain ⟨T325, h325, X325, e325, W325, V325, st325⟩ := own_stC X313 hx hZ e313 (j := (0 : Int32)) F323 (by decide) (by decide) (g := (mkF m 97 #[.val (.int p0), .val (.int p1), .val (.int ((p0 &&& (255 : Int32)).toUInt32.toUInt16.toUInt32.toInt32)), .val (.int ((((p0.toUInt32 >>> ((8 : Int32) &&& 31).toUInt32).toInt32) &&& (255 : Int32)).toUInt32.toUInt16.toUInt32.toInt32)), .val (.int ((((p0.toUInt32 >>> ((16 : Int32) &&& 31).toUInt32).toInt32) &&& (255 : Int32)).toUInt32.toUInt16.toUInt32.toInt32))] [(.int ((p0 &&& (255 : Int32)).toUInt32.toUInt16.toUInt32.toInt32)), (.int (0 : Int32)), (.ref b313), (.ref b313), (.ref b305), (.ref b305)])) rfl rfl (hb hby d1_97)
          have V325 : own_Arf Z h325 b313 .char 3 (fun i => if i = 0 then (.int (nar .char ((p0 &&& (255 : Int32)).toUInt32.toUInt16.toUInt32.toInt32))) else (.int ((fun _ => (0 : Int32)) i))) := V325
          obtain ⟨gf325, hgf325, V325'⟩ := own_nameI (g := (fun _ => (0 : Int32))) V325
          have Sf326 : Safe Z consts_1 s.vm h325 b305 := Safe.wr W325 Sf313 CR315.1 Sf314
          have Sf327 : Safe Z consts_1 s.vm h325 b313 := Safe.wr W325 Sf313 CR315.1 Sf313
          have CR328 : CHr Z consts_1 s.vm s.heap s.vm h325 := CR315.trans (CHr.wr W325 Sf313 CR315.1)
          have hk329 : h0.size ≤ h325.size := Nat.le_trans hk316 (Nat.le_of_eq W325.size.symm)
          have F330 : Sta Z h325 "java/lang/String" "COMPACT_STRINGS" "Z" (.int zc) := F318.wr W325
          have F331 : Exa Z h325 b305 "java/lang/String" := F319.wr W325
          have F332 : Fld Z h325 b305 "java/lang/String" "coder" "B" (.int (0 : Int32)) := F320.other W325 (Or.inl ne317)
          have F333 : Fld Z h325 b305 "java/lang/String" "value" "[B" .null := F321.other W325 (Or.inl ne317)
          have F334 : own_Arf Z h325 b313 .char 3 (fun i => (.int (gf325 i))) := V325'
          have Zs335 : n0 ≤ h325.size := by rw [W325.size]; exact Zs322
          have N336 := Fr.snoc X325 N0 ge313
          have K337 : Keep h0 h325 [] := K313.wr W325 (Or.inr old313)
          have r325 : own_R p.tables e below F0 (T325.setTop (mkF m 98 #[.val (.int p0), .val (.int p1), .val (.int ((p0 &&& (255 : Int32)).toUInt32.toUInt16.toUInt32.toInt32)), .val (.int ((((p0.toUInt32 >>> ((8 : Int32) &&& 31).toUInt32).toInt32) &&& (255 : Int32)).toUInt32.toUInt16.toUInt32.toInt32)), .val (.int ((((p0.toUInt32 >>> ((16 : Int32) &&& 31).toUInt32).toInt32) &&& (255 : Int32)).toUInt32.toUInt16.toUInt32.toInt32))] [(.ref b313), (.ref b305), (.ref b305)])) := fun tg_ kg_ => r324 tg_ (st325 tg_ kg_)
          have r338 : own_R p.tables e below F0 (T325.setTop (mkF m 101 #[.val (.int p0), .val (.int p1), .val (.int ((p0 &&& (255 : Int32)).toUInt32.toUInt16.toUInt32.toInt32)), .val (.int ((((p0.toUInt32 >>> ((8 : Int32) &&& 31).toUInt32).toInt32) &&& (255 : Int32)).toUInt32.toUInt16.toUInt32.toInt32)), .val (.int ((((p0.toUInt32 >>> ((16 : Int32) &&& 31).toUInt32).toInt32) &&& (255 : Int32)).toUInt32.toUInt16.toUInt32.toInt32))] [(.int ((((p0.toUInt32 >>> ((8 : Int32) &&& 31).toUInt32).toInt32) &&& (255 : Int32)).toUInt32.toUInt16.toUInt32.toInt32)), (.int (1 : Int32)), (.ref b313), (.ref b313), (.ref b305), (.ref b305)])) := fun tg_ kg_ => by
            refine r325 tg_ ?_
            show Steps p.tables e below (T325.setTop (mkF m 98 #[.val (.int p0), .val (.int p1), .val (.int ((p0 &&& (255 : Int32)).toUInt32.toUInt16.toUInt32.toInt32)), .val (.int ((((p0.toUInt32 >>> ((8 : Int32) &&& 31).toUInt32).toInt32) &&& (255 : Int32)).toUInt32.toUInt16.toUInt32.toInt32)), .val (.int ((((p0.toUInt32 >>> ((16 : Int32) &&& 31).toUInt32).toInt32) &&& (255 : Int32)).toUInt32.toUInt16.toUInt32.toInt32))] [(.ref b313), (.ref b305), (.ref b305)])) _
            refine XS.dup X325.here hx rfl (hb hby d1_98) rfl rfl ?_
            show Steps p.tables e below (T325.setTop (mkF m 99 #[.val (.int p0), .val (.int p1), .val (.int ((p0 &&& (255 : Int32)).toUInt32.toUInt16.toUInt32.toInt32)), .val (.int ((((p0.toUInt32 >>> ((8 : Int32) &&& 31).toUInt32).toInt32) &&& (255 : Int32)).toUInt32.toUInt16.toUInt32.toInt32)), .val (.int ((((p0.toUInt32 >>> ((16 : Int32) &&& 31).toUInt32).toInt32) &&& (255 : Int32)).toUInt32.toUInt16.toUInt32.toInt32))] [(.ref b313), (.ref b313), (.ref b305), (.ref b305)])) _
            refine XS.iconst X325.here hx rfl (hb hby d1_99) ?_
            show Steps p.tables e below (T325.setTop (mkF m 100 #[.val (.int p0), .val (.int p1), .val (.int ((p0 &&& (255 : Int32)).toUInt32.toUInt16.toUInt32.toInt32)), .val (.int ((((p0.toUInt32 >>> ((8 : Int32) &&& 31).toUInt32).toInt32) &&& (255 : Int32)).toUInt32.toUInt16.toUInt32.toInt32)), .val (.int ((((p0.toUInt32 >>> ((16 : Int32) &&& 31).toUInt32).toInt32) &&& (255 : Int32)).toUInt32.toUInt16.toUInt32.toInt32))] [(.int (1 : Int32)), (.ref b313), (.ref b313), (.ref b305), (.ref b305)])) _
            refine XS.iloadN X325.here hx rfl (hb hby d1_100) rfl ?_
            exact kg_
          obtain ⟨T339, h339, X339, e339, W339, V339, st339⟩ := own_stC X325 hx hZ e325 (j := (1 : Int32)) F334 (by decide) (by decide) (g := (mkF m 101 #[.val (.int p0), .val (.int p1), .val (.int ((p0 &&& (255 : Int32)).toUInt32.toUInt16.toUInt32.toInt32)), .val (.int ((((p0.toUInt32 >>> ((8 : Int32) &&& 31).toUInt32).toInt32) &&& (255 : Int32)).toUInt32.toUInt16.toUInt32.toInt32)), .val (.int ((((p0.toUInt32 >>> ((16 : Int32) &&& 31).toUInt32).toInt32) &&& (255 : Int32)).toUInt32.toUInt16.toUInt32.toInt32))] [(.int ((((p0.toUInt32 >>> ((8 : Int32) &&& 31).toUInt32).toInt32) &&& (255 : Int32)).toUInt32.toUInt16.toUInt32.toInt32)), (.int (1 : Int32)), (.ref b313), (.ref b313), (.ref b305), (.ref b305)])) rfl rfl (hb hby d1_101)
          have V339 : own_Arf Z h339 b313 .char 3 (fun i => if i = 1 then (.int (nar .char ((((p0.toUInt32 >>> ((8 : Int32) &&& 31).toUInt32).toInt32) &&& (255 : Int32)).toUInt32.toUInt16.toUInt32.toInt32))) else (.int (gf325 i))) := V339
          obtain ⟨gf339, hgf339, V339'⟩ := own_nameI (g := gf325) V339
          have Sf340 : Safe Z consts_1 s.vm h339 b305 := Safe.wr W339 Sf327 CR328.1 Sf326
          have Sf341 : Safe Z consts_1 s.vm h339 b313 := Safe.wr W339 Sf327 CR328.1 Sf327
          have CR342 : CHr Z consts_1 s.vm s.heap s.vm h339 := CR328.trans (CHr.wr W339 Sf327 CR328.1)
          have hk343 : h0.size ≤ h339.size := Nat.le_trans hk329 (Nat.le_of_eq W339.size.symm)
          have F344 : Sta Z h339 "java/lang/String" "COMPACT_STRINGS" "Z" (.int zc) := F330.wr W339
          have F345 : Exa Z h339 b305 "java/lang/String" := F331.wr W339
          have F346 : Fld Z h339 b305 "java/lang/String" "coder" "B" (.int (0 : Int32)) := F332.other W339 (Or.inl ne317)
          have F347 : Fld Z h339 b305 "java/lang/String" "value" "[B" .null := F333.other W339 (Or.inl ne317)
          have F348 : own_Arf Z h339 b313 .char 3 (fun i => (.int (gf339 i))) := V339'
          have Zs349 : n0 ≤ h339.size := by rw [W339.size]; exact Zs335
          have N350 := Fr.snoc X339 N336 ge313
          have K351 : Keep h0 h339 [] := K337.wr W339 (Or.inr old313)
          have r339 : own_R p.tables e below F0 (T339.setTop (mkF m 102 #[.val (.int p0), .val (.int p1), .val (.int ((p0 &&& (255 : Int32)).toUInt32.toUInt16.toUInt32.toInt32)), .val (.int ((((p0.toUInt32 >>> ((8 : Int32) &&& 31).toUInt32).toInt32) &&& (255 : Int32)).toUInt32.toUInt16.toUInt32.toInt32)), .val (.int ((((p0.toUInt32 >>> ((16 : Int32) &&& 31).toUInt32).toInt32) &&& (255 : Int32)).toUInt32.toUInt16.toUInt32.toInt32))] [(.ref b313), (.ref b305), (.ref b305)])) := fun tg_ kg_ => r338 tg_ (st339 tg_ kg_)
          have r352 : own_R p.tables e below F0 (T339.setTop (mkF m 106 #[.val (.int p0), .val (.int p1), .val (.int ((p0 &&& (255 : Int32)).toUInt32.toUInt16.toUInt32.toInt32)), .val (.int ((((p0.toUInt32 >>> ((8 : Int32) &&& 31).toUInt32).toInt32) &&& (255 : Int32)).toUInt32.toUInt16.toUInt32.toInt32)), .val (.int ((((p0.toUInt32 >>> ((16 : Int32) &&& 31).toUInt32).toInt32) &&& (255 : Int32)).toUInt32.toUInt16.toUInt32.toInt32))] [(.int ((((p0.toUInt32 >>> ((16 : Int32) &&& 31).toUInt32).toInt32) &&& (255 : Int32)).toUInt32.toUInt16.toUInt32.toInt32)), (.int (2 : Int32)), (.ref b313), (.ref b313), (.ref b305), (.ref b305)])) := fun tg_ kg_ => by
            refine r339 tg_ ?_
            show Steps p.tables e below (T339.setTop (mkF m 102 #[.val (.int p0), .val (.int p1), .val (.int ((p0 &&& (255 : Int32)).toUInt32.toUInt16.toUInt32.toInt32)), .val (.int ((((p0.toUInt32 >>> ((8 : Int32) &&& 31).toUInt32).toInt32) &&& (255 : Int32)).toUInt32.toUInt16.toUInt32.toInt32)), .val (.int ((((p0.toUInt32 >>> ((16 : Int32) &&& 31).toUInt32).toInt32) &&& (255 : Int32)).toUInt32.toUInt16.toUInt32.toInt32))] [(.ref b313), (.ref b305), (.ref b305)])) _
            refine XS.dup X339.here hx rfl (hb hby d1_102) rfl rfl ?_
            show Steps p.tables e below (T339.setTop (mkF m 103 #[.val (.int p0), .val (.int p1), .val (.int ((p0 &&& (255 : Int32)).toUInt32.toUInt16.toUInt32.toInt32)), .val (.int ((((p0.toUInt32 >>> ((8 : Int32) &&& 31).toUInt32).toInt32) &&& (255 : Int32)).toUInt32.toUInt16.toUInt32.toInt32)), .val (.int ((((p0.toUInt32 >>> ((16 : Int32) &&& 31).toUInt32).toInt32) &&& (255 : Int32)).toUInt32.toUInt16.toUInt32.toInt32))] [(.ref b313), (.ref b313), (.ref b305), (.ref b305)])) _
            refine XS.iconst X339.here hx rfl (hb hby d1_103) ?_
            show Steps p.tables e below (T339.setTop (mkF m 104 #[.val (.int p0), .val (.int p1), .val (.int ((p0 &&& (255 : Int32)).toUInt32.toUInt16.toUInt32.toInt32)), .val (.int ((((p0.toUInt32 >>> ((8 : Int32) &&& 31).toUInt32).toInt32) &&& (255 : Int32)).toUInt32.toUInt16.toUInt32.toInt32)), .val (.int ((((p0.toUInt32 >>> ((16 : Int32) &&& 31).toUInt32).toInt32) &&& (255 : Int32)).toUInt32.toUInt16.toUInt32.toInt32))] [(.int (2 : Int32)), (.ref b313), (.ref b313), (.ref b305), (.ref b305)])) _
            refine XS.iload X339.here hx rfl (hb hby d1_104) rfl ?_
            exact kg_
          obtain ⟨T353, h353, X353, e353, W353, V353, st353⟩ := own_stC X339 hx hZ e339 (j := (2 : Int32)) F348 (by decide) (by decide) (g := (mkF m 106 #[.val (.int p0), .val (.int p1), .val (.int ((p0 &&& (255 : Int32)).toUInt32.toUInt16.toUInt32.toInt32)), .val (.int ((((p0.toUInt32 >>> ((8 : Int32) &&& 31).toUInt32).toInt32) &&& (255 : Int32)).toUInt32.toUInt16.toUInt32.toInt32)), .val (.int ((((p0.toUInt32 >>> ((16 : Int32) &&& 31).toUInt32).toInt32) &&& (255 : Int32)).toUInt32.toUInt16.toUInt32.toInt32))] [(.int ((((p0.toUInt32 >>> ((16 : Int32) &&& 31).toUInt32).toInt32) &&& (255 : Int32)).toUInt32.toUInt16.toUInt32.toInt32)), (.int (2 : Int32)), (.ref b313), (.ref b313), (.ref b305), (.ref b305)])) rfl rfl (hb hby d1_106)
          have V353 : own_Arf Z h353 b313 .char 3 (fun i => if i = 2 then (.int (nar .char ((((p0.toUInt32 >>> ((16 : Int32) &&& 31).toUInt32).toInt32) &&& (255 : Int32)).toUInt32.toUInt16.toUInt32.toInt32))) else (.int (gf339 i))) := V353
          obtain ⟨gf353, hgf353, V353'⟩ := own_nameI (g := gf339) V353
          have Sf354 : Safe Z consts_1 s.vm h353 b305 := Safe.wr W353 Sf341 CR342.1 Sf340
          have Sf355 : Safe Z consts_1 s.vm h353 b313 := Safe.wr W353 Sf341 CR342.1 Sf341
          have CR356 : CHr Z consts_1 s.vm s.heap s.vm h353 := CR342.trans (CHr.wr W353 Sf341 CR342.1)
          have hk357 : h0.size ≤ h353.size := Nat.le_trans hk343 (Nat.le_of_eq W353.size.symm)
          have F358 : Sta Z h353 "java/lang/String" "COMPACT_STRINGS" "Z" (.int zc) := F344.wr W353
          have F359 : Exa Z h353 b305 "java/lang/String" := F345.wr W353
          have F360 : Fld Z h353 b305 "java/lang/String" "coder" "B" (.int (0 : Int32)) := F346.other W353 (Or.inl ne317)
          have F361 : Fld Z h353 b305 "java/lang/String" "value" "[B" .null := F347.other W353 (Or.inl ne317)
          have F362 : own_Arf Z h353 b313 .char 3 (fun i => (.int (gf353 i))) := V353'
          have Zs363 : n0 ≤ h353.size := by rw [W353.size]; exact Zs349
          have N364 := Fr.snoc X353 N350 ge313
          have K365 : Keep h0 h353 [] := K351.wr W353 (Or.inr old313)
          have r353 : own_R p.tables e below F0 (T353.setTop (mkF m 107 #[.val (.int p0), .val (.int p1), .val (.int ((p0 &&& (255 : Int32)).toUInt32.toUInt16.toUInt32.toInt32)), .val (.int ((((p0.toUInt32 >>> ((8 : Int32) &&& 31).toUInt32).toInt32) &&& (255 : Int32)).toUInt32.toUInt16.toUInt32.toInt32)), .val (.int ((((p0.toUInt32 >>> ((16 : Int32) &&& 31).toUInt32).toInt32) &&& (255 : Int32)).toUInt32.toUInt16.toUInt32.toInt32))] [(.ref b313), (.ref b305), (.ref b305)])) := fun tg_ kg_ => r352 tg_ (st353 tg_ kg_)
          obtain ⟨_, _, ⟨T366, L366, k366, n366⟩, -, X366, ⟨Lc366, hQ366, l366, y366, z366⟩, st366⟩ := X353.specialBack hx (y := (⟨"java/lang/String", "<init>", "([C)V"⟩ : MethodName)) rfl hown (mvT hZ (hw _ (List.mem_of_getElem? (i := 8) rfl))) (mvT hZ (hw _ (List.mem_of_getElem? (i := 9) rfl))) (mvT hZ (hw _ (List.mem_of_getElem? (i := 10) rfl))) (by decide) (backOf (W := 1) (rm2n l Z a0 hw [] b305 b313 (3) (gf353) (zc) h353 n0 Zs363 F359 F361 F360 ge305 F362 (by decide) (own_chS hgf353 (own_chV _) (own_chS hgf339 (own_chV _) (own_chS hgf325 (own_chV _) own_ch0))) ne317 F358 hzc) hZ (hw _ (List.mem_of_getElem? (i := 10) rfl)) (hw _ (List.mem_of_getElem? (i := 6) rfl)) (by decide) (by decide)) (g := (mkF m 107 #[.val (.int p0), .val (.int p1), .val (.int ((p0 &&& (255 : Int32)).toUInt32.toUInt16.toUInt32.toInt32)), .val (.int ((((p0.toUInt32 >>> ((8 : Int32) &&& 31).toUInt32).toInt32) &&& (255 : Int32)).toUInt32.toUInt16.toUInt32.toInt32)), .val (.int ((((p0.toUInt32 >>> ((16 : Int32) &&& 31).toUInt32).toInt32) &&& (255 : Int32)).toUInt32.toUInt16.toUInt32.toInt32))] [(.ref b313), (.ref b305), (.ref b305)])) rfl (by rw [hml]; rfl) (Steps.refl _) (a := b305) (argsL := [(.ref b313)]) (rest := [(.ref b305)]) (lenOf pd_4 rfl) rfl (by show 2 * 0 + _ ≤ _; exact Nat.le_of_eq rfl) (hb hby d1_107) (fun _ _ => ⟨rfl, e353, (by decide : 2 + 1 ≤ _), (by decide : 7 + 3 ≤ _)⟩)
          dsimp only [Pt.U, Pt.locs, Pt.cells, Pt.slots] at X366 l366 y366 z366 st366 hQ366
          subst l366 y366 z366
          obtain ⟨bb_366, gx_366, rfl, N366q, I366_0, I366_1, I366_2, I366_3⟩ := hQ366
          have N366 := Fr.app N364 N366q
          obtain ⟨h366, e366⟩ : ∃ z, T366.heap = z := ⟨_, rfl⟩
          rw [e366] at I366_0 I366_1 I366_2 I366_3
          have F369 : own_Arf Z h366 b313 .char 3 (fun i => (.int (gf353 i))) := F362.keep I366_0 (ninS (Ne.symm ne317) nin0)
          have K370 : Keep h0 h366 [] := K365.trans I366_0 (allS (Or.inr old305) all0)
          have Zs371 : n0 ≤ h366.size := Nat.le_trans Zs363 I366_0.1
          have Sf372 : Safe Z consts_1 s.vm h366 b305 := Safe.keep I366_0 (sfS Sf354 sf0) CR356.1 Sf354
          have Sf373 : Safe Z consts_1 s.vm h366 b313 := Safe.keep I366_0 (sfS Sf354 sf0) CR356.1 Sf355
          have CR374 : CHr Z consts_1 s.vm s.heap s.vm h366 := CR356.trans (CHr.keep I366_0 (sfS Sf354 sf0) CR356.1)
          have hk375 : h0.size ≤ h366.size := Nat.le_trans hk357 I366_0.1
          have r366 : own_R p.tables e below F0 (T366.setTop (mkF m 110 #[.val (.int p0), .val (.int p1), .val (.int ((p0 &&& (255 : Int32)).toUInt32.toUInt16.toUInt32.toInt32)), .val (.int ((((p0.toUInt32 >>> ((8 : Int32) &&& 31).toUInt32).toInt32) &&& (255 : Int32)).toUInt32.toUInt16.toUInt32.toInt32)), .val (.int ((((p0.toUInt32 >>> ((16 : Int32) &&& 31).toUInt32).toInt32) &&& (255 : Int32)).toUInt32.toUInt16.toUInt32.toInt32))] [(.ref b305)])) := fun tg_ kg_ => r353 tg_ (st366.trans kg_)
          refine hG (own_finW X366 hS0 (Nat.le_trans hk375 (Nat.le_of_eq (by rw [e366]))) hlk hZ hEL (by rw [e366]; exact CR374) (some (.ref b305)) (own_hv Bd.returns) ?_ (by decide) (by decide) (fun fs hr => r366 _ (retOut X366 hx Bd.returns rfl (Or.inr (Or.inr (Or.inr (Or.inr ⟨rfl, rfl, rfl⟩)))) (hb hby d1_110) hr)))
          rw [e366]
          refine ⟨b305, bb_366, 3, gx_366, ?_, N366, K370, old305, I366_1, I366_2, I366_3, (by
                        have q74_r := own_R32 p1
                        have q75_e : (0 : Int32).toInt = 0 := (by decide)
                        have q75_r : (0 : Int) ≤ (0 : Int32).toInt ∧ (0 : Int32).toInt ≤ 0 := ⟨Int.le_of_eq q75_e.symm, Int.le_of_eq q75_e⟩
                        have q76_e : (1 : Int32).toInt = 1 := (by decide)
                        have q76_r : (1 : Int) ≤ (1 : Int32).toInt ∧ (1 : Int32).toInt ≤ 1 := ⟨Int.le_of_eq q76_e.symm, Int.le_of_eq q76_e⟩
                        have q77_e : (2 : Int32).toInt = 2 := (by decide)
                        have q77_r : (2 : Int) ≤ (2 : Int32).toInt ∧ (2 : Int32).toInt ≤ 2 := ⟨Int.le_of_eq q77_e.symm, Int.le_of_eq q77_e⟩
                        have q78_c := own_ne32 hc167
                        have q79_c := own_ne32 hc199
                        have q80_c := own_ne32 hc245
                        omega)⟩
          rfl
  exact key _ _ id (fun t k => castTop (ef_1 m p0 p1) k)
theorem pn_4 : plainName "com/example/mexpile/mexpile/rules/RuleSetName" = true := by first | (simp [plainName, overriddenIn]; done) | decide +kernel
theorem pd_5 : parseMethodDescriptor "()V" = some ⟨[], none⟩ := by decide +kernel
theorem d8_0 : decode prog_51_method_1_code 0 = .ok (.aload_n 0, 1) := by decide +kernel
theorem d8_1 : decode prog_51_method_1_code 1 = .ok (.invokespecial 1, 3) := by decide +kernel
theorem d8_4 : decode prog_51_method_1_code 4 = .ok (.aload_n 0, 1) := by decide +kernel
theorem d8_5 : decode prog_51_method_1_code 5 = .ok (.aload_n 1, 1) := by decide +kernel
theorem d8_6 : decode prog_51_method_1_code 6 = .ok (.putfield 7, 3) := by decide +kernel
theorem d8_9 : decode prog_51_method_1_code 9 = .ok (.aload_n 0, 1) := by decide +kernel
theorem d8_10 : decode prog_51_method_1_code 10 = .ok (.aload_n 2, 1) := by decide +kernel
theorem d8_11 : decode prog_51_method_1_code 11 = .ok (.putfield 13, 3) := by decide +kernel
theorem d8_14 : decode prog_51_method_1_code 14 = .ok (.return_, 1) := by decide +kernel
theorem ef_8 (m : MethodId) (x0 : Addr) (x1 : Addr) (x2 : Addr) : entryFrame m #[(.ref x0), (.ref x1), (.ref x2)] 3 = mkF m 0 #[.val (.ref x0), .val (.ref x1), .val (.ref x2)] [] := by first | (simp [entryFrame, mkF, argsToLocals, Value.category]; done) | rfl
def Q8 (Z : State) (a1 : Addr) (p2 : Addr) (p3 : Addr) (h0 : Heap) (n0 : Nat) (v : Option Value) (h : Heap) (L : List Loc) : Prop := v = none ∧ Fr n0 L ∧ Keep h0 h [a1] ∧ Exa Z h a1 "com/example/mexpile/mexpile/rules/RuleSetName" ∧ Fld Z h a1 "com/example/mexpile/mexpile/rules/RuleSetName" "family" "Ljava/lang/String;" (.ref p2) ∧ Fld Z h a1 "com/example/mexpile/mexpile/rules/RuleSetName" "parameter" "Ljava/lang/String;" (.ref p3)
set_option maxRecDepth 65536 in
set_option maxHeartbeats 40000000 in
theorem rm8 (l : Launch) (Z : State) (a0 : Array Value) (hw : ∀ d ∈ tables_1, d.before a0 Z = true) (ws : List Jvm.Cond) (a1 : Addr) (p2 : Addr) (p3 : Addr) (h0 : Heap) (n0 : Nat) (Z0 : n0 ≤ h0.size) (E1 : Exa Z h0 a1 "com/example/mexpile/mexpile/rules/RuleSetName") (Fp0 : Fld Z h0 a1 "com/example/mexpile/mexpile/rules/RuleSetName" "family" "Ljava/lang/String;" .null) (Fp1 : Fld Z h0 a1 "com/example/mexpile/mexpile/rules/RuleSetName" "parameter" "Ljava/lang/String;" .null) (ga1 : n0 ≤ a1) :
    MetFree l (⟨"com/example/mexpile/mexpile/rules/RuleSetName", "<init>", "(Ljava/lang/String;Ljava/lang/String;)V"⟩ : MethodName) (head1 (Jvm.Cond.code (⟨"com/example/mexpile/mexpile/rules/RuleSetName", "<init>", "(Ljava/lang/String;Ljava/lang/String;)V"⟩ : MethodName) prog_51_method_1_code 3 none :: ws) ({ frames := 2, cells := 0, slots := 0, locals := 24 } : Room)) (fun a U => a = #[(.ref a1), (.ref p2), (.ref p3)] ∧ Z.Warmed39 U.vm ∧ U.heap = h0) (fun _ _ _ _ _ => True) (fun _ U o U' => ∃ v L, o = .returned v ∧ Q8 Z a1 p2 p3 h0 n0 v U'.heap L ∧ FrameEnd U o U' L ({ frames := 2, cells := 0, slots := 0, locals := 24 } : Room).cells ({ frames := 2, cells := 0, slots := 0, locals := 24 } : Room).slots) := by
  refine MetFree.of_bodySF (plainFor_of_name pn_4) hisR ?_
  intro p e s m args below meth c s₁ Bd hml0 hP hK
  obtain ⟨rfl, hZ, hh⟩ := hP
  have hx := Bd.exec
  have hby := Bd.bytes
  have hml : c.maxLocals = 3 := hml0
  have hown : s.vm.findClass "com/example/mexpile/mexpile/rules/RuleSetName" = some m.cls := findClass_of_methodNamed Bd.named
  have hnm := (name_of_methodNamed Bd.named Bd.method).1
  have hlk : meth.locks = false := BodyLoose.notSynchronized Bd
  have X0 : Stand p l e ({ frames := 2, cells := 0, slots := 0, locals := 24 } : Room) s m #[(.ref a1), (.ref p2), (.ref p3)] below meth c s₁ [] 0 0 := Stand.of_body Bd
  have e0 : s₁.heap = h0 := by rw [← hh, Bd.state]; rfl
  have N0 := Fr.nil n0
  have K0 : Keep h0 h0 [a1] := Keep.refl h0 _
  have key : ∀ (F0 : State) (G : Prop), (own_G p e below s F0 (Q8 Z a1 p2 p3 h0 n0) ({ frames := 2, cells := 0, slots := 0, locals := 24 } : Room).cells ({ frames := 2, cells := 0, slots := 0, locals := 24 } : Room).slots → G) → own_R p.tables e below F0 (s₁.setTop (mkF m 0 #[.val (.ref a1), .val (.ref p2), .val (.ref p3)] [])) → G := by
    intro F0 G hG r0
    have r376 : own_R p.tables e below F0 (s₁.setTop (mkF m 1 #[.val (.ref a1), .val (.ref p2), .val (.ref p3)] [(.ref a1)])) := fun tg_ kg_ => by
      refine r0 tg_ ?_
      show Steps p.tables e below (s₁.setTop (mkF m 0 #[.val (.ref a1), .val (.ref p2), .val (.ref p3)] [])) _
      refine XS.aloadN X0.here hx rfl (hb hby d8_0) rfl rfl ?_
      exact kg_
    obtain ⟨_, _, ⟨T377, L377, k377, n377⟩, -, X377, ⟨Lc377, hQ377, l377, y377, z377⟩, st377⟩ := X0.specialBack hx (y := (⟨"java/lang/Record", "<init>", "()V"⟩ : MethodName)) rfl hown (mvT hZ (hw _ (List.mem_of_getElem? (i := 43) rfl))) (mvT hZ (hw _ (List.mem_of_getElem? (i := 44) rfl))) (mvT hZ (hw _ (List.mem_of_getElem? (i := 47) rfl))) (by decide) (backOf (W := 0) (rm9 l Z a0 hw [] a1 h0 n0 Z0 ) hZ (hw _ (List.mem_of_getElem? (i := 47) rfl)) (hw _ (List.mem_of_getElem? (i := 46) rfl)) (by decide) (by decide)) (g := (mkF m 1 #[.val (.ref a1), .val (.ref p2), .val (.ref p3)] [(.ref a1)])) rfl (by rw [hml]; rfl) (Steps.refl _) (a := a1) (argsL := []) (rest := []) (lenOf pd_5 rfl) rfl (by show 2 * 0 + _ ≤ _; exact Nat.le_of_eq rfl) (hb hby d8_1) (fun _ _ => ⟨rfl, e0, (by decide : 0 + 0 ≤ _), (by decide : 0 + 0 ≤ _)⟩)
    dsimp only [Pt.U, Pt.locs, Pt.cells, Pt.slots] at X377 l377 y377 z377 st377 hQ377
    subst l377 y377 z377
    obtain ⟨rfl, N377q, I377_0⟩ := hQ377
    have N377 := Fr.app N0 N377q
    have r377 : own_R p.tables e below F0 (T377.setTop (mkF m 4 #[.val (.ref a1), .val (.ref p2), .val (.ref p3)] [])) := fun tg_ kg_ => r376 tg_ (st377.trans kg_)
    have r378 : own_R p.tables e below F0 (T377.setTop (mkF m 6 #[.val (.ref a1), .val (.ref p2), .val (.ref p3)] [(.ref p2), (.ref a1)])) := fun tg_ kg_ => by
      refine r377 tg_ ?_
      show Steps p.tables e below (T377.setTop (mkF m 4 #[.val (.ref a1), .val (.ref p2), .val (.ref p3)] [])) _
      refine XS.aloadN X377.here hx rfl (hb hby d8_4) rfl rfl ?_
      show Steps p.tables e below (T377.setTop (mkF m 5 #[.val (.ref a1), .val (.ref p2), .val (.ref p3)] [(.ref a1)])) _
      refine XS.aloadN X377.here hx rfl (hb hby d8_5) rfl rfl ?_
      exact kg_
    obtain ⟨T379, h379, X379, e379, W379, st379⟩ := putF X377 hx hZ hown (host := "") (Or.inl (hw _ (List.mem_of_getElem? (i := 49) rfl))) Via.refl I377_0 Fp0 E1 (Or.inr ⟨(hw _ (List.mem_of_getElem? (i := 50) rfl)), rfl, hnm⟩) (hw _ (List.mem_of_getElem? (i := 38) rfl)) (ty := (.object "java/lang/String")) (by decide) rfl rfl (g := (mkF m 6 #[.val (.ref a1), .val (.ref p2), .val (.ref p3)] [(.ref p2), (.ref a1)])) rfl rfl (hb hby d8_6)
    have F380 : Exa Z h379 a1 "com/example/mexpile/mexpile/rules/RuleSetName" := E1.wr W379
    have F381 : Fld Z h379 a1 "com/example/mexpile/mexpile/rules/RuleSetName" "family" "Ljava/lang/String;" (.ref p2) := Fp0.same W379
    have F382 : Fld Z h379 a1 "com/example/mexpile/mexpile/rules/RuleSetName" "parameter" "Ljava/lang/String;" .null := Fp1.other W379 (Or.inr (slot_ne (Or.inr (hw _ (List.mem_of_getElem? (i := 52) rfl))) (Or.inr (hw _ (List.mem_of_getElem? (i := 50) rfl))) (by decide) (t := (.object "java/lang/String")) (t' := (.object "java/lang/String")) (by decide) (by decide)))
    have Zs383 : n0 ≤ h379.size := by rw [W379.size]; exact Z0
    have N384 := Fr.snoc X379 N377 ga1
    have K385 : Keep h0 h379 [a1] := K0.wr W379 (Or.inl (List.mem_of_getElem? (i := 0) rfl))
    have r379 : own_R p.tables e below F0 (T379.setTop (mkF m 9 #[.val (.ref a1), .val (.ref p2), .val (.ref p3)] [])) := fun tg_ kg_ => r378 tg_ (st379 tg_ kg_)
    have r386 : own_R p.tables e below F0 (T379.setTop (mkF m 11 #[.val (.ref a1), .val (.ref p2), .val (.ref p3)] [(.ref p3), (.ref a1)])) := fun tg_ kg_ => by
      refine r379 tg_ ?_
      show Steps p.tables e below (T379.setTop (mkF m 9 #[.val (.ref a1), .val (.ref p2), .val (.ref p3)] [])) _
      refine XS.aloadN X379.here hx rfl (hb hby d8_9) rfl rfl ?_
      show Steps p.tables e below (T379.setTop (mkF m 10 #[.val (.ref a1), .val (.ref p2), .val (.ref p3)] [(.ref a1)])) _
      refine XS.aloadN X379.here hx rfl (hb hby d8_10) rfl rfl ?_
      exact kg_
    obtain ⟨T387, h387, X387, e387, W387, st387⟩ := putF X379 hx hZ hown (host := "") (Or.inl (hw _ (List.mem_of_getElem? (i := 51) rfl))) Via.refl e379 F382 F380 (Or.inr ⟨(hw _ (List.mem_of_getElem? (i := 52) rfl)), rfl, hnm⟩) (hw _ (List.mem_of_getElem? (i := 38) rfl)) (ty := (.object "java/lang/String")) (by decide) rfl rfl (g := (mkF m 11 #[.val (.ref a1), .val (.ref p2), .val (.ref p3)] [(.ref p3), (.ref a1)])) rfl rfl (hb hby d8_11)
    have F388 : Exa Z h387 a1 "com/example/mexpile/mexpile/rules/RuleSetName" := F380.wr W387
    have F389 : Fld Z h387 a1 "com/example/mexpile/mexpile/rules/RuleSetName" "family" "Ljava/lang/String;" (.ref p2) := F381.other W387 (Or.inr (slot_ne (Or.inr (hw _ (List.mem_of_getElem? (i := 50) rfl))) (Or.inr (hw _ (List.mem_of_getElem? (i := 52) rfl))) (by decide) (t := (.object "java/lang/String")) (t' := (.object "java/lang/String")) (by decide) (by decide)))
    have F390 : Fld Z h387 a1 "com/example/mexpile/mexpile/rules/RuleSetName" "parameter" "Ljava/lang/String;" (.ref p3) := F382.same W387
    have Zs391 : n0 ≤ h387.size := by rw [W387.size]; exact Zs383
    have N392 := Fr.snoc X387 N384 ga1
    have K393 : Keep h0 h387 [a1] := K385.wr W387 (Or.inl (List.mem_of_getElem? (i := 0) rfl))
    have r387 : own_R p.tables e below F0 (T387.setTop (mkF m 14 #[.val (.ref a1), .val (.ref p2), .val (.ref p3)] [])) := fun tg_ kg_ => r386 tg_ (st387 tg_ kg_)
    refine hG (own_fin X387 hlk (none) (fun _ => rfl) ?_ (by decide) (by decide) (fun fs hr => r387 _ (X387.returnOut hx Bd.returns (hb hby d8_14) hr)))
    rw [e387]
    refine ⟨?_, N392, K393, F388, F389, F390⟩
    rfl
  exact key _ _ id (fun t k => castTop (ef_8 m a1 p2 p3) k)
theorem d11_0 : decode jdk_42_method_55_code 0 = .ok (.aload_n 0, 1) := by decide +kernel
theorem d11_1 : decode jdk_42_method_55_code 1 = .ok (.getfield 9, 3) := by decide +kernel
theorem d11_4 : decode jdk_42_method_55_code 4 = .ok (.arraylength, 1) := by decide +kernel
theorem d11_5 : decode jdk_42_method_55_code 5 = .ok (.ifCond .ne 7, 3) := by decide +kernel
theorem d11_8 : decode jdk_42_method_55_code 8 = .ok (.iconst 1, 1) := by decide +kernel
theorem d11_9 : decode jdk_42_method_55_code 9 = .ok (.goto 4, 3) := by decide +kernel
theorem d11_12 : decode jdk_42_method_55_code 12 = .ok (.iconst 0, 1) := by decide +kernel
theorem d11_13 : decode jdk_42_method_55_code 13 = .ok (.ireturn, 1) := by decide +kernel
theorem ef_11 (m : MethodId) (x0 : Addr) : entryFrame m #[(.ref x0)] 1 = mkF m 0 #[.val (.ref x0)] [] := by first | (simp [entryFrame, mkF, argsToLocals, Value.category]; done) | rfl
def Q11 (Z : State) (ps : Addr) (bb : Addr) (nl : Nat) (gv : Nat → Int32) (h0 : Heap) (n0 : Nat) (v : Option Value) (h : Heap) (L : List Loc) : Prop := ∃ (rr : Int32), v = some (.int rr) ∧ Fr n0 L ∧ h = h0 ∧ (nl = 0 → rr.toInt = 1) ∧ (nl ≠ 0 → rr.toInt = 0)
set_option maxRecDepth 65536 in
set_option maxHeartbeats 40000000 in
theorem rm11 (l : Launch) (Z : State) (a0 : Array Value) (hw : ∀ d ∈ tables_1, d.before a0 Z = true) (ws : List Jvm.Cond) (ps : Addr) (bb : Addr) (nl : Nat) (gv : Nat → Int32) (h0 : Heap) (n0 : Nat) (Z0 : n0 ≤ h0.size) (E2 : Exa Z h0 ps "java/lang/String") (F2 : Fld Z h0 ps "java/lang/String" "value" "[B" (.ref bb)) (A2 : own_Arf Z h0 bb .byte nl (fun i => (.int (gv i)))) (hl3 : nl ≤ 3) :
    MetFree l (⟨"java/lang/String", "isEmpty", "()Z"⟩ : MethodName) (head1 (Jvm.Cond.code (⟨"java/lang/String", "isEmpty", "()Z"⟩ : MethodName) jdk_42_method_55_code 1 (some .boolean) :: ws) ({ frames := 0, cells := 0, slots := 0, locals := 0 } : Room)) (fun a U => a = #[(.ref ps)] ∧ Z.Warmed39 U.vm ∧ U.heap = h0) (fun _ _ _ _ _ => True) (fun _ U o U' => ∃ v L, o = .returned v ∧ Q11 Z ps bb nl gv h0 n0 v U'.heap L ∧ FrameEnd U o U' L ({ frames := 0, cells := 0, slots := 0, locals := 0 } : Room).cells ({ frames := 0, cells := 0, slots := 0, locals := 0 } : Room).slots) := by
  refine MetFree.of_bodySF (plainFor_of_name pn_2) hisR ?_
  intro p e s m args below meth c s₁ Bd hml0 hP hK
  obtain ⟨rfl, hZ, hh⟩ := hP
  have hx := Bd.exec
  have hby := Bd.bytes
  have hml : c.maxLocals = 1 := hml0
  have hown : s.vm.findClass "java/lang/String" = some m.cls := findClass_of_methodNamed Bd.named
  have hnm := (name_of_methodNamed Bd.named Bd.method).1
  have hlk : meth.locks = false := BodyLoose.notSynchronized Bd
  have X0 : Stand p l e ({ frames := 0, cells := 0, slots := 0, locals := 0 } : Room) s m #[(.ref ps)] below meth c s₁ [] 0 0 := Stand.of_body Bd
  have e0 : s₁.heap = h0 := by rw [← hh, Bd.state]; rfl
  have N0 := Fr.nil n0
  have K0 : Keep h0 h0 [] := Keep.refl h0 _
  have key : ∀ (F0 : State) (G : Prop), (own_G p e below s F0 (Q11 Z ps bb nl gv h0 n0) ({ frames := 0, cells := 0, slots := 0, locals := 0 } : Room).cells ({ frames := 0, cells := 0, slots := 0, locals := 0 } : Room).slots → G) → own_R p.tables e below F0 (s₁.setTop (mkF m 0 #[.val (.ref ps)] [])) → G := by
    intro F0 G hG r0
    have r394 : own_R p.tables e below F0 (s₁.setTop (mkF m 1 #[.val (.ref ps)] [(.ref ps)])) := fun tg_ kg_ => by
      refine r0 tg_ ?_
      show Steps p.tables e below (s₁.setTop (mkF m 0 #[.val (.ref ps)] [])) _
      refine XS.aloadN X0.here hx rfl (hb hby d11_0) rfl rfl ?_
      exact kg_
    obtain ⟨T395, X395, e395, st395⟩ := getF X0 hx hZ hown (host := "") (Or.inl (hw _ (List.mem_of_getElem? (i := 32) rfl))) Via.refl e0 F2 (g := (mkF m 1 #[.val (.ref ps)] [(.ref ps)])) rfl rfl (hb hby d11_1)
    have r395 : own_R p.tables e below F0 (T395.setTop (mkF m 4 #[.val (.ref ps)] [(.ref bb)])) := fun tg_ kg_ => r394 tg_ (st395 tg_ kg_)
    have r396 : own_R p.tables e below F0 (T395.setTop (mkF m 5 #[.val (.ref ps)] [(.int (Int32.ofNat nl))])) := fun tg_ kg_ => by
      refine r395 tg_ ?_
      show Steps p.tables e below (T395.setTop (mkF m 4 #[.val (.ref ps)] [(.ref bb)])) _
      refine own_alen X395 hx hZ e395 A2 (Int32.ofNat nl) rfl (g := (mkF m 4 #[.val (.ref ps)] [(.ref bb)])) rfl rfl (hb hby d11_4) _ ?_
      exact kg_
    by_cases hc397 : (Int32.ofNat nl) = (0 : Int32)
    · have r398 : own_R p.tables e below F0 (T395.setTop (mkF m 13 #[.val (.ref ps)] [(.int (1 : Int32))])) := fun tg_ kg_ => by
        refine r396 tg_ ?_
        show Steps p.tables e below (T395.setTop (mkF m 5 #[.val (.ref ps)] [(.int (Int32.ofNat nl))])) _
        refine XS.ifNo X395.here hx rfl (hb hby d11_5) rfl ((if0 _ _).trans (teq hc397).2) ?_
        show Steps p.tables e below (T395.setTop (mkF m 8 #[.val (.ref ps)] [])) _
        refine XS.iconst X395.here hx rfl (hb hby d11_8) ?_
        show Steps p.tables e below (T395.setTop (mkF m 9 #[.val (.ref ps)] [(.int (1 : Int32))])) _
        refine XS.goto X395.here hx rfl (pc0 := 9) (pc' := 13) rfl (hb hby d11_9) (by decide) (by decide) ?_
        exact kg_
      refine hG (own_fin X395 hlk (some (.int (nar .boolean (1 : Int32)))) (own_hv Bd.returns) ?_ (by decide) (by decide) (fun fs hr => r398 _ (retN X395 hx (t := .boolean) Bd.returns (by simp) (hb hby d11_13) hr)))
      rw [e395]
      refine ⟨(1 : Int32), ?_, N0, rfl, (by
            have q0 := own_of0 hl3
            have q1 := own_eq32 hc397
            have q2 : (0 : Int32).toInt = 0 := rfl
            have q3 : (1 : Int32).toInt = 1 := rfl
            omega)⟩
      rfl
    · have r399 : own_R p.tables e below F0 (T395.setTop (mkF m 13 #[.val (.ref ps)] [(.int (0 : Int32))])) := fun tg_ kg_ => by
        refine r396 tg_ ?_
        show Steps p.tables e below (T395.setTop (mkF m 5 #[.val (.ref ps)] [(.int (Int32.ofNat nl))])) _
        refine XS.ifYes X395.here hx rfl (pc0 := 5) (pc' := 12) rfl (hb hby d11_5) rfl ((if0 _ _).trans (feq hc397).2) (by decide) (by decide) ?_
        show Steps p.tables e below (T395.setTop (mkF m 12 #[.val (.ref ps)] [])) _
        refine XS.iconst X395.here hx rfl (hb hby d11_12) ?_
        exact kg_
      refine hG (own_fin X395 hlk (some (.int (nar .boolean (0 : Int32)))) (own_hv Bd.returns) ?_ (by decide) (by decide) (fun fs hr => r399 _ (retN X395 hx (t := .boolean) Bd.returns (by simp) (hb hby d11_13) hr)))
      rw [e395]
      refine ⟨(0 : Int32), ?_, N0, rfl, (by
            have q0 := own_of0 hl3
            have q1 := own_ne32 hc397
            have q2 : (0 : Int32).toInt = 0 := rfl
            have q3 : (1 : Int32).toInt = 1 := rfl
            omega)⟩
      rfl
  exact key _ _ id (fun t k => castTop (ef_11 m ps) k)
theorem pd_6 : parseMethodDescriptor "()Z" = some ⟨[], some .boolean⟩ := by decide +kernel
theorem d10_0 : decode prog_51_method_4_code 0 = .ok (.aload_n 0, 1) := by decide +kernel
theorem d10_1 : decode prog_51_method_4_code 1 = .ok (.getfield 13, 3) := by decide +kernel
theorem d10_4 : decode prog_51_method_4_code 4 = .ok (.invokevirtual 31, 3) := by decide +kernel
theorem d10_7 : decode prog_51_method_4_code 7 = .ok (.ifCond .ne 7, 3) := by decide +kernel
theorem d10_10 : decode prog_51_method_4_code 10 = .ok (.iconst 1, 1) := by decide +kernel
theorem d10_11 : decode prog_51_method_4_code 11 = .ok (.goto 4, 3) := by decide +kernel
theorem d10_14 : decode prog_51_method_4_code 14 = .ok (.iconst 0, 1) := by decide +kernel
theorem d10_15 : decode prog_51_method_4_code 15 = .ok (.ireturn, 1) := by decide +kernel
theorem ef_10 (m : MethodId) (x0 : Addr) : entryFrame m #[(.ref x0)] 1 = mkF m 0 #[.val (.ref x0)] [] := by first | (simp [entryFrame, mkF, argsToLocals, Value.category]; done) | rfl
def Q10 (Z : State) (a1 : Addr) (ps : Addr) (bb : Addr) (nl : Nat) (gv : Nat → Int32) (h0 : Heap) (n0 : Nat) (v : Option Value) (h : Heap) (L : List Loc) : Prop := ∃ (rr : Int32), v = some (.int rr) ∧ Fr n0 L ∧ h = h0 ∧ (nl = 0 → rr.toInt = 0) ∧ (nl ≠ 0 → rr.toInt = 1)
set_option maxRecDepth 65536 in
set_option maxHeartbeats 40000000 in
theorem rm10 (l : Launch) (Z : State) (a0 : Array Value) (hw : ∀ d ∈ tables_1, d.before a0 Z = true) (ws : List Jvm.Cond) (a1 : Addr) (ps : Addr) (bb : Addr) (nl : Nat) (gv : Nat → Int32) (h0 : Heap) (n0 : Nat) (Z0 : n0 ≤ h0.size) (E1 : Exa Z h0 a1 "com/example/mexpile/mexpile/rules/RuleSetName") (F1 : Fld Z h0 a1 "com/example/mexpile/mexpile/rules/RuleSetName" "parameter" "Ljava/lang/String;" (.ref ps)) (E2 : Exa Z h0 ps "java/lang/String") (F2 : Fld Z h0 ps "java/lang/String" "value" "[B" (.ref bb)) (A2 : own_Arf Z h0 bb .byte nl (fun i => (.int (gv i)))) (hl3 : nl ≤ 3) :
    MetFree l (⟨"com/example/mexpile/mexpile/rules/RuleSetName", "hasParameter", "()Z"⟩ : MethodName) (head1 (Jvm.Cond.code (⟨"com/example/mexpile/mexpile/rules/RuleSetName", "hasParameter", "()Z"⟩ : MethodName) prog_51_method_4_code 1 (some .boolean) :: ws) ({ frames := 1, cells := 0, slots := 0, locals := 12 } : Room)) (fun a U => a = #[(.ref a1)] ∧ Z.Warmed39 U.vm ∧ U.heap = h0) (fun _ _ _ _ _ => True) (fun _ U o U' => ∃ v L, o = .returned v ∧ Q10 Z a1 ps bb nl gv h0 n0 v U'.heap L ∧ FrameEnd U o U' L ({ frames := 1, cells := 0, slots := 0, locals := 12 } : Room).cells ({ frames := 1, cells := 0, slots := 0, locals := 12 } : Room).slots) := by
  refine MetFree.of_bodySF (plainFor_of_name pn_4) hisR ?_
  intro p e s m args below meth c s₁ Bd hml0 hP hK
  obtain ⟨rfl, hZ, hh⟩ := hP
  have hx := Bd.exec
  have hby := Bd.bytes
  have hml : c.maxLocals = 1 := hml0
  have hown : s.vm.findClass "com/example/mexpile/mexpile/rules/RuleSetName" = some m.cls := findClass_of_methodNamed Bd.named
  have hnm := (name_of_methodNamed Bd.named Bd.method).1
  have hlk : meth.locks = false := BodyLoose.notSynchronized Bd
  have X0 : Stand p l e ({ frames := 1, cells := 0, slots := 0, locals := 12 } : Room) s m #[(.ref a1)] below meth c s₁ [] 0 0 := Stand.of_body Bd
  have e0 : s₁.heap = h0 := by rw [← hh, Bd.state]; rfl
  have N0 := Fr.nil n0
  have K0 : Keep h0 h0 [] := Keep.refl h0 _
  have key : ∀ (F0 : State) (G : Prop), (own_G p e below s F0 (Q10 Z a1 ps bb nl gv h0 n0) ({ frames := 1, cells := 0, slots := 0, locals := 12 } : Room).cells ({ frames := 1, cells := 0, slots := 0, locals := 12 } : Room).slots → G) → own_R p.tables e below F0 (s₁.setTop (mkF m 0 #[.val (.ref a1)] [])) → G := by
    intro F0 G hG r0
    have r400 : own_R p.tables e below F0 (s₁.setTop (mkF m 1 #[.val (.ref a1)] [(.ref a1)])) := fun tg_ kg_ => by
      refine r0 tg_ ?_
      show Steps p.tables e below (s₁.setTop (mkF m 0 #[.val (.ref a1)] [])) _
      refine XS.aloadN X0.here hx rfl (hb hby d10_0) rfl rfl ?_
      exact kg_
    obtain ⟨T401, X401, e401, st401⟩ := getF X0 hx hZ hown (host := "") (Or.inl (hw _ (List.mem_of_getElem? (i := 51) rfl))) Via.refl e0 F1 (g := (mkF m 1 #[.val (.ref a1)] [(.ref a1)])) rfl rfl (hb hby d10_1)
    have r401 : own_R p.tables e below F0 (T401.setTop (mkF m 4 #[.val (.ref a1)] [(.ref ps)])) := fun tg_ kg_ => r400 tg_ (st401 tg_ kg_)
    obtain ⟨cq402, kq402, q402a, q402b, q402c⟩ := isOf hZ e401 E2
    obtain ⟨_, _, ⟨T402, L402, k402, n402⟩, -, X402, ⟨Lc402, hQ402, l402, y402, z402⟩, st402⟩ := X401.virtualBack hx (y := (⟨"java/lang/String", "isEmpty", "()Z"⟩ : MethodName)) (z := (⟨"java/lang/String", "isEmpty", "()Z"⟩ : MethodName)) hown (mvT hZ (hw _ (List.mem_of_getElem? (i := 58) rfl))) (mvT hZ (hw _ (List.mem_of_getElem? (i := 59) rfl))) (notFace_of_selects (args := #[]) (mvT hZ (hw _ (List.mem_of_getElem? (i := 61) rfl)))) (mvT hZ (hw _ (List.mem_of_getElem? (i := 61) rfl))) (mvT hZ (hw _ (List.mem_of_getElem? (i := 60) rfl))) (by decide) (backOf (W := 0) (rm11 l Z a0 hw [] ps (bb) (nl) (gv) h0 n0 Z0 E2 F2 A2 hl3) hZ (hw _ (List.mem_of_getElem? (i := 62) rfl)) (hw _ (List.mem_of_getElem? (i := 6) rfl)) (by decide) (by decide)) q402a q402c (g := (mkF m 4 #[.val (.ref a1)] [(.ref ps)])) rfl (by rw [hml]; rfl) (Steps.refl _) (argsL := []) (rest := []) (lenOf pd_6 rfl) rfl (by show 2 * 0 + _ ≤ _; exact Nat.le_of_eq rfl) (hb hby d10_4) (fun _ _ => ⟨rfl, e401, (by decide : 0 + 0 ≤ _), (by decide : 0 + 0 ≤ _)⟩)
    dsimp only [Pt.U, Pt.locs, Pt.cells, Pt.slots] at X402 l402 y402 z402 st402 hQ402
    subst l402 y402 z402
    obtain ⟨rr_402, rfl, N402q, I402_0, I402_1⟩ := hQ402
    have N402 := Fr.app N0 N402q
    have r402 : own_R p.tables e below F0 (T402.setTop (mkF m 7 #[.val (.ref a1)] [(.int rr_402)])) := fun tg_ kg_ => r401 tg_ (st402.trans kg_)
    by_cases hc403 : rr_402 = (0 : Int32)
    · have r404 : own_R p.tables e below F0 (T402.setTop (mkF m 15 #[.val (.ref a1)] [(.int (1 : Int32))])) := fun tg_ kg_ => by
        refine r402 tg_ ?_
        show Steps p.tables e below (T402.setTop (mkF m 7 #[.val (.ref a1)] [(.int rr_402)])) _
        refine XS.ifNo X402.here hx rfl (hb hby d10_7) rfl ((if0 _ _).trans (teq hc403).2) ?_
        show Steps p.tables e below (T402.setTop (mkF m 10 #[.val (.ref a1)] [])) _
        refine XS.iconst X402.here hx rfl (hb hby d10_10) ?_
        show Steps p.tables e below (T402.setTop (mkF m 11 #[.val (.ref a1)] [(.int (1 : Int32))])) _
        refine XS.goto X402.here hx rfl (pc0 := 11) (pc' := 15) rfl (hb hby d10_11) (by decide) (by decide) ?_
        exact kg_
      refine hG (own_fin X402 hlk (some (.int (nar .boolean (1 : Int32)))) (own_hv Bd.returns) ?_ (by decide) (by decide) (fun fs hr => r404 _ (retN X402 hx (t := .boolean) Bd.returns (by simp) (hb hby d10_15) hr)))
      rw [I402_0]
      refine ⟨(1 : Int32), ?_, N402, rfl, (by
            have q0 := I402_1
            have q1 := own_eq32 hc403
            have q2 : (0 : Int32).toInt = 0 := rfl
            have q3 : (1 : Int32).toInt = 1 := rfl
            omega)⟩
      rfl
    · have r405 : own_R p.tables e below F0 (T402.setTop (mkF m 15 #[.val (.ref a1)] [(.int (0 : Int32))])) := fun tg_ kg_ => by
        refine r402 tg_ ?_
        show Steps p.tables e below (T402.setTop (mkF m 7 #[.val (.ref a1)] [(.int rr_402)])) _
        refine XS.ifYes X402.here hx rfl (pc0 := 7) (pc' := 14) rfl (hb hby d10_7) rfl ((if0 _ _).trans (feq hc403).2) (by decide) (by decide) ?_
        show Steps p.tables e below (T402.setTop (mkF m 14 #[.val (.ref a1)] [])) _
        refine XS.iconst X402.here hx rfl (hb hby d10_14) ?_
        exact kg_
      refine hG (own_fin X402 hlk (some (.int (nar .boolean (0 : Int32)))) (own_hv Bd.returns) ?_ (by decide) (by decide) (fun fs hr => r405 _ (retN X402 hx (t := .boolean) Bd.returns (by simp) (hb hby d10_15) hr)))
      rw [I402_0]
      refine ⟨(0 : Int32), ?_, N402, rfl, (by
            have q0 := I402_1
            have q1 := own_ne32 hc403
            have q2 : (0 : Int32).toInt = 0 := rfl
            have q3 : (1 : Int32).toInt = 1 := rfl
            omega)⟩
      rfl
  exact key _ _ id (fun t k => castTop (ef_10 m a1) k)
theorem pd_7 : parseMethodDescriptor "(II)Ljava/lang/String;" = some ⟨[.int, .int], some (.object "java/lang/String")⟩ := by decide +kernel
theorem pd_8 : parseMethodDescriptor "(Ljava/lang/String;Ljava/lang/String;)V" = some ⟨[(.object "java/lang/String"), (.object "java/lang/String")], none⟩ := by decide +kernel
theorem ef_0 (m : MethodId) (x0 : Int32) (x1 : Int32) (x2 : Int32) : entryFrame m #[(.int x0), (.int x1), (.int x2)] maxLocals = mkF m 0 #[.val (.int x0), .val (.int x1), .val (.int x2), .unset, .unset, .unset, .unset, .unset, .unset] [] := by first | (simp [entryFrame, mkF, argsToLocals, Value.category, maxLocals]; done) | rfl
def Q0 (Z : State) (p0s : Int32) (p1s : Int32) (p2s : Int32) (zc : Int32) (h0 : Heap) (n0 : Nat) (v : Option Value) (h : Heap) (L : List Loc) : Prop := v = some (.int (1 : Int32)) ∧ Fr n0 L
set_option maxRecDepth 65536 in
set_option maxHeartbeats 40000000 in
theorem rm0 (l : Launch) (Z : State) (a0 : Array Value) (hw : ∀ d ∈ tables_1, d.before a0 Z = true) (ws : List Jvm.Cond) (p0s : Int32) (p1s : Int32) (p2s : Int32) (zc : Int32) (h0 : Heap) (n0 : Nat) (Z0 : n0 ≤ h0.size) (S1 : Sta Z h0 "java/lang/String" "COMPACT_STRINGS" "Z" (.int zc)) (hzc : ¬ zc = (0 : Int32)) :
    MetFree l x (head1 (Jvm.Cond.code x code maxLocals ret :: ws) room_1) (fun a U => a = #[(.int p0s), (.int p1s), (.int p2s)] ∧ Z.Warmed39 U.vm ∧ U.heap = h0 ∧ CHv Z consts_1 U.vm h0) (fun _ _ _ _ _ => True) (fun _ U o U' => ∃ v L, o = .returned v ∧ Q0 Z p0s p1s p2s zc h0 n0 v U'.heap L ∧ CHr Z consts_1 U.vm U.heap U'.vm U'.heap ∧ ReturnedEndW U o U' L 24 1152) := by
  refine MetFree.of_bodySF (plainFor_of_name pn_3) hisR ?_
  intro p e s m args below meth c s₁ Bd hml0 hP hK
  obtain ⟨rfl, hZ, hh, hCH⟩ := hP
  have hx := Bd.exec
  have hby := Bd.bytes
  have hml : c.maxLocals = 9 := hml0
  have hown : s.vm.findClass "com/example/mexpile/mexpile/rules/RuleSetNameHasParameterPinLaw" = some m.cls := findClass_of_methodNamed Bd.named
  have hnm := (name_of_methodNamed Bd.named Bd.method).1
  have hlk : meth.locks = false := BodyLoose.notSynchronized Bd
  have X0 : Stand p l e room_1 (s.setVm s.vm) m #[(.int p0s), (.int p1s), (.int p2s)] below meth c s₁ [] 0 0 := Stand.of_body Bd
  have e0 : s₁.heap = h0 := by rw [← hh, Bd.state]; rfl
  have N0 := Fr.nil n0
  have K0 : Keep h0 h0 [] := Keep.refl h0 _
  have hZ : Z.Warmed39 (s.setVm s.vm).vm := hZ
  have hown : (s.setVm s.vm).vm.findClass "com/example/mexpile/mexpile/rules/RuleSetNameHasParameterPinLaw" = some m.cls := hown
  have hS0 : s.Since s.vm h0.size := State.WarmedH.since (State.WarmedH.refl s) _
  have hk0 : h0.size ≤ h0.size := Nat.le_refl _
  have CR0 : CHr Z consts_1 s.vm s.heap s.vm h0 := by rw [hh]; exact CHr.refl hCH
  have hEL : EW Z a0 consts_1 := own_EW hw
  have key : ∀ (F0 : State) (G : Prop), (own_GW p e below s F0 Z consts_1 (Q0 Z p0s p1s p2s zc h0 n0) 24 1152 → G) → own_R p.tables e below F0 (s₁.setTop (mkF m 0 #[.val (.int p0s), .val (.int p1s), .val (.int p2s), .unset, .unset, .unset, .unset, .unset, .unset] [])) → G := by
    intro F0 G hG r0
    obtain ⟨z406, hz406⟩ : ∃ z : Int32, z = (p2s &&& (3 : Int32)) := ⟨_, rfl⟩
    obtain ⟨z407, hz407⟩ : ∃ z : Int32, z = (((p2s.toUInt32 >>> ((2 : Int32) &&& 31).toUInt32).toInt32) &&& (3 : Int32)) := ⟨_, rfl⟩
    have r408 : own_R p.tables e below F0 (s₁.setTop (mkF m 13 #[.val (.int p0s), .val (.int p1s), .val (.int p2s), .val (.int z406), .val (.int z407), .unset, .unset, .unset, .unset] [(.int z406), (.int p0s)])) := fun tg_ kg_ => by
      refine r0 tg_ ?_
      show Steps p.tables e below (s₁.setTop (mkF m 0 #[.val (.int p0s), .val (.int p1s), .val (.int p2s), .unset, .unset, .unset, .unset, .unset, .unset] [])) _
      refine XS.iloadN X0.here hx rfl (hb hby at_0) rfl ?_
      show Steps p.tables e below (s₁.setTop (mkF m 1 #[.val (.int p0s), .val (.int p1s), .val (.int p2s), .unset, .unset, .unset, .unset, .unset, .unset] [(.int p2s)])) _
      refine XS.iconst X0.here hx rfl (hb hby at_1) ?_
      show Steps p.tables e below (s₁.setTop (mkF m 2 #[.val (.int p0s), .val (.int p1s), .val (.int p2s), .unset, .unset, .unset, .unset, .unset, .unset] [(.int (3 : Int32)), (.int p2s)])) _
      refine XS.iand X0.here hx rfl (hb hby at_2) rfl ?_
      show Steps p.tables e below (s₁.setTop (mkF m 3 #[.val (.int p0s), .val (.int p1s), .val (.int p2s), .unset, .unset, .unset, .unset, .unset, .unset] [(.int (p2s &&& (3 : Int32)))])) _
      refine XS.istoreN X0.here hx rfl (hb hby at_3) (x := z406) (rest := []) (by subst hz406; rfl) (l' := #[.val (.int p0s), .val (.int p1s), .val (.int p2s), .val (.int z406), .unset, .unset, .unset, .unset, .unset]) rfl ?_
      show Steps p.tables e below (s₁.setTop (mkF m 4 #[.val (.int p0s), .val (.int p1s), .val (.int p2s), .val (.int z406), .unset, .unset, .unset, .unset, .unset] [])) _
      refine XS.iloadN X0.here hx rfl (hb hby at_4) rfl ?_
      show Steps p.tables e below (s₁.setTop (mkF m 5 #[.val (.int p0s), .val (.int p1s), .val (.int p2s), .val (.int z406), .unset, .unset, .unset, .unset, .unset] [(.int p2s)])) _
      refine XS.iconst X0.here hx rfl (hb hby at_5) ?_
      show Steps p.tables e below (s₁.setTop (mkF m 6 #[.val (.int p0s), .val (.int p1s), .val (.int p2s), .val (.int z406), .unset, .unset, .unset, .unset, .unset] [(.int (2 : Int32)), (.int p2s)])) _
      refine XS.iushr X0.here hx rfl (hb hby at_6) rfl ?_
      show Steps p.tables e below (s₁.setTop (mkF m 7 #[.val (.int p0s), .val (.int p1s), .val (.int p2s), .val (.int z406), .unset, .unset, .unset, .unset, .unset] [(.int ((p2s.toUInt32 >>> ((2 : Int32) &&& 31).toUInt32).toInt32))])) _
      refine XS.iconst X0.here hx rfl (hb hby at_7) ?_
      show Steps p.tables e below (s₁.setTop (mkF m 8 #[.val (.int p0s), .val (.int p1s), .val (.int p2s), .val (.int z406), .unset, .unset, .unset, .unset, .unset] [(.int (3 : Int32)), (.int ((p2s.toUInt32 >>> ((2 : Int32) &&& 31).toUInt32).toInt32))])) _
      refine XS.iand X0.here hx rfl (hb hby at_8) rfl ?_
      show Steps p.tables e below (s₁.setTop (mkF m 9 #[.val (.int p0s), .val (.int p1s), .val (.int p2s), .val (.int z406), .unset, .unset, .unset, .unset, .unset] [(.int (((p2s.toUInt32 >>> ((2 : Int32) &&& 31).toUInt32).toInt32) &&& (3 : Int32)))])) _
      refine XS.istore X0.here hx rfl (hb hby at_9) (x := z407) (rest := []) (by subst hz407; rfl) (l' := #[.val (.int p0s), .val (.int p1s), .val (.int p2s), .val (.int z406), .val (.int z407), .unset, .unset, .unset, .unset]) rfl ?_
      show Steps p.tables e below (s₁.setTop (mkF m 11 #[.val (.int p0s), .val (.int p1s), .val (.int p2s), .val (.int z406), .val (.int z407), .unset, .unset, .unset, .unset] [])) _
      refine XS.iloadN X0.here hx rfl (hb hby at_11) rfl ?_
      show Steps p.tables e below (s₁.setTop (mkF m 12 #[.val (.int p0s), .val (.int p1s), .val (.int p2s), .val (.int z406), .val (.int z407), .unset, .unset, .unset, .unset] [(.int p0s)])) _
      refine XS.iloadN X0.here hx rfl (hb hby at_12) rfl ?_
      exact kg_
    obtain ⟨_, _, ⟨T409, L409, k409, n409⟩, -, X409, hSi409, gr409, ⟨Lc409, hQ409, l409, y409, z409, CA409⟩, st409⟩ := Jvm.RoadKit.callSS X0 hx (y := (⟨"com/example/mexpile/mexpile/rules/RuleSetNameHasParameterPinLaw", "draw", "(II)Ljava/lang/String;"⟩ : MethodName)) hown (mvT hZ (hw _ (List.mem_of_getElem? (i := 0) rfl))) (mvT hZ (hw _ (List.mem_of_getElem? (i := 1) rfl))) (mvT hZ (hw _ (List.mem_of_getElem? (i := 2) rfl))) (mvT hZ (hw _ (List.mem_of_getElem? (i := 3) rfl))) (by decide) (backOfSH (s := s) (vm0 := s.vm) (EL := consts_1) (W := 0) (rm1 l Z a0 hw [] p0s z406 (zc) h0 n0 Z0 S1 hzc (by
            have q129_r := own_R32 p2s
            have q130_e : (3 : Int32).toInt = 3 := (by decide)
            have q130_r : (3 : Int) ≤ (3 : Int32).toInt ∧ (3 : Int32).toInt ≤ 3 := ⟨Int.le_of_eq q130_e.symm, Int.le_of_eq q130_e⟩
            have q131_ := own_maskR p2s (3 : Int32) 2 4 (by decide) (by decide) (by decide) 3 (by decide) (by decide)
            have q131_e := q131_.1
            have q131_r := q131_.2
            have q132_ := own_eqR32 hz406 q131_r
            have q132_e := q132_.1
            have q132_r := q132_.2
            omega)) hZ (hw _ (List.mem_of_getElem? (i := 3) rfl)) (hw _ (List.mem_of_getElem? (i := 2) rfl)) (by decide) (by decide) hEL CR0.1) (g := (mkF m 13 #[.val (.int p0s), .val (.int p1s), .val (.int p2s), .val (.int z406), .val (.int z407), .unset, .unset, .unset, .unset] [(.int z406), (.int p0s)])) rfl (by rw [hml]; rfl) (argsL := [(.int p0s), (.int z406)]) (rest := []) (lenOf pd_7 rfl) rfl (by show 2 * 0 + _ ≤ _; exact Nat.le_of_eq rfl) (hb hby at_13) (fun _ _ => ⟨rfl, e0, (by decide : 0 + 6 ≤ _), (by decide : 0 + 12 ≤ _)⟩)
    dsimp only [Pt.U, Pt.locs, Pt.cells, Pt.slots] at X409 l409 y409 z409 st409 hQ409 hSi409 gr409 CA409
    subst l409 y409 z409
    obtain ⟨X409, hS409, hZ, hown⟩ := rebS (s := s) (vm0 := s.vm) hS0 (show h0.size ≤ s₁.heap.size from Nat.le_trans hk0 (Nat.le_of_eq (by rw [e0]))) X409 hSi409 gr409 hZ hown
    obtain ⟨sr_409, bb_409, nl_409, gv_409, rfl, N409q, I409_0, I409_1, I409_2, I409_3, I409_4, I409_5⟩ := hQ409
    have N409 := Fr.app N0 N409q
    obtain ⟨h409, e409⟩ : ∃ z, T409.heap = z := ⟨_, rfl⟩
    rw [e409] at I409_0 I409_2 I409_3 I409_4 CA409
    have ge410 : n0 ≤ sr_409 := Nat.le_trans Z0 I409_1
    have old411 : h0.size ≤ sr_409 := Nat.le_trans K0.1 I409_1
    have F412 : Sta Z h409 "java/lang/String" "COMPACT_STRINGS" "Z" (.int zc) := S1.ext (own_extK I409_0)
    have K413 : Keep h0 h409 [] := K0.ext (own_extK I409_0)
    have Zs414 : n0 ≤ h409.size := Nat.le_trans Z0 (own_extK I409_0).1
    have CR415 : CHr Z consts_1 s.vm s.heap T409.vm h409 := CR0.trans CA409
    have hk416 : T409.heap.size ≤ h409.size := Nat.le_of_eq (by rw [e409])
    have r409 : own_R p.tables e below F0 (T409.setTop (mkF m 16 #[.val (.int p0s), .val (.int p1s), .val (.int p2s), .val (.int z406), .val (.int z407), .unset, .unset, .unset, .unset] [(.ref sr_409)])) := fun tg_ kg_ => r408 tg_ (st409.trans kg_)
    have r417 : own_R p.tables e below F0 (T409.setTop (mkF m 21 #[.val (.int p0s), .val (.int p1s), .val (.int p2s), .val (.int z406), .val (.int z407), .val (.ref sr_409), .unset, .unset, .unset] [(.int z407), (.int p1s)])) := fun tg_ kg_ => by
      refine r409 tg_ ?_
      show Steps p.tables e below (T409.setTop (mkF m 16 #[.val (.int p0s), .val (.int p1s), .val (.int p2s), .val (.int z406), .val (.int z407), .unset, .unset, .unset, .unset] [(.ref sr_409)])) _
      refine XS.astore X409.here hx rfl (hb hby at_16) rfl rfl (l' := #[.val (.int p0s), .val (.int p1s), .val (.int p2s), .val (.int z406), .val (.int z407), .val (.ref sr_409), .unset, .unset, .unset]) rfl ?_
      show Steps p.tables e below (T409.setTop (mkF m 18 #[.val (.int p0s), .val (.int p1s), .val (.int p2s), .val (.int z406), .val (.int z407), .val (.ref sr_409), .unset, .unset, .unset] [])) _
      refine XS.iloadN X409.here hx rfl (hb hby at_18) rfl ?_
      show Steps p.tables e below (T409.setTop (mkF m 19 #[.val (.int p0s), .val (.int p1s), .val (.int p2s), .val (.int z406), .val (.int z407), .val (.ref sr_409), .unset, .unset, .unset] [(.int p1s)])) _
      refine XS.iload X409.here hx rfl (hb hby at_19) rfl ?_
      exact kg_
    obtain ⟨_, _, ⟨T418, L418, k418, n418⟩, -, X418, hSi418, gr418, ⟨Lc418, hQ418, l418, y418, z418, CA418⟩, st418⟩ := Jvm.RoadKit.callSS X409 hx (y := (⟨"com/example/mexpile/mexpile/rules/RuleSetNameHasParameterPinLaw", "draw", "(II)Ljava/lang/String;"⟩ : MethodName)) hown (mvT hZ (hw _ (List.mem_of_getElem? (i := 0) rfl))) (mvT hZ (hw _ (List.mem_of_getElem? (i := 1) rfl))) (mvT hZ (hw _ (List.mem_of_getElem? (i := 2) rfl))) (mvT hZ (hw _ (List.mem_of_getElem? (i := 3) rfl))) (by decide) (backOfSH (s := s) (vm0 := T409.vm) (EL := consts_1) (W := 0) (rm1 l Z a0 hw [] p1s z407 (zc) h409 n0 Zs414 F412 hzc (by
            have q133_r := own_R32 p2s
            have q134_e : (2 : Int32).toInt = 2 := (by decide)
            have q134_r : (2 : Int) ≤ (2 : Int32).toInt ∧ (2 : Int32).toInt ≤ 2 := ⟨Int.le_of_eq q134_e.symm, Int.le_of_eq q134_e⟩
            have q135_r := own_R32 ((p2s.toUInt32 >>> ((2 : Int32) &&& 31).toUInt32).toInt32)
            have q136_ := own_iushr p2s (2 : Int32) 2 4 (by decide) (by decide) (by decide)
            have q137_e : (3 : Int32).toInt = 3 := (by decide)
            have q137_r : (3 : Int) ≤ (3 : Int32).toInt ∧ (3 : Int32).toInt ≤ 3 := ⟨Int.le_of_eq q137_e.symm, Int.le_of_eq q137_e⟩
            have q138_ := own_maskR ((p2s.toUInt32 >>> ((2 : Int32) &&& 31).toUInt32).toInt32) (3 : Int32) 2 4 (by decide) (by decide) (by decide) 3 (by decide) (by decide)
            have q138_e := q138_.1
            have q138_r := q138_.2
            have q139_ := own_eqR32 hz407 q138_r
            have q139_e := q139_.1
            have q139_r := q139_.2
            omega)) hZ (hw _ (List.mem_of_getElem? (i := 3) rfl)) (hw _ (List.mem_of_getElem? (i := 2) rfl)) (by decide) (by decide) hEL CR415.1) (g := (mkF m 21 #[.val (.int p0s), .val (.int p1s), .val (.int p2s), .val (.int z406), .val (.int z407), .val (.ref sr_409), .unset, .unset, .unset] [(.int z407), (.int p1s)])) rfl (by rw [hml]; rfl) (argsL := [(.int p1s), (.int z407)]) (rest := []) (lenOf pd_7 rfl) rfl (by show 2 * 0 + _ ≤ _; exact Nat.le_of_eq rfl) (hb hby at_21) (fun _ _ => ⟨rfl, e409, (by decide : 6 + 6 ≤ _), (by decide : 12 + 12 ≤ _)⟩)
    dsimp only [Pt.U, Pt.locs, Pt.cells, Pt.slots] at X418 l418 y418 z418 st418 hQ418 hSi418 gr418 CA418
    subst l418 y418 z418
    obtain ⟨X418, hS418, hZ, hown⟩ := rebS (s := s) (vm0 := T409.vm) hS409 (show T409.heap.size ≤ T409.heap.size from Nat.le_refl _) X418 hSi418 gr418 hZ hown
    obtain ⟨sr_418, bb_418, nl_418, gv_418, rfl, N418q, I418_0, I418_1, I418_2, I418_3, I418_4, I418_5⟩ := hQ418
    have N418 := Fr.app N409 N418q
    obtain ⟨h418, e418⟩ : ∃ z, T418.heap = z := ⟨_, rfl⟩
    rw [e418] at I418_0 I418_2 I418_3 I418_4 CA418
    have ne419 : sr_409 ≠ sr_418 := Nat.ne_of_lt (Nat.lt_of_lt_of_le I409_2.lt I418_1)
    have ne420 : bb_409 ≠ sr_418 := Nat.ne_of_lt (Nat.lt_of_lt_of_le I409_4.lt I418_1)
    have ge421 : n0 ≤ sr_418 := Nat.le_trans Zs414 I418_1
    have old422 : h0.size ≤ sr_418 := Nat.le_trans K413.1 I418_1
    have F423 : Sta Z h418 "java/lang/String" "COMPACT_STRINGS" "Z" (.int zc) := F412.ext (own_extK I418_0)
    have F424 : Exa Z h418 sr_409 "java/lang/String" := I409_2.ext (own_extK I418_0)
    have F425 : Fld Z h418 sr_409 "java/lang/String" "value" "[B" (.ref bb_409) := I409_3.ext (own_extK I418_0)
    have F426 : own_Arf Z h418 bb_409 .byte nl_409 (fun i => (.int (gv_409 i))) := I409_4.ext (own_extK I418_0)
    have K427 : Keep h0 h418 [] := K413.ext (own_extK I418_0)
    have Zs428 : n0 ≤ h418.size := Nat.le_trans Zs414 (own_extK I418_0).1
    have CR429 : CHr Z consts_1 s.vm s.heap T418.vm h418 := CR415.trans CA418
    have hk430 : T418.heap.size ≤ h418.size := Nat.le_of_eq (by rw [e418])
    have r418 : own_R p.tables e below F0 (T418.setTop (mkF m 24 #[.val (.int p0s), .val (.int p1s), .val (.int p2s), .val (.int z406), .val (.int z407), .val (.ref sr_409), .unset, .unset, .unset] [(.ref sr_418)])) := fun tg_ kg_ => r417 tg_ (st418.trans kg_)
    have hnl2 := I418_5
    have r431 : own_R p.tables e below F0 (T418.setTop (mkF m 26 #[.val (.int p0s), .val (.int p1s), .val (.int p2s), .val (.int z406), .val (.int z407), .val (.ref sr_409), .val (.ref sr_418), .unset, .unset] [])) := fun tg_ kg_ => by
      refine r418 tg_ ?_
      show Steps p.tables e below (T418.setTop (mkF m 24 #[.val (.int p0s), .val (.int p1s), .val (.int p2s), .val (.int z406), .val (.int z407), .val (.ref sr_409), .unset, .unset, .unset] [(.ref sr_418)])) _
      refine XS.astore X418.here hx rfl (hb hby at_24) rfl rfl (l' := #[.val (.int p0s), .val (.int p1s), .val (.int p2s), .val (.int z406), .val (.int z407), .val (.ref sr_409), .val (.ref sr_418), .unset, .unset]) rfl ?_
      exact kg_
    obtain ⟨T432, h432, X432, e432, E432, A432, D432, -, st432⟩ := newO X418 hx hZ hown (hw _ (List.mem_of_getElem? (i := 37) rfl)) (hw _ (List.mem_of_getElem? (i := 38) rfl)) (hw _ (List.mem_of_getElem? (i := 39) rfl)) e418 (g := (mkF m 26 #[.val (.int p0s), .val (.int p1s), .val (.int p2s), .val (.int z406), .val (.int z407), .val (.ref sr_409), .val (.ref sr_418), .unset, .unset] [])) rfl (hb hby at_26) (by decide) (by decide)
    obtain ⟨b432, g432⟩ : ∃ z, z = h418.size := ⟨_, rfl⟩
    rw [← g432] at A432 D432 st432
    have CR433 : CHr Z consts_1 s.vm s.heap T418.vm h432 := CR429.trans (CHr.ext E432 CR429.1)
    have hk434 : T418.heap.size ≤ h432.size := Nat.le_trans hk430 E432.1
    have Sf432 : Safe Z consts_1 T418.vm h432 b432 := Safe.ext E432 CR429.1 (Safe.new (Nat.le_of_eq g432.symm))
    have ne435 : sr_409 ≠ b432 := Nat.ne_of_lt (Nat.lt_of_lt_of_le F424.lt (Nat.le_of_eq g432.symm))
    have ne436 : bb_409 ≠ b432 := Nat.ne_of_lt (Nat.lt_of_lt_of_le F426.lt (Nat.le_of_eq g432.symm))
    have ne437 : sr_418 ≠ b432 := Nat.ne_of_lt (Nat.lt_of_lt_of_le I418_2.lt (Nat.le_of_eq g432.symm))
    have ne438 : bb_418 ≠ b432 := Nat.ne_of_lt (Nat.lt_of_lt_of_le I418_4.lt (Nat.le_of_eq g432.symm))
    have ge432 : n0 ≤ b432 := Nat.le_trans Zs428 (Nat.le_of_eq g432.symm)
    have old432 : h0.size ≤ b432 := Nat.le_trans K427.1 (Nat.le_of_eq g432.symm)
    have K432 : Keep h0 h432 [] := K427.ext E432
    have F439 : Sta Z h432 "java/lang/String" "COMPACT_STRINGS" "Z" (.int zc) := F423.ext E432
    have F440 : Exa Z h432 sr_409 "java/lang/String" := F424.ext E432
    have F441 : Fld Z h432 sr_409 "java/lang/String" "value" "[B" (.ref bb_409) := F425.ext E432
    have F442 : own_Arf Z h432 bb_409 .byte nl_409 (fun i => (.int (gv_409 i))) := F426.ext E432
    have F443 : Exa Z h432 sr_418 "java/lang/String" := I418_2.ext E432
    have F444 : Fld Z h432 sr_418 "java/lang/String" "value" "[B" (.ref bb_418) := I418_3.ext E432
    have F445 : own_Arf Z h432 bb_418 .byte nl_418 (fun i => (.int (gv_418 i))) := I418_4.ext E432
    have Zs446 : n0 ≤ h432.size := Nat.le_trans Zs428 E432.1
    have F447 : Fld Z h432 b432 "com/example/mexpile/mexpile/rules/RuleSetName" "family" "Ljava/lang/String;" .null := D432 (Or.inr (hw _ (List.mem_of_getElem? (i := 50) rfl))) (ty := (.object "java/lang/String")) (by decide)
    have F448 : Fld Z h432 b432 "com/example/mexpile/mexpile/rules/RuleSetName" "parameter" "Ljava/lang/String;" .null := D432 (Or.inr (hw _ (List.mem_of_getElem? (i := 52) rfl))) (ty := (.object "java/lang/String")) (by decide)
    have r432 : own_R p.tables e below F0 (T432.setTop (mkF m 29 #[.val (.int p0s), .val (.int p1s), .val (.int p2s), .val (.int z406), .val (.int z407), .val (.ref sr_409), .val (.ref sr_418), .unset, .unset] [(.ref b432)])) := fun tg_ kg_ => r431 tg_ (st432 tg_ kg_)
    have r449 : own_R p.tables e below F0 (T432.setTop (mkF m 34 #[.val (.int p0s), .val (.int p1s), .val (.int p2s), .val (.int z406), .val (.int z407), .val (.ref sr_409), .val (.ref sr_418), .unset, .unset] [(.ref sr_418), (.ref sr_409), (.ref b432), (.ref b432)])) := fun tg_ kg_ => by
      refine r432 tg_ ?_
      show Steps p.tables e below (T432.setTop (mkF m 29 #[.val (.int p0s), .val (.int p1s), .val (.int p2s), .val (.int z406), .val (.int z407), .val (.ref sr_409), .val (.ref sr_418), .unset, .unset] [(.ref b432)])) _
      refine XS.dup X432.here hx rfl (hb hby at_29) rfl rfl ?_
      show Steps p.tables e below (T432.setTop (mkF m 30 #[.val (.int p0s), .val (.int p1s), .val (.int p2s), .val (.int z406), .val (.int z407), .val (.ref sr_409), .val (.ref sr_418), .unset, .unset] [(.ref b432), (.ref b432)])) _
      refine XS.aload X432.here hx rfl (hb hby at_30) rfl rfl ?_
      show Steps p.tables e below (T432.setTop (mkF m 32 #[.val (.int p0s), .val (.int p1s), .val (.int p2s), .val (.int z406), .val (.int z407), .val (.ref sr_409), .val (.ref sr_418), .unset, .unset] [(.ref sr_409), (.ref b432), (.ref b432)])) _
      refine XS.aload X432.here hx rfl (hb hby at_32) rfl rfl ?_
      exact kg_
    obtain ⟨_, _, ⟨T450, L450, k450, n450⟩, -, X450, ⟨Lc450, hQ450, l450, y450, z450⟩, st450⟩ := X432.specialBack hx (y := (⟨"com/example/mexpile/mexpile/rules/RuleSetName", "<init>", "(Ljava/lang/String;Ljava/lang/String;)V"⟩ : MethodName)) rfl hown (mvT hZ (hw _ (List.mem_of_getElem? (i := 40) rfl))) (mvT hZ (hw _ (List.mem_of_getElem? (i := 41) rfl))) (mvT hZ (hw _ (List.mem_of_getElem? (i := 42) rfl))) (by decide) (backOf (W := 1) (rm8 l Z a0 hw [] b432 sr_409 sr_418 h432 n0 Zs446 A432 F447 F448 ge432) hZ (hw _ (List.mem_of_getElem? (i := 42) rfl)) (hw _ (List.mem_of_getElem? (i := 39) rfl)) (by decide) (by decide)) (g := (mkF m 34 #[.val (.int p0s), .val (.int p1s), .val (.int p2s), .val (.int z406), .val (.int z407), .val (.ref sr_409), .val (.ref sr_418), .unset, .unset] [(.ref sr_418), (.ref sr_409), (.ref b432), (.ref b432)])) rfl (by rw [hml]; rfl) (Steps.refl _) (a := b432) (argsL := [(.ref sr_409), (.ref sr_418)]) (rest := [(.ref b432)]) (lenOf pd_8 rfl) rfl (by show 2 * 0 + _ ≤ _; exact Nat.le_of_eq rfl) (hb hby at_34) (fun _ _ => ⟨rfl, e432, (by decide : 13 + 0 ≤ _), (by decide : 26 + 0 ≤ _)⟩)
    dsimp only [Pt.U, Pt.locs, Pt.cells, Pt.slots] at X450 l450 y450 z450 st450 hQ450
    subst l450 y450 z450
    obtain ⟨rfl, N450q, I450_0, I450_1, I450_2, I450_3⟩ := hQ450
    have N450 := Fr.app N418 N450q
    obtain ⟨h450, e450⟩ : ∃ z, T450.heap = z := ⟨_, rfl⟩
    rw [e450] at I450_0 I450_1 I450_2 I450_3
    have F452 : Exa Z h450 sr_409 "java/lang/String" := F440.keep I450_0
    have F453 : Fld Z h450 sr_409 "java/lang/String" "value" "[B" (.ref bb_409) := F441.keep I450_0 (ninS ne435 nin0)
    have F454 : own_Arf Z h450 bb_409 .byte nl_409 (fun i => (.int (gv_409 i))) := F442.keep I450_0 (ninS ne436 nin0)
    have F455 : Exa Z h450 sr_418 "java/lang/String" := F443.keep I450_0
    have F456 : Fld Z h450 sr_418 "java/lang/String" "value" "[B" (.ref bb_418) := F444.keep I450_0 (ninS ne437 nin0)
    have F457 : own_Arf Z h450 bb_418 .byte nl_418 (fun i => (.int (gv_418 i))) := F445.keep I450_0 (ninS ne438 nin0)
    have K458 : Keep h0 h450 [] := K432.trans I450_0 (allS (Or.inr old432) all0)
    have Zs459 : n0 ≤ h450.size := Nat.le_trans Zs446 I450_0.1
    have Sf460 : Safe Z consts_1 T418.vm h450 b432 := Safe.keep I450_0 (sfS Sf432 sf0) CR433.1 Sf432
    have CR461 : CHr Z consts_1 s.vm s.heap T418.vm h450 := CR433.trans (CHr.keep I450_0 (sfS Sf432 sf0) CR433.1)
    have hk462 : T418.heap.size ≤ h450.size := Nat.le_trans hk434 I450_0.1
    have r450 : own_R p.tables e below F0 (T450.setTop (mkF m 37 #[.val (.int p0s), .val (.int p1s), .val (.int p2s), .val (.int z406), .val (.int z407), .val (.ref sr_409), .val (.ref sr_418), .unset, .unset] [(.ref b432)])) := fun tg_ kg_ => r449 tg_ (st450.trans kg_)
    have r463 : own_R p.tables e below F0 (T450.setTop (mkF m 41 #[.val (.int p0s), .val (.int p1s), .val (.int p2s), .val (.int z406), .val (.int z407), .val (.ref sr_409), .val (.ref sr_418), .val (.ref b432), .unset] [(.int z407)])) := fun tg_ kg_ => by
      refine r450 tg_ ?_
      show Steps p.tables e below (T450.setTop (mkF m 37 #[.val (.int p0s), .val (.int p1s), .val (.int p2s), .val (.int z406), .val (.int z407), .val (.ref sr_409), .val (.ref sr_418), .unset, .unset] [(.ref b432)])) _
      refine XS.astore X450.here hx rfl (hb hby at_37) rfl rfl (l' := #[.val (.int p0s), .val (.int p1s), .val (.int p2s), .val (.int z406), .val (.int z407), .val (.ref sr_409), .val (.ref sr_418), .val (.ref b432), .unset]) rfl ?_
      show Steps p.tables e below (T450.setTop (mkF m 39 #[.val (.int p0s), .val (.int p1s), .val (.int p2s), .val (.int z406), .val (.int z407), .val (.ref sr_409), .val (.ref sr_418), .val (.ref b432), .unset] [])) _
      refine XS.iload X450.here hx rfl (hb hby at_39) rfl ?_
      exact kg_
    by_cases hc464 : z407 = (0 : Int32)
    · have r465 : own_R p.tables e below F0 (T450.setTop (mkF m 53 #[.val (.int p0s), .val (.int p1s), .val (.int p2s), .val (.int z406), .val (.int z407), .val (.ref sr_409), .val (.ref sr_418), .val (.ref b432), .val (.int (0 : Int32))] [(.ref b432)])) := fun tg_ kg_ => by
        refine r463 tg_ ?_
        show Steps p.tables e below (T450.setTop (mkF m 41 #[.val (.int p0s), .val (.int p1s), .val (.int p2s), .val (.int z406), .val (.int z407), .val (.ref sr_409), .val (.ref sr_418), .val (.ref b432), .unset] [(.int z407)])) _
        refine XS.ifYes X450.here hx rfl (pc0 := 41) (pc' := 48) rfl (hb hby at_41) rfl ((if0 _ _).trans (teq hc464).1) (by decide) (by decide) ?_
        show Steps p.tables e below (T450.setTop (mkF m 48 #[.val (.int p0s), .val (.int p1s), .val (.int p2s), .val (.int z406), .val (.int z407), .val (.ref sr_409), .val (.ref sr_418), .val (.ref b432), .unset] [])) _
        refine XS.iconst X450.here hx rfl (hb hby at_48) ?_
        show Steps p.tables e below (T450.setTop (mkF m 49 #[.val (.int p0s), .val (.int p1s), .val (.int p2s), .val (.int z406), .val (.int z407), .val (.ref sr_409), .val (.ref sr_418), .val (.ref b432), .unset] [(.int (0 : Int32))])) _
        refine XS.istore X450.here hx rfl (hb hby at_49) rfl (l' := #[.val (.int p0s), .val (.int p1s), .val (.int p2s), .val (.int z406), .val (.int z407), .val (.ref sr_409), .val (.ref sr_418), .val (.ref b432), .val (.int (0 : Int32))]) rfl ?_
        show Steps p.tables e below (T450.setTop (mkF m 51 #[.val (.int p0s), .val (.int p1s), .val (.int p2s), .val (.int z406), .val (.int z407), .val (.ref sr_409), .val (.ref sr_418), .val (.ref b432), .val (.int (0 : Int32))] [])) _
        refine XS.aload X450.here hx rfl (hb hby at_51) rfl rfl ?_
        exact kg_
      obtain ⟨cq466, kq466, q466a, q466b, q466c⟩ := isOf hZ e450 I450_1
      obtain ⟨_, _, ⟨T466, L466, k466, n466⟩, -, X466, ⟨Lc466, hQ466, l466, y466, z466⟩, st466⟩ := X450.virtualBack hx (y := (⟨"com/example/mexpile/mexpile/rules/RuleSetName", "hasParameter", "()Z"⟩ : MethodName)) (z := (⟨"com/example/mexpile/mexpile/rules/RuleSetName", "hasParameter", "()Z"⟩ : MethodName)) hown (mvT hZ (hw _ (List.mem_of_getElem? (i := 53) rfl))) (mvT hZ (hw _ (List.mem_of_getElem? (i := 54) rfl))) (notFace_of_selects (args := #[]) (mvT hZ (hw _ (List.mem_of_getElem? (i := 56) rfl)))) (mvT hZ (hw _ (List.mem_of_getElem? (i := 56) rfl))) (mvT hZ (hw _ (List.mem_of_getElem? (i := 55) rfl))) (by decide) (backOf (W := 0) (rm10 l Z a0 hw [] b432 (sr_418) (bb_418) (nl_418) (gv_418) h450 n0 Zs459 I450_1 I450_3 F455 F456 F457 (by
                have u2 := hnl2
                have q140_r := own_R32 p2s
                have q141_e : (2 : Int32).toInt = 2 := (by decide)
                have q141_r : (2 : Int) ≤ (2 : Int32).toInt ∧ (2 : Int32).toInt ≤ 2 := ⟨Int.le_of_eq q141_e.symm, Int.le_of_eq q141_e⟩
                have q142_r := own_R32 ((p2s.toUInt32 >>> ((2 : Int32) &&& 31).toUInt32).toInt32)
                have q143_ := own_iushr p2s (2 : Int32) 2 4 (by decide) (by decide) (by decide)
                have q144_e : (3 : Int32).toInt = 3 := (by decide)
                have q144_r : (3 : Int) ≤ (3 : Int32).toInt ∧ (3 : Int32).toInt ≤ 3 := ⟨Int.le_of_eq q144_e.symm, Int.le_of_eq q144_e⟩
                have q145_ := own_maskR ((p2s.toUInt32 >>> ((2 : Int32) &&& 31).toUInt32).toInt32) (3 : Int32) 2 4 (by decide) (by decide) (by decide) 3 (by decide) (by decide)
                have q145_e := q145_.1
                have q145_r := q145_.2
                have q146_ := own_eqR32 hz407 q145_r
                have q146_e := q146_.1
                have q146_r := q146_.2
                omega)) hZ (hw _ (List.mem_of_getElem? (i := 57) rfl)) (hw _ (List.mem_of_getElem? (i := 39) rfl)) (by decide) (by decide)) q466a q466c (g := (mkF m 53 #[.val (.int p0s), .val (.int p1s), .val (.int p2s), .val (.int z406), .val (.int z407), .val (.ref sr_409), .val (.ref sr_418), .val (.ref b432), .val (.int (0 : Int32))] [(.ref b432)])) rfl (by rw [hml]; rfl) (Steps.refl _) (argsL := []) (rest := []) (lenOf pd_6 rfl) rfl (by show 2 * 0 + _ ≤ _; exact Nat.le_of_eq rfl) (hb hby at_53) (fun _ _ => ⟨rfl, e450, (by decide : 13 + 0 ≤ _), (by decide : 26 + 0 ≤ _)⟩)
      dsimp only [Pt.U, Pt.locs, Pt.cells, Pt.slots] at X466 l466 y466 z466 st466 hQ466
      subst l466 y466 z466
      obtain ⟨rr_466, rfl, N466q, I466_0, I466_1⟩ := hQ466
      have N466 := Fr.app N450 N466q
      have r466 : own_R p.tables e below F0 (T466.setTop (mkF m 56 #[.val (.int p0s), .val (.int p1s), .val (.int p2s), .val (.int z406), .val (.int z407), .val (.ref sr_409), .val (.ref sr_418), .val (.ref b432), .val (.int (0 : Int32))] [(.int rr_466)])) := fun tg_ kg_ => r465 tg_ (st466.trans kg_)
      have r467 : own_R p.tables e below F0 (T466.setTop (mkF m 58 #[.val (.int p0s), .val (.int p1s), .val (.int p2s), .val (.int z406), .val (.int z407), .val (.ref sr_409), .val (.ref sr_418), .val (.ref b432), .val (.int (0 : Int32))] [(.int (0 : Int32)), (.int rr_466)])) := fun tg_ kg_ => by
        refine r466 tg_ ?_
        show Steps p.tables e below (T466.setTop (mkF m 56 #[.val (.int p0s), .val (.int p1s), .val (.int p2s), .val (.int z406), .val (.int z407), .val (.ref sr_409), .val (.ref sr_418), .val (.ref b432), .val (.int (0 : Int32))] [(.int rr_466)])) _
        refine XS.iload X466.here hx rfl (hb hby at_56) rfl ?_
        exact kg_
      by_cases hc468 : rr_466 = (0 : Int32)
      · have r469 : own_R p.tables e below F0 (T466.setTop (mkF m 66 #[.val (.int p0s), .val (.int p1s), .val (.int p2s), .val (.int z406), .val (.int z407), .val (.ref sr_409), .val (.ref sr_418), .val (.ref b432), .val (.int (0 : Int32))] [(.int (1 : Int32))])) := fun tg_ kg_ => by
          refine r467 tg_ ?_
          show Steps p.tables e below (T466.setTop (mkF m 58 #[.val (.int p0s), .val (.int p1s), .val (.int p2s), .val (.int z406), .val (.int z407), .val (.ref sr_409), .val (.ref sr_418), .val (.ref b432), .val (.int (0 : Int32))] [(.int (0 : Int32)), (.int rr_466)])) _
          refine XS.icmpNo X466.here hx rfl (hb hby at_58) rfl (teq hc468).2 ?_
          show Steps p.tables e below (T466.setTop (mkF m 61 #[.val (.int p0s), .val (.int p1s), .val (.int p2s), .val (.int z406), .val (.int z407), .val (.ref sr_409), .val (.ref sr_418), .val (.ref b432), .val (.int (0 : Int32))] [])) _
          refine XS.iconst X466.here hx rfl (hb hby at_61) ?_
          show Steps p.tables e below (T466.setTop (mkF m 62 #[.val (.int p0s), .val (.int p1s), .val (.int p2s), .val (.int z406), .val (.int z407), .val (.ref sr_409), .val (.ref sr_418), .val (.ref b432), .val (.int (0 : Int32))] [(.int (1 : Int32))])) _
          refine XS.goto X466.here hx rfl (pc0 := 62) (pc' := 66) rfl (hb hby at_62) (by decide) (by decide) ?_
          exact kg_
        refine hG (own_finW X466 hS418 (Nat.le_trans hk462 (Nat.le_of_eq (by rw [I466_0]))) hlk hZ hEL (by rw [I466_0]; exact CR461) (some (.int (nar .boolean (1 : Int32)))) (own_hv Bd.returns) ?_ (by decide) (by decide) (fun fs hr => r469 _ (retN X466 hx (t := .boolean) Bd.returns (by simp) (hb hby at_66) hr)))
        rw [I466_0]
        exact ⟨rfl, N466⟩
      · have r470 : own_R p.tables e below F0 (T466.setTop (mkF m 66 #[.val (.int p0s), .val (.int p1s), .val (.int p2s), .val (.int z406), .val (.int z407), .val (.ref sr_409), .val (.ref sr_418), .val (.ref b432), .val (.int (0 : Int32))] [(.int (0 : Int32))])) := fun tg_ kg_ => by
          refine r467 tg_ ?_
          show Steps p.tables e below (T466.setTop (mkF m 58 #[.val (.int p0s), .val (.int p1s), .val (.int p2s), .val (.int z406), .val (.int z407), .val (.ref sr_409), .val (.ref sr_418), .val (.ref b432), .val (.int (0 : Int32))] [(.int (0 : Int32)), (.int rr_466)])) _
          refine XS.icmpYes X466.here hx rfl (pc0 := 58) (pc' := 65) rfl (hb hby at_58) rfl (feq hc468).2 (by decide) (by decide) ?_
          show Steps p.tables e below (T466.setTop (mkF m 65 #[.val (.int p0s), .val (.int p1s), .val (.int p2s), .val (.int z406), .val (.int z407), .val (.ref sr_409), .val (.ref sr_418), .val (.ref b432), .val (.int (0 : Int32))] [])) _
          refine XS.iconst X466.here hx rfl (hb hby at_65) ?_
          exact kg_
        exfalso
        have q147_r := own_R32 p2s
        have q148_e : (2 : Int32).toInt = 2 := (by decide)
        have q148_r : (2 : Int) ≤ (2 : Int32).toInt ∧ (2 : Int32).toInt ≤ 2 := ⟨Int.le_of_eq q148_e.symm, Int.le_of_eq q148_e⟩
        have q149_r := own_R32 ((p2s.toUInt32 >>> ((2 : Int32) &&& 31).toUInt32).toInt32)
        have q150_ := own_iushr p2s (2 : Int32) 2 4 (by decide) (by decide) (by decide)
        have q151_e : (3 : Int32).toInt = 3 := (by decide)
        have q151_r : (3 : Int) ≤ (3 : Int32).toInt ∧ (3 : Int32).toInt ≤ 3 := ⟨Int.le_of_eq q151_e.symm, Int.le_of_eq q151_e⟩
        have q152_ := own_maskR ((p2s.toUInt32 >>> ((2 : Int32) &&& 31).toUInt32).toInt32) (3 : Int32) 2 4 (by decide) (by decide) (by decide) 3 (by decide) (by decide)
        have q152_e := q152_.1
        have q152_r := q152_.2
        have q153_ := own_eqR32 hz407 q152_r
        have q153_e := q153_.1
        have q153_r := q153_.2
        have q154_e : (0 : Int32).toInt = 0 := (by decide)
        have q154_r : (0 : Int) ≤ (0 : Int32).toInt ∧ (0 : Int32).toInt ≤ 0 := ⟨Int.le_of_eq q154_e.symm, Int.le_of_eq q154_e⟩
        have q155_r := own_R32 rr_466
        have q156_c := own_eq32 hc464
        have q157_c := own_ne32 hc468
        have u1 := I466_1
        have u2 := hnl2
        omega
    · have r471 : own_R p.tables e below F0 (T450.setTop (mkF m 53 #[.val (.int p0s), .val (.int p1s), .val (.int p2s), .val (.int z406), .val (.int z407), .val (.ref sr_409), .val (.ref sr_418), .val (.ref b432), .val (.int (1 : Int32))] [(.ref b432)])) := fun tg_ kg_ => by
        refine r463 tg_ ?_
        show Steps p.tables e below (T450.setTop (mkF m 41 #[.val (.int p0s), .val (.int p1s), .val (.int p2s), .val (.int z406), .val (.int z407), .val (.ref sr_409), .val (.ref sr_418), .val (.ref b432), .unset] [(.int z407)])) _
        refine XS.ifNo X450.here hx rfl (hb hby at_41) rfl ((if0 _ _).trans (feq hc464).1) ?_
        show Steps p.tables e below (T450.setTop (mkF m 44 #[.val (.int p0s), .val (.int p1s), .val (.int p2s), .val (.int z406), .val (.int z407), .val (.ref sr_409), .val (.ref sr_418), .val (.ref b432), .unset] [])) _
        refine XS.iconst X450.here hx rfl (hb hby at_44) ?_
        show Steps p.tables e below (T450.setTop (mkF m 45 #[.val (.int p0s), .val (.int p1s), .val (.int p2s), .val (.int z406), .val (.int z407), .val (.ref sr_409), .val (.ref sr_418), .val (.ref b432), .unset] [(.int (1 : Int32))])) _
        refine XS.goto X450.here hx rfl (pc0 := 45) (pc' := 49) rfl (hb hby at_45) (by decide) (by decide) ?_
        show Steps p.tables e below (T450.setTop (mkF m 49 #[.val (.int p0s), .val (.int p1s), .val (.int p2s), .val (.int z406), .val (.int z407), .val (.ref sr_409), .val (.ref sr_418), .val (.ref b432), .unset] [(.int (1 : Int32))])) _
        refine XS.istore X450.here hx rfl (hb hby at_49) rfl (l' := #[.val (.int p0s), .val (.int p1s), .val (.int p2s), .val (.int z406), .val (.int z407), .val (.ref sr_409), .val (.ref sr_418), .val (.ref b432), .val (.int (1 : Int32))]) rfl ?_
        show Steps p.tables e below (T450.setTop (mkF m 51 #[.val (.int p0s), .val (.int p1s), .val (.int p2s), .val (.int z406), .val (.int z407), .val (.ref sr_409), .val (.ref sr_418), .val (.ref b432), .val (.int (1 : Int32))] [])) _
        refine XS.aload X450.here hx rfl (hb hby at_51) rfl rfl ?_
        exact kg_
      obtain ⟨cq472, kq472, q472a, q472b, q472c⟩ := isOf hZ e450 I450_1
      obtain ⟨_, _, ⟨T472, L472, k472, n472⟩, -, X472, ⟨Lc472, hQ472, l472, y472, z472⟩, st472⟩ := X450.virtualBack hx (y := (⟨"com/example/mexpile/mexpile/rules/RuleSetName", "hasParameter", "()Z"⟩ : MethodName)) (z := (⟨"com/example/mexpile/mexpile/rules/RuleSetName", "hasParameter", "()Z"⟩ : MethodName)) hown (mvT hZ (hw _ (List.mem_of_getElem? (i := 53) rfl))) (mvT hZ (hw _ (List.mem_of_getElem? (i := 54) rfl))) (notFace_of_selects (args := #[]) (mvT hZ (hw _ (List.mem_of_getElem? (i := 56) rfl)))) (mvT hZ (hw _ (List.mem_of_getElem? (i := 56) rfl))) (mvT hZ (hw _ (List.mem_of_getElem? (i := 55) rfl))) (by decide) (backOf (W := 0) (rm10 l Z a0 hw [] b432 (sr_418) (bb_418) (nl_418) (gv_418) h450 n0 Zs459 I450_1 I450_3 F455 F456 F457 (by
                have u2 := hnl2
                have q158_r := own_R32 p2s
                have q159_e : (2 : Int32).toInt = 2 := (by decide)
                have q159_r : (2 : Int) ≤ (2 : Int32).toInt ∧ (2 : Int32).toInt ≤ 2 := ⟨Int.le_of_eq q159_e.symm, Int.le_of_eq q159_e⟩
                have q160_r := own_R32 ((p2s.toUInt32 >>> ((2 : Int32) &&& 31).toUInt32).toInt32)
                have q161_ := own_iushr p2s (2 : Int32) 2 4 (by decide) (by decide) (by decide)
                have q162_e : (3 : Int32).toInt = 3 := (by decide)
                have q162_r : (3 : Int) ≤ (3 : Int32).toInt ∧ (3 : Int32).toInt ≤ 3 := ⟨Int.le_of_eq q162_e.symm, Int.le_of_eq q162_e⟩
                have q163_ := own_maskR ((p2s.toUInt32 >>> ((2 : Int32) &&& 31).toUInt32).toInt32) (3 : Int32) 2 4 (by decide) (by decide) (by decide) 3 (by decide) (by decide)
                have q163_e := q163_.1
                have q163_r := q163_.2
                have q164_ := own_eqR32 hz407 q163_r
                have q164_e := q164_.1
                have q164_r := q164_.2
                omega)) hZ (hw _ (List.mem_of_getElem? (i := 57) rfl)) (hw _ (List.mem_of_getElem? (i := 39) rfl)) (by decide) (by decide)) q472a q472c (g := (mkF m 53 #[.val (.int p0s), .val (.int p1s), .val (.int p2s), .val (.int z406), .val (.int z407), .val (.ref sr_409), .val (.ref sr_418), .val (.ref b432), .val (.int (1 : Int32))] [(.ref b432)])) rfl (by rw [hml]; rfl) (Steps.refl _) (argsL := []) (rest := []) (lenOf pd_6 rfl) rfl (by show 2 * 0 + _ ≤ _; exact Nat.le_of_eq rfl) (hb hby at_53) (fun _ _ => ⟨rfl, e450, (by decide : 13 + 0 ≤ _), (by decide : 26 + 0 ≤ _)⟩)
      dsimp only [Pt.U, Pt.locs, Pt.cells, Pt.slots] at X472 l472 y472 z472 st472 hQ472
      subst l472 y472 z472
      obtain ⟨rr_472, rfl, N472q, I472_0, I472_1⟩ := hQ472
      have N472 := Fr.app N450 N472q
      have r472 : own_R p.tables e below F0 (T472.setTop (mkF m 56 #[.val (.int p0s), .val (.int p1s), .val (.int p2s), .val (.int z406), .val (.int z407), .val (.ref sr_409), .val (.ref sr_418), .val (.ref b432), .val (.int (1 : Int32))] [(.int rr_472)])) := fun tg_ kg_ => r471 tg_ (st472.trans kg_)
      have r473 : own_R p.tables e below F0 (T472.setTop (mkF m 58 #[.val (.int p0s), .val (.int p1s), .val (.int p2s), .val (.int z406), .val (.int z407), .val (.ref sr_409), .val (.ref sr_418), .val (.ref b432), .val (.int (1 : Int32))] [(.int (1 : Int32)), (.int rr_472)])) := fun tg_ kg_ => by
        refine r472 tg_ ?_
        show Steps p.tables e below (T472.setTop (mkF m 56 #[.val (.int p0s), .val (.int p1s), .val (.int p2s), .val (.int z406), .val (.int z407), .val (.ref sr_409), .val (.ref sr_418), .val (.ref b432), .val (.int (1 : Int32))] [(.int rr_472)])) _
        refine XS.iload X472.here hx rfl (hb hby at_56) rfl ?_
        exact kg_
      by_cases hc474 : rr_472 = (1 : Int32)
      · have r475 : own_R p.tables e below F0 (T472.setTop (mkF m 66 #[.val (.int p0s), .val (.int p1s), .val (.int p2s), .val (.int z406), .val (.int z407), .val (.ref sr_409), .val (.ref sr_418), .val (.ref b432), .val (.int (1 : Int32))] [(.int (1 : Int32))])) := fun tg_ kg_ => by
          refine r473 tg_ ?_
          show Steps p.tables e below (T472.setTop (mkF m 58 #[.val (.int p0s), .val (.int p1s), .val (.int p2s), .val (.int z406), .val (.int z407), .val (.ref sr_409), .val (.ref sr_418), .val (.ref b432), .val (.int (1 : Int32))] [(.int (1 : Int32)), (.int rr_472)])) _
          refine XS.icmpNo X472.here hx rfl (hb hby at_58) rfl (teq hc474).2 ?_
          show Steps p.tables e below (T472.setTop (mkF m 61 #[.val (.int p0s), .val (.int p1s), .val (.int p2s), .val (.int z406), .val (.int z407), .val (.ref sr_409), .val (.ref sr_418), .val (.ref b432), .val (.int (1 : Int32))] [])) _
          refine XS.iconst X472.here hx rfl (hb hby at_61) ?_
          show Steps p.tables e below (T472.setTop (mkF m 62 #[.val (.int p0s), .val (.int p1s), .val (.int p2s), .val (.int z406), .val (.int z407), .val (.ref sr_409), .val (.ref sr_418), .val (.ref b432), .val (.int (1 : Int32))] [(.int (1 : Int32))])) _
          refine XS.goto X472.here hx rfl (pc0 := 62) (pc' := 66) rfl (hb hby at_62) (by decide) (by decide) ?_
          exact kg_
        refine hG (own_finW X472 hS418 (Nat.le_trans hk462 (Nat.le_of_eq (by rw [I472_0]))) hlk hZ hEL (by rw [I472_0]; exact CR461) (some (.int (nar .boolean (1 : Int32)))) (own_hv Bd.returns) ?_ (by decide) (by decide) (fun fs hr => r475 _ (retN X472 hx (t := .boolean) Bd.returns (by simp) (hb hby at_66) hr)))
        rw [I472_0]
        exact ⟨rfl, N472⟩
      · have r476 : own_R p.tables e below F0 (T472.setTop (mkF m 66 #[.val (.int p0s), .val (.int p1s), .val (.int p2s), .val (.int z406), .val (.int z407), .val (.ref sr_409), .val (.ref sr_418), .val (.ref b432), .val (.int (1 : Int32))] [(.int (0 : Int32))])) := fun tg_ kg_ => by
          refine r473 tg_ ?_
          show Steps p.tables e below (T472.setTop (mkF m 58 #[.val (.int p0s), .val (.int p1s), .val (.int p2s), .val (.int z406), .val (.int z407), .val (.ref sr_409), .val (.ref sr_418), .val (.ref b432), .val (.int (1 : Int32))] [(.int (1 : Int32)), (.int rr_472)])) _
          refine XS.icmpYes X472.here hx rfl (pc0 := 58) (pc' := 65) rfl (hb hby at_58) rfl (feq hc474).2 (by decide) (by decide) ?_
          show Steps p.tables e below (T472.setTop (mkF m 65 #[.val (.int p0s), .val (.int p1s), .val (.int p2s), .val (.int z406), .val (.int z407), .val (.ref sr_409), .val (.ref sr_418), .val (.ref b432), .val (.int (1 : Int32))] [])) _
          refine XS.iconst X472.here hx rfl (hb hby at_65) ?_
          exact kg_
        exfalso
        have q165_r := own_R32 p2s
        have q166_e : (2 : Int32).toInt = 2 := (by decide)
        have q166_r : (2 : Int) ≤ (2 : Int32).toInt ∧ (2 : Int32).toInt ≤ 2 := ⟨Int.le_of_eq q166_e.symm, Int.le_of_eq q166_e⟩
        have q167_r := own_R32 ((p2s.toUInt32 >>> ((2 : Int32) &&& 31).toUInt32).toInt32)
        have q168_ := own_iushr p2s (2 : Int32) 2 4 (by decide) (by decide) (by decide)
        have q169_e : (3 : Int32).toInt = 3 := (by decide)
        have q169_r : (3 : Int) ≤ (3 : Int32).toInt ∧ (3 : Int32).toInt ≤ 3 := ⟨Int.le_of_eq q169_e.symm, Int.le_of_eq q169_e⟩
        have q170_ := own_maskR ((p2s.toUInt32 >>> ((2 : Int32) &&& 31).toUInt32).toInt32) (3 : Int32) 2 4 (by decide) (by decide) (by decide) 3 (by decide) (by decide)
        have q170_e := q170_.1
        have q170_r := q170_.2
        have q171_ := own_eqR32 hz407 q170_r
        have q171_e := q171_.1
        have q171_r := q171_.2
        have q172_e : (0 : Int32).toInt = 0 := (by decide)
        have q172_r : (0 : Int) ≤ (0 : Int32).toInt ∧ (0 : Int32).toInt ≤ 0 := ⟨Int.le_of_eq q172_e.symm, Int.le_of_eq q172_e⟩
        have q173_r := own_R32 rr_472
        have q174_e : (1 : Int32).toInt = 1 := (by decide)
        have q174_r : (1 : Int) ≤ (1 : Int32).toInt ∧ (1 : Int32).toInt ≤ 1 := ⟨Int.le_of_eq q174_e.symm, Int.le_of_eq q174_e⟩
        have q175_c := own_ne32 hc464
        have q176_c := own_ne32 hc474
        have u1 := I472_1
        have u2 := hnl2
        omega
  exact key _ _ id (fun t k => castTop (ef_0 m p0s p1s p2s) k)
set_option maxRecDepth 65536 in
set_option maxHeartbeats 40000000 in
theorem comes_1 {Post : Tables → Env → Array Value → State → Outcome → State → Prop} (hpost : ∀ tb e args s v u, (limb_1_1.after args s (.returned v) u = true ∧ limb_1_2.after args s (.returned v) u = true ∧ True) → ReturnedEndW s (.returned v) u (Jvm.fieldLocs frame_1_writes args s ++ Jvm.arrayLocs frame_1_arrays args s ++ Jvm.staticLocs frame_1_statics s) 24 1152 → Post tb e args s (.returned v) u) :
    ArmFor flags0 classFile x code maxLocals ret World_1 tables_1 room_1 Calls_1 rest_1 Pre_1 Post := by
  intro l hfl _ _ p e ha hc hk s m args below hf hA hF happ hP
  obtain ⟨hcalls, hrest, hpre⟩ := hP
  obtain ⟨-, -, -, hnamed, -, -, -, hat⟩ := (Spec.applies_iff hf).mp happ
  obtain ⟨hg, hn⟩ := and_e (Cond.before_iff.mp (show (Jvm.Cond.and given_1 narrow_1).before args s = true from hpre))
  obtain ⟨gw1, gw2⟩ := and_e hg
  obtain ⟨gw3, gw4⟩ := and_e gw2
  obtain ⟨gw5, gw6⟩ := and_e gw4
  obtain ⟨w0, w1, w2, rfl⟩ : ∃ w0 w1 w2 : Value, args = #[w0, w1, w2] := by
    have hs : args.size = 3 := by simpa [Cond.value, given_1] using gw1
    obtain ⟨L⟩ := args
    match L, hs with
    | [w0, w1, w2], _ => exact ⟨w0, w1, w2, rfl⟩
  have hw := fun d (hd : d ∈ tables_1) => atoms_spec (ws := Jvm.Cond.code x code maxLocals ret :: tables_1) hat d (List.mem_cons_of_mem _ hd)
  have hfit : Fit s := fun {y c} hc i hi => by
    obtain ⟨ha, rfl⟩ := Array.getElem?_eq_some_iff.mp hc
    have q := List.all_eq_true.mp ((Array.all_eq_true_iff_forall_mem.mp hF) _ (Array.getElem_mem ha)) i (List.mem_range.mpr hi)
    simpa [Array.getElem?_eq_getElem hi] using q
  obtain ⟨i0, ei0⟩ := is_v gw3
  obtain rfl : w0 = (.int i0) := Option.some.inj ei0
  obtain ⟨i1, ei1⟩ := is_v gw5
  obtain rfl : w1 = (.int i1) := Option.some.inj ei1
  obtain ⟨i2, ei2⟩ := is_v gw6
  obtain rfl : w2 = (.int i2) := Option.some.inj ei2
  have hr0 := Cond.before_iff.mp (show rest_1_c.before _ s = true from hrest)
  obtain ⟨u1, u2⟩ := and_e hr0
  obtain ⟨u3, u4⟩ := and_e u2
  obtain ⟨u5, u6⟩ := and_e u4
  obtain ⟨zc, ezc⟩ := is_v u3
  have S1 := Sta.start ezc (Or.inl (Cond.before_iff.mpr u1))
  have hzc : ¬ zc = (0 : Int32) := fun q => by
    have u7 := not_v u5
    rw [eq_i ezc (Term.int_eval (0)) (by rw [q])] at u7
    cases u7
  obtain ⟨n, o, h1, h2, h3, _, L, rfl, ⟨rfl, N⟩, -, hq⟩ := rm0 l s _ hw tables_1 i0 i1 i2 zc s.heap s.heap.size (Nat.le_refl _) S1 hzc p e ha hc hk s m _ below hf ((Spec.applies_iff_loose hf).mp happ).1 ⟨rfl, State.Warmed39.refl s, rfl, CHv.start (own_EW hw) (fun p hp => hcalls.1 p hp) (Cond.before_iff.mpr u5) (hw _ (List.mem_of_getElem? (i := 23) rfl)) (hw _ (List.mem_of_getElem? (i := 5) rfl))⟩ trivial
  refine ⟨n, _, h1, h2, h3, hpost _ _ _ _ _ _ ⟨Cond.after_iff.mpr rfl, Cond.after_iff.mpr (eq_i res_at (Term.int_eval (1)) rfl), trivial⟩ ⟨hq.1, hq.2.1, hq.2.2.1, (hq.2.2.2.sift fun y hy => Or.inr (N y hy)).mono (by decide) (by decide)⟩⟩
theorem main_1_1 : Claimed_1_1 := comes_1 fun _ _ _ _ _ _ h hF => ⟨h.1, hF⟩
theorem main_1_2 : Claimed_1_2 := comes_1 fun _ _ _ _ _ _ h hF => ⟨h.2.1, hF⟩
end Jvm.Pilot.@@N@@
namespace Jvm.Pilot.@@N@@
open Jvm Jvm.ClassFile Sem Op Lib Jvm.Free Jvm.Stand Jvm.Pilot.@@N@@.Jvm.D
/-! MADE BY PROGRAM (witnessworld.py) out of the Statement's table words and the real class files: 21 classes; the members and pool entries that the words name. The judged class is class 1, her method 1. -/
namespace start1
open Jvm.ClassFile
def u (s : String) : CpInfo := .utf8 (stringToUtf16 s)
/-- a pool by its gaps: so many unusable entries, then the entry; so many at the end -/
def gap : Nat → List CpInfo → List CpInfo
  | 0, r => r
  | n + 1, r => .unusable :: gap n r
def poolList (es : List (Nat × CpInfo)) (last : Nat) : List CpInfo := es.foldr (fun e r => gap e.1 (e.2 :: r)) (gap last [])
def pool (es : List (Nat × CpInfo)) (last : Nat) : Array CpInfo := ⟨poolList es last⟩
def fileOf (pool : Array CpInfo) (this : Nat) (attrs : Array Attribute := #[]) (ms : Array MethodInfo := #[]) (fl : Nat := 33) (sup : Nat := 0) (ifs : Array Nat := #[]) (fds : Array FieldInfo := #[]) : ClassFile where
  minorVersion := 0
  majorVersion := 65
  constantPool := pool
  accessFlags := fl
  thisClass := this
  superClass := sup
  interfaces := ifs
  fields := fds
  methods := ms
  attributes := attrs
def plain (name : String) (sup : Option ClassId) : Class where
  name := name
  kind := .ordinary
  loader := none
  accessFlags := 33
  super := sup
  interfaces := #[]
  cf := none
  fields := #[]
  methods := #[]
  instanceTypes := #[]
  staticTypes := #[]
  resolved := #[]
  callSites := []
  init := .initialized
  statics := none
  mirror := none

def pool0 : Array CpInfo := pool [(5, u "<init>"), (0, u "()V"), (1, .class_ 10), (1, u "java/lang/Object")] 113

def k0c0 : Code := { maxStack := 0, maxLocals := 1, code := object_method_1_code, exceptionTable := #[], attributes := #[] }
def k0m0 : Method := { name := "<init>", desc := "()V", sig := { parameters := [], returnType := none }, accessFlags := 1, code := some k0c0 }
/-- java/lang/Object -/
def k0 : Class := { plain "java/lang/Object" none with
  accessFlags := 33
  interfaces := #[]
  cf := some (fileOf pool0 8 #[] #[{ accessFlags := 1, nameIndex := 5, descriptorIndex := 6, attributes := #[] }] 33 0 #[] #[])
  fields := #[]
  methods := #[k0m0]
  instanceTypes := #[]
  staticTypes := #[]
  resolved := Array.replicate 124 none
  statics := none }

def pool1 : Array CpInfo := pool [(2, .class_ 4), (1, u "java/lang/Object"), (0, u "<init>"), (0, u "()V"), (0, .methodref 8 9), (0, .class_ 10), (0, .nameAndType 11 12), (0, u "com/example/mexpile/mexpile/rules/RuleSetNameHasParameterPinLaw"), (0, u "draw"), (0, u "(II)Ljava/lang/String;"), (0, .class_ 14), (0, u "com/example/mexpile/mexpile/rules/RuleSetName"), (0, .methodref 13 16), (0, .nameAndType 5 17), (0, u "(Ljava/lang/String;Ljava/lang/String;)V"), (0, .methodref 13 19), (0, .nameAndType 20 21), (0, u "hasParameter"), (0, u "()Z"), (0, .class_ 23), (0, u "java/lang/String"), (0, .methodref 22 25), (0, .nameAndType 5 26), (0, u "([C)V"), (2, u "law"), (0, u "(III)Z")] 3

def k1m0 : Method := { name := "<init>", desc := "()V", sig := { parameters := [], returnType := none }, accessFlags := 1, code := none }
def k1c1 : Code := { maxStack := 4, maxLocals := 9, code := code, exceptionTable := #[], attributes := #[] }
def k1m1 : Method := { name := "law", desc := "(III)Z", sig := { parameters := [.int, .int, .int], returnType := some .boolean }, accessFlags := 9, code := some k1c1 }
def k1c2 : Code := { maxStack := 6, maxLocals := 5, code := method_3_code, exceptionTable := #[], attributes := #[] }
def k1m2 : Method := { name := "draw", desc := "(II)Ljava/lang/String;", sig := { parameters := [.int, .int], returnType := some (.object "java/lang/String") }, accessFlags := 10, code := some k1c2 }
/-- com/example/mexpile/mexpile/rules/RuleSetNameHasParameterPinLaw -/
def k1 : Class := { plain "com/example/mexpile/mexpile/rules/RuleSetNameHasParameterPinLaw" (some 0) with
  accessFlags := 49
  interfaces := #[]
  cf := some (fileOf pool1 8 #[] #[{ accessFlags := 1, nameIndex := 5, descriptorIndex := 6, attributes := #[] }, { accessFlags := 9, nameIndex := 29, descriptorIndex := 30, attributes := #[] }, { accessFlags := 10, nameIndex := 11, descriptorIndex := 12, attributes := #[] }] 49 2 #[] #[])
  fields := #[]
  methods := #[k1m0, k1m1, k1m2]
  instanceTypes := #[]
  staticTypes := #[]
  resolved := Array.replicate 34 none
  statics := none }

def pool2 : Array CpInfo := pool [(1, .class_ 2), (0, u "java/io/Serializable"), (0, .class_ 4), (0, u "java/lang/Object")] 2

/-- java/io/Serializable -/
def k2 : Class := { plain "java/io/Serializable" (some 0) with
  accessFlags := 1537
  interfaces := #[]
  cf := some (fileOf pool2 1 #[] #[] 1537 3 #[] #[])
  fields := #[]
  methods := #[]
  instanceTypes := #[]
  staticTypes := #[]
  resolved := Array.replicate 7 none
  statics := none }

def pool3 : Array CpInfo := pool [(1, .class_ 2), (0, u "java/lang/Comparable"), (0, .class_ 4), (0, u "java/lang/Object")] 7

/-- java/lang/Comparable -/
def k3 : Class := { plain "java/lang/Comparable" (some 0) with
  accessFlags := 1537
  interfaces := #[]
  cf := some (fileOf pool3 1 #[] #[] 1537 3 #[] #[])
  fields := #[]
  methods := #[]
  instanceTypes := #[]
  staticTypes := #[]
  resolved := Array.replicate 12 none
  statics := none }

def pool4 : Array CpInfo := pool [(2, .class_ 4), (1, u "java/lang/CharSequence"), (42, .class_ 48), (0, u "java/lang/CharSequence$1CodePointIterator"), (10, .class_ 60), (0, u "java/lang/CharSequence$1CharIterator"), (5, .class_ 67), (0, u "java/lang/Object")] 63

/-- java/lang/CharSequence -/
def k4 : Class := { plain "java/lang/CharSequence" (some 0) with
  accessFlags := 1537
  interfaces := #[]
  cf := some (fileOf pool4 2 #[.nestMembers #[47, 59]] #[] 1537 66 #[] #[])
  fields := #[]
  methods := #[]
  instanceTypes := #[]
  staticTypes := #[]
  resolved := Array.replicate 131 none
  statics := none }

def pool5 : Array CpInfo := pool [(1, .class_ 2), (0, u "java/lang/constant/Constable"), (0, .class_ 4), (0, u "java/lang/Object")] 6

/-- java/lang/constant/Constable -/
def k5 : Class := { plain "java/lang/constant/Constable" (some 0) with
  accessFlags := 1537
  interfaces := #[]
  cf := some (fileOf pool5 1 #[] #[] 1537 3 #[] #[])
  fields := #[]
  methods := #[]
  instanceTypes := #[]
  staticTypes := #[]
  resolved := Array.replicate 11 none
  statics := none }

def pool6 : Array CpInfo := pool [(1, .class_ 2), (0, u "java/lang/constant/ConstantDesc"), (0, .class_ 4), (0, u "java/lang/Object")] 32

/-- java/lang/constant/ConstantDesc -/
def k6 : Class := { plain "java/lang/constant/ConstantDesc" (some 0) with
  accessFlags := 1537
  interfaces := #[]
  cf := some (fileOf pool6 1 #[] #[] 1537 3 #[] #[])
  fields := #[]
  methods := #[]
  instanceTypes := #[]
  staticTypes := #[]
  resolved := Array.replicate 37 none
  statics := none }

def pool7 : Array CpInfo := pool [(1, .methodref 2 3), (0, .class_ 4), (0, .nameAndType 5 6), (0, u "java/lang/Object"), (0, u "<init>"), (0, u "()V"), (0, .string 8), (0, u ""), (0, .fieldref 10 11), (0, .class_ 12), (0, .nameAndType 13 14), (0, u "java/lang/String"), (0, u "value"), (0, u "[B"), (0, .fieldref 10 16), (0, .nameAndType 17 18), (0, u "coder"), (0, u "B"), (2, u "hash"), (0, u "I"), (2, u "hashIsZero"), (0, u "Z"), (0, .methodref 10 28), (0, .nameAndType 5 29), (0, u "([CIILjava/lang/Void;)V"), (8, .fieldref 10 39), (0, .nameAndType 40 26), (0, u "COMPACT_STRINGS"), (1, .class_ 44), (1, u "java/lang/StringUTF16"), (0, u "compress"), (1, .methodref 42 48), (0, .nameAndType 49 50), (0, u "coderFromArrayLen"), (0, u "([BI)B"), (91, u "()Z"), (34, .methodref 42 178), (0, .nameAndType 45 179), (0, u "([CII)[B"), (395, .class_ 576), (0, u "java/lang/CharSequence"), (22, u "CASE_INSENSITIVE_ORDER"), (0, u "Ljava/util/Comparator;"), (91, u "isEmpty"), (317, u "([C)V"), (90, u "serialPersistentFields"), (0, u "[Ljava/io/ObjectStreamField;"), (0, .class_ 1104), (0, u "java/lang/String$CaseInsensitiveComparator"), (1, .class_ 1107), (0, u "java/io/Serializable"), (0, .class_ 1109), (0, u "java/lang/Comparable"), (0, .class_ 1111), (0, u "java/lang/constant/Constable"), (0, .class_ 1113), (0, u "java/lang/constant/ConstantDesc"), (2, u "serialVersionUID"), (0, u "J"), (3, u "REPL"), (0, u "C"), (2, u "LATIN1"), (1, u "UTF16")] 323

def k7m0 : Method := { name := "<init>", desc := "()V", sig := { parameters := [], returnType := none }, accessFlags := 1, code := none }
def k7c1 : Code := { maxStack := 5, maxLocals := 2, code := jdk_42_method_3_code, exceptionTable := #[], attributes := #[] }
def k7m1 : Method := { name := "<init>", desc := "([C)V", sig := { parameters := [(.array .char)], returnType := none }, accessFlags := 1, code := some k7c1 }
def k7c2 : Code := { maxStack := 1, maxLocals := 1, code := jdk_42_method_55_code, exceptionTable := #[], attributes := #[] }
def k7m2 : Method := { name := "isEmpty", desc := "()Z", sig := { parameters := [], returnType := some .boolean }, accessFlags := 1, code := some k7c2 }
def k7c3 : Code := { maxStack := 4, maxLocals := 6, code := jdk_42_method_149_code, exceptionTable := #[], attributes := #[] }
def k7m3 : Method := { name := "<init>", desc := "([CIILjava/lang/Void;)V", sig := { parameters := [(.array .char), .int, .int, (.object "java/lang/Void")], returnType := none }, accessFlags := 2, code := some k7c3 }
/-- java/lang/String -/
def k7 : Class := { plain "java/lang/String" (some 0) with
  accessFlags := 49
  interfaces := #[2, 3, 4, 5, 6]
  cf := some (fileOf pool7 10 #[.nestMembers #[1103]] #[{ accessFlags := 1, nameIndex := 5, descriptorIndex := 6, attributes := #[] }, { accessFlags := 1, nameIndex := 5, descriptorIndex := 1010, attributes := #[] }, { accessFlags := 1, nameIndex := 692, descriptorIndex := 142, attributes := #[] }, { accessFlags := 2, nameIndex := 5, descriptorIndex := 29, attributes := #[] }] 49 2 #[1106, 1108, 575, 1110, 1112] #[{ accessFlags := 18, nameIndex := 13, descriptorIndex := 14, attributes := #[] }, { accessFlags := 18, nameIndex := 17, descriptorIndex := 18, attributes := #[] }, { accessFlags := 2, nameIndex := 21, descriptorIndex := 22, attributes := #[] }, { accessFlags := 2, nameIndex := 25, descriptorIndex := 26, attributes := #[] }, { accessFlags := 26, nameIndex := 1116, descriptorIndex := 1117, attributes := #[] }, { accessFlags := 24, nameIndex := 40, descriptorIndex := 26, attributes := #[] }, { accessFlags := 26, nameIndex := 1101, descriptorIndex := 1102, attributes := #[] }, { accessFlags := 26, nameIndex := 1121, descriptorIndex := 1122, attributes := #[] }, { accessFlags := 25, nameIndex := 599, descriptorIndex := 600, attributes := #[] }, { accessFlags := 24, nameIndex := 1125, descriptorIndex := 18, attributes := #[] }, { accessFlags := 24, nameIndex := 1127, descriptorIndex := 18, attributes := #[] }])
  fields := #[{ name := "value", type := (.array .byte), accessFlags := 18, slot := 0, constantValue := 0 }, { name := "coder", type := .byte, accessFlags := 18, slot := 1, constantValue := 0 }, { name := "hash", type := .int, accessFlags := 2, slot := 2, constantValue := 0 }, { name := "hashIsZero", type := .boolean, accessFlags := 2, slot := 3, constantValue := 0 }, { name := "serialVersionUID", type := .long, accessFlags := 26, slot := 0, constantValue := 0 }, { name := "COMPACT_STRINGS", type := .boolean, accessFlags := 24, slot := 1, constantValue := 0 }, { name := "serialPersistentFields", type := (.array (.object "java/io/ObjectStreamField")), accessFlags := 26, slot := 2, constantValue := 0 }, { name := "REPL", type := .char, accessFlags := 26, slot := 3, constantValue := 0 }, { name := "CASE_INSENSITIVE_ORDER", type := (.object "java/util/Comparator"), accessFlags := 25, slot := 4, constantValue := 0 }, { name := "LATIN1", type := .byte, accessFlags := 24, slot := 5, constantValue := 0 }, { name := "UTF16", type := .byte, accessFlags := 24, slot := 6, constantValue := 0 }]
  methods := #[k7m0, k7m1, k7m2, k7m3]
  instanceTypes := #[(.array .byte), .byte, .int, .boolean]
  staticTypes := #[.long, .boolean, (.array (.object "java/io/ObjectStreamField")), .char, (.object "java/util/Comparator"), .byte, .byte]
  resolved := Array.replicate 1451 none
  statics := some 0 }

def pool8 : Array CpInfo := pool [(6, .class_ 8), (1, u "java/lang/Object"), (0, u "<init>"), (0, u "()V"), (1, .class_ 14), (1, u "java/lang/StringUTF16"), (31, u "$assertionsDisabled"), (0, u "Z"), (13, u "HI_BYTE_SHIFT"), (0, u "I"), (2, u "LO_BYTE_SHIFT"), (49, .methodref 12 116), (0, .nameAndType 117 118), (0, u "compress"), (0, u "([CI[BII)I"), (3, u "([CII)[B"), (138, u "coderFromArrayLen"), (0, u "([BI)B"), (106, .class_ 371), (1, u "java/lang/StringUTF16$LinesSpliterator"), (58, u "MAX_LENGTH"), (196, .class_ 628), (0, u "java/lang/StringUTF16$CodePointsSpliterator"), (0, .class_ 630), (0, u "java/lang/StringUTF16$CharsSpliterator")] 4

def k8m0 : Method := { name := "<init>", desc := "()V", sig := { parameters := [], returnType := none }, accessFlags := 0, code := none }
def k8c1 : Code := { maxStack := 2, maxLocals := 2, code := jdk_52_method_15_code, exceptionTable := #[], attributes := #[] }
def k8m1 : Method := { name := "coderFromArrayLen", desc := "([BI)B", sig := { parameters := [(.array .byte), .int], returnType := some .byte }, accessFlags := 8, code := some k8c1 }
def k8c2 : Code := { maxStack := 5, maxLocals := 6, code := jdk_52_method_16_code, exceptionTable := #[], attributes := #[] }
def k8m2 : Method := { name := "compress", desc := "([CII)[B", sig := { parameters := [(.array .char), .int, .int], returnType := some (.array .byte) }, accessFlags := 9, code := some k8c2 }
def k8c3 : Code := { maxStack := 3, maxLocals := 7, code := jdk_52_method_21_code, exceptionTable := #[], attributes := #[] }
def k8m3 : Method := { name := "compress", desc := "([CI[BII)I", sig := { parameters := [(.array .char), .int, (.array .byte), .int, .int], returnType := some .int }, accessFlags := 9, code := some k8c3 }
/-- java/lang/StringUTF16 -/
def k8 : Class := { plain "java/lang/StringUTF16" (some 0) with
  accessFlags := 48
  interfaces := #[]
  cf := some (fileOf pool8 12 #[.nestMembers #[627, 629, 369]] #[{ accessFlags := 0, nameIndex := 9, descriptorIndex := 10, attributes := #[] }, { accessFlags := 8, nameIndex := 261, descriptorIndex := 262, attributes := #[] }, { accessFlags := 9, nameIndex := 117, descriptorIndex := 122, attributes := #[] }, { accessFlags := 9, nameIndex := 117, descriptorIndex := 118, attributes := #[] }] 48 6 #[] #[{ accessFlags := 26, nameIndex := 61, descriptorIndex := 62, attributes := #[] }, { accessFlags := 26, nameIndex := 65, descriptorIndex := 62, attributes := #[] }, { accessFlags := 24, nameIndex := 430, descriptorIndex := 62, attributes := #[] }, { accessFlags := 4120, nameIndex := 46, descriptorIndex := 47, attributes := #[] }])
  fields := #[{ name := "HI_BYTE_SHIFT", type := .int, accessFlags := 26, slot := 0, constantValue := 0 }, { name := "LO_BYTE_SHIFT", type := .int, accessFlags := 26, slot := 1, constantValue := 0 }, { name := "MAX_LENGTH", type := .int, accessFlags := 24, slot := 2, constantValue := 0 }, { name := "$assertionsDisabled", type := .boolean, accessFlags := 4120, slot := 3, constantValue := 0 }]
  methods := #[k8m0, k8m1, k8m2, k8m3]
  instanceTypes := #[]
  staticTypes := #[.int, .int, .int, .boolean]
  resolved := Array.replicate 635 none
  statics := none }

def pool9 : Array CpInfo := pool [(1, .methodref 2 3), (0, .class_ 4), (0, .nameAndType 5 6), (0, u "java/lang/Object"), (0, u "<init>"), (0, u "()V"), (0, .class_ 8), (0, u "java/lang/Record")] 13

def k9c0 : Code := { maxStack := 1, maxLocals := 1, code := jdk_30_method_1_code, exceptionTable := #[], attributes := #[] }
def k9m0 : Method := { name := "<init>", desc := "()V", sig := { parameters := [], returnType := none }, accessFlags := 4, code := some k9c0 }
/-- java/lang/Record -/
def k9 : Class := { plain "java/lang/Record" (some 0) with
  accessFlags := 1057
  interfaces := #[]
  cf := some (fileOf pool9 7 #[] #[{ accessFlags := 4, nameIndex := 5, descriptorIndex := 6, attributes := #[] }] 1057 2 #[] #[])
  fields := #[]
  methods := #[k9m0]
  instanceTypes := #[]
  staticTypes := #[]
  resolved := Array.replicate 22 none
  statics := none }

def pool10 : Array CpInfo := pool [(1, .methodref 2 3), (0, .class_ 4), (0, .nameAndType 5 6), (0, u "java/lang/Record"), (0, u "<init>"), (0, u "()V"), (0, .fieldref 8 9), (0, .class_ 10), (0, .nameAndType 11 12), (0, u "com/example/mexpile/mexpile/rules/RuleSetName"), (0, u "family"), (0, u "Ljava/lang/String;"), (0, .fieldref 8 14), (0, .nameAndType 15 12), (0, u "parameter"), (1, .class_ 19), (1, u "java/lang/String"), (11, .methodref 17 32), (0, .nameAndType 33 34), (0, u "isEmpty"), (0, u "()Z"), (10, u "(Ljava/lang/String;Ljava/lang/String;)V"), (11, u "hasParameter")] 50

def k10c0 : Code := { maxStack := 2, maxLocals := 3, code := prog_51_method_1_code, exceptionTable := #[], attributes := #[] }
def k10m0 : Method := { name := "<init>", desc := "(Ljava/lang/String;Ljava/lang/String;)V", sig := { parameters := [(.object "java/lang/String"), (.object "java/lang/String")], returnType := none }, accessFlags := 1, code := some k10c0 }
def k10c1 : Code := { maxStack := 1, maxLocals := 1, code := prog_51_method_4_code, exceptionTable := #[], attributes := #[] }
def k10m1 : Method := { name := "hasParameter", desc := "()Z", sig := { parameters := [], returnType := some .boolean }, accessFlags := 1, code := some k10c1 }
/-- com/example/mexpile/mexpile/rules/RuleSetName -/
def k10 : Class := { plain "com/example/mexpile/mexpile/rules/RuleSetName" (some 9) with
  accessFlags := 49
  interfaces := #[]
  cf := some (fileOf pool10 8 #[] #[{ accessFlags := 1, nameIndex := 5, descriptorIndex := 45, attributes := #[] }, { accessFlags := 1, nameIndex := 57, descriptorIndex := 34, attributes := #[] }] 49 2 #[] #[{ accessFlags := 18, nameIndex := 11, descriptorIndex := 12, attributes := #[] }, { accessFlags := 18, nameIndex := 15, descriptorIndex := 12, attributes := #[] }])
  fields := #[{ name := "family", type := (.object "java/lang/String"), accessFlags := 18, slot := 0, constantValue := 0 }, { name := "parameter", type := (.object "java/lang/String"), accessFlags := 18, slot := 1, constantValue := 0 }]
  methods := #[k10m0, k10m1]
  instanceTypes := #[(.object "java/lang/String"), (.object "java/lang/String")]
  staticTypes := #[]
  resolved := Array.replicate 108 none
  statics := none }

def pool11 : Array CpInfo := pool [(4, .class_ 6), (1, u "java/lang/Object"), (0, u "<init>"), (0, u "()V"), (5, .class_ 16), (1, u "java/lang/StringLatin1"), (104, u "$assertionsDisabled"), (0, u "Z"), (98, .class_ 223), (1, u "java/lang/StringLatin1$LinesSpliterator"), (166, .class_ 391), (0, u "java/lang/StringLatin1$CharsSpliterator")] 3

def k11m0 : Method := { name := "<init>", desc := "()V", sig := { parameters := [], returnType := none }, accessFlags := 0, code := none }
/-- java/lang/StringLatin1 -/
def k11 : Class := { plain "java/lang/StringLatin1" (some 0) with
  accessFlags := 48
  interfaces := #[]
  cf := some (fileOf pool11 14 #[.nestMembers #[390, 221]] #[{ accessFlags := 0, nameIndex := 7, descriptorIndex := 8, attributes := #[] }] 48 4 #[] #[{ accessFlags := 4120, nameIndex := 121, descriptorIndex := 122, attributes := #[] }])
  fields := #[{ name := "$assertionsDisabled", type := .boolean, accessFlags := 4120, slot := 0, constantValue := 0 }]
  methods := #[k11m0]
  instanceTypes := #[]
  staticTypes := #[.boolean]
  resolved := Array.replicate 395 none
  statics := none }

def pool12 : Array CpInfo := pool [(2, .class_ 4), (1, u "java/lang/Object"), (0, u "<init>"), (0, u "()V"), (17, .class_ 26), (1, u "jdk/internal/util/Preconditions"), (28, .class_ 56), (0, u "jdk/internal/util/Preconditions$4"), (57, .class_ 115), (0, u "jdk/internal/util/Preconditions$1"), (7, u "SIOOBE_FORMATTER"), (0, u "Ljava/util/function/BiFunction;"), (0, .class_ 126), (0, u "jdk/internal/util/Preconditions$2"), (3, u "AIOOBE_FORMATTER"), (0, .class_ 132), (0, u "jdk/internal/util/Preconditions$3"), (3, u "IOOBE_FORMATTER")] 57

def k12m0 : Method := { name := "<init>", desc := "()V", sig := { parameters := [], returnType := none }, accessFlags := 1, code := none }
/-- jdk/internal/util/Preconditions -/
def k12 : Class := { plain "jdk/internal/util/Preconditions" (some 0) with
  accessFlags := 33
  interfaces := #[]
  cf := some (fileOf pool12 24 #[.nestMembers #[55, 131, 125, 114]] #[{ accessFlags := 1, nameIndex := 5, descriptorIndex := 6, attributes := #[] }] 33 2 #[] #[{ accessFlags := 25, nameIndex := 123, descriptorIndex := 124, attributes := #[] }, { accessFlags := 25, nameIndex := 130, descriptorIndex := 124, attributes := #[] }, { accessFlags := 25, nameIndex := 136, descriptorIndex := 124, attributes := #[] }])
  fields := #[{ name := "SIOOBE_FORMATTER", type := (.object "java/util/function/BiFunction"), accessFlags := 25, slot := 0, constantValue := 0 }, { name := "AIOOBE_FORMATTER", type := (.object "java/util/function/BiFunction"), accessFlags := 25, slot := 1, constantValue := 0 }, { name := "IOOBE_FORMATTER", type := (.object "java/util/function/BiFunction"), accessFlags := 25, slot := 2, constantValue := 0 }]
  methods := #[k12m0]
  instanceTypes := #[]
  staticTypes := #[(.object "java/util/function/BiFunction"), (.object "java/util/function/BiFunction"), (.object "java/util/function/BiFunction")]
  resolved := Array.replicate 194 none
  statics := some 1 }

def pool13 : Array CpInfo := pool [(9, u "<init>"), (6, .class_ 18), (1, u "java/lang/Object"), (0, u "()V"), (1, .class_ 23), (1, u "jdk/internal/util/ArraysSupport"), (0, u "LOG2_ARRAY_LONG_INDEX_SCALE"), (0, u "I"), (2, u "U"), (0, u "Ljdk/internal/misc/Unsafe;"), (8, u "BIG_ENDIAN"), (0, u "Z"), (8, u "LOG2_BYTE_BIT_SIZE"), (4, u "LOG2_ARRAY_INT_INDEX_SCALE"), (54, u "JLA"), (0, u "Ljdk/internal/access/JavaLangAccess;"), (11, u "LOG2_ARRAY_BOOLEAN_INDEX_SCALE"), (9, u "LOG2_ARRAY_BYTE_INDEX_SCALE"), (5, u "LOG2_ARRAY_CHAR_INDEX_SCALE"), (5, u "LOG2_ARRAY_SHORT_INDEX_SCALE"), (18, u "LOG2_ARRAY_FLOAT_INDEX_SCALE"), (24, u "LOG2_ARRAY_DOUBLE_INDEX_SCALE"), (89, u "T_BOOLEAN"), (2, u "T_CHAR"), (1, u "T_FLOAT"), (1, u "T_DOUBLE"), (1, u "T_BYTE"), (1, u "T_SHORT"), (1, u "T_INT"), (1, u "T_LONG"), (1, u "SOFT_MAX_ARRAY_LENGTH")] 83

def k13m0 : Method := { name := "<init>", desc := "()V", sig := { parameters := [], returnType := none }, accessFlags := 2, code := none }
/-- jdk/internal/util/ArraysSupport -/
def k13 : Class := { plain "jdk/internal/util/ArraysSupport" (some 0) with
  accessFlags := 33
  interfaces := #[]
  cf := some (fileOf pool13 21 #[] #[{ accessFlags := 2, nameIndex := 9, descriptorIndex := 19, attributes := #[] }] 33 16 #[] #[{ accessFlags := 24, nameIndex := 28, descriptorIndex := 29, attributes := #[] }, { accessFlags := 26, nameIndex := 38, descriptorIndex := 39, attributes := #[] }, { accessFlags := 25, nameIndex := 121, descriptorIndex := 25, attributes := #[] }, { accessFlags := 25, nameIndex := 131, descriptorIndex := 25, attributes := #[] }, { accessFlags := 25, nameIndex := 137, descriptorIndex := 25, attributes := #[] }, { accessFlags := 25, nameIndex := 143, descriptorIndex := 25, attributes := #[] }, { accessFlags := 25, nameIndex := 53, descriptorIndex := 25, attributes := #[] }, { accessFlags := 25, nameIndex := 24, descriptorIndex := 25, attributes := #[] }, { accessFlags := 25, nameIndex := 162, descriptorIndex := 25, attributes := #[] }, { accessFlags := 25, nameIndex := 187, descriptorIndex := 25, attributes := #[] }, { accessFlags := 26, nameIndex := 48, descriptorIndex := 25, attributes := #[] }, { accessFlags := 25, nameIndex := 277, descriptorIndex := 25, attributes := #[] }, { accessFlags := 25, nameIndex := 280, descriptorIndex := 25, attributes := #[] }, { accessFlags := 25, nameIndex := 282, descriptorIndex := 25, attributes := #[] }, { accessFlags := 25, nameIndex := 284, descriptorIndex := 25, attributes := #[] }, { accessFlags := 25, nameIndex := 286, descriptorIndex := 25, attributes := #[] }, { accessFlags := 25, nameIndex := 288, descriptorIndex := 25, attributes := #[] }, { accessFlags := 25, nameIndex := 290, descriptorIndex := 25, attributes := #[] }, { accessFlags := 25, nameIndex := 292, descriptorIndex := 25, attributes := #[] }, { accessFlags := 26, nameIndex := 108, descriptorIndex := 109, attributes := #[] }, { accessFlags := 25, nameIndex := 294, descriptorIndex := 25, attributes := #[] }])
  fields := #[{ name := "U", type := (.object "jdk/internal/misc/Unsafe"), accessFlags := 24, slot := 0, constantValue := 0 }, { name := "BIG_ENDIAN", type := .boolean, accessFlags := 26, slot := 1, constantValue := 0 }, { name := "LOG2_ARRAY_BOOLEAN_INDEX_SCALE", type := .int, accessFlags := 25, slot := 2, constantValue := 0 }, { name := "LOG2_ARRAY_BYTE_INDEX_SCALE", type := .int, accessFlags := 25, slot := 3, constantValue := 0 }, { name := "LOG2_ARRAY_CHAR_INDEX_SCALE", type := .int, accessFlags := 25, slot := 4, constantValue := 0 }, { name := "LOG2_ARRAY_SHORT_INDEX_SCALE", type := .int, accessFlags := 25, slot := 5, constantValue := 0 }, { name := "LOG2_ARRAY_INT_INDEX_SCALE", type := .int, accessFlags := 25, slot := 6, constantValue := 0 }, { name := "LOG2_ARRAY_LONG_INDEX_SCALE", type := .int, accessFlags := 25, slot := 7, constantValue := 0 }, { name := "LOG2_ARRAY_FLOAT_INDEX_SCALE", type := .int, accessFlags := 25, slot := 8, constantValue := 0 }, { name := "LOG2_ARRAY_DOUBLE_INDEX_SCALE", type := .int, accessFlags := 25, slot := 9, constantValue := 0 }, { name := "LOG2_BYTE_BIT_SIZE", type := .int, accessFlags := 26, slot := 10, constantValue := 0 }, { name := "T_BOOLEAN", type := .int, accessFlags := 25, slot := 11, constantValue := 0 }, { name := "T_CHAR", type := .int, accessFlags := 25, slot := 12, constantValue := 0 }, { name := "T_FLOAT", type := .int, accessFlags := 25, slot := 13, constantValue := 0 }, { name := "T_DOUBLE", type := .int, accessFlags := 25, slot := 14, constantValue := 0 }, { name := "T_BYTE", type := .int, accessFlags := 25, slot := 15, constantValue := 0 }, { name := "T_SHORT", type := .int, accessFlags := 25, slot := 16, constantValue := 0 }, { name := "T_INT", type := .int, accessFlags := 25, slot := 17, constantValue := 0 }, { name := "T_LONG", type := .int, accessFlags := 25, slot := 18, constantValue := 0 }, { name := "JLA", type := (.object "jdk/internal/access/JavaLangAccess"), accessFlags := 26, slot := 19, constantValue := 0 }, { name := "SOFT_MAX_ARRAY_LENGTH", type := .int, accessFlags := 25, slot := 20, constantValue := 0 }]
  methods := #[k13m0]
  instanceTypes := #[]
  staticTypes := #[(.object "jdk/internal/misc/Unsafe"), .boolean, .int, .int, .int, .int, .int, .int, .int, .int, .int, .int, .int, .int, .int, .int, .int, .int, .int, (.object "jdk/internal/access/JavaLangAccess"), .int]
  resolved := Array.replicate 378 none
  statics := none }

def pool14 : Array CpInfo := pool [(1, u "java/lang/Cloneable"), (0, .class_ 1), (0, u "java/lang/Object"), (0, .class_ 3)] 3

/-- java/lang/Cloneable -/
def k14 : Class := { plain "java/lang/Cloneable" (some 0) with
  accessFlags := 1537
  interfaces := #[]
  cf := some (fileOf pool14 2 #[] #[] 1537 4 #[] #[])
  fields := #[]
  methods := #[]
  instanceTypes := #[]
  staticTypes := #[]
  resolved := Array.replicate 8 none
  statics := none }

/-- the primitive byte -/
def k15 : Class := { plain "byte" none with kind := .primitive 'B', accessFlags := 0x411 }
/-- [B -/
def k16 : Class := { plain "[B" (some 0) with kind := .array 15 .byte, interfaces := #[14, 2], accessFlags := 1041 }

/-- the primitive char -/
def k17 : Class := { plain "char" none with kind := .primitive 'C', accessFlags := 0x411 }
/-- [C -/
def k18 : Class := { plain "[C" (some 0) with kind := .array 17 .char, interfaces := #[14, 2], accessFlags := 1041 }

/-- the primitive int -/
def k19 : Class := { plain "int" none with kind := .primitive 'I', accessFlags := 0x411 }
/-- [I -/
def k20 : Class := { plain "[I" (some 0) with kind := .array 19 .int, interfaces := #[14, 2], accessFlags := 1041 }

def heap : Heap := #[{ cls := 7, slots := #[.long 0, .int 1, .null, .int 0, .null, .int 0, .int 0], vm := .statics 7 },
  { cls := 12, slots := #[.null, .null, .null], vm := .statics 12 }]
def classes : Array Class := #[k0, k1, k2, k3, k4, k5, k6, k7, k8, k9, k10, k11, k12, k13, k14, k15, k16, k17, k18, k19, k20]
def interned : List (Array UInt16 × Addr) := []
def slotsUsed : Nat := 10
def theMethod : MethodId := ⟨1, 1⟩
def args0 : Array Value := #[.int 5, .int 3, .int 5]
def aboutOver (below : List Frame) : State where
  vm := { classes := classes, interned := interned.toArray }
  heap := heap
  slotsUsed := slotsUsed
  threads := #[{ frames := .invoking theMethod args0 :: below }]
def below0 : List Frame := [.native { method := ⟨0, 0⟩, args := #[] }]
def about1 : State := aboutOver below0
def p0 : Program := .bare "" "" ""
def e0 : Env := launch0.env 0 0 0
theorem w_frames : about1.frames = Frame.invoking theMethod args0 :: below0 := rfl
set_option maxRecDepth 65536 in
theorem w_args : argsFit about1.vm theMethod args0 = true := by decide +kernel
set_option maxRecDepth 65536 in
theorem w_heap : heapFits about1 = true := by decide +kernel
set_option maxRecDepth 65536 in
theorem w_runnable : about1.curStatus? = some .runnable := by decide +kernel
set_option maxRecDepth 65536 in
theorem w_alone : about1.alone = true := by decide +kernel
set_option maxRecDepth 65536 in
theorem w_named : about1.methodNamed? x = some theMethod := by decide +kernel
set_option maxRecDepth 65536 in
theorem w_hears : about1.hears theMethod below0 = true := by decide +kernel
set_option maxRecDepth 65536 in
theorem w_ripe : about1.ripe theMethod args0 below0 = true := by decide +kernel
theorem w_running : about1.status = .running := rfl
set_option maxRecDepth 65536 in
theorem w_room : about1.hasRoom e0.platform room_1 = true :=
  launch0.hasRoom_least _ room_1 (by decide +kernel) (by decide +kernel) (by decide +kernel) (by decide +kernel) (by decide +kernel) (by decide +kernel)
theorem allAtoms_all (ts : List Jvm.Cond) (a : Array Jvm.Value) (st : Jvm.State) : (allAtoms ts).before a st = ts.all (fun c => c.before a st) := by
  induction ts with
  | nil => rfl
  | cons c t ih =>
    show (Jvm.Cond.and c (allAtoms t)).before a st = _
    rw [Jvm.Cond.before_and, ih, List.all_cons]
def words1 : List Jvm.Cond := Jvm.Cond.code x code maxLocals ret :: tables_1
/-- a 'code' word, met by the world's own term for the bytes: nothing is compared byte by byte -/
theorem code_word {y : MethodName} {bytes : ByteArray} {mx : Nat} {rt : Option FieldType} {a : Array Value} {s : State} {m : MethodId} {meth : Method} {c : Code} (h1 : s.methodNamed? y = some m) (h2 : s.vm.method? m = some meth) (h3 : meth.code = some c) (h4 : c.code = bytes)
    (h5 : (c.maxLocals == mx && c.exceptionTable.isEmpty && decide (c.maxStack ≤ mostOperands) && decide (meth.sig.returnType = rt) && !meth.locks && decide (parseMethodDescriptor y.desc = some meth.sig)) = true) : (Jvm.Cond.code y bytes mx rt).before a s = true := by
  simp only [Bool.and_eq_true, beq_iff_eq, Bool.not_eq_true', decide_eq_true_eq] at h5
  obtain ⟨⟨⟨⟨⟨g1, g2⟩, g3⟩, g4⟩, g5⟩, g6⟩ := h5
  simp [Cond.before, Cond.holds, Cond.value, h1, h2, h3, h4, g1, g2, g3, g4, g5, g6]
def isCode : Jvm.Cond → Bool
  | .code _ _ _ _ => true
  | _ => false
theorem all_split {L : List Jvm.Cond} {P : Jvm.Cond → Bool} (h1 : L.all (fun c => isCode c || P c) = true) (h2 : ∀ c ∈ L.filter isCode, P c = true) : L.all P = true := by
  refine List.all_eq_true.mpr fun c hc => ?_
  have h := List.all_eq_true.mp h1 c hc
  rcases Bool.eq_false_or_eq_true (isCode c) with hi | hi
  · exact h2 c (List.mem_filter.mpr ⟨hc, hi⟩)
  · simpa [hi] using h
set_option maxRecDepth 65536 in
theorem w_c0 : (Jvm.Cond.code x code maxLocals ret).before args0 about1 = true := code_word (m := ⟨1, 1⟩) (meth := k1m1) (c := k1c1) (by decide +kernel) rfl rfl rfl (by decide +kernel)
set_option maxRecDepth 65536 in
theorem w_c1 : (Jvm.Cond.code ({ cls := "com/example/mexpile/mexpile/rules/RuleSetNameHasParameterPinLaw", name := "draw", desc := "(II)Ljava/lang/String;" } : Jvm.MethodName) method_3_code (5 : Nat) (Option.some (Jvm.ClassFile.FieldType.object "java/lang/String"))).before args0 about1 = true := code_word (m := ⟨1, 2⟩) (meth := k1m2) (c := k1c2) (by decide +kernel) rfl rfl rfl (by decide +kernel)
set_option maxRecDepth 65536 in
theorem w_c2 : (Jvm.Cond.code ({ cls := "java/lang/String", name := "<init>", desc := "([C)V" } : Jvm.MethodName) jdk_42_method_3_code (2 : Nat) (Option.none : Option Jvm.ClassFile.FieldType)).before args0 about1 = true := code_word (m := ⟨7, 1⟩) (meth := k7m1) (c := k7c1) (by decide +kernel) rfl rfl rfl (by decide +kernel)
set_option maxRecDepth 65536 in
theorem w_c3 : (Jvm.Cond.code ({ cls := "java/lang/String", name := "<init>", desc := "([CIILjava/lang/Void;)V" } : Jvm.MethodName) jdk_42_method_149_code (6 : Nat) (Option.none : Option Jvm.ClassFile.FieldType)).before args0 about1 = true := code_word (m := ⟨7, 3⟩) (meth := k7m3) (c := k7c3) (by decide +kernel) rfl rfl rfl (by decide +kernel)
set_option maxRecDepth 65536 in
theorem w_c4 : (Jvm.Cond.code ({ cls := "java/lang/Object", name := "<init>", desc := "()V" } : Jvm.MethodName) object_method_1_code (1 : Nat) (Option.none : Option Jvm.ClassFile.FieldType)).before args0 about1 = true := code_word (m := ⟨0, 0⟩) (meth := k0m0) (c := k0c0) (by decide +kernel) rfl rfl rfl (by decide +kernel)
set_option maxRecDepth 65536 in
theorem w_c5 : (Jvm.Cond.code ({ cls := "java/lang/StringUTF16", name := "compress", desc := "([CII)[B" } : Jvm.MethodName) jdk_52_method_16_code (6 : Nat) (Option.some (Jvm.ClassFile.FieldType.array Jvm.ClassFile.FieldType.byte))).before args0 about1 = true := code_word (m := ⟨8, 2⟩) (meth := k8m2) (c := k8c2) (by decide +kernel) rfl rfl rfl (by decide +kernel)
set_option maxRecDepth 65536 in
theorem w_c6 : (Jvm.Cond.code ({ cls := "java/lang/StringUTF16", name := "compress", desc := "([CI[BII)I" } : Jvm.MethodName) jdk_52_method_21_code (7 : Nat) (Option.some Jvm.ClassFile.FieldType.int)).before args0 about1 = true := code_word (m := ⟨8, 3⟩) (meth := k8m3) (c := k8c3) (by decide +kernel) rfl rfl rfl (by decide +kernel)
set_option maxRecDepth 65536 in
theorem w_c7 : (Jvm.Cond.code ({ cls := "java/lang/StringUTF16", name := "coderFromArrayLen", desc := "([BI)B" } : Jvm.MethodName) jdk_52_method_15_code (2 : Nat) (Option.some Jvm.ClassFile.FieldType.byte)).before args0 about1 = true := code_word (m := ⟨8, 1⟩) (meth := k8m1) (c := k8c1) (by decide +kernel) rfl rfl rfl (by decide +kernel)
set_option maxRecDepth 65536 in
theorem w_c8 : (Jvm.Cond.code ({ cls := "com/example/mexpile/mexpile/rules/RuleSetName", name := "<init>", desc := "(Ljava/lang/String;Ljava/lang/String;)V" } : Jvm.MethodName) prog_51_method_1_code (3 : Nat) (Option.none : Option Jvm.ClassFile.FieldType)).before args0 about1 = true := code_word (m := ⟨10, 0⟩) (meth := k10m0) (c := k10c0) (by decide +kernel) rfl rfl rfl (by decide +kernel)
set_option maxRecDepth 65536 in
theorem w_c9 : (Jvm.Cond.code ({ cls := "java/lang/Record", name := "<init>", desc := "()V" } : Jvm.MethodName) jdk_30_method_1_code (1 : Nat) (Option.none : Option Jvm.ClassFile.FieldType)).before args0 about1 = true := code_word (m := ⟨9, 0⟩) (meth := k9m0) (c := k9c0) (by decide +kernel) rfl rfl rfl (by decide +kernel)
set_option maxRecDepth 65536 in
theorem w_c10 : (Jvm.Cond.code ({ cls := "com/example/mexpile/mexpile/rules/RuleSetName", name := "hasParameter", desc := "()Z" } : Jvm.MethodName) prog_51_method_4_code (1 : Nat) (Option.some Jvm.ClassFile.FieldType.boolean)).before args0 about1 = true := code_word (m := ⟨10, 1⟩) (meth := k10m1) (c := k10c1) (by decide +kernel) rfl rfl rfl (by decide +kernel)
set_option maxRecDepth 65536 in
theorem w_c11 : (Jvm.Cond.code ({ cls := "java/lang/String", name := "isEmpty", desc := "()Z" } : Jvm.MethodName) jdk_42_method_55_code (1 : Nat) (Option.some Jvm.ClassFile.FieldType.boolean)).before args0 about1 = true := code_word (m := ⟨7, 2⟩) (meth := k7m2) (c := k7c2) (by decide +kernel) rfl rfl rfl (by decide +kernel)
def codes1 : List Jvm.Cond := [Jvm.Cond.code x code maxLocals ret, Jvm.Cond.code ({ cls := "com/example/mexpile/mexpile/rules/RuleSetNameHasParameterPinLaw", name := "draw", desc := "(II)Ljava/lang/String;" } : Jvm.MethodName) method_3_code (5 : Nat) (Option.some (Jvm.ClassFile.FieldType.object "java/lang/String")), Jvm.Cond.code ({ cls := "java/lang/String", name := "<init>", desc := "([C)V" } : Jvm.MethodName) jdk_42_method_3_code (2 : Nat) (Option.none : Option Jvm.ClassFile.FieldType), Jvm.Cond.code ({ cls := "java/lang/String", name := "<init>", desc := "([CIILjava/lang/Void;)V" } : Jvm.MethodName) jdk_42_method_149_code (6 : Nat) (Option.none : Option Jvm.ClassFile.FieldType), Jvm.Cond.code ({ cls := "java/lang/Object", name := "<init>", desc := "()V" } : Jvm.MethodName) object_method_1_code (1 : Nat) (Option.none : Option Jvm.ClassFile.FieldType), Jvm.Cond.code ({ cls := "java/lang/StringUTF16", name := "compress", desc := "([CII)[B" } : Jvm.MethodName) jdk_52_method_16_code (6 : Nat) (Option.some (Jvm.ClassFile.FieldType.array Jvm.ClassFile.FieldType.byte)), Jvm.Cond.code ({ cls := "java/lang/StringUTF16", name := "compress", desc := "([CI[BII)I" } : Jvm.MethodName) jdk_52_method_21_code (7 : Nat) (Option.some Jvm.ClassFile.FieldType.int), Jvm.Cond.code ({ cls := "java/lang/StringUTF16", name := "coderFromArrayLen", desc := "([BI)B" } : Jvm.MethodName) jdk_52_method_15_code (2 : Nat) (Option.some Jvm.ClassFile.FieldType.byte), Jvm.Cond.code ({ cls := "com/example/mexpile/mexpile/rules/RuleSetName", name := "<init>", desc := "(Ljava/lang/String;Ljava/lang/String;)V" } : Jvm.MethodName) prog_51_method_1_code (3 : Nat) (Option.none : Option Jvm.ClassFile.FieldType), Jvm.Cond.code ({ cls := "java/lang/Record", name := "<init>", desc := "()V" } : Jvm.MethodName) jdk_30_method_1_code (1 : Nat) (Option.none : Option Jvm.ClassFile.FieldType), Jvm.Cond.code ({ cls := "com/example/mexpile/mexpile/rules/RuleSetName", name := "hasParameter", desc := "()Z" } : Jvm.MethodName) prog_51_method_4_code (1 : Nat) (Option.some Jvm.ClassFile.FieldType.boolean), Jvm.Cond.code ({ cls := "java/lang/String", name := "isEmpty", desc := "()Z" } : Jvm.MethodName) jdk_42_method_55_code (1 : Nat) (Option.some Jvm.ClassFile.FieldType.boolean)]
set_option maxRecDepth 65536 in
theorem codes_eq : words1.filter isCode = codes1 := rfl
theorem w_codes : ∀ c ∈ words1.filter isCode, c.before args0 about1 = true := by
  rw [codes_eq]
  intro c hc
  simp only [codes1, List.mem_cons, List.not_mem_nil, or_false] at hc
  rcases hc with rfl | rfl | rfl | rfl | rfl | rfl | rfl | rfl | rfl | rfl | rfl | rfl
  · exact w_c0
  · exact w_c1
  · exact w_c2
  · exact w_c3
  · exact w_c4
  · exact w_c5
  · exact w_c6
  · exact w_c7
  · exact w_c8
  · exact w_c9
  · exact w_c10
  · exact w_c11
set_option maxRecDepth 65536 in
theorem w_t1 : (words1.take 24).all (fun c => isCode c || c.before args0 about1) = true := by decide +kernel
set_option maxRecDepth 65536 in
theorem w_t2 : ((words1.drop 24).take 24).all (fun c => isCode c || c.before args0 about1) = true := by decide +kernel
set_option maxRecDepth 65536 in
theorem w_t3 : ((words1.drop 24).drop 24).all (fun c => isCode c || c.before args0 about1) = true := by decide +kernel
theorem w_tables : (allAtoms (Jvm.Cond.code x code maxLocals ret :: tables_1)).before args0 about1 = true := by
  rw [allAtoms_all]
  show words1.all (fun c => c.before args0 about1) = true
  refine all_split ?_ w_codes
  rw [← List.take_append_drop 24 words1, List.all_append, w_t1, ← List.take_append_drop 24 (words1.drop 24), List.all_append, w_t2, w_t3]
  rfl
set_option maxRecDepth 65536 in
theorem w_rest : rest_1_c.before args0 about1 = true := by decide +kernel
set_option maxRecDepth 65536 in
theorem w_case : (Jvm.Cond.and given_1 narrow_1).before args0 about1 = true := by decide +kernel
set_option maxRecDepth 65536 in
theorem w_consts : constsHeld consts_1 about1 := Jvm.Lit.constsHeldB_iff.mp (by decide +kernel)
theorem w_applies : (headSpec (Jvm.Cond.code x code maxLocals ret :: tables_1) room_1).applies x e0.platform about1 = true :=
  (Spec.applies_iff w_frames).mpr ⟨w_running, w_runnable, w_alone, w_named, w_hears, w_ripe, w_room, w_tables⟩
theorem atStart : AtStart classFile x code maxLocals ret World_1 tables_1 room_1 Calls_1 rest_1 Pre_1 launch0 p0 e0 about1 theMethod args0 below0 :=
  ⟨lists_1, trivial, launch0.admits_env _ _ _, launch0.least_env, fairChoices_fair.cas, fairChoices_fair.clock, w_frames, w_args, w_heap, w_applies, ⟨w_consts, trivial⟩, w_rest, w_case⟩
end start1
theorem witness_1 : WitnessClaimed_1 := ⟨start1.p0, start1.e0, start1.about1, start1.theMethod, start1.args0, start1.below0, start1.atStart⟩
end Jvm.Pilot.@@N@@
