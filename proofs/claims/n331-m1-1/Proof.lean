import JvmDerived
import JvmDerived.Pilot.@@N@@Statement
import JvmDerived.Pilot.@@N@@Code
set_option linter.unusedVariables false
set_option linter.unusedSimpArgs false
namespace Jvm.Pilot.@@N@@
open Jvm Jvm.ClassFile Sem Op Lib Jvm.Free Jvm.Stand Jvm.LawKit Jvm.RoadKit Bundle Jvm.Pilot.@@N@@.Jvm.D
-- OWN KIT (mine): reach, finish, weakening of the counters, arrays by a function, arithmetic in omega's form
abbrev own_R (tb : Tables) (e : Env) (below : List Frame) (F0 F : State) : Prop := ∀ t, Steps tb e below F t → Steps tb e below F0 t
abbrev own_G (p : Program) (e : Env) (below : List Frame) (s F0 : State) (Q : Option Value → Heap → List Loc → Prop) (kc ks : Nat) : Prop :=
  ∃ s₂ o, Steps p.tables e below F0 s₂ ∧ s₂.status = .running ∧ Ended s₂ below o ∧ ∃ v L, o = .returned v ∧ Q v s₂.heap L ∧ FrameEnd s o s₂ L kc ks
section OwnKit
variable {p : Program} {l : Launch} {e : Env} {R : Room} {s : State} {m : MethodId} {args : Array Value} {below : List Frame} {meth : Method} {c : Code} {T : State} {locs : List Loc} {cells slots : Nat}
theorem own_fin (X : Stand p l e R s m args below meth c T locs cells slots) (hl : meth.locks = false) {F0 : State} {Q : Option Value → Heap → List Loc → Prop} {kc ks : Nat} (v : Option Value) (hv : meth.sig.returnType = none → v = none) (hq : Q v T.heap locs) (hc : cells ≤ kc) (hs : slots ≤ ks)
    (st : ∀ fs, (∀ (f : JFrame) (acts : List Action), f.method = m → f.locked = none → f.entered = [] → (doReturn e (T.setTop f) acts v).1 = T.setFrames fs) → Steps p.tables e below F0 (T.setFrames fs)) : own_G p e below s F0 Q kc ks := by
  obtain ⟨fs, hr, hrun, hended, hW, hsame⟩ := X.leave hv hl
  exact ⟨_, _, st fs hr, hrun, hended, _, _, rfl, hq, ⟨_, rfl⟩, hW, hsame.mono hc hs⟩
theorem own_mono (X : Stand p l e R s m args below meth c T locs cells slots) {c' s' : Nat} (hc : cells ≤ c') (hs : slots ≤ s') : Stand p l e R s m args below meth c T locs c' s' := { X with same := X.same.mono hc hs }
end OwnKit
theorem own_hv {meth : Method} {t : FieldType} {v : Option Value} (h : meth.sig.returnType = some t) : meth.sig.returnType = none → v = none := fun q => by rw [h] at q; cases q
theorem own_lt32 {a b : Int32} (h : a < b) : a.toInt < b.toInt := Int32.lt_iff_toInt_lt.mp h
theorem own_nlt32 {a b : Int32} (h : ¬ a < b) : b.toInt ≤ a.toInt := Int.not_lt.mp fun q => h (Int32.lt_iff_toInt_lt.mpr q)
theorem own_eq32 {a b : Int32} (h : a = b) : a.toInt = b.toInt := congrArg Int32.toInt h
theorem own_ne32 {a b : Int32} (h : ¬ a = b) : a.toInt ≠ b.toInt := fun q => h (Int32.toInt_inj.mp q)
theorem own_lt64 {a b : Int64} (h : a < b) : a.toInt < b.toInt := Int64.lt_iff_toInt_lt.mp h
theorem own_nlt64 {a b : Int64} (h : ¬ a < b) : b.toInt ≤ a.toInt := Int.not_lt.mp fun q => h (Int64.lt_iff_toInt_lt.mpr q)
theorem own_eq64 {a b : Int64} (h : a = b) : a.toInt = b.toInt := congrArg Int64.toInt h
theorem own_ne64 {a b : Int64} (h : ¬ a = b) : a.toInt ≠ b.toInt := fun q => h (Int64.toInt_inj.mp q)
theorem own_imulc (x y : Int32) (d : Int) (h : y.toInt = d) : ((x * y).toInt - x.toInt * d) % 4294967296 = 0 := by rw [← h]; exact c_imul x y
theorem own_imulc' (x y : Int32) (d : Int) (h : x.toInt = d) : ((x * y).toInt - d * y.toInt) % 4294967296 = 0 := by rw [← h]; exact c_imul x y
theorem own_lmulc (x y : Int64) (d : Int) (h : y.toInt = d) : ((x * y).toInt - x.toInt * d) % 18446744073709551616 = 0 := by rw [← h]; exact c_lmul x y
theorem own_lmulc' (x y : Int64) (d : Int) (h : x.toInt = d) : ((x * y).toInt - d * y.toInt) % 18446744073709551616 = 0 := by rw [← h]; exact c_lmul x y
theorem own_mask (x m : Int32) (k : Nat) (P : Int) (hk : k ≤ 31) (hm : m.toBitVec.toNat = 2 ^ k - 1) (hP : P = ((2 ^ k : Nat) : Int)) : (x &&& m).toInt = x.toInt % P := by rw [hP]; exact c_mask x m k hk hm
theorem own_maskL (x m : Int64) (k : Nat) (P : Int) (hk : k ≤ 63) (hm : m.toBitVec.toNat = 2 ^ k - 1) (hP : P = ((2 ^ k : Nat) : Int)) : (x &&& m).toInt = x.toInt % P := by rw [hP]; exact c_maskL x m k hk hm
theorem own_ishr (x q : Int32) (k : Nat) (P : Int) (hk : q.toBitVec.toNat % 32 = k) (hP : P = ((2 ^ k : Nat) : Int)) : (x >>> (q &&& 31)).toInt = x.toInt / P := by rw [hP]; exact c_ishr x q k hk
theorem own_ishl (x q : Int32) (k : Nat) (P : Int) (hk : q.toBitVec.toNat % 32 = k) (hP : P = ((2 ^ k : Nat) : Int)) : ((x <<< (q &&& 31)).toInt - x.toInt * P) % 4294967296 = 0 := by rw [hP]; exact c_ishl x q k hk
theorem own_iushr (x q : Int32) (k : Nat) (P : Int) (hk : q.toBitVec.toNat % 32 = k) (h0 : 0 < k) (hP : P = ((2 ^ k : Nat) : Int)) : ((x.toUInt32 >>> (q &&& 31).toUInt32).toInt32).toInt = (x.toInt % 4294967296) / P := by rw [hP]; exact c_iushr x q k hk h0
theorem own_lshr (x : Int64) (q : Int32) (k : Nat) (P : Int) (hk : q.toBitVec.toNat % 64 = k) (hP : P = ((2 ^ k : Nat) : Int)) : (x >>> (q &&& 0x3f).toInt64).toInt = x.toInt / P := by rw [hP]; exact c_lshr x q k hk
theorem own_lshl (x : Int64) (q : Int32) (k : Nat) (P : Int) (hk : q.toBitVec.toNat % 64 = k) (hP : P = ((2 ^ k : Nat) : Int)) : ((x <<< (q &&& 0x3f).toInt64).toInt - x.toInt * P) % 18446744073709551616 = 0 := by rw [hP]; exact c_lshl x q k hk
theorem own_lushr (x : Int64) (q : Int32) (k : Nat) (P : Int) (hk : q.toBitVec.toNat % 64 = k) (h0 : 0 < k) (hP : P = ((2 ^ k : Nat) : Int)) : ((x.toUInt64 >>> (q &&& 0x3f).toInt64.toUInt64).toInt64).toInt = (x.toInt % 18446744073709551616) / P := by rw [hP]; exact c_lushr x q k hk h0
theorem own_lc_lt {x y : Int64} {cd : ClassFile.Cond} {b : Bool} (h : if_icmp.holds cd (lcmpW x y) 0 = b) : ifCond.holds cd (lcmpW x y) = b := (if0 _ _).trans h
theorem own_l_lt {x y : Int64} (h : x < y) : ifCond.holds .lt (lcmpW x y) = true ∧ ifCond.holds .ge (lcmpW x y) = false := ⟨(if0 _ _).trans (tlt ((lw_lt x y).mpr h)).1, (if0 _ _).trans (tlt ((lw_lt x y).mpr h)).2.1⟩
theorem own_l_nlt {x y : Int64} (h : ¬ x < y) : ifCond.holds .lt (lcmpW x y) = false ∧ ifCond.holds .ge (lcmpW x y) = true := ⟨(if0 _ _).trans (flt (fun q => h ((lw_lt x y).mp q))).1, (if0 _ _).trans (flt (fun q => h ((lw_lt x y).mp q))).2.1⟩
theorem own_l_gt {x y : Int64} (h : y < x) : ifCond.holds .gt (lcmpW x y) = true ∧ ifCond.holds .le (lcmpW x y) = false := ⟨(if0 _ _).trans (tlt ((lw_gt x y).mpr h)).2.2.1, (if0 _ _).trans (tlt ((lw_gt x y).mpr h)).2.2.2⟩
theorem own_l_ngt {x y : Int64} (h : ¬ y < x) : ifCond.holds .gt (lcmpW x y) = false ∧ ifCond.holds .le (lcmpW x y) = true := ⟨(if0 _ _).trans (flt (fun q => h ((lw_gt x y).mp q))).2.2.1, (if0 _ _).trans (flt (fun q => h ((lw_gt x y).mp q))).2.2.2⟩
theorem own_l_eq {x y : Int64} (h : x = y) : ifCond.holds .eq (lcmpW x y) = true ∧ ifCond.holds .ne (lcmpW x y) = false := ⟨(if0 _ _).trans (teq ((lw_eq x y).mpr h)).1, (if0 _ _).trans (teq ((lw_eq x y).mpr h)).2⟩
theorem own_l_neq {x y : Int64} (h : ¬ x = y) : ifCond.holds .eq (lcmpW x y) = false ∧ ifCond.holds .ne (lcmpW x y) = true := ⟨(if0 _ _).trans (feq (fun q => h ((lw_eq x y).mp q))).1, (if0 _ _).trans (feq (fun q => h ((lw_eq x y).mp q))).2⟩
theorem own_lrem {x y : Int64} {d : Int} (hy : y.toInt = d) : (0 ≤ x.toInt → (x - (x / y) * y).toInt = x.toInt % d) ∧ (x.toInt < 0 → (x - (x / y) * y).toInt = -((-x.toInt) % d)) := c_lrem x y d hy
theorem own_lremf (x y : Int64) (d : Int) (hy : y.toInt = d) : (0 ≤ x.toInt → (x % y).toInt = x.toInt % d) ∧ (x.toInt < 0 → (x % y).toInt = -((-x.toInt) % d)) := by rw [Int64.toInt_mod, hy]; exact tr _ _
theorem own_lremM {p : Program} {l : Launch} {e : Env} {R : Room} {s : State} {m : MethodId} {args : Array Value} {below : List Frame} {meth : Method} {c : Code} {T : State} {locs : List Loc} {cells slots : Nat} {g : JFrame} {target : State} (X : Stand p l e R s m args below meth c T locs cells slots) (hx : p.tables.exec = Jvm.exec) (hg : g.method = m) {x y : Int64} {rest : List Value} (hd : decode c.code g.pc = .ok (.lrem, 1)) (hs : g.stack = .long y :: .long x :: rest) (hy : y ≠ 0)
    (hr : Steps p.tables e below (T.setTop { g with pc := g.pc + 1, stack := .long (x % y) :: rest }) target) : Steps p.tables e below (T.setTop g) target :=
  XS.lrem X.here hx hg hd hs hy (by rw [lrem_mod]; exact hr)
theorem own_R32 (x : Int32) : -2147483648 ≤ x.toInt ∧ x.toInt ≤ 2147483647 := by have := rng32 x; omega
theorem own_R64 (x : Int64) : -9223372036854775808 ≤ x.toInt ∧ x.toInt ≤ 9223372036854775807 := by have := rng64 x; omega
theorem own_iaddR {x y : Int32} {a b c d : Int} (lo hi : Int) (hx : a ≤ x.toInt ∧ x.toInt ≤ b) (hy : c ≤ y.toInt ∧ y.toInt ≤ d) (h1 : -2147483648 ≤ a + c ∧ b + d ≤ 2147483647) (h2 : lo ≤ a + c ∧ b + d ≤ hi) : (x + y).toInt = x.toInt + y.toInt ∧ lo ≤ (x + y).toInt ∧ (x + y).toInt ≤ hi := by have := c_iadd x y; have := rng32 (x + y); omega
theorem own_isubR {x y : Int32} {a b c d : Int} (lo hi : Int) (hx : a ≤ x.toInt ∧ x.toInt ≤ b) (hy : c ≤ y.toInt ∧ y.toInt ≤ d) (h1 : -2147483648 ≤ a - d ∧ b - c ≤ 2147483647) (h2 : lo ≤ a - d ∧ b - c ≤ hi) : (x - y).toInt = x.toInt - y.toInt ∧ lo ≤ (x - y).toInt ∧ (x - y).toInt ≤ hi := by have := c_isub x y; have := rng32 (x - y); omega
theorem own_laddR {x y : Int64} {a b c d : Int} (lo hi : Int) (hx : a ≤ x.toInt ∧ x.toInt ≤ b) (hy : c ≤ y.toInt ∧ y.toInt ≤ d) (h1 : -9223372036854775808 ≤ a + c ∧ b + d ≤ 9223372036854775807) (h2 : lo ≤ a + c ∧ b + d ≤ hi) : (x + y).toInt = x.toInt + y.toInt ∧ lo ≤ (x + y).toInt ∧ (x + y).toInt ≤ hi := by have := c_ladd x y; have := rng64 (x + y); omega
theorem own_lsubR {x y : Int64} {a b c d : Int} (lo hi : Int) (hx : a ≤ x.toInt ∧ x.toInt ≤ b) (hy : c ≤ y.toInt ∧ y.toInt ≤ d) (h1 : -9223372036854775808 ≤ a - d ∧ b - c ≤ 9223372036854775807) (h2 : lo ≤ a - d ∧ b - c ≤ hi) : (x - y).toInt = x.toInt - y.toInt ∧ lo ≤ (x - y).toInt ∧ (x - y).toInt ≤ hi := by have := c_lsub x y; have := rng64 (x - y); omega
theorem own_imulR {x y : Int32} {a b k : Int} (lo hi : Int) (hx : a ≤ x.toInt ∧ x.toInt ≤ b) (hy : y.toInt = k) (hk : 0 ≤ k) (h1 : -2147483648 ≤ a * k ∧ b * k ≤ 2147483647) (h2 : lo ≤ a * k ∧ b * k ≤ hi) : (x * y).toInt = x.toInt * k ∧ lo ≤ (x * y).toInt ∧ (x * y).toInt ≤ hi := by
  have h := c_imul x y; have := rng32 (x * y); rw [hy] at h
  have p1 := Int.mul_le_mul_of_nonneg_right hx.1 hk; have p2 := Int.mul_le_mul_of_nonneg_right hx.2 hk
  generalize x.toInt * k = z at *; generalize a * k = z1 at *; generalize b * k = z2 at *; omega
theorem own_lmulR {x y : Int64} {a b k : Int} (lo hi : Int) (hx : a ≤ x.toInt ∧ x.toInt ≤ b) (hy : y.toInt = k) (hk : 0 ≤ k) (h1 : -9223372036854775808 ≤ a * k ∧ b * k ≤ 9223372036854775807) (h2 : lo ≤ a * k ∧ b * k ≤ hi) : (x * y).toInt = x.toInt * k ∧ lo ≤ (x * y).toInt ∧ (x * y).toInt ≤ hi := by
  have h := c_lmul x y; have := rng64 (x * y); rw [hy] at h
  have p1 := Int.mul_le_mul_of_nonneg_right hx.1 hk; have p2 := Int.mul_le_mul_of_nonneg_right hx.2 hk
  generalize x.toInt * k = z at *; generalize a * k = z1 at *; generalize b * k = z2 at *; omega
theorem own_imulR' {x y : Int32} {a b k : Int} (lo hi : Int) (hx : a ≤ y.toInt ∧ y.toInt ≤ b) (hy : x.toInt = k) (hk : 0 ≤ k) (h1 : -2147483648 ≤ a * k ∧ b * k ≤ 2147483647) (h2 : lo ≤ a * k ∧ b * k ≤ hi) : (x * y).toInt = y.toInt * k ∧ lo ≤ (x * y).toInt ∧ (x * y).toInt ≤ hi := by rw [Int32.mul_comm]; exact own_imulR lo hi hx hy hk h1 h2
theorem own_lmulR' {x y : Int64} {a b k : Int} (lo hi : Int) (hx : a ≤ y.toInt ∧ y.toInt ≤ b) (hy : x.toInt = k) (hk : 0 ≤ k) (h1 : -9223372036854775808 ≤ a * k ∧ b * k ≤ 9223372036854775807) (h2 : lo ≤ a * k ∧ b * k ≤ hi) : (x * y).toInt = y.toInt * k ∧ lo ≤ (x * y).toInt ∧ (x * y).toInt ≤ hi := by rw [Int64.mul_comm]; exact own_lmulR lo hi hx hy hk h1 h2
theorem own_maskR (x m : Int32) (k : Nat) (P : Int) (hk : k ≤ 31) (hm : m.toBitVec.toNat = 2 ^ k - 1) (hP : P = ((2 ^ k : Nat) : Int)) (hi : Int) (h0 : 0 < P) (h : P ≤ hi + 1) : (x &&& m).toInt = x.toInt % P ∧ 0 ≤ (x &&& m).toInt ∧ (x &&& m).toInt ≤ hi := by
  have e := own_mask x m k P hk hm hP; have h1 := Int.emod_nonneg x.toInt (show P ≠ 0 by omega); have h2 := Int.emod_lt_of_pos x.toInt h0; omega
theorem own_maskLR (x m : Int64) (k : Nat) (P : Int) (hk : k ≤ 63) (hm : m.toBitVec.toNat = 2 ^ k - 1) (hP : P = ((2 ^ k : Nat) : Int)) (hi : Int) (h0 : 0 < P) (h : P ≤ hi + 1) : (x &&& m).toInt = x.toInt % P ∧ 0 ≤ (x &&& m).toInt ∧ (x &&& m).toInt ≤ hi := by
  have e := own_maskL x m k P hk hm hP; have h1 := Int.emod_nonneg x.toInt (show P ≠ 0 by omega); have h2 := Int.emod_lt_of_pos x.toInt h0; omega
theorem own_iremR {x y : Int32} {a b d : Int} (hi : Int) (hx : a ≤ x.toInt ∧ x.toInt ≤ b) (hy : y.toInt = d) (ha : 0 ≤ a) (hd : 0 < d) (h : d ≤ hi + 1) : (x % y).toInt = x.toInt % d ∧ 0 ≤ (x % y).toInt ∧ (x % y).toInt ≤ hi := by
  have e := (c_irem x y d hy).1 (by omega); have h1 := Int.emod_nonneg x.toInt (show d ≠ 0 by omega); have h2 := Int.emod_lt_of_pos x.toInt hd; omega
theorem own_lremR {x y : Int64} {a b d : Int} (hi : Int) (hx : a ≤ x.toInt ∧ x.toInt ≤ b) (hy : y.toInt = d) (ha : 0 ≤ a) (hd : 0 < d) (h : d ≤ hi + 1) : (x % y).toInt = x.toInt % d ∧ 0 ≤ (x % y).toInt ∧ (x % y).toInt ≤ hi := by
  have e := (own_lremf x y d hy).1 (by omega); have h1 := Int.emod_nonneg x.toInt (show d ≠ 0 by omega); have h2 := Int.emod_lt_of_pos x.toInt hd; omega
theorem own_idivR {x y : Int32} {a b d : Int} (lo hi : Int) (hx : a ≤ x.toInt ∧ x.toInt ≤ b) (hy : y.toInt = d) (hy1 : y ≠ -1) (ha : 0 ≤ a) (hd : 0 < d) (h : lo ≤ a / d ∧ b / d ≤ hi) : (x / y).toInt = x.toInt / d ∧ lo ≤ (x / y).toInt ∧ (x / y).toInt ≤ hi := by
  have e := (c_idiv x y d hy hy1).1 (by omega); have h1 := Int.ediv_le_ediv hd hx.1; have h2 := Int.ediv_le_ediv hd hx.2; omega
theorem own_ldivR {x y : Int64} {a b d : Int} (lo hi : Int) (hx : a ≤ x.toInt ∧ x.toInt ≤ b) (hy : y.toInt = d) (hy1 : y ≠ -1) (ha : 0 ≤ a) (hd : 0 < d) (h : lo ≤ a / d ∧ b / d ≤ hi) : (x / y).toInt = x.toInt / d ∧ lo ≤ (x / y).toInt ∧ (x / y).toInt ≤ hi := by
  have e := (c_ldiv x y d hy hy1).1 (by omega); have h1 := Int.ediv_le_ediv hd hx.1; have h2 := Int.ediv_le_ediv hd hx.2; omega
theorem own_l2iR {x : Int64} {a b : Int} (hx : a ≤ x.toInt ∧ x.toInt ≤ b) (h1 : -2147483648 ≤ a ∧ b ≤ 2147483647) : x.toInt32.toInt = x.toInt ∧ a ≤ x.toInt32.toInt ∧ x.toInt32.toInt ≤ b := by have := c_l2i x; have := rng32 x.toInt32; omega
theorem own_i2lR {x : Int32} {a b : Int} (hx : a ≤ x.toInt ∧ x.toInt ≤ b) : x.toInt64.toInt = x.toInt ∧ a ≤ x.toInt64.toInt ∧ x.toInt64.toInt ≤ b := by have := c_i2l x; omega
theorem own_eqR32 {x y : Int32} {a b : Int} (h : x = y) (hy : a ≤ y.toInt ∧ y.toInt ≤ b) : x.toInt = y.toInt ∧ a ≤ x.toInt ∧ x.toInt ≤ b := by subst h; exact ⟨rfl, hy⟩
theorem own_eqR64 {x y : Int64} {a b : Int} (h : x = y) (hy : a ≤ y.toInt ∧ y.toInt ≤ b) : x.toInt = y.toInt ∧ a ≤ x.toInt ∧ x.toInt ≤ b := by subst h; exact ⟨rfl, hy⟩
theorem own_lushrR {x : Int64} {a b : Int} (q : Int32) (k : Nat) (P lo hi : Int) (hx : a ≤ x.toInt ∧ x.toInt ≤ b) (ha : 0 ≤ a) (hk : q.toBitVec.toNat % 64 = k) (h0 : 0 < k) (hP : P = ((2 ^ k : Nat) : Int)) (hPp : 0 < P) (h : lo ≤ a / P ∧ b / P ≤ hi) : ((x.toUInt64 >>> (q &&& 0x3f).toInt64.toUInt64).toInt64).toInt = x.toInt / P ∧ lo ≤ ((x.toUInt64 >>> (q &&& 0x3f).toInt64.toUInt64).toInt64).toInt ∧ ((x.toUInt64 >>> (q &&& 0x3f).toInt64.toUInt64).toInt64).toInt ≤ hi := by
  have e := own_lushr x q k P hk h0 hP; have := rng64 x; rw [Int.emod_eq_of_lt (by omega) (by omega)] at e; have h1 := Int.ediv_le_ediv hPp hx.1; have h2 := Int.ediv_le_ediv hPp hx.2; omega
theorem own_iushrR {x : Int32} {a b : Int} (q : Int32) (k : Nat) (P lo hi : Int) (hx : a ≤ x.toInt ∧ x.toInt ≤ b) (ha : 0 ≤ a) (hk : q.toBitVec.toNat % 32 = k) (h0 : 0 < k) (hP : P = ((2 ^ k : Nat) : Int)) (hPp : 0 < P) (h : lo ≤ a / P ∧ b / P ≤ hi) : ((x.toUInt32 >>> (q &&& 31).toUInt32).toInt32).toInt = x.toInt / P ∧ lo ≤ ((x.toUInt32 >>> (q &&& 31).toUInt32).toInt32).toInt ∧ ((x.toUInt32 >>> (q &&& 31).toUInt32).toInt32).toInt ≤ hi := by
  have e := own_iushr x q k P hk h0 hP; have := rng32 x; rw [Int.emod_eq_of_lt (by omega) (by omega)] at e; have h1 := Int.ediv_le_ediv hPp hx.1; have h2 := Int.ediv_le_ediv hPp hx.2; omega
def own_luhn (p0 : Int32) (p1 : Int32) : Int32 := (if (p1 % (2 : Int32)) = (1 : Int32) then (if (9 : Int32) < ((2 : Int32) * p0) then (((2 : Int32) * p0) + (-9 : Int32)) else ((2 : Int32) * p0)) else p0)
theorem pn_0 : plainName "com/example/reissue/reissue/card/CardNumber" = true := by first | (simp [plainName, overriddenIn]; done) | decide +kernel
theorem d1_0 : decode prog_12_method_10_code 0 = .ok (.iload_n 0, 1) := by decide +kernel
theorem d1_1 : decode prog_12_method_10_code 1 = .ok (.istore_n 2, 1) := by decide +kernel
theorem d1_2 : decode prog_12_method_10_code 2 = .ok (.iload_n 1, 1) := by decide +kernel
theorem d1_3 : decode prog_12_method_10_code 3 = .ok (.iconst 2, 1) := by decide +kernel
theorem d1_4 : decode prog_12_method_10_code 4 = .ok (.irem, 1) := by decide +kernel
theorem d1_5 : decode prog_12_method_10_code 5 = .ok (.iconst 1, 1) := by decide +kernel
theorem d1_6 : decode prog_12_method_10_code 6 = .ok (.if_icmp .ne 16, 3) := by decide +kernel
theorem d1_9 : decode prog_12_method_10_code 9 = .ok (.iconst 2, 1) := by decide +kernel
theorem d1_10 : decode prog_12_method_10_code 10 = .ok (.iload_n 0, 1) := by decide +kernel
theorem d1_11 : decode prog_12_method_10_code 11 = .ok (.imul, 1) := by decide +kernel
theorem d1_12 : decode prog_12_method_10_code 12 = .ok (.istore_n 2, 1) := by decide +kernel
theorem d1_13 : decode prog_12_method_10_code 13 = .ok (.iload_n 2, 1) := by decide +kernel
theorem d1_14 : decode prog_12_method_10_code 14 = .ok (.bipush 9, 2) := by decide +kernel
theorem d1_16 : decode prog_12_method_10_code 16 = .ok (.if_icmp .le 6, 3) := by decide +kernel
theorem d1_19 : decode prog_12_method_10_code 19 = .ok (.iinc 2 (-9), 3) := by decide +kernel
theorem d1_22 : decode prog_12_method_10_code 22 = .ok (.iload_n 2, 1) := by decide +kernel
theorem d1_23 : decode prog_12_method_10_code 23 = .ok (.ireturn, 1) := by decide +kernel
theorem ef_1 (m : MethodId) (x0 : Int32) (x1 : Int32) : entryFrame m #[(.int x0), (.int x1)] 3 = mkF m 0 #[.val (.int x0), .val (.int x1), .unset] [] := by first | (simp [entryFrame, mkF, argsToLocals, Value.category]; done) | rfl
def Q1 (Z : State) (p0 : Int32) (p1 : Int32) (h0 : Heap) (n0 : Nat) (v : Option Value) (h : Heap) (L : List Loc) : Prop := v = some (.int (own_luhn p0 p1)) ∧ Fr n0 L ∧ h = h0
set_option maxRecDepth 65536 in
set_option maxHeartbeats 40000000 in
theorem rm1 (l : Launch) (Z : State) (a0 : Array Value) (hw : ∀ d ∈ tables_1, d.before a0 Z = true) (ws : List Jvm.Cond) (p0 : Int32) (p1 : Int32) (h0 : Heap) (n0 : Nat) (Z0 : n0 ≤ h0.size) :
    MetFree l (⟨"com/example/reissue/reissue/card/CardNumber", "luhnShare", "(II)I"⟩ : MethodName) (head1 (Jvm.Cond.code (⟨"com/example/reissue/reissue/card/CardNumber", "luhnShare", "(II)I"⟩ : MethodName) prog_12_method_10_code 3 (some .int) :: ws) ({ frames := 0, cells := 0, slots := 0, locals := 0 } : Room)) (fun a U => a = #[(.int p0), (.int p1)] ∧ Z.Warmed39 U.vm ∧ U.heap = h0) (fun _ _ _ _ _ => True) (fun _ U o U' => ∃ v L, o = .returned v ∧ Q1 Z p0 p1 h0 n0 v U'.heap L ∧ FrameEnd U o U' L ({ frames := 0, cells := 0, slots := 0, locals := 0 } : Room).cells ({ frames := 0, cells := 0, slots := 0, locals := 0 } : Room).slots) := by
  refine MetFree.of_bodySF (plainFor_of_name pn_0) hisR ?_
  intro p e s m args below meth c s₁ Bd hml0 hP hK
  obtain ⟨rfl, hZ, hh⟩ := hP
  have hx := Bd.exec
  have hby := Bd.bytes
  have hml : c.maxLocals = 3 := hml0
  have hown : s.vm.findClass "com/example/reissue/reissue/card/CardNumber" = some m.cls := findClass_of_methodNamed Bd.named
  have hnm := (name_of_methodNamed Bd.named Bd.method).1
  have hlk : meth.locks = false := BodyLoose.notSynchronized Bd
  have X0 : Stand p l e ({ frames := 0, cells := 0, slots := 0, locals := 0 } : Room) s m #[(.int p0), (.int p1)] below meth c s₁ [] 0 0 := Stand.of_body Bd
  have e0 : s₁.heap = h0 := by rw [← hh, Bd.state]; rfl
  have N0 := Fr.nil n0
  have K0 : Keep h0 h0 [] := Keep.refl h0 _
  have key : ∀ (F0 : State) (G : Prop), (own_G p e below s F0 (Q1 Z p0 p1 h0 n0) ({ frames := 0, cells := 0, slots := 0, locals := 0 } : Room).cells ({ frames := 0, cells := 0, slots := 0, locals := 0 } : Room).slots → G) → own_R p.tables e below F0 (s₁.setTop (mkF m 0 #[.val (.int p0), .val (.int p1), .unset] [])) → G := by
    intro F0 G hG r0
    have r1 : own_R p.tables e below F0 (s₁.setTop (mkF m 6 #[.val (.int p0), .val (.int p1), .val (.int p0)] [(.int (1 : Int32)), (.int (p1 % (2 : Int32)))])) := fun t k => by
      refine r0 t ?_
      show Steps p.tables e below (s₁.setTop (mkF m 0 #[.val (.int p0), .val (.int p1), .unset] [])) _
      refine XS.iloadN X0.here hx rfl (hb hby d1_0) rfl ?_
      show Steps p.tables e below (s₁.setTop (mkF m 1 #[.val (.int p0), .val (.int p1), .unset] [(.int p0)])) _
      refine XS.istoreN X0.here hx rfl (hb hby d1_1) rfl (l' := #[.val (.int p0), .val (.int p1), .val (.int p0)]) rfl ?_
      show Steps p.tables e below (s₁.setTop (mkF m 2 #[.val (.int p0), .val (.int p1), .val (.int p0)] [])) _
      refine XS.iloadN X0.here hx rfl (hb hby d1_2) rfl ?_
      show Steps p.tables e below (s₁.setTop (mkF m 3 #[.val (.int p0), .val (.int p1), .val (.int p0)] [(.int p1)])) _
      refine XS.iconst X0.here hx rfl (hb hby d1_3) ?_
      show Steps p.tables e below (s₁.setTop (mkF m 4 #[.val (.int p0), .val (.int p1), .val (.int p0)] [(.int (2 : Int32)), (.int p1)])) _
      refine iremM X0 hx rfl (hb hby d1_4) rfl (by decide) ?_
      show Steps p.tables e below (s₁.setTop (mkF m 5 #[.val (.int p0), .val (.int p1), .val (.int p0)] [(.int (p1 % (2 : Int32)))])) _
      refine XS.iconst X0.here hx rfl (hb hby d1_5) ?_
      exact k
    by_cases hc2 : (p1 % (2 : Int32)) = (1 : Int32)
    · have r3 : own_R p.tables e below F0 (s₁.setTop (mkF m 16 #[.val (.int p0), .val (.int p1), .val (.int ((2 : Int32) * p0))] [(.int (9 : Int32)), (.int ((2 : Int32) * p0))])) := fun t k => by
        refine r1 t ?_
        show Steps p.tables e below (s₁.setTop (mkF m 6 #[.val (.int p0), .val (.int p1), .val (.int p0)] [(.int (1 : Int32)), (.int (p1 % (2 : Int32)))])) _
        refine XS.icmpNo X0.here hx rfl (hb hby d1_6) rfl (teq hc2).2 ?_
        show Steps p.tables e below (s₁.setTop (mkF m 9 #[.val (.int p0), .val (.int p1), .val (.int p0)] [])) _
        refine XS.iconst X0.here hx rfl (hb hby d1_9) ?_
        show Steps p.tables e below (s₁.setTop (mkF m 10 #[.val (.int p0), .val (.int p1), .val (.int p0)] [(.int (2 : Int32))])) _
        refine XS.iloadN X0.here hx rfl (hb hby d1_10) rfl ?_
        show Steps p.tables e below (s₁.setTop (mkF m 11 #[.val (.int p0), .val (.int p1), .val (.int p0)] [(.int p0), (.int (2 : Int32))])) _
        refine XS.imul X0.here hx rfl (hb hby d1_11) rfl ?_
        show Steps p.tables e below (s₁.setTop (mkF m 12 #[.val (.int p0), .val (.int p1), .val (.int p0)] [(.int ((2 : Int32) * p0))])) _
        refine XS.istoreN X0.here hx rfl (hb hby d1_12) rfl (l' := #[.val (.int p0), .val (.int p1), .val (.int ((2 : Int32) * p0))]) rfl ?_
        show Steps p.tables e below (s₁.setTop (mkF m 13 #[.val (.int p0), .val (.int p1), .val (.int ((2 : Int32) * p0))] [])) _
        refine XS.iloadN X0.here hx rfl (hb hby d1_13) rfl ?_
        show Steps p.tables e below (s₁.setTop (mkF m 14 #[.val (.int p0), .val (.int p1), .val (.int ((2 : Int32) * p0))] [(.int ((2 : Int32) * p0))])) _
        refine XS.bipush X0.here hx rfl (hb hby d1_14) ?_
        exact k
      by_cases hc4 : (9 : Int32) < ((2 : Int32) * p0)
      · have r5 : own_R p.tables e below F0 (s₁.setTop (mkF m 23 #[.val (.int p0), .val (.int p1), .val (.int (((2 : Int32) * p0) + (-9 : Int32)))] [(.int (((2 : Int32) * p0) + (-9 : Int32)))])) := fun t k => by
          refine r3 t ?_
          show Steps p.tables e below (s₁.setTop (mkF m 16 #[.val (.int p0), .val (.int p1), .val (.int ((2 : Int32) * p0))] [(.int (9 : Int32)), (.int ((2 : Int32) * p0))])) _
          refine XS.icmpNo X0.here hx rfl (hb hby d1_16) rfl (tlt hc4).2.2.2 ?_
          show Steps p.tables e below (s₁.setTop (mkF m 19 #[.val (.int p0), .val (.int p1), .val (.int ((2 : Int32) * p0))] [])) _
          refine XS.iinc X0.here hx rfl (hb hby d1_19) rfl (l' := #[.val (.int p0), .val (.int p1), .val (.int (((2 : Int32) * p0) + (-9 : Int32)))]) rfl ?_
          show Steps p.tables e below (s₁.setTop (mkF m 22 #[.val (.int p0), .val (.int p1), .val (.int (((2 : Int32) * p0) + (-9 : Int32)))] [])) _
          refine XS.iloadN X0.here hx rfl (hb hby d1_22) rfl ?_
          exact k
        refine hG (own_fin X0 hlk (some (.int (((2 : Int32) * p0) + (-9 : Int32)))) (own_hv Bd.returns) ?_ (by decide) (by decide) (fun fs hr => r5 _ (retOut X0 hx Bd.returns rfl (Or.inl ⟨rfl, Or.inl rfl, _, rfl⟩) (hb hby d1_23) hr)))
        rw [e0]
        refine ⟨?_, N0, rfl⟩
        have ev : (own_luhn p0 p1) = (((2 : Int32) * p0) + (-9 : Int32)) := by unfold own_luhn; rw [if_pos hc2, if_pos hc4]
        rw [ev]
      · have r6 : own_R p.tables e below F0 (s₁.setTop (mkF m 23 #[.val (.int p0), .val (.int p1), .val (.int ((2 : Int32) * p0))] [(.int ((2 : Int32) * p0))])) := fun t k => by
          refine r3 t ?_
          show Steps p.tables e below (s₁.setTop (mkF m 16 #[.val (.int p0), .val (.int p1), .val (.int ((2 : Int32) * p0))] [(.int (9 : Int32)), (.int ((2 : Int32) * p0))])) _
          refine XS.icmpYes X0.here hx rfl (pc0 := 16) (pc' := 22) rfl (hb hby d1_16) rfl (flt hc4).2.2.2 (by decide) (by decide) ?_
          show Steps p.tables e below (s₁.setTop (mkF m 22 #[.val (.int p0), .val (.int p1), .val (.int ((2 : Int32) * p0))] [])) _
          refine XS.iloadN X0.here hx rfl (hb hby d1_22) rfl ?_
          exact k
        refine hG (own_fin X0 hlk (some (.int ((2 : Int32) * p0))) (own_hv Bd.returns) ?_ (by decide) (by decide) (fun fs hr => r6 _ (retOut X0 hx Bd.returns rfl (Or.inl ⟨rfl, Or.inl rfl, _, rfl⟩) (hb hby d1_23) hr)))
        rw [e0]
        refine ⟨?_, N0, rfl⟩
        have ev : (own_luhn p0 p1) = ((2 : Int32) * p0) := by unfold own_luhn; rw [if_pos hc2, if_neg hc4]
        rw [ev]
    · have r7 : own_R p.tables e below F0 (s₁.setTop (mkF m 23 #[.val (.int p0), .val (.int p1), .val (.int p0)] [(.int p0)])) := fun t k => by
        refine r1 t ?_
        show Steps p.tables e below (s₁.setTop (mkF m 6 #[.val (.int p0), .val (.int p1), .val (.int p0)] [(.int (1 : Int32)), (.int (p1 % (2 : Int32)))])) _
        refine XS.icmpYes X0.here hx rfl (pc0 := 6) (pc' := 22) rfl (hb hby d1_6) rfl (feq hc2).2 (by decide) (by decide) ?_
        show Steps p.tables e below (s₁.setTop (mkF m 22 #[.val (.int p0), .val (.int p1), .val (.int p0)] [])) _
        refine XS.iloadN X0.here hx rfl (hb hby d1_22) rfl ?_
        exact k
      refine hG (own_fin X0 hlk (some (.int p0)) (own_hv Bd.returns) ?_ (by decide) (by decide) (fun fs hr => r7 _ (retOut X0 hx Bd.returns rfl (Or.inl ⟨rfl, Or.inl rfl, _, rfl⟩) (hb hby d1_23) hr)))
      rw [e0]
      refine ⟨?_, N0, rfl⟩
      have ev : (own_luhn p0 p1) = p0 := by unfold own_luhn; rw [if_neg hc2]
      rw [ev]
  exact key _ _ id (fun t k => castTop (ef_1 m p0 p1) k)
theorem pn_1 : plainName "com/example/reissue/reissue/card/CardNumberLuhnSharePinLaw" = true := by first | (simp [plainName, overriddenIn]; done) | decide +kernel
theorem d2_0 : decode method_2_code 0 = .ok (.iload_n 0, 1) := by decide +kernel
theorem d2_1 : decode method_2_code 1 = .ok (.bipush 10, 2) := by decide +kernel
theorem d2_3 : decode method_2_code 3 = .ok (.idiv, 1) := by decide +kernel
theorem d2_4 : decode method_2_code 4 = .ok (.iload_n 0, 1) := by decide +kernel
theorem d2_5 : decode method_2_code 5 = .ok (.bipush 10, 2) := by decide +kernel
theorem d2_7 : decode method_2_code 7 = .ok (.irem, 1) := by decide +kernel
theorem d2_8 : decode method_2_code 8 = .ok (.iadd, 1) := by decide +kernel
theorem d2_9 : decode method_2_code 9 = .ok (.ireturn, 1) := by decide +kernel
theorem ef_2 (m : MethodId) (x0 : Int32) : entryFrame m #[(.int x0)] 1 = mkF m 0 #[.val (.int x0)] [] := by first | (simp [entryFrame, mkF, argsToLocals, Value.category]; done) | rfl
def Q2 (Z : State) (p0 : Int32) (h0 : Heap) (n0 : Nat) (v : Option Value) (h : Heap) (L : List Loc) : Prop := v = some (.int ((p0 / (10 : Int32)) + (p0 % (10 : Int32)))) ∧ Fr n0 L ∧ h = h0
set_option maxRecDepth 65536 in
set_option maxHeartbeats 40000000 in
theorem rm2 (l : Launch) (Z : State) (a0 : Array Value) (hw : ∀ d ∈ tables_1, d.before a0 Z = true) (ws : List Jvm.Cond) (p0 : Int32) (h0 : Heap) (n0 : Nat) (Z0 : n0 ≤ h0.size) :
    MetFree l (⟨"com/example/reissue/reissue/card/CardNumberLuhnSharePinLaw", "digitSum", "(I)I"⟩ : MethodName) (head1 (Jvm.Cond.code (⟨"com/example/reissue/reissue/card/CardNumberLuhnSharePinLaw", "digitSum", "(I)I"⟩ : MethodName) method_2_code 1 (some .int) :: ws) ({ frames := 0, cells := 0, slots := 0, locals := 0 } : Room)) (fun a U => a = #[(.int p0)] ∧ Z.Warmed39 U.vm ∧ U.heap = h0) (fun _ _ _ _ _ => True) (fun _ U o U' => ∃ v L, o = .returned v ∧ Q2 Z p0 h0 n0 v U'.heap L ∧ FrameEnd U o U' L ({ frames := 0, cells := 0, slots := 0, locals := 0 } : Room).cells ({ frames := 0, cells := 0, slots := 0, locals := 0 } : Room).slots) := by
  refine MetFree.of_bodySF (plainFor_of_name pn_1) hisR ?_
  intro p e s m args below meth c s₁ Bd hml0 hP hK
  obtain ⟨rfl, hZ, hh⟩ := hP
  have hx := Bd.exec
  have hby := Bd.bytes
  have hml : c.maxLocals = 1 := hml0
  have hown : s.vm.findClass "com/example/reissue/reissue/card/CardNumberLuhnSharePinLaw" = some m.cls := findClass_of_methodNamed Bd.named
  have hnm := (name_of_methodNamed Bd.named Bd.method).1
  have hlk : meth.locks = false := BodyLoose.notSynchronized Bd
  have X0 : Stand p l e ({ frames := 0, cells := 0, slots := 0, locals := 0 } : Room) s m #[(.int p0)] below meth c s₁ [] 0 0 := Stand.of_body Bd
  have e0 : s₁.heap = h0 := by rw [← hh, Bd.state]; rfl
  have N0 := Fr.nil n0
  have K0 : Keep h0 h0 [] := Keep.refl h0 _
  have key : ∀ (F0 : State) (G : Prop), (own_G p e below s F0 (Q2 Z p0 h0 n0) ({ frames := 0, cells := 0, slots := 0, locals := 0 } : Room).cells ({ frames := 0, cells := 0, slots := 0, locals := 0 } : Room).slots → G) → own_R p.tables e below F0 (s₁.setTop (mkF m 0 #[.val (.int p0)] [])) → G := by
    intro F0 G hG r0
    have r8 : own_R p.tables e below F0 (s₁.setTop (mkF m 9 #[.val (.int p0)] [(.int ((p0 / (10 : Int32)) + (p0 % (10 : Int32))))])) := fun t k => by
      refine r0 t ?_
      show Steps p.tables e below (s₁.setTop (mkF m 0 #[.val (.int p0)] [])) _
      refine XS.iloadN X0.here hx rfl (hb hby d2_0) rfl ?_
      show Steps p.tables e below (s₁.setTop (mkF m 1 #[.val (.int p0)] [(.int p0)])) _
      refine XS.bipush X0.here hx rfl (hb hby d2_1) ?_
      show Steps p.tables e below (s₁.setTop (mkF m 3 #[.val (.int p0)] [(.int (10 : Int32)), (.int p0)])) _
      refine XS.idiv X0.here hx rfl (hb hby d2_3) rfl (by decide) ?_
      show Steps p.tables e below (s₁.setTop (mkF m 4 #[.val (.int p0)] [(.int (p0 / (10 : Int32)))])) _
      refine XS.iloadN X0.here hx rfl (hb hby d2_4) rfl ?_
      show Steps p.tables e below (s₁.setTop (mkF m 5 #[.val (.int p0)] [(.int p0), (.int (p0 / (10 : Int32)))])) _
      refine XS.bipush X0.here hx rfl (hb hby d2_5) ?_
      show Steps p.tables e below (s₁.setTop (mkF m 7 #[.val (.int p0)] [(.int (10 : Int32)), (.int p0), (.int (p0 / (10 : Int32)))])) _
      refine iremM X0 hx rfl (hb hby d2_7) rfl (by decide) ?_
      show Steps p.tables e below (s₁.setTop (mkF m 8 #[.val (.int p0)] [(.int (p0 % (10 : Int32))), (.int (p0 / (10 : Int32)))])) _
      refine XS.iadd X0.here hx rfl (hb hby d2_8) rfl ?_
      exact k
    refine hG (own_fin X0 hlk (some (.int ((p0 / (10 : Int32)) + (p0 % (10 : Int32))))) (own_hv Bd.returns) ?_ (by decide) (by decide) (fun fs hr => r8 _ (retOut X0 hx Bd.returns rfl (Or.inl ⟨rfl, Or.inl rfl, _, rfl⟩) (hb hby d2_9) hr)))
    rw [e0]
    refine ⟨?_, N0, rfl⟩
    rfl
  exact key _ _ id (fun t k => castTop (ef_2 m p0) k)
theorem own_par (p : Int32) (hp : 0 ≤ p.toInt) : p % (2 : Int32) = (1 : Int32) ↔ ¬ (p &&& (1 : Int32)) = (0 : Int32) := by
  have h1 := own_mask p 1 1 2 (by decide) (by decide) (by decide)
  have h2 := (c_irem p 2 2 (by decide)).1 hp
  have h3 : (1 : Int32).toInt = 1 := by decide
  have h4 : (0 : Int32).toInt = 0 := by decide
  rw [← Int32.toInt_inj, ← Int32.toInt_inj, h1, h2, h3, h4]
  omega
theorem own_dig (d : Int32) (h0 : 0 ≤ d.toInt) (h9 : d.toInt ≤ 9) : (if (9 : Int32) < ((2 : Int32) * d) then (((2 : Int32) * d) + (-9 : Int32)) else ((2 : Int32) * d)) = ((((2 : Int32) * d) / (10 : Int32)) + (((2 : Int32) * d) % (10 : Int32))) := by
  have hb : ∀ n : Fin 10, (if (9 : Int32) < ((2 : Int32) * Int32.ofNat n.1) then (((2 : Int32) * Int32.ofNat n.1) + (-9 : Int32)) else ((2 : Int32) * Int32.ofNat n.1)) = ((((2 : Int32) * Int32.ofNat n.1) / (10 : Int32)) + (((2 : Int32) * Int32.ofNat n.1) % (10 : Int32))) := by decide +kernel
  have hc : d = Int32.ofNat d.toInt.toNat := by
    apply Int32.toInt_inj.mp
    rw [Int32.toInt_ofNat_of_lt (by omega)]; omega
  rw [hc]
  exact hb ⟨d.toInt.toNat, by omega⟩
theorem pd_0 : parseMethodDescriptor "(II)I" = some ⟨[.int, .int], some .int⟩ := by decide +kernel
theorem pd_1 : parseMethodDescriptor "(I)I" = some ⟨[.int], some .int⟩ := by decide +kernel
theorem ef_0 (m : MethodId) (x0 : Int32) (x1 : Int32) : entryFrame m #[(.int x0), (.int x1)] maxLocals = mkF m 0 #[.val (.int x0), .val (.int x1), .unset, .unset, .unset, .unset] [] := by first | (simp [entryFrame, mkF, argsToLocals, Value.category, maxLocals]; done) | rfl
def Q0 (Z : State) (p0s : Int32) (p1s : Int32) (h0 : Heap) (n0 : Nat) (v : Option Value) (h : Heap) (L : List Loc) : Prop := v = some (.int (1 : Int32)) ∧ Fr n0 L
set_option maxRecDepth 65536 in
set_option maxHeartbeats 40000000 in
theorem rm0 (l : Launch) (Z : State) (a0 : Array Value) (hw : ∀ d ∈ tables_1, d.before a0 Z = true) (ws : List Jvm.Cond) (p0s : Int32) (p1s : Int32) (h0 : Heap) (n0 : Nat) (Z0 : n0 ≤ h0.size) :
    MetFree l x (head1 (Jvm.Cond.code x code maxLocals ret :: ws) room_1) (fun a U => a = #[(.int p0s), (.int p1s)] ∧ Z.Warmed39 U.vm ∧ U.heap = h0) (fun _ _ _ _ _ => True) (fun _ U o U' => ∃ v L, o = .returned v ∧ Q0 Z p0s p1s h0 n0 v U'.heap L ∧ FrameEnd U o U' L 0 0) := by
  refine MetFree.of_bodySF (plainFor_of_name pn_1) hisR ?_
  intro p e s m args below meth c s₁ Bd hml0 hP hK
  obtain ⟨rfl, hZ, hh⟩ := hP
  have hx := Bd.exec
  have hby := Bd.bytes
  have hml : c.maxLocals = 6 := hml0
  have hown : s.vm.findClass "com/example/reissue/reissue/card/CardNumberLuhnSharePinLaw" = some m.cls := findClass_of_methodNamed Bd.named
  have hnm := (name_of_methodNamed Bd.named Bd.method).1
  have hlk : meth.locks = false := BodyLoose.notSynchronized Bd
  have X0 : Stand p l e room_1 s m #[(.int p0s), (.int p1s)] below meth c s₁ [] 0 0 := Stand.of_body Bd
  have e0 : s₁.heap = h0 := by rw [← hh, Bd.state]; rfl
  have N0 := Fr.nil n0
  have K0 : Keep h0 h0 [] := Keep.refl h0 _
  have key : ∀ (F0 : State) (G : Prop), (own_G p e below s F0 (Q0 Z p0s p1s h0 n0) 0 0 → G) → own_R p.tables e below F0 (s₁.setTop (mkF m 0 #[.val (.int p0s), .val (.int p1s), .unset, .unset, .unset, .unset] [])) → G := by
    intro F0 G hG r0
    have r9 : own_R p.tables e below F0 (s₁.setTop (mkF m 15 #[.val (.int p0s), .val (.int p1s), .val (.int ((p0s &&& (2147483647 : Int32)) % (10 : Int32))), .val (.int (p1s &&& (2147483647 : Int32))), .unset, .unset] [(.int (p1s &&& (2147483647 : Int32))), (.int ((p0s &&& (2147483647 : Int32)) % (10 : Int32)))])) := fun t k => by
      refine r0 t ?_
      show Steps p.tables e below (s₁.setTop (mkF m 0 #[.val (.int p0s), .val (.int p1s), .unset, .unset, .unset, .unset] [])) _
      refine XS.iloadN X0.here hx rfl (hb hby at_0) rfl ?_
      show Steps p.tables e below (s₁.setTop (mkF m 1 #[.val (.int p0s), .val (.int p1s), .unset, .unset, .unset, .unset] [(.int p0s)])) _
      refine X0.ldcI hx hown (mvT hZ (hw _ (List.mem_of_getElem? (i := 0) rfl))) rfl (hb hby at_1) ?_
      show Steps p.tables e below (s₁.setTop (mkF m 3 #[.val (.int p0s), .val (.int p1s), .unset, .unset, .unset, .unset] [(.int (2147483647 : Int32)), (.int p0s)])) _
      refine XS.iand X0.here hx rfl (hb hby at_3) rfl ?_
      show Steps p.tables e below (s₁.setTop (mkF m 4 #[.val (.int p0s), .val (.int p1s), .unset, .unset, .unset, .unset] [(.int (p0s &&& (2147483647 : Int32)))])) _
      refine XS.bipush X0.here hx rfl (hb hby at_4) ?_
      show Steps p.tables e below (s₁.setTop (mkF m 6 #[.val (.int p0s), .val (.int p1s), .unset, .unset, .unset, .unset] [(.int (10 : Int32)), (.int (p0s &&& (2147483647 : Int32)))])) _
      refine iremM X0 hx rfl (hb hby at_6) rfl (by decide) ?_
      show Steps p.tables e below (s₁.setTop (mkF m 7 #[.val (.int p0s), .val (.int p1s), .unset, .unset, .unset, .unset] [(.int ((p0s &&& (2147483647 : Int32)) % (10 : Int32)))])) _
      refine XS.istoreN X0.here hx rfl (hb hby at_7) rfl (l' := #[.val (.int p0s), .val (.int p1s), .val (.int ((p0s &&& (2147483647 : Int32)) % (10 : Int32))), .unset, .unset, .unset]) rfl ?_
      show Steps p.tables e below (s₁.setTop (mkF m 8 #[.val (.int p0s), .val (.int p1s), .val (.int ((p0s &&& (2147483647 : Int32)) % (10 : Int32))), .unset, .unset, .unset] [])) _
      refine XS.iloadN X0.here hx rfl (hb hby at_8) rfl ?_
      show Steps p.tables e below (s₁.setTop (mkF m 9 #[.val (.int p0s), .val (.int p1s), .val (.int ((p0s &&& (2147483647 : Int32)) % (10 : Int32))), .unset, .unset, .unset] [(.int p1s)])) _
      refine X0.ldcI hx hown (mvT hZ (hw _ (List.mem_of_getElem? (i := 0) rfl))) rfl (hb hby at_9) ?_
      show Steps p.tables e below (s₁.setTop (mkF m 11 #[.val (.int p0s), .val (.int p1s), .val (.int ((p0s &&& (2147483647 : Int32)) % (10 : Int32))), .unset, .unset, .unset] [(.int (2147483647 : Int32)), (.int p1s)])) _
      refine XS.iand X0.here hx rfl (hb hby at_11) rfl ?_
      show Steps p.tables e below (s₁.setTop (mkF m 12 #[.val (.int p0s), .val (.int p1s), .val (.int ((p0s &&& (2147483647 : Int32)) % (10 : Int32))), .unset, .unset, .unset] [(.int (p1s &&& (2147483647 : Int32)))])) _
      refine XS.istoreN X0.here hx rfl (hb hby at_12) rfl (l' := #[.val (.int p0s), .val (.int p1s), .val (.int ((p0s &&& (2147483647 : Int32)) % (10 : Int32))), .val (.int (p1s &&& (2147483647 : Int32))), .unset, .unset]) rfl ?_
      show Steps p.tables e below (s₁.setTop (mkF m 13 #[.val (.int p0s), .val (.int p1s), .val (.int ((p0s &&& (2147483647 : Int32)) % (10 : Int32))), .val (.int (p1s &&& (2147483647 : Int32))), .unset, .unset] [])) _
      refine XS.iloadN X0.here hx rfl (hb hby at_13) rfl ?_
      show Steps p.tables e below (s₁.setTop (mkF m 14 #[.val (.int p0s), .val (.int p1s), .val (.int ((p0s &&& (2147483647 : Int32)) % (10 : Int32))), .val (.int (p1s &&& (2147483647 : Int32))), .unset, .unset] [(.int ((p0s &&& (2147483647 : Int32)) % (10 : Int32)))])) _
      refine XS.iloadN X0.here hx rfl (hb hby at_14) rfl ?_
      exact k
    obtain ⟨_, _, ⟨T10, L10, k10, n10⟩, -, X10, ⟨Lc10, hQ10, l10, y10, z10⟩, st10⟩ := Jvm.LawKit.callS X0 hx (y := (⟨"com/example/reissue/reissue/card/CardNumber", "luhnShare", "(II)I"⟩ : MethodName)) hown (mvT hZ (hw _ (List.mem_of_getElem? (i := 1) rfl))) (mvT hZ (hw _ (List.mem_of_getElem? (i := 2) rfl))) (mvT hZ (hw _ (List.mem_of_getElem? (i := 3) rfl))) (mvT hZ (hw _ (List.mem_of_getElem? (i := 4) rfl))) (by decide) (backOf (W := 0) (rm1 l Z a0 hw [] ((p0s &&& (2147483647 : Int32)) % (10 : Int32)) (p1s &&& (2147483647 : Int32)) h0 n0 Z0 ) hZ (hw _ (List.mem_of_getElem? (i := 4) rfl)) (hw _ (List.mem_of_getElem? (i := 3) rfl)) (by decide) (by decide)) (g := (mkF m 15 #[.val (.int p0s), .val (.int p1s), .val (.int ((p0s &&& (2147483647 : Int32)) % (10 : Int32))), .val (.int (p1s &&& (2147483647 : Int32))), .unset, .unset] [(.int (p1s &&& (2147483647 : Int32))), (.int ((p0s &&& (2147483647 : Int32)) % (10 : Int32)))])) rfl (by rw [hml]; rfl) (argsL := [(.int ((p0s &&& (2147483647 : Int32)) % (10 : Int32))), (.int (p1s &&& (2147483647 : Int32)))]) (rest := []) (lenOf pd_0 rfl) rfl (by show 2 * 0 + _ ≤ _; exact Nat.le_of_eq rfl) (hb hby at_15) (fun _ _ => ⟨rfl, e0, (by decide : 0 + 0 ≤ _), (by decide : 0 + 0 ≤ _)⟩)
    dsimp only [Pt.U, Pt.locs, Pt.cells, Pt.slots] at X10 l10 y10 z10 st10 hQ10
    subst l10 y10 z10
    obtain ⟨rfl, N10q, I10_0⟩ := hQ10
    have N10 := Fr.app N0 N10q
    have r10 : own_R p.tables e below F0 (T10.setTop (mkF m 18 #[.val (.int p0s), .val (.int p1s), .val (.int ((p0s &&& (2147483647 : Int32)) % (10 : Int32))), .val (.int (p1s &&& (2147483647 : Int32))), .unset, .unset] [(.int (own_luhn ((p0s &&& (2147483647 : Int32)) % (10 : Int32)) (p1s &&& (2147483647 : Int32))))])) := fun t k => r9 t (st10 t k)
    have r11 : own_R p.tables e below F0 (T10.setTop (mkF m 23 #[.val (.int p0s), .val (.int p1s), .val (.int ((p0s &&& (2147483647 : Int32)) % (10 : Int32))), .val (.int (p1s &&& (2147483647 : Int32))), .val (.int (own_luhn ((p0s &&& (2147483647 : Int32)) % (10 : Int32)) (p1s &&& (2147483647 : Int32)))), .unset] [(.int ((p1s &&& (2147483647 : Int32)) &&& (1 : Int32)))])) := fun t k => by
      refine r10 t ?_
      show Steps p.tables e below (T10.setTop (mkF m 18 #[.val (.int p0s), .val (.int p1s), .val (.int ((p0s &&& (2147483647 : Int32)) % (10 : Int32))), .val (.int (p1s &&& (2147483647 : Int32))), .unset, .unset] [(.int (own_luhn ((p0s &&& (2147483647 : Int32)) % (10 : Int32)) (p1s &&& (2147483647 : Int32))))])) _
      refine XS.istore X10.here hx rfl (hb hby at_18) rfl (l' := #[.val (.int p0s), .val (.int p1s), .val (.int ((p0s &&& (2147483647 : Int32)) % (10 : Int32))), .val (.int (p1s &&& (2147483647 : Int32))), .val (.int (own_luhn ((p0s &&& (2147483647 : Int32)) % (10 : Int32)) (p1s &&& (2147483647 : Int32)))), .unset]) rfl ?_
      show Steps p.tables e below (T10.setTop (mkF m 20 #[.val (.int p0s), .val (.int p1s), .val (.int ((p0s &&& (2147483647 : Int32)) % (10 : Int32))), .val (.int (p1s &&& (2147483647 : Int32))), .val (.int (own_luhn ((p0s &&& (2147483647 : Int32)) % (10 : Int32)) (p1s &&& (2147483647 : Int32)))), .unset] [])) _
      refine XS.iloadN X10.here hx rfl (hb hby at_20) rfl ?_
      show Steps p.tables e below (T10.setTop (mkF m 21 #[.val (.int p0s), .val (.int p1s), .val (.int ((p0s &&& (2147483647 : Int32)) % (10 : Int32))), .val (.int (p1s &&& (2147483647 : Int32))), .val (.int (own_luhn ((p0s &&& (2147483647 : Int32)) % (10 : Int32)) (p1s &&& (2147483647 : Int32)))), .unset] [(.int (p1s &&& (2147483647 : Int32)))])) _
      refine XS.iconst X10.here hx rfl (hb hby at_21) ?_
      show Steps p.tables e below (T10.setTop (mkF m 22 #[.val (.int p0s), .val (.int p1s), .val (.int ((p0s &&& (2147483647 : Int32)) % (10 : Int32))), .val (.int (p1s &&& (2147483647 : Int32))), .val (.int (own_luhn ((p0s &&& (2147483647 : Int32)) % (10 : Int32)) (p1s &&& (2147483647 : Int32)))), .unset] [(.int (1 : Int32)), (.int (p1s &&& (2147483647 : Int32)))])) _
      refine XS.iand X10.here hx rfl (hb hby at_22) rfl ?_
      exact k
    by_cases hc12 : ((p1s &&& (2147483647 : Int32)) &&& (1 : Int32)) = (0 : Int32)
    · have hp0 : 0 ≤ (p1s &&& (2147483647 : Int32)).toInt := (by
                have q17_r := own_R32 p1s
                have q18_e : (2147483647 : Int32).toInt = 2147483647 := (by decide)
                have q18_r : (2147483647 : Int) ≤ (2147483647 : Int32).toInt ∧ (2147483647 : Int32).toInt ≤ 2147483647 := ⟨Int.le_of_eq q18_e.symm, Int.le_of_eq q18_e⟩
                have q19_ := own_maskR p1s (2147483647 : Int32) 31 2147483648 (by decide) (by decide) (by decide) 2147483647 (by decide) (by decide)
                have q19_e := q19_.1
                have q19_r := q19_.2
                omega)
      have hd0 : 0 ≤ ((p0s &&& (2147483647 : Int32)) % (10 : Int32)).toInt ∧ ((p0s &&& (2147483647 : Int32)) % (10 : Int32)).toInt ≤ 9 := (by
                have q20_r := own_R32 p0s
                have q21_e : (2147483647 : Int32).toInt = 2147483647 := (by decide)
                have q21_r : (2147483647 : Int) ≤ (2147483647 : Int32).toInt ∧ (2147483647 : Int32).toInt ≤ 2147483647 := ⟨Int.le_of_eq q21_e.symm, Int.le_of_eq q21_e⟩
                have q22_ := own_maskR p0s (2147483647 : Int32) 31 2147483648 (by decide) (by decide) (by decide) 2147483647 (by decide) (by decide)
                have q22_e := q22_.1
                have q22_r := q22_.2
                have q23_e : (10 : Int32).toInt = 10 := (by decide)
                have q23_r : (10 : Int) ≤ (10 : Int32).toInt ∧ (10 : Int32).toInt ≤ 10 := ⟨Int.le_of_eq q23_e.symm, Int.le_of_eq q23_e⟩
                have q24_ := own_iremR 9 q22_r (show (10 : Int32).toInt = 10 from by decide) (by decide) (by decide) (by decide)
                have q24_e := q24_.1
                have q24_r := q24_.2
                omega)
      have r14 : own_R p.tables e below F0 (T10.setTop (mkF m 44 #[.val (.int p0s), .val (.int p1s), .val (.int ((p0s &&& (2147483647 : Int32)) % (10 : Int32))), .val (.int (p1s &&& (2147483647 : Int32))), .val (.int (own_luhn ((p0s &&& (2147483647 : Int32)) % (10 : Int32)) (p1s &&& (2147483647 : Int32)))), .val (.int ((p0s &&& (2147483647 : Int32)) % (10 : Int32)))] [(.int ((p0s &&& (2147483647 : Int32)) % (10 : Int32))), (.int (own_luhn ((p0s &&& (2147483647 : Int32)) % (10 : Int32)) (p1s &&& (2147483647 : Int32))))])) := fun t k => by
        refine r11 t ?_
        show Steps p.tables e below (T10.setTop (mkF m 23 #[.val (.int p0s), .val (.int p1s), .val (.int ((p0s &&& (2147483647 : Int32)) % (10 : Int32))), .val (.int (p1s &&& (2147483647 : Int32))), .val (.int (own_luhn ((p0s &&& (2147483647 : Int32)) % (10 : Int32)) (p1s &&& (2147483647 : Int32)))), .unset] [(.int ((p1s &&& (2147483647 : Int32)) &&& (1 : Int32)))])) _
        refine XS.ifNo X10.here hx rfl (hb hby at_23) rfl ((if0 _ _).trans (teq hc12).2) ?_
        show Steps p.tables e below (T10.setTop (mkF m 26 #[.val (.int p0s), .val (.int p1s), .val (.int ((p0s &&& (2147483647 : Int32)) % (10 : Int32))), .val (.int (p1s &&& (2147483647 : Int32))), .val (.int (own_luhn ((p0s &&& (2147483647 : Int32)) % (10 : Int32)) (p1s &&& (2147483647 : Int32)))), .unset] [])) _
        refine XS.iloadN X10.here hx rfl (hb hby at_26) rfl ?_
        show Steps p.tables e below (T10.setTop (mkF m 27 #[.val (.int p0s), .val (.int p1s), .val (.int ((p0s &&& (2147483647 : Int32)) % (10 : Int32))), .val (.int (p1s &&& (2147483647 : Int32))), .val (.int (own_luhn ((p0s &&& (2147483647 : Int32)) % (10 : Int32)) (p1s &&& (2147483647 : Int32)))), .unset] [(.int ((p0s &&& (2147483647 : Int32)) % (10 : Int32)))])) _
        refine XS.istore X10.here hx rfl (hb hby at_27) rfl (l' := #[.val (.int p0s), .val (.int p1s), .val (.int ((p0s &&& (2147483647 : Int32)) % (10 : Int32))), .val (.int (p1s &&& (2147483647 : Int32))), .val (.int (own_luhn ((p0s &&& (2147483647 : Int32)) % (10 : Int32)) (p1s &&& (2147483647 : Int32)))), .val (.int ((p0s &&& (2147483647 : Int32)) % (10 : Int32)))]) rfl ?_
        show Steps p.tables e below (T10.setTop (mkF m 29 #[.val (.int p0s), .val (.int p1s), .val (.int ((p0s &&& (2147483647 : Int32)) % (10 : Int32))), .val (.int (p1s &&& (2147483647 : Int32))), .val (.int (own_luhn ((p0s &&& (2147483647 : Int32)) % (10 : Int32)) (p1s &&& (2147483647 : Int32)))), .val (.int ((p0s &&& (2147483647 : Int32)) % (10 : Int32)))] [])) _
        refine XS.goto X10.here hx rfl (pc0 := 29) (pc' := 40) rfl (hb hby at_29) (by decide) (by decide) ?_
        show Steps p.tables e below (T10.setTop (mkF m 40 #[.val (.int p0s), .val (.int p1s), .val (.int ((p0s &&& (2147483647 : Int32)) % (10 : Int32))), .val (.int (p1s &&& (2147483647 : Int32))), .val (.int (own_luhn ((p0s &&& (2147483647 : Int32)) % (10 : Int32)) (p1s &&& (2147483647 : Int32)))), .val (.int ((p0s &&& (2147483647 : Int32)) % (10 : Int32)))] [])) _
        refine XS.iload X10.here hx rfl (hb hby at_40) rfl ?_
        show Steps p.tables e below (T10.setTop (mkF m 42 #[.val (.int p0s), .val (.int p1s), .val (.int ((p0s &&& (2147483647 : Int32)) % (10 : Int32))), .val (.int (p1s &&& (2147483647 : Int32))), .val (.int (own_luhn ((p0s &&& (2147483647 : Int32)) % (10 : Int32)) (p1s &&& (2147483647 : Int32)))), .val (.int ((p0s &&& (2147483647 : Int32)) % (10 : Int32)))] [(.int (own_luhn ((p0s &&& (2147483647 : Int32)) % (10 : Int32)) (p1s &&& (2147483647 : Int32))))])) _
        refine XS.iload X10.here hx rfl (hb hby at_42) rfl ?_
        exact k
      have hc13 : (own_luhn ((p0s &&& (2147483647 : Int32)) % (10 : Int32)) (p1s &&& (2147483647 : Int32))) = ((p0s &&& (2147483647 : Int32)) % (10 : Int32)) := (by unfold own_luhn; rw [if_neg (fun q => (own_par (p1s &&& (2147483647 : Int32)) hp0).mp q hc12)])
      have r15 : own_R p.tables e below F0 (T10.setTop (mkF m 52 #[.val (.int p0s), .val (.int p1s), .val (.int ((p0s &&& (2147483647 : Int32)) % (10 : Int32))), .val (.int (p1s &&& (2147483647 : Int32))), .val (.int (own_luhn ((p0s &&& (2147483647 : Int32)) % (10 : Int32)) (p1s &&& (2147483647 : Int32)))), .val (.int ((p0s &&& (2147483647 : Int32)) % (10 : Int32)))] [(.int (1 : Int32))])) := fun t k => by
        refine r14 t ?_
        show Steps p.tables e below (T10.setTop (mkF m 44 #[.val (.int p0s), .val (.int p1s), .val (.int ((p0s &&& (2147483647 : Int32)) % (10 : Int32))), .val (.int (p1s &&& (2147483647 : Int32))), .val (.int (own_luhn ((p0s &&& (2147483647 : Int32)) % (10 : Int32)) (p1s &&& (2147483647 : Int32)))), .val (.int ((p0s &&& (2147483647 : Int32)) % (10 : Int32)))] [(.int ((p0s &&& (2147483647 : Int32)) % (10 : Int32))), (.int (own_luhn ((p0s &&& (2147483647 : Int32)) % (10 : Int32)) (p1s &&& (2147483647 : Int32))))])) _
        refine XS.icmpNo X10.here hx rfl (hb hby at_44) rfl (teq hc13).2 ?_
        show Steps p.tables e below (T10.setTop (mkF m 47 #[.val (.int p0s), .val (.int p1s), .val (.int ((p0s &&& (2147483647 : Int32)) % (10 : Int32))), .val (.int (p1s &&& (2147483647 : Int32))), .val (.int (own_luhn ((p0s &&& (2147483647 : Int32)) % (10 : Int32)) (p1s &&& (2147483647 : Int32)))), .val (.int ((p0s &&& (2147483647 : Int32)) % (10 : Int32)))] [])) _
        refine XS.iconst X10.here hx rfl (hb hby at_47) ?_
        show Steps p.tables e below (T10.setTop (mkF m 48 #[.val (.int p0s), .val (.int p1s), .val (.int ((p0s &&& (2147483647 : Int32)) % (10 : Int32))), .val (.int (p1s &&& (2147483647 : Int32))), .val (.int (own_luhn ((p0s &&& (2147483647 : Int32)) % (10 : Int32)) (p1s &&& (2147483647 : Int32)))), .val (.int ((p0s &&& (2147483647 : Int32)) % (10 : Int32)))] [(.int (1 : Int32))])) _
        refine XS.goto X10.here hx rfl (pc0 := 48) (pc' := 52) rfl (hb hby at_48) (by decide) (by decide) ?_
        exact k
      refine hG (own_fin X10 hlk (some (.int (nar .boolean (1 : Int32)))) (own_hv Bd.returns) ?_ (by decide) (by decide) (fun fs hr => r15 _ (retN X10 hx (t := .boolean) Bd.returns (by simp) (hb hby at_52) hr)))
      rw [I10_0]
      exact ⟨rfl, N10⟩
    · have r16 : own_R p.tables e below F0 (T10.setTop (mkF m 35 #[.val (.int p0s), .val (.int p1s), .val (.int ((p0s &&& (2147483647 : Int32)) % (10 : Int32))), .val (.int (p1s &&& (2147483647 : Int32))), .val (.int (own_luhn ((p0s &&& (2147483647 : Int32)) % (10 : Int32)) (p1s &&& (2147483647 : Int32)))), .unset] [(.int ((2 : Int32) * ((p0s &&& (2147483647 : Int32)) % (10 : Int32))))])) := fun t k => by
        refine r11 t ?_
        show Steps p.tables e below (T10.setTop (mkF m 23 #[.val (.int p0s), .val (.int p1s), .val (.int ((p0s &&& (2147483647 : Int32)) % (10 : Int32))), .val (.int (p1s &&& (2147483647 : Int32))), .val (.int (own_luhn ((p0s &&& (2147483647 : Int32)) % (10 : Int32)) (p1s &&& (2147483647 : Int32)))), .unset] [(.int ((p1s &&& (2147483647 : Int32)) &&& (1 : Int32)))])) _
        refine XS.ifYes X10.here hx rfl (pc0 := 23) (pc' := 32) rfl (hb hby at_23) rfl ((if0 _ _).trans (feq hc12).2) (by decide) (by decide) ?_
        show Steps p.tables e below (T10.setTop (mkF m 32 #[.val (.int p0s), .val (.int p1s), .val (.int ((p0s &&& (2147483647 : Int32)) % (10 : Int32))), .val (.int (p1s &&& (2147483647 : Int32))), .val (.int (own_luhn ((p0s &&& (2147483647 : Int32)) % (10 : Int32)) (p1s &&& (2147483647 : Int32)))), .unset] [])) _
        refine XS.iconst X10.here hx rfl (hb hby at_32) ?_
        show Steps p.tables e below (T10.setTop (mkF m 33 #[.val (.int p0s), .val (.int p1s), .val (.int ((p0s &&& (2147483647 : Int32)) % (10 : Int32))), .val (.int (p1s &&& (2147483647 : Int32))), .val (.int (own_luhn ((p0s &&& (2147483647 : Int32)) % (10 : Int32)) (p1s &&& (2147483647 : Int32)))), .unset] [(.int (2 : Int32))])) _
        refine XS.iloadN X10.here hx rfl (hb hby at_33) rfl ?_
        show Steps p.tables e below (T10.setTop (mkF m 34 #[.val (.int p0s), .val (.int p1s), .val (.int ((p0s &&& (2147483647 : Int32)) % (10 : Int32))), .val (.int (p1s &&& (2147483647 : Int32))), .val (.int (own_luhn ((p0s &&& (2147483647 : Int32)) % (10 : Int32)) (p1s &&& (2147483647 : Int32)))), .unset] [(.int ((p0s &&& (2147483647 : Int32)) % (10 : Int32))), (.int (2 : Int32))])) _
        refine XS.imul X10.here hx rfl (hb hby at_34) rfl ?_
        exact k
      obtain ⟨_, _, ⟨T17, L17, k17, n17⟩, -, X17, ⟨Lc17, hQ17, l17, y17, z17⟩, st17⟩ := Jvm.LawKit.callS X10 hx (y := (⟨"com/example/reissue/reissue/card/CardNumberLuhnSharePinLaw", "digitSum", "(I)I"⟩ : MethodName)) hown (mvT hZ (hw _ (List.mem_of_getElem? (i := 5) rfl))) (mvT hZ (hw _ (List.mem_of_getElem? (i := 6) rfl))) (mvT hZ (hw _ (List.mem_of_getElem? (i := 7) rfl))) (mvT hZ (hw _ (List.mem_of_getElem? (i := 8) rfl))) (by decide) (backOf (W := 0) (rm2 l Z a0 hw [] ((2 : Int32) * ((p0s &&& (2147483647 : Int32)) % (10 : Int32))) h0 n0 Z0 ) hZ (hw _ (List.mem_of_getElem? (i := 8) rfl)) (hw _ (List.mem_of_getElem? (i := 7) rfl)) (by decide) (by decide)) (g := (mkF m 35 #[.val (.int p0s), .val (.int p1s), .val (.int ((p0s &&& (2147483647 : Int32)) % (10 : Int32))), .val (.int (p1s &&& (2147483647 : Int32))), .val (.int (own_luhn ((p0s &&& (2147483647 : Int32)) % (10 : Int32)) (p1s &&& (2147483647 : Int32)))), .unset] [(.int ((2 : Int32) * ((p0s &&& (2147483647 : Int32)) % (10 : Int32))))])) rfl (by rw [hml]; rfl) (argsL := [(.int ((2 : Int32) * ((p0s &&& (2147483647 : Int32)) % (10 : Int32))))]) (rest := []) (lenOf pd_1 rfl) rfl (by show 2 * 0 + _ ≤ _; exact Nat.le_of_eq rfl) (hb hby at_35) (fun _ _ => ⟨rfl, I10_0, (by decide : 0 + 0 ≤ _), (by decide : 0 + 0 ≤ _)⟩)
      dsimp only [Pt.U, Pt.locs, Pt.cells, Pt.slots] at X17 l17 y17 z17 st17 hQ17
      subst l17 y17 z17
      obtain ⟨rfl, N17q, I17_0⟩ := hQ17
      have N17 := Fr.app N10 N17q
      have r17 : own_R p.tables e below F0 (T17.setTop (mkF m 38 #[.val (.int p0s), .val (.int p1s), .val (.int ((p0s &&& (2147483647 : Int32)) % (10 : Int32))), .val (.int (p1s &&& (2147483647 : Int32))), .val (.int (own_luhn ((p0s &&& (2147483647 : Int32)) % (10 : Int32)) (p1s &&& (2147483647 : Int32)))), .unset] [(.int ((((2 : Int32) * ((p0s &&& (2147483647 : Int32)) % (10 : Int32))) / (10 : Int32)) + (((2 : Int32) * ((p0s &&& (2147483647 : Int32)) % (10 : Int32))) % (10 : Int32))))])) := fun t k => r16 t (st17 t k)
      have hp0 : 0 ≤ (p1s &&& (2147483647 : Int32)).toInt := (by
                have q25_r := own_R32 p1s
                have q26_e : (2147483647 : Int32).toInt = 2147483647 := (by decide)
                have q26_r : (2147483647 : Int) ≤ (2147483647 : Int32).toInt ∧ (2147483647 : Int32).toInt ≤ 2147483647 := ⟨Int.le_of_eq q26_e.symm, Int.le_of_eq q26_e⟩
                have q27_ := own_maskR p1s (2147483647 : Int32) 31 2147483648 (by decide) (by decide) (by decide) 2147483647 (by decide) (by decide)
                have q27_e := q27_.1
                have q27_r := q27_.2
                omega)
      have hd0 : 0 ≤ ((p0s &&& (2147483647 : Int32)) % (10 : Int32)).toInt ∧ ((p0s &&& (2147483647 : Int32)) % (10 : Int32)).toInt ≤ 9 := (by
                have q28_r := own_R32 p0s
                have q29_e : (2147483647 : Int32).toInt = 2147483647 := (by decide)
                have q29_r : (2147483647 : Int) ≤ (2147483647 : Int32).toInt ∧ (2147483647 : Int32).toInt ≤ 2147483647 := ⟨Int.le_of_eq q29_e.symm, Int.le_of_eq q29_e⟩
                have q30_ := own_maskR p0s (2147483647 : Int32) 31 2147483648 (by decide) (by decide) (by decide) 2147483647 (by decide) (by decide)
                have q30_e := q30_.1
                have q30_r := q30_.2
                have q31_e : (10 : Int32).toInt = 10 := (by decide)
                have q31_r : (10 : Int) ≤ (10 : Int32).toInt ∧ (10 : Int32).toInt ≤ 10 := ⟨Int.le_of_eq q31_e.symm, Int.le_of_eq q31_e⟩
                have q32_ := own_iremR 9 q30_r (show (10 : Int32).toInt = 10 from by decide) (by decide) (by decide) (by decide)
                have q32_e := q32_.1
                have q32_r := q32_.2
                omega)
      have r19 : own_R p.tables e below F0 (T17.setTop (mkF m 44 #[.val (.int p0s), .val (.int p1s), .val (.int ((p0s &&& (2147483647 : Int32)) % (10 : Int32))), .val (.int (p1s &&& (2147483647 : Int32))), .val (.int (own_luhn ((p0s &&& (2147483647 : Int32)) % (10 : Int32)) (p1s &&& (2147483647 : Int32)))), .val (.int ((((2 : Int32) * ((p0s &&& (2147483647 : Int32)) % (10 : Int32))) / (10 : Int32)) + (((2 : Int32) * ((p0s &&& (2147483647 : Int32)) % (10 : Int32))) % (10 : Int32))))] [(.int ((((2 : Int32) * ((p0s &&& (2147483647 : Int32)) % (10 : Int32))) / (10 : Int32)) + (((2 : Int32) * ((p0s &&& (2147483647 : Int32)) % (10 : Int32))) % (10 : Int32)))), (.int (own_luhn ((p0s &&& (2147483647 : Int32)) % (10 : Int32)) (p1s &&& (2147483647 : Int32))))])) := fun t k => by
        refine r17 t ?_
        show Steps p.tables e below (T17.setTop (mkF m 38 #[.val (.int p0s), .val (.int p1s), .val (.int ((p0s &&& (2147483647 : Int32)) % (10 : Int32))), .val (.int (p1s &&& (2147483647 : Int32))), .val (.int (own_luhn ((p0s &&& (2147483647 : Int32)) % (10 : Int32)) (p1s &&& (2147483647 : Int32)))), .unset] [(.int ((((2 : Int32) * ((p0s &&& (2147483647 : Int32)) % (10 : Int32))) / (10 : Int32)) + (((2 : Int32) * ((p0s &&& (2147483647 : Int32)) % (10 : Int32))) % (10 : Int32))))])) _
        refine XS.istore X17.here hx rfl (hb hby at_38) rfl (l' := #[.val (.int p0s), .val (.int p1s), .val (.int ((p0s &&& (2147483647 : Int32)) % (10 : Int32))), .val (.int (p1s &&& (2147483647 : Int32))), .val (.int (own_luhn ((p0s &&& (2147483647 : Int32)) % (10 : Int32)) (p1s &&& (2147483647 : Int32)))), .val (.int ((((2 : Int32) * ((p0s &&& (2147483647 : Int32)) % (10 : Int32))) / (10 : Int32)) + (((2 : Int32) * ((p0s &&& (2147483647 : Int32)) % (10 : Int32))) % (10 : Int32))))]) rfl ?_
        show Steps p.tables e below (T17.setTop (mkF m 40 #[.val (.int p0s), .val (.int p1s), .val (.int ((p0s &&& (2147483647 : Int32)) % (10 : Int32))), .val (.int (p1s &&& (2147483647 : Int32))), .val (.int (own_luhn ((p0s &&& (2147483647 : Int32)) % (10 : Int32)) (p1s &&& (2147483647 : Int32)))), .val (.int ((((2 : Int32) * ((p0s &&& (2147483647 : Int32)) % (10 : Int32))) / (10 : Int32)) + (((2 : Int32) * ((p0s &&& (2147483647 : Int32)) % (10 : Int32))) % (10 : Int32))))] [])) _
        refine XS.iload X17.here hx rfl (hb hby at_40) rfl ?_
        show Steps p.tables e below (T17.setTop (mkF m 42 #[.val (.int p0s), .val (.int p1s), .val (.int ((p0s &&& (2147483647 : Int32)) % (10 : Int32))), .val (.int (p1s &&& (2147483647 : Int32))), .val (.int (own_luhn ((p0s &&& (2147483647 : Int32)) % (10 : Int32)) (p1s &&& (2147483647 : Int32)))), .val (.int ((((2 : Int32) * ((p0s &&& (2147483647 : Int32)) % (10 : Int32))) / (10 : Int32)) + (((2 : Int32) * ((p0s &&& (2147483647 : Int32)) % (10 : Int32))) % (10 : Int32))))] [(.int (own_luhn ((p0s &&& (2147483647 : Int32)) % (10 : Int32)) (p1s &&& (2147483647 : Int32))))])) _
        refine XS.iload X17.here hx rfl (hb hby at_42) rfl ?_
        exact k
      have hc18 : (own_luhn ((p0s &&& (2147483647 : Int32)) % (10 : Int32)) (p1s &&& (2147483647 : Int32))) = ((((2 : Int32) * ((p0s &&& (2147483647 : Int32)) % (10 : Int32))) / (10 : Int32)) + (((2 : Int32) * ((p0s &&& (2147483647 : Int32)) % (10 : Int32))) % (10 : Int32))) := (by unfold own_luhn; rw [if_pos ((own_par (p1s &&& (2147483647 : Int32)) hp0).mpr hc12)]; exact own_dig ((p0s &&& (2147483647 : Int32)) % (10 : Int32)) hd0.1 hd0.2)
      have r20 : own_R p.tables e below F0 (T17.setTop (mkF m 52 #[.val (.int p0s), .val (.int p1s), .val (.int ((p0s &&& (2147483647 : Int32)) % (10 : Int32))), .val (.int (p1s &&& (2147483647 : Int32))), .val (.int (own_luhn ((p0s &&& (2147483647 : Int32)) % (10 : Int32)) (p1s &&& (2147483647 : Int32)))), .val (.int ((((2 : Int32) * ((p0s &&& (2147483647 : Int32)) % (10 : Int32))) / (10 : Int32)) + (((2 : Int32) * ((p0s &&& (2147483647 : Int32)) % (10 : Int32))) % (10 : Int32))))] [(.int (1 : Int32))])) := fun t k => by
        refine r19 t ?_
        show Steps p.tables e below (T17.setTop (mkF m 44 #[.val (.int p0s), .val (.int p1s), .val (.int ((p0s &&& (2147483647 : Int32)) % (10 : Int32))), .val (.int (p1s &&& (2147483647 : Int32))), .val (.int (own_luhn ((p0s &&& (2147483647 : Int32)) % (10 : Int32)) (p1s &&& (2147483647 : Int32)))), .val (.int ((((2 : Int32) * ((p0s &&& (2147483647 : Int32)) % (10 : Int32))) / (10 : Int32)) + (((2 : Int32) * ((p0s &&& (2147483647 : Int32)) % (10 : Int32))) % (10 : Int32))))] [(.int ((((2 : Int32) * ((p0s &&& (2147483647 : Int32)) % (10 : Int32))) / (10 : Int32)) + (((2 : Int32) * ((p0s &&& (2147483647 : Int32)) % (10 : Int32))) % (10 : Int32)))), (.int (own_luhn ((p0s &&& (2147483647 : Int32)) % (10 : Int32)) (p1s &&& (2147483647 : Int32))))])) _
        refine XS.icmpNo X17.here hx rfl (hb hby at_44) rfl (teq hc18).2 ?_
        show Steps p.tables e below (T17.setTop (mkF m 47 #[.val (.int p0s), .val (.int p1s), .val (.int ((p0s &&& (2147483647 : Int32)) % (10 : Int32))), .val (.int (p1s &&& (2147483647 : Int32))), .val (.int (own_luhn ((p0s &&& (2147483647 : Int32)) % (10 : Int32)) (p1s &&& (2147483647 : Int32)))), .val (.int ((((2 : Int32) * ((p0s &&& (2147483647 : Int32)) % (10 : Int32))) / (10 : Int32)) + (((2 : Int32) * ((p0s &&& (2147483647 : Int32)) % (10 : Int32))) % (10 : Int32))))] [])) _
        refine XS.iconst X17.here hx rfl (hb hby at_47) ?_
        show Steps p.tables e below (T17.setTop (mkF m 48 #[.val (.int p0s), .val (.int p1s), .val (.int ((p0s &&& (2147483647 : Int32)) % (10 : Int32))), .val (.int (p1s &&& (2147483647 : Int32))), .val (.int (own_luhn ((p0s &&& (2147483647 : Int32)) % (10 : Int32)) (p1s &&& (2147483647 : Int32)))), .val (.int ((((2 : Int32) * ((p0s &&& (2147483647 : Int32)) % (10 : Int32))) / (10 : Int32)) + (((2 : Int32) * ((p0s &&& (2147483647 : Int32)) % (10 : Int32))) % (10 : Int32))))] [(.int (1 : Int32))])) _
        refine XS.goto X17.here hx rfl (pc0 := 48) (pc' := 52) rfl (hb hby at_48) (by decide) (by decide) ?_
        exact k
      refine hG (own_fin X17 hlk (some (.int (nar .boolean (1 : Int32)))) (own_hv Bd.returns) ?_ (by decide) (by decide) (fun fs hr => r20 _ (retN X17 hx (t := .boolean) Bd.returns (by simp) (hb hby at_52) hr)))
      rw [I17_0]
      exact ⟨rfl, N17⟩
  exact key _ _ id (fun t k => castTop (ef_0 m p0s p1s) k)
set_option maxRecDepth 65536 in
set_option maxHeartbeats 40000000 in
theorem comes_1 {Post : Tables → Env → Array Value → State → Outcome → State → Prop} (hpost : ∀ tb e args s v u, (limb_1_1.after args s (.returned v) u = true ∧ limb_1_2.after args s (.returned v) u = true ∧ True) → FrameEnd s (.returned v) u (Jvm.fieldLocs frame_1_writes args s ++ Jvm.arrayLocs frame_1_arrays args s ++ Jvm.staticLocs frame_1_statics s) 0 0 → Post tb e args s (.returned v) u) :
    ArmFor flags0 classFile x code maxLocals ret World_1 tables_1 room_1 Calls_1 rest_1 Pre_1 Post := by
  intro l hfl _ _ p e ha hc hk s m args below hf hA hF happ hP
  obtain ⟨hcalls, hrest, hpre⟩ := hP
  obtain ⟨-, -, -, hnamed, -, -, -, hat⟩ := (Spec.applies_iff hf).mp happ
  obtain ⟨hg, hn⟩ := and_e (Cond.before_iff.mp (show (Jvm.Cond.and given_1 narrow_1).before args s = true from hpre))
  obtain ⟨gw1, gw2⟩ := and_e hg
  obtain ⟨gw3, gw4⟩ := and_e gw2
  obtain ⟨w0, w1, rfl⟩ : ∃ w0 w1 : Value, args = #[w0, w1] := by
    have hs : args.size = 2 := by simpa [Cond.value, given_1] using gw1
    obtain ⟨L⟩ := args
    match L, hs with
    | [w0, w1], _ => exact ⟨w0, w1, rfl⟩
  have hw := fun d (hd : d ∈ tables_1) => atoms_spec (ws := Jvm.Cond.code x code maxLocals ret :: tables_1) hat d (List.mem_cons_of_mem _ hd)
  have hfit : Fit s := fun {y c} hc i hi => by
    obtain ⟨ha, rfl⟩ := Array.getElem?_eq_some_iff.mp hc
    have q := List.all_eq_true.mp ((Array.all_eq_true_iff_forall_mem.mp hF) _ (Array.getElem_mem ha)) i (List.mem_range.mpr hi)
    simpa [Array.getElem?_eq_getElem hi] using q
  obtain ⟨i0, ei0⟩ := is_v gw3
  obtain rfl : w0 = (.int i0) := Option.some.inj ei0
  obtain ⟨i1, ei1⟩ := is_v gw4
  obtain rfl : w1 = (.int i1) := Option.some.inj ei1
  obtain ⟨n, o, h1, h2, h3, _, L, rfl, ⟨rfl, N⟩, hq⟩ := rm0 l s _ hw tables_1 i0 i1  s.heap s.heap.size (Nat.le_refl _)  p e ha hc hk s m _ below hf ((Spec.applies_iff_loose hf).mp happ).1 ⟨rfl, State.Warmed39.refl s, rfl⟩ trivial
  refine ⟨n, _, h1, h2, h3, hpost _ _ _ _ _ _ ⟨Cond.after_iff.mpr rfl, Cond.after_iff.mpr (eq_i res_at (Term.int_eval (1)) rfl), trivial⟩ ⟨hq.1, hq.2.1, (hq.2.2.sift fun y hy => Or.inr (N y hy)).mono (by decide) (by decide)⟩⟩
theorem main_1_1 : Claimed_1_1 := comes_1 fun _ _ _ _ _ _ h hF => ⟨h.1, hF⟩
theorem main_1_2 : Claimed_1_2 := comes_1 fun _ _ _ _ _ _ h hF => ⟨h.2.1, hF⟩
end Jvm.Pilot.@@N@@
namespace Jvm.Pilot.@@N@@
open Jvm Jvm.ClassFile Sem Op Lib Jvm.Free Jvm.Stand Jvm.Pilot.@@N@@.Jvm.D
/-! MADE BY PROGRAM (witnessworld.py) out of the Statement's table words and the real class files: 9 classes; the members and pool entries that the words name. The judged class is class 1, her method 2. -/
namespace start1
open Jvm.ClassFile
def u (s : String) : CpInfo := .utf8 (stringToUtf16 s)
/-- a pool by its gaps: so many unusable entries, then the entry; so many at the end -/
def gap : Nat → List CpInfo → List CpInfo
  | 0, r => r
  | n + 1, r => .unusable :: gap n r
def poolList (es : List (Nat × CpInfo)) (last : Nat) : List CpInfo := es.foldr (fun e r => gap e.1 (e.2 :: r)) (gap last [])
def pool (es : List (Nat × CpInfo)) (last : Nat) : Array CpInfo := ⟨poolList es last⟩
def fileOf (pool : Array CpInfo) (this : Nat) (attrs : Array Attribute := #[]) (ms : Array MethodInfo := #[]) (fl : Nat := 33) (sup : Nat := 0) (ifs : Array Nat := #[]) (fds : Array FieldInfo := #[]) : ClassFile where
  minorVersion := 0
  majorVersion := 65
  constantPool := pool
  accessFlags := fl
  thisClass := this
  superClass := sup
  interfaces := ifs
  fields := fds
  methods := ms
  attributes := attrs
def plain (name : String) (sup : Option ClassId) : Class where
  name := name
  kind := .ordinary
  loader := none
  accessFlags := 33
  super := sup
  interfaces := #[]
  cf := none
  fields := #[]
  methods := #[]
  instanceTypes := #[]
  staticTypes := #[]
  resolved := #[]
  callSites := []
  init := .initialized
  statics := none
  mirror := none

def pool0 : Array CpInfo := pool [(5, u "<init>"), (0, u "()V"), (1, .class_ 10), (1, u "java/lang/Object")] 113

def k0m0 : Method := { name := "<init>", desc := "()V", sig := { parameters := [], returnType := none }, accessFlags := 1, code := none }
/-- java/lang/Object -/
def k0 : Class := { plain "java/lang/Object" none with
  accessFlags := 33
  interfaces := #[]
  cf := some (fileOf pool0 8 #[] #[{ accessFlags := 1, nameIndex := 5, descriptorIndex := 6, attributes := #[] }] 33 0 #[] #[])
  fields := #[]
  methods := #[k0m0]
  instanceTypes := #[]
  staticTypes := #[]
  resolved := Array.replicate 124 none
  statics := none }

def pool1 : Array CpInfo := pool [(2, .class_ 4), (1, u "java/lang/Object"), (0, u "<init>"), (0, u "()V"), (0, .integer 2147483647), (0, .methodref 9 10), (0, .class_ 11), (0, .nameAndType 12 13), (0, u "com/example/reissue/reissue/card/CardNumber"), (0, u "luhnShare"), (0, u "(II)I"), (0, .methodref 15 16), (0, .class_ 17), (0, .nameAndType 18 19), (0, u "com/example/reissue/reissue/card/CardNumberLuhnSharePinLaw"), (0, u "digitSum"), (0, u "(I)I"), (2, u "law"), (0, u "(II)Z")] 3

def k1m0 : Method := { name := "<init>", desc := "()V", sig := { parameters := [], returnType := none }, accessFlags := 2, code := none }
def k1c1 : Code := { maxStack := 3, maxLocals := 1, code := method_2_code, exceptionTable := #[], attributes := #[] }
def k1m1 : Method := { name := "digitSum", desc := "(I)I", sig := { parameters := [.int], returnType := some .int }, accessFlags := 10, code := some k1c1 }
def k1c2 : Code := { maxStack := 2, maxLocals := 6, code := code, exceptionTable := #[], attributes := #[] }
def k1m2 : Method := { name := "law", desc := "(II)Z", sig := { parameters := [.int, .int], returnType := some .boolean }, accessFlags := 9, code := some k1c2 }
/-- com/example/reissue/reissue/card/CardNumberLuhnSharePinLaw -/
def k1 : Class := { plain "com/example/reissue/reissue/card/CardNumberLuhnSharePinLaw" (some 0) with
  accessFlags := 49
  interfaces := #[]
  cf := some (fileOf pool1 15 #[] #[{ accessFlags := 2, nameIndex := 5, descriptorIndex := 6, attributes := #[] }, { accessFlags := 10, nameIndex := 18, descriptorIndex := 19, attributes := #[] }, { accessFlags := 9, nameIndex := 22, descriptorIndex := 23, attributes := #[] }] 49 2 #[] #[])
  fields := #[]
  methods := #[k1m0, k1m1, k1m2]
  instanceTypes := #[]
  staticTypes := #[]
  resolved := Array.replicate 27 none
  statics := none }

def pool2 : Array CpInfo := pool [(2, .class_ 4), (1, u "java/lang/Object"), (3, .class_ 10), (1, u "com/example/reissue/reissue/card/CardNumber"), (0, u "digits"), (0, u "Ljava/lang/String;"), (72, u "luhnShare"), (0, u "(II)I"), (0, u "MIN_LENGTH"), (0, u "I"), (2, u "MAX_LENGTH"), (1, u "LEADING_DIGITS")] 28

def k2c0 : Code := { maxStack := 2, maxLocals := 3, code := prog_12_method_10_code, exceptionTable := #[], attributes := #[] }
def k2m0 : Method := { name := "luhnShare", desc := "(II)I", sig := { parameters := [.int, .int], returnType := some .int }, accessFlags := 9, code := some k2c0 }
/-- com/example/reissue/reissue/card/CardNumber -/
def k2 : Class := { plain "com/example/reissue/reissue/card/CardNumber" (some 0) with
  accessFlags := 49
  interfaces := #[]
  cf := some (fileOf pool2 8 #[] #[{ accessFlags := 9, nameIndex := 85, descriptorIndex := 86, attributes := #[] }] 49 2 #[] #[{ accessFlags := 25, nameIndex := 87, descriptorIndex := 88, attributes := #[] }, { accessFlags := 25, nameIndex := 91, descriptorIndex := 88, attributes := #[] }, { accessFlags := 25, nameIndex := 93, descriptorIndex := 88, attributes := #[] }, { accessFlags := 18, nameIndex := 11, descriptorIndex := 12, attributes := #[] }])
  fields := #[{ name := "MIN_LENGTH", type := .int, accessFlags := 25, slot := 0, constantValue := 0 }, { name := "MAX_LENGTH", type := .int, accessFlags := 25, slot := 1, constantValue := 0 }, { name := "LEADING_DIGITS", type := .int, accessFlags := 25, slot := 2, constantValue := 0 }, { name := "digits", type := (.object "java/lang/String"), accessFlags := 18, slot := 0, constantValue := 0 }]
  methods := #[k2m0]
  instanceTypes := #[(.object "java/lang/String")]
  staticTypes := #[.int, .int, .int]
  resolved := Array.replicate 122 none
  statics := none }

def pool3 : Array CpInfo := pool [(1, u "java/lang/Cloneable"), (0, .class_ 1), (0, u "java/lang/Object"), (0, .class_ 3)] 3

/-- java/lang/Cloneable -/
def k3 : Class := { plain "java/lang/Cloneable" (some 0) with
  accessFlags := 1537
  interfaces := #[]
  cf := some (fileOf pool3 2 #[] #[] 1537 4 #[] #[])
  fields := #[]
  methods := #[]
  instanceTypes := #[]
  staticTypes := #[]
  resolved := Array.replicate 8 none
  statics := none }

def pool4 : Array CpInfo := pool [(1, u "java/io/Serializable"), (0, .class_ 1), (0, u "java/lang/Object"), (0, .class_ 3)] 3

/-- java/io/Serializable -/
def k4 : Class := { plain "java/io/Serializable" (some 0) with
  accessFlags := 1537
  interfaces := #[]
  cf := some (fileOf pool4 2 #[] #[] 1537 4 #[] #[])
  fields := #[]
  methods := #[]
  instanceTypes := #[]
  staticTypes := #[]
  resolved := Array.replicate 8 none
  statics := none }

/-- the primitive byte -/
def k5 : Class := { plain "byte" none with kind := .primitive 'B', accessFlags := 0x411 }
/-- [B -/
def k6 : Class := { plain "[B" (some 0) with kind := .array 5 .byte, interfaces := #[3, 4], accessFlags := 1041 }

/-- the primitive int -/
def k7 : Class := { plain "int" none with kind := .primitive 'I', accessFlags := 0x411 }
/-- [I -/
def k8 : Class := { plain "[I" (some 0) with kind := .array 7 .int, interfaces := #[3, 4], accessFlags := 1041 }

def heap : Heap := #[]
def classes : Array Class := #[k0, k1, k2, k3, k4, k5, k6, k7, k8]
def interned : List (Array UInt16 × Addr) := []
def slotsUsed : Nat := 0
def theMethod : MethodId := ⟨1, 2⟩
def args0 : Array Value := #[.int 5, .int 3]
def aboutOver (below : List Frame) : State where
  vm := { classes := classes, interned := interned.toArray }
  heap := heap
  slotsUsed := slotsUsed
  threads := #[{ frames := .invoking theMethod args0 :: below }]
def below0 : List Frame := [.native { method := ⟨0, 0⟩, args := #[] }]
def about1 : State := aboutOver below0
def p0 : Program := .bare "" "" ""
def e0 : Env := launch0.env 0 0 0
theorem w_frames : about1.frames = Frame.invoking theMethod args0 :: below0 := rfl
set_option maxRecDepth 65536 in
theorem w_args : argsFit about1.vm theMethod args0 = true := by decide +kernel
set_option maxRecDepth 65536 in
theorem w_heap : heapFits about1 = true := by decide +kernel
set_option maxRecDepth 65536 in
theorem w_runnable : about1.curStatus? = some .runnable := by decide +kernel
set_option maxRecDepth 65536 in
theorem w_alone : about1.alone = true := by decide +kernel
set_option maxRecDepth 65536 in
theorem w_named : about1.methodNamed? x = some theMethod := by decide +kernel
set_option maxRecDepth 65536 in
theorem w_hears : about1.hears theMethod below0 = true := by decide +kernel
set_option maxRecDepth 65536 in
theorem w_ripe : about1.ripe theMethod args0 below0 = true := by decide +kernel
theorem w_running : about1.status = .running := rfl
set_option maxRecDepth 65536 in
theorem w_room : about1.hasRoom e0.platform room_1 = true :=
  launch0.hasRoom_least _ room_1 (by decide +kernel) (by decide +kernel) (by decide +kernel) (by decide +kernel) (by decide +kernel) (by decide +kernel)
theorem allAtoms_all (ts : List Jvm.Cond) (a : Array Jvm.Value) (st : Jvm.State) : (allAtoms ts).before a st = ts.all (fun c => c.before a st) := by
  induction ts with
  | nil => rfl
  | cons c t ih =>
    show (Jvm.Cond.and c (allAtoms t)).before a st = _
    rw [Jvm.Cond.before_and, ih, List.all_cons]
def words1 : List Jvm.Cond := Jvm.Cond.code x code maxLocals ret :: tables_1
/-- a 'code' word, met by the world's own term for the bytes: nothing is compared byte by byte -/
theorem code_word {y : MethodName} {bytes : ByteArray} {mx : Nat} {rt : Option FieldType} {a : Array Value} {s : State} {m : MethodId} {meth : Method} {c : Code} (h1 : s.methodNamed? y = some m) (h2 : s.vm.method? m = some meth) (h3 : meth.code = some c) (h4 : c.code = bytes)
    (h5 : (c.maxLocals == mx && c.exceptionTable.isEmpty && decide (c.maxStack ≤ mostOperands) && decide (meth.sig.returnType = rt) && !meth.locks && decide (parseMethodDescriptor y.desc = some meth.sig)) = true) : (Jvm.Cond.code y bytes mx rt).before a s = true := by
  simp only [Bool.and_eq_true, beq_iff_eq, Bool.not_eq_true', decide_eq_true_eq] at h5
  obtain ⟨⟨⟨⟨⟨g1, g2⟩, g3⟩, g4⟩, g5⟩, g6⟩ := h5
  simp [Cond.before, Cond.holds, Cond.value, h1, h2, h3, h4, g1, g2, g3, g4, g5, g6]
def isCode : Jvm.Cond → Bool
  | .code _ _ _ _ => true
  | _ => false
theorem all_split {L : List Jvm.Cond} {P : Jvm.Cond → Bool} (h1 : L.all (fun c => isCode c || P c) = true) (h2 : ∀ c ∈ L.filter isCode, P c = true) : L.all P = true := by
  refine List.all_eq_true.mpr fun c hc => ?_
  have h := List.all_eq_true.mp h1 c hc
  rcases Bool.eq_false_or_eq_true (isCode c) with hi | hi
  · exact h2 c (List.mem_filter.mpr ⟨hc, hi⟩)
  · simpa [hi] using h
set_option maxRecDepth 65536 in
theorem w_c0 : (Jvm.Cond.code x code maxLocals ret).before args0 about1 = true := code_word (m := ⟨1, 2⟩) (meth := k1m2) (c := k1c2) (by decide +kernel) rfl rfl rfl (by decide +kernel)
set_option maxRecDepth 65536 in
theorem w_c1 : (Jvm.Cond.code ({ cls := "com/example/reissue/reissue/card/CardNumber", name := "luhnShare", desc := "(II)I" } : Jvm.MethodName) prog_12_method_10_code (3 : Nat) (Option.some Jvm.ClassFile.FieldType.int)).before args0 about1 = true := code_word (m := ⟨2, 0⟩) (meth := k2m0) (c := k2c0) (by decide +kernel) rfl rfl rfl (by decide +kernel)
set_option maxRecDepth 65536 in
theorem w_c2 : (Jvm.Cond.code ({ cls := "com/example/reissue/reissue/card/CardNumberLuhnSharePinLaw", name := "digitSum", desc := "(I)I" } : Jvm.MethodName) method_2_code (1 : Nat) (Option.some Jvm.ClassFile.FieldType.int)).before args0 about1 = true := code_word (m := ⟨1, 1⟩) (meth := k1m1) (c := k1c1) (by decide +kernel) rfl rfl rfl (by decide +kernel)
def codes1 : List Jvm.Cond := [Jvm.Cond.code x code maxLocals ret, Jvm.Cond.code ({ cls := "com/example/reissue/reissue/card/CardNumber", name := "luhnShare", desc := "(II)I" } : Jvm.MethodName) prog_12_method_10_code (3 : Nat) (Option.some Jvm.ClassFile.FieldType.int), Jvm.Cond.code ({ cls := "com/example/reissue/reissue/card/CardNumberLuhnSharePinLaw", name := "digitSum", desc := "(I)I" } : Jvm.MethodName) method_2_code (1 : Nat) (Option.some Jvm.ClassFile.FieldType.int)]
set_option maxRecDepth 65536 in
theorem codes_eq : words1.filter isCode = codes1 := rfl
theorem w_codes : ∀ c ∈ words1.filter isCode, c.before args0 about1 = true := by
  rw [codes_eq]
  intro c hc
  simp only [codes1, List.mem_cons, List.not_mem_nil, or_false] at hc
  rcases hc with rfl | rfl | rfl
  · exact w_c0
  · exact w_c1
  · exact w_c2
set_option maxRecDepth 65536 in
theorem w_t1 : words1.all (fun c => isCode c || c.before args0 about1) = true := by decide +kernel
theorem w_tables : (allAtoms (Jvm.Cond.code x code maxLocals ret :: tables_1)).before args0 about1 = true := by
  rw [allAtoms_all]
  show words1.all (fun c => c.before args0 about1) = true
  refine all_split ?_ w_codes
  rw [w_t1]
set_option maxRecDepth 65536 in
theorem w_case : (Jvm.Cond.and given_1 narrow_1).before args0 about1 = true := by decide +kernel
theorem w_applies : (headSpec (Jvm.Cond.code x code maxLocals ret :: tables_1) room_1).applies x e0.platform about1 = true :=
  (Spec.applies_iff w_frames).mpr ⟨w_running, w_runnable, w_alone, w_named, w_hears, w_ripe, w_room, w_tables⟩
theorem atStart : AtStart classFile x code maxLocals ret World_1 tables_1 room_1 Calls_1 rest_1 Pre_1 launch0 p0 e0 about1 theMethod args0 below0 :=
  ⟨lists_1, trivial, launch0.admits_env _ _ _, launch0.least_env, fairChoices_fair.cas, fairChoices_fair.clock, w_frames, w_args, w_heap, w_applies, trivial, trivial, w_case⟩
end start1
theorem witness_1 : WitnessClaimed_1 := ⟨start1.p0, start1.e0, start1.about1, start1.theMethod, start1.args0, start1.below0, start1.atStart⟩
end Jvm.Pilot.@@N@@
