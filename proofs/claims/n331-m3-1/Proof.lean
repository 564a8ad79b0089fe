import JvmDerived
import JvmDerived.Pilot.@@N@@Statement
import JvmDerived.Pilot.@@N@@Code
set_option linter.unusedVariables false
set_option linter.unusedSimpArgs false
namespace Jvm.Pilot.@@N@@
open Jvm Jvm.ClassFile Sem Op Lib Jvm.Free Jvm.Stand Jvm.LawKit Jvm.RoadKit Bundle Jvm.Pilot.@@N@@.Jvm.D
-- OWN KIT (mine): reach, finish, weakening of the counters, arrays by a function, arithmetic in omega's form
abbrev own_R (tb : Tables) (e : Env) (below : List Frame) (F0 F : State) : Prop := ∀ t, Steps tb e below F t → Steps tb e below F0 t
abbrev own_G (p : Program) (e : Env) (below : List Frame) (s F0 : State) (Q : Option Value → Heap → List Loc → Prop) (kc ks : Nat) : Prop :=
  ∃ s₂ o, Steps p.tables e below F0 s₂ ∧ s₂.status = .running ∧ Ended s₂ below o ∧ ∃ v L, o = .returned v ∧ Q v s₂.heap L ∧ FrameEnd s o s₂ L kc ks
section OwnKit
variable {p : Program} {l : Launch} {e : Env} {R : Room} {s : State} {m : MethodId} {args : Array Value} {below : List Frame} {meth : Method} {c : Code} {T : State} {locs : List Loc} {cells slots : Nat}
theorem own_fin (X : Stand p l e R s m args below meth c T locs cells slots) (hl : meth.locks = false) {F0 : State} {Q : Option Value → Heap → List Loc → Prop} {kc ks : Nat} (v : Option Value) (hv : meth.sig.returnType = none → v = none) (hq : Q v T.heap locs) (hc : cells ≤ kc) (hs : slots ≤ ks)
    (st : ∀ fs, (∀ (f : JFrame) (acts : List Action), f.method = m → f.locked = none → f.entered = [] → (doReturn e (T.setTop f) acts v).1 = T.setFrames fs) → Steps p.tables e below F0 (T.setFrames fs)) : own_G p e below s F0 Q kc ks := by
  obtain ⟨fs, hr, hrun, hended, hW, hsame⟩ := X.leave hv hl
  exact ⟨_, _, st fs hr, hrun, hended, _, _, rfl, hq, ⟨_, rfl⟩, hW, hsame.mono hc hs⟩
theorem own_mono (X : Stand p l e R s m args below meth c T locs cells slots) {c' s' : Nat} (hc : cells ≤ c') (hs : slots ≤ s') : Stand p l e R s m args below meth c T locs c' s' := { X with same := X.same.mono hc hs }
end OwnKit
theorem own_hv {meth : Method} {t : FieldType} {v : Option Value} (h : meth.sig.returnType = some t) : meth.sig.returnType = none → v = none := fun q => by rw [h] at q; cases q
theorem own_lt32 {a b : Int32} (h : a < b) : a.toInt < b.toInt := Int32.lt_iff_toInt_lt.mp h
theorem own_nlt32 {a b : Int32} (h : ¬ a < b) : b.toInt ≤ a.toInt := Int.not_lt.mp fun q => h (Int32.lt_iff_toInt_lt.mpr q)
theorem own_eq32 {a b : Int32} (h : a = b) : a.toInt = b.toInt := congrArg Int32.toInt h
theorem own_ne32 {a b : Int32} (h : ¬ a = b) : a.toInt ≠ b.toInt := fun q => h (Int32.toInt_inj.mp q)
theorem own_lt64 {a b : Int64} (h : a < b) : a.toInt < b.toInt := Int64.lt_iff_toInt_lt.mp h
theorem own_nlt64 {a b : Int64} (h : ¬ a < b) : b.toInt ≤ a.toInt := Int.not_lt.mp fun q => h (Int64.lt_iff_toInt_lt.mpr q)
theorem own_eq64 {a b : Int64} (h : a = b) : a.toInt = b.toInt := congrArg Int64.toInt h
theorem own_ne64 {a b : Int64} (h : ¬ a = b) : a.toInt ≠ b.toInt := fun q => h (Int64.toInt_inj.mp q)
theorem own_imulc (x y : Int32) (d : Int) (h : y.toInt = d) : ((x * y).toInt - x.toInt * d) % 4294967296 = 0 := by rw [← h]; exact c_imul x y
theorem own_imulc' (x y : Int32) (d : Int) (h : x.toInt = d) : ((x * y).toInt - d * y.toInt) % 4294967296 = 0 := by rw [← h]; exact c_imul x y
theorem own_lmulc (x y : Int64) (d : Int) (h : y.toInt = d) : ((x * y).toInt - x.toInt * d) % 18446744073709551616 = 0 := by rw [← h]; exact c_lmul x y
theorem own_lmulc' (x y : Int64) (d : Int) (h : x.toInt = d) : ((x * y).toInt - d * y.toInt) % 18446744073709551616 = 0 := by rw [← h]; exact c_lmul x y
theorem own_mask (x m : Int32) (k : Nat) (P : Int) (hk : k ≤ 31) (hm : m.toBitVec.toNat = 2 ^ k - 1) (hP : P = ((2 ^ k : Nat) : Int)) : (x &&& m).toInt = x.toInt % P := by rw [hP]; exact c_mask x m k hk hm
theorem own_maskL (x m : Int64) (k : Nat) (P : Int) (hk : k ≤ 63) (hm : m.toBitVec.toNat = 2 ^ k - 1) (hP : P = ((2 ^ k : Nat) : Int)) : (x &&& m).toInt = x.toInt % P := by rw [hP]; exact c_maskL x m k hk hm
theorem own_ishr (x q : Int32) (k : Nat) (P : Int) (hk : q.toBitVec.toNat % 32 = k) (hP : P = ((2 ^ k : Nat) : Int)) : (x >>> (q &&& 31)).toInt = x.toInt / P := by rw [hP]; exact c_ishr x q k hk
theorem own_ishl (x q : Int32) (k : Nat) (P : Int) (hk : q.toBitVec.toNat % 32 = k) (hP : P = ((2 ^ k : Nat) : Int)) : ((x <<< (q &&& 31)).toInt - x.toInt * P) % 4294967296 = 0 := by rw [hP]; exact c_ishl x q k hk
theorem own_iushr (x q : Int32) (k : Nat) (P : Int) (hk : q.toBitVec.toNat % 32 = k) (h0 : 0 < k) (hP : P = ((2 ^ k : Nat) : Int)) : ((x.toUInt32 >>> (q &&& 31).toUInt32).toInt32).toInt = (x.toInt % 4294967296) / P := by rw [hP]; exact c_iushr x q k hk h0
theorem own_lshr (x : Int64) (q : Int32) (k : Nat) (P : Int) (hk : q.toBitVec.toNat % 64 = k) (hP : P = ((2 ^ k : Nat) : Int)) : (x >>> (q &&& 0x3f).toInt64).toInt = x.toInt / P := by rw [hP]; exact c_lshr x q k hk
theorem own_lshl (x : Int64) (q : Int32) (k : Nat) (P : Int) (hk : q.toBitVec.toNat % 64 = k) (hP : P = ((2 ^ k : Nat) : Int)) : ((x <<< (q &&& 0x3f).toInt64).toInt - x.toInt * P) % 18446744073709551616 = 0 := by rw [hP]; exact c_lshl x q k hk
theorem own_lushr (x : Int64) (q : Int32) (k : Nat) (P : Int) (hk : q.toBitVec.toNat % 64 = k) (h0 : 0 < k) (hP : P = ((2 ^ k : Nat) : Int)) : ((x.toUInt64 >>> (q &&& 0x3f).toInt64.toUInt64).toInt64).toInt = (x.toInt % 18446744073709551616) / P := by rw [hP]; exact c_lushr x q k hk h0
theorem own_lc_lt {x y : Int64} {cd : ClassFile.Cond} {b : Bool} (h : if_icmp.holds cd (lcmpW x y) 0 = b) : ifCond.holds cd (lcmpW x y) = b := (if0 _ _).trans h
theorem own_l_lt {x y : Int64} (h : x < y) : ifCond.holds .lt (lcmpW x y) = true ∧ ifCond.holds .ge (lcmpW x y) = false := ⟨(if0 _ _).trans (tlt ((lw_lt x y).mpr h)).1, (if0 _ _).trans (tlt ((lw_lt x y).mpr h)).2.1⟩
theorem own_l_nlt {x y : Int64} (h : ¬ x < y) : ifCond.holds .lt (lcmpW x y) = false ∧ ifCond.holds .ge (lcmpW x y) = true := ⟨(if0 _ _).trans (flt (fun q => h ((lw_lt x y).mp q))).1, (if0 _ _).trans (flt (fun q => h ((lw_lt x y).mp q))).2.1⟩
theorem own_l_gt {x y : Int64} (h : y < x) : ifCond.holds .gt (lcmpW x y) = true ∧ ifCond.holds .le (lcmpW x y) = false := ⟨(if0 _ _).trans (tlt ((lw_gt x y).mpr h)).2.2.1, (if0 _ _).trans (tlt ((lw_gt x y).mpr h)).2.2.2⟩
theorem own_l_ngt {x y : Int64} (h : ¬ y < x) : ifCond.holds .gt (lcmpW x y) = false ∧ ifCond.holds .le (lcmpW x y) = true := ⟨(if0 _ _).trans (flt (fun q => h ((lw_gt x y).mp q))).2.2.1, (if0 _ _).trans (flt (fun q => h ((lw_gt x y).mp q))).2.2.2⟩
theorem own_l_eq {x y : Int64} (h : x = y) : ifCond.holds .eq (lcmpW x y) = true ∧ ifCond.holds .ne (lcmpW x y) = false := ⟨(if0 _ _).trans (teq ((lw_eq x y).mpr h)).1, (if0 _ _).trans (teq ((lw_eq x y).mpr h)).2⟩
theorem own_l_neq {x y : Int64} (h : ¬ x = y) : ifCond.holds .eq (lcmpW x y) = false ∧ ifCond.holds .ne (lcmpW x y) = true := ⟨(if0 _ _).trans (feq (fun q => h ((lw_eq x y).mp q))).1, (if0 _ _).trans (feq (fun q => h ((lw_eq x y).mp q))).2⟩
theorem own_lrem {x y : Int64} {d : Int} (hy : y.toInt = d) : (0 ≤ x.toInt → (x - (x / y) * y).toInt = x.toInt % d) ∧ (x.toInt < 0 → (x - (x / y) * y).toInt = -((-x.toInt) % d)) := c_lrem x y d hy
theorem own_lremf (x y : Int64) (d : Int) (hy : y.toInt = d) : (0 ≤ x.toInt → (x % y).toInt = x.toInt % d) ∧ (x.toInt < 0 → (x % y).toInt = -((-x.toInt) % d)) := by rw [Int64.toInt_mod, hy]; exact tr _ _
theorem own_lremM {p : Program} {l : Launch} {e : Env} {R : Room} {s : State} {m : MethodId} {args : Array Value} {below : List Frame} {meth : Method} {c : Code} {T : State} {locs : List Loc} {cells slots : Nat} {g : JFrame} {target : State} (X : Stand p l e R s m args below meth c T locs cells slots) (hx : p.tables.exec = Jvm.exec) (hg : g.method = m) {x y : Int64} {rest : List Value} (hd : decode c.code g.pc = .ok (.lrem, 1)) (hs : g.stack = .long y :: .long x :: rest) (hy : y ≠ 0)
    (hr : Steps p.tables e below (T.setTop { g with pc := g.pc + 1, stack := .long (x % y) :: rest }) target) : Steps p.tables e below (T.setTop g) target :=
  XS.lrem X.here hx hg hd hs hy (by rw [lrem_mod]; exact hr)
theorem own_R32 (x : Int32) : -2147483648 ≤ x.toInt ∧ x.toInt ≤ 2147483647 := by have := rng32 x; omega
theorem own_R64 (x : Int64) : -9223372036854775808 ≤ x.toInt ∧ x.toInt ≤ 9223372036854775807 := by have := rng64 x; omega
theorem own_iaddR {x y : Int32} {a b c d : Int} (lo hi : Int) (hx : a ≤ x.toInt ∧ x.toInt ≤ b) (hy : c ≤ y.toInt ∧ y.toInt ≤ d) (h1 : -2147483648 ≤ a + c ∧ b + d ≤ 2147483647) (h2 : lo ≤ a + c ∧ b + d ≤ hi) : (x + y).toInt = x.toInt + y.toInt ∧ lo ≤ (x + y).toInt ∧ (x + y).toInt ≤ hi := by have := c_iadd x y; have := rng32 (x + y); omega
theorem own_isubR {x y : Int32} {a b c d : Int} (lo hi : Int) (hx : a ≤ x.toInt ∧ x.toInt ≤ b) (hy : c ≤ y.toInt ∧ y.toInt ≤ d) (h1 : -2147483648 ≤ a - d ∧ b - c ≤ 2147483647) (h2 : lo ≤ a - d ∧ b - c ≤ hi) : (x - y).toInt = x.toInt - y.toInt ∧ lo ≤ (x - y).toInt ∧ (x - y).toInt ≤ hi := by have := c_isub x y; have := rng32 (x - y); omega
theorem own_laddR {x y : Int64} {a b c d : Int} (lo hi : Int) (hx : a ≤ x.toInt ∧ x.toInt ≤ b) (hy : c ≤ y.toInt ∧ y.toInt ≤ d) (h1 : -9223372036854775808 ≤ a + c ∧ b + d ≤ 9223372036854775807) (h2 : lo ≤ a + c ∧ b + d ≤ hi) : (x + y).toInt = x.toInt + y.toInt ∧ lo ≤ (x + y).toInt ∧ (x + y).toInt ≤ hi := by have := c_ladd x y; have := rng64 (x + y); omega
theorem own_lsubR {x y : Int64} {a b c d : Int} (lo hi : Int) (hx : a ≤ x.toInt ∧ x.toInt ≤ b) (hy : c ≤ y.toInt ∧ y.toInt ≤ d) (h1 : -9223372036854775808 ≤ a - d ∧ b - c ≤ 9223372036854775807) (h2 : lo ≤ a - d ∧ b - c ≤ hi) : (x - y).toInt = x.toInt - y.toInt ∧ lo ≤ (x - y).toInt ∧ (x - y).toInt ≤ hi := by have := c_lsub x y; have := rng64 (x - y); omega
theorem own_imulR {x y : Int32} {a b k : Int} (lo hi : Int) (hx : a ≤ x.toInt ∧ x.toInt ≤ b) (hy : y.toInt = k) (hk : 0 ≤ k) (h1 : -2147483648 ≤ a * k ∧ b * k ≤ 2147483647) (h2 : lo ≤ a * k ∧ b * k ≤ hi) : (x * y).toInt = x.toInt * k ∧ lo ≤ (x * y).toInt ∧ (x * y).toInt ≤ hi := by
  have h := c_imul x y; have := rng32 (x * y); rw [hy] at h
  have p1 := Int.mul_le_mul_of_nonneg_right hx.1 hk; have p2 := Int.mul_le_mul_of_nonneg_right hx.2 hk
  generalize x.toInt * k = z at *; generalize a * k = z1 at *; generalize b * k = z2 at *; omega
theorem own_lmulR {x y : Int64} {a b k : Int} (lo hi : Int) (hx : a ≤ x.toInt ∧ x.toInt ≤ b) (hy : y.toInt = k) (hk : 0 ≤ k) (h1 : -9223372036854775808 ≤ a * k ∧ b * k ≤ 9223372036854775807) (h2 : lo ≤ a * k ∧ b * k ≤ hi) : (x * y).toInt = x.toInt * k ∧ lo ≤ (x * y).toInt ∧ (x * y).toInt ≤ hi := by
  have h := c_lmul x y; have := rng64 (x * y); rw [hy] at h
  have p1 := Int.mul_le_mul_of_nonneg_right hx.1 hk; have p2 := Int.mul_le_mul_of_nonneg_right hx.2 hk
  generalize x.toInt * k = z at *; generalize a * k = z1 at *; generalize b * k = z2 at *; omega
theorem own_imulR' {x y : Int32} {a b k : Int} (lo hi : Int) (hx : a ≤ y.toInt ∧ y.toInt ≤ b) (hy : x.toInt = k) (hk : 0 ≤ k) (h1 : -2147483648 ≤ a * k ∧ b * k ≤ 2147483647) (h2 : lo ≤ a * k ∧ b * k ≤ hi) : (x * y).toInt = y.toInt * k ∧ lo ≤ (x * y).toInt ∧ (x * y).toInt ≤ hi := by rw [Int32.mul_comm]; exact own_imulR lo hi hx hy hk h1 h2
theorem own_lmulR' {x y : Int64} {a b k : Int} (lo hi : Int) (hx : a ≤ y.toInt ∧ y.toInt ≤ b) (hy : x.toInt = k) (hk : 0 ≤ k) (h1 : -9223372036854775808 ≤ a * k ∧ b * k ≤ 9223372036854775807) (h2 : lo ≤ a * k ∧ b * k ≤ hi) : (x * y).toInt = y.toInt * k ∧ lo ≤ (x * y).toInt ∧ (x * y).toInt ≤ hi := by rw [Int64.mul_comm]; exact own_lmulR lo hi hx hy hk h1 h2
theorem own_maskR (x m : Int32) (k : Nat) (P : Int) (hk : k ≤ 31) (hm : m.toBitVec.toNat = 2 ^ k - 1) (hP : P = ((2 ^ k : Nat) : Int)) (hi : Int) (h0 : 0 < P) (h : P ≤ hi + 1) : (x &&& m).toInt = x.toInt % P ∧ 0 ≤ (x &&& m).toInt ∧ (x &&& m).toInt ≤ hi := by
  have e := own_mask x m k P hk hm hP; have h1 := Int.emod_nonneg x.toInt (show P ≠ 0 by omega); have h2 := Int.emod_lt_of_pos x.toInt h0; omega
theorem own_maskLR (x m : Int64) (k : Nat) (P : Int) (hk : k ≤ 63) (hm : m.toBitVec.toNat = 2 ^ k - 1) (hP : P = ((2 ^ k : Nat) : Int)) (hi : Int) (h0 : 0 < P) (h : P ≤ hi + 1) : (x &&& m).toInt = x.toInt % P ∧ 0 ≤ (x &&& m).toInt ∧ (x &&& m).toInt ≤ hi := by
  have e := own_maskL x m k P hk hm hP; have h1 := Int.emod_nonneg x.toInt (show P ≠ 0 by omega); have h2 := Int.emod_lt_of_pos x.toInt h0; omega
theorem own_iremR {x y : Int32} {a b d : Int} (hi : Int) (hx : a ≤ x.toInt ∧ x.toInt ≤ b) (hy : y.toInt = d) (ha : 0 ≤ a) (hd : 0 < d) (h : d ≤ hi + 1) : (x % y).toInt = x.toInt % d ∧ 0 ≤ (x % y).toInt ∧ (x % y).toInt ≤ hi := by
  have e := (c_irem x y d hy).1 (by omega); have h1 := Int.emod_nonneg x.toInt (show d ≠ 0 by omega); have h2 := Int.emod_lt_of_pos x.toInt hd; omega
theorem own_lremR {x y : Int64} {a b d : Int} (hi : Int) (hx : a ≤ x.toInt ∧ x.toInt ≤ b) (hy : y.toInt = d) (ha : 0 ≤ a) (hd : 0 < d) (h : d ≤ hi + 1) : (x % y).toInt = x.toInt % d ∧ 0 ≤ (x % y).toInt ∧ (x % y).toInt ≤ hi := by
  have e := (own_lremf x y d hy).1 (by omega); have h1 := Int.emod_nonneg x.toInt (show d ≠ 0 by omega); have h2 := Int.emod_lt_of_pos x.toInt hd; omega
theorem own_idivR {x y : Int32} {a b d : Int} (lo hi : Int) (hx : a ≤ x.toInt ∧ x.toInt ≤ b) (hy : y.toInt = d) (hy1 : y ≠ -1) (ha : 0 ≤ a) (hd : 0 < d) (h : lo ≤ a / d ∧ b / d ≤ hi) : (x / y).toInt = x.toInt / d ∧ lo ≤ (x / y).toInt ∧ (x / y).toInt ≤ hi := by
  have e := (c_idiv x y d hy hy1).1 (by omega); have h1 := Int.ediv_le_ediv hd hx.1; have h2 := Int.ediv_le_ediv hd hx.2; omega
theorem own_ldivR {x y : Int64} {a b d : Int} (lo hi : Int) (hx : a ≤ x.toInt ∧ x.toInt ≤ b) (hy : y.toInt = d) (hy1 : y ≠ -1) (ha : 0 ≤ a) (hd : 0 < d) (h : lo ≤ a / d ∧ b / d ≤ hi) : (x / y).toInt = x.toInt / d ∧ lo ≤ (x / y).toInt ∧ (x / y).toInt ≤ hi := by
  have e := (c_ldiv x y d hy hy1).1 (by omega); have h1 := Int.ediv_le_ediv hd hx.1; have h2 := Int.ediv_le_ediv hd hx.2; omega
theorem own_l2iR {x : Int64} {a b : Int} (hx : a ≤ x.toInt ∧ x.toInt ≤ b) (h1 : -2147483648 ≤ a ∧ b ≤ 2147483647) : x.toInt32.toInt = x.toInt ∧ a ≤ x.toInt32.toInt ∧ x.toInt32.toInt ≤ b := by have := c_l2i x; have := rng32 x.toInt32; omega
theorem own_i2lR {x : Int32} {a b : Int} (hx : a ≤ x.toInt ∧ x.toInt ≤ b) : x.toInt64.toInt = x.toInt ∧ a ≤ x.toInt64.toInt ∧ x.toInt64.toInt ≤ b := by have := c_i2l x; omega
theorem own_eqR32 {x y : Int32} {a b : Int} (h : x = y) (hy : a ≤ y.toInt ∧ y.toInt ≤ b) : x.toInt = y.toInt ∧ a ≤ x.toInt ∧ x.toInt ≤ b := by subst h; exact ⟨rfl, hy⟩
theorem own_eqR64 {x y : Int64} {a b : Int} (h : x = y) (hy : a ≤ y.toInt ∧ y.toInt ≤ b) : x.toInt = y.toInt ∧ a ≤ x.toInt ∧ x.toInt ≤ b := by subst h; exact ⟨rfl, hy⟩
theorem own_lushrR {x : Int64} {a b : Int} (q : Int32) (k : Nat) (P lo hi : Int) (hx : a ≤ x.toInt ∧ x.toInt ≤ b) (ha : 0 ≤ a) (hk : q.toBitVec.toNat % 64 = k) (h0 : 0 < k) (hP : P = ((2 ^ k : Nat) : Int)) (hPp : 0 < P) (h : lo ≤ a / P ∧ b / P ≤ hi) : ((x.toUInt64 >>> (q &&& 0x3f).toInt64.toUInt64).toInt64).toInt = x.toInt / P ∧ lo ≤ ((x.toUInt64 >>> (q &&& 0x3f).toInt64.toUInt64).toInt64).toInt ∧ ((x.toUInt64 >>> (q &&& 0x3f).toInt64.toUInt64).toInt64).toInt ≤ hi := by
  have e := own_lushr x q k P hk h0 hP; have := rng64 x; rw [Int.emod_eq_of_lt (by omega) (by omega)] at e; have h1 := Int.ediv_le_ediv hPp hx.1; have h2 := Int.ediv_le_ediv hPp hx.2; omega
theorem own_iushrR {x : Int32} {a b : Int} (q : Int32) (k : Nat) (P lo hi : Int) (hx : a ≤ x.toInt ∧ x.toInt ≤ b) (ha : 0 ≤ a) (hk : q.toBitVec.toNat % 32 = k) (h0 : 0 < k) (hP : P = ((2 ^ k : Nat) : Int)) (hPp : 0 < P) (h : lo ≤ a / P ∧ b / P ≤ hi) : ((x.toUInt32 >>> (q &&& 31).toUInt32).toInt32).toInt = x.toInt / P ∧ lo ≤ ((x.toUInt32 >>> (q &&& 31).toUInt32).toInt32).toInt ∧ ((x.toUInt32 >>> (q &&& 31).toUInt32).toInt32).toInt ≤ hi := by
  have e := own_iushr x q k P hk h0 hP; have := rng32 x; rw [Int.emod_eq_of_lt (by omega) (by omega)] at e; have h1 := Int.ediv_le_ediv hPp hx.1; have h2 := Int.ediv_le_ediv hPp hx.2; omega
-- OWN KIT 2 (mine): Java's >>> on longs as a shift of bits
def own_sh (x : Int64) (k : Int32) : Int64 := (x.toUInt64 >>> (k &&& 0x3f).toInt64.toUInt64).toInt64
theorem own_sh_bv (x : Int64) (k : Int32) (n : Nat) (hk : k.toBitVec.toNat % 64 = n) : (own_sh x k).toBitVec = x.toBitVec >>> n := by
  obtain ⟨q1, q2⟩ := sm64 k n hk
  show (x.toBitVec >>> ((k &&& 0x3f).toInt64.toBitVec % 64)) = _
  rw [q1]
  show x.toBitVec >>> (BitVec.ofNat 64 n % 64).toNat = _
  rw [BitVec.toNat_umod, BitVec.toNat_ofNat]
  congr 1
  show n % 2 ^ 64 % 64 = n
  omega
def own_sl (x : Int64) (k : Int32) : Int64 := x <<< (k &&& 0x3f).toInt64
theorem own_sl_bv (x : Int64) (k : Int32) (n : Nat) (hk : k.toBitVec.toNat % 64 = n) : (own_sl x k).toBitVec = x.toBitVec <<< n := by
  obtain ⟨q1, q2⟩ := sm64 k n hk
  show (x.toBitVec <<< ((k &&& 0x3f).toInt64.toBitVec.smod 64)) = _
  rw [q1]
  show x.toBitVec <<< ((BitVec.ofNat 64 n).smod 64).toNat = _
  rw [smod64 n q2]
def own_rot (b : Int64) (k : Int32) : Int64 := own_sl b k ||| own_sh b (-k)
def own_x (a b : Int64) : Int64 := a ^^^ own_rot b (32 : Int32)
def own_home (a b : Int64) : Int64 := own_sh (own_x a b * (-7046029254386353131 : Int64)) (32 : Int32)
def own_xlo (a b : Int64) : Int64 := (a ^^^ own_sh b (32 : Int32)) &&& (4294967295 : Int64)
def own_xhi (a b : Int64) : Int64 := (own_sh a (32 : Int32) ^^^ b) &&& (4294967295 : Int64)
def own_want (a b : Int64) : Int64 := ((own_sh (own_xlo a b * (2135587861 : Int64)) (32 : Int32) + own_xlo a b * (2654435769 : Int64)) + own_xhi a b * (2135587861 : Int64)) &&& (4294967295 : Int64)
theorem own_mbit (i : Nat) : (4294967295#64).getLsbD i = decide (i < 32) := by
  by_cases h : i < 64
  · have : ∀ j : Fin 64, (4294967295#64).getLsbD j.1 = decide (j.1 < 32) := by decide +kernel
    exact this ⟨i, h⟩
  · rw [BitVec.getLsbD_of_ge _ _ (by omega), decide_eq_false (by omega)]
theorem own_x_bv (a b : Int64) : (own_x a b).toBitVec = a.toBitVec ^^^ ((b.toBitVec <<< 32) ||| (b.toBitVec >>> 32)) := by
  simp only [own_x, own_rot, Int64.toBitVec_xor, Int64.toBitVec_or, own_sl_bv _ 32 32 (by decide), own_sh_bv _ (-32) 32 (by decide)]
theorem own_lo (a b : Int64) : own_xlo a b = own_x a b &&& (4294967295 : Int64) := by
  apply Int64.toBitVec_inj.mp
  simp only [own_xlo, Int64.toBitVec_and, Int64.toBitVec_xor, own_x_bv, own_sh_bv _ 32 32 (by decide)]
  show (_ ^^^ _) &&& 4294967295#64 = _ &&& 4294967295#64
  apply BitVec.eq_of_getLsbD_eq
  intro i hi
  simp only [BitVec.getLsbD_and, BitVec.getLsbD_xor, BitVec.getLsbD_or, BitVec.getLsbD_ushiftRight, BitVec.getLsbD_shiftLeft, own_mbit]
  by_cases h : i < 32 <;> simp [h]
theorem own_hi (a b : Int64) : own_xhi a b = own_sh (own_x a b) (32 : Int32) := by
  apply Int64.toBitVec_inj.mp
  simp only [own_xhi, Int64.toBitVec_and, Int64.toBitVec_xor, own_sh_bv _ 32 32 (by decide), own_x_bv]
  show (_ ^^^ _) &&& 4294967295#64 = _
  apply BitVec.eq_of_getLsbD_eq
  intro i hi
  simp only [BitVec.getLsbD_and, BitVec.getLsbD_xor, BitVec.getLsbD_or, BitVec.getLsbD_ushiftRight, BitVec.getLsbD_shiftLeft, own_mbit]
  by_cases h : i < 32
  · have h1 : 32 + i < 64 := by omega
    have h2 : b.toBitVec.getLsbD (32 + (32 + i)) = false := BitVec.getLsbD_of_ge _ _ (by omega)
    simp [h, h1, h2]
  · have h2 : ∀ z : BitVec 64, z.getLsbD (32 + i) = false := fun z => BitVec.getLsbD_of_ge _ _ (by omega)
    have h3 : ¬ (32 + i < 64) := by omega
    have h4 : b.toBitVec.getLsbD (32 + (32 + i)) = false := BitVec.getLsbD_of_ge _ _ (by omega)
    simp [h, h2, h3, h4]
theorem own_shI (x : Int64) : (own_sh x (32 : Int32)).toInt = (x.toInt % 18446744073709551616) / 4294967296 := own_lushr x 32 32 4294967296 (by decide) (by decide) (by decide)
theorem own_homeR (a b : Int64) : 0 ≤ (own_home a b).toInt ∧ (own_home a b).toInt ≤ 4294967295 := by
  have := own_shI (own_x a b * (-7046029254386353131 : Int64))
  unfold own_home
  omega
theorem own_homeEq (a b : Int64) : own_home a b = own_want a b := by
  apply Int64.toInt_inj.mp
  unfold own_want
  rw [own_hi, own_lo]
  unfold own_home
  generalize own_x a b = x
  have h1 := own_maskL x 4294967295 32 4294967296 (by decide) (by decide) (by decide)
  have h2 := own_shI x
  have h3 := own_shI (x * (-7046029254386353131 : Int64))
  have h4 := own_lmulc x (-7046029254386353131) (-7046029254386353131) (by decide)
  generalize hlo : x &&& (4294967295 : Int64) = lo at *
  generalize hhi : own_sh x (32 : Int32) = hi at *
  have k1 := own_shI (lo * (2135587861 : Int64))
  have k2 := own_lmulc lo 2135587861 2135587861 (by decide)
  have k3 := own_lmulc lo 2654435769 2654435769 (by decide)
  have k4 := own_lmulc hi 2135587861 2135587861 (by decide)
  have k5 := c_ladd (own_sh (lo * (2135587861 : Int64)) (32 : Int32)) (lo * (2654435769 : Int64))
  have k6 := c_ladd (own_sh (lo * (2135587861 : Int64)) (32 : Int32) + lo * (2654435769 : Int64)) (hi * (2135587861 : Int64))
  have k7 := own_maskL (own_sh (lo * (2135587861 : Int64)) (32 : Int32) + lo * (2654435769 : Int64) + hi * (2135587861 : Int64)) 4294967295 32 4294967296 (by decide) (by decide) (by decide)
  rw [h3, k7]
  have k0 := rng64 x
  generalize (own_sh (lo * (2135587861 : Int64)) (32 : Int32) + lo * (2654435769 : Int64) + hi * (2135587861 : Int64)).toInt = S at *
  generalize (own_sh (lo * (2135587861 : Int64)) (32 : Int32) + lo * (2654435769 : Int64)).toInt = S1 at *
  generalize (own_sh (lo * (2135587861 : Int64)) (32 : Int32)).toInt = S2 at *
  generalize (lo * (2135587861 : Int64)).toInt = S3 at *
  generalize (lo * (2654435769 : Int64)).toInt = S4 at *
  generalize (hi * (2135587861 : Int64)).toInt = S5 at *
  generalize (x * (-7046029254386353131 : Int64)).toInt = S6 at *
  generalize x.toInt = X at *
  generalize lo.toInt = LO at *
  generalize hi.toInt = HI at *
  clear hlo hhi h3 k7
  have b1 : 0 ≤ LO ∧ LO < 4294967296 := by omega
  have b2 : 0 ≤ HI ∧ HI < 4294967296 := by omega
  have t1 : (X - (HI * 4294967296 + LO)) % 18446744073709551616 = 0 := by omega
  have t2 : (S6 - ((HI * 2135587861 + LO * 2654435769) * 4294967296 + LO * 2135587861)) % 18446744073709551616 = 0 := by clear h1 h2 k1 k2 k3 k4 k5 k6 k0 b1 b2; omega
  have t3 : S3 % 18446744073709551616 = LO * 2135587861 := by clear h1 h2 k1 k3 k4 k5 k6 k0 b2 t1 t2 h4; omega
  rw [t3] at k1
  have t4 : (S1 - (S2 + LO * 2654435769)) % 18446744073709551616 = 0 := by clear h1 h2 k1 k2 k4 k6 k0 b1 b2 t1 t2 t3 h4; omega
  have t5 : (S - (S1 + HI * 2135587861)) % 18446744073709551616 = 0 := by clear h1 h2 k1 k2 k3 k5 k0 b1 b2 t1 t2 t3 t4 h4; omega
  have t6 : (S - (S2 + LO * 2654435769 + HI * 2135587861)) % 18446744073709551616 = 0 := by clear h1 h2 k1 k2 k3 k4 k5 k6 k0 b1 b2 t1 t2 t3 h4; omega
  have t7 : (S - (S2 + LO * 2654435769 + HI * 2135587861)) % 4294967296 = 0 := by clear h1 h2 k1 k2 k3 k4 k5 k6 k0 b1 b2 t1 t2 t3 t4 t5 h4; omega
  clear h1 h2 k2 k3 k4 k5 k6 k0 t1 t3 t4 t5 t6 h4
  have w1 : 0 ≤ HI * 2135587861 + LO * 2654435769 := by omega
  have w2 : 0 ≤ LO * 2135587861 := by omega
  have t8 : (S - (S2 + (HI * 2135587861 + LO * 2654435769))) % 4294967296 = 0 := by omega
  generalize HI * 2135587861 + LO * 2654435769 = W at *
  generalize LO * 2135587861 = V at *
  clear t7 b1 b2
  have t9 : S6 % 18446744073709551616 = (W * 4294967296 + V) % 18446744073709551616 := by clear t8 k1; omega
  rw [t9]
  rw [k1] at t8
  have u1 : (W * 4294967296 + V) % 18446744073709551616 / 4294967296 = (W + V / 4294967296) % 4294967296 := by clear t2 t8 t9 k1; omega
  rw [u1]
  clear t2 t9 u1 k1
  omega
theorem pn_0 : plainName "java/lang/Long" = true := by first | (simp [plainName, overriddenIn]; done) | decide +kernel
theorem d2_0 : decode jdk_35_method_51_code 0 = .ok (.lload_n 0, 1) := by decide +kernel
theorem d2_1 : decode jdk_35_method_51_code 1 = .ok (.iload_n 2, 1) := by decide +kernel
theorem d2_2 : decode jdk_35_method_51_code 2 = .ok (.lshl, 1) := by decide +kernel
theorem d2_3 : decode jdk_35_method_51_code 3 = .ok (.lload_n 0, 1) := by decide +kernel
theorem d2_4 : decode jdk_35_method_51_code 4 = .ok (.iload_n 2, 1) := by decide +kernel
theorem d2_5 : decode jdk_35_method_51_code 5 = .ok (.ineg, 1) := by decide +kernel
theorem d2_6 : decode jdk_35_method_51_code 6 = .ok (.lushr, 1) := by decide +kernel
theorem d2_7 : decode jdk_35_method_51_code 7 = .ok (.lor, 1) := by decide +kernel
theorem d2_8 : decode jdk_35_method_51_code 8 = .ok (.lreturn, 1) := by decide +kernel
theorem ef_2 (m : MethodId) (x0 : Int64) (x1 : Int32) : entryFrame m #[(.long x0), (.int x1)] 3 = mkF m 0 #[.val (.long x0), .second, .val (.int x1)] [] := by first | (simp [entryFrame, mkF, argsToLocals, Value.category]; done) | rfl
def Q2 (Z : State) (p0 : Int64) (p1 : Int32) (h0 : Heap) (n0 : Nat) (v : Option Value) (h : Heap) (L : List Loc) : Prop := v = some (.long (own_rot p0 p1)) ∧ Fr n0 L ∧ h = h0
set_option maxRecDepth 65536 in
set_option maxHeartbeats 40000000 in
theorem rm2 (l : Launch) (Z : State) (a0 : Array Value) (hw : ∀ d ∈ tables_1, d.before a0 Z = true) (ws : List Jvm.Cond) (p0 : Int64) (p1 : Int32) (h0 : Heap) (n0 : Nat) (Z0 : n0 ≤ h0.size) :
    MetFree l (⟨"java/lang/Long", "rotateLeft", "(JI)J"⟩ : MethodName) (head1 (Jvm.Cond.code (⟨"java/lang/Long", "rotateLeft", "(JI)J"⟩ : MethodName) jdk_35_method_51_code 3 (some .long) :: ws) ({ frames := 0, cells := 0, slots := 0, locals := 0 } : Room)) (fun a U => a = #[(.long p0), (.int p1)] ∧ Z.Warmed39 U.vm ∧ U.heap = h0) (fun _ _ _ _ _ => True) (fun _ U o U' => ∃ v L, o = .returned v ∧ Q2 Z p0 p1 h0 n0 v U'.heap L ∧ FrameEnd U o U' L ({ frames := 0, cells := 0, slots := 0, locals := 0 } : Room).cells ({ frames := 0, cells := 0, slots := 0, locals := 0 } : Room).slots) := by
  refine MetFree.of_bodySF (plainFor_of_name pn_0) hisR ?_
  intro p e s m args below meth c s₁ Bd hml0 hP hK
  obtain ⟨rfl, hZ, hh⟩ := hP
  have hx := Bd.exec
  have hby := Bd.bytes
  have hml : c.maxLocals = 3 := hml0
  have hown : s.vm.findClass "java/lang/Long" = some m.cls := findClass_of_methodNamed Bd.named
  have hnm := (name_of_methodNamed Bd.named Bd.method).1
  have hlk : meth.locks = false := BodyLoose.notSynchronized Bd
  have X0 : Stand p l e ({ frames := 0, cells := 0, slots := 0, locals := 0 } : Room) s m #[(.long p0), (.int p1)] below meth c s₁ [] 0 0 := Stand.of_body Bd
  have e0 : s₁.heap = h0 := by rw [← hh, Bd.state]; rfl
  have N0 := Fr.nil n0
  have K0 : Keep h0 h0 [] := Keep.refl h0 _
  have key : ∀ (F0 : State) (G : Prop), (own_G p e below s F0 (Q2 Z p0 p1 h0 n0) ({ frames := 0, cells := 0, slots := 0, locals := 0 } : Room).cells ({ frames := 0, cells := 0, slots := 0, locals := 0 } : Room).slots → G) → own_R p.tables e below F0 (s₁.setTop (mkF m 0 #[.val (.long p0), .second, .val (.int p1)] [])) → G := by
    intro F0 G hG r0
    have r1 : own_R p.tables e below F0 (s₁.setTop (mkF m 8 #[.val (.long p0), .second, .val (.int p1)] [(.long ((p0 <<< (p1 &&& 0x3f).toInt64) ||| ((p0.toUInt64 >>> ((-p1) &&& 0x3f).toInt64.toUInt64).toInt64)))])) := fun tg_ kg_ => by
      refine r0 tg_ ?_
      show Steps p.tables e below (s₁.setTop (mkF m 0 #[.val (.long p0), .second, .val (.int p1)] [])) _
      refine XS.lloadN X0.here hx rfl (hb hby d2_0) rfl ?_
      show Steps p.tables e below (s₁.setTop (mkF m 1 #[.val (.long p0), .second, .val (.int p1)] [(.long p0)])) _
      refine XS.iloadN X0.here hx rfl (hb hby d2_1) rfl ?_
      show Steps p.tables e below (s₁.setTop (mkF m 2 #[.val (.long p0), .second, .val (.int p1)] [(.int p1), (.long p0)])) _
      refine XS.lshl X0.here hx rfl (hb hby d2_2) rfl ?_
      show Steps p.tables e below (s₁.setTop (mkF m 3 #[.val (.long p0), .second, .val (.int p1)] [(.long (p0 <<< (p1 &&& 0x3f).toInt64))])) _
      refine XS.lloadN X0.here hx rfl (hb hby d2_3) rfl ?_
      show Steps p.tables e below (s₁.setTop (mkF m 4 #[.val (.long p0), .second, .val (.int p1)] [(.long p0), (.long (p0 <<< (p1 &&& 0x3f).toInt64))])) _
      refine XS.iloadN X0.here hx rfl (hb hby d2_4) rfl ?_
      show Steps p.tables e below (s₁.setTop (mkF m 5 #[.val (.long p0), .second, .val (.int p1)] [(.int p1), (.long p0), (.long (p0 <<< (p1 &&& 0x3f).toInt64))])) _
      refine XS.ineg X0.here hx rfl (hb hby d2_5) rfl ?_
      show Steps p.tables e below (s₁.setTop (mkF m 6 #[.val (.long p0), .second, .val (.int p1)] [(.int (-p1)), (.long p0), (.long (p0 <<< (p1 &&& 0x3f).toInt64))])) _
      refine XS.lushr X0.here hx rfl (hb hby d2_6) rfl ?_
      show Steps p.tables e below (s₁.setTop (mkF m 7 #[.val (.long p0), .second, .val (.int p1)] [(.long ((p0.toUInt64 >>> ((-p1) &&& 0x3f).toInt64.toUInt64).toInt64)), (.long (p0 <<< (p1 &&& 0x3f).toInt64))])) _
      refine XS.lor X0.here hx rfl (hb hby d2_7) rfl ?_
      exact kg_
    refine hG (own_fin X0 hlk (some (.long ((p0 <<< (p1 &&& 0x3f).toInt64) ||| ((p0.toUInt64 >>> ((-p1) &&& 0x3f).toInt64.toUInt64).toInt64)))) (own_hv Bd.returns) ?_ (by decide) (by decide) (fun fs hr => r1 _ (retOut X0 hx Bd.returns rfl (Or.inr (Or.inl ⟨rfl, rfl, _, rfl⟩)) (hb hby d2_8) hr)))
    rw [e0]
    refine ⟨?_, N0, rfl⟩
    rfl
  exact key _ _ id (fun t k => castTop (ef_2 m p0 p1) k)
theorem pn_1 : plainName "com/example/reissue/reissue/storage/SlotTable" = true := by first | (simp [plainName, overriddenIn]; done) | decide +kernel
theorem pd_0 : parseMethodDescriptor "(JI)J" = some ⟨[.long, .int], some .long⟩ := by decide +kernel
theorem d1_0 : decode prog_58_method_3_code 0 = .ok (.lload_n 0, 1) := by decide +kernel
theorem d1_1 : decode prog_58_method_3_code 1 = .ok (.lload_n 2, 1) := by decide +kernel
theorem d1_2 : decode prog_58_method_3_code 2 = .ok (.bipush 32, 2) := by decide +kernel
theorem d1_4 : decode prog_58_method_3_code 4 = .ok (.invokestatic 43, 3) := by decide +kernel
theorem d1_7 : decode prog_58_method_3_code 7 = .ok (.lxor, 1) := by decide +kernel
theorem d1_8 : decode prog_58_method_3_code 8 = .ok (.ldc2_w 47, 3) := by decide +kernel
theorem d1_11 : decode prog_58_method_3_code 11 = .ok (.lmul, 1) := by decide +kernel
theorem d1_12 : decode prog_58_method_3_code 12 = .ok (.lstore 4, 2) := by decide +kernel
theorem d1_14 : decode prog_58_method_3_code 14 = .ok (.lload 4, 2) := by decide +kernel
theorem d1_16 : decode prog_58_method_3_code 16 = .ok (.bipush 32, 2) := by decide +kernel
theorem d1_18 : decode prog_58_method_3_code 18 = .ok (.lushr, 1) := by decide +kernel
theorem d1_19 : decode prog_58_method_3_code 19 = .ok (.lreturn, 1) := by decide +kernel
theorem ef_1 (m : MethodId) (x0 : Int64) (x1 : Int64) : entryFrame m #[(.long x0), (.long x1)] 6 = mkF m 0 #[.val (.long x0), .second, .val (.long x1), .second, .unset, .unset] [] := by first | (simp [entryFrame, mkF, argsToLocals, Value.category]; done) | rfl
def Q1 (Z : State) (p0 : Int64) (p1 : Int64) (h0 : Heap) (n0 : Nat) (v : Option Value) (h : Heap) (L : List Loc) : Prop := v = some (.long (own_home p0 p1)) ∧ Fr n0 L ∧ h = h0
set_option maxRecDepth 65536 in
set_option maxHeartbeats 40000000 in
theorem rm1 (l : Launch) (Z : State) (a0 : Array Value) (hw : ∀ d ∈ tables_1, d.before a0 Z = true) (ws : List Jvm.Cond) (p0 : Int64) (p1 : Int64) (h0 : Heap) (n0 : Nat) (Z0 : n0 ≤ h0.size) :
    MetFree l (⟨"com/example/reissue/reissue/storage/SlotTable", "home", "(JJ)J"⟩ : MethodName) (head1 (Jvm.Cond.code (⟨"com/example/reissue/reissue/storage/SlotTable", "home", "(JJ)J"⟩ : MethodName) prog_58_method_3_code 6 (some .long) :: ws) ({ frames := 1, cells := 0, slots := 0, locals := 16 } : Room)) (fun a U => a = #[(.long p0), (.long p1)] ∧ Z.Warmed39 U.vm ∧ U.heap = h0) (fun _ _ _ _ _ => True) (fun _ U o U' => ∃ v L, o = .returned v ∧ Q1 Z p0 p1 h0 n0 v U'.heap L ∧ FrameEnd U o U' L ({ frames := 1, cells := 0, slots := 0, locals := 16 } : Room).cells ({ frames := 1, cells := 0, slots := 0, locals := 16 } : Room).slots) := by
  refine MetFree.of_bodySF (plainFor_of_name pn_1) hisR ?_
  intro p e s m args below meth c s₁ Bd hml0 hP hK
  obtain ⟨rfl, hZ, hh⟩ := hP
  have hx := Bd.exec
  have hby := Bd.bytes
  have hml : c.maxLocals = 6 := hml0
  have hown : s.vm.findClass "com/example/reissue/reissue/storage/SlotTable" = some m.cls := findClass_of_methodNamed Bd.named
  have hnm := (name_of_methodNamed Bd.named Bd.method).1
  have hlk : meth.locks = false := BodyLoose.notSynchronized Bd
  have X0 : Stand p l e ({ frames := 1, cells := 0, slots := 0, locals := 16 } : Room) s m #[(.long p0), (.long p1)] below meth c s₁ [] 0 0 := Stand.of_body Bd
  have e0 : s₁.heap = h0 := by rw [← hh, Bd.state]; rfl
  have N0 := Fr.nil n0
  have K0 : Keep h0 h0 [] := Keep.refl h0 _
  have key : ∀ (F0 : State) (G : Prop), (own_G p e below s F0 (Q1 Z p0 p1 h0 n0) ({ frames := 1, cells := 0, slots := 0, locals := 16 } : Room).cells ({ frames := 1, cells := 0, slots := 0, locals := 16 } : Room).slots → G) → own_R p.tables e below F0 (s₁.setTop (mkF m 0 #[.val (.long p0), .second, .val (.long p1), .second, .unset, .unset] [])) → G := by
    intro F0 G hG r0
    have r2 : own_R p.tables e below F0 (s₁.setTop (mkF m 4 #[.val (.long p0), .second, .val (.long p1), .second, .unset, .unset] [(.int (32 : Int32)), (.long p1), (.long p0)])) := fun tg_ kg_ => by
      refine r0 tg_ ?_
      show Steps p.tables e below (s₁.setTop (mkF m 0 #[.val (.long p0), .second, .val (.long p1), .second, .unset, .unset] [])) _
      refine XS.lloadN X0.here hx rfl (hb hby d1_0) rfl ?_
      show Steps p.tables e below (s₁.setTop (mkF m 1 #[.val (.long p0), .second, .val (.long p1), .second, .unset, .unset] [(.long p0)])) _
      refine XS.lloadN X0.here hx rfl (hb hby d1_1) rfl ?_
      show Steps p.tables e below (s₁.setTop (mkF m 2 #[.val (.long p0), .second, .val (.long p1), .second, .unset, .unset] [(.long p1), (.long p0)])) _
      refine XS.bipush X0.here hx rfl (hb hby d1_2) ?_
      exact kg_
    obtain ⟨_, _, ⟨T3, L3, k3, n3⟩, -, X3, ⟨Lc3, hQ3, l3, y3, z3⟩, st3⟩ := Jvm.LawKit.callS X0 hx (y := (⟨"java/lang/Long", "rotateLeft", "(JI)J"⟩ : MethodName)) hown (mvT hZ (hw _ (List.mem_of_getElem? (i := 4) rfl))) (mvT hZ (hw _ (List.mem_of_getElem? (i := 5) rfl))) (mvT hZ (hw _ (List.mem_of_getElem? (i := 6) rfl))) (mvT hZ (hw _ (List.mem_of_getElem? (i := 7) rfl))) (by decide) (backOf (W := 2) (rm2 l Z a0 hw [] p1 (32 : Int32) h0 n0 Z0 ) hZ (hw _ (List.mem_of_getElem? (i := 7) rfl)) (hw _ (List.mem_of_getElem? (i := 6) rfl)) (by decide) (by decide)) (g := (mkF m 4 #[.val (.long p0), .second, .val (.long p1), .second, .unset, .unset] [(.int (32 : Int32)), (.long p1), (.long p0)])) rfl (by rw [hml]; rfl) (argsL := [(.long p1), (.int (32 : Int32))]) (rest := [(.long p0)]) (lenOf pd_0 rfl) rfl (by show 2 * 0 + _ ≤ _; exact Nat.le_of_eq rfl) (hb hby d1_4) (fun _ _ => ⟨rfl, e0, (by decide : 0 + 0 ≤ _), (by decide : 0 + 0 ≤ _)⟩)
    dsimp only [Pt.U, Pt.locs, Pt.cells, Pt.slots] at X3 l3 y3 z3 st3 hQ3
    subst l3 y3 z3
    obtain ⟨rfl, N3q, I3_0⟩ := hQ3
    have N3 := Fr.app N0 N3q
    have r3 : own_R p.tables e below F0 (T3.setTop (mkF m 7 #[.val (.long p0), .second, .val (.long p1), .second, .unset, .unset] [(.long (own_rot p1 (32 : Int32))), (.long p0)])) := fun tg_ kg_ => r2 tg_ (st3 tg_ kg_)
    have r4 : own_R p.tables e below F0 (T3.setTop (mkF m 19 #[.val (.long p0), .second, .val (.long p1), .second, .val (.long ((p0 ^^^ (own_rot p1 (32 : Int32))) * (-7046029254386353131 : Int64))), .second] [(.long ((((p0 ^^^ (own_rot p1 (32 : Int32))) * (-7046029254386353131 : Int64)).toUInt64 >>> ((32 : Int32) &&& 0x3f).toInt64.toUInt64).toInt64))])) := fun tg_ kg_ => by
      refine r3 tg_ ?_
      show Steps p.tables e below (T3.setTop (mkF m 7 #[.val (.long p0), .second, .val (.long p1), .second, .unset, .unset] [(.long (own_rot p1 (32 : Int32))), (.long p0)])) _
      refine XS.lxor X3.here hx rfl (hb hby d1_7) rfl ?_
      show Steps p.tables e below (T3.setTop (mkF m 8 #[.val (.long p0), .second, .val (.long p1), .second, .unset, .unset] [(.long (p0 ^^^ (own_rot p1 (32 : Int32))))])) _
      refine X3.ldc2J hx hown (mvT hZ (hw _ (List.mem_of_getElem? (i := 8) rfl))) rfl (hb hby d1_8) ?_
      show Steps p.tables e below (T3.setTop (mkF m 11 #[.val (.long p0), .second, .val (.long p1), .second, .unset, .unset] [(.long (-7046029254386353131 : Int64)), (.long (p0 ^^^ (own_rot p1 (32 : Int32))))])) _
      refine XS.lmul X3.here hx rfl (hb hby d1_11) rfl ?_
      show Steps p.tables e below (T3.setTop (mkF m 12 #[.val (.long p0), .second, .val (.long p1), .second, .unset, .unset] [(.long ((p0 ^^^ (own_rot p1 (32 : Int32))) * (-7046029254386353131 : Int64)))])) _
      refine XS.lstore X3.here hx rfl (hb hby d1_12) rfl (l' := #[.val (.long p0), .second, .val (.long p1), .second, .val (.long ((p0 ^^^ (own_rot p1 (32 : Int32))) * (-7046029254386353131 : Int64))), .second]) rfl ?_
      show Steps p.tables e below (T3.setTop (mkF m 14 #[.val (.long p0), .second, .val (.long p1), .second, .val (.long ((p0 ^^^ (own_rot p1 (32 : Int32))) * (-7046029254386353131 : Int64))), .second] [])) _
      refine XS.lload X3.here hx rfl (hb hby d1_14) rfl ?_
      show Steps p.tables e below (T3.setTop (mkF m 16 #[.val (.long p0), .second, .val (.long p1), .second, .val (.long ((p0 ^^^ (own_rot p1 (32 : Int32))) * (-7046029254386353131 : Int64))), .second] [(.long ((p0 ^^^ (own_rot p1 (32 : Int32))) * (-7046029254386353131 : Int64)))])) _
      refine XS.bipush X3.here hx rfl (hb hby d1_16) ?_
      show Steps p.tables e below (T3.setTop (mkF m 18 #[.val (.long p0), .second, .val (.long p1), .second, .val (.long ((p0 ^^^ (own_rot p1 (32 : Int32))) * (-7046029254386353131 : Int64))), .second] [(.int (32 : Int32)), (.long ((p0 ^^^ (own_rot p1 (32 : Int32))) * (-7046029254386353131 : Int64)))])) _
      refine XS.lushr X3.here hx rfl (hb hby d1_18) rfl ?_
      exact kg_
    refine hG (own_fin X3 hlk (some (.long ((((p0 ^^^ (own_rot p1 (32 : Int32))) * (-7046029254386353131 : Int64)).toUInt64 >>> ((32 : Int32) &&& 0x3f).toInt64.toUInt64).toInt64))) (own_hv Bd.returns) ?_ (by decide) (by decide) (fun fs hr => r4 _ (retOut X3 hx Bd.returns rfl (Or.inr (Or.inl ⟨rfl, rfl, _, rfl⟩)) (hb hby d1_19) hr)))
    rw [I3_0]
    refine ⟨?_, N3, rfl⟩
    rfl
  exact key _ _ id (fun t k => castTop (ef_1 m p0 p1) k)
theorem pn_2 : plainName "com/example/reissue/reissue/storage/SlotTableHomePinLaw" = true := by first | (simp [plainName, overriddenIn]; done) | decide +kernel
theorem pd_1 : parseMethodDescriptor "(JJ)J" = some ⟨[.long, .long], some .long⟩ := by decide +kernel
theorem ef_0 (m : MethodId) (x0 : Int64) (x1 : Int64) : entryFrame m #[(.long x0), (.long x1)] maxLocals = mkF m 0 #[.val (.long x0), .second, .val (.long x1), .second, .unset, .unset, .unset, .unset, .unset, .unset, .unset, .unset, .unset, .unset, .unset, .unset] [] := by first | (simp [entryFrame, mkF, argsToLocals, Value.category, maxLocals]; done) | rfl
def Q0 (Z : State) (p0s : Int64) (p1s : Int64) (h0 : Heap) (n0 : Nat) (v : Option Value) (h : Heap) (L : List Loc) : Prop := v = some (.int (1 : Int32)) ∧ Fr n0 L
set_option maxRecDepth 65536 in
set_option maxHeartbeats 40000000 in
theorem rm0 (l : Launch) (Z : State) (a0 : Array Value) (hw : ∀ d ∈ tables_1, d.before a0 Z = true) (ws : List Jvm.Cond) (p0s : Int64) (p1s : Int64) (h0 : Heap) (n0 : Nat) (Z0 : n0 ≤ h0.size) :
    MetFree l x (head1 (Jvm.Cond.code x code maxLocals ret :: ws) room_1) (fun a U => a = #[(.long p0s), (.long p1s)] ∧ Z.Warmed39 U.vm ∧ U.heap = h0) (fun _ _ _ _ _ => True) (fun _ U o U' => ∃ v L, o = .returned v ∧ Q0 Z p0s p1s h0 n0 v U'.heap L ∧ FrameEnd U o U' L 0 0) := by
  refine MetFree.of_bodySF (plainFor_of_name pn_2) hisR ?_
  intro p e s m args below meth c s₁ Bd hml0 hP hK
  obtain ⟨rfl, hZ, hh⟩ := hP
  have hx := Bd.exec
  have hby := Bd.bytes
  have hml : c.maxLocals = 16 := hml0
  have hown : s.vm.findClass "com/example/reissue/reissue/storage/SlotTableHomePinLaw" = some m.cls := findClass_of_methodNamed Bd.named
  have hnm := (name_of_methodNamed Bd.named Bd.method).1
  have hlk : meth.locks = false := BodyLoose.notSynchronized Bd
  have X0 : Stand p l e room_1 s m #[(.long p0s), (.long p1s)] below meth c s₁ [] 0 0 := Stand.of_body Bd
  have e0 : s₁.heap = h0 := by rw [← hh, Bd.state]; rfl
  have N0 := Fr.nil n0
  have K0 : Keep h0 h0 [] := Keep.refl h0 _
  have key : ∀ (F0 : State) (G : Prop), (own_G p e below s F0 (Q0 Z p0s p1s h0 n0) 0 0 → G) → own_R p.tables e below F0 (s₁.setTop (mkF m 0 #[.val (.long p0s), .second, .val (.long p1s), .second, .unset, .unset, .unset, .unset, .unset, .unset, .unset, .unset, .unset, .unset, .unset, .unset] [])) → G := by
    intro F0 G hG r0
    have r5 : own_R p.tables e below F0 (s₁.setTop (mkF m 2 #[.val (.long p0s), .second, .val (.long p1s), .second, .unset, .unset, .unset, .unset, .unset, .unset, .unset, .unset, .unset, .unset, .unset, .unset] [(.long p1s), (.long p0s)])) := fun tg_ kg_ => by
      refine r0 tg_ ?_
      show Steps p.tables e below (s₁.setTop (mkF m 0 #[.val (.long p0s), .second, .val (.long p1s), .second, .unset, .unset, .unset, .unset, .unset, .unset, .unset, .unset, .unset, .unset, .unset, .unset] [])) _
      refine XS.lloadN X0.here hx rfl (hb hby at_0) rfl ?_
      show Steps p.tables e below (s₁.setTop (mkF m 1 #[.val (.long p0s), .second, .val (.long p1s), .second, .unset, .unset, .unset, .unset, .unset, .unset, .unset, .unset, .unset, .unset, .unset, .unset] [(.long p0s)])) _
      refine XS.lloadN X0.here hx rfl (hb hby at_1) rfl ?_
      exact kg_
    obtain ⟨_, _, ⟨T6, L6, k6, n6⟩, -, X6, ⟨Lc6, hQ6, l6, y6, z6⟩, st6⟩ := Jvm.LawKit.callS X0 hx (y := (⟨"com/example/reissue/reissue/storage/SlotTable", "home", "(JJ)J"⟩ : MethodName)) hown (mvT hZ (hw _ (List.mem_of_getElem? (i := 0) rfl))) (mvT hZ (hw _ (List.mem_of_getElem? (i := 1) rfl))) (mvT hZ (hw _ (List.mem_of_getElem? (i := 2) rfl))) (mvT hZ (hw _ (List.mem_of_getElem? (i := 3) rfl))) (by decide) (backOf (W := 0) (rm1 l Z a0 hw [] p0s p1s h0 n0 Z0 ) hZ (hw _ (List.mem_of_getElem? (i := 3) rfl)) (hw _ (List.mem_of_getElem? (i := 2) rfl)) (by decide) (by decide)) (g := (mkF m 2 #[.val (.long p0s), .second, .val (.long p1s), .second, .unset, .unset, .unset, .unset, .unset, .unset, .unset, .unset, .unset, .unset, .unset, .unset] [(.long p1s), (.long p0s)])) rfl (by rw [hml]; rfl) (argsL := [(.long p0s), (.long p1s)]) (rest := []) (lenOf pd_1 rfl) rfl (by show 2 * 0 + _ ≤ _; exact Nat.le_of_eq rfl) (hb hby at_2) (fun _ _ => ⟨rfl, e0, (by decide : 0 + 0 ≤ _), (by decide : 0 + 0 ≤ _)⟩)
    dsimp only [Pt.U, Pt.locs, Pt.cells, Pt.slots] at X6 l6 y6 z6 st6 hQ6
    subst l6 y6 z6
    obtain ⟨rfl, N6q, I6_0⟩ := hQ6
    have N6 := Fr.app N0 N6q
    have r6 : own_R p.tables e below F0 (T6.setTop (mkF m 5 #[.val (.long p0s), .second, .val (.long p1s), .second, .unset, .unset, .unset, .unset, .unset, .unset, .unset, .unset, .unset, .unset, .unset, .unset] [(.long (own_home p0s p1s))])) := fun tg_ kg_ => r5 tg_ (st6 tg_ kg_)
    have r8 : own_R p.tables e below F0 (T6.setTop (mkF m 71 #[.val (.long p0s), .second, .val (.long p1s), .second, .val (.long (own_home p0s p1s)), .second, .val (.long ((p0s ^^^ ((p1s.toUInt64 >>> ((32 : Int32) &&& 0x3f).toInt64.toUInt64).toInt64)) &&& (4294967295 : Int64))), .second, .val (.long ((((p0s.toUInt64 >>> ((32 : Int32) &&& 0x3f).toInt64.toUInt64).toInt64) ^^^ p1s) &&& (4294967295 : Int64))), .second, .val (.long (2135587861 : Int64)), .second, .val (.long (2654435769 : Int64)), .second, .val (.long ((((((((p0s ^^^ ((p1s.toUInt64 >>> ((32 : Int32) &&& 0x3f).toInt64.toUInt64).toInt64)) &&& (4294967295 : Int64)) * (2135587861 : Int64)).toUInt64 >>> ((32 : Int32) &&& 0x3f).toInt64.toUInt64).toInt64) + (((p0s ^^^ ((p1s.toUInt64 >>> ((32 : Int32) &&& 0x3f).toInt64.toUInt64).toInt64)) &&& (4294967295 : Int64)) * (2654435769 : Int64))) + (((((p0s.toUInt64 >>> ((32 : Int32) &&& 0x3f).toInt64.toUInt64).toInt64) ^^^ p1s) &&& (4294967295 : Int64)) * (2135587861 : Int64))) &&& (4294967295 : Int64))), .second] [(.int (lcmpW (own_home p0s p1s) (0 : Int64)))])) := fun tg_ kg_ => by
      refine r6 tg_ ?_
      show Steps p.tables e below (T6.setTop (mkF m 5 #[.val (.long p0s), .second, .val (.long p1s), .second, .unset, .unset, .unset, .unset, .unset, .unset, .unset, .unset, .unset, .unset, .unset, .unset] [(.long (own_home p0s p1s))])) _
      refine XS.lstore X6.here hx rfl (hb hby at_5) rfl (l' := #[.val (.long p0s), .second, .val (.long p1s), .second, .val (.long (own_home p0s p1s)), .second, .unset, .unset, .unset, .unset, .unset, .unset, .unset, .unset, .unset, .unset]) rfl ?_
      show Steps p.tables e below (T6.setTop (mkF m 7 #[.val (.long p0s), .second, .val (.long p1s), .second, .val (.long (own_home p0s p1s)), .second, .unset, .unset, .unset, .unset, .unset, .unset, .unset, .unset, .unset, .unset] [])) _
      refine XS.lloadN X6.here hx rfl (hb hby at_7) rfl ?_
      show Steps p.tables e below (T6.setTop (mkF m 8 #[.val (.long p0s), .second, .val (.long p1s), .second, .val (.long (own_home p0s p1s)), .second, .unset, .unset, .unset, .unset, .unset, .unset, .unset, .unset, .unset, .unset] [(.long p0s)])) _
      refine XS.lloadN X6.here hx rfl (hb hby at_8) rfl ?_
      show Steps p.tables e below (T6.setTop (mkF m 9 #[.val (.long p0s), .second, .val (.long p1s), .second, .val (.long (own_home p0s p1s)), .second, .unset, .unset, .unset, .unset, .unset, .unset, .unset, .unset, .unset, .unset] [(.long p1s), (.long p0s)])) _
      refine XS.bipush X6.here hx rfl (hb hby at_9) ?_
      show Steps p.tables e below (T6.setTop (mkF m 11 #[.val (.long p0s), .second, .val (.long p1s), .second, .val (.long (own_home p0s p1s)), .second, .unset, .unset, .unset, .unset, .unset, .unset, .unset, .unset, .unset, .unset] [(.int (32 : Int32)), (.long p1s), (.long p0s)])) _
      refine XS.lushr X6.here hx rfl (hb hby at_11) rfl ?_
      show Steps p.tables e below (T6.setTop (mkF m 12 #[.val (.long p0s), .second, .val (.long p1s), .second, .val (.long (own_home p0s p1s)), .second, .unset, .unset, .unset, .unset, .unset, .unset, .unset, .unset, .unset, .unset] [(.long ((p1s.toUInt64 >>> ((32 : Int32) &&& 0x3f).toInt64.toUInt64).toInt64)), (.long p0s)])) _
      refine XS.lxor X6.here hx rfl (hb hby at_12) rfl ?_
      show Steps p.tables e below (T6.setTop (mkF m 13 #[.val (.long p0s), .second, .val (.long p1s), .second, .val (.long (own_home p0s p1s)), .second, .unset, .unset, .unset, .unset, .unset, .unset, .unset, .unset, .unset, .unset] [(.long (p0s ^^^ ((p1s.toUInt64 >>> ((32 : Int32) &&& 0x3f).toInt64.toUInt64).toInt64)))])) _
      refine X6.ldc2J hx hown (mvT hZ (hw _ (List.mem_of_getElem? (i := 9) rfl))) rfl (hb hby at_13) ?_
      show Steps p.tables e below (T6.setTop (mkF m 16 #[.val (.long p0s), .second, .val (.long p1s), .second, .val (.long (own_home p0s p1s)), .second, .unset, .unset, .unset, .unset, .unset, .unset, .unset, .unset, .unset, .unset] [(.long (4294967295 : Int64)), (.long (p0s ^^^ ((p1s.toUInt64 >>> ((32 : Int32) &&& 0x3f).toInt64.toUInt64).toInt64)))])) _
      refine XS.land X6.here hx rfl (hb hby at_16) rfl ?_
      show Steps p.tables e below (T6.setTop (mkF m 17 #[.val (.long p0s), .second, .val (.long p1s), .second, .val (.long (own_home p0s p1s)), .second, .unset, .unset, .unset, .unset, .unset, .unset, .unset, .unset, .unset, .unset] [(.long ((p0s ^^^ ((p1s.toUInt64 >>> ((32 : Int32) &&& 0x3f).toInt64.toUInt64).toInt64)) &&& (4294967295 : Int64)))])) _
      refine XS.lstore X6.here hx rfl (hb hby at_17) rfl (l' := #[.val (.long p0s), .second, .val (.long p1s), .second, .val (.long (own_home p0s p1s)), .second, .val (.long ((p0s ^^^ ((p1s.toUInt64 >>> ((32 : Int32) &&& 0x3f).toInt64.toUInt64).toInt64)) &&& (4294967295 : Int64))), .second, .unset, .unset, .unset, .unset, .unset, .unset, .unset, .unset]) rfl ?_
      show Steps p.tables e below (T6.setTop (mkF m 19 #[.val (.long p0s), .second, .val (.long p1s), .second, .val (.long (own_home p0s p1s)), .second, .val (.long ((p0s ^^^ ((p1s.toUInt64 >>> ((32 : Int32) &&& 0x3f).toInt64.toUInt64).toInt64)) &&& (4294967295 : Int64))), .second, .unset, .unset, .unset, .unset, .unset, .unset, .unset, .unset] [])) _
      refine XS.lloadN X6.here hx rfl (hb hby at_19) rfl ?_
      show Steps p.tables e below (T6.setTop (mkF m 20 #[.val (.long p0s), .second, .val (.long p1s), .second, .val (.long (own_home p0s p1s)), .second, .val (.long ((p0s ^^^ ((p1s.toUInt64 >>> ((32 : Int32) &&& 0x3f).toInt64.toUInt64).toInt64)) &&& (4294967295 : Int64))), .second, .unset, .unset, .unset, .unset, .unset, .unset, .unset, .unset] [(.long p0s)])) _
      refine XS.bipush X6.here hx rfl (hb hby at_20) ?_
      show Steps p.tables e below (T6.setTop (mkF m 22 #[.val (.long p0s), .second, .val (.long p1s), .second, .val (.long (own_home p0s p1s)), .second, .val (.long ((p0s ^^^ ((p1s.toUInt64 >>> ((32 : Int32) &&& 0x3f).toInt64.toUInt64).toInt64)) &&& (4294967295 : Int64))), .second, .unset, .unset, .unset, .unset, .unset, .unset, .unset, .unset] [(.int (32 : Int32)), (.long p0s)])) _
      refine XS.lushr X6.here hx rfl (hb hby at_22) rfl ?_
      show Steps p.tables e below (T6.setTop (mkF m 23 #[.val (.long p0s), .second, .val (.long p1s), .second, .val (.long (own_home p0s p1s)), .second, .val (.long ((p0s ^^^ ((p1s.toUInt64 >>> ((32 : Int32) &&& 0x3f).toInt64.toUInt64).toInt64)) &&& (4294967295 : Int64))), .second, .unset, .unset, .unset, .unset, .unset, .unset, .unset, .unset] [(.long ((p0s.toUInt64 >>> ((32 : Int32) &&& 0x3f).toInt64.toUInt64).toInt64))])) _
      refine XS.lloadN X6.here hx rfl (hb hby at_23) rfl ?_
      show Steps p.tables e below (T6.setTop (mkF m 24 #[.val (.long p0s), .second, .val (.long p1s), .second, .val (.long (own_home p0s p1s)), .second, .val (.long ((p0s ^^^ ((p1s.toUInt64 >>> ((32 : Int32) &&& 0x3f).toInt64.toUInt64).toInt64)) &&& (4294967295 : Int64))), .second, .unset, .unset, .unset, .unset, .unset, .unset, .unset, .unset] [(.long p1s), (.long ((p0s.toUInt64 >>> ((32 : Int32) &&& 0x3f).toInt64.toUInt64).toInt64))])) _
      refine XS.lxor X6.here hx rfl (hb hby at_24) rfl ?_
      show Steps p.tables e below (T6.setTop (mkF m 25 #[.val (.long p0s), .second, .val (.long p1s), .second, .val (.long (own_home p0s p1s)), .second, .val (.long ((p0s ^^^ ((p1s.toUInt64 >>> ((32 : Int32) &&& 0x3f).toInt64.toUInt64).toInt64)) &&& (4294967295 : Int64))), .second, .unset, .unset, .unset, .unset, .unset, .unset, .unset, .unset] [(.long (((p0s.toUInt64 >>> ((32 : Int32) &&& 0x3f).toInt64.toUInt64).toInt64) ^^^ p1s))])) _
      refine X6.ldc2J hx hown (mvT hZ (hw _ (List.mem_of_getElem? (i := 9) rfl))) rfl (hb hby at_25) ?_
      show Steps p.tables e below (T6.setTop (mkF m 28 #[.val (.long p0s), .second, .val (.long p1s), .second, .val (.long (own_home p0s p1s)), .second, .val (.long ((p0s ^^^ ((p1s.toUInt64 >>> ((32 : Int32) &&& 0x3f).toInt64.toUInt64).toInt64)) &&& (4294967295 : Int64))), .second, .unset, .unset, .unset, .unset, .unset, .unset, .unset, .unset] [(.long (4294967295 : Int64)), (.long (((p0s.toUInt64 >>> ((32 : Int32) &&& 0x3f).toInt64.toUInt64).toInt64) ^^^ p1s))])) _
      refine XS.land X6.here hx rfl (hb hby at_28) rfl ?_
      show Steps p.tables e below (T6.setTop (mkF m 29 #[.val (.long p0s), .second, .val (.long p1s), .second, .val (.long (own_home p0s p1s)), .second, .val (.long ((p0s ^^^ ((p1s.toUInt64 >>> ((32 : Int32) &&& 0x3f).toInt64.toUInt64).toInt64)) &&& (4294967295 : Int64))), .second, .unset, .unset, .unset, .unset, .unset, .unset, .unset, .unset] [(.long ((((p0s.toUInt64 >>> ((32 : Int32) &&& 0x3f).toInt64.toUInt64).toInt64) ^^^ p1s) &&& (4294967295 : Int64)))])) _
      refine XS.lstore X6.here hx rfl (hb hby at_29) rfl (l' := #[.val (.long p0s), .second, .val (.long p1s), .second, .val (.long (own_home p0s p1s)), .second, .val (.long ((p0s ^^^ ((p1s.toUInt64 >>> ((32 : Int32) &&& 0x3f).toInt64.toUInt64).toInt64)) &&& (4294967295 : Int64))), .second, .val (.long ((((p0s.toUInt64 >>> ((32 : Int32) &&& 0x3f).toInt64.toUInt64).toInt64) ^^^ p1s) &&& (4294967295 : Int64))), .second, .unset, .unset, .unset, .unset, .unset, .unset]) rfl ?_
      show Steps p.tables e below (T6.setTop (mkF m 31 #[.val (.long p0s), .second, .val (.long p1s), .second, .val (.long (own_home p0s p1s)), .second, .val (.long ((p0s ^^^ ((p1s.toUInt64 >>> ((32 : Int32) &&& 0x3f).toInt64.toUInt64).toInt64)) &&& (4294967295 : Int64))), .second, .val (.long ((((p0s.toUInt64 >>> ((32 : Int32) &&& 0x3f).toInt64.toUInt64).toInt64) ^^^ p1s) &&& (4294967295 : Int64))), .second, .unset, .unset, .unset, .unset, .unset, .unset] [])) _
      refine X6.ldc2J hx hown (mvT hZ (hw _ (List.mem_of_getElem? (i := 10) rfl))) rfl (hb hby at_31) ?_
      show Steps p.tables e below (T6.setTop (mkF m 34 #[.val (.long p0s), .second, .val (.long p1s), .second, .val (.long (own_home p0s p1s)), .second, .val (.long ((p0s ^^^ ((p1s.toUInt64 >>> ((32 : Int32) &&& 0x3f).toInt64.toUInt64).toInt64)) &&& (4294967295 : Int64))), .second, .val (.long ((((p0s.toUInt64 >>> ((32 : Int32) &&& 0x3f).toInt64.toUInt64).toInt64) ^^^ p1s) &&& (4294967295 : Int64))), .second, .unset, .unset, .unset, .unset, .unset, .unset] [(.long (2135587861 : Int64))])) _
      refine XS.lstore X6.here hx rfl (hb hby at_34) rfl (l' := #[.val (.long p0s), .second, .val (.long p1s), .second, .val (.long (own_home p0s p1s)), .second, .val (.long ((p0s ^^^ ((p1s.toUInt64 >>> ((32 : Int32) &&& 0x3f).toInt64.toUInt64).toInt64)) &&& (4294967295 : Int64))), .second, .val (.long ((((p0s.toUInt64 >>> ((32 : Int32) &&& 0x3f).toInt64.toUInt64).toInt64) ^^^ p1s) &&& (4294967295 : Int64))), .second, .val (.long (2135587861 : Int64)), .second, .unset, .unset, .unset, .unset]) rfl ?_
      show Steps p.tables e below (T6.setTop (mkF m 36 #[.val (.long p0s), .second, .val (.long p1s), .second, .val (.long (own_home p0s p1s)), .second, .val (.long ((p0s ^^^ ((p1s.toUInt64 >>> ((32 : Int32) &&& 0x3f).toInt64.toUInt64).toInt64)) &&& (4294967295 : Int64))), .second, .val (.long ((((p0s.toUInt64 >>> ((32 : Int32) &&& 0x3f).toInt64.toUInt64).toInt64) ^^^ p1s) &&& (4294967295 : Int64))), .second, .val (.long (2135587861 : Int64)), .second, .unset, .unset, .unset, .unset] [])) _
      refine X6.ldc2J hx hown (mvT hZ (hw _ (List.mem_of_getElem? (i := 11) rfl))) rfl (hb hby at_36) ?_
      show Steps p.tables e below (T6.setTop (mkF m 39 #[.val (.long p0s), .second, .val (.long p1s), .second, .val (.long (own_home p0s p1s)), .second, .val (.long ((p0s ^^^ ((p1s.toUInt64 >>> ((32 : Int32) &&& 0x3f).toInt64.toUInt64).toInt64)) &&& (4294967295 : Int64))), .second, .val (.long ((((p0s.toUInt64 >>> ((32 : Int32) &&& 0x3f).toInt64.toUInt64).toInt64) ^^^ p1s) &&& (4294967295 : Int64))), .second, .val (.long (2135587861 : Int64)), .second, .unset, .unset, .unset, .unset] [(.long (2654435769 : Int64))])) _
      refine XS.lstore X6.here hx rfl (hb hby at_39) rfl (l' := #[.val (.long p0s), .second, .val (.long p1s), .second, .val (.long (own_home p0s p1s)), .second, .val (.long ((p0s ^^^ ((p1s.toUInt64 >>> ((32 : Int32) &&& 0x3f).toInt64.toUInt64).toInt64)) &&& (4294967295 : Int64))), .second, .val (.long ((((p0s.toUInt64 >>> ((32 : Int32) &&& 0x3f).toInt64.toUInt64).toInt64) ^^^ p1s) &&& (4294967295 : Int64))), .second, .val (.long (2135587861 : Int64)), .second, .val (.long (2654435769 : Int64)), .second, .unset, .unset]) rfl ?_
      show Steps p.tables e below (T6.setTop (mkF m 41 #[.val (.long p0s), .second, .val (.long p1s), .second, .val (.long (own_home p0s p1s)), .second, .val (.long ((p0s ^^^ ((p1s.toUInt64 >>> ((32 : Int32) &&& 0x3f).toInt64.toUInt64).toInt64)) &&& (4294967295 : Int64))), .second, .val (.long ((((p0s.toUInt64 >>> ((32 : Int32) &&& 0x3f).toInt64.toUInt64).toInt64) ^^^ p1s) &&& (4294967295 : Int64))), .second, .val (.long (2135587861 : Int64)), .second, .val (.long (2654435769 : Int64)), .second, .unset, .unset] [])) _
      refine XS.lload X6.here hx rfl (hb hby at_41) rfl ?_
      show Steps p.tables e below (T6.setTop (mkF m 43 #[.val (.long p0s), .second, .val (.long p1s), .second, .val (.long (own_home p0s p1s)), .second, .val (.long ((p0s ^^^ ((p1s.toUInt64 >>> ((32 : Int32) &&& 0x3f).toInt64.toUInt64).toInt64)) &&& (4294967295 : Int64))), .second, .val (.long ((((p0s.toUInt64 >>> ((32 : Int32) &&& 0x3f).toInt64.toUInt64).toInt64) ^^^ p1s) &&& (4294967295 : Int64))), .second, .val (.long (2135587861 : Int64)), .second, .val (.long (2654435769 : Int64)), .second, .unset, .unset] [(.long ((p0s ^^^ ((p1s.toUInt64 >>> ((32 : Int32) &&& 0x3f).toInt64.toUInt64).toInt64)) &&& (4294967295 : Int64)))])) _
      refine XS.lload X6.here hx rfl (hb hby at_43) rfl ?_
      show Steps p.tables e below (T6.setTop (mkF m 45 #[.val (.long p0s), .second, .val (.long p1s), .second, .val (.long (own_home p0s p1s)), .second, .val (.long ((p0s ^^^ ((p1s.toUInt64 >>> ((32 : Int32) &&& 0x3f).toInt64.toUInt64).toInt64)) &&& (4294967295 : Int64))), .second, .val (.long ((((p0s.toUInt64 >>> ((32 : Int32) &&& 0x3f).toInt64.toUInt64).toInt64) ^^^ p1s) &&& (4294967295 : Int64))), .second, .val (.long (2135587861 : Int64)), .second, .val (.long (2654435769 : Int64)), .second, .unset, .unset] [(.long (2135587861 : Int64)), (.long ((p0s ^^^ ((p1s.toUInt64 >>> ((32 : Int32) &&& 0x3f).toInt64.toUInt64).toInt64)) &&& (4294967295 : Int64)))])) _
      refine XS.lmul X6.here hx rfl (hb hby at_45) rfl ?_
      show Steps p.tables e below (T6.setTop (mkF m 46 #[.val (.long p0s), .second, .val (.long p1s), .second, .val (.long (own_home p0s p1s)), .second, .val (.long ((p0s ^^^ ((p1s.toUInt64 >>> ((32 : Int32) &&& 0x3f).toInt64.toUInt64).toInt64)) &&& (4294967295 : Int64))), .second, .val (.long ((((p0s.toUInt64 >>> ((32 : Int32) &&& 0x3f).toInt64.toUInt64).toInt64) ^^^ p1s) &&& (4294967295 : Int64))), .second, .val (.long (2135587861 : Int64)), .second, .val (.long (2654435769 : Int64)), .second, .unset, .unset] [(.long (((p0s ^^^ ((p1s.toUInt64 >>> ((32 : Int32) &&& 0x3f).toInt64.toUInt64).toInt64)) &&& (4294967295 : Int64)) * (2135587861 : Int64)))])) _
      refine XS.bipush X6.here hx rfl (hb hby at_46) ?_
      show Steps p.tables e below (T6.setTop (mkF m 48 #[.val (.long p0s), .second, .val (.long p1s), .second, .val (.long (own_home p0s p1s)), .second, .val (.long ((p0s ^^^ ((p1s.toUInt64 >>> ((32 : Int32) &&& 0x3f).toInt64.toUInt64).toInt64)) &&& (4294967295 : Int64))), .second, .val (.long ((((p0s.toUInt64 >>> ((32 : Int32) &&& 0x3f).toInt64.toUInt64).toInt64) ^^^ p1s) &&& (4294967295 : Int64))), .second, .val (.long (2135587861 : Int64)), .second, .val (.long (2654435769 : Int64)), .second, .unset, .unset] [(.int (32 : Int32)), (.long (((p0s ^^^ ((p1s.toUInt64 >>> ((32 : Int32) &&& 0x3f).toInt64.toUInt64).toInt64)) &&& (4294967295 : Int64)) * (2135587861 : Int64)))])) _
      refine XS.lushr X6.here hx rfl (hb hby at_48) rfl ?_
      show Steps p.tables e below (T6.setTop (mkF m 49 #[.val (.long p0s), .second, .val (.long p1s), .second, .val (.long (own_home p0s p1s)), .second, .val (.long ((p0s ^^^ ((p1s.toUInt64 >>> ((32 : Int32) &&& 0x3f).toInt64.toUInt64).toInt64)) &&& (4294967295 : Int64))), .second, .val (.long ((((p0s.toUInt64 >>> ((32 : Int32) &&& 0x3f).toInt64.toUInt64).toInt64) ^^^ p1s) &&& (4294967295 : Int64))), .second, .val (.long (2135587861 : Int64)), .second, .val (.long (2654435769 : Int64)), .second, .unset, .unset] [(.long (((((p0s ^^^ ((p1s.toUInt64 >>> ((32 : Int32) &&& 0x3f).toInt64.toUInt64).toInt64)) &&& (4294967295 : Int64)) * (2135587861 : Int64)).toUInt64 >>> ((32 : Int32) &&& 0x3f).toInt64.toUInt64).toInt64))])) _
      refine XS.lload X6.here hx rfl (hb hby at_49) rfl ?_
      show Steps p.tables e below (T6.setTop (mkF m 51 #[.val (.long p0s), .second, .val (.long p1s), .second, .val (.long (own_home p0s p1s)), .second, .val (.long ((p0s ^^^ ((p1s.toUInt64 >>> ((32 : Int32) &&& 0x3f).toInt64.toUInt64).toInt64)) &&& (4294967295 : Int64))), .second, .val (.long ((((p0s.toUInt64 >>> ((32 : Int32) &&& 0x3f).toInt64.toUInt64).toInt64) ^^^ p1s) &&& (4294967295 : Int64))), .second, .val (.long (2135587861 : Int64)), .second, .val (.long (2654435769 : Int64)), .second, .unset, .unset] [(.long ((p0s ^^^ ((p1s.toUInt64 >>> ((32 : Int32) &&& 0x3f).toInt64.toUInt64).toInt64)) &&& (4294967295 : Int64))), (.long (((((p0s ^^^ ((p1s.toUInt64 >>> ((32 : Int32) &&& 0x3f).toInt64.toUInt64).toInt64)) &&& (4294967295 : Int64)) * (2135587861 : Int64)).toUInt64 >>> ((32 : Int32) &&& 0x3f).toInt64.toUInt64).toInt64))])) _
      refine XS.lload X6.here hx rfl (hb hby at_51) rfl ?_
      show Steps p.tables e below (T6.setTop (mkF m 53 #[.val (.long p0s), .second, .val (.long p1s), .second, .val (.long (own_home p0s p1s)), .second, .val (.long ((p0s ^^^ ((p1s.toUInt64 >>> ((32 : Int32) &&& 0x3f).toInt64.toUInt64).toInt64)) &&& (4294967295 : Int64))), .second, .val (.long ((((p0s.toUInt64 >>> ((32 : Int32) &&& 0x3f).toInt64.toUInt64).toInt64) ^^^ p1s) &&& (4294967295 : Int64))), .second, .val (.long (2135587861 : Int64)), .second, .val (.long (2654435769 : Int64)), .second, .unset, .unset] [(.long (2654435769 : Int64)), (.long ((p0s ^^^ ((p1s.toUInt64 >>> ((32 : Int32) &&& 0x3f).toInt64.toUInt64).toInt64)) &&& (4294967295 : Int64))), (.long (((((p0s ^^^ ((p1s.toUInt64 >>> ((32 : Int32) &&& 0x3f).toInt64.toUInt64).toInt64)) &&& (4294967295 : Int64)) * (2135587861 : Int64)).toUInt64 >>> ((32 : Int32) &&& 0x3f).toInt64.toUInt64).toInt64))])) _
      refine XS.lmul X6.here hx rfl (hb hby at_53) rfl ?_
      show Steps p.tables e below (T6.setTop (mkF m 54 #[.val (.long p0s), .second, .val (.long p1s), .second, .val (.long (own_home p0s p1s)), .second, .val (.long ((p0s ^^^ ((p1s.toUInt64 >>> ((32 : Int32) &&& 0x3f).toInt64.toUInt64).toInt64)) &&& (4294967295 : Int64))), .second, .val (.long ((((p0s.toUInt64 >>> ((32 : Int32) &&& 0x3f).toInt64.toUInt64).toInt64) ^^^ p1s) &&& (4294967295 : Int64))), .second, .val (.long (2135587861 : Int64)), .second, .val (.long (2654435769 : Int64)), .second, .unset, .unset] [(.long (((p0s ^^^ ((p1s.toUInt64 >>> ((32 : Int32) &&& 0x3f).toInt64.toUInt64).toInt64)) &&& (4294967295 : Int64)) * (2654435769 : Int64))), (.long (((((p0s ^^^ ((p1s.toUInt64 >>> ((32 : Int32) &&& 0x3f).toInt64.toUInt64).toInt64)) &&& (4294967295 : Int64)) * (2135587861 : Int64)).toUInt64 >>> ((32 : Int32) &&& 0x3f).toInt64.toUInt64).toInt64))])) _
      refine XS.ladd X6.here hx rfl (hb hby at_54) rfl ?_
      show Steps p.tables e below (T6.setTop (mkF m 55 #[.val (.long p0s), .second, .val (.long p1s), .second, .val (.long (own_home p0s p1s)), .second, .val (.long ((p0s ^^^ ((p1s.toUInt64 >>> ((32 : Int32) &&& 0x3f).toInt64.toUInt64).toInt64)) &&& (4294967295 : Int64))), .second, .val (.long ((((p0s.toUInt64 >>> ((32 : Int32) &&& 0x3f).toInt64.toUInt64).toInt64) ^^^ p1s) &&& (4294967295 : Int64))), .second, .val (.long (2135587861 : Int64)), .second, .val (.long (2654435769 : Int64)), .second, .unset, .unset] [(.long ((((((p0s ^^^ ((p1s.toUInt64 >>> ((32 : Int32) &&& 0x3f).toInt64.toUInt64).toInt64)) &&& (4294967295 : Int64)) * (2135587861 : Int64)).toUInt64 >>> ((32 : Int32) &&& 0x3f).toInt64.toUInt64).toInt64) + (((p0s ^^^ ((p1s.toUInt64 >>> ((32 : Int32) &&& 0x3f).toInt64.toUInt64).toInt64)) &&& (4294967295 : Int64)) * (2654435769 : Int64))))])) _
      refine XS.lload X6.here hx rfl (hb hby at_55) rfl ?_
      show Steps p.tables e below (T6.setTop (mkF m 57 #[.val (.long p0s), .second, .val (.long p1s), .second, .val (.long (own_home p0s p1s)), .second, .val (.long ((p0s ^^^ ((p1s.toUInt64 >>> ((32 : Int32) &&& 0x3f).toInt64.toUInt64).toInt64)) &&& (4294967295 : Int64))), .second, .val (.long ((((p0s.toUInt64 >>> ((32 : Int32) &&& 0x3f).toInt64.toUInt64).toInt64) ^^^ p1s) &&& (4294967295 : Int64))), .second, .val (.long (2135587861 : Int64)), .second, .val (.long (2654435769 : Int64)), .second, .unset, .unset] [(.long ((((p0s.toUInt64 >>> ((32 : Int32) &&& 0x3f).toInt64.toUInt64).toInt64) ^^^ p1s) &&& (4294967295 : Int64))), (.long ((((((p0s ^^^ ((p1s.toUInt64 >>> ((32 : Int32) &&& 0x3f).toInt64.toUInt64).toInt64)) &&& (4294967295 : Int64)) * (2135587861 : Int64)).toUInt64 >>> ((32 : Int32) &&& 0x3f).toInt64.toUInt64).toInt64) + (((p0s ^^^ ((p1s.toUInt64 >>> ((32 : Int32) &&& 0x3f).toInt64.toUInt64).toInt64)) &&& (4294967295 : Int64)) * (2654435769 : Int64))))])) _
      refine XS.lload X6.here hx rfl (hb hby at_57) rfl ?_
      show Steps p.tables e below (T6.setTop (mkF m 59 #[.val (.long p0s), .second, .val (.long p1s), .second, .val (.long (own_home p0s p1s)), .second, .val (.long ((p0s ^^^ ((p1s.toUInt64 >>> ((32 : Int32) &&& 0x3f).toInt64.toUInt64).toInt64)) &&& (4294967295 : Int64))), .second, .val (.long ((((p0s.toUInt64 >>> ((32 : Int32) &&& 0x3f).toInt64.toUInt64).toInt64) ^^^ p1s) &&& (4294967295 : Int64))), .second, .val (.long (2135587861 : Int64)), .second, .val (.long (2654435769 : Int64)), .second, .unset, .unset] [(.long (2135587861 : Int64)), (.long ((((p0s.toUInt64 >>> ((32 : Int32) &&& 0x3f).toInt64.toUInt64).toInt64) ^^^ p1s) &&& (4294967295 : Int64))), (.long ((((((p0s ^^^ ((p1s.toUInt64 >>> ((32 : Int32) &&& 0x3f).toInt64.toUInt64).toInt64)) &&& (4294967295 : Int64)) * (2135587861 : Int64)).toUInt64 >>> ((32 : Int32) &&& 0x3f).toInt64.toUInt64).toInt64) + (((p0s ^^^ ((p1s.toUInt64 >>> ((32 : Int32) &&& 0x3f).toInt64.toUInt64).toInt64)) &&& (4294967295 : Int64)) * (2654435769 : Int64))))])) _
      refine XS.lmul X6.here hx rfl (hb hby at_59) rfl ?_
      show Steps p.tables e below (T6.setTop (mkF m 60 #[.val (.long p0s), .second, .val (.long p1s), .second, .val (.long (own_home p0s p1s)), .second, .val (.long ((p0s ^^^ ((p1s.toUInt64 >>> ((32 : Int32) &&& 0x3f).toInt64.toUInt64).toInt64)) &&& (4294967295 : Int64))), .second, .val (.long ((((p0s.toUInt64 >>> ((32 : Int32) &&& 0x3f).toInt64.toUInt64).toInt64) ^^^ p1s) &&& (4294967295 : Int64))), .second, .val (.long (2135587861 : Int64)), .second, .val (.long (2654435769 : Int64)), .second, .unset, .unset] [(.long (((((p0s.toUInt64 >>> ((32 : Int32) &&& 0x3f).toInt64.toUInt64).toInt64) ^^^ p1s) &&& (4294967295 : Int64)) * (2135587861 : Int64))), (.long ((((((p0s ^^^ ((p1s.toUInt64 >>> ((32 : Int32) &&& 0x3f).toInt64.toUInt64).toInt64)) &&& (4294967295 : Int64)) * (2135587861 : Int64)).toUInt64 >>> ((32 : Int32) &&& 0x3f).toInt64.toUInt64).toInt64) + (((p0s ^^^ ((p1s.toUInt64 >>> ((32 : Int32) &&& 0x3f).toInt64.toUInt64).toInt64)) &&& (4294967295 : Int64)) * (2654435769 : Int64))))])) _
      refine XS.ladd X6.here hx rfl (hb hby at_60) rfl ?_
      show Steps p.tables e below (T6.setTop (mkF m 61 #[.val (.long p0s), .second, .val (.long p1s), .second, .val (.long (own_home p0s p1s)), .second, .val (.long ((p0s ^^^ ((p1s.toUInt64 >>> ((32 : Int32) &&& 0x3f).toInt64.toUInt64).toInt64)) &&& (4294967295 : Int64))), .second, .val (.long ((((p0s.toUInt64 >>> ((32 : Int32) &&& 0x3f).toInt64.toUInt64).toInt64) ^^^ p1s) &&& (4294967295 : Int64))), .second, .val (.long (2135587861 : Int64)), .second, .val (.long (2654435769 : Int64)), .second, .unset, .unset] [(.long (((((((p0s ^^^ ((p1s.toUInt64 >>> ((32 : Int32) &&& 0x3f).toInt64.toUInt64).toInt64)) &&& (4294967295 : Int64)) * (2135587861 : Int64)).toUInt64 >>> ((32 : Int32) &&& 0x3f).toInt64.toUInt64).toInt64) + (((p0s ^^^ ((p1s.toUInt64 >>> ((32 : Int32) &&& 0x3f).toInt64.toUInt64).toInt64)) &&& (4294967295 : Int64)) * (2654435769 : Int64))) + (((((p0s.toUInt64 >>> ((32 : Int32) &&& 0x3f).toInt64.toUInt64).toInt64) ^^^ p1s) &&& (4294967295 : Int64)) * (2135587861 : Int64))))])) _
      refine X6.ldc2J hx hown (mvT hZ (hw _ (List.mem_of_getElem? (i := 9) rfl))) rfl (hb hby at_61) ?_
      show Steps p.tables e below (T6.setTop (mkF m 64 #[.val (.long p0s), .second, .val (.long p1s), .second, .val (.long (own_home p0s p1s)), .second, .val (.long ((p0s ^^^ ((p1s.toUInt64 >>> ((32 : Int32) &&& 0x3f).toInt64.toUInt64).toInt64)) &&& (4294967295 : Int64))), .second, .val (.long ((((p0s.toUInt64 >>> ((32 : Int32) &&& 0x3f).toInt64.toUInt64).toInt64) ^^^ p1s) &&& (4294967295 : Int64))), .second, .val (.long (2135587861 : Int64)), .second, .val (.long (2654435769 : Int64)), .second, .unset, .unset] [(.long (4294967295 : Int64)), (.long (((((((p0s ^^^ ((p1s.toUInt64 >>> ((32 : Int32) &&& 0x3f).toInt64.toUInt64).toInt64)) &&& (4294967295 : Int64)) * (2135587861 : Int64)).toUInt64 >>> ((32 : Int32) &&& 0x3f).toInt64.toUInt64).toInt64) + (((p0s ^^^ ((p1s.toUInt64 >>> ((32 : Int32) &&& 0x3f).toInt64.toUInt64).toInt64)) &&& (4294967295 : Int64)) * (2654435769 : Int64))) + (((((p0s.toUInt64 >>> ((32 : Int32) &&& 0x3f).toInt64.toUInt64).toInt64) ^^^ p1s) &&& (4294967295 : Int64)) * (2135587861 : Int64))))])) _
      refine XS.land X6.here hx rfl (hb hby at_64) rfl ?_
      show Steps p.tables e below (T6.setTop (mkF m 65 #[.val (.long p0s), .second, .val (.long p1s), .second, .val (.long (own_home p0s p1s)), .second, .val (.long ((p0s ^^^ ((p1s.toUInt64 >>> ((32 : Int32) &&& 0x3f).toInt64.toUInt64).toInt64)) &&& (4294967295 : Int64))), .second, .val (.long ((((p0s.toUInt64 >>> ((32 : Int32) &&& 0x3f).toInt64.toUInt64).toInt64) ^^^ p1s) &&& (4294967295 : Int64))), .second, .val (.long (2135587861 : Int64)), .second, .val (.long (2654435769 : Int64)), .second, .unset, .unset] [(.long ((((((((p0s ^^^ ((p1s.toUInt64 >>> ((32 : Int32) &&& 0x3f).toInt64.toUInt64).toInt64)) &&& (4294967295 : Int64)) * (2135587861 : Int64)).toUInt64 >>> ((32 : Int32) &&& 0x3f).toInt64.toUInt64).toInt64) + (((p0s ^^^ ((p1s.toUInt64 >>> ((32 : Int32) &&& 0x3f).toInt64.toUInt64).toInt64)) &&& (4294967295 : Int64)) * (2654435769 : Int64))) + (((((p0s.toUInt64 >>> ((32 : Int32) &&& 0x3f).toInt64.toUInt64).toInt64) ^^^ p1s) &&& (4294967295 : Int64)) * (2135587861 : Int64))) &&& (4294967295 : Int64)))])) _
      refine XS.lstore X6.here hx rfl (hb hby at_65) rfl (l' := #[.val (.long p0s), .second, .val (.long p1s), .second, .val (.long (own_home p0s p1s)), .second, .val (.long ((p0s ^^^ ((p1s.toUInt64 >>> ((32 : Int32) &&& 0x3f).toInt64.toUInt64).toInt64)) &&& (4294967295 : Int64))), .second, .val (.long ((((p0s.toUInt64 >>> ((32 : Int32) &&& 0x3f).toInt64.toUInt64).toInt64) ^^^ p1s) &&& (4294967295 : Int64))), .second, .val (.long (2135587861 : Int64)), .second, .val (.long (2654435769 : Int64)), .second, .val (.long ((((((((p0s ^^^ ((p1s.toUInt64 >>> ((32 : Int32) &&& 0x3f).toInt64.toUInt64).toInt64)) &&& (4294967295 : Int64)) * (2135587861 : Int64)).toUInt64 >>> ((32 : Int32) &&& 0x3f).toInt64.toUInt64).toInt64) + (((p0s ^^^ ((p1s.toUInt64 >>> ((32 : Int32) &&& 0x3f).toInt64.toUInt64).toInt64)) &&& (4294967295 : Int64)) * (2654435769 : Int64))) + (((((p0s.toUInt64 >>> ((32 : Int32) &&& 0x3f).toInt64.toUInt64).toInt64) ^^^ p1s) &&& (4294967295 : Int64)) * (2135587861 : Int64))) &&& (4294967295 : Int64))), .second]) rfl ?_
      show Steps p.tables e below (T6.setTop (mkF m 67 #[.val (.long p0s), .second, .val (.long p1s), .second, .val (.long (own_home p0s p1s)), .second, .val (.long ((p0s ^^^ ((p1s.toUInt64 >>> ((32 : Int32) &&& 0x3f).toInt64.toUInt64).toInt64)) &&& (4294967295 : Int64))), .second, .val (.long ((((p0s.toUInt64 >>> ((32 : Int32) &&& 0x3f).toInt64.toUInt64).toInt64) ^^^ p1s) &&& (4294967295 : Int64))), .second, .val (.long (2135587861 : Int64)), .second, .val (.long (2654435769 : Int64)), .second, .val (.long ((((((((p0s ^^^ ((p1s.toUInt64 >>> ((32 : Int32) &&& 0x3f).toInt64.toUInt64).toInt64)) &&& (4294967295 : Int64)) * (2135587861 : Int64)).toUInt64 >>> ((32 : Int32) &&& 0x3f).toInt64.toUInt64).toInt64) + (((p0s ^^^ ((p1s.toUInt64 >>> ((32 : Int32) &&& 0x3f).toInt64.toUInt64).toInt64)) &&& (4294967295 : Int64)) * (2654435769 : Int64))) + (((((p0s.toUInt64 >>> ((32 : Int32) &&& 0x3f).toInt64.toUInt64).toInt64) ^^^ p1s) &&& (4294967295 : Int64)) * (2135587861 : Int64))) &&& (4294967295 : Int64))), .second] [])) _
      refine XS.lload X6.here hx rfl (hb hby at_67) rfl ?_
      show Steps p.tables e below (T6.setTop (mkF m 69 #[.val (.long p0s), .second, .val (.long p1s), .second, .val (.long (own_home p0s p1s)), .second, .val (.long ((p0s ^^^ ((p1s.toUInt64 >>> ((32 : Int32) &&& 0x3f).toInt64.toUInt64).toInt64)) &&& (4294967295 : Int64))), .second, .val (.long ((((p0s.toUInt64 >>> ((32 : Int32) &&& 0x3f).toInt64.toUInt64).toInt64) ^^^ p1s) &&& (4294967295 : Int64))), .second, .val (.long (2135587861 : Int64)), .second, .val (.long (2654435769 : Int64)), .second, .val (.long ((((((((p0s ^^^ ((p1s.toUInt64 >>> ((32 : Int32) &&& 0x3f).toInt64.toUInt64).toInt64)) &&& (4294967295 : Int64)) * (2135587861 : Int64)).toUInt64 >>> ((32 : Int32) &&& 0x3f).toInt64.toUInt64).toInt64) + (((p0s ^^^ ((p1s.toUInt64 >>> ((32 : Int32) &&& 0x3f).toInt64.toUInt64).toInt64)) &&& (4294967295 : Int64)) * (2654435769 : Int64))) + (((((p0s.toUInt64 >>> ((32 : Int32) &&& 0x3f).toInt64.toUInt64).toInt64) ^^^ p1s) &&& (4294967295 : Int64)) * (2135587861 : Int64))) &&& (4294967295 : Int64))), .second] [(.long (own_home p0s p1s))])) _
      refine XS.lconst X6.here hx rfl (hb hby at_69) ?_
      show Steps p.tables e below (T6.setTop (mkF m 70 #[.val (.long p0s), .second, .val (.long p1s), .second, .val (.long (own_home p0s p1s)), .second, .val (.long ((p0s ^^^ ((p1s.toUInt64 >>> ((32 : Int32) &&& 0x3f).toInt64.toUInt64).toInt64)) &&& (4294967295 : Int64))), .second, .val (.long ((((p0s.toUInt64 >>> ((32 : Int32) &&& 0x3f).toInt64.toUInt64).toInt64) ^^^ p1s) &&& (4294967295 : Int64))), .second, .val (.long (2135587861 : Int64)), .second, .val (.long (2654435769 : Int64)), .second, .val (.long ((((((((p0s ^^^ ((p1s.toUInt64 >>> ((32 : Int32) &&& 0x3f).toInt64.toUInt64).toInt64)) &&& (4294967295 : Int64)) * (2135587861 : Int64)).toUInt64 >>> ((32 : Int32) &&& 0x3f).toInt64.toUInt64).toInt64) + (((p0s ^^^ ((p1s.toUInt64 >>> ((32 : Int32) &&& 0x3f).toInt64.toUInt64).toInt64)) &&& (4294967295 : Int64)) * (2654435769 : Int64))) + (((((p0s.toUInt64 >>> ((32 : Int32) &&& 0x3f).toInt64.toUInt64).toInt64) ^^^ p1s) &&& (4294967295 : Int64)) * (2135587861 : Int64))) &&& (4294967295 : Int64))), .second] [(.long (0 : Int64)), (.long (own_home p0s p1s))])) _
      refine XS.lcmp X6.here hx rfl (hb hby at_70) rfl ?_
      exact kg_
    have hc7 : ¬ ((own_home p0s p1s) < (0 : Int64)) := (fun q => by have := own_lt64 q; have := own_homeR p0s p1s; have : (0 : Int64).toInt = 0 := rfl; omega)
    have r10 : own_R p.tables e below F0 (T6.setTop (mkF m 80 #[.val (.long p0s), .second, .val (.long p1s), .second, .val (.long (own_home p0s p1s)), .second, .val (.long ((p0s ^^^ ((p1s.toUInt64 >>> ((32 : Int32) &&& 0x3f).toInt64.toUInt64).toInt64)) &&& (4294967295 : Int64))), .second, .val (.long ((((p0s.toUInt64 >>> ((32 : Int32) &&& 0x3f).toInt64.toUInt64).toInt64) ^^^ p1s) &&& (4294967295 : Int64))), .second, .val (.long (2135587861 : Int64)), .second, .val (.long (2654435769 : Int64)), .second, .val (.long ((((((((p0s ^^^ ((p1s.toUInt64 >>> ((32 : Int32) &&& 0x3f).toInt64.toUInt64).toInt64)) &&& (4294967295 : Int64)) * (2135587861 : Int64)).toUInt64 >>> ((32 : Int32) &&& 0x3f).toInt64.toUInt64).toInt64) + (((p0s ^^^ ((p1s.toUInt64 >>> ((32 : Int32) &&& 0x3f).toInt64.toUInt64).toInt64)) &&& (4294967295 : Int64)) * (2654435769 : Int64))) + (((((p0s.toUInt64 >>> ((32 : Int32) &&& 0x3f).toInt64.toUInt64).toInt64) ^^^ p1s) &&& (4294967295 : Int64)) * (2135587861 : Int64))) &&& (4294967295 : Int64))), .second] [(.int (lcmpW (own_home p0s p1s) (4294967295 : Int64)))])) := fun tg_ kg_ => by
      refine r8 tg_ ?_
      show Steps p.tables e below (T6.setTop (mkF m 71 #[.val (.long p0s), .second, .val (.long p1s), .second, .val (.long (own_home p0s p1s)), .second, .val (.long ((p0s ^^^ ((p1s.toUInt64 >>> ((32 : Int32) &&& 0x3f).toInt64.toUInt64).toInt64)) &&& (4294967295 : Int64))), .second, .val (.long ((((p0s.toUInt64 >>> ((32 : Int32) &&& 0x3f).toInt64.toUInt64).toInt64) ^^^ p1s) &&& (4294967295 : Int64))), .second, .val (.long (2135587861 : Int64)), .second, .val (.long (2654435769 : Int64)), .second, .val (.long ((((((((p0s ^^^ ((p1s.toUInt64 >>> ((32 : Int32) &&& 0x3f).toInt64.toUInt64).toInt64)) &&& (4294967295 : Int64)) * (2135587861 : Int64)).toUInt64 >>> ((32 : Int32) &&& 0x3f).toInt64.toUInt64).toInt64) + (((p0s ^^^ ((p1s.toUInt64 >>> ((32 : Int32) &&& 0x3f).toInt64.toUInt64).toInt64)) &&& (4294967295 : Int64)) * (2654435769 : Int64))) + (((((p0s.toUInt64 >>> ((32 : Int32) &&& 0x3f).toInt64.toUInt64).toInt64) ^^^ p1s) &&& (4294967295 : Int64)) * (2135587861 : Int64))) &&& (4294967295 : Int64))), .second] [(.int (lcmpW (own_home p0s p1s) (0 : Int64)))])) _
      refine XS.ifNo X6.here hx rfl (hb hby at_71) rfl (own_l_nlt hc7).1 ?_
      show Steps p.tables e below (T6.setTop (mkF m 74 #[.val (.long p0s), .second, .val (.long p1s), .second, .val (.long (own_home p0s p1s)), .second, .val (.long ((p0s ^^^ ((p1s.toUInt64 >>> ((32 : Int32) &&& 0x3f).toInt64.toUInt64).toInt64)) &&& (4294967295 : Int64))), .second, .val (.long ((((p0s.toUInt64 >>> ((32 : Int32) &&& 0x3f).toInt64.toUInt64).toInt64) ^^^ p1s) &&& (4294967295 : Int64))), .second, .val (.long (2135587861 : Int64)), .second, .val (.long (2654435769 : Int64)), .second, .val (.long ((((((((p0s ^^^ ((p1s.toUInt64 >>> ((32 : Int32) &&& 0x3f).toInt64.toUInt64).toInt64)) &&& (4294967295 : Int64)) * (2135587861 : Int64)).toUInt64 >>> ((32 : Int32) &&& 0x3f).toInt64.toUInt64).toInt64) + (((p0s ^^^ ((p1s.toUInt64 >>> ((32 : Int32) &&& 0x3f).toInt64.toUInt64).toInt64)) &&& (4294967295 : Int64)) * (2654435769 : Int64))) + (((((p0s.toUInt64 >>> ((32 : Int32) &&& 0x3f).toInt64.toUInt64).toInt64) ^^^ p1s) &&& (4294967295 : Int64)) * (2135587861 : Int64))) &&& (4294967295 : Int64))), .second] [])) _
      refine XS.lload X6.here hx rfl (hb hby at_74) rfl ?_
      show Steps p.tables e below (T6.setTop (mkF m 76 #[.val (.long p0s), .second, .val (.long p1s), .second, .val (.long (own_home p0s p1s)), .second, .val (.long ((p0s ^^^ ((p1s.toUInt64 >>> ((32 : Int32) &&& 0x3f).toInt64.toUInt64).toInt64)) &&& (4294967295 : Int64))), .second, .val (.long ((((p0s.toUInt64 >>> ((32 : Int32) &&& 0x3f).toInt64.toUInt64).toInt64) ^^^ p1s) &&& (4294967295 : Int64))), .second, .val (.long (2135587861 : Int64)), .second, .val (.long (2654435769 : Int64)), .second, .val (.long ((((((((p0s ^^^ ((p1s.toUInt64 >>> ((32 : Int32) &&& 0x3f).toInt64.toUInt64).toInt64)) &&& (4294967295 : Int64)) * (2135587861 : Int64)).toUInt64 >>> ((32 : Int32) &&& 0x3f).toInt64.toUInt64).toInt64) + (((p0s ^^^ ((p1s.toUInt64 >>> ((32 : Int32) &&& 0x3f).toInt64.toUInt64).toInt64)) &&& (4294967295 : Int64)) * (2654435769 : Int64))) + (((((p0s.toUInt64 >>> ((32 : Int32) &&& 0x3f).toInt64.toUInt64).toInt64) ^^^ p1s) &&& (4294967295 : Int64)) * (2135587861 : Int64))) &&& (4294967295 : Int64))), .second] [(.long (own_home p0s p1s))])) _
      refine X6.ldc2J hx hown (mvT hZ (hw _ (List.mem_of_getElem? (i := 9) rfl))) rfl (hb hby at_76) ?_
      show Steps p.tables e below (T6.setTop (mkF m 79 #[.val (.long p0s), .second, .val (.long p1s), .second, .val (.long (own_home p0s p1s)), .second, .val (.long ((p0s ^^^ ((p1s.toUInt64 >>> ((32 : Int32) &&& 0x3f).toInt64.toUInt64).toInt64)) &&& (4294967295 : Int64))), .second, .val (.long ((((p0s.toUInt64 >>> ((32 : Int32) &&& 0x3f).toInt64.toUInt64).toInt64) ^^^ p1s) &&& (4294967295 : Int64))), .second, .val (.long (2135587861 : Int64)), .second, .val (.long (2654435769 : Int64)), .second, .val (.long ((((((((p0s ^^^ ((p1s.toUInt64 >>> ((32 : Int32) &&& 0x3f).toInt64.toUInt64).toInt64)) &&& (4294967295 : Int64)) * (2135587861 : Int64)).toUInt64 >>> ((32 : Int32) &&& 0x3f).toInt64.toUInt64).toInt64) + (((p0s ^^^ ((p1s.toUInt64 >>> ((32 : Int32) &&& 0x3f).toInt64.toUInt64).toInt64)) &&& (4294967295 : Int64)) * (2654435769 : Int64))) + (((((p0s.toUInt64 >>> ((32 : Int32) &&& 0x3f).toInt64.toUInt64).toInt64) ^^^ p1s) &&& (4294967295 : Int64)) * (2135587861 : Int64))) &&& (4294967295 : Int64))), .second] [(.long (4294967295 : Int64)), (.long (own_home p0s p1s))])) _
      refine XS.lcmp X6.here hx rfl (hb hby at_79) rfl ?_
      exact kg_
    have hc9 : ¬ ((4294967295 : Int64) < (own_home p0s p1s)) := (fun q => by have := own_lt64 q; have := own_homeR p0s p1s; have : (4294967295 : Int64).toInt = 4294967295 := (by decide); omega)
    have r12 : own_R p.tables e below F0 (T6.setTop (mkF m 88 #[.val (.long p0s), .second, .val (.long p1s), .second, .val (.long (own_home p0s p1s)), .second, .val (.long ((p0s ^^^ ((p1s.toUInt64 >>> ((32 : Int32) &&& 0x3f).toInt64.toUInt64).toInt64)) &&& (4294967295 : Int64))), .second, .val (.long ((((p0s.toUInt64 >>> ((32 : Int32) &&& 0x3f).toInt64.toUInt64).toInt64) ^^^ p1s) &&& (4294967295 : Int64))), .second, .val (.long (2135587861 : Int64)), .second, .val (.long (2654435769 : Int64)), .second, .val (.long ((((((((p0s ^^^ ((p1s.toUInt64 >>> ((32 : Int32) &&& 0x3f).toInt64.toUInt64).toInt64)) &&& (4294967295 : Int64)) * (2135587861 : Int64)).toUInt64 >>> ((32 : Int32) &&& 0x3f).toInt64.toUInt64).toInt64) + (((p0s ^^^ ((p1s.toUInt64 >>> ((32 : Int32) &&& 0x3f).toInt64.toUInt64).toInt64)) &&& (4294967295 : Int64)) * (2654435769 : Int64))) + (((((p0s.toUInt64 >>> ((32 : Int32) &&& 0x3f).toInt64.toUInt64).toInt64) ^^^ p1s) &&& (4294967295 : Int64)) * (2135587861 : Int64))) &&& (4294967295 : Int64))), .second] [(.int (lcmpW (own_home p0s p1s) ((((((((p0s ^^^ ((p1s.toUInt64 >>> ((32 : Int32) &&& 0x3f).toInt64.toUInt64).toInt64)) &&& (4294967295 : Int64)) * (2135587861 : Int64)).toUInt64 >>> ((32 : Int32) &&& 0x3f).toInt64.toUInt64).toInt64) + (((p0s ^^^ ((p1s.toUInt64 >>> ((32 : Int32) &&& 0x3f).toInt64.toUInt64).toInt64)) &&& (4294967295 : Int64)) * (2654435769 : Int64))) + (((((p0s.toUInt64 >>> ((32 : Int32) &&& 0x3f).toInt64.toUInt64).toInt64) ^^^ p1s) &&& (4294967295 : Int64)) * (2135587861 : Int64))) &&& (4294967295 : Int64))))])) := fun tg_ kg_ => by
      refine r10 tg_ ?_
      show Steps p.tables e below (T6.setTop (mkF m 80 #[.val (.long p0s), .second, .val (.long p1s), .second, .val (.long (own_home p0s p1s)), .second, .val (.long ((p0s ^^^ ((p1s.toUInt64 >>> ((32 : Int32) &&& 0x3f).toInt64.toUInt64).toInt64)) &&& (4294967295 : Int64))), .second, .val (.long ((((p0s.toUInt64 >>> ((32 : Int32) &&& 0x3f).toInt64.toUInt64).toInt64) ^^^ p1s) &&& (4294967295 : Int64))), .second, .val (.long (2135587861 : Int64)), .second, .val (.long (2654435769 : Int64)), .second, .val (.long ((((((((p0s ^^^ ((p1s.toUInt64 >>> ((32 : Int32) &&& 0x3f).toInt64.toUInt64).toInt64)) &&& (4294967295 : Int64)) * (2135587861 : Int64)).toUInt64 >>> ((32 : Int32) &&& 0x3f).toInt64.toUInt64).toInt64) + (((p0s ^^^ ((p1s.toUInt64 >>> ((32 : Int32) &&& 0x3f).toInt64.toUInt64).toInt64)) &&& (4294967295 : Int64)) * (2654435769 : Int64))) + (((((p0s.toUInt64 >>> ((32 : Int32) &&& 0x3f).toInt64.toUInt64).toInt64) ^^^ p1s) &&& (4294967295 : Int64)) * (2135587861 : Int64))) &&& (4294967295 : Int64))), .second] [(.int (lcmpW (own_home p0s p1s) (4294967295 : Int64)))])) _
      refine XS.ifNo X6.here hx rfl (hb hby at_80) rfl (own_l_ngt hc9).1 ?_
      show Steps p.tables e below (T6.setTop (mkF m 83 #[.val (.long p0s), .second, .val (.long p1s), .second, .val (.long (own_home p0s p1s)), .second, .val (.long ((p0s ^^^ ((p1s.toUInt64 >>> ((32 : Int32) &&& 0x3f).toInt64.toUInt64).toInt64)) &&& (4294967295 : Int64))), .second, .val (.long ((((p0s.toUInt64 >>> ((32 : Int32) &&& 0x3f).toInt64.toUInt64).toInt64) ^^^ p1s) &&& (4294967295 : Int64))), .second, .val (.long (2135587861 : Int64)), .second, .val (.long (2654435769 : Int64)), .second, .val (.long ((((((((p0s ^^^ ((p1s.toUInt64 >>> ((32 : Int32) &&& 0x3f).toInt64.toUInt64).toInt64)) &&& (4294967295 : Int64)) * (2135587861 : Int64)).toUInt64 >>> ((32 : Int32) &&& 0x3f).toInt64.toUInt64).toInt64) + (((p0s ^^^ ((p1s.toUInt64 >>> ((32 : Int32) &&& 0x3f).toInt64.toUInt64).toInt64)) &&& (4294967295 : Int64)) * (2654435769 : Int64))) + (((((p0s.toUInt64 >>> ((32 : Int32) &&& 0x3f).toInt64.toUInt64).toInt64) ^^^ p1s) &&& (4294967295 : Int64)) * (2135587861 : Int64))) &&& (4294967295 : Int64))), .second] [])) _
      refine XS.lload X6.here hx rfl (hb hby at_83) rfl ?_
      show Steps p.tables e below (T6.setTop (mkF m 85 #[.val (.long p0s), .second, .val (.long p1s), .second, .val (.long (own_home p0s p1s)), .second, .val (.long ((p0s ^^^ ((p1s.toUInt64 >>> ((32 : Int32) &&& 0x3f).toInt64.toUInt64).toInt64)) &&& (4294967295 : Int64))), .second, .val (.long ((((p0s.toUInt64 >>> ((32 : Int32) &&& 0x3f).toInt64.toUInt64).toInt64) ^^^ p1s) &&& (4294967295 : Int64))), .second, .val (.long (2135587861 : Int64)), .second, .val (.long (2654435769 : Int64)), .second, .val (.long ((((((((p0s ^^^ ((p1s.toUInt64 >>> ((32 : Int32) &&& 0x3f).toInt64.toUInt64).toInt64)) &&& (4294967295 : Int64)) * (2135587861 : Int64)).toUInt64 >>> ((32 : Int32) &&& 0x3f).toInt64.toUInt64).toInt64) + (((p0s ^^^ ((p1s.toUInt64 >>> ((32 : Int32) &&& 0x3f).toInt64.toUInt64).toInt64)) &&& (4294967295 : Int64)) * (2654435769 : Int64))) + (((((p0s.toUInt64 >>> ((32 : Int32) &&& 0x3f).toInt64.toUInt64).toInt64) ^^^ p1s) &&& (4294967295 : Int64)) * (2135587861 : Int64))) &&& (4294967295 : Int64))), .second] [(.long (own_home p0s p1s))])) _
      refine XS.lload X6.here hx rfl (hb hby at_85) rfl ?_
      show Steps p.tables e below (T6.setTop (mkF m 87 #[.val (.long p0s), .second, .val (.long p1s), .second, .val (.long (own_home p0s p1s)), .second, .val (.long ((p0s ^^^ ((p1s.toUInt64 >>> ((32 : Int32) &&& 0x3f).toInt64.toUInt64).toInt64)) &&& (4294967295 : Int64))), .second, .val (.long ((((p0s.toUInt64 >>> ((32 : Int32) &&& 0x3f).toInt64.toUInt64).toInt64) ^^^ p1s) &&& (4294967295 : Int64))), .second, .val (.long (2135587861 : Int64)), .second, .val (.long (2654435769 : Int64)), .second, .val (.long ((((((((p0s ^^^ ((p1s.toUInt64 >>> ((32 : Int32) &&& 0x3f).toInt64.toUInt64).toInt64)) &&& (4294967295 : Int64)) * (2135587861 : Int64)).toUInt64 >>> ((32 : Int32) &&& 0x3f).toInt64.toUInt64).toInt64) + (((p0s ^^^ ((p1s.toUInt64 >>> ((32 : Int32) &&& 0x3f).toInt64.toUInt64).toInt64)) &&& (4294967295 : Int64)) * (2654435769 : Int64))) + (((((p0s.toUInt64 >>> ((32 : Int32) &&& 0x3f).toInt64.toUInt64).toInt64) ^^^ p1s) &&& (4294967295 : Int64)) * (2135587861 : Int64))) &&& (4294967295 : Int64))), .second] [(.long ((((((((p0s ^^^ ((p1s.toUInt64 >>> ((32 : Int32) &&& 0x3f).toInt64.toUInt64).toInt64)) &&& (4294967295 : Int64)) * (2135587861 : Int64)).toUInt64 >>> ((32 : Int32) &&& 0x3f).toInt64.toUInt64).toInt64) + (((p0s ^^^ ((p1s.toUInt64 >>> ((32 : Int32) &&& 0x3f).toInt64.toUInt64).toInt64)) &&& (4294967295 : Int64)) * (2654435769 : Int64))) + (((((p0s.toUInt64 >>> ((32 : Int32) &&& 0x3f).toInt64.toUInt64).toInt64) ^^^ p1s) &&& (4294967295 : Int64)) * (2135587861 : Int64))) &&& (4294967295 : Int64))), (.long (own_home p0s p1s))])) _
      refine XS.lcmp X6.here hx rfl (hb hby at_87) rfl ?_
      exact kg_
    have hc11 : (own_home p0s p1s) = ((((((((p0s ^^^ ((p1s.toUInt64 >>> ((32 : Int32) &&& 0x3f).toInt64.toUInt64).toInt64)) &&& (4294967295 : Int64)) * (2135587861 : Int64)).toUInt64 >>> ((32 : Int32) &&& 0x3f).toInt64.toUInt64).toInt64) + (((p0s ^^^ ((p1s.toUInt64 >>> ((32 : Int32) &&& 0x3f).toInt64.toUInt64).toInt64)) &&& (4294967295 : Int64)) * (2654435769 : Int64))) + (((((p0s.toUInt64 >>> ((32 : Int32) &&& 0x3f).toInt64.toUInt64).toInt64) ^^^ p1s) &&& (4294967295 : Int64)) * (2135587861 : Int64))) &&& (4294967295 : Int64)) := own_homeEq p0s p1s
    have r13 : own_R p.tables e below F0 (T6.setTop (mkF m 96 #[.val (.long p0s), .second, .val (.long p1s), .second, .val (.long (own_home p0s p1s)), .second, .val (.long ((p0s ^^^ ((p1s.toUInt64 >>> ((32 : Int32) &&& 0x3f).toInt64.toUInt64).toInt64)) &&& (4294967295 : Int64))), .second, .val (.long ((((p0s.toUInt64 >>> ((32 : Int32) &&& 0x3f).toInt64.toUInt64).toInt64) ^^^ p1s) &&& (4294967295 : Int64))), .second, .val (.long (2135587861 : Int64)), .second, .val (.long (2654435769 : Int64)), .second, .val (.long ((((((((p0s ^^^ ((p1s.toUInt64 >>> ((32 : Int32) &&& 0x3f).toInt64.toUInt64).toInt64)) &&& (4294967295 : Int64)) * (2135587861 : Int64)).toUInt64 >>> ((32 : Int32) &&& 0x3f).toInt64.toUInt64).toInt64) + (((p0s ^^^ ((p1s.toUInt64 >>> ((32 : Int32) &&& 0x3f).toInt64.toUInt64).toInt64)) &&& (4294967295 : Int64)) * (2654435769 : Int64))) + (((((p0s.toUInt64 >>> ((32 : Int32) &&& 0x3f).toInt64.toUInt64).toInt64) ^^^ p1s) &&& (4294967295 : Int64)) * (2135587861 : Int64))) &&& (4294967295 : Int64))), .second] [(.int (1 : Int32))])) := fun tg_ kg_ => by
      refine r12 tg_ ?_
      show Steps p.tables e below (T6.setTop (mkF m 88 #[.val (.long p0s), .second, .val (.long p1s), .second, .val (.long (own_home p0s p1s)), .second, .val (.long ((p0s ^^^ ((p1s.toUInt64 >>> ((32 : Int32) &&& 0x3f).toInt64.toUInt64).toInt64)) &&& (4294967295 : Int64))), .second, .val (.long ((((p0s.toUInt64 >>> ((32 : Int32) &&& 0x3f).toInt64.toUInt64).toInt64) ^^^ p1s) &&& (4294967295 : Int64))), .second, .val (.long (2135587861 : Int64)), .second, .val (.long (2654435769 : Int64)), .second, .val (.long ((((((((p0s ^^^ ((p1s.toUInt64 >>> ((32 : Int32) &&& 0x3f).toInt64.toUInt64).toInt64)) &&& (4294967295 : Int64)) * (2135587861 : Int64)).toUInt64 >>> ((32 : Int32) &&& 0x3f).toInt64.toUInt64).toInt64) + (((p0s ^^^ ((p1s.toUInt64 >>> ((32 : Int32) &&& 0x3f).toInt64.toUInt64).toInt64)) &&& (4294967295 : Int64)) * (2654435769 : Int64))) + (((((p0s.toUInt64 >>> ((32 : Int32) &&& 0x3f).toInt64.toUInt64).toInt64) ^^^ p1s) &&& (4294967295 : Int64)) * (2135587861 : Int64))) &&& (4294967295 : Int64))), .second] [(.int (lcmpW (own_home p0s p1s) ((((((((p0s ^^^ ((p1s.toUInt64 >>> ((32 : Int32) &&& 0x3f).toInt64.toUInt64).toInt64)) &&& (4294967295 : Int64)) * (2135587861 : Int64)).toUInt64 >>> ((32 : Int32) &&& 0x3f).toInt64.toUInt64).toInt64) + (((p0s ^^^ ((p1s.toUInt64 >>> ((32 : Int32) &&& 0x3f).toInt64.toUInt64).toInt64)) &&& (4294967295 : Int64)) * (2654435769 : Int64))) + (((((p0s.toUInt64 >>> ((32 : Int32) &&& 0x3f).toInt64.toUInt64).toInt64) ^^^ p1s) &&& (4294967295 : Int64)) * (2135587861 : Int64))) &&& (4294967295 : Int64))))])) _
      refine XS.ifNo X6.here hx rfl (hb hby at_88) rfl (own_l_eq hc11).2 ?_
      show Steps p.tables e below (T6.setTop (mkF m 91 #[.val (.long p0s), .second, .val (.long p1s), .second, .val (.long (own_home p0s p1s)), .second, .val (.long ((p0s ^^^ ((p1s.toUInt64 >>> ((32 : Int32) &&& 0x3f).toInt64.toUInt64).toInt64)) &&& (4294967295 : Int64))), .second, .val (.long ((((p0s.toUInt64 >>> ((32 : Int32) &&& 0x3f).toInt64.toUInt64).toInt64) ^^^ p1s) &&& (4294967295 : Int64))), .second, .val (.long (2135587861 : Int64)), .second, .val (.long (2654435769 : Int64)), .second, .val (.long ((((((((p0s ^^^ ((p1s.toUInt64 >>> ((32 : Int32) &&& 0x3f).toInt64.toUInt64).toInt64)) &&& (4294967295 : Int64)) * (2135587861 : Int64)).toUInt64 >>> ((32 : Int32) &&& 0x3f).toInt64.toUInt64).toInt64) + (((p0s ^^^ ((p1s.toUInt64 >>> ((32 : Int32) &&& 0x3f).toInt64.toUInt64).toInt64)) &&& (4294967295 : Int64)) * (2654435769 : Int64))) + (((((p0s.toUInt64 >>> ((32 : Int32) &&& 0x3f).toInt64.toUInt64).toInt64) ^^^ p1s) &&& (4294967295 : Int64)) * (2135587861 : Int64))) &&& (4294967295 : Int64))), .second] [])) _
      refine XS.iconst X6.here hx rfl (hb hby at_91) ?_
      show Steps p.tables e below (T6.setTop (mkF m 92 #[.val (.long p0s), .second, .val (.long p1s), .second, .val (.long (own_home p0s p1s)), .second, .val (.long ((p0s ^^^ ((p1s.toUInt64 >>> ((32 : Int32) &&& 0x3f).toInt64.toUInt64).toInt64)) &&& (4294967295 : Int64))), .second, .val (.long ((((p0s.toUInt64 >>> ((32 : Int32) &&& 0x3f).toInt64.toUInt64).toInt64) ^^^ p1s) &&& (4294967295 : Int64))), .second, .val (.long (2135587861 : Int64)), .second, .val (.long (2654435769 : Int64)), .second, .val (.long ((((((((p0s ^^^ ((p1s.toUInt64 >>> ((32 : Int32) &&& 0x3f).toInt64.toUInt64).toInt64)) &&& (4294967295 : Int64)) * (2135587861 : Int64)).toUInt64 >>> ((32 : Int32) &&& 0x3f).toInt64.toUInt64).toInt64) + (((p0s ^^^ ((p1s.toUInt64 >>> ((32 : Int32) &&& 0x3f).toInt64.toUInt64).toInt64)) &&& (4294967295 : Int64)) * (2654435769 : Int64))) + (((((p0s.toUInt64 >>> ((32 : Int32) &&& 0x3f).toInt64.toUInt64).toInt64) ^^^ p1s) &&& (4294967295 : Int64)) * (2135587861 : Int64))) &&& (4294967295 : Int64))), .second] [(.int (1 : Int32))])) _
      refine XS.goto X6.here hx rfl (pc0 := 92) (pc' := 96) rfl (hb hby at_92) (by decide) (by decide) ?_
      exact kg_
    refine hG (own_fin X6 hlk (some (.int (nar .boolean (1 : Int32)))) (own_hv Bd.returns) ?_ (by decide) (by decide) (fun fs hr => r13 _ (retN X6 hx (t := .boolean) Bd.returns (by simp) (hb hby at_96) hr)))
    rw [I6_0]
    exact ⟨rfl, N6⟩
  exact key _ _ id (fun t k => castTop (ef_0 m p0s p1s) k)
set_option maxRecDepth 65536 in
set_option maxHeartbeats 40000000 in
theorem comes_1 {Post : Tables → Env → Array Value → State → Outcome → State → Prop} (hpost : ∀ tb e args s v u, (limb_1_1.after args s (.returned v) u = true ∧ limb_1_2.after args s (.returned v) u = true ∧ True) → FrameEnd s (.returned v) u (Jvm.fieldLocs frame_1_writes args s ++ Jvm.arrayLocs frame_1_arrays args s ++ Jvm.staticLocs frame_1_statics s) 0 0 → Post tb e args s (.returned v) u) :
    ArmFor flags0 classFile x code maxLocals ret World_1 tables_1 room_1 Calls_1 rest_1 Pre_1 Post := by
  intro l hfl _ _ p e ha hc hk s m args below hf hA hF happ hP
  obtain ⟨hcalls, hrest, hpre⟩ := hP
  obtain ⟨-, -, -, hnamed, -, -, -, hat⟩ := (Spec.applies_iff hf).mp happ
  obtain ⟨hg, hn⟩ := and_e (Cond.before_iff.mp (show (Jvm.Cond.and given_1 narrow_1).before args s = true from hpre))
  obtain ⟨gw1, gw2⟩ := and_e hg
  obtain ⟨gw3, gw4⟩ := and_e gw2
  obtain ⟨w0, w1, rfl⟩ : ∃ w0 w1 : Value, args = #[w0, w1] := by
    have hs : args.size = 2 := by simpa [Cond.value, given_1] using gw1
    obtain ⟨L⟩ := args
    match L, hs with
    | [w0, w1], _ => exact ⟨w0, w1, rfl⟩
  have hw := fun d (hd : d ∈ tables_1) => atoms_spec (ws := Jvm.Cond.code x code maxLocals ret :: tables_1) hat d (List.mem_cons_of_mem _ hd)
  have hfit : Fit s := fun {y c} hc i hi => by
    obtain ⟨ha, rfl⟩ := Array.getElem?_eq_some_iff.mp hc
    have q := List.all_eq_true.mp ((Array.all_eq_true_iff_forall_mem.mp hF) _ (Array.getElem_mem ha)) i (List.mem_range.mpr hi)
    simpa [Array.getElem?_eq_getElem hi] using q
  obtain ⟨i0, ei0⟩ := isL_v gw3
  obtain rfl : w0 = (.long i0) := Option.some.inj ei0
  obtain ⟨i1, ei1⟩ := isL_v gw4
  obtain rfl : w1 = (.long i1) := Option.some.inj ei1
  obtain ⟨n, o, h1, h2, h3, _, L, rfl, ⟨rfl, N⟩, hq⟩ := rm0 l s _ hw tables_1 i0 i1  s.heap s.heap.size (Nat.le_refl _)  p e ha hc hk s m _ below hf ((Spec.applies_iff_loose hf).mp happ).1 ⟨rfl, State.Warmed39.refl s, rfl⟩ trivial
  refine ⟨n, _, h1, h2, h3, hpost _ _ _ _ _ _ ⟨Cond.after_iff.mpr rfl, Cond.after_iff.mpr (eq_i res_at (Term.int_eval (1)) rfl), trivial⟩ ⟨hq.1, hq.2.1, (hq.2.2.sift fun y hy => Or.inr (N y hy)).mono (by decide) (by decide)⟩⟩
theorem main_1_1 : Claimed_1_1 := comes_1 fun _ _ _ _ _ _ h hF => ⟨h.1, hF⟩
theorem main_1_2 : Claimed_1_2 := comes_1 fun _ _ _ _ _ _ h hF => ⟨h.2.1, hF⟩
end Jvm.Pilot.@@N@@
namespace Jvm.Pilot.@@N@@
open Jvm Jvm.ClassFile Sem Op Lib Jvm.Free Jvm.Stand Jvm.Pilot.@@N@@.Jvm.D
/-! MADE BY PROGRAM (witnessworld.py) out of the Statement's table words and the real class files: 14 classes; the members and pool entries that the words name. The judged class is class 1, her method 1. -/
namespace start1
open Jvm.ClassFile
def u (s : String) : CpInfo := .utf8 (stringToUtf16 s)
/-- a pool by its gaps: so many unusable entries, then the entry; so many at the end -/
def gap : Nat → List CpInfo → List CpInfo
  | 0, r => r
  | n + 1, r => .unusable :: gap n r
def poolList (es : List (Nat × CpInfo)) (last : Nat) : List CpInfo := es.foldr (fun e r => gap e.1 (e.2 :: r)) (gap last [])
def pool (es : List (Nat × CpInfo)) (last : Nat) : Array CpInfo := ⟨poolList es last⟩
def fileOf (pool : Array CpInfo) (this : Nat) (attrs : Array Attribute := #[]) (ms : Array MethodInfo := #[]) (fl : Nat := 33) (sup : Nat := 0) (ifs : Array Nat := #[]) (fds : Array FieldInfo := #[]) : ClassFile where
  minorVersion := 0
  majorVersion := 65
  constantPool := pool
  accessFlags := fl
  thisClass := this
  superClass := sup
  interfaces := ifs
  fields := fds
  methods := ms
  attributes := attrs
def plain (name : String) (sup : Option ClassId) : Class where
  name := name
  kind := .ordinary
  loader := none
  accessFlags := 33
  super := sup
  interfaces := #[]
  cf := none
  fields := #[]
  methods := #[]
  instanceTypes := #[]
  staticTypes := #[]
  resolved := #[]
  callSites := []
  init := .initialized
  statics := none
  mirror := none

def pool0 : Array CpInfo := pool [(5, u "<init>"), (0, u "()V"), (1, .class_ 10), (1, u "java/lang/Object")] 113

def k0m0 : Method := { name := "<init>", desc := "()V", sig := { parameters := [], returnType := none }, accessFlags := 1, code := none }
/-- java/lang/Object -/
def k0 : Class := { plain "java/lang/Object" none with
  accessFlags := 33
  interfaces := #[]
  cf := some (fileOf pool0 8 #[] #[{ accessFlags := 1, nameIndex := 5, descriptorIndex := 6, attributes := #[] }] 33 0 #[] #[])
  fields := #[]
  methods := #[k0m0]
  instanceTypes := #[]
  staticTypes := #[]
  resolved := Array.replicate 124 none
  statics := none }

def pool1 : Array CpInfo := pool [(2, .class_ 4), (1, u "java/lang/Object"), (0, u "<init>"), (0, u "()V"), (0, .methodref 8 9), (0, .class_ 10), (0, .nameAndType 11 12), (0, u "com/example/reissue/reissue/storage/SlotTable"), (0, u "home"), (0, u "(JJ)J"), (0, .long 4294967295), (1, .long 2135587861), (1, .long 2654435769), (1, .class_ 20), (0, u "com/example/reissue/reissue/storage/SlotTableHomePinLaw"), (2, u "law"), (0, u "(JJ)Z")] 3

def k1m0 : Method := { name := "<init>", desc := "()V", sig := { parameters := [], returnType := none }, accessFlags := 2, code := none }
def k1c1 : Code := { maxStack := 6, maxLocals := 16, code := code, exceptionTable := #[], attributes := #[] }
def k1m1 : Method := { name := "law", desc := "(JJ)Z", sig := { parameters := [.long, .long], returnType := some .boolean }, accessFlags := 9, code := some k1c1 }
/-- com/example/reissue/reissue/storage/SlotTableHomePinLaw -/
def k1 : Class := { plain "com/example/reissue/reissue/storage/SlotTableHomePinLaw" (some 0) with
  accessFlags := 49
  interfaces := #[]
  cf := some (fileOf pool1 19 #[] #[{ accessFlags := 2, nameIndex := 5, descriptorIndex := 6, attributes := #[] }, { accessFlags := 9, nameIndex := 23, descriptorIndex := 24, attributes := #[] }] 49 2 #[] #[])
  fields := #[]
  methods := #[k1m0, k1m1]
  instanceTypes := #[]
  staticTypes := #[]
  resolved := Array.replicate 28 none
  statics := none }

def pool2 : Array CpInfo := pool [(2, .class_ 4), (1, u "java/lang/Object"), (3, .class_ 10), (1, u "com/example/reissue/reissue/storage/SlotTable"), (0, u "area"), (0, u "Lcom/example/reissue/reissue/storage/LongArea;"), (2, u "stride"), (0, u "I"), (2, u "generations"), (7, .class_ 29), (1, u "java/lang/Long"), (11, u "mask"), (0, u "J"), (0, .methodref 27 44), (0, .nameAndType 45 46), (0, u "rotateLeft"), (0, u "(JI)J"), (0, .long 11400714819323198485), (36, u "(JJ)J"), (20, u "home")] 11

def k2c0 : Code := { maxStack := 5, maxLocals := 6, code := prog_58_method_3_code, exceptionTable := #[], attributes := #[] }
def k2m0 : Method := { name := "home", desc := "(JJ)J", sig := { parameters := [.long, .long], returnType := some .long }, accessFlags := 9, code := some k2c0 }
/-- com/example/reissue/reissue/storage/SlotTable -/
def k2 : Class := { plain "com/example/reissue/reissue/storage/SlotTable" (some 0) with
  accessFlags := 49
  interfaces := #[]
  cf := some (fileOf pool2 8 #[] #[{ accessFlags := 9, nameIndex := 105, descriptorIndex := 84, attributes := #[] }] 49 2 #[] #[{ accessFlags := 18, nameIndex := 11, descriptorIndex := 12, attributes := #[] }, { accessFlags := 18, nameIndex := 15, descriptorIndex := 16, attributes := #[] }, { accessFlags := 18, nameIndex := 19, descriptorIndex := 16, attributes := #[] }, { accessFlags := 18, nameIndex := 41, descriptorIndex := 42, attributes := #[] }])
  fields := #[{ name := "area", type := (.object "com/example/reissue/reissue/storage/LongArea"), accessFlags := 18, slot := 0, constantValue := 0 }, { name := "stride", type := .int, accessFlags := 18, slot := 1, constantValue := 0 }, { name := "generations", type := .int, accessFlags := 18, slot := 2, constantValue := 0 }, { name := "mask", type := .long, accessFlags := 18, slot := 3, constantValue := 0 }]
  methods := #[k2m0]
  instanceTypes := #[(.object "com/example/reissue/reissue/storage/LongArea"), .int, .int, .long]
  staticTypes := #[]
  resolved := Array.replicate 117 none
  statics := none }

def pool3 : Array CpInfo := pool [(1, .class_ 2), (0, u "java/io/Serializable"), (0, .class_ 4), (0, u "java/lang/Object")] 2

/-- java/io/Serializable -/
def k3 : Class := { plain "java/io/Serializable" (some 0) with
  accessFlags := 1537
  interfaces := #[]
  cf := some (fileOf pool3 1 #[] #[] 1537 3 #[] #[])
  fields := #[]
  methods := #[]
  instanceTypes := #[]
  staticTypes := #[]
  resolved := Array.replicate 7 none
  statics := none }

def pool4 : Array CpInfo := pool [(2, .class_ 4), (1, u "java/lang/Object"), (0, u "<init>"), (0, u "()V"), (1, .class_ 10), (1, u "java/lang/Number"), (2, .class_ 14), (0, u "java/io/Serializable"), (0, u "serialVersionUID"), (0, u "J")] 20

def k4m0 : Method := { name := "<init>", desc := "()V", sig := { parameters := [], returnType := none }, accessFlags := 1, code := none }
/-- java/lang/Number -/
def k4 : Class := { plain "java/lang/Number" (some 0) with
  accessFlags := 1057
  interfaces := #[3]
  cf := some (fileOf pool4 8 #[] #[{ accessFlags := 1, nameIndex := 5, descriptorIndex := 6, attributes := #[] }] 1057 2 #[13] #[{ accessFlags := 26, nameIndex := 15, descriptorIndex := 16, attributes := #[] }])
  fields := #[{ name := "serialVersionUID", type := .long, accessFlags := 26, slot := 0, constantValue := 0 }]
  methods := #[k4m0]
  instanceTypes := #[]
  staticTypes := #[.long]
  resolved := Array.replicate 37 none
  statics := none }

def pool5 : Array CpInfo := pool [(1, .class_ 2), (0, u "java/lang/Comparable"), (0, .class_ 4), (0, u "java/lang/Object")] 7

/-- java/lang/Comparable -/
def k5 : Class := { plain "java/lang/Comparable" (some 0) with
  accessFlags := 1537
  interfaces := #[]
  cf := some (fileOf pool5 1 #[] #[] 1537 3 #[] #[])
  fields := #[]
  methods := #[]
  instanceTypes := #[]
  staticTypes := #[]
  resolved := Array.replicate 12 none
  statics := none }

def pool6 : Array CpInfo := pool [(1, .class_ 2), (0, u "java/lang/constant/Constable"), (0, .class_ 4), (0, u "java/lang/Object")] 6

/-- java/lang/constant/Constable -/
def k6 : Class := { plain "java/lang/constant/Constable" (some 0) with
  accessFlags := 1537
  interfaces := #[]
  cf := some (fileOf pool6 1 #[] #[] 1537 3 #[] #[])
  fields := #[]
  methods := #[]
  instanceTypes := #[]
  staticTypes := #[]
  resolved := Array.replicate 11 none
  statics := none }

def pool7 : Array CpInfo := pool [(1, .class_ 2), (0, u "java/lang/constant/ConstantDesc"), (0, .class_ 4), (0, u "java/lang/Object")] 32

/-- java/lang/constant/ConstantDesc -/
def k7 : Class := { plain "java/lang/constant/ConstantDesc" (some 0) with
  accessFlags := 1537
  interfaces := #[]
  cf := some (fileOf pool7 1 #[] #[] 1537 3 #[] #[])
  fields := #[]
  methods := #[]
  instanceTypes := #[]
  staticTypes := #[]
  resolved := Array.replicate 37 none
  statics := none }

def pool8 : Array CpInfo := pool [(1, .class_ 2), (0, u "java/lang/Long"), (232, .class_ 237), (1, u "java/lang/Long$LongCache"), (33, .class_ 272), (0, u "java/lang/Number"), (2, u "value"), (0, u "J"), (84, u "TYPE"), (0, u "Ljava/lang/Class;"), (0, .class_ 364), (0, u "java/lang/Comparable"), (0, .class_ 366), (0, u "java/lang/constant/Constable"), (0, .class_ 368), (0, u "java/lang/constant/ConstantDesc"), (0, u "MIN_VALUE"), (1, u "MAX_VALUE"), (4, u "SIZE"), (0, u "I"), (1, u "BYTES"), (1, u "serialVersionUID"), (95, u "rotateLeft"), (0, u "(JI)J")] 45

def k8c0 : Code := { maxStack := 5, maxLocals := 3, code := jdk_35_method_51_code, exceptionTable := #[], attributes := #[] }
def k8m0 : Method := { name := "rotateLeft", desc := "(JI)J", sig := { parameters := [.long, .int], returnType := some .long }, accessFlags := 9, code := some k8c0 }
/-- java/lang/Long -/
def k8 : Class := { plain "java/lang/Long" (some 4) with
  accessFlags := 49
  interfaces := #[5, 6, 7]
  cf := some (fileOf pool8 1 #[.nestMembers #[235]] #[{ accessFlags := 9, nameIndex := 477, descriptorIndex := 478, attributes := #[] }] 49 271 #[363, 365, 367] #[{ accessFlags := 25, nameIndex := 369, descriptorIndex := 276, attributes := #[] }, { accessFlags := 25, nameIndex := 371, descriptorIndex := 276, attributes := #[] }, { accessFlags := 25, nameIndex := 361, descriptorIndex := 362, attributes := #[] }, { accessFlags := 18, nameIndex := 275, descriptorIndex := 276, attributes := #[] }, { accessFlags := 25, nameIndex := 376, descriptorIndex := 377, attributes := #[] }, { accessFlags := 25, nameIndex := 379, descriptorIndex := 377, attributes := #[] }, { accessFlags := 26, nameIndex := 381, descriptorIndex := 276, attributes := #[] }])
  fields := #[{ name := "MIN_VALUE", type := .long, accessFlags := 25, slot := 0, constantValue := 0 }, { name := "MAX_VALUE", type := .long, accessFlags := 25, slot := 1, constantValue := 0 }, { name := "TYPE", type := (.object "java/lang/Class"), accessFlags := 25, slot := 2, constantValue := 0 }, { name := "value", type := .long, accessFlags := 18, slot := 0, constantValue := 0 }, { name := "SIZE", type := .int, accessFlags := 25, slot := 3, constantValue := 0 }, { name := "BYTES", type := .int, accessFlags := 25, slot := 4, constantValue := 0 }, { name := "serialVersionUID", type := .long, accessFlags := 26, slot := 5, constantValue := 0 }]
  methods := #[k8m0]
  instanceTypes := #[.long]
  staticTypes := #[.long, .long, (.object "java/lang/Class"), .int, .int, .long]
  resolved := Array.replicate 524 none
  statics := none }

def pool9 : Array CpInfo := pool [(1, u "java/lang/Cloneable"), (0, .class_ 1), (0, u "java/lang/Object"), (0, .class_ 3)] 3

/-- java/lang/Cloneable -/
def k9 : Class := { plain "java/lang/Cloneable" (some 0) with
  accessFlags := 1537
  interfaces := #[]
  cf := some (fileOf pool9 2 #[] #[] 1537 4 #[] #[])
  fields := #[]
  methods := #[]
  instanceTypes := #[]
  staticTypes := #[]
  resolved := Array.replicate 8 none
  statics := none }

/-- the primitive byte -/
def k10 : Class := { plain "byte" none with kind := .primitive 'B', accessFlags := 0x411 }
/-- [B -/
def k11 : Class := { plain "[B" (some 0) with kind := .array 10 .byte, interfaces := #[9, 3], accessFlags := 1041 }

/-- the primitive int -/
def k12 : Class := { plain "int" none with kind := .primitive 'I', accessFlags := 0x411 }
/-- [I -/
def k13 : Class := { plain "[I" (some 0) with kind := .array 12 .int, interfaces := #[9, 3], accessFlags := 1041 }

def heap : Heap := #[]
def classes : Array Class := #[k0, k1, k2, k3, k4, k5, k6, k7, k8, k9, k10, k11, k12, k13]
def interned : List (Array UInt16 × Addr) := []
def slotsUsed : Nat := 0
def theMethod : MethodId := ⟨1, 1⟩
def args0 : Array Value := #[.long 5, .long 3]
def aboutOver (below : List Frame) : State where
  vm := { classes := classes, interned := interned.toArray }
  heap := heap
  slotsUsed := slotsUsed
  threads := #[{ frames := .invoking theMethod args0 :: below }]
def below0 : List Frame := [.native { method := ⟨0, 0⟩, args := #[] }]
def about1 : State := aboutOver below0
def p0 : Program := .bare "" "" ""
def e0 : Env := launch0.env 0 0 0
theorem w_frames : about1.frames = Frame.invoking theMethod args0 :: below0 := rfl
set_option maxRecDepth 65536 in
theorem w_args : argsFit about1.vm theMethod args0 = true := by decide +kernel
set_option maxRecDepth 65536 in
theorem w_heap : heapFits about1 = true := by decide +kernel
set_option maxRecDepth 65536 in
theorem w_runnable : about1.curStatus? = some .runnable := by decide +kernel
set_option maxRecDepth 65536 in
theorem w_alone : about1.alone = true := by decide +kernel
set_option maxRecDepth 65536 in
theorem w_named : about1.methodNamed? x = some theMethod := by decide +kernel
set_option maxRecDepth 65536 in
theorem w_hears : about1.hears theMethod below0 = true := by decide +kernel
set_option maxRecDepth 65536 in
theorem w_ripe : about1.ripe theMethod args0 below0 = true := by decide +kernel
theorem w_running : about1.status = .running := rfl
set_option maxRecDepth 65536 in
theorem w_room : about1.hasRoom e0.platform room_1 = true :=
  launch0.hasRoom_least _ room_1 (by decide +kernel) (by decide +kernel) (by decide +kernel) (by decide +kernel) (by decide +kernel) (by decide +kernel)
theorem allAtoms_all (ts : List Jvm.Cond) (a : Array Jvm.Value) (st : Jvm.State) : (allAtoms ts).before a st = ts.all (fun c => c.before a st) := by
  induction ts with
  | nil => rfl
  | cons c t ih =>
    show (Jvm.Cond.and c (allAtoms t)).before a st = _
    rw [Jvm.Cond.before_and, ih, List.all_cons]
def words1 : List Jvm.Cond := Jvm.Cond.code x code maxLocals ret :: tables_1
/-- a 'code' word, met by the world's own term for the bytes: nothing is compared byte by byte -/
theorem code_word {y : MethodName} {bytes : ByteArray} {mx : Nat} {rt : Option FieldType} {a : Array Value} {s : State} {m : MethodId} {meth : Method} {c : Code} (h1 : s.methodNamed? y = some m) (h2 : s.vm.method? m = some meth) (h3 : meth.code = some c) (h4 : c.code = bytes)
    (h5 : (c.maxLocals == mx && c.exceptionTable.isEmpty && decide (c.maxStack ≤ mostOperands) && decide (meth.sig.returnType = rt) && !meth.locks && decide (parseMethodDescriptor y.desc = some meth.sig)) = true) : (Jvm.Cond.code y bytes mx rt).before a s = true := by
  simp only [Bool.and_eq_true, beq_iff_eq, Bool.not_eq_true', decide_eq_true_eq] at h5
  obtain ⟨⟨⟨⟨⟨g1, g2⟩, g3⟩, g4⟩, g5⟩, g6⟩ := h5
  simp [Cond.before, Cond.holds, Cond.value, h1, h2, h3, h4, g1, g2, g3, g4, g5, g6]
def isCode : Jvm.Cond → Bool
  | .code _ _ _ _ => true
  | _ => false
theorem all_split {L : List Jvm.Cond} {P : Jvm.Cond → Bool} (h1 : L.all (fun c => isCode c || P c) = true) (h2 : ∀ c ∈ L.filter isCode, P c = true) : L.all P = true := by
  refine List.all_eq_true.mpr fun c hc => ?_
  have h := List.all_eq_true.mp h1 c hc
  rcases Bool.eq_false_or_eq_true (isCode c) with hi | hi
  · exact h2 c (List.mem_filter.mpr ⟨hc, hi⟩)
  · simpa [hi] using h
set_option maxRecDepth 65536 in
theorem w_c0 : (Jvm.Cond.code x code maxLocals ret).before args0 about1 = true := code_word (m := ⟨1, 1⟩) (meth := k1m1) (c := k1c1) (by decide +kernel) rfl rfl rfl (by decide +kernel)
set_option maxRecDepth 65536 in
theorem w_c1 : (Jvm.Cond.code ({ cls := "com/example/reissue/reissue/storage/SlotTable", name := "home", desc := "(JJ)J" } : Jvm.MethodName) prog_58_method_3_code (6 : Nat) (Option.some Jvm.ClassFile.FieldType.long)).before args0 about1 = true := code_word (m := ⟨2, 0⟩) (meth := k2m0) (c := k2c0) (by decide +kernel) rfl rfl rfl (by decide +kernel)
set_option maxRecDepth 65536 in
theorem w_c2 : (Jvm.Cond.code ({ cls := "java/lang/Long", name := "rotateLeft", desc := "(JI)J" } : Jvm.MethodName) jdk_35_method_51_code (3 : Nat) (Option.some Jvm.ClassFile.FieldType.long)).before args0 about1 = true := code_word (m := ⟨8, 0⟩) (meth := k8m0) (c := k8c0) (by decide +kernel) rfl rfl rfl (by decide +kernel)
def codes1 : List Jvm.Cond := [Jvm.Cond.code x code maxLocals ret, Jvm.Cond.code ({ cls := "com/example/reissue/reissue/storage/SlotTable", name := "home", desc := "(JJ)J" } : Jvm.MethodName) prog_58_method_3_code (6 : Nat) (Option.some Jvm.ClassFile.FieldType.long), Jvm.Cond.code ({ cls := "java/lang/Long", name := "rotateLeft", desc := "(JI)J" } : Jvm.MethodName) jdk_35_method_51_code (3 : Nat) (Option.some Jvm.ClassFile.FieldType.long)]
set_option maxRecDepth 65536 in
theorem codes_eq : words1.filter isCode = codes1 := rfl
theorem w_codes : ∀ c ∈ words1.filter isCode, c.before args0 about1 = true := by
  rw [codes_eq]
  intro c hc
  simp only [codes1, List.mem_cons, List.not_mem_nil, or_false] at hc
  rcases hc with rfl | rfl | rfl
  · exact w_c0
  · exact w_c1
  · exact w_c2
set_option maxRecDepth 65536 in
theorem w_t1 : words1.all (fun c => isCode c || c.before args0 about1) = true := by decide +kernel
theorem w_tables : (allAtoms (Jvm.Cond.code x code maxLocals ret :: tables_1)).before args0 about1 = true := by
  rw [allAtoms_all]
  show words1.all (fun c => c.before args0 about1) = true
  refine all_split ?_ w_codes
  rw [w_t1]
set_option maxRecDepth 65536 in
theorem w_case : (Jvm.Cond.and given_1 narrow_1).before args0 about1 = true := by decide +kernel
theorem w_applies : (headSpec (Jvm.Cond.code x code maxLocals ret :: tables_1) room_1).applies x e0.platform about1 = true :=
  (Spec.applies_iff w_frames).mpr ⟨w_running, w_runnable, w_alone, w_named, w_hears, w_ripe, w_room, w_tables⟩
theorem atStart : AtStart classFile x code maxLocals ret World_1 tables_1 room_1 Calls_1 rest_1 Pre_1 launch0 p0 e0 about1 theMethod args0 below0 :=
  ⟨lists_1, trivial, launch0.admits_env _ _ _, launch0.least_env, fairChoices_fair.cas, fairChoices_fair.clock, w_frames, w_args, w_heap, w_applies, trivial, trivial, w_case⟩
end start1
theorem witness_1 : WitnessClaimed_1 := ⟨start1.p0, start1.e0, start1.about1, start1.theMethod, start1.args0, start1.below0, start1.atStart⟩
end Jvm.Pilot.@@N@@
