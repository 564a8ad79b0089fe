import JvmDerived
import JvmDerived.Pilot.@@N@@Statement
import JvmDerived.Pilot.@@N@@Code
set_option linter.unusedVariables false
set_option linter.unusedSimpArgs false
namespace Jvm.Pilot.@@N@@
open Jvm Jvm.ClassFile Sem Op Lib Jvm.Free Jvm.Stand Jvm.LawKit Jvm.RoadKit Bundle Jvm.Pilot.@@N@@.Jvm.D
-- OWN KIT (mine): reach, finish, weakening of the counters, arrays by a function, arithmetic in omega's form
abbrev own_R (tb : Tables) (e : Env) (below : List Frame) (F0 F : State) : Prop := ∀ t, Steps tb e below F t → Steps tb e below F0 t
abbrev own_G (p : Program) (e : Env) (below : List Frame) (s F0 : State) (Q : Option Value → Heap → List Loc → Prop) (kc ks : Nat) : Prop :=
  ∃ s₂ o, Steps p.tables e below F0 s₂ ∧ s₂.status = .running ∧ Ended s₂ below o ∧ ∃ v L, o = .returned v ∧ Q v s₂.heap L ∧ FrameEnd s o s₂ L kc ks
section OwnKit
variable {p : Program} {l : Launch} {e : Env} {R : Room} {s : State} {m : MethodId} {args : Array Value} {below : List Frame} {meth : Method} {c : Code} {T : State} {locs : List Loc} {cells slots : Nat}
theorem own_fin (X : Stand p l e R s m args below meth c T locs cells slots) (hl : meth.locks = false) {F0 : State} {Q : Option Value → Heap → List Loc → Prop} {kc ks : Nat} (v : Option Value) (hv : meth.sig.returnType = none → v = none) (hq : Q v T.heap locs) (hc : cells ≤ kc) (hs : slots ≤ ks)
    (st : ∀ fs, (∀ (f : JFrame) (acts : List Action), f.method = m → f.locked = none → f.entered = [] → (doReturn e (T.setTop f) acts v).1 = T.setFrames fs) → Steps p.tables e below F0 (T.setFrames fs)) : own_G p e below s F0 Q kc ks := by
  obtain ⟨fs, hr, hrun, hended, hW, hsame⟩ := X.leave hv hl
  exact ⟨_, _, st fs hr, hrun, hended, _, _, rfl, hq, ⟨_, rfl⟩, hW, hsame.mono hc hs⟩
theorem own_mono (X : Stand p l e R s m args below meth c T locs cells slots) {c' s' : Nat} (hc : cells ≤ c') (hs : slots ≤ s') : Stand p l e R s m args below meth c T locs c' s' := { X with same := X.same.mono hc hs }
end OwnKit
theorem own_hv {meth : Method} {t : FieldType} {v : Option Value} (h : meth.sig.returnType = some t) : meth.sig.returnType = none → v = none := fun q => by rw [h] at q; cases q
theorem own_lt32 {a b : Int32} (h : a < b) : a.toInt < b.toInt := Int32.lt_iff_toInt_lt.mp h
theorem own_nlt32 {a b : Int32} (h : ¬ a < b) : b.toInt ≤ a.toInt := Int.not_lt.mp fun q => h (Int32.lt_iff_toInt_lt.mpr q)
theorem own_eq32 {a b : Int32} (h : a = b) : a.toInt = b.toInt := congrArg Int32.toInt h
theorem own_ne32 {a b : Int32} (h : ¬ a = b) : a.toInt ≠ b.toInt := fun q => h (Int32.toInt_inj.mp q)
theorem own_lt64 {a b : Int64} (h : a < b) : a.toInt < b.toInt := Int64.lt_iff_toInt_lt.mp h
theorem own_nlt64 {a b : Int64} (h : ¬ a < b) : b.toInt ≤ a.toInt := Int.not_lt.mp fun q => h (Int64.lt_iff_toInt_lt.mpr q)
theorem own_eq64 {a b : Int64} (h : a = b) : a.toInt = b.toInt := congrArg Int64.toInt h
theorem own_ne64 {a b : Int64} (h : ¬ a = b) : a.toInt ≠ b.toInt := fun q => h (Int64.toInt_inj.mp q)
theorem own_imulc (x y : Int32) (d : Int) (h : y.toInt = d) : ((x * y).toInt - x.toInt * d) % 4294967296 = 0 := by rw [← h]; exact c_imul x y
theorem own_imulc' (x y : Int32) (d : Int) (h : x.toInt = d) : ((x * y).toInt - d * y.toInt) % 4294967296 = 0 := by rw [← h]; exact c_imul x y
theorem own_lmulc (x y : Int64) (d : Int) (h : y.toInt = d) : ((x * y).toInt - x.toInt * d) % 18446744073709551616 = 0 := by rw [← h]; exact c_lmul x y
theorem own_lmulc' (x y : Int64) (d : Int) (h : x.toInt = d) : ((x * y).toInt - d * y.toInt) % 18446744073709551616 = 0 := by rw [← h]; exact c_lmul x y
theorem own_mask (x m : Int32) (k : Nat) (P : Int) (hk : k ≤ 31) (hm : m.toBitVec.toNat = 2 ^ k - 1) (hP : P = ((2 ^ k : Nat) : Int)) : (x &&& m).toInt = x.toInt % P := by rw [hP]; exact c_mask x m k hk hm
theorem own_maskL (x m : Int64) (k : Nat) (P : Int) (hk : k ≤ 63) (hm : m.toBitVec.toNat = 2 ^ k - 1) (hP : P = ((2 ^ k : Nat) : Int)) : (x &&& m).toInt = x.toInt % P := by rw [hP]; exact c_maskL x m k hk hm
theorem own_ishr (x q : Int32) (k : Nat) (P : Int) (hk : q.toBitVec.toNat % 32 = k) (hP : P = ((2 ^ k : Nat) : Int)) : (x >>> (q &&& 31)).toInt = x.toInt / P := by rw [hP]; exact c_ishr x q k hk
theorem own_ishl (x q : Int32) (k : Nat) (P : Int) (hk : q.toBitVec.toNat % 32 = k) (hP : P = ((2 ^ k : Nat) : Int)) : ((x <<< (q &&& 31)).toInt - x.toInt * P) % 4294967296 = 0 := by rw [hP]; exact c_ishl x q k hk
theorem own_iushr (x q : Int32) (k : Nat) (P : Int) (hk : q.toBitVec.toNat % 32 = k) (h0 : 0 < k) (hP : P = ((2 ^ k : Nat) : Int)) : ((x.toUInt32 >>> (q &&& 31).toUInt32).toInt32).toInt = (x.toInt % 4294967296) / P := by rw [hP]; exact c_iushr x q k hk h0
theorem own_lshr (x : Int64) (q : Int32) (k : Nat) (P : Int) (hk : q.toBitVec.toNat % 64 = k) (hP : P = ((2 ^ k : Nat) : Int)) : (x >>> (q &&& 0x3f).toInt64).toInt = x.toInt / P := by rw [hP]; exact c_lshr x q k hk
theorem own_lshl (x : Int64) (q : Int32) (k : Nat) (P : Int) (hk : q.toBitVec.toNat % 64 = k) (hP : P = ((2 ^ k : Nat) : Int)) : ((x <<< (q &&& 0x3f).toInt64).toInt - x.toInt * P) % 18446744073709551616 = 0 := by rw [hP]; exact c_lshl x q k hk
theorem own_lushr (x : Int64) (q : Int32) (k : Nat) (P : Int) (hk : q.toBitVec.toNat % 64 = k) (h0 : 0 < k) (hP : P = ((2 ^ k : Nat) : Int)) : ((x.toUInt64 >>> (q &&& 0x3f).toInt64.toUInt64).toInt64).toInt = (x.toInt % 18446744073709551616) / P := by rw [hP]; exact c_lushr x q k hk h0
theorem own_lc_lt {x y : Int64} {cd : ClassFile.Cond} {b : Bool} (h : if_icmp.holds cd (lcmpW x y) 0 = b) : ifCond.holds cd (lcmpW x y) = b := (if0 _ _).trans h
theorem own_l_lt {x y : Int64} (h : x < y) : ifCond.holds .lt (lcmpW x y) = true ∧ ifCond.holds .ge (lcmpW x y) = false := ⟨(if0 _ _).trans (tlt ((lw_lt x y).mpr h)).1, (if0 _ _).trans (tlt ((lw_lt x y).mpr h)).2.1⟩
theorem own_l_nlt {x y : Int64} (h : ¬ x < y) : ifCond.holds .lt (lcmpW x y) = false ∧ ifCond.holds .ge (lcmpW x y) = true := ⟨(if0 _ _).trans (flt (fun q => h ((lw_lt x y).mp q))).1, (if0 _ _).trans (flt (fun q => h ((lw_lt x y).mp q))).2.1⟩
theorem own_l_gt {x y : Int64} (h : y < x) : ifCond.holds .gt (lcmpW x y) = true ∧ ifCond.holds .le (lcmpW x y) = false := ⟨(if0 _ _).trans (tlt ((lw_gt x y).mpr h)).2.2.1, (if0 _ _).trans (tlt ((lw_gt x y).mpr h)).2.2.2⟩
theorem own_l_ngt {x y : Int64} (h : ¬ y < x) : ifCond.holds .gt (lcmpW x y) = false ∧ ifCond.holds .le (lcmpW x y) = true := ⟨(if0 _ _).trans (flt (fun q => h ((lw_gt x y).mp q))).2.2.1, (if0 _ _).trans (flt (fun q => h ((lw_gt x y).mp q))).2.2.2⟩
theorem own_l_eq {x y : Int64} (h : x = y) : ifCond.holds .eq (lcmpW x y) = true ∧ ifCond.holds .ne (lcmpW x y) = false := ⟨(if0 _ _).trans (teq ((lw_eq x y).mpr h)).1, (if0 _ _).trans (teq ((lw_eq x y).mpr h)).2⟩
theorem own_l_neq {x y : Int64} (h : ¬ x = y) : ifCond.holds .eq (lcmpW x y) = false ∧ ifCond.holds .ne (lcmpW x y) = true := ⟨(if0 _ _).trans (feq (fun q => h ((lw_eq x y).mp q))).1, (if0 _ _).trans (feq (fun q => h ((lw_eq x y).mp q))).2⟩
theorem own_lrem {x y : Int64} {d : Int} (hy : y.toInt = d) : (0 ≤ x.toInt → (x - (x / y) * y).toInt = x.toInt % d) ∧ (x.toInt < 0 → (x - (x / y) * y).toInt = -((-x.toInt) % d)) := c_lrem x y d hy
theorem own_lremf (x y : Int64) (d : Int) (hy : y.toInt = d) : (0 ≤ x.toInt → (x % y).toInt = x.toInt % d) ∧ (x.toInt < 0 → (x % y).toInt = -((-x.toInt) % d)) := by rw [Int64.toInt_mod, hy]; exact tr _ _
theorem own_lremM {p : Program} {l : Launch} {e : Env} {R : Room} {s : State} {m : MethodId} {args : Array Value} {below : List Frame} {meth : Method} {c : Code} {T : State} {locs : List Loc} {cells slots : Nat} {g : JFrame} {target : State} (X : Stand p l e R s m args below meth c T locs cells slots) (hx : p.tables.exec = Jvm.exec) (hg : g.method = m) {x y : Int64} {rest : List Value} (hd : decode c.code g.pc = .ok (.lrem, 1)) (hs : g.stack = .long y :: .long x :: rest) (hy : y ≠ 0)
    (hr : Steps p.tables e below (T.setTop { g with pc := g.pc + 1, stack := .long (x % y) :: rest }) target) : Steps p.tables e below (T.setTop g) target :=
  XS.lrem X.here hx hg hd hs hy (by rw [lrem_mod]; exact hr)
def own_part (p0 : Int32) (p1 : Int32) : Int32 := (if p1 = (0 : Int32) then (p0 / (2 : Int32)) else ((p0 - (1 : Int32)) / (2 : Int32)))
theorem pn_0 : plainName "com/example/mexpile/mexpile/engine/TakeAndBreak" = true := by first | (simp [plainName, overriddenIn]; done) | decide +kernel
theorem d1_0 : decode prog_29_method_12_code 0 = .ok (.iload_n 1, 1) := by decide +kernel
theorem d1_1 : decode prog_29_method_12_code 1 = .ok (.ifCond .eq 11, 3) := by decide +kernel
theorem d1_4 : decode prog_29_method_12_code 4 = .ok (.iload_n 0, 1) := by decide +kernel
theorem d1_5 : decode prog_29_method_12_code 5 = .ok (.iconst 1, 1) := by decide +kernel
theorem d1_6 : decode prog_29_method_12_code 6 = .ok (.isub, 1) := by decide +kernel
theorem d1_7 : decode prog_29_method_12_code 7 = .ok (.iconst 2, 1) := by decide +kernel
theorem d1_8 : decode prog_29_method_12_code 8 = .ok (.idiv, 1) := by decide +kernel
theorem d1_9 : decode prog_29_method_12_code 9 = .ok (.goto 6, 3) := by decide +kernel
theorem d1_12 : decode prog_29_method_12_code 12 = .ok (.iload_n 0, 1) := by decide +kernel
theorem d1_13 : decode prog_29_method_12_code 13 = .ok (.iconst 2, 1) := by decide +kernel
theorem d1_14 : decode prog_29_method_12_code 14 = .ok (.idiv, 1) := by decide +kernel
theorem d1_15 : decode prog_29_method_12_code 15 = .ok (.ireturn, 1) := by decide +kernel
theorem ef_1 (m : MethodId) (x0 : Int32) (x1 : Int32) : entryFrame m #[(.int x0), (.int x1)] 2 = mkF m 0 #[.val (.int x0), .val (.int x1)] [] := by first | (simp [entryFrame, mkF, argsToLocals, Value.category]; done) | rfl
def Q1 (Z : State) (p0 : Int32) (p1 : Int32) (h0 : Heap) (n0 : Nat) (v : Option Value) (h : Heap) (L : List Loc) : Prop := v = some (.int (own_part p0 p1)) ∧ Fr n0 L ∧ h = h0
set_option maxRecDepth 65536 in
set_option maxHeartbeats 40000000 in
theorem rm1 (l : Launch) (Z : State) (a0 : Array Value) (hw : ∀ d ∈ tables_1, d.before a0 Z = true) (ws : List Jvm.Cond) (p0 : Int32) (p1 : Int32) (h0 : Heap) (n0 : Nat) (Z0 : n0 ≤ h0.size) :
    MetFree l (⟨"com/example/mexpile/mexpile/engine/TakeAndBreak", "largestSmallerPart", "(IZ)I"⟩ : MethodName) (head1 (Jvm.Cond.code (⟨"com/example/mexpile/mexpile/engine/TakeAndBreak", "largestSmallerPart", "(IZ)I"⟩ : MethodName) prog_29_method_12_code 2 (some .int) :: ws) ({ frames := 0, cells := 0, slots := 0, locals := 0 } : Room)) (fun a U => a = #[(.int p0), (.int p1)] ∧ Z.Warmed39 U.vm ∧ U.heap = h0) (fun _ _ _ _ _ => True) (fun _ U o U' => ∃ v L, o = .returned v ∧ Q1 Z p0 p1 h0 n0 v U'.heap L ∧ FrameEnd U o U' L ({ frames := 0, cells := 0, slots := 0, locals := 0 } : Room).cells ({ frames := 0, cells := 0, slots := 0, locals := 0 } : Room).slots) := by
  refine MetFree.of_bodySF (plainFor_of_name pn_0) hisR ?_
  intro p e s m args below meth c s₁ Bd hml0 hP hK
  obtain ⟨rfl, hZ, hh⟩ := hP
  have hx := Bd.exec
  have hby := Bd.bytes
  have hml : c.maxLocals = 2 := hml0
  have hown : s.vm.findClass "com/example/mexpile/mexpile/engine/TakeAndBreak" = some m.cls := findClass_of_methodNamed Bd.named
  have hnm := (name_of_methodNamed Bd.named Bd.method).1
  have hlk : meth.locks = false := BodyLoose.notSynchronized Bd
  have X0 : Stand p l e ({ frames := 0, cells := 0, slots := 0, locals := 0 } : Room) s m #[(.int p0), (.int p1)] below meth c s₁ [] 0 0 := Stand.of_body Bd
  have e0 : s₁.heap = h0 := by rw [← hh, Bd.state]; rfl
  have N0 := Fr.nil n0
  have K0 : Keep h0 h0 [] := Keep.refl h0 _
  have key : ∀ (F0 : State) (G : Prop), (own_G p e below s F0 (Q1 Z p0 p1 h0 n0) ({ frames := 0, cells := 0, slots := 0, locals := 0 } : Room).cells ({ frames := 0, cells := 0, slots := 0, locals := 0 } : Room).slots → G) → own_R p.tables e below F0 (s₁.setTop (mkF m 0 #[.val (.int p0), .val (.int p1)] [])) → G := by
    intro F0 G hG r0
    have r1 : own_R p.tables e below F0 (s₁.setTop (mkF m 1 #[.val (.int p0), .val (.int p1)] [(.int p1)])) := fun t k => by
      refine r0 t ?_
      show Steps p.tables e below (s₁.setTop (mkF m 0 #[.val (.int p0), .val (.int p1)] [])) _
      refine XS.iloadN X0.here hx rfl (hb hby d1_0) rfl ?_
      exact k
    by_cases hc2 : p1 = (0 : Int32)
    · have r3 : own_R p.tables e below F0 (s₁.setTop (mkF m 15 #[.val (.int p0), .val (.int p1)] [(.int (p0 / (2 : Int32)))])) := fun t k => by
        refine r1 t ?_
        show Steps p.tables e below (s₁.setTop (mkF m 1 #[.val (.int p0), .val (.int p1)] [(.int p1)])) _
        refine XS.ifYes X0.here hx rfl (pc0 := 1) (pc' := 12) rfl (hb hby d1_1) rfl ((if0 _ _).trans (teq hc2).1) (by decide) (by decide) ?_
        show Steps p.tables e below (s₁.setTop (mkF m 12 #[.val (.int p0), .val (.int p1)] [])) _
        refine XS.iloadN X0.here hx rfl (hb hby d1_12) rfl ?_
        show Steps p.tables e below (s₁.setTop (mkF m 13 #[.val (.int p0), .val (.int p1)] [(.int p0)])) _
        refine XS.iconst X0.here hx rfl (hb hby d1_13) ?_
        show Steps p.tables e below (s₁.setTop (mkF m 14 #[.val (.int p0), .val (.int p1)] [(.int (2 : Int32)), (.int p0)])) _
        refine XS.idiv X0.here hx rfl (hb hby d1_14) rfl (by decide) ?_
        exact k
      refine hG (own_fin X0 hlk (some (.int (p0 / (2 : Int32)))) (own_hv Bd.returns) ?_ (by decide) (by decide) (fun fs hr => r3 _ (retOut X0 hx Bd.returns rfl (Or.inl ⟨rfl, Or.inl rfl, _, rfl⟩) (hb hby d1_15) hr)))
      rw [e0]
      refine ⟨?_, N0, rfl⟩
      have ev : (own_part p0 p1) = (p0 / (2 : Int32)) := by unfold own_part; rw [if_pos hc2]
      rw [ev]
    · have r4 : own_R p.tables e below F0 (s₁.setTop (mkF m 15 #[.val (.int p0), .val (.int p1)] [(.int ((p0 - (1 : Int32)) / (2 : Int32)))])) := fun t k => by
        refine r1 t ?_
        show Steps p.tables e below (s₁.setTop (mkF m 1 #[.val (.int p0), .val (.int p1)] [(.int p1)])) _
        refine XS.ifNo X0.here hx rfl (hb hby d1_1) rfl ((if0 _ _).trans (feq hc2).1) ?_
        show Steps p.tables e below (s₁.setTop (mkF m 4 #[.val (.int p0), .val (.int p1)] [])) _
        refine XS.iloadN X0.here hx rfl (hb hby d1_4) rfl ?_
        show Steps p.tables e below (s₁.setTop (mkF m 5 #[.val (.int p0), .val (.int p1)] [(.int p0)])) _
        refine XS.iconst X0.here hx rfl (hb hby d1_5) ?_
        show Steps p.tables e below (s₁.setTop (mkF m 6 #[.val (.int p0), .val (.int p1)] [(.int (1 : Int32)), (.int p0)])) _
        refine XS.isub X0.here hx rfl (hb hby d1_6) rfl ?_
        show Steps p.tables e below (s₁.setTop (mkF m 7 #[.val (.int p0), .val (.int p1)] [(.int (p0 - (1 : Int32)))])) _
        refine XS.iconst X0.here hx rfl (hb hby d1_7) ?_
        show Steps p.tables e below (s₁.setTop (mkF m 8 #[.val (.int p0), .val (.int p1)] [(.int (2 : Int32)), (.int (p0 - (1 : Int32)))])) _
        refine XS.idiv X0.here hx rfl (hb hby d1_8) rfl (by decide) ?_
        show Steps p.tables e below (s₁.setTop (mkF m 9 #[.val (.int p0), .val (.int p1)] [(.int ((p0 - (1 : Int32)) / (2 : Int32)))])) _
        refine XS.goto X0.here hx rfl (pc0 := 9) (pc' := 15) rfl (hb hby d1_9) (by decide) (by decide) ?_
        exact k
      refine hG (own_fin X0 hlk (some (.int ((p0 - (1 : Int32)) / (2 : Int32)))) (own_hv Bd.returns) ?_ (by decide) (by decide) (fun fs hr => r4 _ (retOut X0 hx Bd.returns rfl (Or.inl ⟨rfl, Or.inl rfl, _, rfl⟩) (hb hby d1_15) hr)))
      rw [e0]
      refine ⟨?_, N0, rfl⟩
      have ev : (own_part p0 p1) = ((p0 - (1 : Int32)) / (2 : Int32)) := by unfold own_part; rw [if_neg hc2]
      rw [ev]
  exact key _ _ id (fun t k => castTop (ef_1 m p0 p1) k)
theorem pn_1 : plainName "com/example/mexpile/mexpile/engine/TakeAndBreakLargestSmallerPartPinLaw" = true := by first | (simp [plainName, overriddenIn]; done) | decide +kernel
theorem pd_0 : parseMethodDescriptor "(IZ)I" = some ⟨[.int, .boolean], some .int⟩ := by decide +kernel
theorem ef_0 (m : MethodId) (x0 : Int32) (x1 : Int32) : entryFrame m #[(.int x0), (.int x1)] maxLocals = mkF m 0 #[.val (.int x0), .val (.int x1), .unset, .unset, .unset, .unset, .unset, .unset, .unset, .unset] [] := by first | (simp [entryFrame, mkF, argsToLocals, Value.category, maxLocals]; done) | rfl
def Q0 (Z : State) (p0s : Int32) (p1s : Int32) (h0 : Heap) (n0 : Nat) (v : Option Value) (h : Heap) (L : List Loc) : Prop := v = some (.int (1 : Int32)) ∧ Fr n0 L
set_option maxRecDepth 65536 in
set_option maxHeartbeats 40000000 in
theorem rm0 (l : Launch) (Z : State) (a0 : Array Value) (hw : ∀ d ∈ tables_1, d.before a0 Z = true) (ws : List Jvm.Cond) (p0s : Int32) (p1s : Int32) (h0 : Heap) (n0 : Nat) (Z0 : n0 ≤ h0.size) :
    MetFree l x (head1 (Jvm.Cond.code x code maxLocals ret :: ws) room_1) (fun a U => a = #[(.int p0s), (.int p1s)] ∧ Z.Warmed39 U.vm ∧ U.heap = h0) (fun _ _ _ _ _ => True) (fun _ U o U' => ∃ v L, o = .returned v ∧ Q0 Z p0s p1s h0 n0 v U'.heap L ∧ FrameEnd U o U' L 0 0) := by
  refine MetFree.of_bodySF (plainFor_of_name pn_1) hisR ?_
  intro p e s m args below meth c s₁ Bd hml0 hP hK
  obtain ⟨rfl, hZ, hh⟩ := hP
  have hx := Bd.exec
  have hby := Bd.bytes
  have hml : c.maxLocals = 10 := hml0
  have hown : s.vm.findClass "com/example/mexpile/mexpile/engine/TakeAndBreakLargestSmallerPartPinLaw" = some m.cls := findClass_of_methodNamed Bd.named
  have hnm := (name_of_methodNamed Bd.named Bd.method).1
  have hlk : meth.locks = false := BodyLoose.notSynchronized Bd
  have X0 : Stand p l e room_1 s m #[(.int p0s), (.int p1s)] below meth c s₁ [] 0 0 := Stand.of_body Bd
  have e0 : s₁.heap = h0 := by rw [← hh, Bd.state]; rfl
  have N0 := Fr.nil n0
  have K0 : Keep h0 h0 [] := Keep.refl h0 _
  have key : ∀ (F0 : State) (G : Prop), (own_G p e below s F0 (Q0 Z p0s p1s h0 n0) 0 0 → G) → own_R p.tables e below F0 (s₁.setTop (mkF m 0 #[.val (.int p0s), .val (.int p1s), .unset, .unset, .unset, .unset, .unset, .unset, .unset, .unset] [])) → G := by
    intro F0 G hG r0
    have r5 : own_R p.tables e below F0 (s₁.setTop (mkF m 8 #[.val (.int p0s), .val (.int p1s), .val (.int (p0s &&& (2147483647 : Int32))), .unset, .unset, .unset, .unset, .unset, .unset, .unset] [(.int (p1s &&& (1 : Int32)))])) := fun t k => by
      refine r0 t ?_
      show Steps p.tables e below (s₁.setTop (mkF m 0 #[.val (.int p0s), .val (.int p1s), .unset, .unset, .unset, .unset, .unset, .unset, .unset, .unset] [])) _
      refine XS.iloadN X0.here hx rfl (hb hby at_0) rfl ?_
      show Steps p.tables e below (s₁.setTop (mkF m 1 #[.val (.int p0s), .val (.int p1s), .unset, .unset, .unset, .unset, .unset, .unset, .unset, .unset] [(.int p0s)])) _
      refine X0.ldcI hx hown (mvT hZ (hw _ (List.mem_of_getElem? (i := 0) rfl))) rfl (hb hby at_1) ?_
      show Steps p.tables e below (s₁.setTop (mkF m 3 #[.val (.int p0s), .val (.int p1s), .unset, .unset, .unset, .unset, .unset, .unset, .unset, .unset] [(.int (2147483647 : Int32)), (.int p0s)])) _
      refine XS.iand X0.here hx rfl (hb hby at_3) rfl ?_
      show Steps p.tables e below (s₁.setTop (mkF m 4 #[.val (.int p0s), .val (.int p1s), .unset, .unset, .unset, .unset, .unset, .unset, .unset, .unset] [(.int (p0s &&& (2147483647 : Int32)))])) _
      refine XS.istoreN X0.here hx rfl (hb hby at_4) rfl (l' := #[.val (.int p0s), .val (.int p1s), .val (.int (p0s &&& (2147483647 : Int32))), .unset, .unset, .unset, .unset, .unset, .unset, .unset]) rfl ?_
      show Steps p.tables e below (s₁.setTop (mkF m 5 #[.val (.int p0s), .val (.int p1s), .val (.int (p0s &&& (2147483647 : Int32))), .unset, .unset, .unset, .unset, .unset, .unset, .unset] [])) _
      refine XS.iloadN X0.here hx rfl (hb hby at_5) rfl ?_
      show Steps p.tables e below (s₁.setTop (mkF m 6 #[.val (.int p0s), .val (.int p1s), .val (.int (p0s &&& (2147483647 : Int32))), .unset, .unset, .unset, .unset, .unset, .unset, .unset] [(.int p1s)])) _
      refine XS.iconst X0.here hx rfl (hb hby at_6) ?_
      show Steps p.tables e below (s₁.setTop (mkF m 7 #[.val (.int p0s), .val (.int p1s), .val (.int (p0s &&& (2147483647 : Int32))), .unset, .unset, .unset, .unset, .unset, .unset, .unset] [(.int (1 : Int32)), (.int p1s)])) _
      refine XS.iand X0.here hx rfl (hb hby at_7) rfl ?_
      exact k
    by_cases hc6 : (p1s &&& (1 : Int32)) = (0 : Int32)
    · have r7 : own_R p.tables e below F0 (s₁.setTop (mkF m 19 #[.val (.int p0s), .val (.int p1s), .val (.int (p0s &&& (2147483647 : Int32))), .val (.int (0 : Int32)), .unset, .unset, .unset, .unset, .unset, .unset] [(.int (0 : Int32)), (.int (p0s &&& (2147483647 : Int32)))])) := fun t k => by
        refine r5 t ?_
        show Steps p.tables e below (s₁.setTop (mkF m 8 #[.val (.int p0s), .val (.int p1s), .val (.int (p0s &&& (2147483647 : Int32))), .unset, .unset, .unset, .unset, .unset, .unset, .unset] [(.int (p1s &&& (1 : Int32)))])) _
        refine XS.ifYes X0.here hx rfl (pc0 := 8) (pc' := 15) rfl (hb hby at_8) rfl ((if0 _ _).trans (teq hc6).1) (by decide) (by decide) ?_
        show Steps p.tables e below (s₁.setTop (mkF m 15 #[.val (.int p0s), .val (.int p1s), .val (.int (p0s &&& (2147483647 : Int32))), .unset, .unset, .unset, .unset, .unset, .unset, .unset] [])) _
        refine XS.iconst X0.here hx rfl (hb hby at_15) ?_
        show Steps p.tables e below (s₁.setTop (mkF m 16 #[.val (.int p0s), .val (.int p1s), .val (.int (p0s &&& (2147483647 : Int32))), .unset, .unset, .unset, .unset, .unset, .unset, .unset] [(.int (0 : Int32))])) _
        refine XS.istoreN X0.here hx rfl (hb hby at_16) rfl (l' := #[.val (.int p0s), .val (.int p1s), .val (.int (p0s &&& (2147483647 : Int32))), .val (.int (0 : Int32)), .unset, .unset, .unset, .unset, .unset, .unset]) rfl ?_
        show Steps p.tables e below (s₁.setTop (mkF m 17 #[.val (.int p0s), .val (.int p1s), .val (.int (p0s &&& (2147483647 : Int32))), .val (.int (0 : Int32)), .unset, .unset, .unset, .unset, .unset, .unset] [])) _
        refine XS.iloadN X0.here hx rfl (hb hby at_17) rfl ?_
        show Steps p.tables e below (s₁.setTop (mkF m 18 #[.val (.int p0s), .val (.int p1s), .val (.int (p0s &&& (2147483647 : Int32))), .val (.int (0 : Int32)), .unset, .unset, .unset, .unset, .unset, .unset] [(.int (p0s &&& (2147483647 : Int32)))])) _
        refine XS.iloadN X0.here hx rfl (hb hby at_18) rfl ?_
        exact k
      obtain ⟨_, _, ⟨T8, L8, k8, n8⟩, -, X8, ⟨Lc8, hQ8, l8, y8, z8⟩, st8⟩ := Jvm.LawKit.callS X0 hx (y := (⟨"com/example/mexpile/mexpile/engine/TakeAndBreak", "largestSmallerPart", "(IZ)I"⟩ : MethodName)) hown (mvT hZ (hw _ (List.mem_of_getElem? (i := 1) rfl))) (mvT hZ (hw _ (List.mem_of_getElem? (i := 2) rfl))) (mvT hZ (hw _ (List.mem_of_getElem? (i := 3) rfl))) (mvT hZ (hw _ (List.mem_of_getElem? (i := 4) rfl))) (by decide) (backOf (W := 0) (rm1 l Z a0 hw [] (p0s &&& (2147483647 : Int32)) (0 : Int32) h0 n0 Z0 ) hZ (hw _ (List.mem_of_getElem? (i := 4) rfl)) (hw _ (List.mem_of_getElem? (i := 3) rfl)) (by decide) (by decide)) (g := (mkF m 19 #[.val (.int p0s), .val (.int p1s), .val (.int (p0s &&& (2147483647 : Int32))), .val (.int (0 : Int32)), .unset, .unset, .unset, .unset, .unset, .unset] [(.int (0 : Int32)), (.int (p0s &&& (2147483647 : Int32)))])) rfl (by rw [hml]; rfl) (argsL := [(.int (p0s &&& (2147483647 : Int32))), (.int (0 : Int32))]) (rest := []) (lenOf pd_0 rfl) rfl (by show 2 * 0 + _ ≤ _; exact Nat.le_of_eq rfl) (hb hby at_19) (fun _ _ => ⟨rfl, e0, (by decide : 0 + 0 ≤ _), (by decide : 0 + 0 ≤ _)⟩)
      dsimp only [Pt.U, Pt.locs, Pt.cells, Pt.slots] at X8 l8 y8 z8 st8 hQ8
      subst l8 y8 z8
      obtain ⟨rfl, N8q, I8_0⟩ := hQ8
      have N8 := Fr.app N0 N8q
      have r8 : own_R p.tables e below F0 (T8.setTop (mkF m 22 #[.val (.int p0s), .val (.int p1s), .val (.int (p0s &&& (2147483647 : Int32))), .val (.int (0 : Int32)), .unset, .unset, .unset, .unset, .unset, .unset] [(.int (own_part (p0s &&& (2147483647 : Int32)) (0 : Int32)))])) := fun t k => r7 t (st8 t k)
      by_cases hc9 : (0 : Int32) = (0 : Int32)
      · have ev10 : (own_part (p0s &&& (2147483647 : Int32)) (0 : Int32)) = ((p0s &&& (2147483647 : Int32)) / (2 : Int32)) := by unfold own_part; rw [if_pos hc9]
        have r11 : own_R p.tables e below F0 (T8.setTop (mkF m 22 #[.val (.int p0s), .val (.int p1s), .val (.int (p0s &&& (2147483647 : Int32))), .val (.int (0 : Int32)), .unset, .unset, .unset, .unset, .unset, .unset] [(.int ((p0s &&& (2147483647 : Int32)) / (2 : Int32)))])) := ev10 ▸ r8
        have r12 : own_R p.tables e below F0 (T8.setTop (mkF m 33 #[.val (.int p0s), .val (.int p1s), .val (.int (p0s &&& (2147483647 : Int32))), .val (.int (0 : Int32)), .val (.long (((p0s &&& (2147483647 : Int32)) / (2 : Int32)).toInt64)), .second, .val (.long ((p0s &&& (2147483647 : Int32)).toInt64)), .second, .unset, .unset] [(.int (lcmpW (((p0s &&& (2147483647 : Int32)) / (2 : Int32)).toInt64) (0 : Int64)))])) := fun t k => by
          refine r11 t ?_
          show Steps p.tables e below (T8.setTop (mkF m 22 #[.val (.int p0s), .val (.int p1s), .val (.int (p0s &&& (2147483647 : Int32))), .val (.int (0 : Int32)), .unset, .unset, .unset, .unset, .unset, .unset] [(.int ((p0s &&& (2147483647 : Int32)) / (2 : Int32)))])) _
          refine XS.i2l X8.here hx rfl (hb hby at_22) rfl ?_
          show Steps p.tables e below (T8.setTop (mkF m 23 #[.val (.int p0s), .val (.int p1s), .val (.int (p0s &&& (2147483647 : Int32))), .val (.int (0 : Int32)), .unset, .unset, .unset, .unset, .unset, .unset] [(.long (((p0s &&& (2147483647 : Int32)) / (2 : Int32)).toInt64))])) _
          refine XS.lstore X8.here hx rfl (hb hby at_23) rfl (l' := #[.val (.int p0s), .val (.int p1s), .val (.int (p0s &&& (2147483647 : Int32))), .val (.int (0 : Int32)), .val (.long (((p0s &&& (2147483647 : Int32)) / (2 : Int32)).toInt64)), .second, .unset, .unset, .unset, .unset]) rfl ?_
          show Steps p.tables e below (T8.setTop (mkF m 25 #[.val (.int p0s), .val (.int p1s), .val (.int (p0s &&& (2147483647 : Int32))), .val (.int (0 : Int32)), .val (.long (((p0s &&& (2147483647 : Int32)) / (2 : Int32)).toInt64)), .second, .unset, .unset, .unset, .unset] [])) _
          refine XS.iloadN X8.here hx rfl (hb hby at_25) rfl ?_
          show Steps p.tables e below (T8.setTop (mkF m 26 #[.val (.int p0s), .val (.int p1s), .val (.int (p0s &&& (2147483647 : Int32))), .val (.int (0 : Int32)), .val (.long (((p0s &&& (2147483647 : Int32)) / (2 : Int32)).toInt64)), .second, .unset, .unset, .unset, .unset] [(.int (p0s &&& (2147483647 : Int32)))])) _
          refine XS.i2l X8.here hx rfl (hb hby at_26) rfl ?_
          show Steps p.tables e below (T8.setTop (mkF m 27 #[.val (.int p0s), .val (.int p1s), .val (.int (p0s &&& (2147483647 : Int32))), .val (.int (0 : Int32)), .val (.long (((p0s &&& (2147483647 : Int32)) / (2 : Int32)).toInt64)), .second, .unset, .unset, .unset, .unset] [(.long ((p0s &&& (2147483647 : Int32)).toInt64))])) _
          refine XS.lstore X8.here hx rfl (hb hby at_27) rfl (l' := #[.val (.int p0s), .val (.int p1s), .val (.int (p0s &&& (2147483647 : Int32))), .val (.int (0 : Int32)), .val (.long (((p0s &&& (2147483647 : Int32)) / (2 : Int32)).toInt64)), .second, .val (.long ((p0s &&& (2147483647 : Int32)).toInt64)), .second, .unset, .unset]) rfl ?_
          show Steps p.tables e below (T8.setTop (mkF m 29 #[.val (.int p0s), .val (.int p1s), .val (.int (p0s &&& (2147483647 : Int32))), .val (.int (0 : Int32)), .val (.long (((p0s &&& (2147483647 : Int32)) / (2 : Int32)).toInt64)), .second, .val (.long ((p0s &&& (2147483647 : Int32)).toInt64)), .second, .unset, .unset] [])) _
          refine XS.lload X8.here hx rfl (hb hby at_29) rfl ?_
          show Steps p.tables e below (T8.setTop (mkF m 31 #[.val (.int p0s), .val (.int p1s), .val (.int (p0s &&& (2147483647 : Int32))), .val (.int (0 : Int32)), .val (.long (((p0s &&& (2147483647 : Int32)) / (2 : Int32)).toInt64)), .second, .val (.long ((p0s &&& (2147483647 : Int32)).toInt64)), .second, .unset, .unset] [(.long (((p0s &&& (2147483647 : Int32)) / (2 : Int32)).toInt64))])) _
          refine XS.lconst X8.here hx rfl (hb hby at_31) ?_
          show Steps p.tables e below (T8.setTop (mkF m 32 #[.val (.int p0s), .val (.int p1s), .val (.int (p0s &&& (2147483647 : Int32))), .val (.int (0 : Int32)), .val (.long (((p0s &&& (2147483647 : Int32)) / (2 : Int32)).toInt64)), .second, .val (.long ((p0s &&& (2147483647 : Int32)).toInt64)), .second, .unset, .unset] [(.long (0 : Int64)), (.long (((p0s &&& (2147483647 : Int32)) / (2 : Int32)).toInt64))])) _
          refine XS.lcmp X8.here hx rfl (hb hby at_32) rfl ?_
          exact k
        by_cases hc13 : (((p0s &&& (2147483647 : Int32)) / (2 : Int32)).toInt64) < (0 : Int64)
        · have r14 : own_R p.tables e below F0 (T8.setTop (mkF m 37 #[.val (.int p0s), .val (.int p1s), .val (.int (p0s &&& (2147483647 : Int32))), .val (.int (0 : Int32)), .val (.long (((p0s &&& (2147483647 : Int32)) / (2 : Int32)).toInt64)), .second, .val (.long ((p0s &&& (2147483647 : Int32)).toInt64)), .second, .unset, .unset] [(.int (0 : Int32))])) := fun t k => by
            refine r12 t ?_
            show Steps p.tables e below (T8.setTop (mkF m 33 #[.val (.int p0s), .val (.int p1s), .val (.int (p0s &&& (2147483647 : Int32))), .val (.int (0 : Int32)), .val (.long (((p0s &&& (2147483647 : Int32)) / (2 : Int32)).toInt64)), .second, .val (.long ((p0s &&& (2147483647 : Int32)).toInt64)), .second, .unset, .unset] [(.int (lcmpW (((p0s &&& (2147483647 : Int32)) / (2 : Int32)).toInt64) (0 : Int64)))])) _
            refine XS.ifNo X8.here hx rfl (hb hby at_33) rfl (own_l_lt hc13).2 ?_
            show Steps p.tables e below (T8.setTop (mkF m 36 #[.val (.int p0s), .val (.int p1s), .val (.int (p0s &&& (2147483647 : Int32))), .val (.int (0 : Int32)), .val (.long (((p0s &&& (2147483647 : Int32)) / (2 : Int32)).toInt64)), .second, .val (.long ((p0s &&& (2147483647 : Int32)).toInt64)), .second, .unset, .unset] [])) _
            refine XS.iconst X8.here hx rfl (hb hby at_36) ?_
            exact k
          exfalso
          have := rng32 p1s
          have := (show (1 : Int32).toInt = 1 from by decide)
          have := rng32 (p1s &&& (1 : Int32))
          have := own_mask p1s (1 : Int32) 1 2 (by decide) (by decide) (by decide)
          have := (show (0 : Int32).toInt = 0 from by decide)
          have := rng32 p0s
          have := (show (2147483647 : Int32).toInt = 2147483647 from by decide)
          have := rng32 (p0s &&& (2147483647 : Int32))
          have := own_mask p0s (2147483647 : Int32) 31 2147483648 (by decide) (by decide) (by decide)
          have := (show (2 : Int32).toInt = 2 from by decide)
          have := rng32 ((p0s &&& (2147483647 : Int32)) / (2 : Int32))
          have := c_idiv (p0s &&& (2147483647 : Int32)) (2 : Int32) 2 (by decide) (by decide)
          have := rng64 (((p0s &&& (2147483647 : Int32)) / (2 : Int32)).toInt64)
          have := c_i2l ((p0s &&& (2147483647 : Int32)) / (2 : Int32))
          have := (show (0 : Int64).toInt = 0 from by decide)
          have := own_eq32 hc6
          have := own_eq32 hc9
          have := own_lt64 hc13
          omega
        · have r15 : own_R p.tables e below F0 (T8.setTop (mkF m 114 #[.val (.int p0s), .val (.int p1s), .val (.int (p0s &&& (2147483647 : Int32))), .val (.int (0 : Int32)), .val (.long (((p0s &&& (2147483647 : Int32)) / (2 : Int32)).toInt64)), .second, .val (.long ((p0s &&& (2147483647 : Int32)).toInt64)), .second, .unset, .unset] [(.int (lcmpW ((2 : Int64) * (((p0s &&& (2147483647 : Int32)) / (2 : Int32)).toInt64)) ((p0s &&& (2147483647 : Int32)).toInt64)))])) := fun t k => by
            refine r12 t ?_
            show Steps p.tables e below (T8.setTop (mkF m 33 #[.val (.int p0s), .val (.int p1s), .val (.int (p0s &&& (2147483647 : Int32))), .val (.int (0 : Int32)), .val (.long (((p0s &&& (2147483647 : Int32)) / (2 : Int32)).toInt64)), .second, .val (.long ((p0s &&& (2147483647 : Int32)).toInt64)), .second, .unset, .unset] [(.int (lcmpW (((p0s &&& (2147483647 : Int32)) / (2 : Int32)).toInt64) (0 : Int64)))])) _
            refine XS.ifYes X8.here hx rfl (pc0 := 33) (pc' := 38) rfl (hb hby at_33) rfl (own_l_nlt hc13).2 (by decide) (by decide) ?_
            show Steps p.tables e below (T8.setTop (mkF m 38 #[.val (.int p0s), .val (.int p1s), .val (.int (p0s &&& (2147483647 : Int32))), .val (.int (0 : Int32)), .val (.long (((p0s &&& (2147483647 : Int32)) / (2 : Int32)).toInt64)), .second, .val (.long ((p0s &&& (2147483647 : Int32)).toInt64)), .second, .unset, .unset] [])) _
            refine XS.iloadN X8.here hx rfl (hb hby at_38) rfl ?_
            show Steps p.tables e below (T8.setTop (mkF m 39 #[.val (.int p0s), .val (.int p1s), .val (.int (p0s &&& (2147483647 : Int32))), .val (.int (0 : Int32)), .val (.long (((p0s &&& (2147483647 : Int32)) / (2 : Int32)).toInt64)), .second, .val (.long ((p0s &&& (2147483647 : Int32)).toInt64)), .second, .unset, .unset] [(.int (0 : Int32))])) _
            refine XS.ifYes X8.here hx rfl (pc0 := 39) (pc' := 105) rfl (hb hby at_39) rfl ((if0 _ _).trans (teq (show (0 : Int32) = (0 : Int32) from by decide)).1) (by decide) (by decide) ?_
            show Steps p.tables e below (T8.setTop (mkF m 105 #[.val (.int p0s), .val (.int p1s), .val (.int (p0s &&& (2147483647 : Int32))), .val (.int (0 : Int32)), .val (.long (((p0s &&& (2147483647 : Int32)) / (2 : Int32)).toInt64)), .second, .val (.long ((p0s &&& (2147483647 : Int32)).toInt64)), .second, .unset, .unset] [])) _
            refine X8.ldc2J hx hown (mvT hZ (hw _ (List.mem_of_getElem? (i := 5) rfl))) rfl (hb hby at_105) ?_
            show Steps p.tables e below (T8.setTop (mkF m 108 #[.val (.int p0s), .val (.int p1s), .val (.int (p0s &&& (2147483647 : Int32))), .val (.int (0 : Int32)), .val (.long (((p0s &&& (2147483647 : Int32)) / (2 : Int32)).toInt64)), .second, .val (.long ((p0s &&& (2147483647 : Int32)).toInt64)), .second, .unset, .unset] [(.long (2 : Int64))])) _
            refine XS.lload X8.here hx rfl (hb hby at_108) rfl ?_
            show Steps p.tables e below (T8.setTop (mkF m 110 #[.val (.int p0s), .val (.int p1s), .val (.int (p0s &&& (2147483647 : Int32))), .val (.int (0 : Int32)), .val (.long (((p0s &&& (2147483647 : Int32)) / (2 : Int32)).toInt64)), .second, .val (.long ((p0s &&& (2147483647 : Int32)).toInt64)), .second, .unset, .unset] [(.long (((p0s &&& (2147483647 : Int32)) / (2 : Int32)).toInt64)), (.long (2 : Int64))])) _
            refine XS.lmul X8.here hx rfl (hb hby at_110) rfl ?_
            show Steps p.tables e below (T8.setTop (mkF m 111 #[.val (.int p0s), .val (.int p1s), .val (.int (p0s &&& (2147483647 : Int32))), .val (.int (0 : Int32)), .val (.long (((p0s &&& (2147483647 : Int32)) / (2 : Int32)).toInt64)), .second, .val (.long ((p0s &&& (2147483647 : Int32)).toInt64)), .second, .unset, .unset] [(.long ((2 : Int64) * (((p0s &&& (2147483647 : Int32)) / (2 : Int32)).toInt64)))])) _
            refine XS.lload X8.here hx rfl (hb hby at_111) rfl ?_
            show Steps p.tables e below (T8.setTop (mkF m 113 #[.val (.int p0s), .val (.int p1s), .val (.int (p0s &&& (2147483647 : Int32))), .val (.int (0 : Int32)), .val (.long (((p0s &&& (2147483647 : Int32)) / (2 : Int32)).toInt64)), .second, .val (.long ((p0s &&& (2147483647 : Int32)).toInt64)), .second, .unset, .unset] [(.long ((p0s &&& (2147483647 : Int32)).toInt64)), (.long ((2 : Int64) * (((p0s &&& (2147483647 : Int32)) / (2 : Int32)).toInt64)))])) _
            refine XS.lcmp X8.here hx rfl (hb hby at_113) rfl ?_
            exact k
          by_cases hc16 : ((p0s &&& (2147483647 : Int32)).toInt64) < ((2 : Int64) * (((p0s &&& (2147483647 : Int32)) / (2 : Int32)).toInt64))
          · have r17 : own_R p.tables e below F0 (T8.setTop (mkF m 135 #[.val (.int p0s), .val (.int p1s), .val (.int (p0s &&& (2147483647 : Int32))), .val (.int (0 : Int32)), .val (.long (((p0s &&& (2147483647 : Int32)) / (2 : Int32)).toInt64)), .second, .val (.long ((p0s &&& (2147483647 : Int32)).toInt64)), .second, .val (.int (0 : Int32)), .unset] [(.int (lcmpW ((2 : Int64) * ((((p0s &&& (2147483647 : Int32)) / (2 : Int32)).toInt64) + (1 : Int64))) ((p0s &&& (2147483647 : Int32)).toInt64)))])) := fun t k => by
              refine r15 t ?_
              show Steps p.tables e below (T8.setTop (mkF m 114 #[.val (.int p0s), .val (.int p1s), .val (.int (p0s &&& (2147483647 : Int32))), .val (.int (0 : Int32)), .val (.long (((p0s &&& (2147483647 : Int32)) / (2 : Int32)).toInt64)), .second, .val (.long ((p0s &&& (2147483647 : Int32)).toInt64)), .second, .unset, .unset] [(.int (lcmpW ((2 : Int64) * (((p0s &&& (2147483647 : Int32)) / (2 : Int32)).toInt64)) ((p0s &&& (2147483647 : Int32)).toInt64)))])) _
              refine XS.ifYes X8.here hx rfl (pc0 := 114) (pc' := 121) rfl (hb hby at_114) rfl (own_l_gt hc16).1 (by decide) (by decide) ?_
              show Steps p.tables e below (T8.setTop (mkF m 121 #[.val (.int p0s), .val (.int p1s), .val (.int (p0s &&& (2147483647 : Int32))), .val (.int (0 : Int32)), .val (.long (((p0s &&& (2147483647 : Int32)) / (2 : Int32)).toInt64)), .second, .val (.long ((p0s &&& (2147483647 : Int32)).toInt64)), .second, .unset, .unset] [])) _
              refine XS.iconst X8.here hx rfl (hb hby at_121) ?_
              show Steps p.tables e below (T8.setTop (mkF m 122 #[.val (.int p0s), .val (.int p1s), .val (.int (p0s &&& (2147483647 : Int32))), .val (.int (0 : Int32)), .val (.long (((p0s &&& (2147483647 : Int32)) / (2 : Int32)).toInt64)), .second, .val (.long ((p0s &&& (2147483647 : Int32)).toInt64)), .second, .unset, .unset] [(.int (0 : Int32))])) _
              refine XS.istore X8.here hx rfl (hb hby at_122) rfl (l' := #[.val (.int p0s), .val (.int p1s), .val (.int (p0s &&& (2147483647 : Int32))), .val (.int (0 : Int32)), .val (.long (((p0s &&& (2147483647 : Int32)) / (2 : Int32)).toInt64)), .second, .val (.long ((p0s &&& (2147483647 : Int32)).toInt64)), .second, .val (.int (0 : Int32)), .unset]) rfl ?_
              show Steps p.tables e below (T8.setTop (mkF m 124 #[.val (.int p0s), .val (.int p1s), .val (.int (p0s &&& (2147483647 : Int32))), .val (.int (0 : Int32)), .val (.long (((p0s &&& (2147483647 : Int32)) / (2 : Int32)).toInt64)), .second, .val (.long ((p0s &&& (2147483647 : Int32)).toInt64)), .second, .val (.int (0 : Int32)), .unset] [])) _
              refine X8.ldc2J hx hown (mvT hZ (hw _ (List.mem_of_getElem? (i := 5) rfl))) rfl (hb hby at_124) ?_
              show Steps p.tables e below (T8.setTop (mkF m 127 #[.val (.int p0s), .val (.int p1s), .val (.int (p0s &&& (2147483647 : Int32))), .val (.int (0 : Int32)), .val (.long (((p0s &&& (2147483647 : Int32)) / (2 : Int32)).toInt64)), .second, .val (.long ((p0s &&& (2147483647 : Int32)).toInt64)), .second, .val (.int (0 : Int32)), .unset] [(.long (2 : Int64))])) _
              refine XS.lload X8.here hx rfl (hb hby at_127) rfl ?_
              show Steps p.tables e below (T8.setTop (mkF m 129 #[.val (.int p0s), .val (.int p1s), .val (.int (p0s &&& (2147483647 : Int32))), .val (.int (0 : Int32)), .val (.long (((p0s &&& (2147483647 : Int32)) / (2 : Int32)).toInt64)), .second, .val (.long ((p0s &&& (2147483647 : Int32)).toInt64)), .second, .val (.int (0 : Int32)), .unset] [(.long (((p0s &&& (2147483647 : Int32)) / (2 : Int32)).toInt64)), (.long (2 : Int64))])) _
              refine XS.lconst X8.here hx rfl (hb hby at_129) ?_
              show Steps p.tables e below (T8.setTop (mkF m 130 #[.val (.int p0s), .val (.int p1s), .val (.int (p0s &&& (2147483647 : Int32))), .val (.int (0 : Int32)), .val (.long (((p0s &&& (2147483647 : Int32)) / (2 : Int32)).toInt64)), .second, .val (.long ((p0s &&& (2147483647 : Int32)).toInt64)), .second, .val (.int (0 : Int32)), .unset] [(.long (1 : Int64)), (.long (((p0s &&& (2147483647 : Int32)) / (2 : Int32)).toInt64)), (.long (2 : Int64))])) _
              refine XS.ladd X8.here hx rfl (hb hby at_130) rfl ?_
              show Steps p.tables e below (T8.setTop (mkF m 131 #[.val (.int p0s), .val (.int p1s), .val (.int (p0s &&& (2147483647 : Int32))), .val (.int (0 : Int32)), .val (.long (((p0s &&& (2147483647 : Int32)) / (2 : Int32)).toInt64)), .second, .val (.long ((p0s &&& (2147483647 : Int32)).toInt64)), .second, .val (.int (0 : Int32)), .unset] [(.long ((((p0s &&& (2147483647 : Int32)) / (2 : Int32)).toInt64) + (1 : Int64))), (.long (2 : Int64))])) _
              refine XS.lmul X8.here hx rfl (hb hby at_131) rfl ?_
              show Steps p.tables e below (T8.setTop (mkF m 132 #[.val (.int p0s), .val (.int p1s), .val (.int (p0s &&& (2147483647 : Int32))), .val (.int (0 : Int32)), .val (.long (((p0s &&& (2147483647 : Int32)) / (2 : Int32)).toInt64)), .second, .val (.long ((p0s &&& (2147483647 : Int32)).toInt64)), .second, .val (.int (0 : Int32)), .unset] [(.long ((2 : Int64) * ((((p0s &&& (2147483647 : Int32)) / (2 : Int32)).toInt64) + (1 : Int64))))])) _
              refine XS.lload X8.here hx rfl (hb hby at_132) rfl ?_
              show Steps p.tables e below (T8.setTop (mkF m 134 #[.val (.int p0s), .val (.int p1s), .val (.int (p0s &&& (2147483647 : Int32))), .val (.int (0 : Int32)), .val (.long (((p0s &&& (2147483647 : Int32)) / (2 : Int32)).toInt64)), .second, .val (.long ((p0s &&& (2147483647 : Int32)).toInt64)), .second, .val (.int (0 : Int32)), .unset] [(.long ((p0s &&& (2147483647 : Int32)).toInt64)), (.long ((2 : Int64) * ((((p0s &&& (2147483647 : Int32)) / (2 : Int32)).toInt64) + (1 : Int64))))])) _
              refine XS.lcmp X8.here hx rfl (hb hby at_134) rfl ?_
              exact k
            by_cases hc18 : ((p0s &&& (2147483647 : Int32)).toInt64) < ((2 : Int64) * ((((p0s &&& (2147483647 : Int32)) / (2 : Int32)).toInt64) + (1 : Int64)))
            · have r19 : own_R p.tables e below F0 (T8.setTop (mkF m 160 #[.val (.int p0s), .val (.int p1s), .val (.int (p0s &&& (2147483647 : Int32))), .val (.int (0 : Int32)), .val (.long (((p0s &&& (2147483647 : Int32)) / (2 : Int32)).toInt64)), .second, .val (.long ((p0s &&& (2147483647 : Int32)).toInt64)), .second, .val (.int (0 : Int32)), .val (.int (1 : Int32))] [(.int (0 : Int32))])) := fun t k => by
                refine r17 t ?_
                show Steps p.tables e below (T8.setTop (mkF m 135 #[.val (.int p0s), .val (.int p1s), .val (.int (p0s &&& (2147483647 : Int32))), .val (.int (0 : Int32)), .val (.long (((p0s &&& (2147483647 : Int32)) / (2 : Int32)).toInt64)), .second, .val (.long ((p0s &&& (2147483647 : Int32)).toInt64)), .second, .val (.int (0 : Int32)), .unset] [(.int (lcmpW ((2 : Int64) * ((((p0s &&& (2147483647 : Int32)) / (2 : Int32)).toInt64) + (1 : Int64))) ((p0s &&& (2147483647 : Int32)).toInt64)))])) _
                refine XS.ifNo X8.here hx rfl (hb hby at_135) rfl (own_l_gt hc18).2 ?_
                show Steps p.tables e below (T8.setTop (mkF m 138 #[.val (.int p0s), .val (.int p1s), .val (.int (p0s &&& (2147483647 : Int32))), .val (.int (0 : Int32)), .val (.long (((p0s &&& (2147483647 : Int32)) / (2 : Int32)).toInt64)), .second, .val (.long ((p0s &&& (2147483647 : Int32)).toInt64)), .second, .val (.int (0 : Int32)), .unset] [])) _
                refine XS.iconst X8.here hx rfl (hb hby at_138) ?_
                show Steps p.tables e below (T8.setTop (mkF m 139 #[.val (.int p0s), .val (.int p1s), .val (.int (p0s &&& (2147483647 : Int32))), .val (.int (0 : Int32)), .val (.long (((p0s &&& (2147483647 : Int32)) / (2 : Int32)).toInt64)), .second, .val (.long ((p0s &&& (2147483647 : Int32)).toInt64)), .second, .val (.int (0 : Int32)), .unset] [(.int (1 : Int32))])) _
                refine XS.goto X8.here hx rfl (pc0 := 139) (pc' := 143) rfl (hb hby at_139) (by decide) (by decide) ?_
                show Steps p.tables e below (T8.setTop (mkF m 143 #[.val (.int p0s), .val (.int p1s), .val (.int (p0s &&& (2147483647 : Int32))), .val (.int (0 : Int32)), .val (.long (((p0s &&& (2147483647 : Int32)) / (2 : Int32)).toInt64)), .second, .val (.long ((p0s &&& (2147483647 : Int32)).toInt64)), .second, .val (.int (0 : Int32)), .unset] [(.int (1 : Int32))])) _
                refine XS.istore X8.here hx rfl (hb hby at_143) rfl (l' := #[.val (.int p0s), .val (.int p1s), .val (.int (p0s &&& (2147483647 : Int32))), .val (.int (0 : Int32)), .val (.long (((p0s &&& (2147483647 : Int32)) / (2 : Int32)).toInt64)), .second, .val (.long ((p0s &&& (2147483647 : Int32)).toInt64)), .second, .val (.int (0 : Int32)), .val (.int (1 : Int32))]) rfl ?_
                show Steps p.tables e below (T8.setTop (mkF m 145 #[.val (.int p0s), .val (.int p1s), .val (.int (p0s &&& (2147483647 : Int32))), .val (.int (0 : Int32)), .val (.long (((p0s &&& (2147483647 : Int32)) / (2 : Int32)).toInt64)), .second, .val (.long ((p0s &&& (2147483647 : Int32)).toInt64)), .second, .val (.int (0 : Int32)), .val (.int (1 : Int32))] [])) _
                refine XS.iload X8.here hx rfl (hb hby at_145) rfl ?_
                show Steps p.tables e below (T8.setTop (mkF m 147 #[.val (.int p0s), .val (.int p1s), .val (.int (p0s &&& (2147483647 : Int32))), .val (.int (0 : Int32)), .val (.long (((p0s &&& (2147483647 : Int32)) / (2 : Int32)).toInt64)), .second, .val (.long ((p0s &&& (2147483647 : Int32)).toInt64)), .second, .val (.int (0 : Int32)), .val (.int (1 : Int32))] [(.int (0 : Int32))])) _
                refine XS.ifYes X8.here hx rfl (pc0 := 147) (pc' := 159) rfl (hb hby at_147) rfl ((if0 _ _).trans (teq (show (0 : Int32) = (0 : Int32) from by decide)).1) (by decide) (by decide) ?_
                show Steps p.tables e below (T8.setTop (mkF m 159 #[.val (.int p0s), .val (.int p1s), .val (.int (p0s &&& (2147483647 : Int32))), .val (.int (0 : Int32)), .val (.long (((p0s &&& (2147483647 : Int32)) / (2 : Int32)).toInt64)), .second, .val (.long ((p0s &&& (2147483647 : Int32)).toInt64)), .second, .val (.int (0 : Int32)), .val (.int (1 : Int32))] [])) _
                refine XS.iconst X8.here hx rfl (hb hby at_159) ?_
                exact k
              exfalso
              have := rng32 p1s
              have := (show (1 : Int32).toInt = 1 from by decide)
              have := rng32 (p1s &&& (1 : Int32))
              have := own_mask p1s (1 : Int32) 1 2 (by decide) (by decide) (by decide)
              have := (show (0 : Int32).toInt = 0 from by decide)
              have := rng32 p0s
              have := (show (2147483647 : Int32).toInt = 2147483647 from by decide)
              have := rng32 (p0s &&& (2147483647 : Int32))
              have := own_mask p0s (2147483647 : Int32) 31 2147483648 (by decide) (by decide) (by decide)
              have := (show (2 : Int32).toInt = 2 from by decide)
              have := rng32 ((p0s &&& (2147483647 : Int32)) / (2 : Int32))
              have := c_idiv (p0s &&& (2147483647 : Int32)) (2 : Int32) 2 (by decide) (by decide)
              have := rng64 (((p0s &&& (2147483647 : Int32)) / (2 : Int32)).toInt64)
              have := c_i2l ((p0s &&& (2147483647 : Int32)) / (2 : Int32))
              have := (show (0 : Int64).toInt = 0 from by decide)
              have := rng64 ((p0s &&& (2147483647 : Int32)).toInt64)
              have := c_i2l (p0s &&& (2147483647 : Int32))
              have := (show (2 : Int64).toInt = 2 from by decide)
              have := rng64 ((2 : Int64) * (((p0s &&& (2147483647 : Int32)) / (2 : Int32)).toInt64))
              have := own_lmulc' (2 : Int64) (((p0s &&& (2147483647 : Int32)) / (2 : Int32)).toInt64) (2) (by decide)
              have := (show (1 : Int64).toInt = 1 from by decide)
              have := rng64 ((((p0s &&& (2147483647 : Int32)) / (2 : Int32)).toInt64) + (1 : Int64))
              have := c_ladd (((p0s &&& (2147483647 : Int32)) / (2 : Int32)).toInt64) (1 : Int64)
              have := rng64 ((2 : Int64) * ((((p0s &&& (2147483647 : Int32)) / (2 : Int32)).toInt64) + (1 : Int64)))
              have := own_lmulc' (2 : Int64) ((((p0s &&& (2147483647 : Int32)) / (2 : Int32)).toInt64) + (1 : Int64)) (2) (by decide)
              have := own_eq32 hc6
              have := own_eq32 hc9
              have := own_nlt64 hc13
              have := own_lt64 hc16
              have := own_lt64 hc18
              omega
            · have r20 : own_R p.tables e below F0 (T8.setTop (mkF m 160 #[.val (.int p0s), .val (.int p1s), .val (.int (p0s &&& (2147483647 : Int32))), .val (.int (0 : Int32)), .val (.long (((p0s &&& (2147483647 : Int32)) / (2 : Int32)).toInt64)), .second, .val (.long ((p0s &&& (2147483647 : Int32)).toInt64)), .second, .val (.int (0 : Int32)), .val (.int (0 : Int32))] [(.int (0 : Int32))])) := fun t k => by
                refine r17 t ?_
                show Steps p.tables e below (T8.setTop (mkF m 135 #[.val (.int p0s), .val (.int p1s), .val (.int (p0s &&& (2147483647 : Int32))), .val (.int (0 : Int32)), .val (.long (((p0s &&& (2147483647 : Int32)) / (2 : Int32)).toInt64)), .second, .val (.long ((p0s &&& (2147483647 : Int32)).toInt64)), .second, .val (.int (0 : Int32)), .unset] [(.int (lcmpW ((2 : Int64) * ((((p0s &&& (2147483647 : Int32)) / (2 : Int32)).toInt64) + (1 : Int64))) ((p0s &&& (2147483647 : Int32)).toInt64)))])) _
                refine XS.ifYes X8.here hx rfl (pc0 := 135) (pc' := 142) rfl (hb hby at_135) rfl (own_l_ngt hc18).2 (by decide) (by decide) ?_
                show Steps p.tables e below (T8.setTop (mkF m 142 #[.val (.int p0s), .val (.int p1s), .val (.int (p0s &&& (2147483647 : Int32))), .val (.int (0 : Int32)), .val (.long (((p0s &&& (2147483647 : Int32)) / (2 : Int32)).toInt64)), .second, .val (.long ((p0s &&& (2147483647 : Int32)).toInt64)), .second, .val (.int (0 : Int32)), .unset] [])) _
                refine XS.iconst X8.here hx rfl (hb hby at_142) ?_
                show Steps p.tables e below (T8.setTop (mkF m 143 #[.val (.int p0s), .val (.int p1s), .val (.int (p0s &&& (2147483647 : Int32))), .val (.int (0 : Int32)), .val (.long (((p0s &&& (2147483647 : Int32)) / (2 : Int32)).toInt64)), .second, .val (.long ((p0s &&& (2147483647 : Int32)).toInt64)), .second, .val (.int (0 : Int32)), .unset] [(.int (0 : Int32))])) _
                refine XS.istore X8.here hx rfl (hb hby at_143) rfl (l' := #[.val (.int p0s), .val (.int p1s), .val (.int (p0s &&& (2147483647 : Int32))), .val (.int (0 : Int32)), .val (.long (((p0s &&& (2147483647 : Int32)) / (2 : Int32)).toInt64)), .second, .val (.long ((p0s &&& (2147483647 : Int32)).toInt64)), .second, .val (.int (0 : Int32)), .val (.int (0 : Int32))]) rfl ?_
                show Steps p.tables e below (T8.setTop (mkF m 145 #[.val (.int p0s), .val (.int p1s), .val (.int (p0s &&& (2147483647 : Int32))), .val (.int (0 : Int32)), .val (.long (((p0s &&& (2147483647 : Int32)) / (2 : Int32)).toInt64)), .second, .val (.long ((p0s &&& (2147483647 : Int32)).toInt64)), .second, .val (.int (0 : Int32)), .val (.int (0 : Int32))] [])) _
                refine XS.iload X8.here hx rfl (hb hby at_145) rfl ?_
                show Steps p.tables e below (T8.setTop (mkF m 147 #[.val (.int p0s), .val (.int p1s), .val (.int (p0s &&& (2147483647 : Int32))), .val (.int (0 : Int32)), .val (.long (((p0s &&& (2147483647 : Int32)) / (2 : Int32)).toInt64)), .second, .val (.long ((p0s &&& (2147483647 : Int32)).toInt64)), .second, .val (.int (0 : Int32)), .val (.int (0 : Int32))] [(.int (0 : Int32))])) _
                refine XS.ifYes X8.here hx rfl (pc0 := 147) (pc' := 159) rfl (hb hby at_147) rfl ((if0 _ _).trans (teq (show (0 : Int32) = (0 : Int32) from by decide)).1) (by decide) (by decide) ?_
                show Steps p.tables e below (T8.setTop (mkF m 159 #[.val (.int p0s), .val (.int p1s), .val (.int (p0s &&& (2147483647 : Int32))), .val (.int (0 : Int32)), .val (.long (((p0s &&& (2147483647 : Int32)) / (2 : Int32)).toInt64)), .second, .val (.long ((p0s &&& (2147483647 : Int32)).toInt64)), .second, .val (.int (0 : Int32)), .val (.int (0 : Int32))] [])) _
                refine XS.iconst X8.here hx rfl (hb hby at_159) ?_
                exact k
              exfalso
              have := rng32 p1s
              have := (show (1 : Int32).toInt = 1 from by decide)
              have := rng32 (p1s &&& (1 : Int32))
              have := own_mask p1s (1 : Int32) 1 2 (by decide) (by decide) (by decide)
              have := (show (0 : Int32).toInt = 0 from by decide)
              have := rng32 p0s
              have := (show (2147483647 : Int32).toInt = 2147483647 from by decide)
              have := rng32 (p0s &&& (2147483647 : Int32))
              have := own_mask p0s (2147483647 : Int32) 31 2147483648 (by decide) (by decide) (by decide)
              have := (show (2 : Int32).toInt = 2 from by decide)
              have := rng32 ((p0s &&& (2147483647 : Int32)) / (2 : Int32))
              have := c_idiv (p0s &&& (2147483647 : Int32)) (2 : Int32) 2 (by decide) (by decide)
              have := rng64 (((p0s &&& (2147483647 : Int32)) / (2 : Int32)).toInt64)
              have := c_i2l ((p0s &&& (2147483647 : Int32)) / (2 : Int32))
              have := (show (0 : Int64).toInt = 0 from by decide)
              have := rng64 ((p0s &&& (2147483647 : Int32)).toInt64)
              have := c_i2l (p0s &&& (2147483647 : Int32))
              have := (show (2 : Int64).toInt = 2 from by decide)
              have := rng64 ((2 : Int64) * (((p0s &&& (2147483647 : Int32)) / (2 : Int32)).toInt64))
              have := own_lmulc' (2 : Int64) (((p0s &&& (2147483647 : Int32)) / (2 : Int32)).toInt64) (2) (by decide)
              have := (show (1 : Int64).toInt = 1 from by decide)
              have := rng64 ((((p0s &&& (2147483647 : Int32)) / (2 : Int32)).toInt64) + (1 : Int64))
              have := c_ladd (((p0s &&& (2147483647 : Int32)) / (2 : Int32)).toInt64) (1 : Int64)
              have := rng64 ((2 : Int64) * ((((p0s &&& (2147483647 : Int32)) / (2 : Int32)).toInt64) + (1 : Int64)))
              have := own_lmulc' (2 : Int64) ((((p0s &&& (2147483647 : Int32)) / (2 : Int32)).toInt64) + (1 : Int64)) (2) (by decide)
              have := own_eq32 hc6
              have := own_eq32 hc9
              have := own_nlt64 hc13
              have := own_lt64 hc16
              have := own_nlt64 hc18
              omega
          · have r21 : own_R p.tables e below F0 (T8.setTop (mkF m 135 #[.val (.int p0s), .val (.int p1s), .val (.int (p0s &&& (2147483647 : Int32))), .val (.int (0 : Int32)), .val (.long (((p0s &&& (2147483647 : Int32)) / (2 : Int32)).toInt64)), .second, .val (.long ((p0s &&& (2147483647 : Int32)).toInt64)), .second, .val (.int (1 : Int32)), .unset] [(.int (lcmpW ((2 : Int64) * ((((p0s &&& (2147483647 : Int32)) / (2 : Int32)).toInt64) + (1 : Int64))) ((p0s &&& (2147483647 : Int32)).toInt64)))])) := fun t k => by
              refine r15 t ?_
              show Steps p.tables e below (T8.setTop (mkF m 114 #[.val (.int p0s), .val (.int p1s), .val (.int (p0s &&& (2147483647 : Int32))), .val (.int (0 : Int32)), .val (.long (((p0s &&& (2147483647 : Int32)) / (2 : Int32)).toInt64)), .second, .val (.long ((p0s &&& (2147483647 : Int32)).toInt64)), .second, .unset, .unset] [(.int (lcmpW ((2 : Int64) * (((p0s &&& (2147483647 : Int32)) / (2 : Int32)).toInt64)) ((p0s &&& (2147483647 : Int32)).toInt64)))])) _
              refine XS.ifNo X8.here hx rfl (hb hby at_114) rfl (own_l_ngt hc16).1 ?_
              show Steps p.tables e below (T8.setTop (mkF m 117 #[.val (.int p0s), .val (.int p1s), .val (.int (p0s &&& (2147483647 : Int32))), .val (.int (0 : Int32)), .val (.long (((p0s &&& (2147483647 : Int32)) / (2 : Int32)).toInt64)), .second, .val (.long ((p0s &&& (2147483647 : Int32)).toInt64)), .second, .unset, .unset] [])) _
              refine XS.iconst X8.here hx rfl (hb hby at_117) ?_
              show Steps p.tables e below (T8.setTop (mkF m 118 #[.val (.int p0s), .val (.int p1s), .val (.int (p0s &&& (2147483647 : Int32))), .val (.int (0 : Int32)), .val (.long (((p0s &&& (2147483647 : Int32)) / (2 : Int32)).toInt64)), .second, .val (.long ((p0s &&& (2147483647 : Int32)).toInt64)), .second, .unset, .unset] [(.int (1 : Int32))])) _
              refine XS.goto X8.here hx rfl (pc0 := 118) (pc' := 122) rfl (hb hby at_118) (by decide) (by decide) ?_
              show Steps p.tables e below (T8.setTop (mkF m 122 #[.val (.int p0s), .val (.int p1s), .val (.int (p0s &&& (2147483647 : Int32))), .val (.int (0 : Int32)), .val (.long (((p0s &&& (2147483647 : Int32)) / (2 : Int32)).toInt64)), .second, .val (.long ((p0s &&& (2147483647 : Int32)).toInt64)), .second, .unset, .unset] [(.int (1 : Int32))])) _
              refine XS.istore X8.here hx rfl (hb hby at_122) rfl (l' := #[.val (.int p0s), .val (.int p1s), .val (.int (p0s &&& (2147483647 : Int32))), .val (.int (0 : Int32)), .val (.long (((p0s &&& (2147483647 : Int32)) / (2 : Int32)).toInt64)), .second, .val (.long ((p0s &&& (2147483647 : Int32)).toInt64)), .second, .val (.int (1 : Int32)), .unset]) rfl ?_
              show Steps p.tables e below (T8.setTop (mkF m 124 #[.val (.int p0s), .val (.int p1s), .val (.int (p0s &&& (2147483647 : Int32))), .val (.int (0 : Int32)), .val (.long (((p0s &&& (2147483647 : Int32)) / (2 : Int32)).toInt64)), .second, .val (.long ((p0s &&& (2147483647 : Int32)).toInt64)), .second, .val (.int (1 : Int32)), .unset] [])) _
              refine X8.ldc2J hx hown (mvT hZ (hw _ (List.mem_of_getElem? (i := 5) rfl))) rfl (hb hby at_124) ?_
              show Steps p.tables e below (T8.setTop (mkF m 127 #[.val (.int p0s), .val (.int p1s), .val (.int (p0s &&& (2147483647 : Int32))), .val (.int (0 : Int32)), .val (.long (((p0s &&& (2147483647 : Int32)) / (2 : Int32)).toInt64)), .second, .val (.long ((p0s &&& (2147483647 : Int32)).toInt64)), .second, .val (.int (1 : Int32)), .unset] [(.long (2 : Int64))])) _
              refine XS.lload X8.here hx rfl (hb hby at_127) rfl ?_
              show Steps p.tables e below (T8.setTop (mkF m 129 #[.val (.int p0s), .val (.int p1s), .val (.int (p0s &&& (2147483647 : Int32))), .val (.int (0 : Int32)), .val (.long (((p0s &&& (2147483647 : Int32)) / (2 : Int32)).toInt64)), .second, .val (.long ((p0s &&& (2147483647 : Int32)).toInt64)), .second, .val (.int (1 : Int32)), .unset] [(.long (((p0s &&& (2147483647 : Int32)) / (2 : Int32)).toInt64)), (.long (2 : Int64))])) _
              refine XS.lconst X8.here hx rfl (hb hby at_129) ?_
              show Steps p.tables e below (T8.setTop (mkF m 130 #[.val (.int p0s), .val (.int p1s), .val (.int (p0s &&& (2147483647 : Int32))), .val (.int (0 : Int32)), .val (.long (((p0s &&& (2147483647 : Int32)) / (2 : Int32)).toInt64)), .second, .val (.long ((p0s &&& (2147483647 : Int32)).toInt64)), .second, .val (.int (1 : Int32)), .unset] [(.long (1 : Int64)), (.long (((p0s &&& (2147483647 : Int32)) / (2 : Int32)).toInt64)), (.long (2 : Int64))])) _
              refine XS.ladd X8.here hx rfl (hb hby at_130) rfl ?_
              show Steps p.tables e below (T8.setTop (mkF m 131 #[.val (.int p0s), .val (.int p1s), .val (.int (p0s &&& (2147483647 : Int32))), .val (.int (0 : Int32)), .val (.long (((p0s &&& (2147483647 : Int32)) / (2 : Int32)).toInt64)), .second, .val (.long ((p0s &&& (2147483647 : Int32)).toInt64)), .second, .val (.int (1 : Int32)), .unset] [(.long ((((p0s &&& (2147483647 : Int32)) / (2 : Int32)).toInt64) + (1 : Int64))), (.long (2 : Int64))])) _
              refine XS.lmul X8.here hx rfl (hb hby at_131) rfl ?_
              show Steps p.tables e below (T8.setTop (mkF m 132 #[.val (.int p0s), .val (.int p1s), .val (.int (p0s &&& (2147483647 : Int32))), .val (.int (0 : Int32)), .val (.long (((p0s &&& (2147483647 : Int32)) / (2 : Int32)).toInt64)), .second, .val (.long ((p0s &&& (2147483647 : Int32)).toInt64)), .second, .val (.int (1 : Int32)), .unset] [(.long ((2 : Int64) * ((((p0s &&& (2147483647 : Int32)) / (2 : Int32)).toInt64) + (1 : Int64))))])) _
              refine XS.lload X8.here hx rfl (hb hby at_132) rfl ?_
              show Steps p.tables e below (T8.setTop (mkF m 134 #[.val (.int p0s), .val (.int p1s), .val (.int (p0s &&& (2147483647 : Int32))), .val (.int (0 : Int32)), .val (.long (((p0s &&& (2147483647 : Int32)) / (2 : Int32)).toInt64)), .second, .val (.long ((p0s &&& (2147483647 : Int32)).toInt64)), .second, .val (.int (1 : Int32)), .unset] [(.long ((p0s &&& (2147483647 : Int32)).toInt64)), (.long ((2 : Int64) * ((((p0s &&& (2147483647 : Int32)) / (2 : Int32)).toInt64) + (1 : Int64))))])) _
              refine XS.lcmp X8.here hx rfl (hb hby at_134) rfl ?_
              exact k
            by_cases hc22 : ((p0s &&& (2147483647 : Int32)).toInt64) < ((2 : Int64) * ((((p0s &&& (2147483647 : Int32)) / (2 : Int32)).toInt64) + (1 : Int64)))
            · have r23 : own_R p.tables e below F0 (T8.setTop (mkF m 160 #[.val (.int p0s), .val (.int p1s), .val (.int (p0s &&& (2147483647 : Int32))), .val (.int (0 : Int32)), .val (.long (((p0s &&& (2147483647 : Int32)) / (2 : Int32)).toInt64)), .second, .val (.long ((p0s &&& (2147483647 : Int32)).toInt64)), .second, .val (.int (1 : Int32)), .val (.int (1 : Int32))] [(.int (1 : Int32))])) := fun t k => by
                refine r21 t ?_
                show Steps p.tables e below (T8.setTop (mkF m 135 #[.val (.int p0s), .val (.int p1s), .val (.int (p0s &&& (2147483647 : Int32))), .val (.int (0 : Int32)), .val (.long (((p0s &&& (2147483647 : Int32)) / (2 : Int32)).toInt64)), .second, .val (.long ((p0s &&& (2147483647 : Int32)).toInt64)), .second, .val (.int (1 : Int32)), .unset] [(.int (lcmpW ((2 : Int64) * ((((p0s &&& (2147483647 : Int32)) / (2 : Int32)).toInt64) + (1 : Int64))) ((p0s &&& (2147483647 : Int32)).toInt64)))])) _
                refine XS.ifNo X8.here hx rfl (hb hby at_135) rfl (own_l_gt hc22).2 ?_
                show Steps p.tables e below (T8.setTop (mkF m 138 #[.val (.int p0s), .val (.int p1s), .val (.int (p0s &&& (2147483647 : Int32))), .val (.int (0 : Int32)), .val (.long (((p0s &&& (2147483647 : Int32)) / (2 : Int32)).toInt64)), .second, .val (.long ((p0s &&& (2147483647 : Int32)).toInt64)), .second, .val (.int (1 : Int32)), .unset] [])) _
                refine XS.iconst X8.here hx rfl (hb hby at_138) ?_
                show Steps p.tables e below (T8.setTop (mkF m 139 #[.val (.int p0s), .val (.int p1s), .val (.int (p0s &&& (2147483647 : Int32))), .val (.int (0 : Int32)), .val (.long (((p0s &&& (2147483647 : Int32)) / (2 : Int32)).toInt64)), .second, .val (.long ((p0s &&& (2147483647 : Int32)).toInt64)), .second, .val (.int (1 : Int32)), .unset] [(.int (1 : Int32))])) _
                refine XS.goto X8.here hx rfl (pc0 := 139) (pc' := 143) rfl (hb hby at_139) (by decide) (by decide) ?_
                show Steps p.tables e below (T8.setTop (mkF m 143 #[.val (.int p0s), .val (.int p1s), .val (.int (p0s &&& (2147483647 : Int32))), .val (.int (0 : Int32)), .val (.long (((p0s &&& (2147483647 : Int32)) / (2 : Int32)).toInt64)), .second, .val (.long ((p0s &&& (2147483647 : Int32)).toInt64)), .second, .val (.int (1 : Int32)), .unset] [(.int (1 : Int32))])) _
                refine XS.istore X8.here hx rfl (hb hby at_143) rfl (l' := #[.val (.int p0s), .val (.int p1s), .val (.int (p0s &&& (2147483647 : Int32))), .val (.int (0 : Int32)), .val (.long (((p0s &&& (2147483647 : Int32)) / (2 : Int32)).toInt64)), .second, .val (.long ((p0s &&& (2147483647 : Int32)).toInt64)), .second, .val (.int (1 : Int32)), .val (.int (1 : Int32))]) rfl ?_
                show Steps p.tables e below (T8.setTop (mkF m 145 #[.val (.int p0s), .val (.int p1s), .val (.int (p0s &&& (2147483647 : Int32))), .val (.int (0 : Int32)), .val (.long (((p0s &&& (2147483647 : Int32)) / (2 : Int32)).toInt64)), .second, .val (.long ((p0s &&& (2147483647 : Int32)).toInt64)), .second, .val (.int (1 : Int32)), .val (.int (1 : Int32))] [])) _
                refine XS.iload X8.here hx rfl (hb hby at_145) rfl ?_
                show Steps p.tables e below (T8.setTop (mkF m 147 #[.val (.int p0s), .val (.int p1s), .val (.int (p0s &&& (2147483647 : Int32))), .val (.int (0 : Int32)), .val (.long (((p0s &&& (2147483647 : Int32)) / (2 : Int32)).toInt64)), .second, .val (.long ((p0s &&& (2147483647 : Int32)).toInt64)), .second, .val (.int (1 : Int32)), .val (.int (1 : Int32))] [(.int (1 : Int32))])) _
                refine XS.ifNo X8.here hx rfl (hb hby at_147) rfl ((if0 _ _).trans (feq (show ¬ ((1 : Int32) = (0 : Int32)) from by decide)).1) ?_
                show Steps p.tables e below (T8.setTop (mkF m 150 #[.val (.int p0s), .val (.int p1s), .val (.int (p0s &&& (2147483647 : Int32))), .val (.int (0 : Int32)), .val (.long (((p0s &&& (2147483647 : Int32)) / (2 : Int32)).toInt64)), .second, .val (.long ((p0s &&& (2147483647 : Int32)).toInt64)), .second, .val (.int (1 : Int32)), .val (.int (1 : Int32))] [])) _
                refine XS.iload X8.here hx rfl (hb hby at_150) rfl ?_
                show Steps p.tables e below (T8.setTop (mkF m 152 #[.val (.int p0s), .val (.int p1s), .val (.int (p0s &&& (2147483647 : Int32))), .val (.int (0 : Int32)), .val (.long (((p0s &&& (2147483647 : Int32)) / (2 : Int32)).toInt64)), .second, .val (.long ((p0s &&& (2147483647 : Int32)).toInt64)), .second, .val (.int (1 : Int32)), .val (.int (1 : Int32))] [(.int (1 : Int32))])) _
                refine XS.ifNo X8.here hx rfl (hb hby at_152) rfl ((if0 _ _).trans (feq (show ¬ ((1 : Int32) = (0 : Int32)) from by decide)).1) ?_
                show Steps p.tables e below (T8.setTop (mkF m 155 #[.val (.int p0s), .val (.int p1s), .val (.int (p0s &&& (2147483647 : Int32))), .val (.int (0 : Int32)), .val (.long (((p0s &&& (2147483647 : Int32)) / (2 : Int32)).toInt64)), .second, .val (.long ((p0s &&& (2147483647 : Int32)).toInt64)), .second, .val (.int (1 : Int32)), .val (.int (1 : Int32))] [])) _
                refine XS.iconst X8.here hx rfl (hb hby at_155) ?_
                show Steps p.tables e below (T8.setTop (mkF m 156 #[.val (.int p0s), .val (.int p1s), .val (.int (p0s &&& (2147483647 : Int32))), .val (.int (0 : Int32)), .val (.long (((p0s &&& (2147483647 : Int32)) / (2 : Int32)).toInt64)), .second, .val (.long ((p0s &&& (2147483647 : Int32)).toInt64)), .second, .val (.int (1 : Int32)), .val (.int (1 : Int32))] [(.int (1 : Int32))])) _
                refine XS.goto X8.here hx rfl (pc0 := 156) (pc' := 160) rfl (hb hby at_156) (by decide) (by decide) ?_
                exact k
              refine hG (own_fin X8 hlk (some (.int (nar .boolean (1 : Int32)))) (own_hv Bd.returns) ?_ (by decide) (by decide) (fun fs hr => r23 _ (retN X8 hx (t := .boolean) Bd.returns (by simp) (hb hby at_160) hr)))
              rw [I8_0]
              exact ⟨rfl, N8⟩
            · have r24 : own_R p.tables e below F0 (T8.setTop (mkF m 160 #[.val (.int p0s), .val (.int p1s), .val (.int (p0s &&& (2147483647 : Int32))), .val (.int (0 : Int32)), .val (.long (((p0s &&& (2147483647 : Int32)) / (2 : Int32)).toInt64)), .second, .val (.long ((p0s &&& (2147483647 : Int32)).toInt64)), .second, .val (.int (1 : Int32)), .val (.int (0 : Int32))] [(.int (0 : Int32))])) := fun t k => by
                refine r21 t ?_
                show Steps p.tables e below (T8.setTop (mkF m 135 #[.val (.int p0s), .val (.int p1s), .val (.int (p0s &&& (2147483647 : Int32))), .val (.int (0 : Int32)), .val (.long (((p0s &&& (2147483647 : Int32)) / (2 : Int32)).toInt64)), .second, .val (.long ((p0s &&& (2147483647 : Int32)).toInt64)), .second, .val (.int (1 : Int32)), .unset] [(.int (lcmpW ((2 : Int64) * ((((p0s &&& (2147483647 : Int32)) / (2 : Int32)).toInt64) + (1 : Int64))) ((p0s &&& (2147483647 : Int32)).toInt64)))])) _
                refine XS.ifYes X8.here hx rfl (pc0 := 135) (pc' := 142) rfl (hb hby at_135) rfl (own_l_ngt hc22).2 (by decide) (by decide) ?_
                show Steps p.tables e below (T8.setTop (mkF m 142 #[.val (.int p0s), .val (.int p1s), .val (.int (p0s &&& (2147483647 : Int32))), .val (.int (0 : Int32)), .val (.long (((p0s &&& (2147483647 : Int32)) / (2 : Int32)).toInt64)), .second, .val (.long ((p0s &&& (2147483647 : Int32)).toInt64)), .second, .val (.int (1 : Int32)), .unset] [])) _
                refine XS.iconst X8.here hx rfl (hb hby at_142) ?_
                show Steps p.tables e below (T8.setTop (mkF m 143 #[.val (.int p0s), .val (.int p1s), .val (.int (p0s &&& (2147483647 : Int32))), .val (.int (0 : Int32)), .val (.long (((p0s &&& (2147483647 : Int32)) / (2 : Int32)).toInt64)), .second, .val (.long ((p0s &&& (2147483647 : Int32)).toInt64)), .second, .val (.int (1 : Int32)), .unset] [(.int (0 : Int32))])) _
                refine XS.istore X8.here hx rfl (hb hby at_143) rfl (l' := #[.val (.int p0s), .val (.int p1s), .val (.int (p0s &&& (2147483647 : Int32))), .val (.int (0 : Int32)), .val (.long (((p0s &&& (2147483647 : Int32)) / (2 : Int32)).toInt64)), .second, .val (.long ((p0s &&& (2147483647 : Int32)).toInt64)), .second, .val (.int (1 : Int32)), .val (.int (0 : Int32))]) rfl ?_
                show Steps p.tables e below (T8.setTop (mkF m 145 #[.val (.int p0s), .val (.int p1s), .val (.int (p0s &&& (2147483647 : Int32))), .val (.int (0 : Int32)), .val (.long (((p0s &&& (2147483647 : Int32)) / (2 : Int32)).toInt64)), .second, .val (.long ((p0s &&& (2147483647 : Int32)).toInt64)), .second, .val (.int (1 : Int32)), .val (.int (0 : Int32))] [])) _
                refine XS.iload X8.here hx rfl (hb hby at_145) rfl ?_
                show Steps p.tables e below (T8.setTop (mkF m 147 #[.val (.int p0s), .val (.int p1s), .val (.int (p0s &&& (2147483647 : Int32))), .val (.int (0 : Int32)), .val (.long (((p0s &&& (2147483647 : Int32)) / (2 : Int32)).toInt64)), .second, .val (.long ((p0s &&& (2147483647 : Int32)).toInt64)), .second, .val (.int (1 : Int32)), .val (.int (0 : Int32))] [(.int (1 : Int32))])) _
                refine XS.ifNo X8.here hx rfl (hb hby at_147) rfl ((if0 _ _).trans (feq (show ¬ ((1 : Int32) = (0 : Int32)) from by decide)).1) ?_
                show Steps p.tables e below (T8.setTop (mkF m 150 #[.val (.int p0s), .val (.int p1s), .val (.int (p0s &&& (2147483647 : Int32))), .val (.int (0 : Int32)), .val (.long (((p0s &&& (2147483647 : Int32)) / (2 : Int32)).toInt64)), .second, .val (.long ((p0s &&& (2147483647 : Int32)).toInt64)), .second, .val (.int (1 : Int32)), .val (.int (0 : Int32))] [])) _
                refine XS.iload X8.here hx rfl (hb hby at_150) rfl ?_
                show Steps p.tables e below (T8.setTop (mkF m 152 #[.val (.int p0s), .val (.int p1s), .val (.int (p0s &&& (2147483647 : Int32))), .val (.int (0 : Int32)), .val (.long (((p0s &&& (2147483647 : Int32)) / (2 : Int32)).toInt64)), .second, .val (.long ((p0s &&& (2147483647 : Int32)).toInt64)), .second, .val (.int (1 : Int32)), .val (.int (0 : Int32))] [(.int (0 : Int32))])) _
                refine XS.ifYes X8.here hx rfl (pc0 := 152) (pc' := 159) rfl (hb hby at_152) rfl ((if0 _ _).trans (teq (show (0 : Int32) = (0 : Int32) from by decide)).1) (by decide) (by decide) ?_
                show Steps p.tables e below (T8.setTop (mkF m 159 #[.val (.int p0s), .val (.int p1s), .val (.int (p0s &&& (2147483647 : Int32))), .val (.int (0 : Int32)), .val (.long (((p0s &&& (2147483647 : Int32)) / (2 : Int32)).toInt64)), .second, .val (.long ((p0s &&& (2147483647 : Int32)).toInt64)), .second, .val (.int (1 : Int32)), .val (.int (0 : Int32))] [])) _
                refine XS.iconst X8.here hx rfl (hb hby at_159) ?_
                exact k
              exfalso
              have := rng32 p1s
              have := (show (1 : Int32).toInt = 1 from by decide)
              have := rng32 (p1s &&& (1 : Int32))
              have := own_mask p1s (1 : Int32) 1 2 (by decide) (by decide) (by decide)
              have := (show (0 : Int32).toInt = 0 from by decide)
              have := rng32 p0s
              have := (show (2147483647 : Int32).toInt = 2147483647 from by decide)
              have := rng32 (p0s &&& (2147483647 : Int32))
              have := own_mask p0s (2147483647 : Int32) 31 2147483648 (by decide) (by decide) (by decide)
              have := (show (2 : Int32).toInt = 2 from by decide)
              have := rng32 ((p0s &&& (2147483647 : Int32)) / (2 : Int32))
              have := c_idiv (p0s &&& (2147483647 : Int32)) (2 : Int32) 2 (by decide) (by decide)
              have := rng64 (((p0s &&& (2147483647 : Int32)) / (2 : Int32)).toInt64)
              have := c_i2l ((p0s &&& (2147483647 : Int32)) / (2 : Int32))
              have := (show (0 : Int64).toInt = 0 from by decide)
              have := rng64 ((p0s &&& (2147483647 : Int32)).toInt64)
              have := c_i2l (p0s &&& (2147483647 : Int32))
              have := (show (2 : Int64).toInt = 2 from by decide)
              have := rng64 ((2 : Int64) * (((p0s &&& (2147483647 : Int32)) / (2 : Int32)).toInt64))
              have := own_lmulc' (2 : Int64) (((p0s &&& (2147483647 : Int32)) / (2 : Int32)).toInt64) (2) (by decide)
              have := (show (1 : Int64).toInt = 1 from by decide)
              have := rng64 ((((p0s &&& (2147483647 : Int32)) / (2 : Int32)).toInt64) + (1 : Int64))
              have := c_ladd (((p0s &&& (2147483647 : Int32)) / (2 : Int32)).toInt64) (1 : Int64)
              have := rng64 ((2 : Int64) * ((((p0s &&& (2147483647 : Int32)) / (2 : Int32)).toInt64) + (1 : Int64)))
              have := own_lmulc' (2 : Int64) ((((p0s &&& (2147483647 : Int32)) / (2 : Int32)).toInt64) + (1 : Int64)) (2) (by decide)
              have := own_eq32 hc6
              have := own_eq32 hc9
              have := own_nlt64 hc13
              have := own_nlt64 hc16
              have := own_nlt64 hc22
              omega
      · have ev25 : (own_part (p0s &&& (2147483647 : Int32)) (0 : Int32)) = (((p0s &&& (2147483647 : Int32)) - (1 : Int32)) / (2 : Int32)) := by unfold own_part; rw [if_neg hc9]
        have r26 : own_R p.tables e below F0 (T8.setTop (mkF m 22 #[.val (.int p0s), .val (.int p1s), .val (.int (p0s &&& (2147483647 : Int32))), .val (.int (0 : Int32)), .unset, .unset, .unset, .unset, .unset, .unset] [(.int (((p0s &&& (2147483647 : Int32)) - (1 : Int32)) / (2 : Int32)))])) := ev25 ▸ r8
        obtain ⟨z27, hz27⟩ : ∃ z : Int64, z = ((((p0s &&& (2147483647 : Int32)) - (1 : Int32)) / (2 : Int32)).toInt64) := ⟨_, rfl⟩
        have r28 : own_R p.tables e below F0 (T8.setTop (mkF m 33 #[.val (.int p0s), .val (.int p1s), .val (.int (p0s &&& (2147483647 : Int32))), .val (.int (0 : Int32)), .val (.long z27), .second, .val (.long ((p0s &&& (2147483647 : Int32)).toInt64)), .second, .unset, .unset] [(.int (lcmpW z27 (0 : Int64)))])) := fun t k => by
          refine r26 t ?_
          show Steps p.tables e below (T8.setTop (mkF m 22 #[.val (.int p0s), .val (.int p1s), .val (.int (p0s &&& (2147483647 : Int32))), .val (.int (0 : Int32)), .unset, .unset, .unset, .unset, .unset, .unset] [(.int (((p0s &&& (2147483647 : Int32)) - (1 : Int32)) / (2 : Int32)))])) _
          refine XS.i2l X8.here hx rfl (hb hby at_22) rfl ?_
          show Steps p.tables e below (T8.setTop (mkF m 23 #[.val (.int p0s), .val (.int p1s), .val (.int (p0s &&& (2147483647 : Int32))), .val (.int (0 : Int32)), .unset, .unset, .unset, .unset, .unset, .unset] [(.long ((((p0s &&& (2147483647 : Int32)) - (1 : Int32)) / (2 : Int32)).toInt64))])) _
          refine XS.lstore X8.here hx rfl (hb hby at_23) (x := z27) (rest := []) (by subst hz27; rfl) (l' := #[.val (.int p0s), .val (.int p1s), .val (.int (p0s &&& (2147483647 : Int32))), .val (.int (0 : Int32)), .val (.long z27), .second, .unset, .unset, .unset, .unset]) rfl ?_
          show Steps p.tables e below (T8.setTop (mkF m 25 #[.val (.int p0s), .val (.int p1s), .val (.int (p0s &&& (2147483647 : Int32))), .val (.int (0 : Int32)), .val (.long z27), .second, .unset, .unset, .unset, .unset] [])) _
          refine XS.iloadN X8.here hx rfl (hb hby at_25) rfl ?_
          show Steps p.tables e below (T8.setTop (mkF m 26 #[.val (.int p0s), .val (.int p1s), .val (.int (p0s &&& (2147483647 : Int32))), .val (.int (0 : Int32)), .val (.long z27), .second, .unset, .unset, .unset, .unset] [(.int (p0s &&& (2147483647 : Int32)))])) _
          refine XS.i2l X8.here hx rfl (hb hby at_26) rfl ?_
          show Steps p.tables e below (T8.setTop (mkF m 27 #[.val (.int p0s), .val (.int p1s), .val (.int (p0s &&& (2147483647 : Int32))), .val (.int (0 : Int32)), .val (.long z27), .second, .unset, .unset, .unset, .unset] [(.long ((p0s &&& (2147483647 : Int32)).toInt64))])) _
          refine XS.lstore X8.here hx rfl (hb hby at_27) rfl (l' := #[.val (.int p0s), .val (.int p1s), .val (.int (p0s &&& (2147483647 : Int32))), .val (.int (0 : Int32)), .val (.long z27), .second, .val (.long ((p0s &&& (2147483647 : Int32)).toInt64)), .second, .unset, .unset]) rfl ?_
          show Steps p.tables e below (T8.setTop (mkF m 29 #[.val (.int p0s), .val (.int p1s), .val (.int (p0s &&& (2147483647 : Int32))), .val (.int (0 : Int32)), .val (.long z27), .second, .val (.long ((p0s &&& (2147483647 : Int32)).toInt64)), .second, .unset, .unset] [])) _
          refine XS.lload X8.here hx rfl (hb hby at_29) rfl ?_
          show Steps p.tables e below (T8.setTop (mkF m 31 #[.val (.int p0s), .val (.int p1s), .val (.int (p0s &&& (2147483647 : Int32))), .val (.int (0 : Int32)), .val (.long z27), .second, .val (.long ((p0s &&& (2147483647 : Int32)).toInt64)), .second, .unset, .unset] [(.long z27)])) _
          refine XS.lconst X8.here hx rfl (hb hby at_31) ?_
          show Steps p.tables e below (T8.setTop (mkF m 32 #[.val (.int p0s), .val (.int p1s), .val (.int (p0s &&& (2147483647 : Int32))), .val (.int (0 : Int32)), .val (.long z27), .second, .val (.long ((p0s &&& (2147483647 : Int32)).toInt64)), .second, .unset, .unset] [(.long (0 : Int64)), (.long z27)])) _
          refine XS.lcmp X8.here hx rfl (hb hby at_32) rfl ?_
          exact k
        by_cases hc29 : z27 < (0 : Int64)
        · have r30 : own_R p.tables e below F0 (T8.setTop (mkF m 37 #[.val (.int p0s), .val (.int p1s), .val (.int (p0s &&& (2147483647 : Int32))), .val (.int (0 : Int32)), .val (.long z27), .second, .val (.long ((p0s &&& (2147483647 : Int32)).toInt64)), .second, .unset, .unset] [(.int (0 : Int32))])) := fun t k => by
            refine r28 t ?_
            show Steps p.tables e below (T8.setTop (mkF m 33 #[.val (.int p0s), .val (.int p1s), .val (.int (p0s &&& (2147483647 : Int32))), .val (.int (0 : Int32)), .val (.long z27), .second, .val (.long ((p0s &&& (2147483647 : Int32)).toInt64)), .second, .unset, .unset] [(.int (lcmpW z27 (0 : Int64)))])) _
            refine XS.ifNo X8.here hx rfl (hb hby at_33) rfl (own_l_lt hc29).2 ?_
            show Steps p.tables e below (T8.setTop (mkF m 36 #[.val (.int p0s), .val (.int p1s), .val (.int (p0s &&& (2147483647 : Int32))), .val (.int (0 : Int32)), .val (.long z27), .second, .val (.long ((p0s &&& (2147483647 : Int32)).toInt64)), .second, .unset, .unset] [])) _
            refine XS.iconst X8.here hx rfl (hb hby at_36) ?_
            exact k
          exfalso
          have := rng32 p1s
          have := (show (1 : Int32).toInt = 1 from by decide)
          have := rng32 (p1s &&& (1 : Int32))
          have := own_mask p1s (1 : Int32) 1 2 (by decide) (by decide) (by decide)
          have := (show (0 : Int32).toInt = 0 from by decide)
          have := rng64 z27
          have := rng32 p0s
          have := (show (2147483647 : Int32).toInt = 2147483647 from by decide)
          have := rng32 (p0s &&& (2147483647 : Int32))
          have := own_mask p0s (2147483647 : Int32) 31 2147483648 (by decide) (by decide) (by decide)
          have := rng32 ((p0s &&& (2147483647 : Int32)) - (1 : Int32))
          have := c_isub (p0s &&& (2147483647 : Int32)) (1 : Int32)
          have := (show (2 : Int32).toInt = 2 from by decide)
          have := rng32 (((p0s &&& (2147483647 : Int32)) - (1 : Int32)) / (2 : Int32))
          have := c_idiv ((p0s &&& (2147483647 : Int32)) - (1 : Int32)) (2 : Int32) 2 (by decide) (by decide)
          have := rng64 ((((p0s &&& (2147483647 : Int32)) - (1 : Int32)) / (2 : Int32)).toInt64)
          have := c_i2l (((p0s &&& (2147483647 : Int32)) - (1 : Int32)) / (2 : Int32))
          have := own_eq64 hz27
          have := (show (0 : Int64).toInt = 0 from by decide)
          have := own_eq32 hc6
          have := own_ne32 hc9
          have := own_lt64 hc29
          omega
        · have r31 : own_R p.tables e below F0 (T8.setTop (mkF m 114 #[.val (.int p0s), .val (.int p1s), .val (.int (p0s &&& (2147483647 : Int32))), .val (.int (0 : Int32)), .val (.long z27), .second, .val (.long ((p0s &&& (2147483647 : Int32)).toInt64)), .second, .unset, .unset] [(.int (lcmpW ((2 : Int64) * z27) ((p0s &&& (2147483647 : Int32)).toInt64)))])) := fun t k => by
            refine r28 t ?_
            show Steps p.tables e below (T8.setTop (mkF m 33 #[.val (.int p0s), .val (.int p1s), .val (.int (p0s &&& (2147483647 : Int32))), .val (.int (0 : Int32)), .val (.long z27), .second, .val (.long ((p0s &&& (2147483647 : Int32)).toInt64)), .second, .unset, .unset] [(.int (lcmpW z27 (0 : Int64)))])) _
            refine XS.ifYes X8.here hx rfl (pc0 := 33) (pc' := 38) rfl (hb hby at_33) rfl (own_l_nlt hc29).2 (by decide) (by decide) ?_
            show Steps p.tables e below (T8.setTop (mkF m 38 #[.val (.int p0s), .val (.int p1s), .val (.int (p0s &&& (2147483647 : Int32))), .val (.int (0 : Int32)), .val (.long z27), .second, .val (.long ((p0s &&& (2147483647 : Int32)).toInt64)), .second, .unset, .unset] [])) _
            refine XS.iloadN X8.here hx rfl (hb hby at_38) rfl ?_
            show Steps p.tables e below (T8.setTop (mkF m 39 #[.val (.int p0s), .val (.int p1s), .val (.int (p0s &&& (2147483647 : Int32))), .val (.int (0 : Int32)), .val (.long z27), .second, .val (.long ((p0s &&& (2147483647 : Int32)).toInt64)), .second, .unset, .unset] [(.int (0 : Int32))])) _
            refine XS.ifYes X8.here hx rfl (pc0 := 39) (pc' := 105) rfl (hb hby at_39) rfl ((if0 _ _).trans (teq (show (0 : Int32) = (0 : Int32) from by decide)).1) (by decide) (by decide) ?_
            show Steps p.tables e below (T8.setTop (mkF m 105 #[.val (.int p0s), .val (.int p1s), .val (.int (p0s &&& (2147483647 : Int32))), .val (.int (0 : Int32)), .val (.long z27), .second, .val (.long ((p0s &&& (2147483647 : Int32)).toInt64)), .second, .unset, .unset] [])) _
            refine X8.ldc2J hx hown (mvT hZ (hw _ (List.mem_of_getElem? (i := 5) rfl))) rfl (hb hby at_105) ?_
            show Steps p.tables e below (T8.setTop (mkF m 108 #[.val (.int p0s), .val (.int p1s), .val (.int (p0s &&& (2147483647 : Int32))), .val (.int (0 : Int32)), .val (.long z27), .second, .val (.long ((p0s &&& (2147483647 : Int32)).toInt64)), .second, .unset, .unset] [(.long (2 : Int64))])) _
            refine XS.lload X8.here hx rfl (hb hby at_108) rfl ?_
            show Steps p.tables e below (T8.setTop (mkF m 110 #[.val (.int p0s), .val (.int p1s), .val (.int (p0s &&& (2147483647 : Int32))), .val (.int (0 : Int32)), .val (.long z27), .second, .val (.long ((p0s &&& (2147483647 : Int32)).toInt64)), .second, .unset, .unset] [(.long z27), (.long (2 : Int64))])) _
            refine XS.lmul X8.here hx rfl (hb hby at_110) rfl ?_
            show Steps p.tables e below (T8.setTop (mkF m 111 #[.val (.int p0s), .val (.int p1s), .val (.int (p0s &&& (2147483647 : Int32))), .val (.int (0 : Int32)), .val (.long z27), .second, .val (.long ((p0s &&& (2147483647 : Int32)).toInt64)), .second, .unset, .unset] [(.long ((2 : Int64) * z27))])) _
            refine XS.lload X8.here hx rfl (hb hby at_111) rfl ?_
            show Steps p.tables e below (T8.setTop (mkF m 113 #[.val (.int p0s), .val (.int p1s), .val (.int (p0s &&& (2147483647 : Int32))), .val (.int (0 : Int32)), .val (.long z27), .second, .val (.long ((p0s &&& (2147483647 : Int32)).toInt64)), .second, .unset, .unset] [(.long ((p0s &&& (2147483647 : Int32)).toInt64)), (.long ((2 : Int64) * z27))])) _
            refine XS.lcmp X8.here hx rfl (hb hby at_113) rfl ?_
            exact k
          by_cases hc32 : ((p0s &&& (2147483647 : Int32)).toInt64) < ((2 : Int64) * z27)
          · have r33 : own_R p.tables e below F0 (T8.setTop (mkF m 135 #[.val (.int p0s), .val (.int p1s), .val (.int (p0s &&& (2147483647 : Int32))), .val (.int (0 : Int32)), .val (.long z27), .second, .val (.long ((p0s &&& (2147483647 : Int32)).toInt64)), .second, .val (.int (0 : Int32)), .unset] [(.int (lcmpW ((2 : Int64) * (z27 + (1 : Int64))) ((p0s &&& (2147483647 : Int32)).toInt64)))])) := fun t k => by
              refine r31 t ?_
              show Steps p.tables e below (T8.setTop (mkF m 114 #[.val (.int p0s), .val (.int p1s), .val (.int (p0s &&& (2147483647 : Int32))), .val (.int (0 : Int32)), .val (.long z27), .second, .val (.long ((p0s &&& (2147483647 : Int32)).toInt64)), .second, .unset, .unset] [(.int (lcmpW ((2 : Int64) * z27) ((p0s &&& (2147483647 : Int32)).toInt64)))])) _
              refine XS.ifYes X8.here hx rfl (pc0 := 114) (pc' := 121) rfl (hb hby at_114) rfl (own_l_gt hc32).1 (by decide) (by decide) ?_
              show Steps p.tables e below (T8.setTop (mkF m 121 #[.val (.int p0s), .val (.int p1s), .val (.int (p0s &&& (2147483647 : Int32))), .val (.int (0 : Int32)), .val (.long z27), .second, .val (.long ((p0s &&& (2147483647 : Int32)).toInt64)), .second, .unset, .unset] [])) _
              refine XS.iconst X8.here hx rfl (hb hby at_121) ?_
              show Steps p.tables e below (T8.setTop (mkF m 122 #[.val (.int p0s), .val (.int p1s), .val (.int (p0s &&& (2147483647 : Int32))), .val (.int (0 : Int32)), .val (.long z27), .second, .val (.long ((p0s &&& (2147483647 : Int32)).toInt64)), .second, .unset, .unset] [(.int (0 : Int32))])) _
              refine XS.istore X8.here hx rfl (hb hby at_122) rfl (l' := #[.val (.int p0s), .val (.int p1s), .val (.int (p0s &&& (2147483647 : Int32))), .val (.int (0 : Int32)), .val (.long z27), .second, .val (.long ((p0s &&& (2147483647 : Int32)).toInt64)), .second, .val (.int (0 : Int32)), .unset]) rfl ?_
              show Steps p.tables e below (T8.setTop (mkF m 124 #[.val (.int p0s), .val (.int p1s), .val (.int (p0s &&& (2147483647 : Int32))), .val (.int (0 : Int32)), .val (.long z27), .second, .val (.long ((p0s &&& (2147483647 : Int32)).toInt64)), .second, .val (.int (0 : Int32)), .unset] [])) _
              refine X8.ldc2J hx hown (mvT hZ (hw _ (List.mem_of_getElem? (i := 5) rfl))) rfl (hb hby at_124) ?_
              show Steps p.tables e below (T8.setTop (mkF m 127 #[.val (.int p0s), .val (.int p1s), .val (.int (p0s &&& (2147483647 : Int32))), .val (.int (0 : Int32)), .val (.long z27), .second, .val (.long ((p0s &&& (2147483647 : Int32)).toInt64)), .second, .val (.int (0 : Int32)), .unset] [(.long (2 : Int64))])) _
              refine XS.lload X8.here hx rfl (hb hby at_127) rfl ?_
              show Steps p.tables e below (T8.setTop (mkF m 129 #[.val (.int p0s), .val (.int p1s), .val (.int (p0s &&& (2147483647 : Int32))), .val (.int (0 : Int32)), .val (.long z27), .second, .val (.long ((p0s &&& (2147483647 : Int32)).toInt64)), .second, .val (.int (0 : Int32)), .unset] [(.long z27), (.long (2 : Int64))])) _
              refine XS.lconst X8.here hx rfl (hb hby at_129) ?_
              show Steps p.tables e below (T8.setTop (mkF m 130 #[.val (.int p0s), .val (.int p1s), .val (.int (p0s &&& (2147483647 : Int32))), .val (.int (0 : Int32)), .val (.long z27), .second, .val (.long ((p0s &&& (2147483647 : Int32)).toInt64)), .second, .val (.int (0 : Int32)), .unset] [(.long (1 : Int64)), (.long z27), (.long (2 : Int64))])) _
              refine XS.ladd X8.here hx rfl (hb hby at_130) rfl ?_
              show Steps p.tables e below (T8.setTop (mkF m 131 #[.val (.int p0s), .val (.int p1s), .val (.int (p0s &&& (2147483647 : Int32))), .val (.int (0 : Int32)), .val (.long z27), .second, .val (.long ((p0s &&& (2147483647 : Int32)).toInt64)), .second, .val (.int (0 : Int32)), .unset] [(.long (z27 + (1 : Int64))), (.long (2 : Int64))])) _
              refine XS.lmul X8.here hx rfl (hb hby at_131) rfl ?_
              show Steps p.tables e below (T8.setTop (mkF m 132 #[.val (.int p0s), .val (.int p1s), .val (.int (p0s &&& (2147483647 : Int32))), .val (.int (0 : Int32)), .val (.long z27), .second, .val (.long ((p0s &&& (2147483647 : Int32)).toInt64)), .second, .val (.int (0 : Int32)), .unset] [(.long ((2 : Int64) * (z27 + (1 : Int64))))])) _
              refine XS.lload X8.here hx rfl (hb hby at_132) rfl ?_
              show Steps p.tables e below (T8.setTop (mkF m 134 #[.val (.int p0s), .val (.int p1s), .val (.int (p0s &&& (2147483647 : Int32))), .val (.int (0 : Int32)), .val (.long z27), .second, .val (.long ((p0s &&& (2147483647 : Int32)).toInt64)), .second, .val (.int (0 : Int32)), .unset] [(.long ((p0s &&& (2147483647 : Int32)).toInt64)), (.long ((2 : Int64) * (z27 + (1 : Int64))))])) _
              refine XS.lcmp X8.here hx rfl (hb hby at_134) rfl ?_
              exact k
            by_cases hc34 : ((p0s &&& (2147483647 : Int32)).toInt64) < ((2 : Int64) * (z27 + (1 : Int64)))
            · have r35 : own_R p.tables e below F0 (T8.setTop (mkF m 160 #[.val (.int p0s), .val (.int p1s), .val (.int (p0s &&& (2147483647 : Int32))), .val (.int (0 : Int32)), .val (.long z27), .second, .val (.long ((p0s &&& (2147483647 : Int32)).toInt64)), .second, .val (.int (0 : Int32)), .val (.int (1 : Int32))] [(.int (0 : Int32))])) := fun t k => by
                refine r33 t ?_
                show Steps p.tables e below (T8.setTop (mkF m 135 #[.val (.int p0s), .val (.int p1s), .val (.int (p0s &&& (2147483647 : Int32))), .val (.int (0 : Int32)), .val (.long z27), .second, .val (.long ((p0s &&& (2147483647 : Int32)).toInt64)), .second, .val (.int (0 : Int32)), .unset] [(.int (lcmpW ((2 : Int64) * (z27 + (1 : Int64))) ((p0s &&& (2147483647 : Int32)).toInt64)))])) _
                refine XS.ifNo X8.here hx rfl (hb hby at_135) rfl (own_l_gt hc34).2 ?_
                show Steps p.tables e below (T8.setTop (mkF m 138 #[.val (.int p0s), .val (.int p1s), .val (.int (p0s &&& (2147483647 : Int32))), .val (.int (0 : Int32)), .val (.long z27), .second, .val (.long ((p0s &&& (2147483647 : Int32)).toInt64)), .second, .val (.int (0 : Int32)), .unset] [])) _
                refine XS.iconst X8.here hx rfl (hb hby at_138) ?_
                show Steps p.tables e below (T8.setTop (mkF m 139 #[.val (.int p0s), .val (.int p1s), .val (.int (p0s &&& (2147483647 : Int32))), .val (.int (0 : Int32)), .val (.long z27), .second, .val (.long ((p0s &&& (2147483647 : Int32)).toInt64)), .second, .val (.int (0 : Int32)), .unset] [(.int (1 : Int32))])) _
                refine XS.goto X8.here hx rfl (pc0 := 139) (pc' := 143) rfl (hb hby at_139) (by decide) (by decide) ?_
                show Steps p.tables e below (T8.setTop (mkF m 143 #[.val (.int p0s), .val (.int p1s), .val (.int (p0s &&& (2147483647 : Int32))), .val (.int (0 : Int32)), .val (.long z27), .second, .val (.long ((p0s &&& (2147483647 : Int32)).toInt64)), .second, .val (.int (0 : Int32)), .unset] [(.int (1 : Int32))])) _
                refine XS.istore X8.here hx rfl (hb hby at_143) rfl (l' := #[.val (.int p0s), .val (.int p1s), .val (.int (p0s &&& (2147483647 : Int32))), .val (.int (0 : Int32)), .val (.long z27), .second, .val (.long ((p0s &&& (2147483647 : Int32)).toInt64)), .second, .val (.int (0 : Int32)), .val (.int (1 : Int32))]) rfl ?_
                show Steps p.tables e below (T8.setTop (mkF m 145 #[.val (.int p0s), .val (.int p1s), .val (.int (p0s &&& (2147483647 : Int32))), .val (.int (0 : Int32)), .val (.long z27), .second, .val (.long ((p0s &&& (2147483647 : Int32)).toInt64)), .second, .val (.int (0 : Int32)), .val (.int (1 : Int32))] [])) _
                refine XS.iload X8.here hx rfl (hb hby at_145) rfl ?_
                show Steps p.tables e below (T8.setTop (mkF m 147 #[.val (.int p0s), .val (.int p1s), .val (.int (p0s &&& (2147483647 : Int32))), .val (.int (0 : Int32)), .val (.long z27), .second, .val (.long ((p0s &&& (2147483647 : Int32)).toInt64)), .second, .val (.int (0 : Int32)), .val (.int (1 : Int32))] [(.int (0 : Int32))])) _
                refine XS.ifYes X8.here hx rfl (pc0 := 147) (pc' := 159) rfl (hb hby at_147) rfl ((if0 _ _).trans (teq (show (0 : Int32) = (0 : Int32) from by decide)).1) (by decide) (by decide) ?_
                show Steps p.tables e below (T8.setTop (mkF m 159 #[.val (.int p0s), .val (.int p1s), .val (.int (p0s &&& (2147483647 : Int32))), .val (.int (0 : Int32)), .val (.long z27), .second, .val (.long ((p0s &&& (2147483647 : Int32)).toInt64)), .second, .val (.int (0 : Int32)), .val (.int (1 : Int32))] [])) _
                refine XS.iconst X8.here hx rfl (hb hby at_159) ?_
                exact k
              exfalso
              have := rng32 p1s
              have := (show (1 : Int32).toInt = 1 from by decide)
              have := rng32 (p1s &&& (1 : Int32))
              have := own_mask p1s (1 : Int32) 1 2 (by decide) (by decide) (by decide)
              have := (show (0 : Int32).toInt = 0 from by decide)
              have := rng64 z27
              have := rng32 p0s
              have := (show (2147483647 : Int32).toInt = 2147483647 from by decide)
              have := rng32 (p0s &&& (2147483647 : Int32))
              have := own_mask p0s (2147483647 : Int32) 31 2147483648 (by decide) (by decide) (by decide)
              have := rng32 ((p0s &&& (2147483647 : Int32)) - (1 : Int32))
              have := c_isub (p0s &&& (2147483647 : Int32)) (1 : Int32)
              have := (show (2 : Int32).toInt = 2 from by decide)
              have := rng32 (((p0s &&& (2147483647 : Int32)) - (1 : Int32)) / (2 : Int32))
              have := c_idiv ((p0s &&& (2147483647 : Int32)) - (1 : Int32)) (2 : Int32) 2 (by decide) (by decide)
              have := rng64 ((((p0s &&& (2147483647 : Int32)) - (1 : Int32)) / (2 : Int32)).toInt64)
              have := c_i2l (((p0s &&& (2147483647 : Int32)) - (1 : Int32)) / (2 : Int32))
              have := own_eq64 hz27
              have := (show (0 : Int64).toInt = 0 from by decide)
              have := rng64 ((p0s &&& (2147483647 : Int32)).toInt64)
              have := c_i2l (p0s &&& (2147483647 : Int32))
              have := (show (2 : Int64).toInt = 2 from by decide)
              have := rng64 ((2 : Int64) * z27)
              have := own_lmulc' (2 : Int64) z27 (2) (by decide)
              have := (show (1 : Int64).toInt = 1 from by decide)
              have := rng64 (z27 + (1 : Int64))
              have := c_ladd z27 (1 : Int64)
              have := rng64 ((2 : Int64) * (z27 + (1 : Int64)))
              have := own_lmulc' (2 : Int64) (z27 + (1 : Int64)) (2) (by decide)
              have := own_eq32 hc6
              have := own_ne32 hc9
              have := own_nlt64 hc29
              have := own_lt64 hc32
              have := own_lt64 hc34
              omega
            · have r36 : own_R p.tables e below F0 (T8.setTop (mkF m 160 #[.val (.int p0s), .val (.int p1s), .val (.int (p0s &&& (2147483647 : Int32))), .val (.int (0 : Int32)), .val (.long z27), .second, .val (.long ((p0s &&& (2147483647 : Int32)).toInt64)), .second, .val (.int (0 : Int32)), .val (.int (0 : Int32))] [(.int (0 : Int32))])) := fun t k => by
                refine r33 t ?_
                show Steps p.tables e below (T8.setTop (mkF m 135 #[.val (.int p0s), .val (.int p1s), .val (.int (p0s &&& (2147483647 : Int32))), .val (.int (0 : Int32)), .val (.long z27), .second, .val (.long ((p0s &&& (2147483647 : Int32)).toInt64)), .second, .val (.int (0 : Int32)), .unset] [(.int (lcmpW ((2 : Int64) * (z27 + (1 : Int64))) ((p0s &&& (2147483647 : Int32)).toInt64)))])) _
                refine XS.ifYes X8.here hx rfl (pc0 := 135) (pc' := 142) rfl (hb hby at_135) rfl (own_l_ngt hc34).2 (by decide) (by decide) ?_
                show Steps p.tables e below (T8.setTop (mkF m 142 #[.val (.int p0s), .val (.int p1s), .val (.int (p0s &&& (2147483647 : Int32))), .val (.int (0 : Int32)), .val (.long z27), .second, .val (.long ((p0s &&& (2147483647 : Int32)).toInt64)), .second, .val (.int (0 : Int32)), .unset] [])) _
                refine XS.iconst X8.here hx rfl (hb hby at_142) ?_
                show Steps p.tables e below (T8.setTop (mkF m 143 #[.val (.int p0s), .val (.int p1s), .val (.int (p0s &&& (2147483647 : Int32))), .val (.int (0 : Int32)), .val (.long z27), .second, .val (.long ((p0s &&& (2147483647 : Int32)).toInt64)), .second, .val (.int (0 : Int32)), .unset] [(.int (0 : Int32))])) _
                refine XS.istore X8.here hx rfl (hb hby at_143) rfl (l' := #[.val (.int p0s), .val (.int p1s), .val (.int (p0s &&& (2147483647 : Int32))), .val (.int (0 : Int32)), .val (.long z27), .second, .val (.long ((p0s &&& (2147483647 : Int32)).toInt64)), .second, .val (.int (0 : Int32)), .val (.int (0 : Int32))]) rfl ?_
                show Steps p.tables e below (T8.setTop (mkF m 145 #[.val (.int p0s), .val (.int p1s), .val (.int (p0s &&& (2147483647 : Int32))), .val (.int (0 : Int32)), .val (.long z27), .second, .val (.long ((p0s &&& (2147483647 : Int32)).toInt64)), .second, .val (.int (0 : Int32)), .val (.int (0 : Int32))] [])) _
                refine XS.iload X8.here hx rfl (hb hby at_145) rfl ?_
                show Steps p.tables e below (T8.setTop (mkF m 147 #[.val (.int p0s), .val (.int p1s), .val (.int (p0s &&& (2147483647 : Int32))), .val (.int (0 : Int32)), .val (.long z27), .second, .val (.long ((p0s &&& (2147483647 : Int32)).toInt64)), .second, .val (.int (0 : Int32)), .val (.int (0 : Int32))] [(.int (0 : Int32))])) _
                refine XS.ifYes X8.here hx rfl (pc0 := 147) (pc' := 159) rfl (hb hby at_147) rfl ((if0 _ _).trans (teq (show (0 : Int32) = (0 : Int32) from by decide)).1) (by decide) (by decide) ?_
                show Steps p.tables e below (T8.setTop (mkF m 159 #[.val (.int p0s), .val (.int p1s), .val (.int (p0s &&& (2147483647 : Int32))), .val (.int (0 : Int32)), .val (.long z27), .second, .val (.long ((p0s &&& (2147483647 : Int32)).toInt64)), .second, .val (.int (0 : Int32)), .val (.int (0 : Int32))] [])) _
                refine XS.iconst X8.here hx rfl (hb hby at_159) ?_
                exact k
              exfalso
              have := rng32 p1s
              have := (show (1 : Int32).toInt = 1 from by decide)
              have := rng32 (p1s &&& (1 : Int32))
              have := own_mask p1s (1 : Int32) 1 2 (by decide) (by decide) (by decide)
              have := (show (0 : Int32).toInt = 0 from by decide)
              have := rng64 z27
              have := rng32 p0s
              have := (show (2147483647 : Int32).toInt = 2147483647 from by decide)
              have := rng32 (p0s &&& (2147483647 : Int32))
              have := own_mask p0s (2147483647 : Int32) 31 2147483648 (by decide) (by decide) (by decide)
              have := rng32 ((p0s &&& (2147483647 : Int32)) - (1 : Int32))
              have := c_isub (p0s &&& (2147483647 : Int32)) (1 : Int32)
              have := (show (2 : Int32).toInt = 2 from by decide)
              have := rng32 (((p0s &&& (2147483647 : Int32)) - (1 : Int32)) / (2 : Int32))
              have := c_idiv ((p0s &&& (2147483647 : Int32)) - (1 : Int32)) (2 : Int32) 2 (by decide) (by decide)
              have := rng64 ((((p0s &&& (2147483647 : Int32)) - (1 : Int32)) / (2 : Int32)).toInt64)
              have := c_i2l (((p0s &&& (2147483647 : Int32)) - (1 : Int32)) / (2 : Int32))
              have := own_eq64 hz27
              have := (show (0 : Int64).toInt = 0 from by decide)
              have := rng64 ((p0s &&& (2147483647 : Int32)).toInt64)
              have := c_i2l (p0s &&& (2147483647 : Int32))
              have := (show (2 : Int64).toInt = 2 from by decide)
              have := rng64 ((2 : Int64) * z27)
              have := own_lmulc' (2 : Int64) z27 (2) (by decide)
              have := (show (1 : Int64).toInt = 1 from by decide)
              have := rng64 (z27 + (1 : Int64))
              have := c_ladd z27 (1 : Int64)
              have := rng64 ((2 : Int64) * (z27 + (1 : Int64)))
              have := own_lmulc' (2 : Int64) (z27 + (1 : Int64)) (2) (by decide)
              have := own_eq32 hc6
              have := own_ne32 hc9
              have := own_nlt64 hc29
              have := own_lt64 hc32
              have := own_nlt64 hc34
              omega
          · have r37 : own_R p.tables e below F0 (T8.setTop (mkF m 135 #[.val (.int p0s), .val (.int p1s), .val (.int (p0s &&& (2147483647 : Int32))), .val (.int (0 : Int32)), .val (.long z27), .second, .val (.long ((p0s &&& (2147483647 : Int32)).toInt64)), .second, .val (.int (1 : Int32)), .unset] [(.int (lcmpW ((2 : Int64) * (z27 + (1 : Int64))) ((p0s &&& (2147483647 : Int32)).toInt64)))])) := fun t k => by
              refine r31 t ?_
              show Steps p.tables e below (T8.setTop (mkF m 114 #[.val (.int p0s), .val (.int p1s), .val (.int (p0s &&& (2147483647 : Int32))), .val (.int (0 : Int32)), .val (.long z27), .second, .val (.long ((p0s &&& (2147483647 : Int32)).toInt64)), .second, .unset, .unset] [(.int (lcmpW ((2 : Int64) * z27) ((p0s &&& (2147483647 : Int32)).toInt64)))])) _
              refine XS.ifNo X8.here hx rfl (hb hby at_114) rfl (own_l_ngt hc32).1 ?_
              show Steps p.tables e below (T8.setTop (mkF m 117 #[.val (.int p0s), .val (.int p1s), .val (.int (p0s &&& (2147483647 : Int32))), .val (.int (0 : Int32)), .val (.long z27), .second, .val (.long ((p0s &&& (2147483647 : Int32)).toInt64)), .second, .unset, .unset] [])) _
              refine XS.iconst X8.here hx rfl (hb hby at_117) ?_
              show Steps p.tables e below (T8.setTop (mkF m 118 #[.val (.int p0s), .val (.int p1s), .val (.int (p0s &&& (2147483647 : Int32))), .val (.int (0 : Int32)), .val (.long z27), .second, .val (.long ((p0s &&& (2147483647 : Int32)).toInt64)), .second, .unset, .unset] [(.int (1 : Int32))])) _
              refine XS.goto X8.here hx rfl (pc0 := 118) (pc' := 122) rfl (hb hby at_118) (by decide) (by decide) ?_
              show Steps p.tables e below (T8.setTop (mkF m 122 #[.val (.int p0s), .val (.int p1s), .val (.int (p0s &&& (2147483647 : Int32))), .val (.int (0 : Int32)), .val (.long z27), .second, .val (.long ((p0s &&& (2147483647 : Int32)).toInt64)), .second, .unset, .unset] [(.int (1 : Int32))])) _
              refine XS.istore X8.here hx rfl (hb hby at_122) rfl (l' := #[.val (.int p0s), .val (.int p1s), .val (.int (p0s &&& (2147483647 : Int32))), .val (.int (0 : Int32)), .val (.long z27), .second, .val (.long ((p0s &&& (2147483647 : Int32)).toInt64)), .second, .val (.int (1 : Int32)), .unset]) rfl ?_
              show Steps p.tables e below (T8.setTop (mkF m 124 #[.val (.int p0s), .val (.int p1s), .val (.int (p0s &&& (2147483647 : Int32))), .val (.int (0 : Int32)), .val (.long z27), .second, .val (.long ((p0s &&& (2147483647 : Int32)).toInt64)), .second, .val (.int (1 : Int32)), .unset] [])) _
              refine X8.ldc2J hx hown (mvT hZ (hw _ (List.mem_of_getElem? (i := 5) rfl))) rfl (hb hby at_124) ?_
              show Steps p.tables e below (T8.setTop (mkF m 127 #[.val (.int p0s), .val (.int p1s), .val (.int (p0s &&& (2147483647 : Int32))), .val (.int (0 : Int32)), .val (.long z27), .second, .val (.long ((p0s &&& (2147483647 : Int32)).toInt64)), .second, .val (.int (1 : Int32)), .unset] [(.long (2 : Int64))])) _
              refine XS.lload X8.here hx rfl (hb hby at_127) rfl ?_
              show Steps p.tables e below (T8.setTop (mkF m 129 #[.val (.int p0s), .val (.int p1s), .val (.int (p0s &&& (2147483647 : Int32))), .val (.int (0 : Int32)), .val (.long z27), .second, .val (.long ((p0s &&& (2147483647 : Int32)).toInt64)), .second, .val (.int (1 : Int32)), .unset] [(.long z27), (.long (2 : Int64))])) _
              refine XS.lconst X8.here hx rfl (hb hby at_129) ?_
              show Steps p.tables e below (T8.setTop (mkF m 130 #[.val (.int p0s), .val (.int p1s), .val (.int (p0s &&& (2147483647 : Int32))), .val (.int (0 : Int32)), .val (.long z27), .second, .val (.long ((p0s &&& (2147483647 : Int32)).toInt64)), .second, .val (.int (1 : Int32)), .unset] [(.long (1 : Int64)), (.long z27), (.long (2 : Int64))])) _
              refine XS.ladd X8.here hx rfl (hb hby at_130) rfl ?_
              show Steps p.tables e below (T8.setTop (mkF m 131 #[.val (.int p0s), .val (.int p1s), .val (.int (p0s &&& (2147483647 : Int32))), .val (.int (0 : Int32)), .val (.long z27), .second, .val (.long ((p0s &&& (2147483647 : Int32)).toInt64)), .second, .val (.int (1 : Int32)), .unset] [(.long (z27 + (1 : Int64))), (.long (2 : Int64))])) _
              refine XS.lmul X8.here hx rfl (hb hby at_131) rfl ?_
              show Steps p.tables e below (T8.setTop (mkF m 132 #[.val (.int p0s), .val (.int p1s), .val (.int (p0s &&& (2147483647 : Int32))), .val (.int (0 : Int32)), .val (.long z27), .second, .val (.long ((p0s &&& (2147483647 : Int32)).toInt64)), .second, .val (.int (1 : Int32)), .unset] [(.long ((2 : Int64) * (z27 + (1 : Int64))))])) _
              refine XS.lload X8.here hx rfl (hb hby at_132) rfl ?_
              show Steps p.tables e below (T8.setTop (mkF m 134 #[.val (.int p0s), .val (.int p1s), .val (.int (p0s &&& (2147483647 : Int32))), .val (.int (0 : Int32)), .val (.long z27), .second, .val (.long ((p0s &&& (2147483647 : Int32)).toInt64)), .second, .val (.int (1 : Int32)), .unset] [(.long ((p0s &&& (2147483647 : Int32)).toInt64)), (.long ((2 : Int64) * (z27 + (1 : Int64))))])) _
              refine XS.lcmp X8.here hx rfl (hb hby at_134) rfl ?_
              exact k
            by_cases hc38 : ((p0s &&& (2147483647 : Int32)).toInt64) < ((2 : Int64) * (z27 + (1 : Int64)))
            · have r39 : own_R p.tables e below F0 (T8.setTop (mkF m 160 #[.val (.int p0s), .val (.int p1s), .val (.int (p0s &&& (2147483647 : Int32))), .val (.int (0 : Int32)), .val (.long z27), .second, .val (.long ((p0s &&& (2147483647 : Int32)).toInt64)), .second, .val (.int (1 : Int32)), .val (.int (1 : Int32))] [(.int (1 : Int32))])) := fun t k => by
                refine r37 t ?_
                show Steps p.tables e below (T8.setTop (mkF m 135 #[.val (.int p0s), .val (.int p1s), .val (.int (p0s &&& (2147483647 : Int32))), .val (.int (0 : Int32)), .val (.long z27), .second, .val (.long ((p0s &&& (2147483647 : Int32)).toInt64)), .second, .val (.int (1 : Int32)), .unset] [(.int (lcmpW ((2 : Int64) * (z27 + (1 : Int64))) ((p0s &&& (2147483647 : Int32)).toInt64)))])) _
                refine XS.ifNo X8.here hx rfl (hb hby at_135) rfl (own_l_gt hc38).2 ?_
                show Steps p.tables e below (T8.setTop (mkF m 138 #[.val (.int p0s), .val (.int p1s), .val (.int (p0s &&& (2147483647 : Int32))), .val (.int (0 : Int32)), .val (.long z27), .second, .val (.long ((p0s &&& (2147483647 : Int32)).toInt64)), .second, .val (.int (1 : Int32)), .unset] [])) _
                refine XS.iconst X8.here hx rfl (hb hby at_138) ?_
                show Steps p.tables e below (T8.setTop (mkF m 139 #[.val (.int p0s), .val (.int p1s), .val (.int (p0s &&& (2147483647 : Int32))), .val (.int (0 : Int32)), .val (.long z27), .second, .val (.long ((p0s &&& (2147483647 : Int32)).toInt64)), .second, .val (.int (1 : Int32)), .unset] [(.int (1 : Int32))])) _
                refine XS.goto X8.here hx rfl (pc0 := 139) (pc' := 143) rfl (hb hby at_139) (by decide) (by decide) ?_
                show Steps p.tables e below (T8.setTop (mkF m 143 #[.val (.int p0s), .val (.int p1s), .val (.int (p0s &&& (2147483647 : Int32))), .val (.int (0 : Int32)), .val (.long z27), .second, .val (.long ((p0s &&& (2147483647 : Int32)).toInt64)), .second, .val (.int (1 : Int32)), .unset] [(.int (1 : Int32))])) _
                refine XS.istore X8.here hx rfl (hb hby at_143) rfl (l' := #[.val (.int p0s), .val (.int p1s), .val (.int (p0s &&& (2147483647 : Int32))), .val (.int (0 : Int32)), .val (.long z27), .second, .val (.long ((p0s &&& (2147483647 : Int32)).toInt64)), .second, .val (.int (1 : Int32)), .val (.int (1 : Int32))]) rfl ?_
                show Steps p.tables e below (T8.setTop (mkF m 145 #[.val (.int p0s), .val (.int p1s), .val (.int (p0s &&& (2147483647 : Int32))), .val (.int (0 : Int32)), .val (.long z27), .second, .val (.long ((p0s &&& (2147483647 : Int32)).toInt64)), .second, .val (.int (1 : Int32)), .val (.int (1 : Int32))] [])) _
                refine XS.iload X8.here hx rfl (hb hby at_145) rfl ?_
                show Steps p.tables e below (T8.setTop (mkF m 147 #[.val (.int p0s), .val (.int p1s), .val (.int (p0s &&& (2147483647 : Int32))), .val (.int (0 : Int32)), .val (.long z27), .second, .val (.long ((p0s &&& (2147483647 : Int32)).toInt64)), .second, .val (.int (1 : Int32)), .val (.int (1 : Int32))] [(.int (1 : Int32))])) _
                refine XS.ifNo X8.here hx rfl (hb hby at_147) rfl ((if0 _ _).trans (feq (show ¬ ((1 : Int32) = (0 : Int32)) from by decide)).1) ?_
                show Steps p.tables e below (T8.setTop (mkF m 150 #[.val (.int p0s), .val (.int p1s), .val (.int (p0s &&& (2147483647 : Int32))), .val (.int (0 : Int32)), .val (.long z27), .second, .val (.long ((p0s &&& (2147483647 : Int32)).toInt64)), .second, .val (.int (1 : Int32)), .val (.int (1 : Int32))] [])) _
                refine XS.iload X8.here hx rfl (hb hby at_150) rfl ?_
                show Steps p.tables e below (T8.setTop (mkF m 152 #[.val (.int p0s), .val (.int p1s), .val (.int (p0s &&& (2147483647 : Int32))), .val (.int (0 : Int32)), .val (.long z27), .second, .val (.long ((p0s &&& (2147483647 : Int32)).toInt64)), .second, .val (.int (1 : Int32)), .val (.int (1 : Int32))] [(.int (1 : Int32))])) _
                refine XS.ifNo X8.here hx rfl (hb hby at_152) rfl ((if0 _ _).trans (feq (show ¬ ((1 : Int32) = (0 : Int32)) from by decide)).1) ?_
                show Steps p.tables e below (T8.setTop (mkF m 155 #[.val (.int p0s), .val (.int p1s), .val (.int (p0s &&& (2147483647 : Int32))), .val (.int (0 : Int32)), .val (.long z27), .second, .val (.long ((p0s &&& (2147483647 : Int32)).toInt64)), .second, .val (.int (1 : Int32)), .val (.int (1 : Int32))] [])) _
                refine XS.iconst X8.here hx rfl (hb hby at_155) ?_
                show Steps p.tables e below (T8.setTop (mkF m 156 #[.val (.int p0s), .val (.int p1s), .val (.int (p0s &&& (2147483647 : Int32))), .val (.int (0 : Int32)), .val (.long z27), .second, .val (.long ((p0s &&& (2147483647 : Int32)).toInt64)), .second, .val (.int (1 : Int32)), .val (.int (1 : Int32))] [(.int (1 : Int32))])) _
                refine XS.goto X8.here hx rfl (pc0 := 156) (pc' := 160) rfl (hb hby at_156) (by decide) (by decide) ?_
                exact k
              refine hG (own_fin X8 hlk (some (.int (nar .boolean (1 : Int32)))) (own_hv Bd.returns) ?_ (by decide) (by decide) (fun fs hr => r39 _ (retN X8 hx (t := .boolean) Bd.returns (by simp) (hb hby at_160) hr)))
              rw [I8_0]
              exact ⟨rfl, N8⟩
            · have r40 : own_R p.tables e below F0 (T8.setTop (mkF m 160 #[.val (.int p0s), .val (.int p1s), .val (.int (p0s &&& (2147483647 : Int32))), .val (.int (0 : Int32)), .val (.long z27), .second, .val (.long ((p0s &&& (2147483647 : Int32)).toInt64)), .second, .val (.int (1 : Int32)), .val (.int (0 : Int32))] [(.int (0 : Int32))])) := fun t k => by
                refine r37 t ?_
                show Steps p.tables e below (T8.setTop (mkF m 135 #[.val (.int p0s), .val (.int p1s), .val (.int (p0s &&& (2147483647 : Int32))), .val (.int (0 : Int32)), .val (.long z27), .second, .val (.long ((p0s &&& (2147483647 : Int32)).toInt64)), .second, .val (.int (1 : Int32)), .unset] [(.int (lcmpW ((2 : Int64) * (z27 + (1 : Int64))) ((p0s &&& (2147483647 : Int32)).toInt64)))])) _
                refine XS.ifYes X8.here hx rfl (pc0 := 135) (pc' := 142) rfl (hb hby at_135) rfl (own_l_ngt hc38).2 (by decide) (by decide) ?_
                show Steps p.tables e below (T8.setTop (mkF m 142 #[.val (.int p0s), .val (.int p1s), .val (.int (p0s &&& (2147483647 : Int32))), .val (.int (0 : Int32)), .val (.long z27), .second, .val (.long ((p0s &&& (2147483647 : Int32)).toInt64)), .second, .val (.int (1 : Int32)), .unset] [])) _
                refine XS.iconst X8.here hx rfl (hb hby at_142) ?_
                show Steps p.tables e below (T8.setTop (mkF m 143 #[.val (.int p0s), .val (.int p1s), .val (.int (p0s &&& (2147483647 : Int32))), .val (.int (0 : Int32)), .val (.long z27), .second, .val (.long ((p0s &&& (2147483647 : Int32)).toInt64)), .second, .val (.int (1 : Int32)), .unset] [(.int (0 : Int32))])) _
                refine XS.istore X8.here hx rfl (hb hby at_143) rfl (l' := #[.val (.int p0s), .val (.int p1s), .val (.int (p0s &&& (2147483647 : Int32))), .val (.int (0 : Int32)), .val (.long z27), .second, .val (.long ((p0s &&& (2147483647 : Int32)).toInt64)), .second, .val (.int (1 : Int32)), .val (.int (0 : Int32))]) rfl ?_
                show Steps p.tables e below (T8.setTop (mkF m 145 #[.val (.int p0s), .val (.int p1s), .val (.int (p0s &&& (2147483647 : Int32))), .val (.int (0 : Int32)), .val (.long z27), .second, .val (.long ((p0s &&& (2147483647 : Int32)).toInt64)), .second, .val (.int (1 : Int32)), .val (.int (0 : Int32))] [])) _
                refine XS.iload X8.here hx rfl (hb hby at_145) rfl ?_
                show Steps p.tables e below (T8.setTop (mkF m 147 #[.val (.int p0s), .val (.int p1s), .val (.int (p0s &&& (2147483647 : Int32))), .val (.int (0 : Int32)), .val (.long z27), .second, .val (.long ((p0s &&& (2147483647 : Int32)).toInt64)), .second, .val (.int (1 : Int32)), .val (.int (0 : Int32))] [(.int (1 : Int32))])) _
                refine XS.ifNo X8.here hx rfl (hb hby at_147) rfl ((if0 _ _).trans (feq (show ¬ ((1 : Int32) = (0 : Int32)) from by decide)).1) ?_
                show Steps p.tables e below (T8.setTop (mkF m 150 #[.val (.int p0s), .val (.int p1s), .val (.int (p0s &&& (2147483647 : Int32))), .val (.int (0 : Int32)), .val (.long z27), .second, .val (.long ((p0s &&& (2147483647 : Int32)).toInt64)), .second, .val (.int (1 : Int32)), .val (.int (0 : Int32))] [])) _
                refine XS.iload X8.here hx rfl (hb hby at_150) rfl ?_
                show Steps p.tables e below (T8.setTop (mkF m 152 #[.val (.int p0s), .val (.int p1s), .val (.int (p0s &&& (2147483647 : Int32))), .val (.int (0 : Int32)), .val (.long z27), .second, .val (.long ((p0s &&& (2147483647 : Int32)).toInt64)), .second, .val (.int (1 : Int32)), .val (.int (0 : Int32))] [(.int (0 : Int32))])) _
                refine XS.ifYes X8.here hx rfl (pc0 := 152) (pc' := 159) rfl (hb hby at_152) rfl ((if0 _ _).trans (teq (show (0 : Int32) = (0 : Int32) from by decide)).1) (by decide) (by decide) ?_
                show Steps p.tables e below (T8.setTop (mkF m 159 #[.val (.int p0s), .val (.int p1s), .val (.int (p0s &&& (2147483647 : Int32))), .val (.int (0 : Int32)), .val (.long z27), .second, .val (.long ((p0s &&& (2147483647 : Int32)).toInt64)), .second, .val (.int (1 : Int32)), .val (.int (0 : Int32))] [])) _
                refine XS.iconst X8.here hx rfl (hb hby at_159) ?_
                exact k
              exfalso
              have := rng32 p1s
              have := (show (1 : Int32).toInt = 1 from by decide)
              have := rng32 (p1s &&& (1 : Int32))
              have := own_mask p1s (1 : Int32) 1 2 (by decide) (by decide) (by decide)
              have := (show (0 : Int32).toInt = 0 from by decide)
              have := rng64 z27
              have := rng32 p0s
              have := (show (2147483647 : Int32).toInt = 2147483647 from by decide)
              have := rng32 (p0s &&& (2147483647 : Int32))
              have := own_mask p0s (2147483647 : Int32) 31 2147483648 (by decide) (by decide) (by decide)
              have := rng32 ((p0s &&& (2147483647 : Int32)) - (1 : Int32))
              have := c_isub (p0s &&& (2147483647 : Int32)) (1 : Int32)
              have := (show (2 : Int32).toInt = 2 from by decide)
              have := rng32 (((p0s &&& (2147483647 : Int32)) - (1 : Int32)) / (2 : Int32))
              have := c_idiv ((p0s &&& (2147483647 : Int32)) - (1 : Int32)) (2 : Int32) 2 (by decide) (by decide)
              have := rng64 ((((p0s &&& (2147483647 : Int32)) - (1 : Int32)) / (2 : Int32)).toInt64)
              have := c_i2l (((p0s &&& (2147483647 : Int32)) - (1 : Int32)) / (2 : Int32))
              have := own_eq64 hz27
              have := (show (0 : Int64).toInt = 0 from by decide)
              have := rng64 ((p0s &&& (2147483647 : Int32)).toInt64)
              have := c_i2l (p0s &&& (2147483647 : Int32))
              have := (show (2 : Int64).toInt = 2 from by decide)
              have := rng64 ((2 : Int64) * z27)
              have := own_lmulc' (2 : Int64) z27 (2) (by decide)
              have := (show (1 : Int64).toInt = 1 from by decide)
              have := rng64 (z27 + (1 : Int64))
              have := c_ladd z27 (1 : Int64)
              have := rng64 ((2 : Int64) * (z27 + (1 : Int64)))
              have := own_lmulc' (2 : Int64) (z27 + (1 : Int64)) (2) (by decide)
              have := own_eq32 hc6
              have := own_ne32 hc9
              have := own_nlt64 hc29
              have := own_nlt64 hc32
              have := own_nlt64 hc38
              omega
    · have r41 : own_R p.tables e below F0 (s₁.setTop (mkF m 19 #[.val (.int p0s), .val (.int p1s), .val (.int (p0s &&& (2147483647 : Int32))), .val (.int (1 : Int32)), .unset, .unset, .unset, .unset, .unset, .unset] [(.int (1 : Int32)), (.int (p0s &&& (2147483647 : Int32)))])) := fun t k => by
        refine r5 t ?_
        show Steps p.tables e below (s₁.setTop (mkF m 8 #[.val (.int p0s), .val (.int p1s), .val (.int (p0s &&& (2147483647 : Int32))), .unset, .unset, .unset, .unset, .unset, .unset, .unset] [(.int (p1s &&& (1 : Int32)))])) _
        refine XS.ifNo X0.here hx rfl (hb hby at_8) rfl ((if0 _ _).trans (feq hc6).1) ?_
        show Steps p.tables e below (s₁.setTop (mkF m 11 #[.val (.int p0s), .val (.int p1s), .val (.int (p0s &&& (2147483647 : Int32))), .unset, .unset, .unset, .unset, .unset, .unset, .unset] [])) _
        refine XS.iconst X0.here hx rfl (hb hby at_11) ?_
        show Steps p.tables e below (s₁.setTop (mkF m 12 #[.val (.int p0s), .val (.int p1s), .val (.int (p0s &&& (2147483647 : Int32))), .unset, .unset, .unset, .unset, .unset, .unset, .unset] [(.int (1 : Int32))])) _
        refine XS.goto X0.here hx rfl (pc0 := 12) (pc' := 16) rfl (hb hby at_12) (by decide) (by decide) ?_
        show Steps p.tables e below (s₁.setTop (mkF m 16 #[.val (.int p0s), .val (.int p1s), .val (.int (p0s &&& (2147483647 : Int32))), .unset, .unset, .unset, .unset, .unset, .unset, .unset] [(.int (1 : Int32))])) _
        refine XS.istoreN X0.here hx rfl (hb hby at_16) rfl (l' := #[.val (.int p0s), .val (.int p1s), .val (.int (p0s &&& (2147483647 : Int32))), .val (.int (1 : Int32)), .unset, .unset, .unset, .unset, .unset, .unset]) rfl ?_
        show Steps p.tables e below (s₁.setTop (mkF m 17 #[.val (.int p0s), .val (.int p1s), .val (.int (p0s &&& (2147483647 : Int32))), .val (.int (1 : Int32)), .unset, .unset, .unset, .unset, .unset, .unset] [])) _
        refine XS.iloadN X0.here hx rfl (hb hby at_17) rfl ?_
        show Steps p.tables e below (s₁.setTop (mkF m 18 #[.val (.int p0s), .val (.int p1s), .val (.int (p0s &&& (2147483647 : Int32))), .val (.int (1 : Int32)), .unset, .unset, .unset, .unset, .unset, .unset] [(.int (p0s &&& (2147483647 : Int32)))])) _
        refine XS.iloadN X0.here hx rfl (hb hby at_18) rfl ?_
        exact k
      obtain ⟨_, _, ⟨T42, L42, k42, n42⟩, -, X42, ⟨Lc42, hQ42, l42, y42, z42⟩, st42⟩ := Jvm.LawKit.callS X0 hx (y := (⟨"com/example/mexpile/mexpile/engine/TakeAndBreak", "largestSmallerPart", "(IZ)I"⟩ : MethodName)) hown (mvT hZ (hw _ (List.mem_of_getElem? (i := 1) rfl))) (mvT hZ (hw _ (List.mem_of_getElem? (i := 2) rfl))) (mvT hZ (hw _ (List.mem_of_getElem? (i := 3) rfl))) (mvT hZ (hw _ (List.mem_of_getElem? (i := 4) rfl))) (by decide) (backOf (W := 0) (rm1 l Z a0 hw [] (p0s &&& (2147483647 : Int32)) (1 : Int32) h0 n0 Z0 ) hZ (hw _ (List.mem_of_getElem? (i := 4) rfl)) (hw _ (List.mem_of_getElem? (i := 3) rfl)) (by decide) (by decide)) (g := (mkF m 19 #[.val (.int p0s), .val (.int p1s), .val (.int (p0s &&& (2147483647 : Int32))), .val (.int (1 : Int32)), .unset, .unset, .unset, .unset, .unset, .unset] [(.int (1 : Int32)), (.int (p0s &&& (2147483647 : Int32)))])) rfl (by rw [hml]; rfl) (argsL := [(.int (p0s &&& (2147483647 : Int32))), (.int (1 : Int32))]) (rest := []) (lenOf pd_0 rfl) rfl (by show 2 * 0 + _ ≤ _; exact Nat.le_of_eq rfl) (hb hby at_19) (fun _ _ => ⟨rfl, e0, (by decide : 0 + 0 ≤ _), (by decide : 0 + 0 ≤ _)⟩)
      dsimp only [Pt.U, Pt.locs, Pt.cells, Pt.slots] at X42 l42 y42 z42 st42 hQ42
      subst l42 y42 z42
      obtain ⟨rfl, N42q, I42_0⟩ := hQ42
      have N42 := Fr.app N0 N42q
      have r42 : own_R p.tables e below F0 (T42.setTop (mkF m 22 #[.val (.int p0s), .val (.int p1s), .val (.int (p0s &&& (2147483647 : Int32))), .val (.int (1 : Int32)), .unset, .unset, .unset, .unset, .unset, .unset] [(.int (own_part (p0s &&& (2147483647 : Int32)) (1 : Int32)))])) := fun t k => r41 t (st42 t k)
      by_cases hc43 : (1 : Int32) = (0 : Int32)
      · have ev44 : (own_part (p0s &&& (2147483647 : Int32)) (1 : Int32)) = ((p0s &&& (2147483647 : Int32)) / (2 : Int32)) := by unfold own_part; rw [if_pos hc43]
        have r45 : own_R p.tables e below F0 (T42.setTop (mkF m 22 #[.val (.int p0s), .val (.int p1s), .val (.int (p0s &&& (2147483647 : Int32))), .val (.int (1 : Int32)), .unset, .unset, .unset, .unset, .unset, .unset] [(.int ((p0s &&& (2147483647 : Int32)) / (2 : Int32)))])) := ev44 ▸ r42
        have r46 : own_R p.tables e below F0 (T42.setTop (mkF m 33 #[.val (.int p0s), .val (.int p1s), .val (.int (p0s &&& (2147483647 : Int32))), .val (.int (1 : Int32)), .val (.long (((p0s &&& (2147483647 : Int32)) / (2 : Int32)).toInt64)), .second, .val (.long ((p0s &&& (2147483647 : Int32)).toInt64)), .second, .unset, .unset] [(.int (lcmpW (((p0s &&& (2147483647 : Int32)) / (2 : Int32)).toInt64) (0 : Int64)))])) := fun t k => by
          refine r45 t ?_
          show Steps p.tables e below (T42.setTop (mkF m 22 #[.val (.int p0s), .val (.int p1s), .val (.int (p0s &&& (2147483647 : Int32))), .val (.int (1 : Int32)), .unset, .unset, .unset, .unset, .unset, .unset] [(.int ((p0s &&& (2147483647 : Int32)) / (2 : Int32)))])) _
          refine XS.i2l X42.here hx rfl (hb hby at_22) rfl ?_
          show Steps p.tables e below (T42.setTop (mkF m 23 #[.val (.int p0s), .val (.int p1s), .val (.int (p0s &&& (2147483647 : Int32))), .val (.int (1 : Int32)), .unset, .unset, .unset, .unset, .unset, .unset] [(.long (((p0s &&& (2147483647 : Int32)) / (2 : Int32)).toInt64))])) _
          refine XS.lstore X42.here hx rfl (hb hby at_23) rfl (l' := #[.val (.int p0s), .val (.int p1s), .val (.int (p0s &&& (2147483647 : Int32))), .val (.int (1 : Int32)), .val (.long (((p0s &&& (2147483647 : Int32)) / (2 : Int32)).toInt64)), .second, .unset, .unset, .unset, .unset]) rfl ?_
          show Steps p.tables e below (T42.setTop (mkF m 25 #[.val (.int p0s), .val (.int p1s), .val (.int (p0s &&& (2147483647 : Int32))), .val (.int (1 : Int32)), .val (.long (((p0s &&& (2147483647 : Int32)) / (2 : Int32)).toInt64)), .second, .unset, .unset, .unset, .unset] [])) _
          refine XS.iloadN X42.here hx rfl (hb hby at_25) rfl ?_
          show Steps p.tables e below (T42.setTop (mkF m 26 #[.val (.int p0s), .val (.int p1s), .val (.int (p0s &&& (2147483647 : Int32))), .val (.int (1 : Int32)), .val (.long (((p0s &&& (2147483647 : Int32)) / (2 : Int32)).toInt64)), .second, .unset, .unset, .unset, .unset] [(.int (p0s &&& (2147483647 : Int32)))])) _
          refine XS.i2l X42.here hx rfl (hb hby at_26) rfl ?_
          show Steps p.tables e below (T42.setTop (mkF m 27 #[.val (.int p0s), .val (.int p1s), .val (.int (p0s &&& (2147483647 : Int32))), .val (.int (1 : Int32)), .val (.long (((p0s &&& (2147483647 : Int32)) / (2 : Int32)).toInt64)), .second, .unset, .unset, .unset, .unset] [(.long ((p0s &&& (2147483647 : Int32)).toInt64))])) _
          refine XS.lstore X42.here hx rfl (hb hby at_27) rfl (l' := #[.val (.int p0s), .val (.int p1s), .val (.int (p0s &&& (2147483647 : Int32))), .val (.int (1 : Int32)), .val (.long (((p0s &&& (2147483647 : Int32)) / (2 : Int32)).toInt64)), .second, .val (.long ((p0s &&& (2147483647 : Int32)).toInt64)), .second, .unset, .unset]) rfl ?_
          show Steps p.tables e below (T42.setTop (mkF m 29 #[.val (.int p0s), .val (.int p1s), .val (.int (p0s &&& (2147483647 : Int32))), .val (.int (1 : Int32)), .val (.long (((p0s &&& (2147483647 : Int32)) / (2 : Int32)).toInt64)), .second, .val (.long ((p0s &&& (2147483647 : Int32)).toInt64)), .second, .unset, .unset] [])) _
          refine XS.lload X42.here hx rfl (hb hby at_29) rfl ?_
          show Steps p.tables e below (T42.setTop (mkF m 31 #[.val (.int p0s), .val (.int p1s), .val (.int (p0s &&& (2147483647 : Int32))), .val (.int (1 : Int32)), .val (.long (((p0s &&& (2147483647 : Int32)) / (2 : Int32)).toInt64)), .second, .val (.long ((p0s &&& (2147483647 : Int32)).toInt64)), .second, .unset, .unset] [(.long (((p0s &&& (2147483647 : Int32)) / (2 : Int32)).toInt64))])) _
          refine XS.lconst X42.here hx rfl (hb hby at_31) ?_
          show Steps p.tables e below (T42.setTop (mkF m 32 #[.val (.int p0s), .val (.int p1s), .val (.int (p0s &&& (2147483647 : Int32))), .val (.int (1 : Int32)), .val (.long (((p0s &&& (2147483647 : Int32)) / (2 : Int32)).toInt64)), .second, .val (.long ((p0s &&& (2147483647 : Int32)).toInt64)), .second, .unset, .unset] [(.long (0 : Int64)), (.long (((p0s &&& (2147483647 : Int32)) / (2 : Int32)).toInt64))])) _
          refine XS.lcmp X42.here hx rfl (hb hby at_32) rfl ?_
          exact k
        by_cases hc47 : (((p0s &&& (2147483647 : Int32)) / (2 : Int32)).toInt64) < (0 : Int64)
        · have r48 : own_R p.tables e below F0 (T42.setTop (mkF m 37 #[.val (.int p0s), .val (.int p1s), .val (.int (p0s &&& (2147483647 : Int32))), .val (.int (1 : Int32)), .val (.long (((p0s &&& (2147483647 : Int32)) / (2 : Int32)).toInt64)), .second, .val (.long ((p0s &&& (2147483647 : Int32)).toInt64)), .second, .unset, .unset] [(.int (0 : Int32))])) := fun t k => by
            refine r46 t ?_
            show Steps p.tables e below (T42.setTop (mkF m 33 #[.val (.int p0s), .val (.int p1s), .val (.int (p0s &&& (2147483647 : Int32))), .val (.int (1 : Int32)), .val (.long (((p0s &&& (2147483647 : Int32)) / (2 : Int32)).toInt64)), .second, .val (.long ((p0s &&& (2147483647 : Int32)).toInt64)), .second, .unset, .unset] [(.int (lcmpW (((p0s &&& (2147483647 : Int32)) / (2 : Int32)).toInt64) (0 : Int64)))])) _
            refine XS.ifNo X42.here hx rfl (hb hby at_33) rfl (own_l_lt hc47).2 ?_
            show Steps p.tables e below (T42.setTop (mkF m 36 #[.val (.int p0s), .val (.int p1s), .val (.int (p0s &&& (2147483647 : Int32))), .val (.int (1 : Int32)), .val (.long (((p0s &&& (2147483647 : Int32)) / (2 : Int32)).toInt64)), .second, .val (.long ((p0s &&& (2147483647 : Int32)).toInt64)), .second, .unset, .unset] [])) _
            refine XS.iconst X42.here hx rfl (hb hby at_36) ?_
            exact k
          exfalso
          have := rng32 p1s
          have := (show (1 : Int32).toInt = 1 from by decide)
          have := rng32 (p1s &&& (1 : Int32))
          have := own_mask p1s (1 : Int32) 1 2 (by decide) (by decide) (by decide)
          have := (show (0 : Int32).toInt = 0 from by decide)
          have := rng32 p0s
          have := (show (2147483647 : Int32).toInt = 2147483647 from by decide)
          have := rng32 (p0s &&& (2147483647 : Int32))
          have := own_mask p0s (2147483647 : Int32) 31 2147483648 (by decide) (by decide) (by decide)
          have := (show (2 : Int32).toInt = 2 from by decide)
          have := rng32 ((p0s &&& (2147483647 : Int32)) / (2 : Int32))
          have := c_idiv (p0s &&& (2147483647 : Int32)) (2 : Int32) 2 (by decide) (by decide)
          have := rng64 (((p0s &&& (2147483647 : Int32)) / (2 : Int32)).toInt64)
          have := c_i2l ((p0s &&& (2147483647 : Int32)) / (2 : Int32))
          have := (show (0 : Int64).toInt = 0 from by decide)
          have := own_ne32 hc6
          have := own_eq32 hc43
          have := own_lt64 hc47
          omega
        · have r49 : own_R p.tables e below F0 (T42.setTop (mkF m 46 #[.val (.int p0s), .val (.int p1s), .val (.int (p0s &&& (2147483647 : Int32))), .val (.int (1 : Int32)), .val (.long (((p0s &&& (2147483647 : Int32)) / (2 : Int32)).toInt64)), .second, .val (.long ((p0s &&& (2147483647 : Int32)).toInt64)), .second, .unset, .unset] [(.int (lcmpW (((p0s &&& (2147483647 : Int32)) / (2 : Int32)).toInt64) (0 : Int64)))])) := fun t k => by
            refine r46 t ?_
            show Steps p.tables e below (T42.setTop (mkF m 33 #[.val (.int p0s), .val (.int p1s), .val (.int (p0s &&& (2147483647 : Int32))), .val (.int (1 : Int32)), .val (.long (((p0s &&& (2147483647 : Int32)) / (2 : Int32)).toInt64)), .second, .val (.long ((p0s &&& (2147483647 : Int32)).toInt64)), .second, .unset, .unset] [(.int (lcmpW (((p0s &&& (2147483647 : Int32)) / (2 : Int32)).toInt64) (0 : Int64)))])) _
            refine XS.ifYes X42.here hx rfl (pc0 := 33) (pc' := 38) rfl (hb hby at_33) rfl (own_l_nlt hc47).2 (by decide) (by decide) ?_
            show Steps p.tables e below (T42.setTop (mkF m 38 #[.val (.int p0s), .val (.int p1s), .val (.int (p0s &&& (2147483647 : Int32))), .val (.int (1 : Int32)), .val (.long (((p0s &&& (2147483647 : Int32)) / (2 : Int32)).toInt64)), .second, .val (.long ((p0s &&& (2147483647 : Int32)).toInt64)), .second, .unset, .unset] [])) _
            refine XS.iloadN X42.here hx rfl (hb hby at_38) rfl ?_
            show Steps p.tables e below (T42.setTop (mkF m 39 #[.val (.int p0s), .val (.int p1s), .val (.int (p0s &&& (2147483647 : Int32))), .val (.int (1 : Int32)), .val (.long (((p0s &&& (2147483647 : Int32)) / (2 : Int32)).toInt64)), .second, .val (.long ((p0s &&& (2147483647 : Int32)).toInt64)), .second, .unset, .unset] [(.int (1 : Int32))])) _
            refine XS.ifNo X42.here hx rfl (hb hby at_39) rfl ((if0 _ _).trans (feq (show ¬ ((1 : Int32) = (0 : Int32)) from by decide)).1) ?_
            show Steps p.tables e below (T42.setTop (mkF m 42 #[.val (.int p0s), .val (.int p1s), .val (.int (p0s &&& (2147483647 : Int32))), .val (.int (1 : Int32)), .val (.long (((p0s &&& (2147483647 : Int32)) / (2 : Int32)).toInt64)), .second, .val (.long ((p0s &&& (2147483647 : Int32)).toInt64)), .second, .unset, .unset] [])) _
            refine XS.lload X42.here hx rfl (hb hby at_42) rfl ?_
            show Steps p.tables e below (T42.setTop (mkF m 44 #[.val (.int p0s), .val (.int p1s), .val (.int (p0s &&& (2147483647 : Int32))), .val (.int (1 : Int32)), .val (.long (((p0s &&& (2147483647 : Int32)) / (2 : Int32)).toInt64)), .second, .val (.long ((p0s &&& (2147483647 : Int32)).toInt64)), .second, .unset, .unset] [(.long (((p0s &&& (2147483647 : Int32)) / (2 : Int32)).toInt64))])) _
            refine XS.lconst X42.here hx rfl (hb hby at_44) ?_
            show Steps p.tables e below (T42.setTop (mkF m 45 #[.val (.int p0s), .val (.int p1s), .val (.int (p0s &&& (2147483647 : Int32))), .val (.int (1 : Int32)), .val (.long (((p0s &&& (2147483647 : Int32)) / (2 : Int32)).toInt64)), .second, .val (.long ((p0s &&& (2147483647 : Int32)).toInt64)), .second, .unset, .unset] [(.long (0 : Int64)), (.long (((p0s &&& (2147483647 : Int32)) / (2 : Int32)).toInt64))])) _
            refine XS.lcmp X42.here hx rfl (hb hby at_45) rfl ?_
            exact k
          by_cases hc50 : (((p0s &&& (2147483647 : Int32)) / (2 : Int32)).toInt64) = (0 : Int64)
          · have r51 : own_R p.tables e below F0 (T42.setTop (mkF m 79 #[.val (.int p0s), .val (.int p1s), .val (.int (p0s &&& (2147483647 : Int32))), .val (.int (1 : Int32)), .val (.long (((p0s &&& (2147483647 : Int32)) / (2 : Int32)).toInt64)), .second, .val (.long ((p0s &&& (2147483647 : Int32)).toInt64)), .second, .val (.int (1 : Int32)), .unset] [(.int (lcmpW ((2 : Int64) * ((((p0s &&& (2147483647 : Int32)) / (2 : Int32)).toInt64) + (1 : Int64))) ((p0s &&& (2147483647 : Int32)).toInt64)))])) := fun t k => by
              refine r49 t ?_
              show Steps p.tables e below (T42.setTop (mkF m 46 #[.val (.int p0s), .val (.int p1s), .val (.int (p0s &&& (2147483647 : Int32))), .val (.int (1 : Int32)), .val (.long (((p0s &&& (2147483647 : Int32)) / (2 : Int32)).toInt64)), .second, .val (.long ((p0s &&& (2147483647 : Int32)).toInt64)), .second, .unset, .unset] [(.int (lcmpW (((p0s &&& (2147483647 : Int32)) / (2 : Int32)).toInt64) (0 : Int64)))])) _
              refine XS.ifYes X42.here hx rfl (pc0 := 46) (pc' := 61) rfl (hb hby at_46) rfl (own_l_eq hc50).1 (by decide) (by decide) ?_
              show Steps p.tables e below (T42.setTop (mkF m 61 #[.val (.int p0s), .val (.int p1s), .val (.int (p0s &&& (2147483647 : Int32))), .val (.int (1 : Int32)), .val (.long (((p0s &&& (2147483647 : Int32)) / (2 : Int32)).toInt64)), .second, .val (.long ((p0s &&& (2147483647 : Int32)).toInt64)), .second, .unset, .unset] [])) _
              refine XS.iconst X42.here hx rfl (hb hby at_61) ?_
              show Steps p.tables e below (T42.setTop (mkF m 62 #[.val (.int p0s), .val (.int p1s), .val (.int (p0s &&& (2147483647 : Int32))), .val (.int (1 : Int32)), .val (.long (((p0s &&& (2147483647 : Int32)) / (2 : Int32)).toInt64)), .second, .val (.long ((p0s &&& (2147483647 : Int32)).toInt64)), .second, .unset, .unset] [(.int (1 : Int32))])) _
              refine XS.goto X42.here hx rfl (pc0 := 62) (pc' := 66) rfl (hb hby at_62) (by decide) (by decide) ?_
              show Steps p.tables e below (T42.setTop (mkF m 66 #[.val (.int p0s), .val (.int p1s), .val (.int (p0s &&& (2147483647 : Int32))), .val (.int (1 : Int32)), .val (.long (((p0s &&& (2147483647 : Int32)) / (2 : Int32)).toInt64)), .second, .val (.long ((p0s &&& (2147483647 : Int32)).toInt64)), .second, .unset, .unset] [(.int (1 : Int32))])) _
              refine XS.istore X42.here hx rfl (hb hby at_66) rfl (l' := #[.val (.int p0s), .val (.int p1s), .val (.int (p0s &&& (2147483647 : Int32))), .val (.int (1 : Int32)), .val (.long (((p0s &&& (2147483647 : Int32)) / (2 : Int32)).toInt64)), .second, .val (.long ((p0s &&& (2147483647 : Int32)).toInt64)), .second, .val (.int (1 : Int32)), .unset]) rfl ?_
              show Steps p.tables e below (T42.setTop (mkF m 68 #[.val (.int p0s), .val (.int p1s), .val (.int (p0s &&& (2147483647 : Int32))), .val (.int (1 : Int32)), .val (.long (((p0s &&& (2147483647 : Int32)) / (2 : Int32)).toInt64)), .second, .val (.long ((p0s &&& (2147483647 : Int32)).toInt64)), .second, .val (.int (1 : Int32)), .unset] [])) _
              refine X42.ldc2J hx hown (mvT hZ (hw _ (List.mem_of_getElem? (i := 5) rfl))) rfl (hb hby at_68) ?_
              show Steps p.tables e below (T42.setTop (mkF m 71 #[.val (.int p0s), .val (.int p1s), .val (.int (p0s &&& (2147483647 : Int32))), .val (.int (1 : Int32)), .val (.long (((p0s &&& (2147483647 : Int32)) / (2 : Int32)).toInt64)), .second, .val (.long ((p0s &&& (2147483647 : Int32)).toInt64)), .second, .val (.int (1 : Int32)), .unset] [(.long (2 : Int64))])) _
              refine XS.lload X42.here hx rfl (hb hby at_71) rfl ?_
              show Steps p.tables e below (T42.setTop (mkF m 73 #[.val (.int p0s), .val (.int p1s), .val (.int (p0s &&& (2147483647 : Int32))), .val (.int (1 : Int32)), .val (.long (((p0s &&& (2147483647 : Int32)) / (2 : Int32)).toInt64)), .second, .val (.long ((p0s &&& (2147483647 : Int32)).toInt64)), .second, .val (.int (1 : Int32)), .unset] [(.long (((p0s &&& (2147483647 : Int32)) / (2 : Int32)).toInt64)), (.long (2 : Int64))])) _
              refine XS.lconst X42.here hx rfl (hb hby at_73) ?_
              show Steps p.tables e below (T42.setTop (mkF m 74 #[.val (.int p0s), .val (.int p1s), .val (.int (p0s &&& (2147483647 : Int32))), .val (.int (1 : Int32)), .val (.long (((p0s &&& (2147483647 : Int32)) / (2 : Int32)).toInt64)), .second, .val (.long ((p0s &&& (2147483647 : Int32)).toInt64)), .second, .val (.int (1 : Int32)), .unset] [(.long (1 : Int64)), (.long (((p0s &&& (2147483647 : Int32)) / (2 : Int32)).toInt64)), (.long (2 : Int64))])) _
              refine XS.ladd X42.here hx rfl (hb hby at_74) rfl ?_
              show Steps p.tables e below (T42.setTop (mkF m 75 #[.val (.int p0s), .val (.int p1s), .val (.int (p0s &&& (2147483647 : Int32))), .val (.int (1 : Int32)), .val (.long (((p0s &&& (2147483647 : Int32)) / (2 : Int32)).toInt64)), .second, .val (.long ((p0s &&& (2147483647 : Int32)).toInt64)), .second, .val (.int (1 : Int32)), .unset] [(.long ((((p0s &&& (2147483647 : Int32)) / (2 : Int32)).toInt64) + (1 : Int64))), (.long (2 : Int64))])) _
              refine XS.lmul X42.here hx rfl (hb hby at_75) rfl ?_
              show Steps p.tables e below (T42.setTop (mkF m 76 #[.val (.int p0s), .val (.int p1s), .val (.int (p0s &&& (2147483647 : Int32))), .val (.int (1 : Int32)), .val (.long (((p0s &&& (2147483647 : Int32)) / (2 : Int32)).toInt64)), .second, .val (.long ((p0s &&& (2147483647 : Int32)).toInt64)), .second, .val (.int (1 : Int32)), .unset] [(.long ((2 : Int64) * ((((p0s &&& (2147483647 : Int32)) / (2 : Int32)).toInt64) + (1 : Int64))))])) _
              refine XS.lload X42.here hx rfl (hb hby at_76) rfl ?_
              show Steps p.tables e below (T42.setTop (mkF m 78 #[.val (.int p0s), .val (.int p1s), .val (.int (p0s &&& (2147483647 : Int32))), .val (.int (1 : Int32)), .val (.long (((p0s &&& (2147483647 : Int32)) / (2 : Int32)).toInt64)), .second, .val (.long ((p0s &&& (2147483647 : Int32)).toInt64)), .second, .val (.int (1 : Int32)), .unset] [(.long ((p0s &&& (2147483647 : Int32)).toInt64)), (.long ((2 : Int64) * ((((p0s &&& (2147483647 : Int32)) / (2 : Int32)).toInt64) + (1 : Int64))))])) _
              refine XS.lcmp X42.here hx rfl (hb hby at_78) rfl ?_
              exact k
            by_cases hc52 : ((2 : Int64) * ((((p0s &&& (2147483647 : Int32)) / (2 : Int32)).toInt64) + (1 : Int64))) < ((p0s &&& (2147483647 : Int32)).toInt64)
            · have r53 : own_R p.tables e below F0 (T42.setTop (mkF m 104 #[.val (.int p0s), .val (.int p1s), .val (.int (p0s &&& (2147483647 : Int32))), .val (.int (1 : Int32)), .val (.long (((p0s &&& (2147483647 : Int32)) / (2 : Int32)).toInt64)), .second, .val (.long ((p0s &&& (2147483647 : Int32)).toInt64)), .second, .val (.int (1 : Int32)), .val (.int (0 : Int32))] [(.int (0 : Int32))])) := fun t k => by
                refine r51 t ?_
                show Steps p.tables e below (T42.setTop (mkF m 79 #[.val (.int p0s), .val (.int p1s), .val (.int (p0s &&& (2147483647 : Int32))), .val (.int (1 : Int32)), .val (.long (((p0s &&& (2147483647 : Int32)) / (2 : Int32)).toInt64)), .second, .val (.long ((p0s &&& (2147483647 : Int32)).toInt64)), .second, .val (.int (1 : Int32)), .unset] [(.int (lcmpW ((2 : Int64) * ((((p0s &&& (2147483647 : Int32)) / (2 : Int32)).toInt64) + (1 : Int64))) ((p0s &&& (2147483647 : Int32)).toInt64)))])) _
                refine XS.ifYes X42.here hx rfl (pc0 := 79) (pc' := 86) rfl (hb hby at_79) rfl (own_l_lt hc52).1 (by decide) (by decide) ?_
                show Steps p.tables e below (T42.setTop (mkF m 86 #[.val (.int p0s), .val (.int p1s), .val (.int (p0s &&& (2147483647 : Int32))), .val (.int (1 : Int32)), .val (.long (((p0s &&& (2147483647 : Int32)) / (2 : Int32)).toInt64)), .second, .val (.long ((p0s &&& (2147483647 : Int32)).toInt64)), .second, .val (.int (1 : Int32)), .unset] [])) _
                refine XS.iconst X42.here hx rfl (hb hby at_86) ?_
                show Steps p.tables e below (T42.setTop (mkF m 87 #[.val (.int p0s), .val (.int p1s), .val (.int (p0s &&& (2147483647 : Int32))), .val (.int (1 : Int32)), .val (.long (((p0s &&& (2147483647 : Int32)) / (2 : Int32)).toInt64)), .second, .val (.long ((p0s &&& (2147483647 : Int32)).toInt64)), .second, .val (.int (1 : Int32)), .unset] [(.int (0 : Int32))])) _
                refine XS.istore X42.here hx rfl (hb hby at_87) rfl (l' := #[.val (.int p0s), .val (.int p1s), .val (.int (p0s &&& (2147483647 : Int32))), .val (.int (1 : Int32)), .val (.long (((p0s &&& (2147483647 : Int32)) / (2 : Int32)).toInt64)), .second, .val (.long ((p0s &&& (2147483647 : Int32)).toInt64)), .second, .val (.int (1 : Int32)), .val (.int (0 : Int32))]) rfl ?_
                show Steps p.tables e below (T42.setTop (mkF m 89 #[.val (.int p0s), .val (.int p1s), .val (.int (p0s &&& (2147483647 : Int32))), .val (.int (1 : Int32)), .val (.long (((p0s &&& (2147483647 : Int32)) / (2 : Int32)).toInt64)), .second, .val (.long ((p0s &&& (2147483647 : Int32)).toInt64)), .second, .val (.int (1 : Int32)), .val (.int (0 : Int32))] [])) _
                refine XS.iload X42.here hx rfl (hb hby at_89) rfl ?_
                show Steps p.tables e below (T42.setTop (mkF m 91 #[.val (.int p0s), .val (.int p1s), .val (.int (p0s &&& (2147483647 : Int32))), .val (.int (1 : Int32)), .val (.long (((p0s &&& (2147483647 : Int32)) / (2 : Int32)).toInt64)), .second, .val (.long ((p0s &&& (2147483647 : Int32)).toInt64)), .second, .val (.int (1 : Int32)), .val (.int (0 : Int32))] [(.int (1 : Int32))])) _
                refine XS.ifNo X42.here hx rfl (hb hby at_91) rfl ((if0 _ _).trans (feq (show ¬ ((1 : Int32) = (0 : Int32)) from by decide)).1) ?_
                show Steps p.tables e below (T42.setTop (mkF m 94 #[.val (.int p0s), .val (.int p1s), .val (.int (p0s &&& (2147483647 : Int32))), .val (.int (1 : Int32)), .val (.long (((p0s &&& (2147483647 : Int32)) / (2 : Int32)).toInt64)), .second, .val (.long ((p0s &&& (2147483647 : Int32)).toInt64)), .second, .val (.int (1 : Int32)), .val (.int (0 : Int32))] [])) _
                refine XS.iload X42.here hx rfl (hb hby at_94) rfl ?_
                show Steps p.tables e below (T42.setTop (mkF m 96 #[.val (.int p0s), .val (.int p1s), .val (.int (p0s &&& (2147483647 : Int32))), .val (.int (1 : Int32)), .val (.long (((p0s &&& (2147483647 : Int32)) / (2 : Int32)).toInt64)), .second, .val (.long ((p0s &&& (2147483647 : Int32)).toInt64)), .second, .val (.int (1 : Int32)), .val (.int (0 : Int32))] [(.int (0 : Int32))])) _
                refine XS.ifYes X42.here hx rfl (pc0 := 96) (pc' := 103) rfl (hb hby at_96) rfl ((if0 _ _).trans (teq (show (0 : Int32) = (0 : Int32) from by decide)).1) (by decide) (by decide) ?_
                show Steps p.tables e below (T42.setTop (mkF m 103 #[.val (.int p0s), .val (.int p1s), .val (.int (p0s &&& (2147483647 : Int32))), .val (.int (1 : Int32)), .val (.long (((p0s &&& (2147483647 : Int32)) / (2 : Int32)).toInt64)), .second, .val (.long ((p0s &&& (2147483647 : Int32)).toInt64)), .second, .val (.int (1 : Int32)), .val (.int (0 : Int32))] [])) _
                refine XS.iconst X42.here hx rfl (hb hby at_103) ?_
                exact k
              exfalso
              have := rng32 p1s
              have := (show (1 : Int32).toInt = 1 from by decide)
              have := rng32 (p1s &&& (1 : Int32))
              have := own_mask p1s (1 : Int32) 1 2 (by decide) (by decide) (by decide)
              have := (show (0 : Int32).toInt = 0 from by decide)
              have := rng32 p0s
              have := (show (2147483647 : Int32).toInt = 2147483647 from by decide)
              have := rng32 (p0s &&& (2147483647 : Int32))
              have := own_mask p0s (2147483647 : Int32) 31 2147483648 (by decide) (by decide) (by decide)
              have := (show (2 : Int32).toInt = 2 from by decide)
              have := rng32 ((p0s &&& (2147483647 : Int32)) / (2 : Int32))
              have := c_idiv (p0s &&& (2147483647 : Int32)) (2 : Int32) 2 (by decide) (by decide)
              have := rng64 (((p0s &&& (2147483647 : Int32)) / (2 : Int32)).toInt64)
              have := c_i2l ((p0s &&& (2147483647 : Int32)) / (2 : Int32))
              have := (show (0 : Int64).toInt = 0 from by decide)
              have := (show (2 : Int64).toInt = 2 from by decide)
              have := (show (1 : Int64).toInt = 1 from by decide)
              have := rng64 ((((p0s &&& (2147483647 : Int32)) / (2 : Int32)).toInt64) + (1 : Int64))
              have := c_ladd (((p0s &&& (2147483647 : Int32)) / (2 : Int32)).toInt64) (1 : Int64)
              have := rng64 ((2 : Int64) * ((((p0s &&& (2147483647 : Int32)) / (2 : Int32)).toInt64) + (1 : Int64)))
              have := own_lmulc' (2 : Int64) ((((p0s &&& (2147483647 : Int32)) / (2 : Int32)).toInt64) + (1 : Int64)) (2) (by decide)
              have := rng64 ((p0s &&& (2147483647 : Int32)).toInt64)
              have := c_i2l (p0s &&& (2147483647 : Int32))
              have := own_ne32 hc6
              have := own_eq32 hc43
              have := own_nlt64 hc47
              have := own_eq64 hc50
              have := own_lt64 hc52
              omega
            · have r54 : own_R p.tables e below F0 (T42.setTop (mkF m 104 #[.val (.int p0s), .val (.int p1s), .val (.int (p0s &&& (2147483647 : Int32))), .val (.int (1 : Int32)), .val (.long (((p0s &&& (2147483647 : Int32)) / (2 : Int32)).toInt64)), .second, .val (.long ((p0s &&& (2147483647 : Int32)).toInt64)), .second, .val (.int (1 : Int32)), .val (.int (1 : Int32))] [(.int (1 : Int32))])) := fun t k => by
                refine r51 t ?_
                show Steps p.tables e below (T42.setTop (mkF m 79 #[.val (.int p0s), .val (.int p1s), .val (.int (p0s &&& (2147483647 : Int32))), .val (.int (1 : Int32)), .val (.long (((p0s &&& (2147483647 : Int32)) / (2 : Int32)).toInt64)), .second, .val (.long ((p0s &&& (2147483647 : Int32)).toInt64)), .second, .val (.int (1 : Int32)), .unset] [(.int (lcmpW ((2 : Int64) * ((((p0s &&& (2147483647 : Int32)) / (2 : Int32)).toInt64) + (1 : Int64))) ((p0s &&& (2147483647 : Int32)).toInt64)))])) _
                refine XS.ifNo X42.here hx rfl (hb hby at_79) rfl (own_l_nlt hc52).1 ?_
                show Steps p.tables e below (T42.setTop (mkF m 82 #[.val (.int p0s), .val (.int p1s), .val (.int (p0s &&& (2147483647 : Int32))), .val (.int (1 : Int32)), .val (.long (((p0s &&& (2147483647 : Int32)) / (2 : Int32)).toInt64)), .second, .val (.long ((p0s &&& (2147483647 : Int32)).toInt64)), .second, .val (.int (1 : Int32)), .unset] [])) _
                refine XS.iconst X42.here hx rfl (hb hby at_82) ?_
                show Steps p.tables e below (T42.setTop (mkF m 83 #[.val (.int p0s), .val (.int p1s), .val (.int (p0s &&& (2147483647 : Int32))), .val (.int (1 : Int32)), .val (.long (((p0s &&& (2147483647 : Int32)) / (2 : Int32)).toInt64)), .second, .val (.long ((p0s &&& (2147483647 : Int32)).toInt64)), .second, .val (.int (1 : Int32)), .unset] [(.int (1 : Int32))])) _
                refine XS.goto X42.here hx rfl (pc0 := 83) (pc' := 87) rfl (hb hby at_83) (by decide) (by decide) ?_
                show Steps p.tables e below (T42.setTop (mkF m 87 #[.val (.int p0s), .val (.int p1s), .val (.int (p0s &&& (2147483647 : Int32))), .val (.int (1 : Int32)), .val (.long (((p0s &&& (2147483647 : Int32)) / (2 : Int32)).toInt64)), .second, .val (.long ((p0s &&& (2147483647 : Int32)).toInt64)), .second, .val (.int (1 : Int32)), .unset] [(.int (1 : Int32))])) _
                refine XS.istore X42.here hx rfl (hb hby at_87) rfl (l' := #[.val (.int p0s), .val (.int p1s), .val (.int (p0s &&& (2147483647 : Int32))), .val (.int (1 : Int32)), .val (.long (((p0s &&& (2147483647 : Int32)) / (2 : Int32)).toInt64)), .second, .val (.long ((p0s &&& (2147483647 : Int32)).toInt64)), .second, .val (.int (1 : Int32)), .val (.int (1 : Int32))]) rfl ?_
                show Steps p.tables e below (T42.setTop (mkF m 89 #[.val (.int p0s), .val (.int p1s), .val (.int (p0s &&& (2147483647 : Int32))), .val (.int (1 : Int32)), .val (.long (((p0s &&& (2147483647 : Int32)) / (2 : Int32)).toInt64)), .second, .val (.long ((p0s &&& (2147483647 : Int32)).toInt64)), .second, .val (.int (1 : Int32)), .val (.int (1 : Int32))] [])) _
                refine XS.iload X42.here hx rfl (hb hby at_89) rfl ?_
                show Steps p.tables e below (T42.setTop (mkF m 91 #[.val (.int p0s), .val (.int p1s), .val (.int (p0s &&& (2147483647 : Int32))), .val (.int (1 : Int32)), .val (.long (((p0s &&& (2147483647 : Int32)) / (2 : Int32)).toInt64)), .second, .val (.long ((p0s &&& (2147483647 : Int32)).toInt64)), .second, .val (.int (1 : Int32)), .val (.int (1 : Int32))] [(.int (1 : Int32))])) _
                refine XS.ifNo X42.here hx rfl (hb hby at_91) rfl ((if0 _ _).trans (feq (show ¬ ((1 : Int32) = (0 : Int32)) from by decide)).1) ?_
                show Steps p.tables e below (T42.setTop (mkF m 94 #[.val (.int p0s), .val (.int p1s), .val (.int (p0s &&& (2147483647 : Int32))), .val (.int (1 : Int32)), .val (.long (((p0s &&& (2147483647 : Int32)) / (2 : Int32)).toInt64)), .second, .val (.long ((p0s &&& (2147483647 : Int32)).toInt64)), .second, .val (.int (1 : Int32)), .val (.int (1 : Int32))] [])) _
                refine XS.iload X42.here hx rfl (hb hby at_94) rfl ?_
                show Steps p.tables e below (T42.setTop (mkF m 96 #[.val (.int p0s), .val (.int p1s), .val (.int (p0s &&& (2147483647 : Int32))), .val (.int (1 : Int32)), .val (.long (((p0s &&& (2147483647 : Int32)) / (2 : Int32)).toInt64)), .second, .val (.long ((p0s &&& (2147483647 : Int32)).toInt64)), .second, .val (.int (1 : Int32)), .val (.int (1 : Int32))] [(.int (1 : Int32))])) _
                refine XS.ifNo X42.here hx rfl (hb hby at_96) rfl ((if0 _ _).trans (feq (show ¬ ((1 : Int32) = (0 : Int32)) from by decide)).1) ?_
                show Steps p.tables e below (T42.setTop (mkF m 99 #[.val (.int p0s), .val (.int p1s), .val (.int (p0s &&& (2147483647 : Int32))), .val (.int (1 : Int32)), .val (.long (((p0s &&& (2147483647 : Int32)) / (2 : Int32)).toInt64)), .second, .val (.long ((p0s &&& (2147483647 : Int32)).toInt64)), .second, .val (.int (1 : Int32)), .val (.int (1 : Int32))] [])) _
                refine XS.iconst X42.here hx rfl (hb hby at_99) ?_
                show Steps p.tables e below (T42.setTop (mkF m 100 #[.val (.int p0s), .val (.int p1s), .val (.int (p0s &&& (2147483647 : Int32))), .val (.int (1 : Int32)), .val (.long (((p0s &&& (2147483647 : Int32)) / (2 : Int32)).toInt64)), .second, .val (.long ((p0s &&& (2147483647 : Int32)).toInt64)), .second, .val (.int (1 : Int32)), .val (.int (1 : Int32))] [(.int (1 : Int32))])) _
                refine XS.goto X42.here hx rfl (pc0 := 100) (pc' := 104) rfl (hb hby at_100) (by decide) (by decide) ?_
                exact k
              refine hG (own_fin X42 hlk (some (.int (nar .boolean (1 : Int32)))) (own_hv Bd.returns) ?_ (by decide) (by decide) (fun fs hr => r54 _ (retN X42 hx (t := .boolean) Bd.returns (by simp) (hb hby at_104) hr)))
              rw [I42_0]
              exact ⟨rfl, N42⟩
          · have r55 : own_R p.tables e below F0 (T42.setTop (mkF m 58 #[.val (.int p0s), .val (.int p1s), .val (.int (p0s &&& (2147483647 : Int32))), .val (.int (1 : Int32)), .val (.long (((p0s &&& (2147483647 : Int32)) / (2 : Int32)).toInt64)), .second, .val (.long ((p0s &&& (2147483647 : Int32)).toInt64)), .second, .unset, .unset] [(.int (lcmpW ((2 : Int64) * (((p0s &&& (2147483647 : Int32)) / (2 : Int32)).toInt64)) ((p0s &&& (2147483647 : Int32)).toInt64)))])) := fun t k => by
              refine r49 t ?_
              show Steps p.tables e below (T42.setTop (mkF m 46 #[.val (.int p0s), .val (.int p1s), .val (.int (p0s &&& (2147483647 : Int32))), .val (.int (1 : Int32)), .val (.long (((p0s &&& (2147483647 : Int32)) / (2 : Int32)).toInt64)), .second, .val (.long ((p0s &&& (2147483647 : Int32)).toInt64)), .second, .unset, .unset] [(.int (lcmpW (((p0s &&& (2147483647 : Int32)) / (2 : Int32)).toInt64) (0 : Int64)))])) _
              refine XS.ifNo X42.here hx rfl (hb hby at_46) rfl (own_l_neq hc50).1 ?_
              show Steps p.tables e below (T42.setTop (mkF m 49 #[.val (.int p0s), .val (.int p1s), .val (.int (p0s &&& (2147483647 : Int32))), .val (.int (1 : Int32)), .val (.long (((p0s &&& (2147483647 : Int32)) / (2 : Int32)).toInt64)), .second, .val (.long ((p0s &&& (2147483647 : Int32)).toInt64)), .second, .unset, .unset] [])) _
              refine X42.ldc2J hx hown (mvT hZ (hw _ (List.mem_of_getElem? (i := 5) rfl))) rfl (hb hby at_49) ?_
              show Steps p.tables e below (T42.setTop (mkF m 52 #[.val (.int p0s), .val (.int p1s), .val (.int (p0s &&& (2147483647 : Int32))), .val (.int (1 : Int32)), .val (.long (((p0s &&& (2147483647 : Int32)) / (2 : Int32)).toInt64)), .second, .val (.long ((p0s &&& (2147483647 : Int32)).toInt64)), .second, .unset, .unset] [(.long (2 : Int64))])) _
              refine XS.lload X42.here hx rfl (hb hby at_52) rfl ?_
              show Steps p.tables e below (T42.setTop (mkF m 54 #[.val (.int p0s), .val (.int p1s), .val (.int (p0s &&& (2147483647 : Int32))), .val (.int (1 : Int32)), .val (.long (((p0s &&& (2147483647 : Int32)) / (2 : Int32)).toInt64)), .second, .val (.long ((p0s &&& (2147483647 : Int32)).toInt64)), .second, .unset, .unset] [(.long (((p0s &&& (2147483647 : Int32)) / (2 : Int32)).toInt64)), (.long (2 : Int64))])) _
              refine XS.lmul X42.here hx rfl (hb hby at_54) rfl ?_
              show Steps p.tables e below (T42.setTop (mkF m 55 #[.val (.int p0s), .val (.int p1s), .val (.int (p0s &&& (2147483647 : Int32))), .val (.int (1 : Int32)), .val (.long (((p0s &&& (2147483647 : Int32)) / (2 : Int32)).toInt64)), .second, .val (.long ((p0s &&& (2147483647 : Int32)).toInt64)), .second, .unset, .unset] [(.long ((2 : Int64) * (((p0s &&& (2147483647 : Int32)) / (2 : Int32)).toInt64)))])) _
              refine XS.lload X42.here hx rfl (hb hby at_55) rfl ?_
              show Steps p.tables e below (T42.setTop (mkF m 57 #[.val (.int p0s), .val (.int p1s), .val (.int (p0s &&& (2147483647 : Int32))), .val (.int (1 : Int32)), .val (.long (((p0s &&& (2147483647 : Int32)) / (2 : Int32)).toInt64)), .second, .val (.long ((p0s &&& (2147483647 : Int32)).toInt64)), .second, .unset, .unset] [(.long ((p0s &&& (2147483647 : Int32)).toInt64)), (.long ((2 : Int64) * (((p0s &&& (2147483647 : Int32)) / (2 : Int32)).toInt64)))])) _
              refine XS.lcmp X42.here hx rfl (hb hby at_57) rfl ?_
              exact k
            by_cases hc56 : ((2 : Int64) * (((p0s &&& (2147483647 : Int32)) / (2 : Int32)).toInt64)) < ((p0s &&& (2147483647 : Int32)).toInt64)
            · have r57 : own_R p.tables e below F0 (T42.setTop (mkF m 79 #[.val (.int p0s), .val (.int p1s), .val (.int (p0s &&& (2147483647 : Int32))), .val (.int (1 : Int32)), .val (.long (((p0s &&& (2147483647 : Int32)) / (2 : Int32)).toInt64)), .second, .val (.long ((p0s &&& (2147483647 : Int32)).toInt64)), .second, .val (.int (1 : Int32)), .unset] [(.int (lcmpW ((2 : Int64) * ((((p0s &&& (2147483647 : Int32)) / (2 : Int32)).toInt64) + (1 : Int64))) ((p0s &&& (2147483647 : Int32)).toInt64)))])) := fun t k => by
                refine r55 t ?_
                show Steps p.tables e below (T42.setTop (mkF m 58 #[.val (.int p0s), .val (.int p1s), .val (.int (p0s &&& (2147483647 : Int32))), .val (.int (1 : Int32)), .val (.long (((p0s &&& (2147483647 : Int32)) / (2 : Int32)).toInt64)), .second, .val (.long ((p0s &&& (2147483647 : Int32)).toInt64)), .second, .unset, .unset] [(.int (lcmpW ((2 : Int64) * (((p0s &&& (2147483647 : Int32)) / (2 : Int32)).toInt64)) ((p0s &&& (2147483647 : Int32)).toInt64)))])) _
                refine XS.ifNo X42.here hx rfl (hb hby at_58) rfl (own_l_lt hc56).2 ?_
                show Steps p.tables e below (T42.setTop (mkF m 61 #[.val (.int p0s), .val (.int p1s), .val (.int (p0s &&& (2147483647 : Int32))), .val (.int (1 : Int32)), .val (.long (((p0s &&& (2147483647 : Int32)) / (2 : Int32)).toInt64)), .second, .val (.long ((p0s &&& (2147483647 : Int32)).toInt64)), .second, .unset, .unset] [])) _
                refine XS.iconst X42.here hx rfl (hb hby at_61) ?_
                show Steps p.tables e below (T42.setTop (mkF m 62 #[.val (.int p0s), .val (.int p1s), .val (.int (p0s &&& (2147483647 : Int32))), .val (.int (1 : Int32)), .val (.long (((p0s &&& (2147483647 : Int32)) / (2 : Int32)).toInt64)), .second, .val (.long ((p0s &&& (2147483647 : Int32)).toInt64)), .second, .unset, .unset] [(.int (1 : Int32))])) _
                refine XS.goto X42.here hx rfl (pc0 := 62) (pc' := 66) rfl (hb hby at_62) (by decide) (by decide) ?_
                show Steps p.tables e below (T42.setTop (mkF m 66 #[.val (.int p0s), .val (.int p1s), .val (.int (p0s &&& (2147483647 : Int32))), .val (.int (1 : Int32)), .val (.long (((p0s &&& (2147483647 : Int32)) / (2 : Int32)).toInt64)), .second, .val (.long ((p0s &&& (2147483647 : Int32)).toInt64)), .second, .unset, .unset] [(.int (1 : Int32))])) _
                refine XS.istore X42.here hx rfl (hb hby at_66) rfl (l' := #[.val (.int p0s), .val (.int p1s), .val (.int (p0s &&& (2147483647 : Int32))), .val (.int (1 : Int32)), .val (.long (((p0s &&& (2147483647 : Int32)) / (2 : Int32)).toInt64)), .second, .val (.long ((p0s &&& (2147483647 : Int32)).toInt64)), .second, .val (.int (1 : Int32)), .unset]) rfl ?_
                show Steps p.tables e below (T42.setTop (mkF m 68 #[.val (.int p0s), .val (.int p1s), .val (.int (p0s &&& (2147483647 : Int32))), .val (.int (1 : Int32)), .val (.long (((p0s &&& (2147483647 : Int32)) / (2 : Int32)).toInt64)), .second, .val (.long ((p0s &&& (2147483647 : Int32)).toInt64)), .second, .val (.int (1 : Int32)), .unset] [])) _
                refine X42.ldc2J hx hown (mvT hZ (hw _ (List.mem_of_getElem? (i := 5) rfl))) rfl (hb hby at_68) ?_
                show Steps p.tables e below (T42.setTop (mkF m 71 #[.val (.int p0s), .val (.int p1s), .val (.int (p0s &&& (2147483647 : Int32))), .val (.int (1 : Int32)), .val (.long (((p0s &&& (2147483647 : Int32)) / (2 : Int32)).toInt64)), .second, .val (.long ((p0s &&& (2147483647 : Int32)).toInt64)), .second, .val (.int (1 : Int32)), .unset] [(.long (2 : Int64))])) _
                refine XS.lload X42.here hx rfl (hb hby at_71) rfl ?_
                show Steps p.tables e below (T42.setTop (mkF m 73 #[.val (.int p0s), .val (.int p1s), .val (.int (p0s &&& (2147483647 : Int32))), .val (.int (1 : Int32)), .val (.long (((p0s &&& (2147483647 : Int32)) / (2 : Int32)).toInt64)), .second, .val (.long ((p0s &&& (2147483647 : Int32)).toInt64)), .second, .val (.int (1 : Int32)), .unset] [(.long (((p0s &&& (2147483647 : Int32)) / (2 : Int32)).toInt64)), (.long (2 : Int64))])) _
                refine XS.lconst X42.here hx rfl (hb hby at_73) ?_
                show Steps p.tables e below (T42.setTop (mkF m 74 #[.val (.int p0s), .val (.int p1s), .val (.int (p0s &&& (2147483647 : Int32))), .val (.int (1 : Int32)), .val (.long (((p0s &&& (2147483647 : Int32)) / (2 : Int32)).toInt64)), .second, .val (.long ((p0s &&& (2147483647 : Int32)).toInt64)), .second, .val (.int (1 : Int32)), .unset] [(.long (1 : Int64)), (.long (((p0s &&& (2147483647 : Int32)) / (2 : Int32)).toInt64)), (.long (2 : Int64))])) _
                refine XS.ladd X42.here hx rfl (hb hby at_74) rfl ?_
                show Steps p.tables e below (T42.setTop (mkF m 75 #[.val (.int p0s), .val (.int p1s), .val (.int (p0s &&& (2147483647 : Int32))), .val (.int (1 : Int32)), .val (.long (((p0s &&& (2147483647 : Int32)) / (2 : Int32)).toInt64)), .second, .val (.long ((p0s &&& (2147483647 : Int32)).toInt64)), .second, .val (.int (1 : Int32)), .unset] [(.long ((((p0s &&& (2147483647 : Int32)) / (2 : Int32)).toInt64) + (1 : Int64))), (.long (2 : Int64))])) _
                refine XS.lmul X42.here hx rfl (hb hby at_75) rfl ?_
                show Steps p.tables e below (T42.setTop (mkF m 76 #[.val (.int p0s), .val (.int p1s), .val (.int (p0s &&& (2147483647 : Int32))), .val (.int (1 : Int32)), .val (.long (((p0s &&& (2147483647 : Int32)) / (2 : Int32)).toInt64)), .second, .val (.long ((p0s &&& (2147483647 : Int32)).toInt64)), .second, .val (.int (1 : Int32)), .unset] [(.long ((2 : Int64) * ((((p0s &&& (2147483647 : Int32)) / (2 : Int32)).toInt64) + (1 : Int64))))])) _
                refine XS.lload X42.here hx rfl (hb hby at_76) rfl ?_
                show Steps p.tables e below (T42.setTop (mkF m 78 #[.val (.int p0s), .val (.int p1s), .val (.int (p0s &&& (2147483647 : Int32))), .val (.int (1 : Int32)), .val (.long (((p0s &&& (2147483647 : Int32)) / (2 : Int32)).toInt64)), .second, .val (.long ((p0s &&& (2147483647 : Int32)).toInt64)), .second, .val (.int (1 : Int32)), .unset] [(.long ((p0s &&& (2147483647 : Int32)).toInt64)), (.long ((2 : Int64) * ((((p0s &&& (2147483647 : Int32)) / (2 : Int32)).toInt64) + (1 : Int64))))])) _
                refine XS.lcmp X42.here hx rfl (hb hby at_78) rfl ?_
                exact k
              by_cases hc58 : ((2 : Int64) * ((((p0s &&& (2147483647 : Int32)) / (2 : Int32)).toInt64) + (1 : Int64))) < ((p0s &&& (2147483647 : Int32)).toInt64)
              · have r59 : own_R p.tables e below F0 (T42.setTop (mkF m 104 #[.val (.int p0s), .val (.int p1s), .val (.int (p0s &&& (2147483647 : Int32))), .val (.int (1 : Int32)), .val (.long (((p0s &&& (2147483647 : Int32)) / (2 : Int32)).toInt64)), .second, .val (.long ((p0s &&& (2147483647 : Int32)).toInt64)), .second, .val (.int (1 : Int32)), .val (.int (0 : Int32))] [(.int (0 : Int32))])) := fun t k => by
                  refine r57 t ?_
                  show Steps p.tables e below (T42.setTop (mkF m 79 #[.val (.int p0s), .val (.int p1s), .val (.int (p0s &&& (2147483647 : Int32))), .val (.int (1 : Int32)), .val (.long (((p0s &&& (2147483647 : Int32)) / (2 : Int32)).toInt64)), .second, .val (.long ((p0s &&& (2147483647 : Int32)).toInt64)), .second, .val (.int (1 : Int32)), .unset] [(.int (lcmpW ((2 : Int64) * ((((p0s &&& (2147483647 : Int32)) / (2 : Int32)).toInt64) + (1 : Int64))) ((p0s &&& (2147483647 : Int32)).toInt64)))])) _
                  refine XS.ifYes X42.here hx rfl (pc0 := 79) (pc' := 86) rfl (hb hby at_79) rfl (own_l_lt hc58).1 (by decide) (by decide) ?_
                  show Steps p.tables e below (T42.setTop (mkF m 86 #[.val (.int p0s), .val (.int p1s), .val (.int (p0s &&& (2147483647 : Int32))), .val (.int (1 : Int32)), .val (.long (((p0s &&& (2147483647 : Int32)) / (2 : Int32)).toInt64)), .second, .val (.long ((p0s &&& (2147483647 : Int32)).toInt64)), .second, .val (.int (1 : Int32)), .unset] [])) _
                  refine XS.iconst X42.here hx rfl (hb hby at_86) ?_
                  show Steps p.tables e below (T42.setTop (mkF m 87 #[.val (.int p0s), .val (.int p1s), .val (.int (p0s &&& (2147483647 : Int32))), .val (.int (1 : Int32)), .val (.long (((p0s &&& (2147483647 : Int32)) / (2 : Int32)).toInt64)), .second, .val (.long ((p0s &&& (2147483647 : Int32)).toInt64)), .second, .val (.int (1 : Int32)), .unset] [(.int (0 : Int32))])) _
                  refine XS.istore X42.here hx rfl (hb hby at_87) rfl (l' := #[.val (.int p0s), .val (.int p1s), .val (.int (p0s &&& (2147483647 : Int32))), .val (.int (1 : Int32)), .val (.long (((p0s &&& (2147483647 : Int32)) / (2 : Int32)).toInt64)), .second, .val (.long ((p0s &&& (2147483647 : Int32)).toInt64)), .second, .val (.int (1 : Int32)), .val (.int (0 : Int32))]) rfl ?_
                  show Steps p.tables e below (T42.setTop (mkF m 89 #[.val (.int p0s), .val (.int p1s), .val (.int (p0s &&& (2147483647 : Int32))), .val (.int (1 : Int32)), .val (.long (((p0s &&& (2147483647 : Int32)) / (2 : Int32)).toInt64)), .second, .val (.long ((p0s &&& (2147483647 : Int32)).toInt64)), .second, .val (.int (1 : Int32)), .val (.int (0 : Int32))] [])) _
                  refine XS.iload X42.here hx rfl (hb hby at_89) rfl ?_
                  show Steps p.tables e below (T42.setTop (mkF m 91 #[.val (.int p0s), .val (.int p1s), .val (.int (p0s &&& (2147483647 : Int32))), .val (.int (1 : Int32)), .val (.long (((p0s &&& (2147483647 : Int32)) / (2 : Int32)).toInt64)), .second, .val (.long ((p0s &&& (2147483647 : Int32)).toInt64)), .second, .val (.int (1 : Int32)), .val (.int (0 : Int32))] [(.int (1 : Int32))])) _
                  refine XS.ifNo X42.here hx rfl (hb hby at_91) rfl ((if0 _ _).trans (feq (show ¬ ((1 : Int32) = (0 : Int32)) from by decide)).1) ?_
                  show Steps p.tables e below (T42.setTop (mkF m 94 #[.val (.int p0s), .val (.int p1s), .val (.int (p0s &&& (2147483647 : Int32))), .val (.int (1 : Int32)), .val (.long (((p0s &&& (2147483647 : Int32)) / (2 : Int32)).toInt64)), .second, .val (.long ((p0s &&& (2147483647 : Int32)).toInt64)), .second, .val (.int (1 : Int32)), .val (.int (0 : Int32))] [])) _
                  refine XS.iload X42.here hx rfl (hb hby at_94) rfl ?_
                  show Steps p.tables e below (T42.setTop (mkF m 96 #[.val (.int p0s), .val (.int p1s), .val (.int (p0s &&& (2147483647 : Int32))), .val (.int (1 : Int32)), .val (.long (((p0s &&& (2147483647 : Int32)) / (2 : Int32)).toInt64)), .second, .val (.long ((p0s &&& (2147483647 : Int32)).toInt64)), .second, .val (.int (1 : Int32)), .val (.int (0 : Int32))] [(.int (0 : Int32))])) _
                  refine XS.ifYes X42.here hx rfl (pc0 := 96) (pc' := 103) rfl (hb hby at_96) rfl ((if0 _ _).trans (teq (show (0 : Int32) = (0 : Int32) from by decide)).1) (by decide) (by decide) ?_
                  show Steps p.tables e below (T42.setTop (mkF m 103 #[.val (.int p0s), .val (.int p1s), .val (.int (p0s &&& (2147483647 : Int32))), .val (.int (1 : Int32)), .val (.long (((p0s &&& (2147483647 : Int32)) / (2 : Int32)).toInt64)), .second, .val (.long ((p0s &&& (2147483647 : Int32)).toInt64)), .second, .val (.int (1 : Int32)), .val (.int (0 : Int32))] [])) _
                  refine XS.iconst X42.here hx rfl (hb hby at_103) ?_
                  exact k
                exfalso
                have := rng32 p1s
                have := (show (1 : Int32).toInt = 1 from by decide)
                have := rng32 (p1s &&& (1 : Int32))
                have := own_mask p1s (1 : Int32) 1 2 (by decide) (by decide) (by decide)
                have := (show (0 : Int32).toInt = 0 from by decide)
                have := rng32 p0s
                have := (show (2147483647 : Int32).toInt = 2147483647 from by decide)
                have := rng32 (p0s &&& (2147483647 : Int32))
                have := own_mask p0s (2147483647 : Int32) 31 2147483648 (by decide) (by decide) (by decide)
                have := (show (2 : Int32).toInt = 2 from by decide)
                have := rng32 ((p0s &&& (2147483647 : Int32)) / (2 : Int32))
                have := c_idiv (p0s &&& (2147483647 : Int32)) (2 : Int32) 2 (by decide) (by decide)
                have := rng64 (((p0s &&& (2147483647 : Int32)) / (2 : Int32)).toInt64)
                have := c_i2l ((p0s &&& (2147483647 : Int32)) / (2 : Int32))
                have := (show (0 : Int64).toInt = 0 from by decide)
                have := (show (2 : Int64).toInt = 2 from by decide)
                have := rng64 ((2 : Int64) * (((p0s &&& (2147483647 : Int32)) / (2 : Int32)).toInt64))
                have := own_lmulc' (2 : Int64) (((p0s &&& (2147483647 : Int32)) / (2 : Int32)).toInt64) (2) (by decide)
                have := rng64 ((p0s &&& (2147483647 : Int32)).toInt64)
                have := c_i2l (p0s &&& (2147483647 : Int32))
                have := (show (1 : Int64).toInt = 1 from by decide)
                have := rng64 ((((p0s &&& (2147483647 : Int32)) / (2 : Int32)).toInt64) + (1 : Int64))
                have := c_ladd (((p0s &&& (2147483647 : Int32)) / (2 : Int32)).toInt64) (1 : Int64)
                have := rng64 ((2 : Int64) * ((((p0s &&& (2147483647 : Int32)) / (2 : Int32)).toInt64) + (1 : Int64)))
                have := own_lmulc' (2 : Int64) ((((p0s &&& (2147483647 : Int32)) / (2 : Int32)).toInt64) + (1 : Int64)) (2) (by decide)
                have := own_ne32 hc6
                have := own_eq32 hc43
                have := own_nlt64 hc47
                have := own_ne64 hc50
                have := own_lt64 hc56
                have := own_lt64 hc58
                omega
              · have r60 : own_R p.tables e below F0 (T42.setTop (mkF m 104 #[.val (.int p0s), .val (.int p1s), .val (.int (p0s &&& (2147483647 : Int32))), .val (.int (1 : Int32)), .val (.long (((p0s &&& (2147483647 : Int32)) / (2 : Int32)).toInt64)), .second, .val (.long ((p0s &&& (2147483647 : Int32)).toInt64)), .second, .val (.int (1 : Int32)), .val (.int (1 : Int32))] [(.int (1 : Int32))])) := fun t k => by
                  refine r57 t ?_
                  show Steps p.tables e below (T42.setTop (mkF m 79 #[.val (.int p0s), .val (.int p1s), .val (.int (p0s &&& (2147483647 : Int32))), .val (.int (1 : Int32)), .val (.long (((p0s &&& (2147483647 : Int32)) / (2 : Int32)).toInt64)), .second, .val (.long ((p0s &&& (2147483647 : Int32)).toInt64)), .second, .val (.int (1 : Int32)), .unset] [(.int (lcmpW ((2 : Int64) * ((((p0s &&& (2147483647 : Int32)) / (2 : Int32)).toInt64) + (1 : Int64))) ((p0s &&& (2147483647 : Int32)).toInt64)))])) _
                  refine XS.ifNo X42.here hx rfl (hb hby at_79) rfl (own_l_nlt hc58).1 ?_
                  show Steps p.tables e below (T42.setTop (mkF m 82 #[.val (.int p0s), .val (.int p1s), .val (.int (p0s &&& (2147483647 : Int32))), .val (.int (1 : Int32)), .val (.long (((p0s &&& (2147483647 : Int32)) / (2 : Int32)).toInt64)), .second, .val (.long ((p0s &&& (2147483647 : Int32)).toInt64)), .second, .val (.int (1 : Int32)), .unset] [])) _
                  refine XS.iconst X42.here hx rfl (hb hby at_82) ?_
                  show Steps p.tables e below (T42.setTop (mkF m 83 #[.val (.int p0s), .val (.int p1s), .val (.int (p0s &&& (2147483647 : Int32))), .val (.int (1 : Int32)), .val (.long (((p0s &&& (2147483647 : Int32)) / (2 : Int32)).toInt64)), .second, .val (.long ((p0s &&& (2147483647 : Int32)).toInt64)), .second, .val (.int (1 : Int32)), .unset] [(.int (1 : Int32))])) _
                  refine XS.goto X42.here hx rfl (pc0 := 83) (pc' := 87) rfl (hb hby at_83) (by decide) (by decide) ?_
                  show Steps p.tables e below (T42.setTop (mkF m 87 #[.val (.int p0s), .val (.int p1s), .val (.int (p0s &&& (2147483647 : Int32))), .val (.int (1 : Int32)), .val (.long (((p0s &&& (2147483647 : Int32)) / (2 : Int32)).toInt64)), .second, .val (.long ((p0s &&& (2147483647 : Int32)).toInt64)), .second, .val (.int (1 : Int32)), .unset] [(.int (1 : Int32))])) _
                  refine XS.istore X42.here hx rfl (hb hby at_87) rfl (l' := #[.val (.int p0s), .val (.int p1s), .val (.int (p0s &&& (2147483647 : Int32))), .val (.int (1 : Int32)), .val (.long (((p0s &&& (2147483647 : Int32)) / (2 : Int32)).toInt64)), .second, .val (.long ((p0s &&& (2147483647 : Int32)).toInt64)), .second, .val (.int (1 : Int32)), .val (.int (1 : Int32))]) rfl ?_
                  show Steps p.tables e below (T42.setTop (mkF m 89 #[.val (.int p0s), .val (.int p1s), .val (.int (p0s &&& (2147483647 : Int32))), .val (.int (1 : Int32)), .val (.long (((p0s &&& (2147483647 : Int32)) / (2 : Int32)).toInt64)), .second, .val (.long ((p0s &&& (2147483647 : Int32)).toInt64)), .second, .val (.int (1 : Int32)), .val (.int (1 : Int32))] [])) _
                  refine XS.iload X42.here hx rfl (hb hby at_89) rfl ?_
                  show Steps p.tables e below (T42.setTop (mkF m 91 #[.val (.int p0s), .val (.int p1s), .val (.int (p0s &&& (2147483647 : Int32))), .val (.int (1 : Int32)), .val (.long (((p0s &&& (2147483647 : Int32)) / (2 : Int32)).toInt64)), .second, .val (.long ((p0s &&& (2147483647 : Int32)).toInt64)), .second, .val (.int (1 : Int32)), .val (.int (1 : Int32))] [(.int (1 : Int32))])) _
                  refine XS.ifNo X42.here hx rfl (hb hby at_91) rfl ((if0 _ _).trans (feq (show ¬ ((1 : Int32) = (0 : Int32)) from by decide)).1) ?_
                  show Steps p.tables e below (T42.setTop (mkF m 94 #[.val (.int p0s), .val (.int p1s), .val (.int (p0s &&& (2147483647 : Int32))), .val (.int (1 : Int32)), .val (.long (((p0s &&& (2147483647 : Int32)) / (2 : Int32)).toInt64)), .second, .val (.long ((p0s &&& (2147483647 : Int32)).toInt64)), .second, .val (.int (1 : Int32)), .val (.int (1 : Int32))] [])) _
                  refine XS.iload X42.here hx rfl (hb hby at_94) rfl ?_
                  show Steps p.tables e below (T42.setTop (mkF m 96 #[.val (.int p0s), .val (.int p1s), .val (.int (p0s &&& (2147483647 : Int32))), .val (.int (1 : Int32)), .val (.long (((p0s &&& (2147483647 : Int32)) / (2 : Int32)).toInt64)), .second, .val (.long ((p0s &&& (2147483647 : Int32)).toInt64)), .second, .val (.int (1 : Int32)), .val (.int (1 : Int32))] [(.int (1 : Int32))])) _
                  refine XS.ifNo X42.here hx rfl (hb hby at_96) rfl ((if0 _ _).trans (feq (show ¬ ((1 : Int32) = (0 : Int32)) from by decide)).1) ?_
                  show Steps p.tables e below (T42.setTop (mkF m 99 #[.val (.int p0s), .val (.int p1s), .val (.int (p0s &&& (2147483647 : Int32))), .val (.int (1 : Int32)), .val (.long (((p0s &&& (2147483647 : Int32)) / (2 : Int32)).toInt64)), .second, .val (.long ((p0s &&& (2147483647 : Int32)).toInt64)), .second, .val (.int (1 : Int32)), .val (.int (1 : Int32))] [])) _
                  refine XS.iconst X42.here hx rfl (hb hby at_99) ?_
                  show Steps p.tables e below (T42.setTop (mkF m 100 #[.val (.int p0s), .val (.int p1s), .val (.int (p0s &&& (2147483647 : Int32))), .val (.int (1 : Int32)), .val (.long (((p0s &&& (2147483647 : Int32)) / (2 : Int32)).toInt64)), .second, .val (.long ((p0s &&& (2147483647 : Int32)).toInt64)), .second, .val (.int (1 : Int32)), .val (.int (1 : Int32))] [(.int (1 : Int32))])) _
                  refine XS.goto X42.here hx rfl (pc0 := 100) (pc' := 104) rfl (hb hby at_100) (by decide) (by decide) ?_
                  exact k
                refine hG (own_fin X42 hlk (some (.int (nar .boolean (1 : Int32)))) (own_hv Bd.returns) ?_ (by decide) (by decide) (fun fs hr => r60 _ (retN X42 hx (t := .boolean) Bd.returns (by simp) (hb hby at_104) hr)))
                rw [I42_0]
                exact ⟨rfl, N42⟩
            · have r61 : own_R p.tables e below F0 (T42.setTop (mkF m 79 #[.val (.int p0s), .val (.int p1s), .val (.int (p0s &&& (2147483647 : Int32))), .val (.int (1 : Int32)), .val (.long (((p0s &&& (2147483647 : Int32)) / (2 : Int32)).toInt64)), .second, .val (.long ((p0s &&& (2147483647 : Int32)).toInt64)), .second, .val (.int (0 : Int32)), .unset] [(.int (lcmpW ((2 : Int64) * ((((p0s &&& (2147483647 : Int32)) / (2 : Int32)).toInt64) + (1 : Int64))) ((p0s &&& (2147483647 : Int32)).toInt64)))])) := fun t k => by
                refine r55 t ?_
                show Steps p.tables e below (T42.setTop (mkF m 58 #[.val (.int p0s), .val (.int p1s), .val (.int (p0s &&& (2147483647 : Int32))), .val (.int (1 : Int32)), .val (.long (((p0s &&& (2147483647 : Int32)) / (2 : Int32)).toInt64)), .second, .val (.long ((p0s &&& (2147483647 : Int32)).toInt64)), .second, .unset, .unset] [(.int (lcmpW ((2 : Int64) * (((p0s &&& (2147483647 : Int32)) / (2 : Int32)).toInt64)) ((p0s &&& (2147483647 : Int32)).toInt64)))])) _
                refine XS.ifYes X42.here hx rfl (pc0 := 58) (pc' := 65) rfl (hb hby at_58) rfl (own_l_nlt hc56).2 (by decide) (by decide) ?_
                show Steps p.tables e below (T42.setTop (mkF m 65 #[.val (.int p0s), .val (.int p1s), .val (.int (p0s &&& (2147483647 : Int32))), .val (.int (1 : Int32)), .val (.long (((p0s &&& (2147483647 : Int32)) / (2 : Int32)).toInt64)), .second, .val (.long ((p0s &&& (2147483647 : Int32)).toInt64)), .second, .unset, .unset] [])) _
                refine XS.iconst X42.here hx rfl (hb hby at_65) ?_
                show Steps p.tables e below (T42.setTop (mkF m 66 #[.val (.int p0s), .val (.int p1s), .val (.int (p0s &&& (2147483647 : Int32))), .val (.int (1 : Int32)), .val (.long (((p0s &&& (2147483647 : Int32)) / (2 : Int32)).toInt64)), .second, .val (.long ((p0s &&& (2147483647 : Int32)).toInt64)), .second, .unset, .unset] [(.int (0 : Int32))])) _
                refine XS.istore X42.here hx rfl (hb hby at_66) rfl (l' := #[.val (.int p0s), .val (.int p1s), .val (.int (p0s &&& (2147483647 : Int32))), .val (.int (1 : Int32)), .val (.long (((p0s &&& (2147483647 : Int32)) / (2 : Int32)).toInt64)), .second, .val (.long ((p0s &&& (2147483647 : Int32)).toInt64)), .second, .val (.int (0 : Int32)), .unset]) rfl ?_
                show Steps p.tables e below (T42.setTop (mkF m 68 #[.val (.int p0s), .val (.int p1s), .val (.int (p0s &&& (2147483647 : Int32))), .val (.int (1 : Int32)), .val (.long (((p0s &&& (2147483647 : Int32)) / (2 : Int32)).toInt64)), .second, .val (.long ((p0s &&& (2147483647 : Int32)).toInt64)), .second, .val (.int (0 : Int32)), .unset] [])) _
                refine X42.ldc2J hx hown (mvT hZ (hw _ (List.mem_of_getElem? (i := 5) rfl))) rfl (hb hby at_68) ?_
                show Steps p.tables e below (T42.setTop (mkF m 71 #[.val (.int p0s), .val (.int p1s), .val (.int (p0s &&& (2147483647 : Int32))), .val (.int (1 : Int32)), .val (.long (((p0s &&& (2147483647 : Int32)) / (2 : Int32)).toInt64)), .second, .val (.long ((p0s &&& (2147483647 : Int32)).toInt64)), .second, .val (.int (0 : Int32)), .unset] [(.long (2 : Int64))])) _
                refine XS.lload X42.here hx rfl (hb hby at_71) rfl ?_
                show Steps p.tables e below (T42.setTop (mkF m 73 #[.val (.int p0s), .val (.int p1s), .val (.int (p0s &&& (2147483647 : Int32))), .val (.int (1 : Int32)), .val (.long (((p0s &&& (2147483647 : Int32)) / (2 : Int32)).toInt64)), .second, .val (.long ((p0s &&& (2147483647 : Int32)).toInt64)), .second, .val (.int (0 : Int32)), .unset] [(.long (((p0s &&& (2147483647 : Int32)) / (2 : Int32)).toInt64)), (.long (2 : Int64))])) _
                refine XS.lconst X42.here hx rfl (hb hby at_73) ?_
                show Steps p.tables e below (T42.setTop (mkF m 74 #[.val (.int p0s), .val (.int p1s), .val (.int (p0s &&& (2147483647 : Int32))), .val (.int (1 : Int32)), .val (.long (((p0s &&& (2147483647 : Int32)) / (2 : Int32)).toInt64)), .second, .val (.long ((p0s &&& (2147483647 : Int32)).toInt64)), .second, .val (.int (0 : Int32)), .unset] [(.long (1 : Int64)), (.long (((p0s &&& (2147483647 : Int32)) / (2 : Int32)).toInt64)), (.long (2 : Int64))])) _
                refine XS.ladd X42.here hx rfl (hb hby at_74) rfl ?_
                show Steps p.tables e below (T42.setTop (mkF m 75 #[.val (.int p0s), .val (.int p1s), .val (.int (p0s &&& (2147483647 : Int32))), .val (.int (1 : Int32)), .val (.long (((p0s &&& (2147483647 : Int32)) / (2 : Int32)).toInt64)), .second, .val (.long ((p0s &&& (2147483647 : Int32)).toInt64)), .second, .val (.int (0 : Int32)), .unset] [(.long ((((p0s &&& (2147483647 : Int32)) / (2 : Int32)).toInt64) + (1 : Int64))), (.long (2 : Int64))])) _
                refine XS.lmul X42.here hx rfl (hb hby at_75) rfl ?_
                show Steps p.tables e below (T42.setTop (mkF m 76 #[.val (.int p0s), .val (.int p1s), .val (.int (p0s &&& (2147483647 : Int32))), .val (.int (1 : Int32)), .val (.long (((p0s &&& (2147483647 : Int32)) / (2 : Int32)).toInt64)), .second, .val (.long ((p0s &&& (2147483647 : Int32)).toInt64)), .second, .val (.int (0 : Int32)), .unset] [(.long ((2 : Int64) * ((((p0s &&& (2147483647 : Int32)) / (2 : Int32)).toInt64) + (1 : Int64))))])) _
                refine XS.lload X42.here hx rfl (hb hby at_76) rfl ?_
                show Steps p.tables e below (T42.setTop (mkF m 78 #[.val (.int p0s), .val (.int p1s), .val (.int (p0s &&& (2147483647 : Int32))), .val (.int (1 : Int32)), .val (.long (((p0s &&& (2147483647 : Int32)) / (2 : Int32)).toInt64)), .second, .val (.long ((p0s &&& (2147483647 : Int32)).toInt64)), .second, .val (.int (0 : Int32)), .unset] [(.long ((p0s &&& (2147483647 : Int32)).toInt64)), (.long ((2 : Int64) * ((((p0s &&& (2147483647 : Int32)) / (2 : Int32)).toInt64) + (1 : Int64))))])) _
                refine XS.lcmp X42.here hx rfl (hb hby at_78) rfl ?_
                exact k
              by_cases hc62 : ((2 : Int64) * ((((p0s &&& (2147483647 : Int32)) / (2 : Int32)).toInt64) + (1 : Int64))) < ((p0s &&& (2147483647 : Int32)).toInt64)
              · have r63 : own_R p.tables e below F0 (T42.setTop (mkF m 104 #[.val (.int p0s), .val (.int p1s), .val (.int (p0s &&& (2147483647 : Int32))), .val (.int (1 : Int32)), .val (.long (((p0s &&& (2147483647 : Int32)) / (2 : Int32)).toInt64)), .second, .val (.long ((p0s &&& (2147483647 : Int32)).toInt64)), .second, .val (.int (0 : Int32)), .val (.int (0 : Int32))] [(.int (0 : Int32))])) := fun t k => by
                  refine r61 t ?_
                  show Steps p.tables e below (T42.setTop (mkF m 79 #[.val (.int p0s), .val (.int p1s), .val (.int (p0s &&& (2147483647 : Int32))), .val (.int (1 : Int32)), .val (.long (((p0s &&& (2147483647 : Int32)) / (2 : Int32)).toInt64)), .second, .val (.long ((p0s &&& (2147483647 : Int32)).toInt64)), .second, .val (.int (0 : Int32)), .unset] [(.int (lcmpW ((2 : Int64) * ((((p0s &&& (2147483647 : Int32)) / (2 : Int32)).toInt64) + (1 : Int64))) ((p0s &&& (2147483647 : Int32)).toInt64)))])) _
                  refine XS.ifYes X42.here hx rfl (pc0 := 79) (pc' := 86) rfl (hb hby at_79) rfl (own_l_lt hc62).1 (by decide) (by decide) ?_
                  show Steps p.tables e below (T42.setTop (mkF m 86 #[.val (.int p0s), .val (.int p1s), .val (.int (p0s &&& (2147483647 : Int32))), .val (.int (1 : Int32)), .val (.long (((p0s &&& (2147483647 : Int32)) / (2 : Int32)).toInt64)), .second, .val (.long ((p0s &&& (2147483647 : Int32)).toInt64)), .second, .val (.int (0 : Int32)), .unset] [])) _
                  refine XS.iconst X42.here hx rfl (hb hby at_86) ?_
                  show Steps p.tables e below (T42.setTop (mkF m 87 #[.val (.int p0s), .val (.int p1s), .val (.int (p0s &&& (2147483647 : Int32))), .val (.int (1 : Int32)), .val (.long (((p0s &&& (2147483647 : Int32)) / (2 : Int32)).toInt64)), .second, .val (.long ((p0s &&& (2147483647 : Int32)).toInt64)), .second, .val (.int (0 : Int32)), .unset] [(.int (0 : Int32))])) _
                  refine XS.istore X42.here hx rfl (hb hby at_87) rfl (l' := #[.val (.int p0s), .val (.int p1s), .val (.int (p0s &&& (2147483647 : Int32))), .val (.int (1 : Int32)), .val (.long (((p0s &&& (2147483647 : Int32)) / (2 : Int32)).toInt64)), .second, .val (.long ((p0s &&& (2147483647 : Int32)).toInt64)), .second, .val (.int (0 : Int32)), .val (.int (0 : Int32))]) rfl ?_
                  show Steps p.tables e below (T42.setTop (mkF m 89 #[.val (.int p0s), .val (.int p1s), .val (.int (p0s &&& (2147483647 : Int32))), .val (.int (1 : Int32)), .val (.long (((p0s &&& (2147483647 : Int32)) / (2 : Int32)).toInt64)), .second, .val (.long ((p0s &&& (2147483647 : Int32)).toInt64)), .second, .val (.int (0 : Int32)), .val (.int (0 : Int32))] [])) _
                  refine XS.iload X42.here hx rfl (hb hby at_89) rfl ?_
                  show Steps p.tables e below (T42.setTop (mkF m 91 #[.val (.int p0s), .val (.int p1s), .val (.int (p0s &&& (2147483647 : Int32))), .val (.int (1 : Int32)), .val (.long (((p0s &&& (2147483647 : Int32)) / (2 : Int32)).toInt64)), .second, .val (.long ((p0s &&& (2147483647 : Int32)).toInt64)), .second, .val (.int (0 : Int32)), .val (.int (0 : Int32))] [(.int (0 : Int32))])) _
                  refine XS.ifYes X42.here hx rfl (pc0 := 91) (pc' := 103) rfl (hb hby at_91) rfl ((if0 _ _).trans (teq (show (0 : Int32) = (0 : Int32) from by decide)).1) (by decide) (by decide) ?_
                  show Steps p.tables e below (T42.setTop (mkF m 103 #[.val (.int p0s), .val (.int p1s), .val (.int (p0s &&& (2147483647 : Int32))), .val (.int (1 : Int32)), .val (.long (((p0s &&& (2147483647 : Int32)) / (2 : Int32)).toInt64)), .second, .val (.long ((p0s &&& (2147483647 : Int32)).toInt64)), .second, .val (.int (0 : Int32)), .val (.int (0 : Int32))] [])) _
                  refine XS.iconst X42.here hx rfl (hb hby at_103) ?_
                  exact k
                exfalso
                have := rng32 p1s
                have := (show (1 : Int32).toInt = 1 from by decide)
                have := rng32 (p1s &&& (1 : Int32))
                have := own_mask p1s (1 : Int32) 1 2 (by decide) (by decide) (by decide)
                have := (show (0 : Int32).toInt = 0 from by decide)
                have := rng32 p0s
                have := (show (2147483647 : Int32).toInt = 2147483647 from by decide)
                have := rng32 (p0s &&& (2147483647 : Int32))
                have := own_mask p0s (2147483647 : Int32) 31 2147483648 (by decide) (by decide) (by decide)
                have := (show (2 : Int32).toInt = 2 from by decide)
                have := rng32 ((p0s &&& (2147483647 : Int32)) / (2 : Int32))
                have := c_idiv (p0s &&& (2147483647 : Int32)) (2 : Int32) 2 (by decide) (by decide)
                have := rng64 (((p0s &&& (2147483647 : Int32)) / (2 : Int32)).toInt64)
                have := c_i2l ((p0s &&& (2147483647 : Int32)) / (2 : Int32))
                have := (show (0 : Int64).toInt = 0 from by decide)
                have := (show (2 : Int64).toInt = 2 from by decide)
                have := rng64 ((2 : Int64) * (((p0s &&& (2147483647 : Int32)) / (2 : Int32)).toInt64))
                have := own_lmulc' (2 : Int64) (((p0s &&& (2147483647 : Int32)) / (2 : Int32)).toInt64) (2) (by decide)
                have := rng64 ((p0s &&& (2147483647 : Int32)).toInt64)
                have := c_i2l (p0s &&& (2147483647 : Int32))
                have := (show (1 : Int64).toInt = 1 from by decide)
                have := rng64 ((((p0s &&& (2147483647 : Int32)) / (2 : Int32)).toInt64) + (1 : Int64))
                have := c_ladd (((p0s &&& (2147483647 : Int32)) / (2 : Int32)).toInt64) (1 : Int64)
                have := rng64 ((2 : Int64) * ((((p0s &&& (2147483647 : Int32)) / (2 : Int32)).toInt64) + (1 : Int64)))
                have := own_lmulc' (2 : Int64) ((((p0s &&& (2147483647 : Int32)) / (2 : Int32)).toInt64) + (1 : Int64)) (2) (by decide)
                have := own_ne32 hc6
                have := own_eq32 hc43
                have := own_nlt64 hc47
                have := own_ne64 hc50
                have := own_nlt64 hc56
                have := own_lt64 hc62
                omega
              · have r64 : own_R p.tables e below F0 (T42.setTop (mkF m 104 #[.val (.int p0s), .val (.int p1s), .val (.int (p0s &&& (2147483647 : Int32))), .val (.int (1 : Int32)), .val (.long (((p0s &&& (2147483647 : Int32)) / (2 : Int32)).toInt64)), .second, .val (.long ((p0s &&& (2147483647 : Int32)).toInt64)), .second, .val (.int (0 : Int32)), .val (.int (1 : Int32))] [(.int (0 : Int32))])) := fun t k => by
                  refine r61 t ?_
                  show Steps p.tables e below (T42.setTop (mkF m 79 #[.val (.int p0s), .val (.int p1s), .val (.int (p0s &&& (2147483647 : Int32))), .val (.int (1 : Int32)), .val (.long (((p0s &&& (2147483647 : Int32)) / (2 : Int32)).toInt64)), .second, .val (.long ((p0s &&& (2147483647 : Int32)).toInt64)), .second, .val (.int (0 : Int32)), .unset] [(.int (lcmpW ((2 : Int64) * ((((p0s &&& (2147483647 : Int32)) / (2 : Int32)).toInt64) + (1 : Int64))) ((p0s &&& (2147483647 : Int32)).toInt64)))])) _
                  refine XS.ifNo X42.here hx rfl (hb hby at_79) rfl (own_l_nlt hc62).1 ?_
                  show Steps p.tables e below (T42.setTop (mkF m 82 #[.val (.int p0s), .val (.int p1s), .val (.int (p0s &&& (2147483647 : Int32))), .val (.int (1 : Int32)), .val (.long (((p0s &&& (2147483647 : Int32)) / (2 : Int32)).toInt64)), .second, .val (.long ((p0s &&& (2147483647 : Int32)).toInt64)), .second, .val (.int (0 : Int32)), .unset] [])) _
                  refine XS.iconst X42.here hx rfl (hb hby at_82) ?_
                  show Steps p.tables e below (T42.setTop (mkF m 83 #[.val (.int p0s), .val (.int p1s), .val (.int (p0s &&& (2147483647 : Int32))), .val (.int (1 : Int32)), .val (.long (((p0s &&& (2147483647 : Int32)) / (2 : Int32)).toInt64)), .second, .val (.long ((p0s &&& (2147483647 : Int32)).toInt64)), .second, .val (.int (0 : Int32)), .unset] [(.int (1 : Int32))])) _
                  refine XS.goto X42.here hx rfl (pc0 := 83) (pc' := 87) rfl (hb hby at_83) (by decide) (by decide) ?_
                  show Steps p.tables e below (T42.setTop (mkF m 87 #[.val (.int p0s), .val (.int p1s), .val (.int (p0s &&& (2147483647 : Int32))), .val (.int (1 : Int32)), .val (.long (((p0s &&& (2147483647 : Int32)) / (2 : Int32)).toInt64)), .second, .val (.long ((p0s &&& (2147483647 : Int32)).toInt64)), .second, .val (.int (0 : Int32)), .unset] [(.int (1 : Int32))])) _
                  refine XS.istore X42.here hx rfl (hb hby at_87) rfl (l' := #[.val (.int p0s), .val (.int p1s), .val (.int (p0s &&& (2147483647 : Int32))), .val (.int (1 : Int32)), .val (.long (((p0s &&& (2147483647 : Int32)) / (2 : Int32)).toInt64)), .second, .val (.long ((p0s &&& (2147483647 : Int32)).toInt64)), .second, .val (.int (0 : Int32)), .val (.int (1 : Int32))]) rfl ?_
                  show Steps p.tables e below (T42.setTop (mkF m 89 #[.val (.int p0s), .val (.int p1s), .val (.int (p0s &&& (2147483647 : Int32))), .val (.int (1 : Int32)), .val (.long (((p0s &&& (2147483647 : Int32)) / (2 : Int32)).toInt64)), .second, .val (.long ((p0s &&& (2147483647 : Int32)).toInt64)), .second, .val (.int (0 : Int32)), .val (.int (1 : Int32))] [])) _
                  refine XS.iload X42.here hx rfl (hb hby at_89) rfl ?_
                  show Steps p.tables e below (T42.setTop (mkF m 91 #[.val (.int p0s), .val (.int p1s), .val (.int (p0s &&& (2147483647 : Int32))), .val (.int (1 : Int32)), .val (.long (((p0s &&& (2147483647 : Int32)) / (2 : Int32)).toInt64)), .second, .val (.long ((p0s &&& (2147483647 : Int32)).toInt64)), .second, .val (.int (0 : Int32)), .val (.int (1 : Int32))] [(.int (0 : Int32))])) _
                  refine XS.ifYes X42.here hx rfl (pc0 := 91) (pc' := 103) rfl (hb hby at_91) rfl ((if0 _ _).trans (teq (show (0 : Int32) = (0 : Int32) from by decide)).1) (by decide) (by decide) ?_
                  show Steps p.tables e below (T42.setTop (mkF m 103 #[.val (.int p0s), .val (.int p1s), .val (.int (p0s &&& (2147483647 : Int32))), .val (.int (1 : Int32)), .val (.long (((p0s &&& (2147483647 : Int32)) / (2 : Int32)).toInt64)), .second, .val (.long ((p0s &&& (2147483647 : Int32)).toInt64)), .second, .val (.int (0 : Int32)), .val (.int (1 : Int32))] [])) _
                  refine XS.iconst X42.here hx rfl (hb hby at_103) ?_
                  exact k
                exfalso
                have := rng32 p1s
                have := (show (1 : Int32).toInt = 1 from by decide)
                have := rng32 (p1s &&& (1 : Int32))
                have := own_mask p1s (1 : Int32) 1 2 (by decide) (by decide) (by decide)
                have := (show (0 : Int32).toInt = 0 from by decide)
                have := rng32 p0s
                have := (show (2147483647 : Int32).toInt = 2147483647 from by decide)
                have := rng32 (p0s &&& (2147483647 : Int32))
                have := own_mask p0s (2147483647 : Int32) 31 2147483648 (by decide) (by decide) (by decide)
                have := (show (2 : Int32).toInt = 2 from by decide)
                have := rng32 ((p0s &&& (2147483647 : Int32)) / (2 : Int32))
                have := c_idiv (p0s &&& (2147483647 : Int32)) (2 : Int32) 2 (by decide) (by decide)
                have := rng64 (((p0s &&& (2147483647 : Int32)) / (2 : Int32)).toInt64)
                have := c_i2l ((p0s &&& (2147483647 : Int32)) / (2 : Int32))
                have := (show (0 : Int64).toInt = 0 from by decide)
                have := (show (2 : Int64).toInt = 2 from by decide)
                have := rng64 ((2 : Int64) * (((p0s &&& (2147483647 : Int32)) / (2 : Int32)).toInt64))
                have := own_lmulc' (2 : Int64) (((p0s &&& (2147483647 : Int32)) / (2 : Int32)).toInt64) (2) (by decide)
                have := rng64 ((p0s &&& (2147483647 : Int32)).toInt64)
                have := c_i2l (p0s &&& (2147483647 : Int32))
                have := (show (1 : Int64).toInt = 1 from by decide)
                have := rng64 ((((p0s &&& (2147483647 : Int32)) / (2 : Int32)).toInt64) + (1 : Int64))
                have := c_ladd (((p0s &&& (2147483647 : Int32)) / (2 : Int32)).toInt64) (1 : Int64)
                have := rng64 ((2 : Int64) * ((((p0s &&& (2147483647 : Int32)) / (2 : Int32)).toInt64) + (1 : Int64)))
                have := own_lmulc' (2 : Int64) ((((p0s &&& (2147483647 : Int32)) / (2 : Int32)).toInt64) + (1 : Int64)) (2) (by decide)
                have := own_ne32 hc6
                have := own_eq32 hc43
                have := own_nlt64 hc47
                have := own_ne64 hc50
                have := own_nlt64 hc56
                have := own_nlt64 hc62
                omega
      · have ev65 : (own_part (p0s &&& (2147483647 : Int32)) (1 : Int32)) = (((p0s &&& (2147483647 : Int32)) - (1 : Int32)) / (2 : Int32)) := by unfold own_part; rw [if_neg hc43]
        have r66 : own_R p.tables e below F0 (T42.setTop (mkF m 22 #[.val (.int p0s), .val (.int p1s), .val (.int (p0s &&& (2147483647 : Int32))), .val (.int (1 : Int32)), .unset, .unset, .unset, .unset, .unset, .unset] [(.int (((p0s &&& (2147483647 : Int32)) - (1 : Int32)) / (2 : Int32)))])) := ev65 ▸ r42
        obtain ⟨z67, hz67⟩ : ∃ z : Int64, z = ((((p0s &&& (2147483647 : Int32)) - (1 : Int32)) / (2 : Int32)).toInt64) := ⟨_, rfl⟩
        have r68 : own_R p.tables e below F0 (T42.setTop (mkF m 33 #[.val (.int p0s), .val (.int p1s), .val (.int (p0s &&& (2147483647 : Int32))), .val (.int (1 : Int32)), .val (.long z67), .second, .val (.long ((p0s &&& (2147483647 : Int32)).toInt64)), .second, .unset, .unset] [(.int (lcmpW z67 (0 : Int64)))])) := fun t k => by
          refine r66 t ?_
          show Steps p.tables e below (T42.setTop (mkF m 22 #[.val (.int p0s), .val (.int p1s), .val (.int (p0s &&& (2147483647 : Int32))), .val (.int (1 : Int32)), .unset, .unset, .unset, .unset, .unset, .unset] [(.int (((p0s &&& (2147483647 : Int32)) - (1 : Int32)) / (2 : Int32)))])) _
          refine XS.i2l X42.here hx rfl (hb hby at_22) rfl ?_
          show Steps p.tables e below (T42.setTop (mkF m 23 #[.val (.int p0s), .val (.int p1s), .val (.int (p0s &&& (2147483647 : Int32))), .val (.int (1 : Int32)), .unset, .unset, .unset, .unset, .unset, .unset] [(.long ((((p0s &&& (2147483647 : Int32)) - (1 : Int32)) / (2 : Int32)).toInt64))])) _
          refine XS.lstore X42.here hx rfl (hb hby at_23) (x := z67) (rest := []) (by subst hz67; rfl) (l' := #[.val (.int p0s), .val (.int p1s), .val (.int (p0s &&& (2147483647 : Int32))), .val (.int (1 : Int32)), .val (.long z67), .second, .unset, .unset, .unset, .unset]) rfl ?_
          show Steps p.tables e below (T42.setTop (mkF m 25 #[.val (.int p0s), .val (.int p1s), .val (.int (p0s &&& (2147483647 : Int32))), .val (.int (1 : Int32)), .val (.long z67), .second, .unset, .unset, .unset, .unset] [])) _
          refine XS.iloadN X42.here hx rfl (hb hby at_25) rfl ?_
          show Steps p.tables e below (T42.setTop (mkF m 26 #[.val (.int p0s), .val (.int p1s), .val (.int (p0s &&& (2147483647 : Int32))), .val (.int (1 : Int32)), .val (.long z67), .second, .unset, .unset, .unset, .unset] [(.int (p0s &&& (2147483647 : Int32)))])) _
          refine XS.i2l X42.here hx rfl (hb hby at_26) rfl ?_
          show Steps p.tables e below (T42.setTop (mkF m 27 #[.val (.int p0s), .val (.int p1s), .val (.int (p0s &&& (2147483647 : Int32))), .val (.int (1 : Int32)), .val (.long z67), .second, .unset, .unset, .unset, .unset] [(.long ((p0s &&& (2147483647 : Int32)).toInt64))])) _
          refine XS.lstore X42.here hx rfl (hb hby at_27) rfl (l' := #[.val (.int p0s), .val (.int p1s), .val (.int (p0s &&& (2147483647 : Int32))), .val (.int (1 : Int32)), .val (.long z67), .second, .val (.long ((p0s &&& (2147483647 : Int32)).toInt64)), .second, .unset, .unset]) rfl ?_
          show Steps p.tables e below (T42.setTop (mkF m 29 #[.val (.int p0s), .val (.int p1s), .val (.int (p0s &&& (2147483647 : Int32))), .val (.int (1 : Int32)), .val (.long z67), .second, .val (.long ((p0s &&& (2147483647 : Int32)).toInt64)), .second, .unset, .unset] [])) _
          refine XS.lload X42.here hx rfl (hb hby at_29) rfl ?_
          show Steps p.tables e below (T42.setTop (mkF m 31 #[.val (.int p0s), .val (.int p1s), .val (.int (p0s &&& (2147483647 : Int32))), .val (.int (1 : Int32)), .val (.long z67), .second, .val (.long ((p0s &&& (2147483647 : Int32)).toInt64)), .second, .unset, .unset] [(.long z67)])) _
          refine XS.lconst X42.here hx rfl (hb hby at_31) ?_
          show Steps p.tables e below (T42.setTop (mkF m 32 #[.val (.int p0s), .val (.int p1s), .val (.int (p0s &&& (2147483647 : Int32))), .val (.int (1 : Int32)), .val (.long z67), .second, .val (.long ((p0s &&& (2147483647 : Int32)).toInt64)), .second, .unset, .unset] [(.long (0 : Int64)), (.long z67)])) _
          refine XS.lcmp X42.here hx rfl (hb hby at_32) rfl ?_
          exact k
        by_cases hc69 : z67 < (0 : Int64)
        · have r70 : own_R p.tables e below F0 (T42.setTop (mkF m 37 #[.val (.int p0s), .val (.int p1s), .val (.int (p0s &&& (2147483647 : Int32))), .val (.int (1 : Int32)), .val (.long z67), .second, .val (.long ((p0s &&& (2147483647 : Int32)).toInt64)), .second, .unset, .unset] [(.int (0 : Int32))])) := fun t k => by
            refine r68 t ?_
            show Steps p.tables e below (T42.setTop (mkF m 33 #[.val (.int p0s), .val (.int p1s), .val (.int (p0s &&& (2147483647 : Int32))), .val (.int (1 : Int32)), .val (.long z67), .second, .val (.long ((p0s &&& (2147483647 : Int32)).toInt64)), .second, .unset, .unset] [(.int (lcmpW z67 (0 : Int64)))])) _
            refine XS.ifNo X42.here hx rfl (hb hby at_33) rfl (own_l_lt hc69).2 ?_
            show Steps p.tables e below (T42.setTop (mkF m 36 #[.val (.int p0s), .val (.int p1s), .val (.int (p0s &&& (2147483647 : Int32))), .val (.int (1 : Int32)), .val (.long z67), .second, .val (.long ((p0s &&& (2147483647 : Int32)).toInt64)), .second, .unset, .unset] [])) _
            refine XS.iconst X42.here hx rfl (hb hby at_36) ?_
            exact k
          exfalso
          have := rng32 p1s
          have := (show (1 : Int32).toInt = 1 from by decide)
          have := rng32 (p1s &&& (1 : Int32))
          have := own_mask p1s (1 : Int32) 1 2 (by decide) (by decide) (by decide)
          have := (show (0 : Int32).toInt = 0 from by decide)
          have := rng64 z67
          have := rng32 p0s
          have := (show (2147483647 : Int32).toInt = 2147483647 from by decide)
          have := rng32 (p0s &&& (2147483647 : Int32))
          have := own_mask p0s (2147483647 : Int32) 31 2147483648 (by decide) (by decide) (by decide)
          have := rng32 ((p0s &&& (2147483647 : Int32)) - (1 : Int32))
          have := c_isub (p0s &&& (2147483647 : Int32)) (1 : Int32)
          have := (show (2 : Int32).toInt = 2 from by decide)
          have := rng32 (((p0s &&& (2147483647 : Int32)) - (1 : Int32)) / (2 : Int32))
          have := c_idiv ((p0s &&& (2147483647 : Int32)) - (1 : Int32)) (2 : Int32) 2 (by decide) (by decide)
          have := rng64 ((((p0s &&& (2147483647 : Int32)) - (1 : Int32)) / (2 : Int32)).toInt64)
          have := c_i2l (((p0s &&& (2147483647 : Int32)) - (1 : Int32)) / (2 : Int32))
          have := own_eq64 hz67
          have := (show (0 : Int64).toInt = 0 from by decide)
          have := own_ne32 hc6
          have := own_ne32 hc43
          have := own_lt64 hc69
          omega
        · have r71 : own_R p.tables e below F0 (T42.setTop (mkF m 46 #[.val (.int p0s), .val (.int p1s), .val (.int (p0s &&& (2147483647 : Int32))), .val (.int (1 : Int32)), .val (.long z67), .second, .val (.long ((p0s &&& (2147483647 : Int32)).toInt64)), .second, .unset, .unset] [(.int (lcmpW z67 (0 : Int64)))])) := fun t k => by
            refine r68 t ?_
            show Steps p.tables e below (T42.setTop (mkF m 33 #[.val (.int p0s), .val (.int p1s), .val (.int (p0s &&& (2147483647 : Int32))), .val (.int (1 : Int32)), .val (.long z67), .second, .val (.long ((p0s &&& (2147483647 : Int32)).toInt64)), .second, .unset, .unset] [(.int (lcmpW z67 (0 : Int64)))])) _
            refine XS.ifYes X42.here hx rfl (pc0 := 33) (pc' := 38) rfl (hb hby at_33) rfl (own_l_nlt hc69).2 (by decide) (by decide) ?_
            show Steps p.tables e below (T42.setTop (mkF m 38 #[.val (.int p0s), .val (.int p1s), .val (.int (p0s &&& (2147483647 : Int32))), .val (.int (1 : Int32)), .val (.long z67), .second, .val (.long ((p0s &&& (2147483647 : Int32)).toInt64)), .second, .unset, .unset] [])) _
            refine XS.iloadN X42.here hx rfl (hb hby at_38) rfl ?_
            show Steps p.tables e below (T42.setTop (mkF m 39 #[.val (.int p0s), .val (.int p1s), .val (.int (p0s &&& (2147483647 : Int32))), .val (.int (1 : Int32)), .val (.long z67), .second, .val (.long ((p0s &&& (2147483647 : Int32)).toInt64)), .second, .unset, .unset] [(.int (1 : Int32))])) _
            refine XS.ifNo X42.here hx rfl (hb hby at_39) rfl ((if0 _ _).trans (feq (show ¬ ((1 : Int32) = (0 : Int32)) from by decide)).1) ?_
            show Steps p.tables e below (T42.setTop (mkF m 42 #[.val (.int p0s), .val (.int p1s), .val (.int (p0s &&& (2147483647 : Int32))), .val (.int (1 : Int32)), .val (.long z67), .second, .val (.long ((p0s &&& (2147483647 : Int32)).toInt64)), .second, .unset, .unset] [])) _
            refine XS.lload X42.here hx rfl (hb hby at_42) rfl ?_
            show Steps p.tables e below (T42.setTop (mkF m 44 #[.val (.int p0s), .val (.int p1s), .val (.int (p0s &&& (2147483647 : Int32))), .val (.int (1 : Int32)), .val (.long z67), .second, .val (.long ((p0s &&& (2147483647 : Int32)).toInt64)), .second, .unset, .unset] [(.long z67)])) _
            refine XS.lconst X42.here hx rfl (hb hby at_44) ?_
            show Steps p.tables e below (T42.setTop (mkF m 45 #[.val (.int p0s), .val (.int p1s), .val (.int (p0s &&& (2147483647 : Int32))), .val (.int (1 : Int32)), .val (.long z67), .second, .val (.long ((p0s &&& (2147483647 : Int32)).toInt64)), .second, .unset, .unset] [(.long (0 : Int64)), (.long z67)])) _
            refine XS.lcmp X42.here hx rfl (hb hby at_45) rfl ?_
            exact k
          by_cases hc72 : z67 = (0 : Int64)
          · have r73 : own_R p.tables e below F0 (T42.setTop (mkF m 79 #[.val (.int p0s), .val (.int p1s), .val (.int (p0s &&& (2147483647 : Int32))), .val (.int (1 : Int32)), .val (.long z67), .second, .val (.long ((p0s &&& (2147483647 : Int32)).toInt64)), .second, .val (.int (1 : Int32)), .unset] [(.int (lcmpW ((2 : Int64) * (z67 + (1 : Int64))) ((p0s &&& (2147483647 : Int32)).toInt64)))])) := fun t k => by
              refine r71 t ?_
              show Steps p.tables e below (T42.setTop (mkF m 46 #[.val (.int p0s), .val (.int p1s), .val (.int (p0s &&& (2147483647 : Int32))), .val (.int (1 : Int32)), .val (.long z67), .second, .val (.long ((p0s &&& (2147483647 : Int32)).toInt64)), .second, .unset, .unset] [(.int (lcmpW z67 (0 : Int64)))])) _
              refine XS.ifYes X42.here hx rfl (pc0 := 46) (pc' := 61) rfl (hb hby at_46) rfl (own_l_eq hc72).1 (by decide) (by decide) ?_
              show Steps p.tables e below (T42.setTop (mkF m 61 #[.val (.int p0s), .val (.int p1s), .val (.int (p0s &&& (2147483647 : Int32))), .val (.int (1 : Int32)), .val (.long z67), .second, .val (.long ((p0s &&& (2147483647 : Int32)).toInt64)), .second, .unset, .unset] [])) _
              refine XS.iconst X42.here hx rfl (hb hby at_61) ?_
              show Steps p.tables e below (T42.setTop (mkF m 62 #[.val (.int p0s), .val (.int p1s), .val (.int (p0s &&& (2147483647 : Int32))), .val (.int (1 : Int32)), .val (.long z67), .second, .val (.long ((p0s &&& (2147483647 : Int32)).toInt64)), .second, .unset, .unset] [(.int (1 : Int32))])) _
              refine XS.goto X42.here hx rfl (pc0 := 62) (pc' := 66) rfl (hb hby at_62) (by decide) (by decide) ?_
              show Steps p.tables e below (T42.setTop (mkF m 66 #[.val (.int p0s), .val (.int p1s), .val (.int (p0s &&& (2147483647 : Int32))), .val (.int (1 : Int32)), .val (.long z67), .second, .val (.long ((p0s &&& (2147483647 : Int32)).toInt64)), .second, .unset, .unset] [(.int (1 : Int32))])) _
              refine XS.istore X42.here hx rfl (hb hby at_66) rfl (l' := #[.val (.int p0s), .val (.int p1s), .val (.int (p0s &&& (2147483647 : Int32))), .val (.int (1 : Int32)), .val (.long z67), .second, .val (.long ((p0s &&& (2147483647 : Int32)).toInt64)), .second, .val (.int (1 : Int32)), .unset]) rfl ?_
              show Steps p.tables e below (T42.setTop (mkF m 68 #[.val (.int p0s), .val (.int p1s), .val (.int (p0s &&& (2147483647 : Int32))), .val (.int (1 : Int32)), .val (.long z67), .second, .val (.long ((p0s &&& (2147483647 : Int32)).toInt64)), .second, .val (.int (1 : Int32)), .unset] [])) _
              refine X42.ldc2J hx hown (mvT hZ (hw _ (List.mem_of_getElem? (i := 5) rfl))) rfl (hb hby at_68) ?_
              show Steps p.tables e below (T42.setTop (mkF m 71 #[.val (.int p0s), .val (.int p1s), .val (.int (p0s &&& (2147483647 : Int32))), .val (.int (1 : Int32)), .val (.long z67), .second, .val (.long ((p0s &&& (2147483647 : Int32)).toInt64)), .second, .val (.int (1 : Int32)), .unset] [(.long (2 : Int64))])) _
              refine XS.lload X42.here hx rfl (hb hby at_71) rfl ?_
              show Steps p.tables e below (T42.setTop (mkF m 73 #[.val (.int p0s), .val (.int p1s), .val (.int (p0s &&& (2147483647 : Int32))), .val (.int (1 : Int32)), .val (.long z67), .second, .val (.long ((p0s &&& (2147483647 : Int32)).toInt64)), .second, .val (.int (1 : Int32)), .unset] [(.long z67), (.long (2 : Int64))])) _
              refine XS.lconst X42.here hx rfl (hb hby at_73) ?_
              show Steps p.tables e below (T42.setTop (mkF m 74 #[.val (.int p0s), .val (.int p1s), .val (.int (p0s &&& (2147483647 : Int32))), .val (.int (1 : Int32)), .val (.long z67), .second, .val (.long ((p0s &&& (2147483647 : Int32)).toInt64)), .second, .val (.int (1 : Int32)), .unset] [(.long (1 : Int64)), (.long z67), (.long (2 : Int64))])) _
              refine XS.ladd X42.here hx rfl (hb hby at_74) rfl ?_
              show Steps p.tables e below (T42.setTop (mkF m 75 #[.val (.int p0s), .val (.int p1s), .val (.int (p0s &&& (2147483647 : Int32))), .val (.int (1 : Int32)), .val (.long z67), .second, .val (.long ((p0s &&& (2147483647 : Int32)).toInt64)), .second, .val (.int (1 : Int32)), .unset] [(.long (z67 + (1 : Int64))), (.long (2 : Int64))])) _
              refine XS.lmul X42.here hx rfl (hb hby at_75) rfl ?_
              show Steps p.tables e below (T42.setTop (mkF m 76 #[.val (.int p0s), .val (.int p1s), .val (.int (p0s &&& (2147483647 : Int32))), .val (.int (1 : Int32)), .val (.long z67), .second, .val (.long ((p0s &&& (2147483647 : Int32)).toInt64)), .second, .val (.int (1 : Int32)), .unset] [(.long ((2 : Int64) * (z67 + (1 : Int64))))])) _
              refine XS.lload X42.here hx rfl (hb hby at_76) rfl ?_
              show Steps p.tables e below (T42.setTop (mkF m 78 #[.val (.int p0s), .val (.int p1s), .val (.int (p0s &&& (2147483647 : Int32))), .val (.int (1 : Int32)), .val (.long z67), .second, .val (.long ((p0s &&& (2147483647 : Int32)).toInt64)), .second, .val (.int (1 : Int32)), .unset] [(.long ((p0s &&& (2147483647 : Int32)).toInt64)), (.long ((2 : Int64) * (z67 + (1 : Int64))))])) _
              refine XS.lcmp X42.here hx rfl (hb hby at_78) rfl ?_
              exact k
            by_cases hc74 : ((2 : Int64) * (z67 + (1 : Int64))) < ((p0s &&& (2147483647 : Int32)).toInt64)
            · have r75 : own_R p.tables e below F0 (T42.setTop (mkF m 104 #[.val (.int p0s), .val (.int p1s), .val (.int (p0s &&& (2147483647 : Int32))), .val (.int (1 : Int32)), .val (.long z67), .second, .val (.long ((p0s &&& (2147483647 : Int32)).toInt64)), .second, .val (.int (1 : Int32)), .val (.int (0 : Int32))] [(.int (0 : Int32))])) := fun t k => by
                refine r73 t ?_
                show Steps p.tables e below (T42.setTop (mkF m 79 #[.val (.int p0s), .val (.int p1s), .val (.int (p0s &&& (2147483647 : Int32))), .val (.int (1 : Int32)), .val (.long z67), .second, .val (.long ((p0s &&& (2147483647 : Int32)).toInt64)), .second, .val (.int (1 : Int32)), .unset] [(.int (lcmpW ((2 : Int64) * (z67 + (1 : Int64))) ((p0s &&& (2147483647 : Int32)).toInt64)))])) _
                refine XS.ifYes X42.here hx rfl (pc0 := 79) (pc' := 86) rfl (hb hby at_79) rfl (own_l_lt hc74).1 (by decide) (by decide) ?_
                show Steps p.tables e below (T42.setTop (mkF m 86 #[.val (.int p0s), .val (.int p1s), .val (.int (p0s &&& (2147483647 : Int32))), .val (.int (1 : Int32)), .val (.long z67), .second, .val (.long ((p0s &&& (2147483647 : Int32)).toInt64)), .second, .val (.int (1 : Int32)), .unset] [])) _
                refine XS.iconst X42.here hx rfl (hb hby at_86) ?_
                show Steps p.tables e below (T42.setTop (mkF m 87 #[.val (.int p0s), .val (.int p1s), .val (.int (p0s &&& (2147483647 : Int32))), .val (.int (1 : Int32)), .val (.long z67), .second, .val (.long ((p0s &&& (2147483647 : Int32)).toInt64)), .second, .val (.int (1 : Int32)), .unset] [(.int (0 : Int32))])) _
                refine XS.istore X42.here hx rfl (hb hby at_87) rfl (l' := #[.val (.int p0s), .val (.int p1s), .val (.int (p0s &&& (2147483647 : Int32))), .val (.int (1 : Int32)), .val (.long z67), .second, .val (.long ((p0s &&& (2147483647 : Int32)).toInt64)), .second, .val (.int (1 : Int32)), .val (.int (0 : Int32))]) rfl ?_
                show Steps p.tables e below (T42.setTop (mkF m 89 #[.val (.int p0s), .val (.int p1s), .val (.int (p0s &&& (2147483647 : Int32))), .val (.int (1 : Int32)), .val (.long z67), .second, .val (.long ((p0s &&& (2147483647 : Int32)).toInt64)), .second, .val (.int (1 : Int32)), .val (.int (0 : Int32))] [])) _
                refine XS.iload X42.here hx rfl (hb hby at_89) rfl ?_
                show Steps p.tables e below (T42.setTop (mkF m 91 #[.val (.int p0s), .val (.int p1s), .val (.int (p0s &&& (2147483647 : Int32))), .val (.int (1 : Int32)), .val (.long z67), .second, .val (.long ((p0s &&& (2147483647 : Int32)).toInt64)), .second, .val (.int (1 : Int32)), .val (.int (0 : Int32))] [(.int (1 : Int32))])) _
                refine XS.ifNo X42.here hx rfl (hb hby at_91) rfl ((if0 _ _).trans (feq (show ¬ ((1 : Int32) = (0 : Int32)) from by decide)).1) ?_
                show Steps p.tables e below (T42.setTop (mkF m 94 #[.val (.int p0s), .val (.int p1s), .val (.int (p0s &&& (2147483647 : Int32))), .val (.int (1 : Int32)), .val (.long z67), .second, .val (.long ((p0s &&& (2147483647 : Int32)).toInt64)), .second, .val (.int (1 : Int32)), .val (.int (0 : Int32))] [])) _
                refine XS.iload X42.here hx rfl (hb hby at_94) rfl ?_
                show Steps p.tables e below (T42.setTop (mkF m 96 #[.val (.int p0s), .val (.int p1s), .val (.int (p0s &&& (2147483647 : Int32))), .val (.int (1 : Int32)), .val (.long z67), .second, .val (.long ((p0s &&& (2147483647 : Int32)).toInt64)), .second, .val (.int (1 : Int32)), .val (.int (0 : Int32))] [(.int (0 : Int32))])) _
                refine XS.ifYes X42.here hx rfl (pc0 := 96) (pc' := 103) rfl (hb hby at_96) rfl ((if0 _ _).trans (teq (show (0 : Int32) = (0 : Int32) from by decide)).1) (by decide) (by decide) ?_
                show Steps p.tables e below (T42.setTop (mkF m 103 #[.val (.int p0s), .val (.int p1s), .val (.int (p0s &&& (2147483647 : Int32))), .val (.int (1 : Int32)), .val (.long z67), .second, .val (.long ((p0s &&& (2147483647 : Int32)).toInt64)), .second, .val (.int (1 : Int32)), .val (.int (0 : Int32))] [])) _
                refine XS.iconst X42.here hx rfl (hb hby at_103) ?_
                exact k
              exfalso
              have := rng32 p1s
              have := (show (1 : Int32).toInt = 1 from by decide)
              have := rng32 (p1s &&& (1 : Int32))
              have := own_mask p1s (1 : Int32) 1 2 (by decide) (by decide) (by decide)
              have := (show (0 : Int32).toInt = 0 from by decide)
              have := rng64 z67
              have := rng32 p0s
              have := (show (2147483647 : Int32).toInt = 2147483647 from by decide)
              have := rng32 (p0s &&& (2147483647 : Int32))
              have := own_mask p0s (2147483647 : Int32) 31 2147483648 (by decide) (by decide) (by decide)
              have := rng32 ((p0s &&& (2147483647 : Int32)) - (1 : Int32))
              have := c_isub (p0s &&& (2147483647 : Int32)) (1 : Int32)
              have := (show (2 : Int32).toInt = 2 from by decide)
              have := rng32 (((p0s &&& (2147483647 : Int32)) - (1 : Int32)) / (2 : Int32))
              have := c_idiv ((p0s &&& (2147483647 : Int32)) - (1 : Int32)) (2 : Int32) 2 (by decide) (by decide)
              have := rng64 ((((p0s &&& (2147483647 : Int32)) - (1 : Int32)) / (2 : Int32)).toInt64)
              have := c_i2l (((p0s &&& (2147483647 : Int32)) - (1 : Int32)) / (2 : Int32))
              have := own_eq64 hz67
              have := (show (0 : Int64).toInt = 0 from by decide)
              have := (show (2 : Int64).toInt = 2 from by decide)
              have := (show (1 : Int64).toInt = 1 from by decide)
              have := rng64 (z67 + (1 : Int64))
              have := c_ladd z67 (1 : Int64)
              have := rng64 ((2 : Int64) * (z67 + (1 : Int64)))
              have := own_lmulc' (2 : Int64) (z67 + (1 : Int64)) (2) (by decide)
              have := rng64 ((p0s &&& (2147483647 : Int32)).toInt64)
              have := c_i2l (p0s &&& (2147483647 : Int32))
              have := own_ne32 hc6
              have := own_ne32 hc43
              have := own_nlt64 hc69
              have := own_eq64 hc72
              have := own_lt64 hc74
              omega
            · have r76 : own_R p.tables e below F0 (T42.setTop (mkF m 104 #[.val (.int p0s), .val (.int p1s), .val (.int (p0s &&& (2147483647 : Int32))), .val (.int (1 : Int32)), .val (.long z67), .second, .val (.long ((p0s &&& (2147483647 : Int32)).toInt64)), .second, .val (.int (1 : Int32)), .val (.int (1 : Int32))] [(.int (1 : Int32))])) := fun t k => by
                refine r73 t ?_
                show Steps p.tables e below (T42.setTop (mkF m 79 #[.val (.int p0s), .val (.int p1s), .val (.int (p0s &&& (2147483647 : Int32))), .val (.int (1 : Int32)), .val (.long z67), .second, .val (.long ((p0s &&& (2147483647 : Int32)).toInt64)), .second, .val (.int (1 : Int32)), .unset] [(.int (lcmpW ((2 : Int64) * (z67 + (1 : Int64))) ((p0s &&& (2147483647 : Int32)).toInt64)))])) _
                refine XS.ifNo X42.here hx rfl (hb hby at_79) rfl (own_l_nlt hc74).1 ?_
                show Steps p.tables e below (T42.setTop (mkF m 82 #[.val (.int p0s), .val (.int p1s), .val (.int (p0s &&& (2147483647 : Int32))), .val (.int (1 : Int32)), .val (.long z67), .second, .val (.long ((p0s &&& (2147483647 : Int32)).toInt64)), .second, .val (.int (1 : Int32)), .unset] [])) _
                refine XS.iconst X42.here hx rfl (hb hby at_82) ?_
                show Steps p.tables e below (T42.setTop (mkF m 83 #[.val (.int p0s), .val (.int p1s), .val (.int (p0s &&& (2147483647 : Int32))), .val (.int (1 : Int32)), .val (.long z67), .second, .val (.long ((p0s &&& (2147483647 : Int32)).toInt64)), .second, .val (.int (1 : Int32)), .unset] [(.int (1 : Int32))])) _
                refine XS.goto X42.here hx rfl (pc0 := 83) (pc' := 87) rfl (hb hby at_83) (by decide) (by decide) ?_
                show Steps p.tables e below (T42.setTop (mkF m 87 #[.val (.int p0s), .val (.int p1s), .val (.int (p0s &&& (2147483647 : Int32))), .val (.int (1 : Int32)), .val (.long z67), .second, .val (.long ((p0s &&& (2147483647 : Int32)).toInt64)), .second, .val (.int (1 : Int32)), .unset] [(.int (1 : Int32))])) _
                refine XS.istore X42.here hx rfl (hb hby at_87) rfl (l' := #[.val (.int p0s), .val (.int p1s), .val (.int (p0s &&& (2147483647 : Int32))), .val (.int (1 : Int32)), .val (.long z67), .second, .val (.long ((p0s &&& (2147483647 : Int32)).toInt64)), .second, .val (.int (1 : Int32)), .val (.int (1 : Int32))]) rfl ?_
                show Steps p.tables e below (T42.setTop (mkF m 89 #[.val (.int p0s), .val (.int p1s), .val (.int (p0s &&& (2147483647 : Int32))), .val (.int (1 : Int32)), .val (.long z67), .second, .val (.long ((p0s &&& (2147483647 : Int32)).toInt64)), .second, .val (.int (1 : Int32)), .val (.int (1 : Int32))] [])) _
                refine XS.iload X42.here hx rfl (hb hby at_89) rfl ?_
                show Steps p.tables e below (T42.setTop (mkF m 91 #[.val (.int p0s), .val (.int p1s), .val (.int (p0s &&& (2147483647 : Int32))), .val (.int (1 : Int32)), .val (.long z67), .second, .val (.long ((p0s &&& (2147483647 : Int32)).toInt64)), .second, .val (.int (1 : Int32)), .val (.int (1 : Int32))] [(.int (1 : Int32))])) _
                refine XS.ifNo X42.here hx rfl (hb hby at_91) rfl ((if0 _ _).trans (feq (show ¬ ((1 : Int32) = (0 : Int32)) from by decide)).1) ?_
                show Steps p.tables e below (T42.setTop (mkF m 94 #[.val (.int p0s), .val (.int p1s), .val (.int (p0s &&& (2147483647 : Int32))), .val (.int (1 : Int32)), .val (.long z67), .second, .val (.long ((p0s &&& (2147483647 : Int32)).toInt64)), .second, .val (.int (1 : Int32)), .val (.int (1 : Int32))] [])) _
                refine XS.iload X42.here hx rfl (hb hby at_94) rfl ?_
                show Steps p.tables e below (T42.setTop (mkF m 96 #[.val (.int p0s), .val (.int p1s), .val (.int (p0s &&& (2147483647 : Int32))), .val (.int (1 : Int32)), .val (.long z67), .second, .val (.long ((p0s &&& (2147483647 : Int32)).toInt64)), .second, .val (.int (1 : Int32)), .val (.int (1 : Int32))] [(.int (1 : Int32))])) _
                refine XS.ifNo X42.here hx rfl (hb hby at_96) rfl ((if0 _ _).trans (feq (show ¬ ((1 : Int32) = (0 : Int32)) from by decide)).1) ?_
                show Steps p.tables e below (T42.setTop (mkF m 99 #[.val (.int p0s), .val (.int p1s), .val (.int (p0s &&& (2147483647 : Int32))), .val (.int (1 : Int32)), .val (.long z67), .second, .val (.long ((p0s &&& (2147483647 : Int32)).toInt64)), .second, .val (.int (1 : Int32)), .val (.int (1 : Int32))] [])) _
                refine XS.iconst X42.here hx rfl (hb hby at_99) ?_
                show Steps p.tables e below (T42.setTop (mkF m 100 #[.val (.int p0s), .val (.int p1s), .val (.int (p0s &&& (2147483647 : Int32))), .val (.int (1 : Int32)), .val (.long z67), .second, .val (.long ((p0s &&& (2147483647 : Int32)).toInt64)), .second, .val (.int (1 : Int32)), .val (.int (1 : Int32))] [(.int (1 : Int32))])) _
                refine XS.goto X42.here hx rfl (pc0 := 100) (pc' := 104) rfl (hb hby at_100) (by decide) (by decide) ?_
                exact k
              refine hG (own_fin X42 hlk (some (.int (nar .boolean (1 : Int32)))) (own_hv Bd.returns) ?_ (by decide) (by decide) (fun fs hr => r76 _ (retN X42 hx (t := .boolean) Bd.returns (by simp) (hb hby at_104) hr)))
              rw [I42_0]
              exact ⟨rfl, N42⟩
          · have r77 : own_R p.tables e below F0 (T42.setTop (mkF m 58 #[.val (.int p0s), .val (.int p1s), .val (.int (p0s &&& (2147483647 : Int32))), .val (.int (1 : Int32)), .val (.long z67), .second, .val (.long ((p0s &&& (2147483647 : Int32)).toInt64)), .second, .unset, .unset] [(.int (lcmpW ((2 : Int64) * z67) ((p0s &&& (2147483647 : Int32)).toInt64)))])) := fun t k => by
              refine r71 t ?_
              show Steps p.tables e below (T42.setTop (mkF m 46 #[.val (.int p0s), .val (.int p1s), .val (.int (p0s &&& (2147483647 : Int32))), .val (.int (1 : Int32)), .val (.long z67), .second, .val (.long ((p0s &&& (2147483647 : Int32)).toInt64)), .second, .unset, .unset] [(.int (lcmpW z67 (0 : Int64)))])) _
              refine XS.ifNo X42.here hx rfl (hb hby at_46) rfl (own_l_neq hc72).1 ?_
              show Steps p.tables e below (T42.setTop (mkF m 49 #[.val (.int p0s), .val (.int p1s), .val (.int (p0s &&& (2147483647 : Int32))), .val (.int (1 : Int32)), .val (.long z67), .second, .val (.long ((p0s &&& (2147483647 : Int32)).toInt64)), .second, .unset, .unset] [])) _
              refine X42.ldc2J hx hown (mvT hZ (hw _ (List.mem_of_getElem? (i := 5) rfl))) rfl (hb hby at_49) ?_
              show Steps p.tables e below (T42.setTop (mkF m 52 #[.val (.int p0s), .val (.int p1s), .val (.int (p0s &&& (2147483647 : Int32))), .val (.int (1 : Int32)), .val (.long z67), .second, .val (.long ((p0s &&& (2147483647 : Int32)).toInt64)), .second, .unset, .unset] [(.long (2 : Int64))])) _
              refine XS.lload X42.here hx rfl (hb hby at_52) rfl ?_
              show Steps p.tables e below (T42.setTop (mkF m 54 #[.val (.int p0s), .val (.int p1s), .val (.int (p0s &&& (2147483647 : Int32))), .val (.int (1 : Int32)), .val (.long z67), .second, .val (.long ((p0s &&& (2147483647 : Int32)).toInt64)), .second, .unset, .unset] [(.long z67), (.long (2 : Int64))])) _
              refine XS.lmul X42.here hx rfl (hb hby at_54) rfl ?_
              show Steps p.tables e below (T42.setTop (mkF m 55 #[.val (.int p0s), .val (.int p1s), .val (.int (p0s &&& (2147483647 : Int32))), .val (.int (1 : Int32)), .val (.long z67), .second, .val (.long ((p0s &&& (2147483647 : Int32)).toInt64)), .second, .unset, .unset] [(.long ((2 : Int64) * z67))])) _
              refine XS.lload X42.here hx rfl (hb hby at_55) rfl ?_
              show Steps p.tables e below (T42.setTop (mkF m 57 #[.val (.int p0s), .val (.int p1s), .val (.int (p0s &&& (2147483647 : Int32))), .val (.int (1 : Int32)), .val (.long z67), .second, .val (.long ((p0s &&& (2147483647 : Int32)).toInt64)), .second, .unset, .unset] [(.long ((p0s &&& (2147483647 : Int32)).toInt64)), (.long ((2 : Int64) * z67))])) _
              refine XS.lcmp X42.here hx rfl (hb hby at_57) rfl ?_
              exact k
            by_cases hc78 : ((2 : Int64) * z67) < ((p0s &&& (2147483647 : Int32)).toInt64)
            · have r79 : own_R p.tables e below F0 (T42.setTop (mkF m 79 #[.val (.int p0s), .val (.int p1s), .val (.int (p0s &&& (2147483647 : Int32))), .val (.int (1 : Int32)), .val (.long z67), .second, .val (.long ((p0s &&& (2147483647 : Int32)).toInt64)), .second, .val (.int (1 : Int32)), .unset] [(.int (lcmpW ((2 : Int64) * (z67 + (1 : Int64))) ((p0s &&& (2147483647 : Int32)).toInt64)))])) := fun t k => by
                refine r77 t ?_
                show Steps p.tables e below (T42.setTop (mkF m 58 #[.val (.int p0s), .val (.int p1s), .val (.int (p0s &&& (2147483647 : Int32))), .val (.int (1 : Int32)), .val (.long z67), .second, .val (.long ((p0s &&& (2147483647 : Int32)).toInt64)), .second, .unset, .unset] [(.int (lcmpW ((2 : Int64) * z67) ((p0s &&& (2147483647 : Int32)).toInt64)))])) _
                refine XS.ifNo X42.here hx rfl (hb hby at_58) rfl (own_l_lt hc78).2 ?_
                show Steps p.tables e below (T42.setTop (mkF m 61 #[.val (.int p0s), .val (.int p1s), .val (.int (p0s &&& (2147483647 : Int32))), .val (.int (1 : Int32)), .val (.long z67), .second, .val (.long ((p0s &&& (2147483647 : Int32)).toInt64)), .second, .unset, .unset] [])) _
                refine XS.iconst X42.here hx rfl (hb hby at_61) ?_
                show Steps p.tables e below (T42.setTop (mkF m 62 #[.val (.int p0s), .val (.int p1s), .val (.int (p0s &&& (2147483647 : Int32))), .val (.int (1 : Int32)), .val (.long z67), .second, .val (.long ((p0s &&& (2147483647 : Int32)).toInt64)), .second, .unset, .unset] [(.int (1 : Int32))])) _
                refine XS.goto X42.here hx rfl (pc0 := 62) (pc' := 66) rfl (hb hby at_62) (by decide) (by decide) ?_
                show Steps p.tables e below (T42.setTop (mkF m 66 #[.val (.int p0s), .val (.int p1s), .val (.int (p0s &&& (2147483647 : Int32))), .val (.int (1 : Int32)), .val (.long z67), .second, .val (.long ((p0s &&& (2147483647 : Int32)).toInt64)), .second, .unset, .unset] [(.int (1 : Int32))])) _
                refine XS.istore X42.here hx rfl (hb hby at_66) rfl (l' := #[.val (.int p0s), .val (.int p1s), .val (.int (p0s &&& (2147483647 : Int32))), .val (.int (1 : Int32)), .val (.long z67), .second, .val (.long ((p0s &&& (2147483647 : Int32)).toInt64)), .second, .val (.int (1 : Int32)), .unset]) rfl ?_
                show Steps p.tables e below (T42.setTop (mkF m 68 #[.val (.int p0s), .val (.int p1s), .val (.int (p0s &&& (2147483647 : Int32))), .val (.int (1 : Int32)), .val (.long z67), .second, .val (.long ((p0s &&& (2147483647 : Int32)).toInt64)), .second, .val (.int (1 : Int32)), .unset] [])) _
                refine X42.ldc2J hx hown (mvT hZ (hw _ (List.mem_of_getElem? (i := 5) rfl))) rfl (hb hby at_68) ?_
                show Steps p.tables e below (T42.setTop (mkF m 71 #[.val (.int p0s), .val (.int p1s), .val (.int (p0s &&& (2147483647 : Int32))), .val (.int (1 : Int32)), .val (.long z67), .second, .val (.long ((p0s &&& (2147483647 : Int32)).toInt64)), .second, .val (.int (1 : Int32)), .unset] [(.long (2 : Int64))])) _
                refine XS.lload X42.here hx rfl (hb hby at_71) rfl ?_
                show Steps p.tables e below (T42.setTop (mkF m 73 #[.val (.int p0s), .val (.int p1s), .val (.int (p0s &&& (2147483647 : Int32))), .val (.int (1 : Int32)), .val (.long z67), .second, .val (.long ((p0s &&& (2147483647 : Int32)).toInt64)), .second, .val (.int (1 : Int32)), .unset] [(.long z67), (.long (2 : Int64))])) _
                refine XS.lconst X42.here hx rfl (hb hby at_73) ?_
                show Steps p.tables e below (T42.setTop (mkF m 74 #[.val (.int p0s), .val (.int p1s), .val (.int (p0s &&& (2147483647 : Int32))), .val (.int (1 : Int32)), .val (.long z67), .second, .val (.long ((p0s &&& (2147483647 : Int32)).toInt64)), .second, .val (.int (1 : Int32)), .unset] [(.long (1 : Int64)), (.long z67), (.long (2 : Int64))])) _
                refine XS.ladd X42.here hx rfl (hb hby at_74) rfl ?_
                show Steps p.tables e below (T42.setTop (mkF m 75 #[.val (.int p0s), .val (.int p1s), .val (.int (p0s &&& (2147483647 : Int32))), .val (.int (1 : Int32)), .val (.long z67), .second, .val (.long ((p0s &&& (2147483647 : Int32)).toInt64)), .second, .val (.int (1 : Int32)), .unset] [(.long (z67 + (1 : Int64))), (.long (2 : Int64))])) _
                refine XS.lmul X42.here hx rfl (hb hby at_75) rfl ?_
                show Steps p.tables e below (T42.setTop (mkF m 76 #[.val (.int p0s), .val (.int p1s), .val (.int (p0s &&& (2147483647 : Int32))), .val (.int (1 : Int32)), .val (.long z67), .second, .val (.long ((p0s &&& (2147483647 : Int32)).toInt64)), .second, .val (.int (1 : Int32)), .unset] [(.long ((2 : Int64) * (z67 + (1 : Int64))))])) _
                refine XS.lload X42.here hx rfl (hb hby at_76) rfl ?_
                show Steps p.tables e below (T42.setTop (mkF m 78 #[.val (.int p0s), .val (.int p1s), .val (.int (p0s &&& (2147483647 : Int32))), .val (.int (1 : Int32)), .val (.long z67), .second, .val (.long ((p0s &&& (2147483647 : Int32)).toInt64)), .second, .val (.int (1 : Int32)), .unset] [(.long ((p0s &&& (2147483647 : Int32)).toInt64)), (.long ((2 : Int64) * (z67 + (1 : Int64))))])) _
                refine XS.lcmp X42.here hx rfl (hb hby at_78) rfl ?_
                exact k
              by_cases hc80 : ((2 : Int64) * (z67 + (1 : Int64))) < ((p0s &&& (2147483647 : Int32)).toInt64)
              · have r81 : own_R p.tables e below F0 (T42.setTop (mkF m 104 #[.val (.int p0s), .val (.int p1s), .val (.int (p0s &&& (2147483647 : Int32))), .val (.int (1 : Int32)), .val (.long z67), .second, .val (.long ((p0s &&& (2147483647 : Int32)).toInt64)), .second, .val (.int (1 : Int32)), .val (.int (0 : Int32))] [(.int (0 : Int32))])) := fun t k => by
                  refine r79 t ?_
                  show Steps p.tables e below (T42.setTop (mkF m 79 #[.val (.int p0s), .val (.int p1s), .val (.int (p0s &&& (2147483647 : Int32))), .val (.int (1 : Int32)), .val (.long z67), .second, .val (.long ((p0s &&& (2147483647 : Int32)).toInt64)), .second, .val (.int (1 : Int32)), .unset] [(.int (lcmpW ((2 : Int64) * (z67 + (1 : Int64))) ((p0s &&& (2147483647 : Int32)).toInt64)))])) _
                  refine XS.ifYes X42.here hx rfl (pc0 := 79) (pc' := 86) rfl (hb hby at_79) rfl (own_l_lt hc80).1 (by decide) (by decide) ?_
                  show Steps p.tables e below (T42.setTop (mkF m 86 #[.val (.int p0s), .val (.int p1s), .val (.int (p0s &&& (2147483647 : Int32))), .val (.int (1 : Int32)), .val (.long z67), .second, .val (.long ((p0s &&& (2147483647 : Int32)).toInt64)), .second, .val (.int (1 : Int32)), .unset] [])) _
                  refine XS.iconst X42.here hx rfl (hb hby at_86) ?_
                  show Steps p.tables e below (T42.setTop (mkF m 87 #[.val (.int p0s), .val (.int p1s), .val (.int (p0s &&& (2147483647 : Int32))), .val (.int (1 : Int32)), .val (.long z67), .second, .val (.long ((p0s &&& (2147483647 : Int32)).toInt64)), .second, .val (.int (1 : Int32)), .unset] [(.int (0 : Int32))])) _
                  refine XS.istore X42.here hx rfl (hb hby at_87) rfl (l' := #[.val (.int p0s), .val (.int p1s), .val (.int (p0s &&& (2147483647 : Int32))), .val (.int (1 : Int32)), .val (.long z67), .second, .val (.long ((p0s &&& (2147483647 : Int32)).toInt64)), .second, .val (.int (1 : Int32)), .val (.int (0 : Int32))]) rfl ?_
                  show Steps p.tables e below (T42.setTop (mkF m 89 #[.val (.int p0s), .val (.int p1s), .val (.int (p0s &&& (2147483647 : Int32))), .val (.int (1 : Int32)), .val (.long z67), .second, .val (.long ((p0s &&& (2147483647 : Int32)).toInt64)), .second, .val (.int (1 : Int32)), .val (.int (0 : Int32))] [])) _
                  refine XS.iload X42.here hx rfl (hb hby at_89) rfl ?_
                  show Steps p.tables e below (T42.setTop (mkF m 91 #[.val (.int p0s), .val (.int p1s), .val (.int (p0s &&& (2147483647 : Int32))), .val (.int (1 : Int32)), .val (.long z67), .second, .val (.long ((p0s &&& (2147483647 : Int32)).toInt64)), .second, .val (.int (1 : Int32)), .val (.int (0 : Int32))] [(.int (1 : Int32))])) _
                  refine XS.ifNo X42.here hx rfl (hb hby at_91) rfl ((if0 _ _).trans (feq (show ¬ ((1 : Int32) = (0 : Int32)) from by decide)).1) ?_
                  show Steps p.tables e below (T42.setTop (mkF m 94 #[.val (.int p0s), .val (.int p1s), .val (.int (p0s &&& (2147483647 : Int32))), .val (.int (1 : Int32)), .val (.long z67), .second, .val (.long ((p0s &&& (2147483647 : Int32)).toInt64)), .second, .val (.int (1 : Int32)), .val (.int (0 : Int32))] [])) _
                  refine XS.iload X42.here hx rfl (hb hby at_94) rfl ?_
                  show Steps p.tables e below (T42.setTop (mkF m 96 #[.val (.int p0s), .val (.int p1s), .val (.int (p0s &&& (2147483647 : Int32))), .val (.int (1 : Int32)), .val (.long z67), .second, .val (.long ((p0s &&& (2147483647 : Int32)).toInt64)), .second, .val (.int (1 : Int32)), .val (.int (0 : Int32))] [(.int (0 : Int32))])) _
                  refine XS.ifYes X42.here hx rfl (pc0 := 96) (pc' := 103) rfl (hb hby at_96) rfl ((if0 _ _).trans (teq (show (0 : Int32) = (0 : Int32) from by decide)).1) (by decide) (by decide) ?_
                  show Steps p.tables e below (T42.setTop (mkF m 103 #[.val (.int p0s), .val (.int p1s), .val (.int (p0s &&& (2147483647 : Int32))), .val (.int (1 : Int32)), .val (.long z67), .second, .val (.long ((p0s &&& (2147483647 : Int32)).toInt64)), .second, .val (.int (1 : Int32)), .val (.int (0 : Int32))] [])) _
                  refine XS.iconst X42.here hx rfl (hb hby at_103) ?_
                  exact k
                exfalso
                have := rng32 p1s
                have := (show (1 : Int32).toInt = 1 from by decide)
                have := rng32 (p1s &&& (1 : Int32))
                have := own_mask p1s (1 : Int32) 1 2 (by decide) (by decide) (by decide)
                have := (show (0 : Int32).toInt = 0 from by decide)
                have := rng64 z67
                have := rng32 p0s
                have := (show (2147483647 : Int32).toInt = 2147483647 from by decide)
                have := rng32 (p0s &&& (2147483647 : Int32))
                have := own_mask p0s (2147483647 : Int32) 31 2147483648 (by decide) (by decide) (by decide)
                have := rng32 ((p0s &&& (2147483647 : Int32)) - (1 : Int32))
                have := c_isub (p0s &&& (2147483647 : Int32)) (1 : Int32)
                have := (show (2 : Int32).toInt = 2 from by decide)
                have := rng32 (((p0s &&& (2147483647 : Int32)) - (1 : Int32)) / (2 : Int32))
                have := c_idiv ((p0s &&& (2147483647 : Int32)) - (1 : Int32)) (2 : Int32) 2 (by decide) (by decide)
                have := rng64 ((((p0s &&& (2147483647 : Int32)) - (1 : Int32)) / (2 : Int32)).toInt64)
                have := c_i2l (((p0s &&& (2147483647 : Int32)) - (1 : Int32)) / (2 : Int32))
                have := own_eq64 hz67
                have := (show (0 : Int64).toInt = 0 from by decide)
                have := (show (2 : Int64).toInt = 2 from by decide)
                have := rng64 ((2 : Int64) * z67)
                have := own_lmulc' (2 : Int64) z67 (2) (by decide)
                have := rng64 ((p0s &&& (2147483647 : Int32)).toInt64)
                have := c_i2l (p0s &&& (2147483647 : Int32))
                have := (show (1 : Int64).toInt = 1 from by decide)
                have := rng64 (z67 + (1 : Int64))
                have := c_ladd z67 (1 : Int64)
                have := rng64 ((2 : Int64) * (z67 + (1 : Int64)))
                have := own_lmulc' (2 : Int64) (z67 + (1 : Int64)) (2) (by decide)
                have := own_ne32 hc6
                have := own_ne32 hc43
                have := own_nlt64 hc69
                have := own_ne64 hc72
                have := own_lt64 hc78
                have := own_lt64 hc80
                omega
              · have r82 : own_R p.tables e below F0 (T42.setTop (mkF m 104 #[.val (.int p0s), .val (.int p1s), .val (.int (p0s &&& (2147483647 : Int32))), .val (.int (1 : Int32)), .val (.long z67), .second, .val (.long ((p0s &&& (2147483647 : Int32)).toInt64)), .second, .val (.int (1 : Int32)), .val (.int (1 : Int32))] [(.int (1 : Int32))])) := fun t k => by
                  refine r79 t ?_
                  show Steps p.tables e below (T42.setTop (mkF m 79 #[.val (.int p0s), .val (.int p1s), .val (.int (p0s &&& (2147483647 : Int32))), .val (.int (1 : Int32)), .val (.long z67), .second, .val (.long ((p0s &&& (2147483647 : Int32)).toInt64)), .second, .val (.int (1 : Int32)), .unset] [(.int (lcmpW ((2 : Int64) * (z67 + (1 : Int64))) ((p0s &&& (2147483647 : Int32)).toInt64)))])) _
                  refine XS.ifNo X42.here hx rfl (hb hby at_79) rfl (own_l_nlt hc80).1 ?_
                  show Steps p.tables e below (T42.setTop (mkF m 82 #[.val (.int p0s), .val (.int p1s), .val (.int (p0s &&& (2147483647 : Int32))), .val (.int (1 : Int32)), .val (.long z67), .second, .val (.long ((p0s &&& (2147483647 : Int32)).toInt64)), .second, .val (.int (1 : Int32)), .unset] [])) _
                  refine XS.iconst X42.here hx rfl (hb hby at_82) ?_
                  show Steps p.tables e below (T42.setTop (mkF m 83 #[.val (.int p0s), .val (.int p1s), .val (.int (p0s &&& (2147483647 : Int32))), .val (.int (1 : Int32)), .val (.long z67), .second, .val (.long ((p0s &&& (2147483647 : Int32)).toInt64)), .second, .val (.int (1 : Int32)), .unset] [(.int (1 : Int32))])) _
                  refine XS.goto X42.here hx rfl (pc0 := 83) (pc' := 87) rfl (hb hby at_83) (by decide) (by decide) ?_
                  show Steps p.tables e below (T42.setTop (mkF m 87 #[.val (.int p0s), .val (.int p1s), .val (.int (p0s &&& (2147483647 : Int32))), .val (.int (1 : Int32)), .val (.long z67), .second, .val (.long ((p0s &&& (2147483647 : Int32)).toInt64)), .second, .val (.int (1 : Int32)), .unset] [(.int (1 : Int32))])) _
                  refine XS.istore X42.here hx rfl (hb hby at_87) rfl (l' := #[.val (.int p0s), .val (.int p1s), .val (.int (p0s &&& (2147483647 : Int32))), .val (.int (1 : Int32)), .val (.long z67), .second, .val (.long ((p0s &&& (2147483647 : Int32)).toInt64)), .second, .val (.int (1 : Int32)), .val (.int (1 : Int32))]) rfl ?_
                  show Steps p.tables e below (T42.setTop (mkF m 89 #[.val (.int p0s), .val (.int p1s), .val (.int (p0s &&& (2147483647 : Int32))), .val (.int (1 : Int32)), .val (.long z67), .second, .val (.long ((p0s &&& (2147483647 : Int32)).toInt64)), .second, .val (.int (1 : Int32)), .val (.int (1 : Int32))] [])) _
                  refine XS.iload X42.here hx rfl (hb hby at_89) rfl ?_
                  show Steps p.tables e below (T42.setTop (mkF m 91 #[.val (.int p0s), .val (.int p1s), .val (.int (p0s &&& (2147483647 : Int32))), .val (.int (1 : Int32)), .val (.long z67), .second, .val (.long ((p0s &&& (2147483647 : Int32)).toInt64)), .second, .val (.int (1 : Int32)), .val (.int (1 : Int32))] [(.int (1 : Int32))])) _
                  refine XS.ifNo X42.here hx rfl (hb hby at_91) rfl ((if0 _ _).trans (feq (show ¬ ((1 : Int32) = (0 : Int32)) from by decide)).1) ?_
                  show Steps p.tables e below (T42.setTop (mkF m 94 #[.val (.int p0s), .val (.int p1s), .val (.int (p0s &&& (2147483647 : Int32))), .val (.int (1 : Int32)), .val (.long z67), .second, .val (.long ((p0s &&& (2147483647 : Int32)).toInt64)), .second, .val (.int (1 : Int32)), .val (.int (1 : Int32))] [])) _
                  refine XS.iload X42.here hx rfl (hb hby at_94) rfl ?_
                  show Steps p.tables e below (T42.setTop (mkF m 96 #[.val (.int p0s), .val (.int p1s), .val (.int (p0s &&& (2147483647 : Int32))), .val (.int (1 : Int32)), .val (.long z67), .second, .val (.long ((p0s &&& (2147483647 : Int32)).toInt64)), .second, .val (.int (1 : Int32)), .val (.int (1 : Int32))] [(.int (1 : Int32))])) _
                  refine XS.ifNo X42.here hx rfl (hb hby at_96) rfl ((if0 _ _).trans (feq (show ¬ ((1 : Int32) = (0 : Int32)) from by decide)).1) ?_
                  show Steps p.tables e below (T42.setTop (mkF m 99 #[.val (.int p0s), .val (.int p1s), .val (.int (p0s &&& (2147483647 : Int32))), .val (.int (1 : Int32)), .val (.long z67), .second, .val (.long ((p0s &&& (2147483647 : Int32)).toInt64)), .second, .val (.int (1 : Int32)), .val (.int (1 : Int32))] [])) _
                  refine XS.iconst X42.here hx rfl (hb hby at_99) ?_
                  show Steps p.tables e below (T42.setTop (mkF m 100 #[.val (.int p0s), .val (.int p1s), .val (.int (p0s &&& (2147483647 : Int32))), .val (.int (1 : Int32)), .val (.long z67), .second, .val (.long ((p0s &&& (2147483647 : Int32)).toInt64)), .second, .val (.int (1 : Int32)), .val (.int (1 : Int32))] [(.int (1 : Int32))])) _
                  refine XS.goto X42.here hx rfl (pc0 := 100) (pc' := 104) rfl (hb hby at_100) (by decide) (by decide) ?_
                  exact k
                refine hG (own_fin X42 hlk (some (.int (nar .boolean (1 : Int32)))) (own_hv Bd.returns) ?_ (by decide) (by decide) (fun fs hr => r82 _ (retN X42 hx (t := .boolean) Bd.returns (by simp) (hb hby at_104) hr)))
                rw [I42_0]
                exact ⟨rfl, N42⟩
            · have r83 : own_R p.tables e below F0 (T42.setTop (mkF m 79 #[.val (.int p0s), .val (.int p1s), .val (.int (p0s &&& (2147483647 : Int32))), .val (.int (1 : Int32)), .val (.long z67), .second, .val (.long ((p0s &&& (2147483647 : Int32)).toInt64)), .second, .val (.int (0 : Int32)), .unset] [(.int (lcmpW ((2 : Int64) * (z67 + (1 : Int64))) ((p0s &&& (2147483647 : Int32)).toInt64)))])) := fun t k => by
                refine r77 t ?_
                show Steps p.tables e below (T42.setTop (mkF m 58 #[.val (.int p0s), .val (.int p1s), .val (.int (p0s &&& (2147483647 : Int32))), .val (.int (1 : Int32)), .val (.long z67), .second, .val (.long ((p0s &&& (2147483647 : Int32)).toInt64)), .second, .unset, .unset] [(.int (lcmpW ((2 : Int64) * z67) ((p0s &&& (2147483647 : Int32)).toInt64)))])) _
                refine XS.ifYes X42.here hx rfl (pc0 := 58) (pc' := 65) rfl (hb hby at_58) rfl (own_l_nlt hc78).2 (by decide) (by decide) ?_
                show Steps p.tables e below (T42.setTop (mkF m 65 #[.val (.int p0s), .val (.int p1s), .val (.int (p0s &&& (2147483647 : Int32))), .val (.int (1 : Int32)), .val (.long z67), .second, .val (.long ((p0s &&& (2147483647 : Int32)).toInt64)), .second, .unset, .unset] [])) _
                refine XS.iconst X42.here hx rfl (hb hby at_65) ?_
                show Steps p.tables e below (T42.setTop (mkF m 66 #[.val (.int p0s), .val (.int p1s), .val (.int (p0s &&& (2147483647 : Int32))), .val (.int (1 : Int32)), .val (.long z67), .second, .val (.long ((p0s &&& (2147483647 : Int32)).toInt64)), .second, .unset, .unset] [(.int (0 : Int32))])) _
                refine XS.istore X42.here hx rfl (hb hby at_66) rfl (l' := #[.val (.int p0s), .val (.int p1s), .val (.int (p0s &&& (2147483647 : Int32))), .val (.int (1 : Int32)), .val (.long z67), .second, .val (.long ((p0s &&& (2147483647 : Int32)).toInt64)), .second, .val (.int (0 : Int32)), .unset]) rfl ?_
                show Steps p.tables e below (T42.setTop (mkF m 68 #[.val (.int p0s), .val (.int p1s), .val (.int (p0s &&& (2147483647 : Int32))), .val (.int (1 : Int32)), .val (.long z67), .second, .val (.long ((p0s &&& (2147483647 : Int32)).toInt64)), .second, .val (.int (0 : Int32)), .unset] [])) _
                refine X42.ldc2J hx hown (mvT hZ (hw _ (List.mem_of_getElem? (i := 5) rfl))) rfl (hb hby at_68) ?_
                show Steps p.tables e below (T42.setTop (mkF m 71 #[.val (.int p0s), .val (.int p1s), .val (.int (p0s &&& (2147483647 : Int32))), .val (.int (1 : Int32)), .val (.long z67), .second, .val (.long ((p0s &&& (2147483647 : Int32)).toInt64)), .second, .val (.int (0 : Int32)), .unset] [(.long (2 : Int64))])) _
                refine XS.lload X42.here hx rfl (hb hby at_71) rfl ?_
                show Steps p.tables e below (T42.setTop (mkF m 73 #[.val (.int p0s), .val (.int p1s), .val (.int (p0s &&& (2147483647 : Int32))), .val (.int (1 : Int32)), .val (.long z67), .second, .val (.long ((p0s &&& (2147483647 : Int32)).toInt64)), .second, .val (.int (0 : Int32)), .unset] [(.long z67), (.long (2 : Int64))])) _
                refine XS.lconst X42.here hx rfl (hb hby at_73) ?_
                show Steps p.tables e below (T42.setTop (mkF m 74 #[.val (.int p0s), .val (.int p1s), .val (.int (p0s &&& (2147483647 : Int32))), .val (.int (1 : Int32)), .val (.long z67), .second, .val (.long ((p0s &&& (2147483647 : Int32)).toInt64)), .second, .val (.int (0 : Int32)), .unset] [(.long (1 : Int64)), (.long z67), (.long (2 : Int64))])) _
                refine XS.ladd X42.here hx rfl (hb hby at_74) rfl ?_
                show Steps p.tables e below (T42.setTop (mkF m 75 #[.val (.int p0s), .val (.int p1s), .val (.int (p0s &&& (2147483647 : Int32))), .val (.int (1 : Int32)), .val (.long z67), .second, .val (.long ((p0s &&& (2147483647 : Int32)).toInt64)), .second, .val (.int (0 : Int32)), .unset] [(.long (z67 + (1 : Int64))), (.long (2 : Int64))])) _
                refine XS.lmul X42.here hx rfl (hb hby at_75) rfl ?_
                show Steps p.tables e below (T42.setTop (mkF m 76 #[.val (.int p0s), .val (.int p1s), .val (.int (p0s &&& (2147483647 : Int32))), .val (.int (1 : Int32)), .val (.long z67), .second, .val (.long ((p0s &&& (2147483647 : Int32)).toInt64)), .second, .val (.int (0 : Int32)), .unset] [(.long ((2 : Int64) * (z67 + (1 : Int64))))])) _
                refine XS.lload X42.here hx rfl (hb hby at_76) rfl ?_
                show Steps p.tables e below (T42.setTop (mkF m 78 #[.val (.int p0s), .val (.int p1s), .val (.int (p0s &&& (2147483647 : Int32))), .val (.int (1 : Int32)), .val (.long z67), .second, .val (.long ((p0s &&& (2147483647 : Int32)).toInt64)), .second, .val (.int (0 : Int32)), .unset] [(.long ((p0s &&& (2147483647 : Int32)).toInt64)), (.long ((2 : Int64) * (z67 + (1 : Int64))))])) _
                refine XS.lcmp X42.here hx rfl (hb hby at_78) rfl ?_
                exact k
              by_cases hc84 : ((2 : Int64) * (z67 + (1 : Int64))) < ((p0s &&& (2147483647 : Int32)).toInt64)
              · have r85 : own_R p.tables e below F0 (T42.setTop (mkF m 104 #[.val (.int p0s), .val (.int p1s), .val (.int (p0s &&& (2147483647 : Int32))), .val (.int (1 : Int32)), .val (.long z67), .second, .val (.long ((p0s &&& (2147483647 : Int32)).toInt64)), .second, .val (.int (0 : Int32)), .val (.int (0 : Int32))] [(.int (0 : Int32))])) := fun t k => by
                  refine r83 t ?_
                  show Steps p.tables e below (T42.setTop (mkF m 79 #[.val (.int p0s), .val (.int p1s), .val (.int (p0s &&& (2147483647 : Int32))), .val (.int (1 : Int32)), .val (.long z67), .second, .val (.long ((p0s &&& (2147483647 : Int32)).toInt64)), .second, .val (.int (0 : Int32)), .unset] [(.int (lcmpW ((2 : Int64) * (z67 + (1 : Int64))) ((p0s &&& (2147483647 : Int32)).toInt64)))])) _
                  refine XS.ifYes X42.here hx rfl (pc0 := 79) (pc' := 86) rfl (hb hby at_79) rfl (own_l_lt hc84).1 (by decide) (by decide) ?_
                  show Steps p.tables e below (T42.setTop (mkF m 86 #[.val (.int p0s), .val (.int p1s), .val (.int (p0s &&& (2147483647 : Int32))), .val (.int (1 : Int32)), .val (.long z67), .second, .val (.long ((p0s &&& (2147483647 : Int32)).toInt64)), .second, .val (.int (0 : Int32)), .unset] [])) _
                  refine XS.iconst X42.here hx rfl (hb hby at_86) ?_
                  show Steps p.tables e below (T42.setTop (mkF m 87 #[.val (.int p0s), .val (.int p1s), .val (.int (p0s &&& (2147483647 : Int32))), .val (.int (1 : Int32)), .val (.long z67), .second, .val (.long ((p0s &&& (2147483647 : Int32)).toInt64)), .second, .val (.int (0 : Int32)), .unset] [(.int (0 : Int32))])) _
                  refine XS.istore X42.here hx rfl (hb hby at_87) rfl (l' := #[.val (.int p0s), .val (.int p1s), .val (.int (p0s &&& (2147483647 : Int32))), .val (.int (1 : Int32)), .val (.long z67), .second, .val (.long ((p0s &&& (2147483647 : Int32)).toInt64)), .second, .val (.int (0 : Int32)), .val (.int (0 : Int32))]) rfl ?_
                  show Steps p.tables e below (T42.setTop (mkF m 89 #[.val (.int p0s), .val (.int p1s), .val (.int (p0s &&& (2147483647 : Int32))), .val (.int (1 : Int32)), .val (.long z67), .second, .val (.long ((p0s &&& (2147483647 : Int32)).toInt64)), .second, .val (.int (0 : Int32)), .val (.int (0 : Int32))] [])) _
                  refine XS.iload X42.here hx rfl (hb hby at_89) rfl ?_
                  show Steps p.tables e below (T42.setTop (mkF m 91 #[.val (.int p0s), .val (.int p1s), .val (.int (p0s &&& (2147483647 : Int32))), .val (.int (1 : Int32)), .val (.long z67), .second, .val (.long ((p0s &&& (2147483647 : Int32)).toInt64)), .second, .val (.int (0 : Int32)), .val (.int (0 : Int32))] [(.int (0 : Int32))])) _
                  refine XS.ifYes X42.here hx rfl (pc0 := 91) (pc' := 103) rfl (hb hby at_91) rfl ((if0 _ _).trans (teq (show (0 : Int32) = (0 : Int32) from by decide)).1) (by decide) (by decide) ?_
                  show Steps p.tables e below (T42.setTop (mkF m 103 #[.val (.int p0s), .val (.int p1s), .val (.int (p0s &&& (2147483647 : Int32))), .val (.int (1 : Int32)), .val (.long z67), .second, .val (.long ((p0s &&& (2147483647 : Int32)).toInt64)), .second, .val (.int (0 : Int32)), .val (.int (0 : Int32))] [])) _
                  refine XS.iconst X42.here hx rfl (hb hby at_103) ?_
                  exact k
                exfalso
                have := rng32 p1s
                have := (show (1 : Int32).toInt = 1 from by decide)
                have := rng32 (p1s &&& (1 : Int32))
                have := own_mask p1s (1 : Int32) 1 2 (by decide) (by decide) (by decide)
                have := (show (0 : Int32).toInt = 0 from by decide)
                have := rng64 z67
                have := rng32 p0s
                have := (show (2147483647 : Int32).toInt = 2147483647 from by decide)
                have := rng32 (p0s &&& (2147483647 : Int32))
                have := own_mask p0s (2147483647 : Int32) 31 2147483648 (by decide) (by decide) (by decide)
                have := rng32 ((p0s &&& (2147483647 : Int32)) - (1 : Int32))
                have := c_isub (p0s &&& (2147483647 : Int32)) (1 : Int32)
                have := (show (2 : Int32).toInt = 2 from by decide)
                have := rng32 (((p0s &&& (2147483647 : Int32)) - (1 : Int32)) / (2 : Int32))
                have := c_idiv ((p0s &&& (2147483647 : Int32)) - (1 : Int32)) (2 : Int32) 2 (by decide) (by decide)
                have := rng64 ((((p0s &&& (2147483647 : Int32)) - (1 : Int32)) / (2 : Int32)).toInt64)
                have := c_i2l (((p0s &&& (2147483647 : Int32)) - (1 : Int32)) / (2 : Int32))
                have := own_eq64 hz67
                have := (show (0 : Int64).toInt = 0 from by decide)
                have := (show (2 : Int64).toInt = 2 from by decide)
                have := rng64 ((2 : Int64) * z67)
                have := own_lmulc' (2 : Int64) z67 (2) (by decide)
                have := rng64 ((p0s &&& (2147483647 : Int32)).toInt64)
                have := c_i2l (p0s &&& (2147483647 : Int32))
                have := (show (1 : Int64).toInt = 1 from by decide)
                have := rng64 (z67 + (1 : Int64))
                have := c_ladd z67 (1 : Int64)
                have := rng64 ((2 : Int64) * (z67 + (1 : Int64)))
                have := own_lmulc' (2 : Int64) (z67 + (1 : Int64)) (2) (by decide)
                have := own_ne32 hc6
                have := own_ne32 hc43
                have := own_nlt64 hc69
                have := own_ne64 hc72
                have := own_nlt64 hc78
                have := own_lt64 hc84
                omega
              · have r86 : own_R p.tables e below F0 (T42.setTop (mkF m 104 #[.val (.int p0s), .val (.int p1s), .val (.int (p0s &&& (2147483647 : Int32))), .val (.int (1 : Int32)), .val (.long z67), .second, .val (.long ((p0s &&& (2147483647 : Int32)).toInt64)), .second, .val (.int (0 : Int32)), .val (.int (1 : Int32))] [(.int (0 : Int32))])) := fun t k => by
                  refine r83 t ?_
                  show Steps p.tables e below (T42.setTop (mkF m 79 #[.val (.int p0s), .val (.int p1s), .val (.int (p0s &&& (2147483647 : Int32))), .val (.int (1 : Int32)), .val (.long z67), .second, .val (.long ((p0s &&& (2147483647 : Int32)).toInt64)), .second, .val (.int (0 : Int32)), .unset] [(.int (lcmpW ((2 : Int64) * (z67 + (1 : Int64))) ((p0s &&& (2147483647 : Int32)).toInt64)))])) _
                  refine XS.ifNo X42.here hx rfl (hb hby at_79) rfl (own_l_nlt hc84).1 ?_
                  show Steps p.tables e below (T42.setTop (mkF m 82 #[.val (.int p0s), .val (.int p1s), .val (.int (p0s &&& (2147483647 : Int32))), .val (.int (1 : Int32)), .val (.long z67), .second, .val (.long ((p0s &&& (2147483647 : Int32)).toInt64)), .second, .val (.int (0 : Int32)), .unset] [])) _
                  refine XS.iconst X42.here hx rfl (hb hby at_82) ?_
                  show Steps p.tables e below (T42.setTop (mkF m 83 #[.val (.int p0s), .val (.int p1s), .val (.int (p0s &&& (2147483647 : Int32))), .val (.int (1 : Int32)), .val (.long z67), .second, .val (.long ((p0s &&& (2147483647 : Int32)).toInt64)), .second, .val (.int (0 : Int32)), .unset] [(.int (1 : Int32))])) _
                  refine XS.goto X42.here hx rfl (pc0 := 83) (pc' := 87) rfl (hb hby at_83) (by decide) (by decide) ?_
                  show Steps p.tables e below (T42.setTop (mkF m 87 #[.val (.int p0s), .val (.int p1s), .val (.int (p0s &&& (2147483647 : Int32))), .val (.int (1 : Int32)), .val (.long z67), .second, .val (.long ((p0s &&& (2147483647 : Int32)).toInt64)), .second, .val (.int (0 : Int32)), .unset] [(.int (1 : Int32))])) _
                  refine XS.istore X42.here hx rfl (hb hby at_87) rfl (l' := #[.val (.int p0s), .val (.int p1s), .val (.int (p0s &&& (2147483647 : Int32))), .val (.int (1 : Int32)), .val (.long z67), .second, .val (.long ((p0s &&& (2147483647 : Int32)).toInt64)), .second, .val (.int (0 : Int32)), .val (.int (1 : Int32))]) rfl ?_
                  show Steps p.tables e below (T42.setTop (mkF m 89 #[.val (.int p0s), .val (.int p1s), .val (.int (p0s &&& (2147483647 : Int32))), .val (.int (1 : Int32)), .val (.long z67), .second, .val (.long ((p0s &&& (2147483647 : Int32)).toInt64)), .second, .val (.int (0 : Int32)), .val (.int (1 : Int32))] [])) _
                  refine XS.iload X42.here hx rfl (hb hby at_89) rfl ?_
                  show Steps p.tables e below (T42.setTop (mkF m 91 #[.val (.int p0s), .val (.int p1s), .val (.int (p0s &&& (2147483647 : Int32))), .val (.int (1 : Int32)), .val (.long z67), .second, .val (.long ((p0s &&& (2147483647 : Int32)).toInt64)), .second, .val (.int (0 : Int32)), .val (.int (1 : Int32))] [(.int (0 : Int32))])) _
                  refine XS.ifYes X42.here hx rfl (pc0 := 91) (pc' := 103) rfl (hb hby at_91) rfl ((if0 _ _).trans (teq (show (0 : Int32) = (0 : Int32) from by decide)).1) (by decide) (by decide) ?_
                  show Steps p.tables e below (T42.setTop (mkF m 103 #[.val (.int p0s), .val (.int p1s), .val (.int (p0s &&& (2147483647 : Int32))), .val (.int (1 : Int32)), .val (.long z67), .second, .val (.long ((p0s &&& (2147483647 : Int32)).toInt64)), .second, .val (.int (0 : Int32)), .val (.int (1 : Int32))] [])) _
                  refine XS.iconst X42.here hx rfl (hb hby at_103) ?_
                  exact k
                exfalso
                have := rng32 p1s
                have := (show (1 : Int32).toInt = 1 from by decide)
                have := rng32 (p1s &&& (1 : Int32))
                have := own_mask p1s (1 : Int32) 1 2 (by decide) (by decide) (by decide)
                have := (show (0 : Int32).toInt = 0 from by decide)
                have := rng64 z67
                have := rng32 p0s
                have := (show (2147483647 : Int32).toInt = 2147483647 from by decide)
                have := rng32 (p0s &&& (2147483647 : Int32))
                have := own_mask p0s (2147483647 : Int32) 31 2147483648 (by decide) (by decide) (by decide)
                have := rng32 ((p0s &&& (2147483647 : Int32)) - (1 : Int32))
                have := c_isub (p0s &&& (2147483647 : Int32)) (1 : Int32)
                have := (show (2 : Int32).toInt = 2 from by decide)
                have := rng32 (((p0s &&& (2147483647 : Int32)) - (1 : Int32)) / (2 : Int32))
                have := c_idiv ((p0s &&& (2147483647 : Int32)) - (1 : Int32)) (2 : Int32) 2 (by decide) (by decide)
                have := rng64 ((((p0s &&& (2147483647 : Int32)) - (1 : Int32)) / (2 : Int32)).toInt64)
                have := c_i2l (((p0s &&& (2147483647 : Int32)) - (1 : Int32)) / (2 : Int32))
                have := own_eq64 hz67
                have := (show (0 : Int64).toInt = 0 from by decide)
                have := (show (2 : Int64).toInt = 2 from by decide)
                have := rng64 ((2 : Int64) * z67)
                have := own_lmulc' (2 : Int64) z67 (2) (by decide)
                have := rng64 ((p0s &&& (2147483647 : Int32)).toInt64)
                have := c_i2l (p0s &&& (2147483647 : Int32))
                have := (show (1 : Int64).toInt = 1 from by decide)
                have := rng64 (z67 + (1 : Int64))
                have := c_ladd z67 (1 : Int64)
                have := rng64 ((2 : Int64) * (z67 + (1 : Int64)))
                have := own_lmulc' (2 : Int64) (z67 + (1 : Int64)) (2) (by decide)
                have := own_ne32 hc6
                have := own_ne32 hc43
                have := own_nlt64 hc69
                have := own_ne64 hc72
                have := own_nlt64 hc78
                have := own_nlt64 hc84
                omega
  exact key _ _ id (fun t k => castTop (ef_0 m p0s p1s) k)
set_option maxRecDepth 65536 in
set_option maxHeartbeats 40000000 in
theorem comes_1 {Post : Tables → Env → Array Value → State → Outcome → State → Prop} (hpost : ∀ tb e args s v u, (limb_1_1.after args s (.returned v) u = true ∧ limb_1_2.after args s (.returned v) u = true ∧ True) → FrameEnd s (.returned v) u (Jvm.fieldLocs frame_1_writes args s ++ Jvm.arrayLocs frame_1_arrays args s ++ Jvm.staticLocs frame_1_statics s) 0 0 → Post tb e args s (.returned v) u) :
    ArmFor flags0 classFile x code maxLocals ret World_1 tables_1 room_1 Calls_1 rest_1 Pre_1 Post := by
  intro l hfl _ _ p e ha hc hk s m args below hf hA hF happ hP
  obtain ⟨hcalls, hrest, hpre⟩ := hP
  obtain ⟨-, -, -, hnamed, -, -, -, hat⟩ := (Spec.applies_iff hf).mp happ
  obtain ⟨hg, hn⟩ := and_e (Cond.before_iff.mp (show (Jvm.Cond.and given_1 narrow_1).before args s = true from hpre))
  obtain ⟨gw1, gw2⟩ := and_e hg
  obtain ⟨gw3, gw4⟩ := and_e gw2
  obtain ⟨w0, w1, rfl⟩ : ∃ w0 w1 : Value, args = #[w0, w1] := by
    have hs : args.size = 2 := by simpa [Cond.value, given_1] using gw1
    obtain ⟨L⟩ := args
    match L, hs with
    | [w0, w1], _ => exact ⟨w0, w1, rfl⟩
  have hw := fun d (hd : d ∈ tables_1) => atoms_spec (ws := Jvm.Cond.code x code maxLocals ret :: tables_1) hat d (List.mem_cons_of_mem _ hd)
  have hfit : Fit s := fun {y c} hc i hi => by
    obtain ⟨ha, rfl⟩ := Array.getElem?_eq_some_iff.mp hc
    have q := List.all_eq_true.mp ((Array.all_eq_true_iff_forall_mem.mp hF) _ (Array.getElem_mem ha)) i (List.mem_range.mpr hi)
    simpa [Array.getElem?_eq_getElem hi] using q
  obtain ⟨i0, ei0⟩ := is_v gw3
  obtain rfl : w0 = (.int i0) := Option.some.inj ei0
  obtain ⟨i1, ei1⟩ := is_v gw4
  obtain rfl : w1 = (.int i1) := Option.some.inj ei1
  obtain ⟨n, o, h1, h2, h3, _, L, rfl, ⟨rfl, N⟩, hq⟩ := rm0 l s _ hw tables_1 i0 i1  s.heap s.heap.size (Nat.le_refl _)  p e ha hc hk s m _ below hf ((Spec.applies_iff_loose hf).mp happ).1 ⟨rfl, State.Warmed39.refl s, rfl⟩ trivial
  refine ⟨n, _, h1, h2, h3, hpost _ _ _ _ _ _ ⟨Cond.after_iff.mpr rfl, Cond.after_iff.mpr (eq_i res_at (Term.int_eval (1)) rfl), trivial⟩ ⟨hq.1, hq.2.1, (hq.2.2.sift fun y hy => Or.inr (N y hy)).mono (by decide) (by decide)⟩⟩
theorem main_1_1 : Claimed_1_1 := comes_1 fun _ _ _ _ _ _ h hF => ⟨h.1, hF⟩
theorem main_1_2 : Claimed_1_2 := comes_1 fun _ _ _ _ _ _ h hF => ⟨h.2.1, hF⟩
end Jvm.Pilot.@@N@@
namespace Jvm.Pilot.@@N@@
open Jvm Jvm.ClassFile Sem Op Lib Jvm.Free Jvm.Stand Jvm.Pilot.@@N@@.Jvm.D
/-! MADE BY PROGRAM (witnessworld.py) out of the Statement's table words and the real class files: 11 classes; the members and pool entries that the words name. The judged class is class 1, her method 1. -/
namespace start1
open Jvm.ClassFile
def u (s : String) : CpInfo := .utf8 (stringToUtf16 s)
/-- a pool by its gaps: so many unusable entries, then the entry; so many at the end -/
def gap : Nat → List CpInfo → List CpInfo
  | 0, r => r
  | n + 1, r => .unusable :: gap n r
def poolList (es : List (Nat × CpInfo)) (last : Nat) : List CpInfo := es.foldr (fun e r => gap e.1 (e.2 :: r)) (gap last [])
def pool (es : List (Nat × CpInfo)) (last : Nat) : Array CpInfo := ⟨poolList es last⟩
def fileOf (pool : Array CpInfo) (this : Nat) (attrs : Array Attribute := #[]) (ms : Array MethodInfo := #[]) (fl : Nat := 33) (sup : Nat := 0) (ifs : Array Nat := #[]) (fds : Array FieldInfo := #[]) : ClassFile where
  minorVersion := 0
  majorVersion := 65
  constantPool := pool
  accessFlags := fl
  thisClass := this
  superClass := sup
  interfaces := ifs
  fields := fds
  methods := ms
  attributes := attrs
def plain (name : String) (sup : Option ClassId) : Class where
  name := name
  kind := .ordinary
  loader := none
  accessFlags := 33
  super := sup
  interfaces := #[]
  cf := none
  fields := #[]
  methods := #[]
  instanceTypes := #[]
  staticTypes := #[]
  resolved := #[]
  callSites := []
  init := .initialized
  statics := none
  mirror := none

def pool0 : Array CpInfo := pool [(5, u "<init>"), (0, u "()V"), (1, .class_ 10), (1, u "java/lang/Object")] 113

def k0m0 : Method := { name := "<init>", desc := "()V", sig := { parameters := [], returnType := none }, accessFlags := 1, code := none }
/-- java/lang/Object -/
def k0 : Class := { plain "java/lang/Object" none with
  accessFlags := 33
  interfaces := #[]
  cf := some (fileOf pool0 8 #[] #[{ accessFlags := 1, nameIndex := 5, descriptorIndex := 6, attributes := #[] }] 33 0 #[] #[])
  fields := #[]
  methods := #[k0m0]
  instanceTypes := #[]
  staticTypes := #[]
  resolved := Array.replicate 124 none
  statics := none }

def pool1 : Array CpInfo := pool [(2, .class_ 4), (1, u "java/lang/Object"), (0, u "<init>"), (0, u "()V"), (0, .integer 2147483647), (0, .methodref 9 10), (0, .class_ 11), (0, .nameAndType 12 13), (0, u "com/example/mexpile/mexpile/engine/TakeAndBreak"), (0, u "largestSmallerPart"), (0, u "(IZ)I"), (0, .long 2), (1, .class_ 17), (0, u "com/example/mexpile/mexpile/engine/TakeAndBreakLargestSmallerPartPinLaw"), (2, u "law"), (0, u "(II)Z")] 3

def k1m0 : Method := { name := "<init>", desc := "()V", sig := { parameters := [], returnType := none }, accessFlags := 1, code := none }
def k1c1 : Code := { maxStack := 6, maxLocals := 10, code := code, exceptionTable := #[], attributes := #[] }
def k1m1 : Method := { name := "law", desc := "(II)Z", sig := { parameters := [.int, .int], returnType := some .boolean }, accessFlags := 9, code := some k1c1 }
/-- com/example/mexpile/mexpile/engine/TakeAndBreakLargestSmallerPartPinLaw -/
def k1 : Class := { plain "com/example/mexpile/mexpile/engine/TakeAndBreakLargestSmallerPartPinLaw" (some 0) with
  accessFlags := 49
  interfaces := #[]
  cf := some (fileOf pool1 16 #[] #[{ accessFlags := 1, nameIndex := 5, descriptorIndex := 6, attributes := #[] }, { accessFlags := 9, nameIndex := 20, descriptorIndex := 21, attributes := #[] }] 49 2 #[] #[])
  fields := #[]
  methods := #[k1m0, k1m1]
  instanceTypes := #[]
  staticTypes := #[]
  resolved := Array.replicate 25 none
  statics := none }

def pool2 : Array CpInfo := pool [(1, .class_ 2), (0, u "com/example/mexpile/mexpile/engine/LegalMoves"), (0, .class_ 4), (0, u "java/lang/Object")] 10

/-- com/example/mexpile/mexpile/engine/LegalMoves -/
def k2 : Class := { plain "com/example/mexpile/mexpile/engine/LegalMoves" (some 0) with
  accessFlags := 1537
  interfaces := #[]
  cf := some (fileOf pool2 1 #[] #[] 1537 3 #[] #[])
  fields := #[]
  methods := #[]
  instanceTypes := #[]
  staticTypes := #[]
  resolved := Array.replicate 15 none
  statics := none }

def pool3 : Array CpInfo := pool [(1, .class_ 2), (0, u "com/example/mexpile/mexpile/engine/HeapGame"), (21, .class_ 25), (0, u "java/lang/Object"), (0, .class_ 27), (0, u "com/example/mexpile/mexpile/engine/LegalMoves"), (0, u "LARGEST_HEAP"), (0, u "I")] 31

/-- com/example/mexpile/mexpile/engine/HeapGame -/
def k3 : Class := { plain "com/example/mexpile/mexpile/engine/HeapGame" (some 0) with
  accessFlags := 1537
  interfaces := #[2]
  cf := some (fileOf pool3 1 #[] #[] 1537 24 #[26] #[{ accessFlags := 25, nameIndex := 28, descriptorIndex := 29, attributes := #[] }])
  fields := #[{ name := "LARGEST_HEAP", type := .int, accessFlags := 25, slot := 0, constantValue := 0 }]
  methods := #[]
  instanceTypes := #[]
  staticTypes := #[.int]
  resolved := Array.replicate 61 none
  statics := none }

def pool4 : Array CpInfo := pool [(2, .class_ 4), (1, u "java/lang/Object"), (3, .class_ 10), (1, u "com/example/mexpile/mexpile/engine/TakeAndBreak"), (0, u "digits"), (0, u "[I"), (2, u "unequal"), (0, u "Z"), (31, .class_ 49), (0, u "com/example/mexpile/mexpile/engine/TakeAndBreak$Table"), (118, .class_ 169), (0, u "com/example/mexpile/mexpile/engine/HeapGame"), (0, u "REMOVE"), (0, u "I"), (2, u "LEAVE_ONE"), (1, u "LEAVE_TWO"), (18, u "largestSmallerPart"), (0, u "(IZ)I")] 39

def k4c0 : Code := { maxStack := 2, maxLocals := 2, code := prog_29_method_12_code, exceptionTable := #[], attributes := #[] }
def k4m0 : Method := { name := "largestSmallerPart", desc := "(IZ)I", sig := { parameters := [.int, .boolean], returnType := some .int }, accessFlags := 8, code := some k4c0 }
/-- com/example/mexpile/mexpile/engine/TakeAndBreak -/
def k4 : Class := { plain "com/example/mexpile/mexpile/engine/TakeAndBreak" (some 0) with
  accessFlags := 49
  interfaces := #[3]
  cf := some (fileOf pool4 8 #[.nestMembers #[48]] #[{ accessFlags := 8, nameIndex := 195, descriptorIndex := 196, attributes := #[] }] 49 2 #[168] #[{ accessFlags := 25, nameIndex := 170, descriptorIndex := 171, attributes := #[] }, { accessFlags := 25, nameIndex := 174, descriptorIndex := 171, attributes := #[] }, { accessFlags := 25, nameIndex := 176, descriptorIndex := 171, attributes := #[] }, { accessFlags := 18, nameIndex := 11, descriptorIndex := 12, attributes := #[] }, { accessFlags := 18, nameIndex := 15, descriptorIndex := 16, attributes := #[] }])
  fields := #[{ name := "REMOVE", type := .int, accessFlags := 25, slot := 0, constantValue := 0 }, { name := "LEAVE_ONE", type := .int, accessFlags := 25, slot := 1, constantValue := 0 }, { name := "LEAVE_TWO", type := .int, accessFlags := 25, slot := 2, constantValue := 0 }, { name := "digits", type := (.array .int), accessFlags := 18, slot := 0, constantValue := 0 }, { name := "unequal", type := .boolean, accessFlags := 18, slot := 1, constantValue := 0 }]
  methods := #[k4m0]
  instanceTypes := #[(.array .int), .boolean]
  staticTypes := #[.int, .int, .int]
  resolved := Array.replicate 236 none
  statics := none }

def pool5 : Array CpInfo := pool [(1, u "java/lang/Cloneable"), (0, .class_ 1), (0, u "java/lang/Object"), (0, .class_ 3)] 3

/-- java/lang/Cloneable -/
def k5 : Class := { plain "java/lang/Cloneable" (some 0) with
  accessFlags := 1537
  interfaces := #[]
  cf := some (fileOf pool5 2 #[] #[] 1537 4 #[] #[])
  fields := #[]
  methods := #[]
  instanceTypes := #[]
  staticTypes := #[]
  resolved := Array.replicate 8 none
  statics := none }

def pool6 : Array CpInfo := pool [(1, u "java/io/Serializable"), (0, .class_ 1), (0, u "java/lang/Object"), (0, .class_ 3)] 3

/-- java/io/Serializable -/
def k6 : Class := { plain "java/io/Serializable" (some 0) with
  accessFlags := 1537
  interfaces := #[]
  cf := some (fileOf pool6 2 #[] #[] 1537 4 #[] #[])
  fields := #[]
  methods := #[]
  instanceTypes := #[]
  staticTypes := #[]
  resolved := Array.replicate 8 none
  statics := none }

/-- the primitive byte -/
def k7 : Class := { plain "byte" none with kind := .primitive 'B', accessFlags := 0x411 }
/-- [B -/
def k8 : Class := { plain "[B" (some 0) with kind := .array 7 .byte, interfaces := #[5, 6], accessFlags := 1041 }

/-- the primitive int -/
def k9 : Class := { plain "int" none with kind := .primitive 'I', accessFlags := 0x411 }
/-- [I -/
def k10 : Class := { plain "[I" (some 0) with kind := .array 9 .int, interfaces := #[5, 6], accessFlags := 1041 }

def heap : Heap := #[]
def classes : Array Class := #[k0, k1, k2, k3, k4, k5, k6, k7, k8, k9, k10]
def interned : List (Array UInt16 × Addr) := []
def slotsUsed : Nat := 0
def theMethod : MethodId := ⟨1, 1⟩
def args0 : Array Value := #[.int 5, .int 3]
def aboutOver (below : List Frame) : State where
  vm := { classes := classes, interned := interned.toArray }
  heap := heap
  slotsUsed := slotsUsed
  threads := #[{ frames := .invoking theMethod args0 :: below }]
def below0 : List Frame := [.native { method := ⟨0, 0⟩, args := #[] }]
def about1 : State := aboutOver below0
def p0 : Program := .bare "" "" ""
def e0 : Env := launch0.env 0 0 0
theorem w_frames : about1.frames = Frame.invoking theMethod args0 :: below0 := rfl
set_option maxRecDepth 65536 in
theorem w_args : argsFit about1.vm theMethod args0 = true := by decide +kernel
set_option maxRecDepth 65536 in
theorem w_heap : heapFits about1 = true := by decide +kernel
set_option maxRecDepth 65536 in
theorem w_runnable : about1.curStatus? = some .runnable := by decide +kernel
set_option maxRecDepth 65536 in
theorem w_alone : about1.alone = true := by decide +kernel
set_option maxRecDepth 65536 in
theorem w_named : about1.methodNamed? x = some theMethod := by decide +kernel
set_option maxRecDepth 65536 in
theorem w_hears : about1.hears theMethod below0 = true := by decide +kernel
set_option maxRecDepth 65536 in
theorem w_ripe : about1.ripe theMethod args0 below0 = true := by decide +kernel
theorem w_running : about1.status = .running := rfl
set_option maxRecDepth 65536 in
theorem w_room : about1.hasRoom e0.platform room_1 = true :=
  launch0.hasRoom_least _ room_1 (by decide +kernel) (by decide +kernel) (by decide +kernel) (by decide +kernel) (by decide +kernel) (by decide +kernel)
theorem allAtoms_all (ts : List Jvm.Cond) (a : Array Jvm.Value) (st : Jvm.State) : (allAtoms ts).before a st = ts.all (fun c => c.before a st) := by
  induction ts with
  | nil => rfl
  | cons c t ih =>
    show (Jvm.Cond.and c (allAtoms t)).before a st = _
    rw [Jvm.Cond.before_and, ih, List.all_cons]
def words1 : List Jvm.Cond := Jvm.Cond.code x code maxLocals ret :: tables_1
/-- a 'code' word, met by the world's own term for the bytes: nothing is compared byte by byte -/
theorem code_word {y : MethodName} {bytes : ByteArray} {mx : Nat} {rt : Option FieldType} {a : Array Value} {s : State} {m : MethodId} {meth : Method} {c : Code} (h1 : s.methodNamed? y = some m) (h2 : s.vm.method? m = some meth) (h3 : meth.code = some c) (h4 : c.code = bytes)
    (h5 : (c.maxLocals == mx && c.exceptionTable.isEmpty && decide (c.maxStack ≤ mostOperands) && decide (meth.sig.returnType = rt) && !meth.locks && decide (parseMethodDescriptor y.desc = some meth.sig)) = true) : (Jvm.Cond.code y bytes mx rt).before a s = true := by
  simp only [Bool.and_eq_true, beq_iff_eq, Bool.not_eq_true', decide_eq_true_eq] at h5
  obtain ⟨⟨⟨⟨⟨g1, g2⟩, g3⟩, g4⟩, g5⟩, g6⟩ := h5
  simp [Cond.before, Cond.holds, Cond.value, h1, h2, h3, h4, g1, g2, g3, g4, g5, g6]
def isCode : Jvm.Cond → Bool
  | .code _ _ _ _ => true
  | _ => false
theorem all_split {L : List Jvm.Cond} {P : Jvm.Cond → Bool} (h1 : L.all (fun c => isCode c || P c) = true) (h2 : ∀ c ∈ L.filter isCode, P c = true) : L.all P = true := by
  refine List.all_eq_true.mpr fun c hc => ?_
  have h := List.all_eq_true.mp h1 c hc
  rcases Bool.eq_false_or_eq_true (isCode c) with hi | hi
  · exact h2 c (List.mem_filter.mpr ⟨hc, hi⟩)
  · simpa [hi] using h
set_option maxRecDepth 65536 in
theorem w_c0 : (Jvm.Cond.code x code maxLocals ret).before args0 about1 = true := code_word (m := ⟨1, 1⟩) (meth := k1m1) (c := k1c1) (by decide +kernel) rfl rfl rfl (by decide +kernel)
set_option maxRecDepth 65536 in
theorem w_c1 : (Jvm.Cond.code ({ cls := "com/example/mexpile/mexpile/engine/TakeAndBreak", name := "largestSmallerPart", desc := "(IZ)I" } : Jvm.MethodName) prog_29_method_12_code (2 : Nat) (Option.some Jvm.ClassFile.FieldType.int)).before args0 about1 = true := code_word (m := ⟨4, 0⟩) (meth := k4m0) (c := k4c0) (by decide +kernel) rfl rfl rfl (by decide +kernel)
def codes1 : List Jvm.Cond := [Jvm.Cond.code x code maxLocals ret, Jvm.Cond.code ({ cls := "com/example/mexpile/mexpile/engine/TakeAndBreak", name := "largestSmallerPart", desc := "(IZ)I" } : Jvm.MethodName) prog_29_method_12_code (2 : Nat) (Option.some Jvm.ClassFile.FieldType.int)]
set_option maxRecDepth 65536 in
theorem codes_eq : words1.filter isCode = codes1 := rfl
theorem w_codes : ∀ c ∈ words1.filter isCode, c.before args0 about1 = true := by
  rw [codes_eq]
  intro c hc
  simp only [codes1, List.mem_cons, List.not_mem_nil, or_false] at hc
  rcases hc with rfl | rfl
  · exact w_c0
  · exact w_c1
set_option maxRecDepth 65536 in
theorem w_t1 : words1.all (fun c => isCode c || c.before args0 about1) = true := by decide +kernel
theorem w_tables : (allAtoms (Jvm.Cond.code x code maxLocals ret :: tables_1)).before args0 about1 = true := by
  rw [allAtoms_all]
  show words1.all (fun c => c.before args0 about1) = true
  refine all_split ?_ w_codes
  rw [w_t1]
set_option maxRecDepth 65536 in
theorem w_case : (Jvm.Cond.and given_1 narrow_1).before args0 about1 = true := by decide +kernel
theorem w_applies : (headSpec (Jvm.Cond.code x code maxLocals ret :: tables_1) room_1).applies x e0.platform about1 = true :=
  (Spec.applies_iff w_frames).mpr ⟨w_running, w_runnable, w_alone, w_named, w_hears, w_ripe, w_room, w_tables⟩
theorem atStart : AtStart classFile x code maxLocals ret World_1 tables_1 room_1 Calls_1 rest_1 Pre_1 launch0 p0 e0 about1 theMethod args0 below0 :=
  ⟨lists_1, trivial, launch0.admits_env _ _ _, launch0.least_env, fairChoices_fair.cas, fairChoices_fair.clock, w_frames, w_args, w_heap, w_applies, trivial, trivial, w_case⟩
end start1
theorem witness_1 : WitnessClaimed_1 := ⟨start1.p0, start1.e0, start1.about1, start1.theMethod, start1.args0, start1.below0, start1.atStart⟩
end Jvm.Pilot.@@N@@
