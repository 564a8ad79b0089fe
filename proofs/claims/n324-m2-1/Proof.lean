import JvmDerived
import JvmDerived.Pilot.@@N@@Statement
import JvmDerived.Pilot.@@N@@Code
set_option linter.unusedVariables false
set_option linter.unusedSimpArgs false
namespace Jvm.Pilot.@@N@@
open Jvm Jvm.ClassFile Sem Op Lib Jvm.Free Jvm.Stand Jvm.LawKit Jvm.RoadKit Bundle Jvm.Pilot.@@N@@.Jvm.D
-- OWN KIT (mine): reach, finish, weakening of the counters, arrays by a function, arithmetic in omega's form
abbrev own_R (tb : Tables) (e : Env) (below : List Frame) (F0 F : State) : Prop := ∀ t, Steps tb e below F t → Steps tb e below F0 t
abbrev own_G (p : Program) (e : Env) (below : List Frame) (s F0 : State) (Q : Option Value → Heap → List Loc → Prop) (kc ks : Nat) : Prop :=
  ∃ s₂ o, Steps p.tables e below F0 s₂ ∧ s₂.status = .running ∧ Ended s₂ below o ∧ ∃ v L, o = .returned v ∧ Q v s₂.heap L ∧ FrameEnd s o s₂ L kc ks
section OwnKit
variable {p : Program} {l : Launch} {e : Env} {R : Room} {s : State} {m : MethodId} {args : Array Value} {below : List Frame} {meth : Method} {c : Code} {T : State} {locs : List Loc} {cells slots : Nat}
theorem own_fin (X : Stand p l e R s m args below meth c T locs cells slots) (hl : meth.locks = false) {F0 : State} {Q : Option Value → Heap → List Loc → Prop} {kc ks : Nat} (v : Option Value) (hv : meth.sig.returnType = none → v = none) (hq : Q v T.heap locs) (hc : cells ≤ kc) (hs : slots ≤ ks)
    (st : ∀ fs, (∀ (f : JFrame) (acts : List Action), f.method = m → f.locked = none → f.entered = [] → (doReturn e (T.setTop f) acts v).1 = T.setFrames fs) → Steps p.tables e below F0 (T.setFrames fs)) : own_G p e below s F0 Q kc ks := by
  obtain ⟨fs, hr, hrun, hended, hW, hsame⟩ := X.leave hv hl
  exact ⟨_, _, st fs hr, hrun, hended, _, _, rfl, hq, ⟨_, rfl⟩, hW, hsame.mono hc hs⟩
theorem own_mono (X : Stand p l e R s m args below meth c T locs cells slots) {c' s' : Nat} (hc : cells ≤ c') (hs : slots ≤ s') : Stand p l e R s m args below meth c T locs c' s' := { X with same := X.same.mono hc hs }
end OwnKit
theorem own_hv {meth : Method} {t : FieldType} {v : Option Value} (h : meth.sig.returnType = some t) : meth.sig.returnType = none → v = none := fun q => by rw [h] at q; cases q
theorem own_lt32 {a b : Int32} (h : a < b) : a.toInt < b.toInt := Int32.lt_iff_toInt_lt.mp h
theorem own_nlt32 {a b : Int32} (h : ¬ a < b) : b.toInt ≤ a.toInt := Int.not_lt.mp fun q => h (Int32.lt_iff_toInt_lt.mpr q)
theorem own_eq32 {a b : Int32} (h : a = b) : a.toInt = b.toInt := congrArg Int32.toInt h
theorem own_ne32 {a b : Int32} (h : ¬ a = b) : a.toInt ≠ b.toInt := fun q => h (Int32.toInt_inj.mp q)
theorem own_lt64 {a b : Int64} (h : a < b) : a.toInt < b.toInt := Int64.lt_iff_toInt_lt.mp h
theorem own_nlt64 {a b : Int64} (h : ¬ a < b) : b.toInt ≤ a.toInt := Int.not_lt.mp fun q => h (Int64.lt_iff_toInt_lt.mpr q)
theorem own_eq64 {a b : Int64} (h : a = b) : a.toInt = b.toInt := congrArg Int64.toInt h
theorem own_ne64 {a b : Int64} (h : ¬ a = b) : a.toInt ≠ b.toInt := fun q => h (Int64.toInt_inj.mp q)
theorem own_imulc (x y : Int32) (d : Int) (h : y.toInt = d) : ((x * y).toInt - x.toInt * d) % 4294967296 = 0 := by rw [← h]; exact c_imul x y
theorem own_imulc' (x y : Int32) (d : Int) (h : x.toInt = d) : ((x * y).toInt - d * y.toInt) % 4294967296 = 0 := by rw [← h]; exact c_imul x y
theorem own_lmulc (x y : Int64) (d : Int) (h : y.toInt = d) : ((x * y).toInt - x.toInt * d) % 18446744073709551616 = 0 := by rw [← h]; exact c_lmul x y
theorem own_lmulc' (x y : Int64) (d : Int) (h : x.toInt = d) : ((x * y).toInt - d * y.toInt) % 18446744073709551616 = 0 := by rw [← h]; exact c_lmul x y
theorem own_mask (x m : Int32) (k : Nat) (P : Int) (hk : k ≤ 31) (hm : m.toBitVec.toNat = 2 ^ k - 1) (hP : P = ((2 ^ k : Nat) : Int)) : (x &&& m).toInt = x.toInt % P := by rw [hP]; exact c_mask x m k hk hm
theorem own_maskL (x m : Int64) (k : Nat) (P : Int) (hk : k ≤ 63) (hm : m.toBitVec.toNat = 2 ^ k - 1) (hP : P = ((2 ^ k : Nat) : Int)) : (x &&& m).toInt = x.toInt % P := by rw [hP]; exact c_maskL x m k hk hm
theorem own_ishr (x q : Int32) (k : Nat) (P : Int) (hk : q.toBitVec.toNat % 32 = k) (hP : P = ((2 ^ k : Nat) : Int)) : (x >>> (q &&& 31)).toInt = x.toInt / P := by rw [hP]; exact c_ishr x q k hk
theorem own_ishl (x q : Int32) (k : Nat) (P : Int) (hk : q.toBitVec.toNat % 32 = k) (hP : P = ((2 ^ k : Nat) : Int)) : ((x <<< (q &&& 31)).toInt - x.toInt * P) % 4294967296 = 0 := by rw [hP]; exact c_ishl x q k hk
theorem own_iushr (x q : Int32) (k : Nat) (P : Int) (hk : q.toBitVec.toNat % 32 = k) (h0 : 0 < k) (hP : P = ((2 ^ k : Nat) : Int)) : ((x.toUInt32 >>> (q &&& 31).toUInt32).toInt32).toInt = (x.toInt % 4294967296) / P := by rw [hP]; exact c_iushr x q k hk h0
theorem own_lshr (x : Int64) (q : Int32) (k : Nat) (P : Int) (hk : q.toBitVec.toNat % 64 = k) (hP : P = ((2 ^ k : Nat) : Int)) : (x >>> (q &&& 0x3f).toInt64).toInt = x.toInt / P := by rw [hP]; exact c_lshr x q k hk
theorem own_lshl (x : Int64) (q : Int32) (k : Nat) (P : Int) (hk : q.toBitVec.toNat % 64 = k) (hP : P = ((2 ^ k : Nat) : Int)) : ((x <<< (q &&& 0x3f).toInt64).toInt - x.toInt * P) % 18446744073709551616 = 0 := by rw [hP]; exact c_lshl x q k hk
theorem own_lushr (x : Int64) (q : Int32) (k : Nat) (P : Int) (hk : q.toBitVec.toNat % 64 = k) (h0 : 0 < k) (hP : P = ((2 ^ k : Nat) : Int)) : ((x.toUInt64 >>> (q &&& 0x3f).toInt64.toUInt64).toInt64).toInt = (x.toInt % 18446744073709551616) / P := by rw [hP]; exact c_lushr x q k hk h0
theorem own_lc_lt {x y : Int64} {cd : ClassFile.Cond} {b : Bool} (h : if_icmp.holds cd (lcmpW x y) 0 = b) : ifCond.holds cd (lcmpW x y) = b := (if0 _ _).trans h
theorem own_l_lt {x y : Int64} (h : x < y) : ifCond.holds .lt (lcmpW x y) = true ∧ ifCond.holds .ge (lcmpW x y) = false := ⟨(if0 _ _).trans (tlt ((lw_lt x y).mpr h)).1, (if0 _ _).trans (tlt ((lw_lt x y).mpr h)).2.1⟩
theorem own_l_nlt {x y : Int64} (h : ¬ x < y) : ifCond.holds .lt (lcmpW x y) = false ∧ ifCond.holds .ge (lcmpW x y) = true := ⟨(if0 _ _).trans (flt (fun q => h ((lw_lt x y).mp q))).1, (if0 _ _).trans (flt (fun q => h ((lw_lt x y).mp q))).2.1⟩
theorem own_l_gt {x y : Int64} (h : y < x) : ifCond.holds .gt (lcmpW x y) = true ∧ ifCond.holds .le (lcmpW x y) = false := ⟨(if0 _ _).trans (tlt ((lw_gt x y).mpr h)).2.2.1, (if0 _ _).trans (tlt ((lw_gt x y).mpr h)).2.2.2⟩
theorem own_l_ngt {x y : Int64} (h : ¬ y < x) : ifCond.holds .gt (lcmpW x y) = false ∧ ifCond.holds .le (lcmpW x y) = true := ⟨(if0 _ _).trans (flt (fun q => h ((lw_gt x y).mp q))).2.2.1, (if0 _ _).trans (flt (fun q => h ((lw_gt x y).mp q))).2.2.2⟩
theorem own_l_eq {x y : Int64} (h : x = y) : ifCond.holds .eq (lcmpW x y) = true ∧ ifCond.holds .ne (lcmpW x y) = false := ⟨(if0 _ _).trans (teq ((lw_eq x y).mpr h)).1, (if0 _ _).trans (teq ((lw_eq x y).mpr h)).2⟩
theorem own_l_neq {x y : Int64} (h : ¬ x = y) : ifCond.holds .eq (lcmpW x y) = false ∧ ifCond.holds .ne (lcmpW x y) = true := ⟨(if0 _ _).trans (feq (fun q => h ((lw_eq x y).mp q))).1, (if0 _ _).trans (feq (fun q => h ((lw_eq x y).mp q))).2⟩
theorem own_lrem {x y : Int64} {d : Int} (hy : y.toInt = d) : (0 ≤ x.toInt → (x - (x / y) * y).toInt = x.toInt % d) ∧ (x.toInt < 0 → (x - (x / y) * y).toInt = -((-x.toInt) % d)) := c_lrem x y d hy
theorem own_lremf (x y : Int64) (d : Int) (hy : y.toInt = d) : (0 ≤ x.toInt → (x % y).toInt = x.toInt % d) ∧ (x.toInt < 0 → (x % y).toInt = -((-x.toInt) % d)) := by rw [Int64.toInt_mod, hy]; exact tr _ _
theorem own_lremM {p : Program} {l : Launch} {e : Env} {R : Room} {s : State} {m : MethodId} {args : Array Value} {below : List Frame} {meth : Method} {c : Code} {T : State} {locs : List Loc} {cells slots : Nat} {g : JFrame} {target : State} (X : Stand p l e R s m args below meth c T locs cells slots) (hx : p.tables.exec = Jvm.exec) (hg : g.method = m) {x y : Int64} {rest : List Value} (hd : decode c.code g.pc = .ok (.lrem, 1)) (hs : g.stack = .long y :: .long x :: rest) (hy : y ≠ 0)
    (hr : Steps p.tables e below (T.setTop { g with pc := g.pc + 1, stack := .long (x % y) :: rest }) target) : Steps p.tables e below (T.setTop g) target :=
  XS.lrem X.here hx hg hd hs hy (by rw [lrem_mod]; exact hr)
theorem pn_0 : plainName "com/example/mexpile/mexpile/engine/Mex" = true := by first | (simp [plainName, overriddenIn]; done) | decide +kernel
theorem d1_0 : decode prog_19_method_8_code 0 = .ok (.lload_n 0, 1) := by decide +kernel
theorem d1_1 : decode prog_19_method_8_code 1 = .ok (.ldc2_w 31, 3) := by decide +kernel
theorem d1_4 : decode prog_19_method_8_code 4 = .ok (.ladd, 1) := by decide +kernel
theorem d1_5 : decode prog_19_method_8_code 5 = .ok (.lconst 1, 1) := by decide +kernel
theorem d1_6 : decode prog_19_method_8_code 6 = .ok (.lsub, 1) := by decide +kernel
theorem d1_7 : decode prog_19_method_8_code 7 = .ok (.bipush 6, 2) := by decide +kernel
theorem d1_9 : decode prog_19_method_8_code 9 = .ok (.lushr, 1) := by decide +kernel
theorem d1_10 : decode prog_19_method_8_code 10 = .ok (.l2i, 1) := by decide +kernel
theorem d1_11 : decode prog_19_method_8_code 11 = .ok (.ireturn, 1) := by decide +kernel
theorem ef_1 (m : MethodId) (x0 : Int64) : entryFrame m #[(.long x0)] 2 = mkF m 0 #[.val (.long x0), .second] [] := by first | (simp [entryFrame, mkF, argsToLocals, Value.category]; done) | rfl
def Q1 (Z : State) (q1 : Int64) (h0 : Heap) (n0 : Nat) (v : Option Value) (h : Heap) (L : List Loc) : Prop := v = some (.int (((((q1 + (64 : Int64)) - (1 : Int64)).toUInt64 >>> ((6 : Int32) &&& 0x3f).toInt64.toUInt64).toInt64).toInt32)) ∧ Fr n0 L ∧ h = h0
set_option maxRecDepth 65536 in
set_option maxHeartbeats 40000000 in
theorem rm1 (l : Launch) (Z : State) (a0 : Array Value) (hw : ∀ d ∈ tables_1, d.before a0 Z = true) (ws : List Jvm.Cond) (q1 : Int64) (h0 : Heap) (n0 : Nat) (Z0 : n0 ≤ h0.size) :
    MetFree l (⟨"com/example/mexpile/mexpile/engine/Mex", "wordsFor", "(J)I"⟩ : MethodName) (head1 (Jvm.Cond.code (⟨"com/example/mexpile/mexpile/engine/Mex", "wordsFor", "(J)I"⟩ : MethodName) prog_19_method_8_code 2 (some .int) :: ws) ({ frames := 0, cells := 0, slots := 0, locals := 0 } : Room)) (fun a U => a = #[(.long q1)] ∧ Z.Warmed39 U.vm ∧ U.heap = h0) (fun _ _ _ _ _ => True) (fun _ U o U' => ∃ v L, o = .returned v ∧ Q1 Z q1 h0 n0 v U'.heap L ∧ FrameEnd U o U' L ({ frames := 0, cells := 0, slots := 0, locals := 0 } : Room).cells ({ frames := 0, cells := 0, slots := 0, locals := 0 } : Room).slots) := by
  refine MetFree.of_bodySF (plainFor_of_name pn_0) hisR ?_
  intro p e s m args below meth c s₁ Bd hml0 hP hK
  obtain ⟨rfl, hZ, hh⟩ := hP
  have hx := Bd.exec
  have hby := Bd.bytes
  have hml : c.maxLocals = 2 := hml0
  have hown : s.vm.findClass "com/example/mexpile/mexpile/engine/Mex" = some m.cls := findClass_of_methodNamed Bd.named
  have hnm := (name_of_methodNamed Bd.named Bd.method).1
  have hlk : meth.locks = false := BodyLoose.notSynchronized Bd
  have X0 : Stand p l e ({ frames := 0, cells := 0, slots := 0, locals := 0 } : Room) s m #[(.long q1)] below meth c s₁ [] 0 0 := Stand.of_body Bd
  have e0 : s₁.heap = h0 := by rw [← hh, Bd.state]; rfl
  have N0 := Fr.nil n0
  have K0 : Keep h0 h0 [] := Keep.refl h0 _
  have key : ∀ (F0 : State) (G : Prop), (own_G p e below s F0 (Q1 Z q1 h0 n0) ({ frames := 0, cells := 0, slots := 0, locals := 0 } : Room).cells ({ frames := 0, cells := 0, slots := 0, locals := 0 } : Room).slots → G) → own_R p.tables e below F0 (s₁.setTop (mkF m 0 #[.val (.long q1), .second] [])) → G := by
    intro F0 G hG r0
    have r1 : own_R p.tables e below F0 (s₁.setTop (mkF m 11 #[.val (.long q1), .second] [(.int (((((q1 + (64 : Int64)) - (1 : Int64)).toUInt64 >>> ((6 : Int32) &&& 0x3f).toInt64.toUInt64).toInt64).toInt32))])) := fun t k => by
      refine r0 t ?_
      show Steps p.tables e below (s₁.setTop (mkF m 0 #[.val (.long q1), .second] [])) _
      refine XS.lloadN X0.here hx rfl (hb hby d1_0) rfl ?_
      show Steps p.tables e below (s₁.setTop (mkF m 1 #[.val (.long q1), .second] [(.long q1)])) _
      refine X0.ldc2J hx hown (mvT hZ (hw _ (List.mem_of_getElem? (i := 5) rfl))) rfl (hb hby d1_1) ?_
      show Steps p.tables e below (s₁.setTop (mkF m 4 #[.val (.long q1), .second] [(.long (64 : Int64)), (.long q1)])) _
      refine XS.ladd X0.here hx rfl (hb hby d1_4) rfl ?_
      show Steps p.tables e below (s₁.setTop (mkF m 5 #[.val (.long q1), .second] [(.long (q1 + (64 : Int64)))])) _
      refine XS.lconst X0.here hx rfl (hb hby d1_5) ?_
      show Steps p.tables e below (s₁.setTop (mkF m 6 #[.val (.long q1), .second] [(.long (1 : Int64)), (.long (q1 + (64 : Int64)))])) _
      refine XS.lsub X0.here hx rfl (hb hby d1_6) rfl ?_
      show Steps p.tables e below (s₁.setTop (mkF m 7 #[.val (.long q1), .second] [(.long ((q1 + (64 : Int64)) - (1 : Int64)))])) _
      refine XS.bipush X0.here hx rfl (hb hby d1_7) ?_
      show Steps p.tables e below (s₁.setTop (mkF m 9 #[.val (.long q1), .second] [(.int (6 : Int32)), (.long ((q1 + (64 : Int64)) - (1 : Int64)))])) _
      refine XS.lushr X0.here hx rfl (hb hby d1_9) rfl ?_
      show Steps p.tables e below (s₁.setTop (mkF m 10 #[.val (.long q1), .second] [(.long ((((q1 + (64 : Int64)) - (1 : Int64)).toUInt64 >>> ((6 : Int32) &&& 0x3f).toInt64.toUInt64).toInt64))])) _
      refine XS.l2i X0.here hx rfl (hb hby d1_10) rfl ?_
      exact k
    refine hG (own_fin X0 hlk (some (.int (((((q1 + (64 : Int64)) - (1 : Int64)).toUInt64 >>> ((6 : Int32) &&& 0x3f).toInt64.toUInt64).toInt64).toInt32))) (own_hv Bd.returns) ?_ (by decide) (by decide) (fun fs hr => r1 _ (retOut X0 hx Bd.returns rfl (Or.inl ⟨rfl, Or.inl rfl, _, rfl⟩) (hb hby d1_11) hr)))
    rw [e0]
    refine ⟨?_, N0, rfl⟩
    rfl
  exact key _ _ id (fun t k => castTop (ef_1 m q1) k)
theorem pn_1 : plainName "com/example/mexpile/mexpile/engine/MexWordsForPinLaw" = true := by first | (simp [plainName, overriddenIn]; done) | decide +kernel
theorem pd_0 : parseMethodDescriptor "(J)I" = some ⟨[.long], some .int⟩ := by decide +kernel
theorem ef_0 (m : MethodId) (x0 : Int64) : entryFrame m #[(.long x0)] maxLocals = mkF m 0 #[.val (.long x0), .second, .unset, .unset, .unset, .unset, .unset] [] := by first | (simp [entryFrame, mkF, argsToLocals, Value.category, maxLocals]; done) | rfl
def Q0 (Z : State) (p0s : Int64) (h0 : Heap) (n0 : Nat) (v : Option Value) (h : Heap) (L : List Loc) : Prop := v = some (.int (1 : Int32)) ∧ Fr n0 L
set_option maxRecDepth 65536 in
set_option maxHeartbeats 40000000 in
theorem rm0 (l : Launch) (Z : State) (a0 : Array Value) (hw : ∀ d ∈ tables_1, d.before a0 Z = true) (ws : List Jvm.Cond) (p0s : Int64) (h0 : Heap) (n0 : Nat) (Z0 : n0 ≤ h0.size) :
    MetFree l x (head1 (Jvm.Cond.code x code maxLocals ret :: ws) room_1) (fun a U => a = #[(.long p0s)] ∧ Z.Warmed39 U.vm ∧ U.heap = h0) (fun _ _ _ _ _ => True) (fun _ U o U' => ∃ v L, o = .returned v ∧ Q0 Z p0s h0 n0 v U'.heap L ∧ FrameEnd U o U' L 0 0) := by
  refine MetFree.of_bodySF (plainFor_of_name pn_1) hisR ?_
  intro p e s m args below meth c s₁ Bd hml0 hP hK
  obtain ⟨rfl, hZ, hh⟩ := hP
  have hx := Bd.exec
  have hby := Bd.bytes
  have hml : c.maxLocals = 7 := hml0
  have hown : s.vm.findClass "com/example/mexpile/mexpile/engine/MexWordsForPinLaw" = some m.cls := findClass_of_methodNamed Bd.named
  have hnm := (name_of_methodNamed Bd.named Bd.method).1
  have hlk : meth.locks = false := BodyLoose.notSynchronized Bd
  have X0 : Stand p l e room_1 s m #[(.long p0s)] below meth c s₁ [] 0 0 := Stand.of_body Bd
  have e0 : s₁.heap = h0 := by rw [← hh, Bd.state]; rfl
  have N0 := Fr.nil n0
  have K0 : Keep h0 h0 [] := Keep.refl h0 _
  have key : ∀ (F0 : State) (G : Prop), (own_G p e below s F0 (Q0 Z p0s h0 n0) 0 0 → G) → own_R p.tables e below F0 (s₁.setTop (mkF m 0 #[.val (.long p0s), .second, .unset, .unset, .unset, .unset, .unset] [])) → G := by
    intro F0 G hG r0
    have r2 : own_R p.tables e below F0 (s₁.setTop (mkF m 7 #[.val (.long p0s), .second, .val (.long (p0s &&& (68719476735 : Int64))), .second, .unset, .unset, .unset] [(.long (p0s &&& (68719476735 : Int64)))])) := fun t k => by
      refine r0 t ?_
      show Steps p.tables e below (s₁.setTop (mkF m 0 #[.val (.long p0s), .second, .unset, .unset, .unset, .unset, .unset] [])) _
      refine XS.lloadN X0.here hx rfl (hb hby at_0) rfl ?_
      show Steps p.tables e below (s₁.setTop (mkF m 1 #[.val (.long p0s), .second, .unset, .unset, .unset, .unset, .unset] [(.long p0s)])) _
      refine X0.ldc2J hx hown (mvT hZ (hw _ (List.mem_of_getElem? (i := 0) rfl))) rfl (hb hby at_1) ?_
      show Steps p.tables e below (s₁.setTop (mkF m 4 #[.val (.long p0s), .second, .unset, .unset, .unset, .unset, .unset] [(.long (68719476735 : Int64)), (.long p0s)])) _
      refine XS.land X0.here hx rfl (hb hby at_4) rfl ?_
      show Steps p.tables e below (s₁.setTop (mkF m 5 #[.val (.long p0s), .second, .unset, .unset, .unset, .unset, .unset] [(.long (p0s &&& (68719476735 : Int64)))])) _
      refine XS.lstoreN X0.here hx rfl (hb hby at_5) rfl (l' := #[.val (.long p0s), .second, .val (.long (p0s &&& (68719476735 : Int64))), .second, .unset, .unset, .unset]) rfl ?_
      show Steps p.tables e below (s₁.setTop (mkF m 6 #[.val (.long p0s), .second, .val (.long (p0s &&& (68719476735 : Int64))), .second, .unset, .unset, .unset] [])) _
      refine XS.lloadN X0.here hx rfl (hb hby at_6) rfl ?_
      exact k
    obtain ⟨_, _, ⟨T3, L3, k3, n3⟩, -, X3, ⟨Lc3, hQ3, l3, y3, z3⟩, st3⟩ := Jvm.LawKit.callS X0 hx (y := (⟨"com/example/mexpile/mexpile/engine/Mex", "wordsFor", "(J)I"⟩ : MethodName)) hown (mvT hZ (hw _ (List.mem_of_getElem? (i := 1) rfl))) (mvT hZ (hw _ (List.mem_of_getElem? (i := 2) rfl))) (mvT hZ (hw _ (List.mem_of_getElem? (i := 3) rfl))) (mvT hZ (hw _ (List.mem_of_getElem? (i := 4) rfl))) (by decide) (backOf (W := 0) (rm1 l Z a0 hw [] (p0s &&& (68719476735 : Int64)) h0 n0 Z0 ) hZ (hw _ (List.mem_of_getElem? (i := 4) rfl)) (hw _ (List.mem_of_getElem? (i := 3) rfl)) (by decide) (by decide)) (g := (mkF m 7 #[.val (.long p0s), .second, .val (.long (p0s &&& (68719476735 : Int64))), .second, .unset, .unset, .unset] [(.long (p0s &&& (68719476735 : Int64)))])) rfl (by rw [hml]; rfl) (argsL := [(.long (p0s &&& (68719476735 : Int64)))]) (rest := []) (lenOf pd_0 rfl) rfl (by show 2 * 0 + _ ≤ _; exact Nat.le_of_eq rfl) (hb hby at_7) (fun _ _ => ⟨rfl, e0, (by decide : 0 + 0 ≤ _), (by decide : 0 + 0 ≤ _)⟩)
    dsimp only [Pt.U, Pt.locs, Pt.cells, Pt.slots] at X3 l3 y3 z3 st3 hQ3
    subst l3 y3 z3
    obtain ⟨rfl, N3q, I3_0⟩ := hQ3
    have N3 := Fr.app N0 N3q
    have r3 : own_R p.tables e below F0 (T3.setTop (mkF m 10 #[.val (.long p0s), .second, .val (.long (p0s &&& (68719476735 : Int64))), .second, .unset, .unset, .unset] [(.int ((((((p0s &&& (68719476735 : Int64)) + (64 : Int64)) - (1 : Int64)).toUInt64 >>> ((6 : Int32) &&& 0x3f).toInt64.toUInt64).toInt64).toInt32))])) := fun t k => r2 t (st3 t k)
    obtain ⟨z4, hz4⟩ : ∃ z : Int32, z = ((((((p0s &&& (68719476735 : Int64)) + (64 : Int64)) - (1 : Int64)).toUInt64 >>> ((6 : Int32) &&& 0x3f).toInt64.toUInt64).toInt64).toInt32) := ⟨_, rfl⟩
    have r5 : own_R p.tables e below F0 (T3.setTop (mkF m 21 #[.val (.long p0s), .second, .val (.long (p0s &&& (68719476735 : Int64))), .second, .val (.int z4), .val (.long (z4.toInt64)), .second] [(.int (lcmpW (z4.toInt64) (0 : Int64)))])) := fun t k => by
      refine r3 t ?_
      show Steps p.tables e below (T3.setTop (mkF m 10 #[.val (.long p0s), .second, .val (.long (p0s &&& (68719476735 : Int64))), .second, .unset, .unset, .unset] [(.int ((((((p0s &&& (68719476735 : Int64)) + (64 : Int64)) - (1 : Int64)).toUInt64 >>> ((6 : Int32) &&& 0x3f).toInt64.toUInt64).toInt64).toInt32))])) _
      refine XS.istore X3.here hx rfl (hb hby at_10) (x := z4) (rest := []) (by subst hz4; rfl) (l' := #[.val (.long p0s), .second, .val (.long (p0s &&& (68719476735 : Int64))), .second, .val (.int z4), .unset, .unset]) rfl ?_
      show Steps p.tables e below (T3.setTop (mkF m 12 #[.val (.long p0s), .second, .val (.long (p0s &&& (68719476735 : Int64))), .second, .val (.int z4), .unset, .unset] [])) _
      refine XS.iload X3.here hx rfl (hb hby at_12) rfl ?_
      show Steps p.tables e below (T3.setTop (mkF m 14 #[.val (.long p0s), .second, .val (.long (p0s &&& (68719476735 : Int64))), .second, .val (.int z4), .unset, .unset] [(.int z4)])) _
      refine XS.i2l X3.here hx rfl (hb hby at_14) rfl ?_
      show Steps p.tables e below (T3.setTop (mkF m 15 #[.val (.long p0s), .second, .val (.long (p0s &&& (68719476735 : Int64))), .second, .val (.int z4), .unset, .unset] [(.long (z4.toInt64))])) _
      refine XS.lstore X3.here hx rfl (hb hby at_15) rfl (l' := #[.val (.long p0s), .second, .val (.long (p0s &&& (68719476735 : Int64))), .second, .val (.int z4), .val (.long (z4.toInt64)), .second]) rfl ?_
      show Steps p.tables e below (T3.setTop (mkF m 17 #[.val (.long p0s), .second, .val (.long (p0s &&& (68719476735 : Int64))), .second, .val (.int z4), .val (.long (z4.toInt64)), .second] [])) _
      refine XS.lload X3.here hx rfl (hb hby at_17) rfl ?_
      show Steps p.tables e below (T3.setTop (mkF m 19 #[.val (.long p0s), .second, .val (.long (p0s &&& (68719476735 : Int64))), .second, .val (.int z4), .val (.long (z4.toInt64)), .second] [(.long (z4.toInt64))])) _
      refine XS.lconst X3.here hx rfl (hb hby at_19) ?_
      show Steps p.tables e below (T3.setTop (mkF m 20 #[.val (.long p0s), .second, .val (.long (p0s &&& (68719476735 : Int64))), .second, .val (.int z4), .val (.long (z4.toInt64)), .second] [(.long (0 : Int64)), (.long (z4.toInt64))])) _
      refine XS.lcmp X3.here hx rfl (hb hby at_20) rfl ?_
      exact k
    by_cases hc6 : (z4.toInt64) < (0 : Int64)
    · have r7 : own_R p.tables e below F0 (T3.setTop (mkF m 25 #[.val (.long p0s), .second, .val (.long (p0s &&& (68719476735 : Int64))), .second, .val (.int z4), .val (.long (z4.toInt64)), .second] [(.int (0 : Int32))])) := fun t k => by
        refine r5 t ?_
        show Steps p.tables e below (T3.setTop (mkF m 21 #[.val (.long p0s), .second, .val (.long (p0s &&& (68719476735 : Int64))), .second, .val (.int z4), .val (.long (z4.toInt64)), .second] [(.int (lcmpW (z4.toInt64) (0 : Int64)))])) _
        refine XS.ifNo X3.here hx rfl (hb hby at_21) rfl (own_l_lt hc6).2 ?_
        show Steps p.tables e below (T3.setTop (mkF m 24 #[.val (.long p0s), .second, .val (.long (p0s &&& (68719476735 : Int64))), .second, .val (.int z4), .val (.long (z4.toInt64)), .second] [])) _
        refine XS.iconst X3.here hx rfl (hb hby at_24) ?_
        exact k
      exfalso
      have := rng32 z4
      have := rng64 p0s
      have := (show (68719476735 : Int64).toInt = 68719476735 from by decide)
      have := rng64 (p0s &&& (68719476735 : Int64))
      have := own_maskL p0s (68719476735 : Int64) 36 68719476736 (by decide) (by decide) (by decide)
      have := (show (64 : Int64).toInt = 64 from by decide)
      have := rng64 ((p0s &&& (68719476735 : Int64)) + (64 : Int64))
      have := c_ladd (p0s &&& (68719476735 : Int64)) (64 : Int64)
      have := (show (1 : Int64).toInt = 1 from by decide)
      have := rng64 (((p0s &&& (68719476735 : Int64)) + (64 : Int64)) - (1 : Int64))
      have := c_lsub ((p0s &&& (68719476735 : Int64)) + (64 : Int64)) (1 : Int64)
      have := (show (6 : Int32).toInt = 6 from by decide)
      have := rng64 (((((p0s &&& (68719476735 : Int64)) + (64 : Int64)) - (1 : Int64)).toUInt64 >>> ((6 : Int32) &&& 0x3f).toInt64.toUInt64).toInt64)
      have := own_lushr (((p0s &&& (68719476735 : Int64)) + (64 : Int64)) - (1 : Int64)) (6 : Int32) 6 64 (by decide) (by decide) (by decide)
      have := rng32 ((((((p0s &&& (68719476735 : Int64)) + (64 : Int64)) - (1 : Int64)).toUInt64 >>> ((6 : Int32) &&& 0x3f).toInt64.toUInt64).toInt64).toInt32)
      have := c_l2i (((((p0s &&& (68719476735 : Int64)) + (64 : Int64)) - (1 : Int64)).toUInt64 >>> ((6 : Int32) &&& 0x3f).toInt64.toUInt64).toInt64)
      have := own_eq32 hz4
      have := rng64 (z4.toInt64)
      have := c_i2l z4
      have := (show (0 : Int64).toInt = 0 from by decide)
      have := own_lt64 hc6
      omega
    · have r8 : own_R p.tables e below F0 (T3.setTop (mkF m 34 #[.val (.long p0s), .second, .val (.long (p0s &&& (68719476735 : Int64))), .second, .val (.int z4), .val (.long (z4.toInt64)), .second] [(.int (lcmpW ((z4.toInt64) * (64 : Int64)) (p0s &&& (68719476735 : Int64))))])) := fun t k => by
        refine r5 t ?_
        show Steps p.tables e below (T3.setTop (mkF m 21 #[.val (.long p0s), .second, .val (.long (p0s &&& (68719476735 : Int64))), .second, .val (.int z4), .val (.long (z4.toInt64)), .second] [(.int (lcmpW (z4.toInt64) (0 : Int64)))])) _
        refine XS.ifYes X3.here hx rfl (pc0 := 21) (pc' := 26) rfl (hb hby at_21) rfl (own_l_nlt hc6).2 (by decide) (by decide) ?_
        show Steps p.tables e below (T3.setTop (mkF m 26 #[.val (.long p0s), .second, .val (.long (p0s &&& (68719476735 : Int64))), .second, .val (.int z4), .val (.long (z4.toInt64)), .second] [])) _
        refine XS.lload X3.here hx rfl (hb hby at_26) rfl ?_
        show Steps p.tables e below (T3.setTop (mkF m 28 #[.val (.long p0s), .second, .val (.long (p0s &&& (68719476735 : Int64))), .second, .val (.int z4), .val (.long (z4.toInt64)), .second] [(.long (z4.toInt64))])) _
        refine X3.ldc2J hx hown (mvT hZ (hw _ (List.mem_of_getElem? (i := 6) rfl))) rfl (hb hby at_28) ?_
        show Steps p.tables e below (T3.setTop (mkF m 31 #[.val (.long p0s), .second, .val (.long (p0s &&& (68719476735 : Int64))), .second, .val (.int z4), .val (.long (z4.toInt64)), .second] [(.long (64 : Int64)), (.long (z4.toInt64))])) _
        refine XS.lmul X3.here hx rfl (hb hby at_31) rfl ?_
        show Steps p.tables e below (T3.setTop (mkF m 32 #[.val (.long p0s), .second, .val (.long (p0s &&& (68719476735 : Int64))), .second, .val (.int z4), .val (.long (z4.toInt64)), .second] [(.long ((z4.toInt64) * (64 : Int64)))])) _
        refine XS.lloadN X3.here hx rfl (hb hby at_32) rfl ?_
        show Steps p.tables e below (T3.setTop (mkF m 33 #[.val (.long p0s), .second, .val (.long (p0s &&& (68719476735 : Int64))), .second, .val (.int z4), .val (.long (z4.toInt64)), .second] [(.long (p0s &&& (68719476735 : Int64))), (.long ((z4.toInt64) * (64 : Int64)))])) _
        refine XS.lcmp X3.here hx rfl (hb hby at_33) rfl ?_
        exact k
      by_cases hc9 : ((z4.toInt64) * (64 : Int64)) < (p0s &&& (68719476735 : Int64))
      · have r10 : own_R p.tables e below F0 (T3.setTop (mkF m 38 #[.val (.long p0s), .second, .val (.long (p0s &&& (68719476735 : Int64))), .second, .val (.int z4), .val (.long (z4.toInt64)), .second] [(.int (0 : Int32))])) := fun t k => by
          refine r8 t ?_
          show Steps p.tables e below (T3.setTop (mkF m 34 #[.val (.long p0s), .second, .val (.long (p0s &&& (68719476735 : Int64))), .second, .val (.int z4), .val (.long (z4.toInt64)), .second] [(.int (lcmpW ((z4.toInt64) * (64 : Int64)) (p0s &&& (68719476735 : Int64))))])) _
          refine XS.ifNo X3.here hx rfl (hb hby at_34) rfl (own_l_lt hc9).2 ?_
          show Steps p.tables e below (T3.setTop (mkF m 37 #[.val (.long p0s), .second, .val (.long (p0s &&& (68719476735 : Int64))), .second, .val (.int z4), .val (.long (z4.toInt64)), .second] [])) _
          refine XS.iconst X3.here hx rfl (hb hby at_37) ?_
          exact k
        exfalso
        have := rng32 z4
        have := rng64 p0s
        have := (show (68719476735 : Int64).toInt = 68719476735 from by decide)
        have := rng64 (p0s &&& (68719476735 : Int64))
        have := own_maskL p0s (68719476735 : Int64) 36 68719476736 (by decide) (by decide) (by decide)
        have := (show (64 : Int64).toInt = 64 from by decide)
        have := rng64 ((p0s &&& (68719476735 : Int64)) + (64 : Int64))
        have := c_ladd (p0s &&& (68719476735 : Int64)) (64 : Int64)
        have := (show (1 : Int64).toInt = 1 from by decide)
        have := rng64 (((p0s &&& (68719476735 : Int64)) + (64 : Int64)) - (1 : Int64))
        have := c_lsub ((p0s &&& (68719476735 : Int64)) + (64 : Int64)) (1 : Int64)
        have := (show (6 : Int32).toInt = 6 from by decide)
        have := rng64 (((((p0s &&& (68719476735 : Int64)) + (64 : Int64)) - (1 : Int64)).toUInt64 >>> ((6 : Int32) &&& 0x3f).toInt64.toUInt64).toInt64)
        have := own_lushr (((p0s &&& (68719476735 : Int64)) + (64 : Int64)) - (1 : Int64)) (6 : Int32) 6 64 (by decide) (by decide) (by decide)
        have := rng32 ((((((p0s &&& (68719476735 : Int64)) + (64 : Int64)) - (1 : Int64)).toUInt64 >>> ((6 : Int32) &&& 0x3f).toInt64.toUInt64).toInt64).toInt32)
        have := c_l2i (((((p0s &&& (68719476735 : Int64)) + (64 : Int64)) - (1 : Int64)).toUInt64 >>> ((6 : Int32) &&& 0x3f).toInt64.toUInt64).toInt64)
        have := own_eq32 hz4
        have := rng64 (z4.toInt64)
        have := c_i2l z4
        have := (show (0 : Int64).toInt = 0 from by decide)
        have := rng64 ((z4.toInt64) * (64 : Int64))
        have := own_lmulc (z4.toInt64) (64 : Int64) (64) (by decide)
        have := own_nlt64 hc6
        have := own_lt64 hc9
        omega
      · have r11 : own_R p.tables e below F0 (T3.setTop (mkF m 43 #[.val (.long p0s), .second, .val (.long (p0s &&& (68719476735 : Int64))), .second, .val (.int z4), .val (.long (z4.toInt64)), .second] [(.int (lcmpW (z4.toInt64) (0 : Int64)))])) := fun t k => by
          refine r8 t ?_
          show Steps p.tables e below (T3.setTop (mkF m 34 #[.val (.long p0s), .second, .val (.long (p0s &&& (68719476735 : Int64))), .second, .val (.int z4), .val (.long (z4.toInt64)), .second] [(.int (lcmpW ((z4.toInt64) * (64 : Int64)) (p0s &&& (68719476735 : Int64))))])) _
          refine XS.ifYes X3.here hx rfl (pc0 := 34) (pc' := 39) rfl (hb hby at_34) rfl (own_l_nlt hc9).2 (by decide) (by decide) ?_
          show Steps p.tables e below (T3.setTop (mkF m 39 #[.val (.long p0s), .second, .val (.long (p0s &&& (68719476735 : Int64))), .second, .val (.int z4), .val (.long (z4.toInt64)), .second] [])) _
          refine XS.lload X3.here hx rfl (hb hby at_39) rfl ?_
          show Steps p.tables e below (T3.setTop (mkF m 41 #[.val (.long p0s), .second, .val (.long (p0s &&& (68719476735 : Int64))), .second, .val (.int z4), .val (.long (z4.toInt64)), .second] [(.long (z4.toInt64))])) _
          refine XS.lconst X3.here hx rfl (hb hby at_41) ?_
          show Steps p.tables e below (T3.setTop (mkF m 42 #[.val (.long p0s), .second, .val (.long (p0s &&& (68719476735 : Int64))), .second, .val (.int z4), .val (.long (z4.toInt64)), .second] [(.long (0 : Int64)), (.long (z4.toInt64))])) _
          refine XS.lcmp X3.here hx rfl (hb hby at_42) rfl ?_
          exact k
        by_cases hc12 : (0 : Int64) < (z4.toInt64)
        · have r13 : own_R p.tables e below F0 (T3.setTop (mkF m 56 #[.val (.long p0s), .second, .val (.long (p0s &&& (68719476735 : Int64))), .second, .val (.int z4), .val (.long (z4.toInt64)), .second] [(.int (lcmpW (((z4.toInt64) - (1 : Int64)) * (64 : Int64)) (p0s &&& (68719476735 : Int64))))])) := fun t k => by
            refine r11 t ?_
            show Steps p.tables e below (T3.setTop (mkF m 43 #[.val (.long p0s), .second, .val (.long (p0s &&& (68719476735 : Int64))), .second, .val (.int z4), .val (.long (z4.toInt64)), .second] [(.int (lcmpW (z4.toInt64) (0 : Int64)))])) _
            refine XS.ifNo X3.here hx rfl (hb hby at_43) rfl (own_l_gt hc12).2 ?_
            show Steps p.tables e below (T3.setTop (mkF m 46 #[.val (.long p0s), .second, .val (.long (p0s &&& (68719476735 : Int64))), .second, .val (.int z4), .val (.long (z4.toInt64)), .second] [])) _
            refine XS.lload X3.here hx rfl (hb hby at_46) rfl ?_
            show Steps p.tables e below (T3.setTop (mkF m 48 #[.val (.long p0s), .second, .val (.long (p0s &&& (68719476735 : Int64))), .second, .val (.int z4), .val (.long (z4.toInt64)), .second] [(.long (z4.toInt64))])) _
            refine XS.lconst X3.here hx rfl (hb hby at_48) ?_
            show Steps p.tables e below (T3.setTop (mkF m 49 #[.val (.long p0s), .second, .val (.long (p0s &&& (68719476735 : Int64))), .second, .val (.int z4), .val (.long (z4.toInt64)), .second] [(.long (1 : Int64)), (.long (z4.toInt64))])) _
            refine XS.lsub X3.here hx rfl (hb hby at_49) rfl ?_
            show Steps p.tables e below (T3.setTop (mkF m 50 #[.val (.long p0s), .second, .val (.long (p0s &&& (68719476735 : Int64))), .second, .val (.int z4), .val (.long (z4.toInt64)), .second] [(.long ((z4.toInt64) - (1 : Int64)))])) _
            refine X3.ldc2J hx hown (mvT hZ (hw _ (List.mem_of_getElem? (i := 6) rfl))) rfl (hb hby at_50) ?_
            show Steps p.tables e below (T3.setTop (mkF m 53 #[.val (.long p0s), .second, .val (.long (p0s &&& (68719476735 : Int64))), .second, .val (.int z4), .val (.long (z4.toInt64)), .second] [(.long (64 : Int64)), (.long ((z4.toInt64) - (1 : Int64)))])) _
            refine XS.lmul X3.here hx rfl (hb hby at_53) rfl ?_
            show Steps p.tables e below (T3.setTop (mkF m 54 #[.val (.long p0s), .second, .val (.long (p0s &&& (68719476735 : Int64))), .second, .val (.int z4), .val (.long (z4.toInt64)), .second] [(.long (((z4.toInt64) - (1 : Int64)) * (64 : Int64)))])) _
            refine XS.lloadN X3.here hx rfl (hb hby at_54) rfl ?_
            show Steps p.tables e below (T3.setTop (mkF m 55 #[.val (.long p0s), .second, .val (.long (p0s &&& (68719476735 : Int64))), .second, .val (.int z4), .val (.long (z4.toInt64)), .second] [(.long (p0s &&& (68719476735 : Int64))), (.long (((z4.toInt64) - (1 : Int64)) * (64 : Int64)))])) _
            refine XS.lcmp X3.here hx rfl (hb hby at_55) rfl ?_
            exact k
          by_cases hc14 : (((z4.toInt64) - (1 : Int64)) * (64 : Int64)) < (p0s &&& (68719476735 : Int64))
          · have r15 : own_R p.tables e below F0 (T3.setTop (mkF m 62 #[.val (.long p0s), .second, .val (.long (p0s &&& (68719476735 : Int64))), .second, .val (.int z4), .val (.long (z4.toInt64)), .second] [(.int (1 : Int32))])) := fun t k => by
              refine r13 t ?_
              show Steps p.tables e below (T3.setTop (mkF m 56 #[.val (.long p0s), .second, .val (.long (p0s &&& (68719476735 : Int64))), .second, .val (.int z4), .val (.long (z4.toInt64)), .second] [(.int (lcmpW (((z4.toInt64) - (1 : Int64)) * (64 : Int64)) (p0s &&& (68719476735 : Int64))))])) _
              refine XS.ifYes X3.here hx rfl (pc0 := 56) (pc' := 61) rfl (hb hby at_56) rfl (own_l_lt hc14).1 (by decide) (by decide) ?_
              show Steps p.tables e below (T3.setTop (mkF m 61 #[.val (.long p0s), .second, .val (.long (p0s &&& (68719476735 : Int64))), .second, .val (.int z4), .val (.long (z4.toInt64)), .second] [])) _
              refine XS.iconst X3.here hx rfl (hb hby at_61) ?_
              exact k
            refine hG (own_fin X3 hlk (some (.int (nar .boolean (1 : Int32)))) (own_hv Bd.returns) ?_ (by decide) (by decide) (fun fs hr => r15 _ (retN X3 hx (t := .boolean) Bd.returns (by simp) (hb hby at_62) hr)))
            rw [I3_0]
            exact ⟨rfl, N3⟩
          · have r16 : own_R p.tables e below F0 (T3.setTop (mkF m 60 #[.val (.long p0s), .second, .val (.long (p0s &&& (68719476735 : Int64))), .second, .val (.int z4), .val (.long (z4.toInt64)), .second] [(.int (0 : Int32))])) := fun t k => by
              refine r13 t ?_
              show Steps p.tables e below (T3.setTop (mkF m 56 #[.val (.long p0s), .second, .val (.long (p0s &&& (68719476735 : Int64))), .second, .val (.int z4), .val (.long (z4.toInt64)), .second] [(.int (lcmpW (((z4.toInt64) - (1 : Int64)) * (64 : Int64)) (p0s &&& (68719476735 : Int64))))])) _
              refine XS.ifNo X3.here hx rfl (hb hby at_56) rfl (own_l_nlt hc14).1 ?_
              show Steps p.tables e below (T3.setTop (mkF m 59 #[.val (.long p0s), .second, .val (.long (p0s &&& (68719476735 : Int64))), .second, .val (.int z4), .val (.long (z4.toInt64)), .second] [])) _
              refine XS.iconst X3.here hx rfl (hb hby at_59) ?_
              exact k
            exfalso
            have := rng32 z4
            have := rng64 p0s
            have := (show (68719476735 : Int64).toInt = 68719476735 from by decide)
            have := rng64 (p0s &&& (68719476735 : Int64))
            have := own_maskL p0s (68719476735 : Int64) 36 68719476736 (by decide) (by decide) (by decide)
            have := (show (64 : Int64).toInt = 64 from by decide)
            have := rng64 ((p0s &&& (68719476735 : Int64)) + (64 : Int64))
            have := c_ladd (p0s &&& (68719476735 : Int64)) (64 : Int64)
            have := (show (1 : Int64).toInt = 1 from by decide)
            have := rng64 (((p0s &&& (68719476735 : Int64)) + (64 : Int64)) - (1 : Int64))
            have := c_lsub ((p0s &&& (68719476735 : Int64)) + (64 : Int64)) (1 : Int64)
            have := (show (6 : Int32).toInt = 6 from by decide)
            have := rng64 (((((p0s &&& (68719476735 : Int64)) + (64 : Int64)) - (1 : Int64)).toUInt64 >>> ((6 : Int32) &&& 0x3f).toInt64.toUInt64).toInt64)
            have := own_lushr (((p0s &&& (68719476735 : Int64)) + (64 : Int64)) - (1 : Int64)) (6 : Int32) 6 64 (by decide) (by decide) (by decide)
            have := rng32 ((((((p0s &&& (68719476735 : Int64)) + (64 : Int64)) - (1 : Int64)).toUInt64 >>> ((6 : Int32) &&& 0x3f).toInt64.toUInt64).toInt64).toInt32)
            have := c_l2i (((((p0s &&& (68719476735 : Int64)) + (64 : Int64)) - (1 : Int64)).toUInt64 >>> ((6 : Int32) &&& 0x3f).toInt64.toUInt64).toInt64)
            have := own_eq32 hz4
            have := rng64 (z4.toInt64)
            have := c_i2l z4
            have := (show (0 : Int64).toInt = 0 from by decide)
            have := rng64 ((z4.toInt64) * (64 : Int64))
            have := own_lmulc (z4.toInt64) (64 : Int64) (64) (by decide)
            have := rng64 ((z4.toInt64) - (1 : Int64))
            have := c_lsub (z4.toInt64) (1 : Int64)
            have := rng64 (((z4.toInt64) - (1 : Int64)) * (64 : Int64))
            have := own_lmulc ((z4.toInt64) - (1 : Int64)) (64 : Int64) (64) (by decide)
            have := own_nlt64 hc6
            have := own_nlt64 hc9
            have := own_lt64 hc12
            have := own_nlt64 hc14
            omega
        · have r17 : own_R p.tables e below F0 (T3.setTop (mkF m 62 #[.val (.long p0s), .second, .val (.long (p0s &&& (68719476735 : Int64))), .second, .val (.int z4), .val (.long (z4.toInt64)), .second] [(.int (1 : Int32))])) := fun t k => by
            refine r11 t ?_
            show Steps p.tables e below (T3.setTop (mkF m 43 #[.val (.long p0s), .second, .val (.long (p0s &&& (68719476735 : Int64))), .second, .val (.int z4), .val (.long (z4.toInt64)), .second] [(.int (lcmpW (z4.toInt64) (0 : Int64)))])) _
            refine XS.ifYes X3.here hx rfl (pc0 := 43) (pc' := 61) rfl (hb hby at_43) rfl (own_l_ngt hc12).2 (by decide) (by decide) ?_
            show Steps p.tables e below (T3.setTop (mkF m 61 #[.val (.long p0s), .second, .val (.long (p0s &&& (68719476735 : Int64))), .second, .val (.int z4), .val (.long (z4.toInt64)), .second] [])) _
            refine XS.iconst X3.here hx rfl (hb hby at_61) ?_
            exact k
          refine hG (own_fin X3 hlk (some (.int (nar .boolean (1 : Int32)))) (own_hv Bd.returns) ?_ (by decide) (by decide) (fun fs hr => r17 _ (retN X3 hx (t := .boolean) Bd.returns (by simp) (hb hby at_62) hr)))
          rw [I3_0]
          exact ⟨rfl, N3⟩
  exact key _ _ id (fun t k => castTop (ef_0 m p0s) k)
set_option maxRecDepth 65536 in
set_option maxHeartbeats 40000000 in
theorem comes_1 {Post : Tables → Env → Array Value → State → Outcome → State → Prop} (hpost : ∀ tb e args s v u, (limb_1_1.after args s (.returned v) u = true ∧ limb_1_2.after args s (.returned v) u = true ∧ True) → FrameEnd s (.returned v) u (Jvm.fieldLocs frame_1_writes args s ++ Jvm.arrayLocs frame_1_arrays args s ++ Jvm.staticLocs frame_1_statics s) 0 0 → Post tb e args s (.returned v) u) :
    ArmFor flags0 classFile x code maxLocals ret World_1 tables_1 room_1 Calls_1 rest_1 Pre_1 Post := by
  intro l hfl _ _ p e ha hc hk s m args below hf hA hF happ hP
  obtain ⟨hcalls, hrest, hpre⟩ := hP
  obtain ⟨-, -, -, hnamed, -, -, -, hat⟩ := (Spec.applies_iff hf).mp happ
  obtain ⟨hg, hn⟩ := and_e (Cond.before_iff.mp (show (Jvm.Cond.and given_1 narrow_1).before args s = true from hpre))
  obtain ⟨gw1, gw2⟩ := and_e hg
  obtain ⟨w0, rfl⟩ : ∃ w0 : Value, args = #[w0] := by
    have hs : args.size = 1 := by simpa [Cond.value, given_1] using gw1
    obtain ⟨L⟩ := args
    match L, hs with
    | [w0], _ => exact ⟨w0, rfl⟩
  have hw := fun d (hd : d ∈ tables_1) => atoms_spec (ws := Jvm.Cond.code x code maxLocals ret :: tables_1) hat d (List.mem_cons_of_mem _ hd)
  have hfit : Fit s := fun {y c} hc i hi => by
    obtain ⟨ha, rfl⟩ := Array.getElem?_eq_some_iff.mp hc
    have q := List.all_eq_true.mp ((Array.all_eq_true_iff_forall_mem.mp hF) _ (Array.getElem_mem ha)) i (List.mem_range.mpr hi)
    simpa [Array.getElem?_eq_getElem hi] using q
  obtain ⟨i0, ei0⟩ := isL_v gw2
  obtain rfl : w0 = (.long i0) := Option.some.inj ei0
  obtain ⟨n, o, h1, h2, h3, _, L, rfl, ⟨rfl, N⟩, hq⟩ := rm0 l s _ hw tables_1 i0  s.heap s.heap.size (Nat.le_refl _)  p e ha hc hk s m _ below hf ((Spec.applies_iff_loose hf).mp happ).1 ⟨rfl, State.Warmed39.refl s, rfl⟩ trivial
  refine ⟨n, _, h1, h2, h3, hpost _ _ _ _ _ _ ⟨Cond.after_iff.mpr rfl, Cond.after_iff.mpr (eq_i res_at (Term.int_eval (1)) rfl), trivial⟩ ⟨hq.1, hq.2.1, (hq.2.2.sift fun y hy => Or.inr (N y hy)).mono (by decide) (by decide)⟩⟩
theorem main_1_1 : Claimed_1_1 := comes_1 fun _ _ _ _ _ _ h hF => ⟨h.1, hF⟩
theorem main_1_2 : Claimed_1_2 := comes_1 fun _ _ _ _ _ _ h hF => ⟨h.2.1, hF⟩
end Jvm.Pilot.@@N@@
namespace Jvm.Pilot.@@N@@
open Jvm Jvm.ClassFile Sem Op Lib Jvm.Free Jvm.Stand Jvm.Pilot.@@N@@.Jvm.D
/-! MADE BY PROGRAM (witnessworld.py) out of the Statement's table words and the real class files: 9 classes; the members and pool entries that the words name. The judged class is class 1, her method 1. -/
namespace start1
open Jvm.ClassFile
def u (s : String) : CpInfo := .utf8 (stringToUtf16 s)
/-- a pool by its gaps: so many unusable entries, then the entry; so many at the end -/
def gap : Nat → List CpInfo → List CpInfo
  | 0, r => r
  | n + 1, r => .unusable :: gap n r
def poolList (es : List (Nat × CpInfo)) (last : Nat) : List CpInfo := es.foldr (fun e r => gap e.1 (e.2 :: r)) (gap last [])
def pool (es : List (Nat × CpInfo)) (last : Nat) : Array CpInfo := ⟨poolList es last⟩
def fileOf (pool : Array CpInfo) (this : Nat) (attrs : Array Attribute := #[]) (ms : Array MethodInfo := #[]) (fl : Nat := 33) (sup : Nat := 0) (ifs : Array Nat := #[]) (fds : Array FieldInfo := #[]) : ClassFile where
  minorVersion := 0
  majorVersion := 65
  constantPool := pool
  accessFlags := fl
  thisClass := this
  superClass := sup
  interfaces := ifs
  fields := fds
  methods := ms
  attributes := attrs
def plain (name : String) (sup : Option ClassId) : Class where
  name := name
  kind := .ordinary
  loader := none
  accessFlags := 33
  super := sup
  interfaces := #[]
  cf := none
  fields := #[]
  methods := #[]
  instanceTypes := #[]
  staticTypes := #[]
  resolved := #[]
  callSites := []
  init := .initialized
  statics := none
  mirror := none

def pool0 : Array CpInfo := pool [(5, u "<init>"), (0, u "()V"), (1, .class_ 10), (1, u "java/lang/Object")] 113

def k0m0 : Method := { name := "<init>", desc := "()V", sig := { parameters := [], returnType := none }, accessFlags := 1, code := none }
/-- java/lang/Object -/
def k0 : Class := { plain "java/lang/Object" none with
  accessFlags := 33
  interfaces := #[]
  cf := some (fileOf pool0 8 #[] #[{ accessFlags := 1, nameIndex := 5, descriptorIndex := 6, attributes := #[] }] 33 0 #[] #[])
  fields := #[]
  methods := #[k0m0]
  instanceTypes := #[]
  staticTypes := #[]
  resolved := Array.replicate 124 none
  statics := none }

def pool1 : Array CpInfo := pool [(2, .class_ 4), (1, u "java/lang/Object"), (0, u "<init>"), (0, u "()V"), (0, .long 68719476735), (1, .methodref 10 11), (0, .class_ 12), (0, .nameAndType 13 14), (0, u "com/example/mexpile/mexpile/engine/Mex"), (0, u "wordsFor"), (0, u "(J)I"), (0, .long 64), (1, .class_ 18), (0, u "com/example/mexpile/mexpile/engine/MexWordsForPinLaw"), (2, u "law"), (0, u "(J)Z")] 3

def k1m0 : Method := { name := "<init>", desc := "()V", sig := { parameters := [], returnType := none }, accessFlags := 1, code := none }
def k1c1 : Code := { maxStack := 4, maxLocals := 7, code := code, exceptionTable := #[], attributes := #[] }
def k1m1 : Method := { name := "law", desc := "(J)Z", sig := { parameters := [.long], returnType := some .boolean }, accessFlags := 9, code := some k1c1 }
/-- com/example/mexpile/mexpile/engine/MexWordsForPinLaw -/
def k1 : Class := { plain "com/example/mexpile/mexpile/engine/MexWordsForPinLaw" (some 0) with
  accessFlags := 49
  interfaces := #[]
  cf := some (fileOf pool1 17 #[] #[{ accessFlags := 1, nameIndex := 5, descriptorIndex := 6, attributes := #[] }, { accessFlags := 9, nameIndex := 21, descriptorIndex := 22, attributes := #[] }] 49 2 #[] #[])
  fields := #[]
  methods := #[k1m0, k1m1]
  instanceTypes := #[]
  staticTypes := #[]
  resolved := Array.replicate 26 none
  statics := none }

def pool2 : Array CpInfo := pool [(2, .class_ 4), (1, u "java/lang/Object"), (15, .class_ 22), (1, u "com/example/mexpile/mexpile/engine/Mex"), (0, u "largest"), (0, u "I"), (2, u "counts"), (0, u "[I"), (2, .long 64), (3, u "wordsFor"), (0, u "(J)I"), (4, u "absent"), (0, u "[[J"), (44, u "WORD_BITS"), (2, u "WORD_SHIFT")] 34

def k2c0 : Code := { maxStack := 4, maxLocals := 2, code := prog_19_method_8_code, exceptionTable := #[], attributes := #[] }
def k2m0 : Method := { name := "wordsFor", desc := "(J)I", sig := { parameters := [.long], returnType := some .int }, accessFlags := 8, code := some k2c0 }
/-- com/example/mexpile/mexpile/engine/Mex -/
def k2 : Class := { plain "com/example/mexpile/mexpile/engine/Mex" (some 0) with
  accessFlags := 49
  interfaces := #[]
  cf := some (fileOf pool2 20 #[] #[{ accessFlags := 8, nameIndex := 35, descriptorIndex := 36, attributes := #[] }] 49 2 #[] #[{ accessFlags := 26, nameIndex := 87, descriptorIndex := 24, attributes := #[] }, { accessFlags := 24, nameIndex := 90, descriptorIndex := 24, attributes := #[] }, { accessFlags := 18, nameIndex := 23, descriptorIndex := 24, attributes := #[] }, { accessFlags := 18, nameIndex := 27, descriptorIndex := 28, attributes := #[] }, { accessFlags := 18, nameIndex := 41, descriptorIndex := 42, attributes := #[] }])
  fields := #[{ name := "WORD_BITS", type := .int, accessFlags := 26, slot := 0, constantValue := 0 }, { name := "WORD_SHIFT", type := .int, accessFlags := 24, slot := 1, constantValue := 0 }, { name := "largest", type := .int, accessFlags := 18, slot := 0, constantValue := 0 }, { name := "counts", type := (.array .int), accessFlags := 18, slot := 1, constantValue := 0 }, { name := "absent", type := (.array (.array .long)), accessFlags := 18, slot := 2, constantValue := 0 }]
  methods := #[k2m0]
  instanceTypes := #[.int, (.array .int), (.array (.array .long))]
  staticTypes := #[.int, .int]
  resolved := Array.replicate 125 none
  statics := none }

def pool3 : Array CpInfo := pool [(1, u "java/lang/Cloneable"), (0, .class_ 1), (0, u "java/lang/Object"), (0, .class_ 3)] 3

/-- java/lang/Cloneable -/
def k3 : Class := { plain "java/lang/Cloneable" (some 0) with
  accessFlags := 1537
  interfaces := #[]
  cf := some (fileOf pool3 2 #[] #[] 1537 4 #[] #[])
  fields := #[]
  methods := #[]
  instanceTypes := #[]
  staticTypes := #[]
  resolved := Array.replicate 8 none
  statics := none }

def pool4 : Array CpInfo := pool [(1, u "java/io/Serializable"), (0, .class_ 1), (0, u "java/lang/Object"), (0, .class_ 3)] 3

/-- java/io/Serializable -/
def k4 : Class := { plain "java/io/Serializable" (some 0) with
  accessFlags := 1537
  interfaces := #[]
  cf := some (fileOf pool4 2 #[] #[] 1537 4 #[] #[])
  fields := #[]
  methods := #[]
  instanceTypes := #[]
  staticTypes := #[]
  resolved := Array.replicate 8 none
  statics := none }

/-- the primitive byte -/
def k5 : Class := { plain "byte" none with kind := .primitive 'B', accessFlags := 0x411 }
/-- [B -/
def k6 : Class := { plain "[B" (some 0) with kind := .array 5 .byte, interfaces := #[3, 4], accessFlags := 1041 }

/-- the primitive int -/
def k7 : Class := { plain "int" none with kind := .primitive 'I', accessFlags := 0x411 }
/-- [I -/
def k8 : Class := { plain "[I" (some 0) with kind := .array 7 .int, interfaces := #[3, 4], accessFlags := 1041 }

def heap : Heap := #[]
def classes : Array Class := #[k0, k1, k2, k3, k4, k5, k6, k7, k8]
def interned : List (Array UInt16 × Addr) := []
def slotsUsed : Nat := 0
def theMethod : MethodId := ⟨1, 1⟩
def args0 : Array Value := #[.long 5]
def aboutOver (below : List Frame) : State where
  vm := { classes := classes, interned := interned.toArray }
  heap := heap
  slotsUsed := slotsUsed
  threads := #[{ frames := .invoking theMethod args0 :: below }]
def below0 : List Frame := [.native { method := ⟨0, 0⟩, args := #[] }]
def about1 : State := aboutOver below0
def p0 : Program := .bare "" "" ""
def e0 : Env := launch0.env 0 0 0
theorem w_frames : about1.frames = Frame.invoking theMethod args0 :: below0 := rfl
set_option maxRecDepth 65536 in
theorem w_args : argsFit about1.vm theMethod args0 = true := by decide +kernel
set_option maxRecDepth 65536 in
theorem w_heap : heapFits about1 = true := by decide +kernel
set_option maxRecDepth 65536 in
theorem w_runnable : about1.curStatus? = some .runnable := by decide +kernel
set_option maxRecDepth 65536 in
theorem w_alone : about1.alone = true := by decide +kernel
set_option maxRecDepth 65536 in
theorem w_named : about1.methodNamed? x = some theMethod := by decide +kernel
set_option maxRecDepth 65536 in
theorem w_hears : about1.hears theMethod below0 = true := by decide +kernel
set_option maxRecDepth 65536 in
theorem w_ripe : about1.ripe theMethod args0 below0 = true := by decide +kernel
theorem w_running : about1.status = .running := rfl
set_option maxRecDepth 65536 in
theorem w_room : about1.hasRoom e0.platform room_1 = true :=
  launch0.hasRoom_least _ room_1 (by decide +kernel) (by decide +kernel) (by decide +kernel) (by decide +kernel) (by decide +kernel) (by decide +kernel)
theorem allAtoms_all (ts : List Jvm.Cond) (a : Array Jvm.Value) (st : Jvm.State) : (allAtoms ts).before a st = ts.all (fun c => c.before a st) := by
  induction ts with
  | nil => rfl
  | cons c t ih =>
    show (Jvm.Cond.and c (allAtoms t)).before a st = _
    rw [Jvm.Cond.before_and, ih, List.all_cons]
def words1 : List Jvm.Cond := Jvm.Cond.code x code maxLocals ret :: tables_1
/-- a 'code' word, met by the world's own term for the bytes: nothing is compared byte by byte -/
theorem code_word {y : MethodName} {bytes : ByteArray} {mx : Nat} {rt : Option FieldType} {a : Array Value} {s : State} {m : MethodId} {meth : Method} {c : Code} (h1 : s.methodNamed? y = some m) (h2 : s.vm.method? m = some meth) (h3 : meth.code = some c) (h4 : c.code = bytes)
    (h5 : (c.maxLocals == mx && c.exceptionTable.isEmpty && decide (c.maxStack ≤ mostOperands) && decide (meth.sig.returnType = rt) && !meth.locks && decide (parseMethodDescriptor y.desc = some meth.sig)) = true) : (Jvm.Cond.code y bytes mx rt).before a s = true := by
  simp only [Bool.and_eq_true, beq_iff_eq, Bool.not_eq_true', decide_eq_true_eq] at h5
  obtain ⟨⟨⟨⟨⟨g1, g2⟩, g3⟩, g4⟩, g5⟩, g6⟩ := h5
  simp [Cond.before, Cond.holds, Cond.value, h1, h2, h3, h4, g1, g2, g3, g4, g5, g6]
def isCode : Jvm.Cond → Bool
  | .code _ _ _ _ => true
  | _ => false
theorem all_split {L : List Jvm.Cond} {P : Jvm.Cond → Bool} (h1 : L.all (fun c => isCode c || P c) = true) (h2 : ∀ c ∈ L.filter isCode, P c = true) : L.all P = true := by
  refine List.all_eq_true.mpr fun c hc => ?_
  have h := List.all_eq_true.mp h1 c hc
  rcases Bool.eq_false_or_eq_true (isCode c) with hi | hi
  · exact h2 c (List.mem_filter.mpr ⟨hc, hi⟩)
  · simpa [hi] using h
set_option maxRecDepth 65536 in
theorem w_c0 : (Jvm.Cond.code x code maxLocals ret).before args0 about1 = true := code_word (m := ⟨1, 1⟩) (meth := k1m1) (c := k1c1) (by decide +kernel) rfl rfl rfl (by decide +kernel)
set_option maxRecDepth 65536 in
theorem w_c1 : (Jvm.Cond.code ({ cls := "com/example/mexpile/mexpile/engine/Mex", name := "wordsFor", desc := "(J)I" } : Jvm.MethodName) prog_19_method_8_code (2 : Nat) (Option.some Jvm.ClassFile.FieldType.int)).before args0 about1 = true := code_word (m := ⟨2, 0⟩) (meth := k2m0) (c := k2c0) (by decide +kernel) rfl rfl rfl (by decide +kernel)
def codes1 : List Jvm.Cond := [Jvm.Cond.code x code maxLocals ret, Jvm.Cond.code ({ cls := "com/example/mexpile/mexpile/engine/Mex", name := "wordsFor", desc := "(J)I" } : Jvm.MethodName) prog_19_method_8_code (2 : Nat) (Option.some Jvm.ClassFile.FieldType.int)]
set_option maxRecDepth 65536 in
theorem codes_eq : words1.filter isCode = codes1 := rfl
theorem w_codes : ∀ c ∈ words1.filter isCode, c.before args0 about1 = true := by
  rw [codes_eq]
  intro c hc
  simp only [codes1, List.mem_cons, List.not_mem_nil, or_false] at hc
  rcases hc with rfl | rfl
  · exact w_c0
  · exact w_c1
set_option maxRecDepth 65536 in
theorem w_t1 : words1.all (fun c => isCode c || c.before args0 about1) = true := by decide +kernel
theorem w_tables : (allAtoms (Jvm.Cond.code x code maxLocals ret :: tables_1)).before args0 about1 = true := by
  rw [allAtoms_all]
  show words1.all (fun c => c.before args0 about1) = true
  refine all_split ?_ w_codes
  rw [w_t1]
set_option maxRecDepth 65536 in
theorem w_case : (Jvm.Cond.and given_1 narrow_1).before args0 about1 = true := by decide +kernel
theorem w_applies : (headSpec (Jvm.Cond.code x code maxLocals ret :: tables_1) room_1).applies x e0.platform about1 = true :=
  (Spec.applies_iff w_frames).mpr ⟨w_running, w_runnable, w_alone, w_named, w_hears, w_ripe, w_room, w_tables⟩
theorem atStart : AtStart classFile x code maxLocals ret World_1 tables_1 room_1 Calls_1 rest_1 Pre_1 launch0 p0 e0 about1 theMethod args0 below0 :=
  ⟨lists_1, trivial, launch0.admits_env _ _ _, launch0.least_env, fairChoices_fair.cas, fairChoices_fair.clock, w_frames, w_args, w_heap, w_applies, trivial, trivial, w_case⟩
end start1
theorem witness_1 : WitnessClaimed_1 := ⟨start1.p0, start1.e0, start1.about1, start1.theMethod, start1.args0, start1.below0, start1.atStart⟩
end Jvm.Pilot.@@N@@
