import JvmDerived
import JvmDerived.Pilot.@@N@@Statement
import JvmDerived.Pilot.@@N@@Code
set_option linter.unusedVariables false
set_option linter.unusedSimpArgs false
@@BLOCK:NumsL.lean.txt@@
namespace Jvm.RoadKit
open Sem ClassFile Op Lib Jvm.Stand Jvm.Free Jvm.LawKit
section New
variable {p : Program} {l : Launch} {e : Env} {R : Room} {s : State} {m : MethodId} {args : Array Value} {below : List Frame} {meth : Method} {c : Code} {T : State} {locs : List Loc} {cells slots : Nat}
theorem retI (X : Stand p l e R s m args below meth c T locs cells slots) (hx : p.tables.exec = Jvm.exec) {pc : Nat} {Ls : Array Slot} {z : Int32} {rest : List Value} (hret : meth.sig.returnType = some .int) (hd : decode c.code pc = .ok (.ireturn, 1)) {fs : List Frame}
    (hl : ∀ (f : JFrame) (acts : List Action), f.method = m → f.locked = none → f.entered = [] → (doReturn e (T.setTop f) acts (some (.int z))).1 = T.setFrames fs) : Steps p.tables e below (T.setTop (mkF m pc Ls (.int z :: rest))) (T.setFrames fs) := by
  have hm' : T.vm.method? m = some meth := X.method'
  have hn : narrow .int (.int z) = .int z := rfl
  show Steps p.tables e below (T.setTop { method := m, pc := pc, locals := Ls, stack := _ :: rest, locked := none }) _
  jvm_step X.here [X.here.top, hx, hd, hm', hret, hn]
  first | (intro acts; rw [hl _ acts rfl rfl rfl]) | rw [hl _ _ rfl rfl rfl]
  exact Steps.refl _
end New
end Jvm.RoadKit
namespace Jvm.Pilot.@@N@@
open Jvm Jvm.ClassFile Sem Op Lib Jvm.Free Jvm.Stand Jvm.LawKit Jvm.RoadKit Bundle Jvm.Pilot.@@N@@.Jvm.D

def f1 (q1 : Int64) : Int64 := (q1 >>> ((2 : Int32) &&& 0x3f).toInt64)
def f2 (q1 : Int64) : Int64 := ((q1 &&& (9223372036854775807 : Int64)) >>> ((2 : Int32) &&& 0x3f).toInt64)
def fT0 (w1 : Int64) : Int32 := (if (0 : Int64) < w1 then (0 : Int32) else (1 : Int32))
def fT1 (w1 : Int64) (w3 : Int64) : Int32 := (if (0 : Int64) < w1 then (if (fT0 w3) = (0 : Int32) then (0 : Int32) else (1 : Int32)) else (1 : Int32))

theorem own_mask (x : Int64) : 0 ≤ (x &&& (9223372036854775807 : Int64)).toInt := by
  have e : (x &&& (9223372036854775807 : Int64)).toInt = x.toInt % 2 ^ 63 := Jvm.Kit.i64_mask x 9223372036854775807 (k := 63) (by decide) (by decide)
  omega
theorem own_b {x v : Int64} (h : v = f1 x) : -2305843009213693952 ≤ v.toInt ∧ v.toInt < 2305843009213693952 := by
  have e : v.toInt = x.toInt / 2 ^ 2 := by rw [h, f1]; exact Jvm.Kit.i64_shr (k := 2) _ _ (by decide)
  have b1 := Int64.toInt_lt x
  have b2 := Int64.le_toInt x
  omega
theorem own_s {x v : Int64} (h : v = f2 x) : 0 ≤ v.toInt ∧ v.toInt < 2305843009213693952 := by
  have e : v.toInt = (x &&& (9223372036854775807 : Int64)).toInt / 2 ^ 2 := by rw [h, f2]; exact Jvm.Kit.i64_shr (k := 2) _ _ (by decide)
  have b1 := Int64.toInt_lt (x &&& (9223372036854775807 : Int64))
  have b2 := own_mask x
  omega
theorem own_law {q1 q2 q3 q4 q5 a b s1 s2 s3 : Int64} {z73 z93 z120 z155 z178 z205 z222 : Int32} (ha : a = f1 q1) (hb : b = f1 q2) (hs1 : s1 = f2 q3) (hs2 : s2 = f2 q4) (hs3 : s3 = f2 q5)
    (h73 : z73 = (if s1 < a then (0 : Int32) else (1 : Int32))) (h93 : z93 = (if s1 < b then (if z73 = (0 : Int32) then (0 : Int32) else (1 : Int32)) else (1 : Int32)))
    (h120 : z120 = (if (fT0 (a - s1)) = z73 then (if (fT1 (b - s1) (a - s1)) = z93 then (1 : Int32) else (0 : Int32)) else (0 : Int32)))
    (h155 : z155 = (if ((s1 + s2) + s3) < a then (0 : Int32) else (1 : Int32))) (h178 : z178 = (if (s1 + s3) < b then (if z155 = (0 : Int32) then (0 : Int32) else (1 : Int32)) else (1 : Int32)))
    (h205 : z205 = (if (fT0 (((a - s1) - s2) - s3)) = z155 then (if (fT1 ((b - s1) - s3) (((a - s1) - s2) - s3)) = z178 then (1 : Int32) else (0 : Int32)) else (0 : Int32)))
    (h222 : z222 = (if z120 = (0 : Int32) then (0 : Int32) else (if z205 = (0 : Int32) then (0 : Int32) else (1 : Int32)))) : z222 = 1 := by
  have ba := own_b ha
  have bb := own_b hb
  have b1 := own_s hs1
  have b2 := own_s hs2
  have b3 := own_s hs3
  have e0 : (0 : Int64).toInt = 0 := by decide
  have e1 : (a - s1).toInt = a.toInt - s1.toInt := Jvm.Kit.i64_sub (by omega) (by omega)
  have e2 : (b - s1).toInt = b.toInt - s1.toInt := Jvm.Kit.i64_sub (by omega) (by omega)
  have e3 : (a - s1 - s2).toInt = a.toInt - s1.toInt - s2.toInt := by rw [Jvm.Kit.i64_sub (by omega) (by omega), e1]
  have e4 : (a - s1 - s2 - s3).toInt = a.toInt - s1.toInt - s2.toInt - s3.toInt := by rw [Jvm.Kit.i64_sub (by omega) (by omega), e3]
  have e5 : (b - s1 - s3).toInt = b.toInt - s1.toInt - s3.toInt := by rw [Jvm.Kit.i64_sub (by omega) (by omega), e2]
  have e6 : (s1 + s2).toInt = s1.toInt + s2.toInt := Jvm.Kit.i64_add (by omega) (by omega)
  have e7 : (s1 + s2 + s3).toInt = s1.toInt + s2.toInt + s3.toInt := by rw [Jvm.Kit.i64_add (by omega) (by omega), e6]
  have e8 : (s1 + s3).toInt = s1.toInt + s3.toInt := Jvm.Kit.i64_add (by omega) (by omega)
  have c1 : ((0 : Int64) < a - s1) ↔ s1 < a := by rw [Int64.lt_iff_toInt_lt, Int64.lt_iff_toInt_lt]; omega
  have c2 : ((0 : Int64) < b - s1) ↔ s1 < b := by rw [Int64.lt_iff_toInt_lt, Int64.lt_iff_toInt_lt]; omega
  have c3 : ((0 : Int64) < a - s1 - s2 - s3) ↔ s1 + s2 + s3 < a := by rw [Int64.lt_iff_toInt_lt, Int64.lt_iff_toInt_lt]; omega
  have c4 : ((0 : Int64) < b - s1 - s3) ↔ s1 + s3 < b := by rw [Int64.lt_iff_toInt_lt, Int64.lt_iff_toInt_lt]; omega
  have t1 : fT0 (a - s1) = z73 := by rw [h73, fT0]; simp only [c1]
  have t2 : fT1 (b - s1) (a - s1) = z93 := by rw [h93, fT1, t1]; simp only [c2]
  have t3 : fT0 (a - s1 - s2 - s3) = z155 := by rw [h155, fT0]; simp only [c3]
  have t4 : fT1 (b - s1 - s3) (a - s1 - s2 - s3) = z178 := by rw [h178, fT1, t3]; simp only [c4]
  have u1 : z120 = 1 := by rw [h120, if_pos t1, if_pos t2]
  have u2 : z205 = 1 := by rw [h205, if_pos t3, if_pos t4]
  rw [h222, u1, u2]; decide

theorem d1_0 : decode method_2_code 0 = .ok (.lload_n 0, 1) := by decide +kernel
theorem d1_1 : decode method_2_code 1 = .ok (.iconst 2, 1) := by decide +kernel
theorem d1_2 : decode method_2_code 2 = .ok (.lshr, 1) := by decide +kernel
theorem d1_3 : decode method_2_code 3 = .ok (.lreturn, 1) := by decide +kernel
theorem d2_0 : decode method_3_code 0 = .ok (.lload_n 0, 1) := by decide +kernel
theorem d2_1 : decode method_3_code 1 = .ok (.ldc2_w 9, 3) := by decide +kernel
theorem d2_4 : decode method_3_code 4 = .ok (.land, 1) := by decide +kernel
theorem d2_5 : decode method_3_code 5 = .ok (.iconst 2, 1) := by decide +kernel
theorem d2_6 : decode method_3_code 6 = .ok (.lshr, 1) := by decide +kernel
theorem d2_7 : decode method_3_code 7 = .ok (.lreturn, 1) := by decide +kernel
theorem d4_0 : decode prog_77_method_2_code 0 = .ok (.aload_n 0, 1) := by decide +kernel
theorem d4_1 : decode prog_77_method_2_code 1 = .ok (.invokespecial 7, 3) := by decide +kernel
theorem d4_4 : decode prog_77_method_2_code 4 = .ok (.aload_n 0, 1) := by decide +kernel
theorem d4_5 : decode prog_77_method_2_code 5 = .ok (.lload_n 1, 1) := by decide +kernel
theorem d4_6 : decode prog_77_method_2_code 6 = .ok (.putfield 12, 3) := by decide +kernel
theorem d4_9 : decode prog_77_method_2_code 9 = .ok (.aload_n 0, 1) := by decide +kernel
theorem d4_10 : decode prog_77_method_2_code 10 = .ok (.aload_n 3, 1) := by decide +kernel
theorem d4_11 : decode prog_77_method_2_code 11 = .ok (.putfield 16, 3) := by decide +kernel
theorem d4_14 : decode prog_77_method_2_code 14 = .ok (.return_, 1) := by decide +kernel
theorem d3_0 : decode prog_77_method_1_code 0 = .ok (.aload_n 0, 1) := by decide +kernel
theorem d3_1 : decode prog_77_method_1_code 1 = .ok (.lload_n 1, 1) := by decide +kernel
theorem d3_2 : decode prog_77_method_1_code 2 = .ok (.aconst_null, 1) := by decide +kernel
theorem d3_3 : decode prog_77_method_1_code 3 = .ok (.invokespecial 1, 3) := by decide +kernel
theorem d3_6 : decode prog_77_method_1_code 6 = .ok (.return_, 1) := by decide +kernel
theorem d6_0 : decode prog_77_method_3_code 0 = .ok (.new 2, 3) := by decide +kernel
theorem d6_3 : decode prog_77_method_3_code 3 = .ok (.dup, 1) := by decide +kernel
theorem d6_4 : decode prog_77_method_3_code 4 = .ok (.lload_n 1, 1) := by decide +kernel
theorem d6_5 : decode prog_77_method_3_code 5 = .ok (.aload_n 0, 1) := by decide +kernel
theorem d6_6 : decode prog_77_method_3_code 6 = .ok (.invokespecial 1, 3) := by decide +kernel
theorem d6_9 : decode prog_77_method_3_code 9 = .ok (.areturn, 1) := by decide +kernel
theorem d7_0 : decode prog_77_method_4_code 0 = .ok (.aload_n 0, 1) := by decide +kernel
theorem d7_1 : decode prog_77_method_4_code 1 = .ok (.dup, 1) := by decide +kernel
theorem d7_2 : decode prog_77_method_4_code 2 = .ok (.getfield 12, 3) := by decide +kernel
theorem d7_5 : decode prog_77_method_4_code 5 = .ok (.lload_n 1, 1) := by decide +kernel
theorem d7_6 : decode prog_77_method_4_code 6 = .ok (.lsub, 1) := by decide +kernel
theorem d7_7 : decode prog_77_method_4_code 7 = .ok (.putfield 12, 3) := by decide +kernel
theorem d7_10 : decode prog_77_method_4_code 10 = .ok (.aload_n 0, 1) := by decide +kernel
theorem d7_11 : decode prog_77_method_4_code 11 = .ok (.getfield 16, 3) := by decide +kernel
theorem d7_14 : decode prog_77_method_4_code 14 = .ok (.ifnull 11, 3) := by decide +kernel
theorem d7_25 : decode prog_77_method_4_code 25 = .ok (.return_, 1) := by decide +kernel
theorem d7_17 : decode prog_77_method_4_code 17 = .ok (.aload_n 0, 1) := by decide +kernel
theorem d7_18 : decode prog_77_method_4_code 18 = .ok (.getfield 16, 3) := by decide +kernel
theorem d7_21 : decode prog_77_method_4_code 21 = .ok (.lload_n 1, 1) := by decide +kernel
theorem d7_22 : decode prog_77_method_4_code 22 = .ok (.invokevirtual 20, 3) := by decide +kernel
theorem d8_0 : decode prog_77_method_5_code 0 = .ok (.aload_n 0, 1) := by decide +kernel
theorem d8_1 : decode prog_77_method_5_code 1 = .ok (.getfield 12, 3) := by decide +kernel
theorem d8_4 : decode prog_77_method_5_code 4 = .ok (.lconst 0, 1) := by decide +kernel
theorem d8_5 : decode prog_77_method_5_code 5 = .ok (.lcmp, 1) := by decide +kernel
theorem d8_6 : decode prog_77_method_5_code 6 = .ok (.ifCond .le 20, 3) := by decide +kernel
theorem d8_9 : decode prog_77_method_5_code 9 = .ok (.aload_n 0, 1) := by decide +kernel
theorem d8_10 : decode prog_77_method_5_code 10 = .ok (.getfield 16, 3) := by decide +kernel
theorem d8_13 : decode prog_77_method_5_code 13 = .ok (.ifnull 17, 3) := by decide +kernel
theorem d8_30 : decode prog_77_method_5_code 30 = .ok (.iconst 0, 1) := by decide +kernel
theorem d8_31 : decode prog_77_method_5_code 31 = .ok (.ireturn, 1) := by decide +kernel
theorem d8_26 : decode prog_77_method_5_code 26 = .ok (.iconst 1, 1) := by decide +kernel
theorem d8_27 : decode prog_77_method_5_code 27 = .ok (.goto 4, 3) := by decide +kernel
theorem d8_16 : decode prog_77_method_5_code 16 = .ok (.aload_n 0, 1) := by decide +kernel
theorem d8_17 : decode prog_77_method_5_code 17 = .ok (.getfield 16, 3) := by decide +kernel
theorem d8_20 : decode prog_77_method_5_code 20 = .ok (.invokevirtual 24, 3) := by decide +kernel
theorem d8_23 : decode prog_77_method_5_code 23 = .ok (.ifCond .eq 7, 3) := by decide +kernel
theorem pn_0 : plainName "com/example/regolo/regolo/engine/WorkSpendPinLaw" = true := by first | (simp [plainName, overriddenIn]; done) | decide +kernel
theorem pn_1 : plainName "com/example/regolo/regolo/engine/Work" = true := by first | (simp [plainName, overriddenIn]; done) | decide +kernel
theorem pd_0 : parseMethodDescriptor "(JLcom/example/regolo/regolo/engine/Work;)V" = some ⟨[.long, (.object "com/example/regolo/regolo/engine/Work")], none⟩ := by decide +kernel
theorem pd_1 : parseMethodDescriptor "(J)V" = some ⟨[.long], none⟩ := by decide +kernel
theorem pd_2 : parseMethodDescriptor "()Z" = some ⟨[], some .boolean⟩ := by decide +kernel
theorem pd_3 : parseMethodDescriptor "(J)J" = some ⟨[.long], some .long⟩ := by decide +kernel
theorem pd_4 : parseMethodDescriptor "(J)Lcom/example/regolo/regolo/engine/Work;" = some ⟨[.long], some (.object "com/example/regolo/regolo/engine/Work")⟩ := by decide +kernel
def Q1 (Z : State) (q1 : Int64) (h0 : Heap) (n0 : Nat) (v : Option Value) (h : Heap) (L : List Loc) : Prop := v = some (.long (f1 q1)) ∧ Fr n0 L ∧ h = h0
theorem ef_1 (m : MethodId) (q1 : Int64) : entryFrame m #[(.long q1)] 2 = mkF m 0 #[.val (.long q1), .second] [] := by first | (simp [entryFrame, mkF, argsToLocals, Value.category]; done) | rfl
set_option maxRecDepth 65536 in
set_option maxHeartbeats 40000000 in
theorem rm1 (l : Launch) (Z : State) (a0 : Array Value) (hw : ∀ d ∈ tables_1, d.before a0 Z = true) (ws : List Jvm.Cond) (q1 : Int64) (h0 : Heap) (n0 : Nat) (Zs : n0 ≤ h0.size)  :
    MetFree l (⟨"com/example/regolo/regolo/engine/WorkSpendPinLaw", "budget", "(J)J"⟩ : MethodName) (head1 (Jvm.Cond.code (⟨"com/example/regolo/regolo/engine/WorkSpendPinLaw", "budget", "(J)J"⟩ : MethodName) method_2_code 2 (some .long) :: ws) ({ frames := 0, cells := 0, slots := 0, locals := 0 } : Room)) (fun a U => a = #[(.long q1)] ∧ Z.Warmed39 U.vm ∧ U.heap = h0) (fun _ _ _ _ _ => True) (fun _ U o U' => ∃ v L, o = .returned v ∧ Q1 Z q1 h0 n0 v U'.heap L ∧ FrameEnd U o U' L ({ frames := 0, cells := 0, slots := 0, locals := 0 } : Room).cells ({ frames := 0, cells := 0, slots := 0, locals := 0 } : Room).slots) := by
  refine MetFree.of_bodySF (plainFor_of_name pn_0) hisR ?_
  intro p e s m args below meth c s₁ Bd hml0 hP hK
  obtain ⟨rfl, hZ, hh⟩ := hP
  have hx := Bd.exec
  have hby := Bd.bytes
  have hml : c.maxLocals = 2 := hml0
  have hown : s.vm.findClass "com/example/regolo/regolo/engine/WorkSpendPinLaw" = some m.cls := findClass_of_methodNamed Bd.named
  have hnm := (name_of_methodNamed Bd.named Bd.method).1
  have X0 : Stand p l e ({ frames := 0, cells := 0, slots := 0, locals := 0 } : Room) s m #[(.long q1)] below meth c s₁ [] 0 0 := Stand.of_body Bd
  have e0 : s₁.heap = h0 := by rw [← hh, Bd.state]; rfl
  have N0 := Fr.nil n0
  have pre0 : ∀ t, Steps p.tables e below (s₁.setTop (mkF m 0 #[.val (.long q1), .second] [])) t → Steps p.tables e below (s₁.setTop (entryFrame m #[(.long q1)] 2)) t := fun t k => castTop (ef_1 m q1) k
  obtain ⟨fs, hr, hrun, hended, hW, hsame⟩ := X0.leave (v := some (.long (q1 >>> ((2 : Int32) &&& 0x3f).toInt64))) (fun h => by rw [Bd.returns] at h; cases h)
  refine ⟨_, _, pre0 _ ?_, hrun, hended, _, _, rfl, ?_, ⟨_, rfl⟩, hW, hsame.mono (by decide) (by decide)⟩
  · show Steps p.tables e below (s₁.setTop (mkF m 0 #[.val (.long q1), .second] [])) _
    refine XS.lloadN X0.here hx rfl (hb hby d1_0) rfl ?_
    show Steps p.tables e below (s₁.setTop (mkF m 1 #[.val (.long q1), .second] [(.long q1)])) _
    refine XS.iconst X0.here hx rfl (hb hby d1_1) ?_
    show Steps p.tables e below (s₁.setTop (mkF m 2 #[.val (.long q1), .second] [(.int (2 : Int32)), (.long q1)])) _
    refine XS.lshr X0.here hx rfl (hb hby d1_2) rfl ?_
    show Steps p.tables e below (s₁.setTop (mkF m 3 #[.val (.long q1), .second] [(.long (q1 >>> ((2 : Int32) &&& 0x3f).toInt64))])) _
    exact retOut X0 hx Bd.returns rfl (Or.inr (Or.inl ⟨rfl, rfl, _, rfl⟩)) (hb hby d1_3) hr
  · show Q1 Z q1 h0 n0 _ s₁.heap _
    rw [e0]
    exact ⟨congrArg some (congrArg Value.long (show (q1 >>> ((2 : Int32) &&& 0x3f).toInt64) = (f1 q1) from rfl)), N0, rfl⟩
def Q2 (Z : State) (q1 : Int64) (h0 : Heap) (n0 : Nat) (v : Option Value) (h : Heap) (L : List Loc) : Prop := v = some (.long (f2 q1)) ∧ Fr n0 L ∧ h = h0
theorem ef_2 (m : MethodId) (q1 : Int64) : entryFrame m #[(.long q1)] 2 = mkF m 0 #[.val (.long q1), .second] [] := by first | (simp [entryFrame, mkF, argsToLocals, Value.category]; done) | rfl
set_option maxRecDepth 65536 in
set_option maxHeartbeats 40000000 in
theorem rm2 (l : Launch) (Z : State) (a0 : Array Value) (hw : ∀ d ∈ tables_1, d.before a0 Z = true) (ws : List Jvm.Cond) (q1 : Int64) (h0 : Heap) (n0 : Nat) (Zs : n0 ≤ h0.size)  :
    MetFree l (⟨"com/example/regolo/regolo/engine/WorkSpendPinLaw", "steps", "(J)J"⟩ : MethodName) (head1 (Jvm.Cond.code (⟨"com/example/regolo/regolo/engine/WorkSpendPinLaw", "steps", "(J)J"⟩ : MethodName) method_3_code 2 (some .long) :: ws) ({ frames := 0, cells := 0, slots := 0, locals := 0 } : Room)) (fun a U => a = #[(.long q1)] ∧ Z.Warmed39 U.vm ∧ U.heap = h0) (fun _ _ _ _ _ => True) (fun _ U o U' => ∃ v L, o = .returned v ∧ Q2 Z q1 h0 n0 v U'.heap L ∧ FrameEnd U o U' L ({ frames := 0, cells := 0, slots := 0, locals := 0 } : Room).cells ({ frames := 0, cells := 0, slots := 0, locals := 0 } : Room).slots) := by
  refine MetFree.of_bodySF (plainFor_of_name pn_0) hisR ?_
  intro p e s m args below meth c s₁ Bd hml0 hP hK
  obtain ⟨rfl, hZ, hh⟩ := hP
  have hx := Bd.exec
  have hby := Bd.bytes
  have hml : c.maxLocals = 2 := hml0
  have hown : s.vm.findClass "com/example/regolo/regolo/engine/WorkSpendPinLaw" = some m.cls := findClass_of_methodNamed Bd.named
  have hnm := (name_of_methodNamed Bd.named Bd.method).1
  have X0 : Stand p l e ({ frames := 0, cells := 0, slots := 0, locals := 0 } : Room) s m #[(.long q1)] below meth c s₁ [] 0 0 := Stand.of_body Bd
  have e0 : s₁.heap = h0 := by rw [← hh, Bd.state]; rfl
  have N0 := Fr.nil n0
  have pre0 : ∀ t, Steps p.tables e below (s₁.setTop (mkF m 0 #[.val (.long q1), .second] [])) t → Steps p.tables e below (s₁.setTop (entryFrame m #[(.long q1)] 2)) t := fun t k => castTop (ef_2 m q1) k
  obtain ⟨fs, hr, hrun, hended, hW, hsame⟩ := X0.leave (v := some (.long ((q1 &&& (9223372036854775807 : Int64)) >>> ((2 : Int32) &&& 0x3f).toInt64))) (fun h => by rw [Bd.returns] at h; cases h)
  refine ⟨_, _, pre0 _ ?_, hrun, hended, _, _, rfl, ?_, ⟨_, rfl⟩, hW, hsame.mono (by decide) (by decide)⟩
  · show Steps p.tables e below (s₁.setTop (mkF m 0 #[.val (.long q1), .second] [])) _
    refine XS.lloadN X0.here hx rfl (hb hby d2_0) rfl ?_
    show Steps p.tables e below (s₁.setTop (mkF m 1 #[.val (.long q1), .second] [(.long q1)])) _
    refine X0.ldc2Long hx hown (mvT hZ (hw _ (List.mem_of_getElem? (i := 7) rfl))) (g := (mkF m 1 #[.val (.long q1), .second] [(.long q1)])) rfl (hb hby d2_1) _ ?_
    show Steps p.tables e below (s₁.setTop (mkF m 4 #[.val (.long q1), .second] [(.long (9223372036854775807 : Int64)), (.long q1)])) _
    refine XS.land X0.here hx rfl (hb hby d2_4) rfl ?_
    show Steps p.tables e below (s₁.setTop (mkF m 5 #[.val (.long q1), .second] [(.long (q1 &&& (9223372036854775807 : Int64)))])) _
    refine XS.iconst X0.here hx rfl (hb hby d2_5) ?_
    show Steps p.tables e below (s₁.setTop (mkF m 6 #[.val (.long q1), .second] [(.int (2 : Int32)), (.long (q1 &&& (9223372036854775807 : Int64)))])) _
    refine XS.lshr X0.here hx rfl (hb hby d2_6) rfl ?_
    show Steps p.tables e below (s₁.setTop (mkF m 7 #[.val (.long q1), .second] [(.long ((q1 &&& (9223372036854775807 : Int64)) >>> ((2 : Int32) &&& 0x3f).toInt64))])) _
    exact retOut X0 hx Bd.returns rfl (Or.inr (Or.inl ⟨rfl, rfl, _, rfl⟩)) (hb hby d2_7) hr
  · show Q2 Z q1 h0 n0 _ s₁.heap _
    rw [e0]
    exact ⟨congrArg some (congrArg Value.long (show ((q1 &&& (9223372036854775807 : Int64)) >>> ((2 : Int32) &&& 0x3f).toInt64) = (f2 q1) from rfl)), N0, rfl⟩
def QI0 (Z : State) (a1 : Addr) (q2 : Int64) (u1 : Int64) (h0 : Heap) (n0 : Nat) (v : Option Value) (h : Heap) (L : List Loc) : Prop := v = none ∧ Fr n0 L ∧ (Keep h0 h [a1]) ∧ (Fld Z h a1 "com/example/regolo/regolo/engine/Work" "left" "J" (.long q2)) ∧ (Fld Z h a1 "com/example/regolo/regolo/engine/Work" "whole" "Lcom/example/regolo/regolo/engine/Work;" .null)
theorem ef_I0 (m : MethodId) (a1 : Addr) (q2 : Int64) : entryFrame m #[(.ref a1), (.long q2), .null] 4 = mkF m 0 #[.val (.ref a1), .val (.long q2), .second, .val .null] [] := by first | (simp [entryFrame, mkF, argsToLocals, Value.category]; done) | rfl
set_option maxRecDepth 65536 in
set_option maxHeartbeats 40000000 in
theorem rmI0 (l : Launch) (Z : State) (a0 : Array Value) (hw : ∀ d ∈ tables_1, d.before a0 Z = true) (ws : List Jvm.Cond) (a1 : Addr) (q2 : Int64) (u1 : Int64) (h0 : Heap) (n0 : Nat) (Zs : n0 ≤ h0.size) (E_a1 : Exa Z h0 a1 "com/example/regolo/regolo/engine/Work") (F_left_a1 : Fld Z h0 a1 "com/example/regolo/regolo/engine/Work" "left" "J" (.long u1)) (F_whole_a1 : Fld Z h0 a1 "com/example/regolo/regolo/engine/Work" "whole" "Lcom/example/regolo/regolo/engine/Work;" .null) (g_a1 : n0 ≤ a1) :
    MetFree l (⟨"com/example/regolo/regolo/engine/Work", "<init>", "(JLcom/example/regolo/regolo/engine/Work;)V"⟩ : MethodName) (head1 (Jvm.Cond.code (⟨"com/example/regolo/regolo/engine/Work", "<init>", "(JLcom/example/regolo/regolo/engine/Work;)V"⟩ : MethodName) prog_77_method_2_code 4 none :: ws) ({ frames := 1, cells := 0, slots := 0, locals := 12 } : Room)) (fun a U => a = #[(.ref a1), (.long q2), .null] ∧ Z.Warmed39 U.vm ∧ U.heap = h0) (fun _ _ _ _ _ => True) (fun _ U o U' => ∃ v L, o = .returned v ∧ QI0 Z a1 q2 u1 h0 n0 v U'.heap L ∧ FrameEnd U o U' L ({ frames := 1, cells := 0, slots := 0, locals := 12 } : Room).cells ({ frames := 1, cells := 0, slots := 0, locals := 12 } : Room).slots) := by
  refine MetFree.of_bodySF (plainFor_of_name pn_1) hisR ?_
  intro p e s m args below meth c s₁ Bd hml0 hP hK
  obtain ⟨rfl, hZ, hh⟩ := hP
  have hx := Bd.exec
  have hby := Bd.bytes
  have hml : c.maxLocals = 4 := hml0
  have hown : s.vm.findClass "com/example/regolo/regolo/engine/Work" = some m.cls := findClass_of_methodNamed Bd.named
  have hnm := (name_of_methodNamed Bd.named Bd.method).1
  have X0 : Stand p l e ({ frames := 1, cells := 0, slots := 0, locals := 12 } : Room) s m #[(.ref a1), (.long q2), .null] below meth c s₁ [] 0 0 := Stand.of_body Bd
  have e0 : s₁.heap = h0 := by rw [← hh, Bd.state]; rfl
  have N0 := Fr.nil n0
  have pre0 : ∀ t, Steps p.tables e below (s₁.setTop (mkF m 0 #[.val (.ref a1), .val (.long q2), .second, .val .null] [])) t → Steps p.tables e below (s₁.setTop (entryFrame m #[(.ref a1), (.long q2), .null] 4)) t := fun t k => castTop (ef_I0 m a1 q2) k
  have Kp : Keep h0 h0 [a1] := Keep.refl h0 [a1]
  obtain ⟨T1, X1, e1, st1⟩ := initO X0 hx hZ hown (hw _ (List.mem_of_getElem? (i := 17) rfl)) (hw _ (List.mem_of_getElem? (i := 18) rfl)) (hw _ (List.mem_of_getElem? (i := 19) rfl)) e0 (g := (mkF m 1 #[.val (.ref a1), .val (.long q2), .second, .val .null] [(.ref a1)])) rfl (by rw [hml]; rfl) rfl (hb hby d4_1) (by decide) (W := 0) (by show 2 * 0 + _ ≤ _; exact Nat.le_of_eq rfl) (by decide)
  obtain ⟨T2, h2, X2, e2, W2, st2⟩ := putF X1 hx hZ hown (host := "") (Or.inl (hw _ (List.mem_of_getElem? (i := 20) rfl))) Via.refl e1 F_left_a1 E_a1 (Or.inl (hw _ (List.mem_of_getElem? (i := 21) rfl))) (hw _ (List.mem_of_getElem? (i := 9) rfl)) (ty := .long) (by decide) rfl rfl (g := (mkF m 6 #[.val (.ref a1), .val (.long q2), .second, .val .null] [(.long q2), (.ref a1)])) rfl rfl (hb hby d4_6)
  have N2 := Fr.snoc X2 N0 g_a1
  have Zs : n0 ≤ h2.size := Nat.le_trans Zs (Keep.of_wr W2).1
  have E_a1 : Exa Z h2 a1 "com/example/regolo/regolo/engine/Work" := E_a1.wr W2
  have F_left_a1 : Fld Z h2 a1 "com/example/regolo/regolo/engine/Work" "left" "J" (.long q2) := F_left_a1.same W2
  have F_whole_a1 : Fld Z h2 a1 "com/example/regolo/regolo/engine/Work" "whole" "Lcom/example/regolo/regolo/engine/Work;" .null := F_whole_a1.other W2 (Or.inr (slot_ne (Or.inr (hw _ (List.mem_of_getElem? (i := 23) rfl))) (Or.inl (hw _ (List.mem_of_getElem? (i := 21) rfl))) (by decide) (t := (.object "com/example/regolo/regolo/engine/Work")) (t' := .long) (by decide) (by decide)))
  have Kp : Keep h0 h2 [a1] := Kp.wr W2 (Or.inl (List.mem_of_getElem? (i := 0) rfl))
  obtain ⟨T3, h3, X3, e3, W3, st3⟩ := putF X2 hx hZ hown (host := "") (Or.inl (hw _ (List.mem_of_getElem? (i := 22) rfl))) Via.refl e2 F_whole_a1 E_a1 (Or.inr ⟨(hw _ (List.mem_of_getElem? (i := 23) rfl)), rfl, hnm⟩) (hw _ (List.mem_of_getElem? (i := 9) rfl)) (ty := (.object "com/example/regolo/regolo/engine/Work")) (by decide) rfl rfl (g := (mkF m 11 #[.val (.ref a1), .val (.long q2), .second, .val .null] [.null, (.ref a1)])) rfl rfl (hb hby d4_11)
  have N3 := Fr.snoc X3 N2 g_a1
  have Zs : n0 ≤ h3.size := Nat.le_trans Zs (Keep.of_wr W3).1
  have E_a1 : Exa Z h3 a1 "com/example/regolo/regolo/engine/Work" := E_a1.wr W3
  have F_left_a1 : Fld Z h3 a1 "com/example/regolo/regolo/engine/Work" "left" "J" (.long q2) := F_left_a1.other W3 (Or.inr (slot_ne (Or.inl (hw _ (List.mem_of_getElem? (i := 21) rfl))) (Or.inr (hw _ (List.mem_of_getElem? (i := 23) rfl))) (by decide) (t := .long) (t' := (.object "com/example/regolo/regolo/engine/Work")) (by decide) (by decide)))
  have F_whole_a1 : Fld Z h3 a1 "com/example/regolo/regolo/engine/Work" "whole" "Lcom/example/regolo/regolo/engine/Work;" .null := F_whole_a1.same W3
  have Kp : Keep h0 h3 [a1] := Kp.wr W3 (Or.inl (List.mem_of_getElem? (i := 0) rfl))
  obtain ⟨fs, hr, hrun, hended, hW, hsame⟩ := X3.leave (v := none) (fun _ => rfl)
  refine ⟨_, _, pre0 _ ?_, hrun, hended, _, _, rfl, ?_, ⟨_, rfl⟩, hW, hsame.mono (by decide) (by decide)⟩
  · show Steps p.tables e below (s₁.setTop (mkF m 0 #[.val (.ref a1), .val (.long q2), .second, .val .null] [])) _
    refine XS.aloadN X0.here hx rfl (hb hby d4_0) rfl rfl ?_
    show Steps p.tables e below (s₁.setTop (mkF m 1 #[.val (.ref a1), .val (.long q2), .second, .val .null] [(.ref a1)])) _
    refine st1 _ ?_
    show Steps p.tables e below (T1.setTop (mkF m 4 #[.val (.ref a1), .val (.long q2), .second, .val .null] [])) _
    refine XS.aloadN X1.here hx rfl (hb hby d4_4) rfl rfl ?_
    show Steps p.tables e below (T1.setTop (mkF m 5 #[.val (.ref a1), .val (.long q2), .second, .val .null] [(.ref a1)])) _
    refine XS.lloadN X1.here hx rfl (hb hby d4_5) rfl ?_
    show Steps p.tables e below (T1.setTop (mkF m 6 #[.val (.ref a1), .val (.long q2), .second, .val .null] [(.long q2), (.ref a1)])) _
    refine st2 _ ?_
    show Steps p.tables e below (T2.setTop (mkF m 9 #[.val (.ref a1), .val (.long q2), .second, .val .null] [])) _
    refine XS.aloadN X2.here hx rfl (hb hby d4_9) rfl rfl ?_
    show Steps p.tables e below (T2.setTop (mkF m 10 #[.val (.ref a1), .val (.long q2), .second, .val .null] [(.ref a1)])) _
    refine XS.aloadN X2.here hx rfl (hb hby d4_10) rfl rfl ?_
    show Steps p.tables e below (T2.setTop (mkF m 11 #[.val (.ref a1), .val (.long q2), .second, .val .null] [.null, (.ref a1)])) _
    refine st3 _ ?_
    show Steps p.tables e below (T3.setTop (mkF m 14 #[.val (.ref a1), .val (.long q2), .second, .val .null] [])) _
    exact X3.returnOut hx Bd.returns (hb hby d4_14) hr
  · show QI0 Z a1 q2 u1 h0 n0 _ T3.heap _
    rw [e3]
    exact ⟨rfl, N3, Kp, F_left_a1, F_whole_a1⟩
def QI1 (Z : State) (a1 : Addr) (q2 : Int64) (a3 : Addr) (u1 : Int64) (h0 : Heap) (n0 : Nat) (v : Option Value) (h : Heap) (L : List Loc) : Prop := v = none ∧ Fr n0 L ∧ (Keep h0 h [a1]) ∧ (Fld Z h a1 "com/example/regolo/regolo/engine/Work" "left" "J" (.long q2)) ∧ (Fld Z h a1 "com/example/regolo/regolo/engine/Work" "whole" "Lcom/example/regolo/regolo/engine/Work;" (.ref a3))
theorem ef_I1 (m : MethodId) (a1 : Addr) (q2 : Int64) (a3 : Addr) : entryFrame m #[(.ref a1), (.long q2), (.ref a3)] 4 = mkF m 0 #[.val (.ref a1), .val (.long q2), .second, .val (.ref a3)] [] := by first | (simp [entryFrame, mkF, argsToLocals, Value.category]; done) | rfl
set_option maxRecDepth 65536 in
set_option maxHeartbeats 40000000 in
theorem rmI1 (l : Launch) (Z : State) (a0 : Array Value) (hw : ∀ d ∈ tables_1, d.before a0 Z = true) (ws : List Jvm.Cond) (a1 : Addr) (q2 : Int64) (a3 : Addr) (u1 : Int64) (h0 : Heap) (n0 : Nat) (Zs : n0 ≤ h0.size) (E_a1 : Exa Z h0 a1 "com/example/regolo/regolo/engine/Work") (F_left_a1 : Fld Z h0 a1 "com/example/regolo/regolo/engine/Work" "left" "J" (.long u1)) (F_whole_a1 : Fld Z h0 a1 "com/example/regolo/regolo/engine/Work" "whole" "Lcom/example/regolo/regolo/engine/Work;" .null) (g_a1 : n0 ≤ a1) :
    MetFree l (⟨"com/example/regolo/regolo/engine/Work", "<init>", "(JLcom/example/regolo/regolo/engine/Work;)V"⟩ : MethodName) (head1 (Jvm.Cond.code (⟨"com/example/regolo/regolo/engine/Work", "<init>", "(JLcom/example/regolo/regolo/engine/Work;)V"⟩ : MethodName) prog_77_method_2_code 4 none :: ws) ({ frames := 1, cells := 0, slots := 0, locals := 12 } : Room)) (fun a U => a = #[(.ref a1), (.long q2), (.ref a3)] ∧ Z.Warmed39 U.vm ∧ U.heap = h0) (fun _ _ _ _ _ => True) (fun _ U o U' => ∃ v L, o = .returned v ∧ QI1 Z a1 q2 a3 u1 h0 n0 v U'.heap L ∧ FrameEnd U o U' L ({ frames := 1, cells := 0, slots := 0, locals := 12 } : Room).cells ({ frames := 1, cells := 0, slots := 0, locals := 12 } : Room).slots) := by
  refine MetFree.of_bodySF (plainFor_of_name pn_1) hisR ?_
  intro p e s m args below meth c s₁ Bd hml0 hP hK
  obtain ⟨rfl, hZ, hh⟩ := hP
  have hx := Bd.exec
  have hby := Bd.bytes
  have hml : c.maxLocals = 4 := hml0
  have hown : s.vm.findClass "com/example/regolo/regolo/engine/Work" = some m.cls := findClass_of_methodNamed Bd.named
  have hnm := (name_of_methodNamed Bd.named Bd.method).1
  have X0 : Stand p l e ({ frames := 1, cells := 0, slots := 0, locals := 12 } : Room) s m #[(.ref a1), (.long q2), (.ref a3)] below meth c s₁ [] 0 0 := Stand.of_body Bd
  have e0 : s₁.heap = h0 := by rw [← hh, Bd.state]; rfl
  have N0 := Fr.nil n0
  have pre0 : ∀ t, Steps p.tables e below (s₁.setTop (mkF m 0 #[.val (.ref a1), .val (.long q2), .second, .val (.ref a3)] [])) t → Steps p.tables e below (s₁.setTop (entryFrame m #[(.ref a1), (.long q2), (.ref a3)] 4)) t := fun t k => castTop (ef_I1 m a1 q2 a3) k
  have Kp : Keep h0 h0 [a1] := Keep.refl h0 [a1]
  obtain ⟨T4, X4, e4, st4⟩ := initO X0 hx hZ hown (hw _ (List.mem_of_getElem? (i := 17) rfl)) (hw _ (List.mem_of_getElem? (i := 18) rfl)) (hw _ (List.mem_of_getElem? (i := 19) rfl)) e0 (g := (mkF m 1 #[.val (.ref a1), .val (.long q2), .second, .val (.ref a3)] [(.ref a1)])) rfl (by rw [hml]; rfl) rfl (hb hby d4_1) (by decide) (W := 0) (by show 2 * 0 + _ ≤ _; exact Nat.le_of_eq rfl) (by decide)
  obtain ⟨T5, h5, X5, e5, W5, st5⟩ := putF X4 hx hZ hown (host := "") (Or.inl (hw _ (List.mem_of_getElem? (i := 20) rfl))) Via.refl e4 F_left_a1 E_a1 (Or.inl (hw _ (List.mem_of_getElem? (i := 21) rfl))) (hw _ (List.mem_of_getElem? (i := 9) rfl)) (ty := .long) (by decide) rfl rfl (g := (mkF m 6 #[.val (.ref a1), .val (.long q2), .second, .val (.ref a3)] [(.long q2), (.ref a1)])) rfl rfl (hb hby d4_6)
  have N5 := Fr.snoc X5 N0 g_a1
  have Zs : n0 ≤ h5.size := Nat.le_trans Zs (Keep.of_wr W5).1
  have E_a1 : Exa Z h5 a1 "com/example/regolo/regolo/engine/Work" := E_a1.wr W5
  have F_left_a1 : Fld Z h5 a1 "com/example/regolo/regolo/engine/Work" "left" "J" (.long q2) := F_left_a1.same W5
  have F_whole_a1 : Fld Z h5 a1 "com/example/regolo/regolo/engine/Work" "whole" "Lcom/example/regolo/regolo/engine/Work;" .null := F_whole_a1.other W5 (Or.inr (slot_ne (Or.inr (hw _ (List.mem_of_getElem? (i := 23) rfl))) (Or.inl (hw _ (List.mem_of_getElem? (i := 21) rfl))) (by decide) (t := (.object "com/example/regolo/regolo/engine/Work")) (t' := .long) (by decide) (by decide)))
  have Kp : Keep h0 h5 [a1] := Kp.wr W5 (Or.inl (List.mem_of_getElem? (i := 0) rfl))
  obtain ⟨T6, h6, X6, e6, W6, st6⟩ := putF X5 hx hZ hown (host := "") (Or.inl (hw _ (List.mem_of_getElem? (i := 22) rfl))) Via.refl e5 F_whole_a1 E_a1 (Or.inr ⟨(hw _ (List.mem_of_getElem? (i := 23) rfl)), rfl, hnm⟩) (hw _ (List.mem_of_getElem? (i := 9) rfl)) (ty := (.object "com/example/regolo/regolo/engine/Work")) (by decide) rfl rfl (g := (mkF m 11 #[.val (.ref a1), .val (.long q2), .second, .val (.ref a3)] [(.ref a3), (.ref a1)])) rfl rfl (hb hby d4_11)
  have N6 := Fr.snoc X6 N5 g_a1
  have Zs : n0 ≤ h6.size := Nat.le_trans Zs (Keep.of_wr W6).1
  have E_a1 : Exa Z h6 a1 "com/example/regolo/regolo/engine/Work" := E_a1.wr W6
  have F_left_a1 : Fld Z h6 a1 "com/example/regolo/regolo/engine/Work" "left" "J" (.long q2) := F_left_a1.other W6 (Or.inr (slot_ne (Or.inl (hw _ (List.mem_of_getElem? (i := 21) rfl))) (Or.inr (hw _ (List.mem_of_getElem? (i := 23) rfl))) (by decide) (t := .long) (t' := (.object "com/example/regolo/regolo/engine/Work")) (by decide) (by decide)))
  have F_whole_a1 : Fld Z h6 a1 "com/example/regolo/regolo/engine/Work" "whole" "Lcom/example/regolo/regolo/engine/Work;" (.ref a3) := F_whole_a1.same W6
  have Kp : Keep h0 h6 [a1] := Kp.wr W6 (Or.inl (List.mem_of_getElem? (i := 0) rfl))
  obtain ⟨fs, hr, hrun, hended, hW, hsame⟩ := X6.leave (v := none) (fun _ => rfl)
  refine ⟨_, _, pre0 _ ?_, hrun, hended, _, _, rfl, ?_, ⟨_, rfl⟩, hW, hsame.mono (by decide) (by decide)⟩
  · show Steps p.tables e below (s₁.setTop (mkF m 0 #[.val (.ref a1), .val (.long q2), .second, .val (.ref a3)] [])) _
    refine XS.aloadN X0.here hx rfl (hb hby d4_0) rfl rfl ?_
    show Steps p.tables e below (s₁.setTop (mkF m 1 #[.val (.ref a1), .val (.long q2), .second, .val (.ref a3)] [(.ref a1)])) _
    refine st4 _ ?_
    show Steps p.tables e below (T4.setTop (mkF m 4 #[.val (.ref a1), .val (.long q2), .second, .val (.ref a3)] [])) _
    refine XS.aloadN X4.here hx rfl (hb hby d4_4) rfl rfl ?_
    show Steps p.tables e below (T4.setTop (mkF m 5 #[.val (.ref a1), .val (.long q2), .second, .val (.ref a3)] [(.ref a1)])) _
    refine XS.lloadN X4.here hx rfl (hb hby d4_5) rfl ?_
    show Steps p.tables e below (T4.setTop (mkF m 6 #[.val (.ref a1), .val (.long q2), .second, .val (.ref a3)] [(.long q2), (.ref a1)])) _
    refine st5 _ ?_
    show Steps p.tables e below (T5.setTop (mkF m 9 #[.val (.ref a1), .val (.long q2), .second, .val (.ref a3)] [])) _
    refine XS.aloadN X5.here hx rfl (hb hby d4_9) rfl rfl ?_
    show Steps p.tables e below (T5.setTop (mkF m 10 #[.val (.ref a1), .val (.long q2), .second, .val (.ref a3)] [(.ref a1)])) _
    refine XS.aloadN X5.here hx rfl (hb hby d4_10) rfl rfl ?_
    show Steps p.tables e below (T5.setTop (mkF m 11 #[.val (.ref a1), .val (.long q2), .second, .val (.ref a3)] [(.ref a3), (.ref a1)])) _
    refine st6 _ ?_
    show Steps p.tables e below (T6.setTop (mkF m 14 #[.val (.ref a1), .val (.long q2), .second, .val (.ref a3)] [])) _
    exact X6.returnOut hx Bd.returns (hb hby d4_14) hr
  · show QI1 Z a1 q2 a3 u1 h0 n0 _ T6.heap _
    rw [e6]
    exact ⟨rfl, N6, Kp, F_left_a1, F_whole_a1⟩
def QC (Z : State) (a1 : Addr) (q2 : Int64) (u1 : Int64) (h0 : Heap) (n0 : Nat) (v : Option Value) (h : Heap) (L : List Loc) : Prop := v = none ∧ Fr n0 L ∧ (Keep h0 h [a1]) ∧ (Fld Z h a1 "com/example/regolo/regolo/engine/Work" "left" "J" (.long q2)) ∧ (Fld Z h a1 "com/example/regolo/regolo/engine/Work" "whole" "Lcom/example/regolo/regolo/engine/Work;" .null)
theorem ef_C (m : MethodId) (a1 : Addr) (q2 : Int64) : entryFrame m #[(.ref a1), (.long q2)] 3 = mkF m 0 #[.val (.ref a1), .val (.long q2), .second] [] := by first | (simp [entryFrame, mkF, argsToLocals, Value.category]; done) | rfl
set_option maxRecDepth 65536 in
set_option maxHeartbeats 40000000 in
theorem rmC (l : Launch) (Z : State) (a0 : Array Value) (hw : ∀ d ∈ tables_1, d.before a0 Z = true) (ws : List Jvm.Cond) (a1 : Addr) (q2 : Int64) (u1 : Int64) (h0 : Heap) (n0 : Nat) (Zs : n0 ≤ h0.size) (E_a1 : Exa Z h0 a1 "com/example/regolo/regolo/engine/Work") (F_left_a1 : Fld Z h0 a1 "com/example/regolo/regolo/engine/Work" "left" "J" (.long u1)) (F_whole_a1 : Fld Z h0 a1 "com/example/regolo/regolo/engine/Work" "whole" "Lcom/example/regolo/regolo/engine/Work;" .null) (g_a1 : n0 ≤ a1) :
    MetFree l (⟨"com/example/regolo/regolo/engine/Work", "<init>", "(J)V"⟩ : MethodName) (head1 (Jvm.Cond.code (⟨"com/example/regolo/regolo/engine/Work", "<init>", "(J)V"⟩ : MethodName) prog_77_method_1_code 3 none :: ws) ({ frames := 2, cells := 0, slots := 0, locals := 27 } : Room)) (fun a U => a = #[(.ref a1), (.long q2)] ∧ Z.Warmed39 U.vm ∧ U.heap = h0) (fun _ _ _ _ _ => True) (fun _ U o U' => ∃ v L, o = .returned v ∧ QC Z a1 q2 u1 h0 n0 v U'.heap L ∧ FrameEnd U o U' L ({ frames := 2, cells := 0, slots := 0, locals := 27 } : Room).cells ({ frames := 2, cells := 0, slots := 0, locals := 27 } : Room).slots) := by
  refine MetFree.of_bodySF (plainFor_of_name pn_1) hisR ?_
  intro p e s m args below meth c s₁ Bd hml0 hP hK
  obtain ⟨rfl, hZ, hh⟩ := hP
  have hx := Bd.exec
  have hby := Bd.bytes
  have hml : c.maxLocals = 3 := hml0
  have hown : s.vm.findClass "com/example/regolo/regolo/engine/Work" = some m.cls := findClass_of_methodNamed Bd.named
  have hnm := (name_of_methodNamed Bd.named Bd.method).1
  have X0 : Stand p l e ({ frames := 2, cells := 0, slots := 0, locals := 27 } : Room) s m #[(.ref a1), (.long q2)] below meth c s₁ [] 0 0 := Stand.of_body Bd
  have e0 : s₁.heap = h0 := by rw [← hh, Bd.state]; rfl
  have N0 := Fr.nil n0
  have pre0 : ∀ t, Steps p.tables e below (s₁.setTop (mkF m 0 #[.val (.ref a1), .val (.long q2), .second] [])) t → Steps p.tables e below (s₁.setTop (entryFrame m #[(.ref a1), (.long q2)] 3)) t := fun t k => castTop (ef_C m a1 q2) k
  have Kp : Keep h0 h0 [a1] := Keep.refl h0 [a1]
  obtain ⟨_, _, ⟨T7, L7, k7, n7⟩, -, X7, ⟨Lc7, hQ7, l7, y7, z7⟩, st7⟩ := X0.specialBack hx (y := (⟨"com/example/regolo/regolo/engine/Work", "<init>", "(JLcom/example/regolo/regolo/engine/Work;)V"⟩ : MethodName)) rfl hown (mvT hZ (hw _ (List.mem_of_getElem? (i := 14) rfl))) (mvT hZ (hw _ (List.mem_of_getElem? (i := 15) rfl))) (mvT hZ (hw _ (List.mem_of_getElem? (i := 16) rfl))) (by decide) (backOf (W := 0) (rmI0 l Z a0 hw [] a1 q2 u1 h0 n0 Zs E_a1 F_left_a1 F_whole_a1 g_a1) hZ (hw _ (List.mem_of_getElem? (i := 16) rfl)) (hw _ (List.mem_of_getElem? (i := 10) rfl)) (by decide) (by decide)) (g := (mkF m 3 #[.val (.ref a1), .val (.long q2), .second] [.null, (.long q2), (.ref a1)])) rfl (by rw [hml]; rfl) (Steps.refl _) (a := a1) (argsL := [(.long q2), .null]) (rest := []) (lenOf pd_0 rfl) rfl (by show 2 * 0 + _ ≤ _; exact Nat.le_of_eq rfl) (hb hby d3_3) (fun _ _ => ⟨rfl, e0, (by decide : 0 + 0 ≤ _), (by decide : 0 + 0 ≤ _)⟩)
  dsimp only [Pt.U, Pt.locs, Pt.cells, Pt.slots] at X7 l7 y7 z7 st7 hQ7
  subst l7 y7 z7
  obtain ⟨rfl, N7q, K7, P7_1, P7_2⟩ := hQ7
  have Zs : n0 ≤ T7.heap.size := Nat.le_trans Zs K7.1
  have E_a1 : Exa Z T7.heap a1 "com/example/regolo/regolo/engine/Work" := E_a1.keep K7
  have Kp : Keep h0 T7.heap [a1] := Kp.trans K7 (allS (Or.inl (List.mem_of_getElem? (i := 0) rfl)) all0)
  have F_left_a1 : Fld Z T7.heap a1 "com/example/regolo/regolo/engine/Work" "left" "J" (.long q2) := P7_1
  have F_whole_a1 : Fld Z T7.heap a1 "com/example/regolo/regolo/engine/Work" "whole" "Lcom/example/regolo/regolo/engine/Work;" .null := P7_2
  have N7 := Fr.app N0 N7q
  obtain ⟨fs, hr, hrun, hended, hW, hsame⟩ := X7.leave (v := none) (fun _ => rfl)
  refine ⟨_, _, pre0 _ ?_, hrun, hended, _, _, rfl, ?_, ⟨_, rfl⟩, hW, hsame.mono (by decide) (by decide)⟩
  · show Steps p.tables e below (s₁.setTop (mkF m 0 #[.val (.ref a1), .val (.long q2), .second] [])) _
    refine XS.aloadN X0.here hx rfl (hb hby d3_0) rfl rfl ?_
    show Steps p.tables e below (s₁.setTop (mkF m 1 #[.val (.ref a1), .val (.long q2), .second] [(.ref a1)])) _
    refine XS.lloadN X0.here hx rfl (hb hby d3_1) rfl ?_
    show Steps p.tables e below (s₁.setTop (mkF m 2 #[.val (.ref a1), .val (.long q2), .second] [(.long q2), (.ref a1)])) _
    refine XS.aconstNull X0.here hx rfl (hb hby d3_2) ?_
    show Steps p.tables e below (s₁.setTop (mkF m 3 #[.val (.ref a1), .val (.long q2), .second] [.null, (.long q2), (.ref a1)])) _
    refine st7.trans ?_
    show Steps p.tables e below (T7.setTop (mkF m 6 #[.val (.ref a1), .val (.long q2), .second] [])) _
    exact X7.returnOut hx Bd.returns (hb hby d3_6) hr
  · show QC Z a1 q2 u1 h0 n0 _ T7.heap _
    exact ⟨rfl, N7, Kp, F_left_a1, F_whole_a1⟩
def QP (Z : State) (a1 : Addr) (q2 : Int64) (h0 : Heap) (n0 : Nat) (v : Option Value) (h : Heap) (L : List Loc) : Prop := ∃ b : Addr, v = some (.ref b) ∧ Fr n0 L ∧ (Keep h0 h []) ∧ (h0.size ≤ b) ∧ (n0 ≤ b) ∧ (Exa Z h b "com/example/regolo/regolo/engine/Work") ∧ (Fld Z h b "com/example/regolo/regolo/engine/Work" "left" "J" (.long q2)) ∧ (Fld Z h b "com/example/regolo/regolo/engine/Work" "whole" "Lcom/example/regolo/regolo/engine/Work;" (.ref a1))
theorem ef_P (m : MethodId) (a1 : Addr) (q2 : Int64) : entryFrame m #[(.ref a1), (.long q2)] 3 = mkF m 0 #[.val (.ref a1), .val (.long q2), .second] [] := by first | (simp [entryFrame, mkF, argsToLocals, Value.category]; done) | rfl
set_option maxRecDepth 65536 in
set_option maxHeartbeats 40000000 in
theorem rmP (l : Launch) (Z : State) (a0 : Array Value) (hw : ∀ d ∈ tables_1, d.before a0 Z = true) (ws : List Jvm.Cond) (a1 : Addr) (q2 : Int64) (h0 : Heap) (n0 : Nat) (Zs : n0 ≤ h0.size)  :
    MetFree l (⟨"com/example/regolo/regolo/engine/Work", "part", "(J)Lcom/example/regolo/regolo/engine/Work;"⟩ : MethodName) (head1 (Jvm.Cond.code (⟨"com/example/regolo/regolo/engine/Work", "part", "(J)Lcom/example/regolo/regolo/engine/Work;"⟩ : MethodName) prog_77_method_3_code 3 (some (.object "com/example/regolo/regolo/engine/Work")) :: ws) ({ frames := 2, cells := 1, slots := 2, locals := 28 } : Room)) (fun a U => a = #[(.ref a1), (.long q2)] ∧ Z.Warmed39 U.vm ∧ U.heap = h0) (fun _ _ _ _ _ => True) (fun _ U o U' => ∃ v L, o = .returned v ∧ QP Z a1 q2 h0 n0 v U'.heap L ∧ FrameEnd U o U' L ({ frames := 2, cells := 1, slots := 2, locals := 28 } : Room).cells ({ frames := 2, cells := 1, slots := 2, locals := 28 } : Room).slots) := by
  refine MetFree.of_bodySF (plainFor_of_name pn_1) hisR ?_
  intro p e s m args below meth c s₁ Bd hml0 hP hK
  obtain ⟨rfl, hZ, hh⟩ := hP
  have hx := Bd.exec
  have hby := Bd.bytes
  have hml : c.maxLocals = 3 := hml0
  have hown : s.vm.findClass "com/example/regolo/regolo/engine/Work" = some m.cls := findClass_of_methodNamed Bd.named
  have hnm := (name_of_methodNamed Bd.named Bd.method).1
  have X0 : Stand p l e ({ frames := 2, cells := 1, slots := 2, locals := 28 } : Room) s m #[(.ref a1), (.long q2)] below meth c s₁ [] 0 0 := Stand.of_body Bd
  have e0 : s₁.heap = h0 := by rw [← hh, Bd.state]; rfl
  have N0 := Fr.nil n0
  have pre0 : ∀ t, Steps p.tables e below (s₁.setTop (mkF m 0 #[.val (.ref a1), .val (.long q2), .second] [])) t → Steps p.tables e below (s₁.setTop (entryFrame m #[(.ref a1), (.long q2)] 3)) t := fun t k => castTop (ef_P m a1 q2) k
  have Kp : Keep h0 h0 [] := Keep.refl h0 []
  obtain ⟨T8, h8, X8, e8, E8, A8, D8, -, st8⟩ := newO X0 hx hZ hown (hw _ (List.mem_of_getElem? (i := 29) rfl)) (hw _ (List.mem_of_getElem? (i := 9) rfl)) (hw _ (List.mem_of_getElem? (i := 10) rfl)) e0 (g := (mkF m 0 #[.val (.ref a1), .val (.long q2), .second] [])) rfl (hb hby d6_0) (by decide) (by decide)
  obtain ⟨b8, g8⟩ : ∃ z, z = h0.size := ⟨_, rfl⟩
  rw [← g8] at A8 D8 st8
  have g_b8 : n0 ≤ b8 := Nat.le_trans Zs (Nat.le_of_eq g8.symm)
  have sz_b8 : h0.size ≤ b8 := Nat.le_trans Kp.1 (Nat.le_of_eq g8.symm)
  have Zs : n0 ≤ h8.size := Nat.le_trans Zs E8.1
  have Kp : Keep h0 h8 [] := Kp.ext E8
  have E_b8 : Exa Z h8 b8 "com/example/regolo/regolo/engine/Work" := A8
  have F_left_b8 : Fld Z h8 b8 "com/example/regolo/regolo/engine/Work" "left" "J" (.long (0 : Int64)) := D8 (Or.inl (hw _ (List.mem_of_getElem? (i := 21) rfl))) (ty := .long) (by decide)
  have F_whole_b8 : Fld Z h8 b8 "com/example/regolo/regolo/engine/Work" "whole" "Lcom/example/regolo/regolo/engine/Work;" .null := D8 (Or.inr (hw _ (List.mem_of_getElem? (i := 23) rfl))) (ty := (.object "com/example/regolo/regolo/engine/Work")) (by decide)
  obtain ⟨_, _, ⟨T9, L9, k9, n9⟩, -, X9, ⟨Lc9, hQ9, l9, y9, z9⟩, st9⟩ := X8.specialBack hx (y := (⟨"com/example/regolo/regolo/engine/Work", "<init>", "(JLcom/example/regolo/regolo/engine/Work;)V"⟩ : MethodName)) rfl hown (mvT hZ (hw _ (List.mem_of_getElem? (i := 14) rfl))) (mvT hZ (hw _ (List.mem_of_getElem? (i := 15) rfl))) (mvT hZ (hw _ (List.mem_of_getElem? (i := 16) rfl))) (by decide) (backOf (W := 1) (rmI1 l Z a0 hw [] b8 q2 a1 (0 : Int64) h8 n0 Zs E_b8 F_left_b8 F_whole_b8 g_b8) hZ (hw _ (List.mem_of_getElem? (i := 16) rfl)) (hw _ (List.mem_of_getElem? (i := 10) rfl)) (by decide) (by decide)) (g := (mkF m 6 #[.val (.ref a1), .val (.long q2), .second] [(.ref a1), (.long q2), (.ref b8), (.ref b8)])) rfl (by rw [hml]; rfl) (Steps.refl _) (a := b8) (argsL := [(.long q2), (.ref a1)]) (rest := [(.ref b8)]) (lenOf pd_0 rfl) rfl (by show 2 * 0 + _ ≤ _; exact Nat.le_of_eq rfl) (hb hby d6_6) (fun _ _ => ⟨rfl, e8, (by decide : 1 + 0 ≤ _), (by decide : 2 + 0 ≤ _)⟩)
  dsimp only [Pt.U, Pt.locs, Pt.cells, Pt.slots] at X9 l9 y9 z9 st9 hQ9
  subst l9 y9 z9
  obtain ⟨rfl, N9q, K9, P9_1, P9_2⟩ := hQ9
  have Zs : n0 ≤ T9.heap.size := Nat.le_trans Zs K9.1
  have Kp : Keep h0 T9.heap [] := Kp.trans K9 (allS (Or.inr sz_b8) all0)
  have E_b8 : Exa Z T9.heap b8 "com/example/regolo/regolo/engine/Work" := E_b8.keep K9
  have F_left_b8 : Fld Z T9.heap b8 "com/example/regolo/regolo/engine/Work" "left" "J" (.long q2) := P9_1
  have F_whole_b8 : Fld Z T9.heap b8 "com/example/regolo/regolo/engine/Work" "whole" "Lcom/example/regolo/regolo/engine/Work;" (.ref a1) := P9_2
  have N9 := Fr.app N0 N9q
  obtain ⟨fs, hr, hrun, hended, hW, hsame⟩ := X9.leave (v := some (.ref b8)) (fun h => by rw [Bd.returns] at h; cases h)
  refine ⟨_, _, pre0 _ ?_, hrun, hended, _, _, rfl, ?_, ⟨_, rfl⟩, hW, hsame.mono (by decide) (by decide)⟩
  · show Steps p.tables e below (s₁.setTop (mkF m 0 #[.val (.ref a1), .val (.long q2), .second] [])) _
    refine st8 _ ?_
    show Steps p.tables e below (T8.setTop (mkF m 3 #[.val (.ref a1), .val (.long q2), .second] [(.ref b8)])) _
    refine XS.dup X8.here hx rfl (hb hby d6_3) rfl rfl ?_
    show Steps p.tables e below (T8.setTop (mkF m 4 #[.val (.ref a1), .val (.long q2), .second] [(.ref b8), (.ref b8)])) _
    refine XS.lloadN X8.here hx rfl (hb hby d6_4) rfl ?_
    show Steps p.tables e below (T8.setTop (mkF m 5 #[.val (.ref a1), .val (.long q2), .second] [(.long q2), (.ref b8), (.ref b8)])) _
    refine XS.aloadN X8.here hx rfl (hb hby d6_5) rfl rfl ?_
    show Steps p.tables e below (T8.setTop (mkF m 6 #[.val (.ref a1), .val (.long q2), .second] [(.ref a1), (.long q2), (.ref b8), (.ref b8)])) _
    refine st9.trans ?_
    show Steps p.tables e below (T9.setTop (mkF m 9 #[.val (.ref a1), .val (.long q2), .second] [(.ref b8)])) _
    exact retOut X9 hx Bd.returns rfl (Or.inr (Or.inr (Or.inr (Or.inr ⟨rfl, rfl, rfl⟩)))) (hb hby d6_9) hr
  · show QP Z a1 q2 h0 n0 _ T9.heap _
    exact ⟨b8, rfl, N9, Kp, sz_b8, g_b8, E_b8, F_left_b8, F_whole_b8⟩
def QS0 (Z : State) (a1 : Addr) (q2 : Int64) (w1 : Int64) (h0 : Heap) (n0 : Nat) (v : Option Value) (h : Heap) (L : List Loc) : Prop := v = none ∧ Fr n0 L ∧ (Keep h0 h [a1]) ∧ (Fld Z h a1 "com/example/regolo/regolo/engine/Work" "left" "J" (.long (w1 - q2))) ∧ (Fld Z h a1 "com/example/regolo/regolo/engine/Work" "whole" "Lcom/example/regolo/regolo/engine/Work;" .null)
theorem ef_S0 (m : MethodId) (a1 : Addr) (q2 : Int64) : entryFrame m #[(.ref a1), (.long q2)] 3 = mkF m 0 #[.val (.ref a1), .val (.long q2), .second] [] := by first | (simp [entryFrame, mkF, argsToLocals, Value.category]; done) | rfl
set_option maxRecDepth 65536 in
set_option maxHeartbeats 40000000 in
theorem rmS0 (l : Launch) (Z : State) (a0 : Array Value) (hw : ∀ d ∈ tables_1, d.before a0 Z = true) (ws : List Jvm.Cond) (a1 : Addr) (q2 : Int64) (w1 : Int64) (h0 : Heap) (n0 : Nat) (Zs : n0 ≤ h0.size) (E_a1 : Exa Z h0 a1 "com/example/regolo/regolo/engine/Work") (F_left_a1 : Fld Z h0 a1 "com/example/regolo/regolo/engine/Work" "left" "J" (.long w1)) (F_whole_a1 : Fld Z h0 a1 "com/example/regolo/regolo/engine/Work" "whole" "Lcom/example/regolo/regolo/engine/Work;" .null) (g_a1 : n0 ≤ a1) :
    MetFree l (⟨"com/example/regolo/regolo/engine/Work", "spend", "(J)V"⟩ : MethodName) (head1 (Jvm.Cond.code (⟨"com/example/regolo/regolo/engine/Work", "spend", "(J)V"⟩ : MethodName) prog_77_method_4_code 3 none :: ws) ({ frames := 0, cells := 0, slots := 0, locals := 0 } : Room)) (fun a U => a = #[(.ref a1), (.long q2)] ∧ Z.Warmed39 U.vm ∧ U.heap = h0) (fun _ _ _ _ _ => True) (fun _ U o U' => ∃ v L, o = .returned v ∧ QS0 Z a1 q2 w1 h0 n0 v U'.heap L ∧ FrameEnd U o U' L ({ frames := 0, cells := 0, slots := 0, locals := 0 } : Room).cells ({ frames := 0, cells := 0, slots := 0, locals := 0 } : Room).slots) := by
  refine MetFree.of_bodySF (plainFor_of_name pn_1) hisR ?_
  intro p e s m args below meth c s₁ Bd hml0 hP hK
  obtain ⟨rfl, hZ, hh⟩ := hP
  have hx := Bd.exec
  have hby := Bd.bytes
  have hml : c.maxLocals = 3 := hml0
  have hown : s.vm.findClass "com/example/regolo/regolo/engine/Work" = some m.cls := findClass_of_methodNamed Bd.named
  have hnm := (name_of_methodNamed Bd.named Bd.method).1
  have X0 : Stand p l e ({ frames := 0, cells := 0, slots := 0, locals := 0 } : Room) s m #[(.ref a1), (.long q2)] below meth c s₁ [] 0 0 := Stand.of_body Bd
  have e0 : s₁.heap = h0 := by rw [← hh, Bd.state]; rfl
  have N0 := Fr.nil n0
  have pre0 : ∀ t, Steps p.tables e below (s₁.setTop (mkF m 0 #[.val (.ref a1), .val (.long q2), .second] [])) t → Steps p.tables e below (s₁.setTop (entryFrame m #[(.ref a1), (.long q2)] 3)) t := fun t k => castTop (ef_S0 m a1 q2) k
  have Kp : Keep h0 h0 [a1] := Keep.refl h0 [a1]
  obtain ⟨T10, X10, e10, st10⟩ := getF X0 hx hZ hown (host := "") (Or.inl (hw _ (List.mem_of_getElem? (i := 20) rfl))) Via.refl e0 F_left_a1 (g := (mkF m 2 #[.val (.ref a1), .val (.long q2), .second] [(.ref a1), (.ref a1)])) rfl rfl (hb hby d7_2)
  obtain ⟨T11, h11, X11, e11, W11, st11⟩ := putF X10 hx hZ hown (host := "") (Or.inl (hw _ (List.mem_of_getElem? (i := 20) rfl))) Via.refl e10 F_left_a1 E_a1 (Or.inl (hw _ (List.mem_of_getElem? (i := 21) rfl))) (hw _ (List.mem_of_getElem? (i := 9) rfl)) (ty := .long) (by decide) rfl rfl (g := (mkF m 7 #[.val (.ref a1), .val (.long q2), .second] [(.long (w1 - q2)), (.ref a1)])) rfl rfl (hb hby d7_7)
  have N11 := Fr.snoc X11 N0 g_a1
  have Zs : n0 ≤ h11.size := Nat.le_trans Zs (Keep.of_wr W11).1
  have E_a1 : Exa Z h11 a1 "com/example/regolo/regolo/engine/Work" := E_a1.wr W11
  have F_left_a1 : Fld Z h11 a1 "com/example/regolo/regolo/engine/Work" "left" "J" (.long (w1 - q2)) := F_left_a1.same W11
  have F_whole_a1 : Fld Z h11 a1 "com/example/regolo/regolo/engine/Work" "whole" "Lcom/example/regolo/regolo/engine/Work;" .null := F_whole_a1.other W11 (Or.inr (slot_ne (Or.inr (hw _ (List.mem_of_getElem? (i := 23) rfl))) (Or.inl (hw _ (List.mem_of_getElem? (i := 21) rfl))) (by decide) (t := (.object "com/example/regolo/regolo/engine/Work")) (t' := .long) (by decide) (by decide)))
  have Kp : Keep h0 h11 [a1] := Kp.wr W11 (Or.inl (List.mem_of_getElem? (i := 0) rfl))
  obtain ⟨T12, X12, e12, st12⟩ := getF X11 hx hZ hown (host := "") (Or.inl (hw _ (List.mem_of_getElem? (i := 22) rfl))) Via.refl e11 F_whole_a1 (g := (mkF m 11 #[.val (.ref a1), .val (.long q2), .second] [(.ref a1)])) rfl rfl (hb hby d7_11)
  obtain ⟨fs, hr, hrun, hended, hW, hsame⟩ := X12.leave (v := none) (fun _ => rfl)
  refine ⟨_, _, pre0 _ ?_, hrun, hended, _, _, rfl, ?_, ⟨_, rfl⟩, hW, hsame.mono (by decide) (by decide)⟩
  · show Steps p.tables e below (s₁.setTop (mkF m 0 #[.val (.ref a1), .val (.long q2), .second] [])) _
    refine XS.aloadN X0.here hx rfl (hb hby d7_0) rfl rfl ?_
    show Steps p.tables e below (s₁.setTop (mkF m 1 #[.val (.ref a1), .val (.long q2), .second] [(.ref a1)])) _
    refine XS.dup X0.here hx rfl (hb hby d7_1) rfl rfl ?_
    show Steps p.tables e below (s₁.setTop (mkF m 2 #[.val (.ref a1), .val (.long q2), .second] [(.ref a1), (.ref a1)])) _
    refine st10 _ ?_
    show Steps p.tables e below (T10.setTop (mkF m 5 #[.val (.ref a1), .val (.long q2), .second] [(.long w1), (.ref a1)])) _
    refine XS.lloadN X10.here hx rfl (hb hby d7_5) rfl ?_
    show Steps p.tables e below (T10.setTop (mkF m 6 #[.val (.ref a1), .val (.long q2), .second] [(.long q2), (.long w1), (.ref a1)])) _
    refine XS.lsub X10.here hx rfl (hb hby d7_6) rfl ?_
    show Steps p.tables e below (T10.setTop (mkF m 7 #[.val (.ref a1), .val (.long q2), .second] [(.long (w1 - q2)), (.ref a1)])) _
    refine st11 _ ?_
    show Steps p.tables e below (T11.setTop (mkF m 10 #[.val (.ref a1), .val (.long q2), .second] [])) _
    refine XS.aloadN X11.here hx rfl (hb hby d7_10) rfl rfl ?_
    show Steps p.tables e below (T11.setTop (mkF m 11 #[.val (.ref a1), .val (.long q2), .second] [(.ref a1)])) _
    refine st12 _ ?_
    show Steps p.tables e below (T12.setTop (mkF m 14 #[.val (.ref a1), .val (.long q2), .second] [.null])) _
    refine XS.ifnullYes X12.here hx rfl (pc0 := 14) (pc' := 25) rfl (hb hby d7_14) rfl (by decide) (by decide) ?_
    show Steps p.tables e below (T12.setTop (mkF m 25 #[.val (.ref a1), .val (.long q2), .second] [])) _
    exact X12.returnOut hx Bd.returns (hb hby d7_25) hr
  · show QS0 Z a1 q2 w1 h0 n0 _ T12.heap _
    rw [e12]
    exact ⟨rfl, N11, Kp, F_left_a1, F_whole_a1⟩
def QS1 (Z : State) (a1 : Addr) (q2 : Int64) (w1 : Int64) (a3 : Addr) (w3 : Int64) (h0 : Heap) (n0 : Nat) (v : Option Value) (h : Heap) (L : List Loc) : Prop := v = none ∧ Fr n0 L ∧ (Keep h0 h [a1, a3]) ∧ (Fld Z h a1 "com/example/regolo/regolo/engine/Work" "left" "J" (.long (w1 - q2))) ∧ (Fld Z h a1 "com/example/regolo/regolo/engine/Work" "whole" "Lcom/example/regolo/regolo/engine/Work;" (.ref a3)) ∧ (Fld Z h a3 "com/example/regolo/regolo/engine/Work" "left" "J" (.long (w3 - q2))) ∧ (Fld Z h a3 "com/example/regolo/regolo/engine/Work" "whole" "Lcom/example/regolo/regolo/engine/Work;" .null)
theorem ef_S1 (m : MethodId) (a1 : Addr) (q2 : Int64) : entryFrame m #[(.ref a1), (.long q2)] 3 = mkF m 0 #[.val (.ref a1), .val (.long q2), .second] [] := by first | (simp [entryFrame, mkF, argsToLocals, Value.category]; done) | rfl
set_option maxRecDepth 65536 in
set_option maxHeartbeats 40000000 in
theorem rmS1 (l : Launch) (Z : State) (a0 : Array Value) (hw : ∀ d ∈ tables_1, d.before a0 Z = true) (ws : List Jvm.Cond) (a1 : Addr) (q2 : Int64) (w1 : Int64) (a3 : Addr) (w3 : Int64) (h0 : Heap) (n0 : Nat) (Zs : n0 ≤ h0.size) (E_a1 : Exa Z h0 a1 "com/example/regolo/regolo/engine/Work") (F_left_a1 : Fld Z h0 a1 "com/example/regolo/regolo/engine/Work" "left" "J" (.long w1)) (F_whole_a1 : Fld Z h0 a1 "com/example/regolo/regolo/engine/Work" "whole" "Lcom/example/regolo/regolo/engine/Work;" (.ref a3)) (g_a1 : n0 ≤ a1) (E_a3 : Exa Z h0 a3 "com/example/regolo/regolo/engine/Work") (F_left_a3 : Fld Z h0 a3 "com/example/regolo/regolo/engine/Work" "left" "J" (.long w3)) (F_whole_a3 : Fld Z h0 a3 "com/example/regolo/regolo/engine/Work" "whole" "Lcom/example/regolo/regolo/engine/Work;" .null) (g_a3 : n0 ≤ a3) (ne_a1_a3 : a1 ≠ a3) :
    MetFree l (⟨"com/example/regolo/regolo/engine/Work", "spend", "(J)V"⟩ : MethodName) (head1 (Jvm.Cond.code (⟨"com/example/regolo/regolo/engine/Work", "spend", "(J)V"⟩ : MethodName) prog_77_method_4_code 3 none :: ws) ({ frames := 1, cells := 0, slots := 0, locals := 14 } : Room)) (fun a U => a = #[(.ref a1), (.long q2)] ∧ Z.Warmed39 U.vm ∧ U.heap = h0) (fun _ _ _ _ _ => True) (fun _ U o U' => ∃ v L, o = .returned v ∧ QS1 Z a1 q2 w1 a3 w3 h0 n0 v U'.heap L ∧ FrameEnd U o U' L ({ frames := 1, cells := 0, slots := 0, locals := 14 } : Room).cells ({ frames := 1, cells := 0, slots := 0, locals := 14 } : Room).slots) := by
  refine MetFree.of_bodySF (plainFor_of_name pn_1) hisR ?_
  intro p e s m args below meth c s₁ Bd hml0 hP hK
  obtain ⟨rfl, hZ, hh⟩ := hP
  have hx := Bd.exec
  have hby := Bd.bytes
  have hml : c.maxLocals = 3 := hml0
  have hown : s.vm.findClass "com/example/regolo/regolo/engine/Work" = some m.cls := findClass_of_methodNamed Bd.named
  have hnm := (name_of_methodNamed Bd.named Bd.method).1
  have X0 : Stand p l e ({ frames := 1, cells := 0, slots := 0, locals := 14 } : Room) s m #[(.ref a1), (.long q2)] below meth c s₁ [] 0 0 := Stand.of_body Bd
  have e0 : s₁.heap = h0 := by rw [← hh, Bd.state]; rfl
  have N0 := Fr.nil n0
  have pre0 : ∀ t, Steps p.tables e below (s₁.setTop (mkF m 0 #[.val (.ref a1), .val (.long q2), .second] [])) t → Steps p.tables e below (s₁.setTop (entryFrame m #[(.ref a1), (.long q2)] 3)) t := fun t k => castTop (ef_S1 m a1 q2) k
  have Kp : Keep h0 h0 [a1, a3] := Keep.refl h0 [a1, a3]
  obtain ⟨T13, X13, e13, st13⟩ := getF X0 hx hZ hown (host := "") (Or.inl (hw _ (List.mem_of_getElem? (i := 20) rfl))) Via.refl e0 F_left_a1 (g := (mkF m 2 #[.val (.ref a1), .val (.long q2), .second] [(.ref a1), (.ref a1)])) rfl rfl (hb hby d7_2)
  obtain ⟨T14, h14, X14, e14, W14, st14⟩ := putF X13 hx hZ hown (host := "") (Or.inl (hw _ (List.mem_of_getElem? (i := 20) rfl))) Via.refl e13 F_left_a1 E_a1 (Or.inl (hw _ (List.mem_of_getElem? (i := 21) rfl))) (hw _ (List.mem_of_getElem? (i := 9) rfl)) (ty := .long) (by decide) rfl rfl (g := (mkF m 7 #[.val (.ref a1), .val (.long q2), .second] [(.long (w1 - q2)), (.ref a1)])) rfl rfl (hb hby d7_7)
  have N14 := Fr.snoc X14 N0 g_a1
  have Zs : n0 ≤ h14.size := Nat.le_trans Zs (Keep.of_wr W14).1
  have E_a1 : Exa Z h14 a1 "com/example/regolo/regolo/engine/Work" := E_a1.wr W14
  have F_left_a1 : Fld Z h14 a1 "com/example/regolo/regolo/engine/Work" "left" "J" (.long (w1 - q2)) := F_left_a1.same W14
  have F_whole_a1 : Fld Z h14 a1 "com/example/regolo/regolo/engine/Work" "whole" "Lcom/example/regolo/regolo/engine/Work;" (.ref a3) := F_whole_a1.other W14 (Or.inr (slot_ne (Or.inr (hw _ (List.mem_of_getElem? (i := 23) rfl))) (Or.inl (hw _ (List.mem_of_getElem? (i := 21) rfl))) (by decide) (t := (.object "com/example/regolo/regolo/engine/Work")) (t' := .long) (by decide) (by decide)))
  have E_a3 : Exa Z h14 a3 "com/example/regolo/regolo/engine/Work" := E_a3.wr W14
  have F_left_a3 : Fld Z h14 a3 "com/example/regolo/regolo/engine/Work" "left" "J" (.long w3) := F_left_a3.other W14 (Or.inl (Ne.symm ne_a1_a3))
  have F_whole_a3 : Fld Z h14 a3 "com/example/regolo/regolo/engine/Work" "whole" "Lcom/example/regolo/regolo/engine/Work;" .null := F_whole_a3.other W14 (Or.inl (Ne.symm ne_a1_a3))
  have Kp : Keep h0 h14 [a1, a3] := Kp.wr W14 (Or.inl (List.mem_of_getElem? (i := 0) rfl))
  obtain ⟨T15, X15, e15, st15⟩ := getF X14 hx hZ hown (host := "") (Or.inl (hw _ (List.mem_of_getElem? (i := 22) rfl))) Via.refl e14 F_whole_a1 (g := (mkF m 11 #[.val (.ref a1), .val (.long q2), .second] [(.ref a1)])) rfl rfl (hb hby d7_11)
  obtain ⟨T16, X16, e16, st16⟩ := getF X15 hx hZ hown (host := "") (Or.inl (hw _ (List.mem_of_getElem? (i := 22) rfl))) Via.refl e15 F_whole_a1 (g := (mkF m 18 #[.val (.ref a1), .val (.long q2), .second] [(.ref a1)])) rfl rfl (hb hby d7_18)
  obtain ⟨cq17, kq17, q17a, q17b, q17c⟩ := isOf hZ e16 E_a3
  obtain ⟨_, _, ⟨T17, L17, k17, n17⟩, -, X17, ⟨Lc17, hQ17, l17, y17, z17⟩, st17⟩ := X16.virtualBack hx (y := (⟨"com/example/regolo/regolo/engine/Work", "spend", "(J)V"⟩ : MethodName)) (z := (⟨"com/example/regolo/regolo/engine/Work", "spend", "(J)V"⟩ : MethodName)) hown (mvT hZ (hw _ (List.mem_of_getElem? (i := 35) rfl))) (mvT hZ (hw _ (List.mem_of_getElem? (i := 31) rfl))) (notFace_of_selects (args := #[]) (mvT hZ (hw _ (List.mem_of_getElem? (i := 33) rfl)))) (mvT hZ (hw _ (List.mem_of_getElem? (i := 33) rfl))) (mvT hZ (hw _ (List.mem_of_getElem? (i := 32) rfl))) (by decide) (backOf (W := 0) (rmS0 l Z a0 hw [] a3 q2 w3 h14 n0 Zs E_a3 F_left_a3 F_whole_a3 g_a3) hZ (hw _ (List.mem_of_getElem? (i := 34) rfl)) (hw _ (List.mem_of_getElem? (i := 10) rfl)) (by decide) (by decide)) q17a q17c (g := (mkF m 22 #[.val (.ref a1), .val (.long q2), .second] [(.long q2), (.ref a3)])) rfl (by rw [hml]; rfl) (Steps.refl _) (argsL := [(.long q2)]) (rest := []) (lenOf pd_1 rfl) rfl (by show 2 * 0 + _ ≤ _; exact Nat.le_of_eq rfl) (hb hby d7_22) (fun _ _ => ⟨rfl, e16, (by decide : 0 + 0 ≤ _), (by decide : 0 + 0 ≤ _)⟩)
  dsimp only [Pt.U, Pt.locs, Pt.cells, Pt.slots] at X17 l17 y17 z17 st17 hQ17
  subst l17 y17 z17
  obtain ⟨rfl, N17q, K17, P17_1, P17_2⟩ := hQ17
  have Zs : n0 ≤ T17.heap.size := Nat.le_trans Zs K17.1
  have E_a1 : Exa Z T17.heap a1 "com/example/regolo/regolo/engine/Work" := E_a1.keep K17
  have F_left_a1 : Fld Z T17.heap a1 "com/example/regolo/regolo/engine/Work" "left" "J" (.long (w1 - q2)) := F_left_a1.keep K17 (ninS ne_a1_a3 nin0)
  have F_whole_a1 : Fld Z T17.heap a1 "com/example/regolo/regolo/engine/Work" "whole" "Lcom/example/regolo/regolo/engine/Work;" (.ref a3) := F_whole_a1.keep K17 (ninS ne_a1_a3 nin0)
  have E_a3 : Exa Z T17.heap a3 "com/example/regolo/regolo/engine/Work" := E_a3.keep K17
  have Kp : Keep h0 T17.heap [a1, a3] := Kp.trans K17 (allS (Or.inl (List.mem_of_getElem? (i := 1) rfl)) all0)
  have F_left_a3 : Fld Z T17.heap a3 "com/example/regolo/regolo/engine/Work" "left" "J" (.long (w3 - q2)) := P17_1
  have F_whole_a3 : Fld Z T17.heap a3 "com/example/regolo/regolo/engine/Work" "whole" "Lcom/example/regolo/regolo/engine/Work;" .null := P17_2
  have N17 := Fr.app N14 N17q
  obtain ⟨fs, hr, hrun, hended, hW, hsame⟩ := X17.leave (v := none) (fun _ => rfl)
  refine ⟨_, _, pre0 _ ?_, hrun, hended, _, _, rfl, ?_, ⟨_, rfl⟩, hW, hsame.mono (by decide) (by decide)⟩
  · show Steps p.tables e below (s₁.setTop (mkF m 0 #[.val (.ref a1), .val (.long q2), .second] [])) _
    refine XS.aloadN X0.here hx rfl (hb hby d7_0) rfl rfl ?_
    show Steps p.tables e below (s₁.setTop (mkF m 1 #[.val (.ref a1), .val (.long q2), .second] [(.ref a1)])) _
    refine XS.dup X0.here hx rfl (hb hby d7_1) rfl rfl ?_
    show Steps p.tables e below (s₁.setTop (mkF m 2 #[.val (.ref a1), .val (.long q2), .second] [(.ref a1), (.ref a1)])) _
    refine st13 _ ?_
    show Steps p.tables e below (T13.setTop (mkF m 5 #[.val (.ref a1), .val (.long q2), .second] [(.long w1), (.ref a1)])) _
    refine XS.lloadN X13.here hx rfl (hb hby d7_5) rfl ?_
    show Steps p.tables e below (T13.setTop (mkF m 6 #[.val (.ref a1), .val (.long q2), .second] [(.long q2), (.long w1), (.ref a1)])) _
    refine XS.lsub X13.here hx rfl (hb hby d7_6) rfl ?_
    show Steps p.tables e below (T13.setTop (mkF m 7 #[.val (.ref a1), .val (.long q2), .second] [(.long (w1 - q2)), (.ref a1)])) _
    refine st14 _ ?_
    show Steps p.tables e below (T14.setTop (mkF m 10 #[.val (.ref a1), .val (.long q2), .second] [])) _
    refine XS.aloadN X14.here hx rfl (hb hby d7_10) rfl rfl ?_
    show Steps p.tables e below (T14.setTop (mkF m 11 #[.val (.ref a1), .val (.long q2), .second] [(.ref a1)])) _
    refine st15 _ ?_
    show Steps p.tables e below (T15.setTop (mkF m 14 #[.val (.ref a1), .val (.long q2), .second] [(.ref a3)])) _
    refine XS.ifnullNo X15.here hx rfl (hb hby d7_14) rfl ?_
    show Steps p.tables e below (T15.setTop (mkF m 17 #[.val (.ref a1), .val (.long q2), .second] [])) _
    refine XS.aloadN X15.here hx rfl (hb hby d7_17) rfl rfl ?_
    show Steps p.tables e below (T15.setTop (mkF m 18 #[.val (.ref a1), .val (.long q2), .second] [(.ref a1)])) _
    refine st16 _ ?_
    show Steps p.tables e below (T16.setTop (mkF m 21 #[.val (.ref a1), .val (.long q2), .second] [(.ref a3)])) _
    refine XS.lloadN X16.here hx rfl (hb hby d7_21) rfl ?_
    show Steps p.tables e below (T16.setTop (mkF m 22 #[.val (.ref a1), .val (.long q2), .second] [(.long q2), (.ref a3)])) _
    refine st17.trans ?_
    show Steps p.tables e below (T17.setTop (mkF m 25 #[.val (.ref a1), .val (.long q2), .second] [])) _
    exact X17.returnOut hx Bd.returns (hb hby d7_25) hr
  · show QS1 Z a1 q2 w1 a3 w3 h0 n0 _ T17.heap _
    exact ⟨rfl, N17, Kp, F_left_a1, F_whole_a1, F_left_a3, F_whole_a3⟩
def QT0 (Z : State) (a1 : Addr) (w1 : Int64) (h0 : Heap) (n0 : Nat) (v : Option Value) (h : Heap) (L : List Loc) : Prop := v = some (.int (fT0 w1)) ∧ Fr n0 L ∧ h = h0
theorem ef_T0 (m : MethodId) (a1 : Addr) : entryFrame m #[(.ref a1)] 1 = mkF m 0 #[.val (.ref a1)] [] := by first | (simp [entryFrame, mkF, argsToLocals, Value.category]; done) | rfl
set_option maxRecDepth 65536 in
set_option maxHeartbeats 40000000 in
theorem rmT0 (l : Launch) (Z : State) (a0 : Array Value) (hw : ∀ d ∈ tables_1, d.before a0 Z = true) (ws : List Jvm.Cond) (a1 : Addr) (w1 : Int64) (h0 : Heap) (n0 : Nat) (Zs : n0 ≤ h0.size) (F_left_a1 : Fld Z h0 a1 "com/example/regolo/regolo/engine/Work" "left" "J" (.long w1)) (F_whole_a1 : Fld Z h0 a1 "com/example/regolo/regolo/engine/Work" "whole" "Lcom/example/regolo/regolo/engine/Work;" .null) :
    MetFree l (⟨"com/example/regolo/regolo/engine/Work", "spent", "()Z"⟩ : MethodName) (head1 (Jvm.Cond.code (⟨"com/example/regolo/regolo/engine/Work", "spent", "()Z"⟩ : MethodName) prog_77_method_5_code 1 (some .boolean) :: ws) ({ frames := 0, cells := 0, slots := 0, locals := 0 } : Room)) (fun a U => a = #[(.ref a1)] ∧ Z.Warmed39 U.vm ∧ U.heap = h0) (fun _ _ _ _ _ => True) (fun _ U o U' => ∃ v L, o = .returned v ∧ QT0 Z a1 w1 h0 n0 v U'.heap L ∧ FrameEnd U o U' L ({ frames := 0, cells := 0, slots := 0, locals := 0 } : Room).cells ({ frames := 0, cells := 0, slots := 0, locals := 0 } : Room).slots) := by
  refine MetFree.of_bodySF (plainFor_of_name pn_1) hisR ?_
  intro p e s m args below meth c s₁ Bd hml0 hP hK
  obtain ⟨rfl, hZ, hh⟩ := hP
  have hx := Bd.exec
  have hby := Bd.bytes
  have hml : c.maxLocals = 1 := hml0
  have hown : s.vm.findClass "com/example/regolo/regolo/engine/Work" = some m.cls := findClass_of_methodNamed Bd.named
  have hnm := (name_of_methodNamed Bd.named Bd.method).1
  have X0 : Stand p l e ({ frames := 0, cells := 0, slots := 0, locals := 0 } : Room) s m #[(.ref a1)] below meth c s₁ [] 0 0 := Stand.of_body Bd
  have e0 : s₁.heap = h0 := by rw [← hh, Bd.state]; rfl
  have N0 := Fr.nil n0
  have pre0 : ∀ t, Steps p.tables e below (s₁.setTop (mkF m 0 #[.val (.ref a1)] [])) t → Steps p.tables e below (s₁.setTop (entryFrame m #[(.ref a1)] 1)) t := fun t k => castTop (ef_T0 m a1) k
  obtain ⟨T18, X18, e18, st18⟩ := getF X0 hx hZ hown (host := "") (Or.inl (hw _ (List.mem_of_getElem? (i := 20) rfl))) Via.refl e0 F_left_a1 (g := (mkF m 1 #[.val (.ref a1)] [(.ref a1)])) rfl rfl (hb hby d8_1)
  have pre19 : ∀ t, Steps p.tables e below (T18.setTop (mkF m 6 #[.val (.ref a1)] [(.int (lcmpW w1 (0 : Int64)))])) t → Steps p.tables e below (s₁.setTop (entryFrame m #[(.ref a1)] 1)) t := fun t k => pre0 t (by
    show Steps p.tables e below (s₁.setTop (mkF m 0 #[.val (.ref a1)] [])) _
    refine XS.aloadN X0.here hx rfl (hb hby d8_0) rfl rfl ?_
    show Steps p.tables e below (s₁.setTop (mkF m 1 #[.val (.ref a1)] [(.ref a1)])) _
    refine st18 _ ?_
    show Steps p.tables e below (T18.setTop (mkF m 4 #[.val (.ref a1)] [(.long w1)])) _
    refine XS.lconst X18.here hx rfl (hb hby d8_4) ?_
    show Steps p.tables e below (T18.setTop (mkF m 5 #[.val (.ref a1)] [(.long (0 : Int64)), (.long w1)])) _
    refine XS.lcmp X18.here hx rfl (hb hby d8_5) rfl ?_
    exact k)
  by_cases hc6 : (0 : Int64) < w1
  ·
    obtain ⟨T20, X20, e20, st20⟩ := getF X18 hx hZ hown (host := "") (Or.inl (hw _ (List.mem_of_getElem? (i := 22) rfl))) Via.refl e18 F_whole_a1 (g := (mkF m 10 #[.val (.ref a1)] [(.ref a1)])) rfl rfl (hb hby d8_10)
    obtain ⟨fs, hr, hrun, hended, hW, hsame⟩ := X20.leave (v := some (.int (0 : Int32))) (fun h => by rw [Bd.returns] at h; cases h)
    refine ⟨_, _, pre19 _ ?_, hrun, hended, _, _, rfl, ?_, ⟨_, rfl⟩, hW, hsame.mono (by decide) (by decide)⟩
    · show Steps p.tables e below (T18.setTop (mkF m 6 #[.val (.ref a1)] [(.int (lcmpW w1 (0 : Int64)))])) _
      refine XS.ifNo X18.here hx rfl (hb hby d8_6) rfl ((if0 _ _).trans (tlt ((lw_gt w1 (0 : Int64)).mpr hc6)).2.2.2) ?_
      show Steps p.tables e below (T18.setTop (mkF m 9 #[.val (.ref a1)] [])) _
      refine XS.aloadN X18.here hx rfl (hb hby d8_9) rfl rfl ?_
      show Steps p.tables e below (T18.setTop (mkF m 10 #[.val (.ref a1)] [(.ref a1)])) _
      refine st20 _ ?_
      show Steps p.tables e below (T20.setTop (mkF m 13 #[.val (.ref a1)] [.null])) _
      refine XS.ifnullYes X20.here hx rfl (pc0 := 13) (pc' := 30) rfl (hb hby d8_13) rfl (by decide) (by decide) ?_
      show Steps p.tables e below (T20.setTop (mkF m 30 #[.val (.ref a1)] [])) _
      refine XS.iconst X20.here hx rfl (hb hby d8_30) ?_
      show Steps p.tables e below (T20.setTop (mkF m 31 #[.val (.ref a1)] [(.int (0 : Int32))])) _
      exact retN X20 hx (t := .boolean) Bd.returns (by simp) (hb hby d8_31) hr
    · show QT0 Z a1 w1 h0 n0 _ T20.heap _
      rw [e20]
      exact ⟨congrArg some (congrArg Value.int (show (0 : Int32) = (fT0 w1) from by rw [fT0, if_pos hc6])), N0, rfl⟩
  ·
    obtain ⟨fs, hr, hrun, hended, hW, hsame⟩ := X18.leave (v := some (.int (1 : Int32))) (fun h => by rw [Bd.returns] at h; cases h)
    refine ⟨_, _, pre19 _ ?_, hrun, hended, _, _, rfl, ?_, ⟨_, rfl⟩, hW, hsame.mono (by decide) (by decide)⟩
    · show Steps p.tables e below (T18.setTop (mkF m 6 #[.val (.ref a1)] [(.int (lcmpW w1 (0 : Int64)))])) _
      refine XS.ifYes X18.here hx rfl (pc0 := 6) (pc' := 26) rfl (hb hby d8_6) rfl ((if0 _ _).trans (flt (fun q => hc6 ((lw_gt w1 (0 : Int64)).mp q))).2.2.2) (by decide) (by decide) ?_
      show Steps p.tables e below (T18.setTop (mkF m 26 #[.val (.ref a1)] [])) _
      refine XS.iconst X18.here hx rfl (hb hby d8_26) ?_
      show Steps p.tables e below (T18.setTop (mkF m 27 #[.val (.ref a1)] [(.int (1 : Int32))])) _
      refine XS.goto X18.here hx rfl (pc0 := 27) (pc' := 31) rfl (hb hby d8_27) (by decide) (by decide) ?_
      show Steps p.tables e below (T18.setTop (mkF m 31 #[.val (.ref a1)] [(.int (1 : Int32))])) _
      exact retN X18 hx (t := .boolean) Bd.returns (by simp) (hb hby d8_31) hr
    · show QT0 Z a1 w1 h0 n0 _ T18.heap _
      rw [e18]
      exact ⟨congrArg some (congrArg Value.int (show (1 : Int32) = (fT0 w1) from by rw [fT0, if_neg hc6])), N0, rfl⟩
def QT1 (Z : State) (a1 : Addr) (w1 : Int64) (a3 : Addr) (w3 : Int64) (h0 : Heap) (n0 : Nat) (v : Option Value) (h : Heap) (L : List Loc) : Prop := v = some (.int (fT1 w1 w3)) ∧ Fr n0 L ∧ h = h0
theorem ef_T1 (m : MethodId) (a1 : Addr) : entryFrame m #[(.ref a1)] 1 = mkF m 0 #[.val (.ref a1)] [] := by first | (simp [entryFrame, mkF, argsToLocals, Value.category]; done) | rfl
set_option maxRecDepth 65536 in
set_option maxHeartbeats 40000000 in
theorem rmT1 (l : Launch) (Z : State) (a0 : Array Value) (hw : ∀ d ∈ tables_1, d.before a0 Z = true) (ws : List Jvm.Cond) (a1 : Addr) (w1 : Int64) (a3 : Addr) (w3 : Int64) (h0 : Heap) (n0 : Nat) (Zs : n0 ≤ h0.size) (F_left_a1 : Fld Z h0 a1 "com/example/regolo/regolo/engine/Work" "left" "J" (.long w1)) (F_whole_a1 : Fld Z h0 a1 "com/example/regolo/regolo/engine/Work" "whole" "Lcom/example/regolo/regolo/engine/Work;" (.ref a3)) (E_a3 : Exa Z h0 a3 "com/example/regolo/regolo/engine/Work") (F_left_a3 : Fld Z h0 a3 "com/example/regolo/regolo/engine/Work" "left" "J" (.long w3)) (F_whole_a3 : Fld Z h0 a3 "com/example/regolo/regolo/engine/Work" "whole" "Lcom/example/regolo/regolo/engine/Work;" .null) :
    MetFree l (⟨"com/example/regolo/regolo/engine/Work", "spent", "()Z"⟩ : MethodName) (head1 (Jvm.Cond.code (⟨"com/example/regolo/regolo/engine/Work", "spent", "()Z"⟩ : MethodName) prog_77_method_5_code 1 (some .boolean) :: ws) ({ frames := 1, cells := 0, slots := 0, locals := 12 } : Room)) (fun a U => a = #[(.ref a1)] ∧ Z.Warmed39 U.vm ∧ U.heap = h0) (fun _ _ _ _ _ => True) (fun _ U o U' => ∃ v L, o = .returned v ∧ QT1 Z a1 w1 a3 w3 h0 n0 v U'.heap L ∧ FrameEnd U o U' L ({ frames := 1, cells := 0, slots := 0, locals := 12 } : Room).cells ({ frames := 1, cells := 0, slots := 0, locals := 12 } : Room).slots) := by
  refine MetFree.of_bodySF (plainFor_of_name pn_1) hisR ?_
  intro p e s m args below meth c s₁ Bd hml0 hP hK
  obtain ⟨rfl, hZ, hh⟩ := hP
  have hx := Bd.exec
  have hby := Bd.bytes
  have hml : c.maxLocals = 1 := hml0
  have hown : s.vm.findClass "com/example/regolo/regolo/engine/Work" = some m.cls := findClass_of_methodNamed Bd.named
  have hnm := (name_of_methodNamed Bd.named Bd.method).1
  have X0 : Stand p l e ({ frames := 1, cells := 0, slots := 0, locals := 12 } : Room) s m #[(.ref a1)] below meth c s₁ [] 0 0 := Stand.of_body Bd
  have e0 : s₁.heap = h0 := by rw [← hh, Bd.state]; rfl
  have N0 := Fr.nil n0
  have pre0 : ∀ t, Steps p.tables e below (s₁.setTop (mkF m 0 #[.val (.ref a1)] [])) t → Steps p.tables e below (s₁.setTop (entryFrame m #[(.ref a1)] 1)) t := fun t k => castTop (ef_T1 m a1) k
  obtain ⟨T21, X21, e21, st21⟩ := getF X0 hx hZ hown (host := "") (Or.inl (hw _ (List.mem_of_getElem? (i := 20) rfl))) Via.refl e0 F_left_a1 (g := (mkF m 1 #[.val (.ref a1)] [(.ref a1)])) rfl rfl (hb hby d8_1)
  have pre22 : ∀ t, Steps p.tables e below (T21.setTop (mkF m 6 #[.val (.ref a1)] [(.int (lcmpW w1 (0 : Int64)))])) t → Steps p.tables e below (s₁.setTop (entryFrame m #[(.ref a1)] 1)) t := fun t k => pre0 t (by
    show Steps p.tables e below (s₁.setTop (mkF m 0 #[.val (.ref a1)] [])) _
    refine XS.aloadN X0.here hx rfl (hb hby d8_0) rfl rfl ?_
    show Steps p.tables e below (s₁.setTop (mkF m 1 #[.val (.ref a1)] [(.ref a1)])) _
    refine st21 _ ?_
    show Steps p.tables e below (T21.setTop (mkF m 4 #[.val (.ref a1)] [(.long w1)])) _
    refine XS.lconst X21.here hx rfl (hb hby d8_4) ?_
    show Steps p.tables e below (T21.setTop (mkF m 5 #[.val (.ref a1)] [(.long (0 : Int64)), (.long w1)])) _
    refine XS.lcmp X21.here hx rfl (hb hby d8_5) rfl ?_
    exact k)
  by_cases hc6 : (0 : Int64) < w1
  ·
    obtain ⟨T23, X23, e23, st23⟩ := getF X21 hx hZ hown (host := "") (Or.inl (hw _ (List.mem_of_getElem? (i := 22) rfl))) Via.refl e21 F_whole_a1 (g := (mkF m 10 #[.val (.ref a1)] [(.ref a1)])) rfl rfl (hb hby d8_10)
    obtain ⟨T24, X24, e24, st24⟩ := getF X23 hx hZ hown (host := "") (Or.inl (hw _ (List.mem_of_getElem? (i := 22) rfl))) Via.refl e23 F_whole_a1 (g := (mkF m 17 #[.val (.ref a1)] [(.ref a1)])) rfl rfl (hb hby d8_17)
    obtain ⟨cq25, kq25, q25a, q25b, q25c⟩ := isOf hZ e24 E_a3
    obtain ⟨_, _, ⟨T25, L25, k25, n25⟩, -, X25, ⟨Lc25, hQ25, l25, y25, z25⟩, st25⟩ := X24.virtualBack hx (y := (⟨"com/example/regolo/regolo/engine/Work", "spent", "()Z"⟩ : MethodName)) (z := (⟨"com/example/regolo/regolo/engine/Work", "spent", "()Z"⟩ : MethodName)) hown (mvT hZ (hw _ (List.mem_of_getElem? (i := 41) rfl))) (mvT hZ (hw _ (List.mem_of_getElem? (i := 37) rfl))) (notFace_of_selects (args := #[]) (mvT hZ (hw _ (List.mem_of_getElem? (i := 39) rfl)))) (mvT hZ (hw _ (List.mem_of_getElem? (i := 39) rfl))) (mvT hZ (hw _ (List.mem_of_getElem? (i := 38) rfl))) (by decide) (backOf (W := 0) (rmT0 l Z a0 hw [] a3 w3 h0 n0 Zs F_left_a3 F_whole_a3) hZ (hw _ (List.mem_of_getElem? (i := 40) rfl)) (hw _ (List.mem_of_getElem? (i := 10) rfl)) (by decide) (by decide)) q25a q25c (g := (mkF m 20 #[.val (.ref a1)] [(.ref a3)])) rfl (by rw [hml]; rfl) (Steps.refl _) (argsL := []) (rest := []) (lenOf pd_2 rfl) rfl (by show 2 * 0 + _ ≤ _; exact Nat.le_of_eq rfl) (hb hby d8_20) (fun _ _ => ⟨rfl, e24, (by decide : 0 + 0 ≤ _), (by decide : 0 + 0 ≤ _)⟩)
    dsimp only [Pt.U, Pt.locs, Pt.cells, Pt.slots] at X25 l25 y25 z25 st25 hQ25
    subst l25 y25 z25
    obtain ⟨rfl, N25q, e25⟩ := hQ25
    have N25 := Fr.app N0 N25q
    have pre26 : ∀ t, Steps p.tables e below (T25.setTop (mkF m 23 #[.val (.ref a1)] [(.int (fT0 w3))])) t → Steps p.tables e below (s₁.setTop (entryFrame m #[(.ref a1)] 1)) t := fun t k => pre22 t (by
      show Steps p.tables e below (T21.setTop (mkF m 6 #[.val (.ref a1)] [(.int (lcmpW w1 (0 : Int64)))])) _
      refine XS.ifNo X21.here hx rfl (hb hby d8_6) rfl ((if0 _ _).trans (tlt ((lw_gt w1 (0 : Int64)).mpr hc6)).2.2.2) ?_
      show Steps p.tables e below (T21.setTop (mkF m 9 #[.val (.ref a1)] [])) _
      refine XS.aloadN X21.here hx rfl (hb hby d8_9) rfl rfl ?_
      show Steps p.tables e below (T21.setTop (mkF m 10 #[.val (.ref a1)] [(.ref a1)])) _
      refine st23 _ ?_
      show Steps p.tables e below (T23.setTop (mkF m 13 #[.val (.ref a1)] [(.ref a3)])) _
      refine XS.ifnullNo X23.here hx rfl (hb hby d8_13) rfl ?_
      show Steps p.tables e below (T23.setTop (mkF m 16 #[.val (.ref a1)] [])) _
      refine XS.aloadN X23.here hx rfl (hb hby d8_16) rfl rfl ?_
      show Steps p.tables e below (T23.setTop (mkF m 17 #[.val (.ref a1)] [(.ref a1)])) _
      refine st24 _ ?_
      show Steps p.tables e below (T24.setTop (mkF m 20 #[.val (.ref a1)] [(.ref a3)])) _
      refine st25.trans ?_
      exact k)
    by_cases hc23 : (fT0 w3) = (0 : Int32)
    ·
      obtain ⟨fs, hr, hrun, hended, hW, hsame⟩ := X25.leave (v := some (.int (0 : Int32))) (fun h => by rw [Bd.returns] at h; cases h)
      refine ⟨_, _, pre26 _ ?_, hrun, hended, _, _, rfl, ?_, ⟨_, rfl⟩, hW, hsame.mono (by decide) (by decide)⟩
      · show Steps p.tables e below (T25.setTop (mkF m 23 #[.val (.ref a1)] [(.int (fT0 w3))])) _
        refine XS.ifYes X25.here hx rfl (pc0 := 23) (pc' := 30) rfl (hb hby d8_23) rfl ((if0 _ _).trans (teq hc23).1) (by decide) (by decide) ?_
        show Steps p.tables e below (T25.setTop (mkF m 30 #[.val (.ref a1)] [])) _
        refine XS.iconst X25.here hx rfl (hb hby d8_30) ?_
        show Steps p.tables e below (T25.setTop (mkF m 31 #[.val (.ref a1)] [(.int (0 : Int32))])) _
        exact retN X25 hx (t := .boolean) Bd.returns (by simp) (hb hby d8_31) hr
      · show QT1 Z a1 w1 a3 w3 h0 n0 _ T25.heap _
        rw [e25]
        exact ⟨congrArg some (congrArg Value.int (show (0 : Int32) = (fT1 w1 w3) from by rw [fT1, if_pos hc6, if_pos hc23])), N25, rfl⟩
    ·
      obtain ⟨fs, hr, hrun, hended, hW, hsame⟩ := X25.leave (v := some (.int (1 : Int32))) (fun h => by rw [Bd.returns] at h; cases h)
      refine ⟨_, _, pre26 _ ?_, hrun, hended, _, _, rfl, ?_, ⟨_, rfl⟩, hW, hsame.mono (by decide) (by decide)⟩
      · show Steps p.tables e below (T25.setTop (mkF m 23 #[.val (.ref a1)] [(.int (fT0 w3))])) _
        refine XS.ifNo X25.here hx rfl (hb hby d8_23) rfl ((if0 _ _).trans (feq hc23).1) ?_
        show Steps p.tables e below (T25.setTop (mkF m 26 #[.val (.ref a1)] [])) _
        refine XS.iconst X25.here hx rfl (hb hby d8_26) ?_
        show Steps p.tables e below (T25.setTop (mkF m 27 #[.val (.ref a1)] [(.int (1 : Int32))])) _
        refine XS.goto X25.here hx rfl (pc0 := 27) (pc' := 31) rfl (hb hby d8_27) (by decide) (by decide) ?_
        show Steps p.tables e below (T25.setTop (mkF m 31 #[.val (.ref a1)] [(.int (1 : Int32))])) _
        exact retN X25 hx (t := .boolean) Bd.returns (by simp) (hb hby d8_31) hr
      · show QT1 Z a1 w1 a3 w3 h0 n0 _ T25.heap _
        rw [e25]
        exact ⟨congrArg some (congrArg Value.int (show (1 : Int32) = (fT1 w1 w3) from by rw [fT1, if_pos hc6, if_neg hc23])), N25, rfl⟩
  ·
    obtain ⟨fs, hr, hrun, hended, hW, hsame⟩ := X21.leave (v := some (.int (1 : Int32))) (fun h => by rw [Bd.returns] at h; cases h)
    refine ⟨_, _, pre22 _ ?_, hrun, hended, _, _, rfl, ?_, ⟨_, rfl⟩, hW, hsame.mono (by decide) (by decide)⟩
    · show Steps p.tables e below (T21.setTop (mkF m 6 #[.val (.ref a1)] [(.int (lcmpW w1 (0 : Int64)))])) _
      refine XS.ifYes X21.here hx rfl (pc0 := 6) (pc' := 26) rfl (hb hby d8_6) rfl ((if0 _ _).trans (flt (fun q => hc6 ((lw_gt w1 (0 : Int64)).mp q))).2.2.2) (by decide) (by decide) ?_
      show Steps p.tables e below (T21.setTop (mkF m 26 #[.val (.ref a1)] [])) _
      refine XS.iconst X21.here hx rfl (hb hby d8_26) ?_
      show Steps p.tables e below (T21.setTop (mkF m 27 #[.val (.ref a1)] [(.int (1 : Int32))])) _
      refine XS.goto X21.here hx rfl (pc0 := 27) (pc' := 31) rfl (hb hby d8_27) (by decide) (by decide) ?_
      show Steps p.tables e below (T21.setTop (mkF m 31 #[.val (.ref a1)] [(.int (1 : Int32))])) _
      exact retN X21 hx (t := .boolean) Bd.returns (by simp) (hb hby d8_31) hr
    · show QT1 Z a1 w1 a3 w3 h0 n0 _ T21.heap _
      rw [e21]
      exact ⟨congrArg some (congrArg Value.int (show (1 : Int32) = (fT1 w1 w3) from by rw [fT1, if_neg hc6])), N0, rfl⟩
def Q0 (Z : State) (q1 : Int64) (q2 : Int64) (q3 : Int64) (q4 : Int64) (q5 : Int64) (h0 : Heap) (n0 : Nat) (v : Option Value) (h : Heap) (L : List Loc) : Prop := v = some (.int (1 : Int32)) ∧ Fr n0 L
theorem ef_0 (m : MethodId) (q1 : Int64) (q2 : Int64) (q3 : Int64) (q4 : Int64) (q5 : Int64) : entryFrame m #[(.long q1), (.long q2), (.long q3), (.long q4), (.long q5)] maxLocals = mkF m 0 #[.val (.long q1), .second, .val (.long q2), .second, .val (.long q3), .second, .val (.long q4), .second, .val (.long q5), .second, .unset, .unset, .unset, .unset, .unset, .unset, .unset, .unset, .unset, .unset, .unset, .unset, .unset, .unset, .unset, .unset, .unset, .unset] [] := by first | (simp [entryFrame, mkF, argsToLocals, Value.category, maxLocals]; done) | rfl
set_option maxRecDepth 65536 in
set_option maxHeartbeats 40000000 in
theorem rm0 (l : Launch) (Z : State) (a0 : Array Value) (hw : ∀ d ∈ tables_1, d.before a0 Z = true) (ws : List Jvm.Cond) (q1 : Int64) (q2 : Int64) (q3 : Int64) (q4 : Int64) (q5 : Int64) (h0 : Heap) (n0 : Nat) (Zs : n0 ≤ h0.size)  :
    MetFree l x (head1 (Jvm.Cond.code x code maxLocals ret :: ws) room_1) (fun a U => a = #[(.long q1), (.long q2), (.long q3), (.long q4), (.long q5)] ∧ Z.Warmed39 U.vm ∧ U.heap = h0) (fun _ _ _ _ _ => True) (fun _ U o U' => ∃ v L, o = .returned v ∧ Q0 Z q1 q2 q3 q4 q5 h0 n0 v U'.heap L ∧ FrameEnd U o U' L room_1.cells room_1.slots) := by
  refine MetFree.of_bodySF (plainFor_of_name pn_0) hisR ?_
  intro p e s m args below meth c s₁ Bd hml0 hP hK
  obtain ⟨rfl, hZ, hh⟩ := hP
  have hx := Bd.exec
  have hby := Bd.bytes
  have hml : c.maxLocals = 28 := hml0
  have hown : s.vm.findClass "com/example/regolo/regolo/engine/WorkSpendPinLaw" = some m.cls := findClass_of_methodNamed Bd.named
  have hnm := (name_of_methodNamed Bd.named Bd.method).1
  have X0 : Stand p l e room_1 s m #[(.long q1), (.long q2), (.long q3), (.long q4), (.long q5)] below meth c s₁ [] 0 0 := Stand.of_body Bd
  have e0 : s₁.heap = h0 := by rw [← hh, Bd.state]; rfl
  have N0 := Fr.nil n0
  have pre0 : ∀ t, Steps p.tables e below (s₁.setTop (mkF m 0 #[.val (.long q1), .second, .val (.long q2), .second, .val (.long q3), .second, .val (.long q4), .second, .val (.long q5), .second, .unset, .unset, .unset, .unset, .unset, .unset, .unset, .unset, .unset, .unset, .unset, .unset, .unset, .unset, .unset, .unset, .unset, .unset] [])) t → Steps p.tables e below (s₁.setTop (entryFrame m #[(.long q1), (.long q2), (.long q3), (.long q4), (.long q5)] maxLocals)) t := fun t k => castTop (ef_0 m q1 q2 q3 q4 q5) k
  obtain ⟨_, _, ⟨T27, L27, k27, n27⟩, -, X27, ⟨Lc27, hQ27, l27, y27, z27⟩, st27⟩ := Jvm.LawKit.callS X0 hx (y := (⟨"com/example/regolo/regolo/engine/WorkSpendPinLaw", "budget", "(J)J"⟩ : MethodName)) hown (mvT hZ (hw _ (List.mem_of_getElem? (i := 0) rfl))) (mvT hZ (hw _ (List.mem_of_getElem? (i := 1) rfl))) (mvT hZ (hw _ (List.mem_of_getElem? (i := 2) rfl))) (mvT hZ (hw _ (List.mem_of_getElem? (i := 3) rfl))) (by decide) (backOf (W := 0) (rm1 l Z a0 hw [] q1 h0 n0 Zs ) hZ (hw _ (List.mem_of_getElem? (i := 3) rfl)) (hw _ (List.mem_of_getElem? (i := 2) rfl)) (by decide) (by decide)) (g := (mkF m 1 #[.val (.long q1), .second, .val (.long q2), .second, .val (.long q3), .second, .val (.long q4), .second, .val (.long q5), .second, .unset, .unset, .unset, .unset, .unset, .unset, .unset, .unset, .unset, .unset, .unset, .unset, .unset, .unset, .unset, .unset, .unset, .unset] [(.long q1)])) rfl (by rw [hml]; rfl) (argsL := [(.long q1)]) (rest := []) (lenOf pd_3 rfl) rfl (by show 2 * 0 + _ ≤ _; exact Nat.le_of_eq rfl) (hb hby at_1) (fun _ _ => ⟨rfl, e0, (by decide : 0 + 0 ≤ _), (by decide : 0 + 0 ≤ _)⟩)
  dsimp only [Pt.U, Pt.locs, Pt.cells, Pt.slots] at X27 l27 y27 z27 st27 hQ27
  subst l27 y27 z27
  obtain ⟨rfl, N27q, e27⟩ := hQ27
  have N27 := Fr.app N0 N27q
  obtain ⟨v4, hv4⟩ : ∃ z : Int64, z = (f1 q1) := ⟨_, rfl⟩
  have pre28 : ∀ t, Steps p.tables e below (T27.setTop (mkF m 6 #[.val (.long q1), .second, .val (.long q2), .second, .val (.long q3), .second, .val (.long q4), .second, .val (.long q5), .second, .val (.long v4), .second, .unset, .unset, .unset, .unset, .unset, .unset, .unset, .unset, .unset, .unset, .unset, .unset, .unset, .unset, .unset, .unset] [])) t → Steps p.tables e below (s₁.setTop (entryFrame m #[(.long q1), (.long q2), (.long q3), (.long q4), (.long q5)] maxLocals)) t := fun t k => pre0 t (by
    show Steps p.tables e below (s₁.setTop (mkF m 0 #[.val (.long q1), .second, .val (.long q2), .second, .val (.long q3), .second, .val (.long q4), .second, .val (.long q5), .second, .unset, .unset, .unset, .unset, .unset, .unset, .unset, .unset, .unset, .unset, .unset, .unset, .unset, .unset, .unset, .unset, .unset, .unset] [])) _
    refine XS.lloadN X0.here hx rfl (hb hby at_0) rfl ?_
    show Steps p.tables e below (s₁.setTop (mkF m 1 #[.val (.long q1), .second, .val (.long q2), .second, .val (.long q3), .second, .val (.long q4), .second, .val (.long q5), .second, .unset, .unset, .unset, .unset, .unset, .unset, .unset, .unset, .unset, .unset, .unset, .unset, .unset, .unset, .unset, .unset, .unset, .unset] [(.long q1)])) _
    refine st27 _ ?_
    show Steps p.tables e below (T27.setTop (mkF m 4 #[.val (.long q1), .second, .val (.long q2), .second, .val (.long q3), .second, .val (.long q4), .second, .val (.long q5), .second, .unset, .unset, .unset, .unset, .unset, .unset, .unset, .unset, .unset, .unset, .unset, .unset, .unset, .unset, .unset, .unset, .unset, .unset] [(.long (f1 q1))])) _
    refine XS.lstore X27.here hx rfl (hb hby at_4) rfl (l' := #[.val (.long q1), .second, .val (.long q2), .second, .val (.long q3), .second, .val (.long q4), .second, .val (.long q5), .second, .val (.long (f1 q1)), .second, .unset, .unset, .unset, .unset, .unset, .unset, .unset, .unset, .unset, .unset, .unset, .unset, .unset, .unset, .unset, .unset]) rfl ?_
    rw [hv4] at k
    exact k)
  obtain ⟨_, _, ⟨T29, L29, k29, n29⟩, -, X29, ⟨Lc29, hQ29, l29, y29, z29⟩, st29⟩ := Jvm.LawKit.callS X27 hx (y := (⟨"com/example/regolo/regolo/engine/WorkSpendPinLaw", "budget", "(J)J"⟩ : MethodName)) hown (mvT hZ (hw _ (List.mem_of_getElem? (i := 0) rfl))) (mvT hZ (hw _ (List.mem_of_getElem? (i := 1) rfl))) (mvT hZ (hw _ (List.mem_of_getElem? (i := 2) rfl))) (mvT hZ (hw _ (List.mem_of_getElem? (i := 3) rfl))) (by decide) (backOf (W := 0) (rm1 l Z a0 hw [] q2 h0 n0 Zs ) hZ (hw _ (List.mem_of_getElem? (i := 3) rfl)) (hw _ (List.mem_of_getElem? (i := 2) rfl)) (by decide) (by decide)) (g := (mkF m 7 #[.val (.long q1), .second, .val (.long q2), .second, .val (.long q3), .second, .val (.long q4), .second, .val (.long q5), .second, .val (.long v4), .second, .unset, .unset, .unset, .unset, .unset, .unset, .unset, .unset, .unset, .unset, .unset, .unset, .unset, .unset, .unset, .unset] [(.long q2)])) rfl (by rw [hml]; rfl) (argsL := [(.long q2)]) (rest := []) (lenOf pd_3 rfl) rfl (by show 2 * 0 + _ ≤ _; exact Nat.le_of_eq rfl) (hb hby at_7) (fun _ _ => ⟨rfl, e27, (by decide : 0 + 0 ≤ _), (by decide : 0 + 0 ≤ _)⟩)
  dsimp only [Pt.U, Pt.locs, Pt.cells, Pt.slots] at X29 l29 y29 z29 st29 hQ29
  subst l29 y29 z29
  obtain ⟨rfl, N29q, e29⟩ := hQ29
  have N29 := Fr.app N27 N29q
  obtain ⟨v10, hv10⟩ : ∃ z : Int64, z = (f1 q2) := ⟨_, rfl⟩
  have pre30 : ∀ t, Steps p.tables e below (T29.setTop (mkF m 12 #[.val (.long q1), .second, .val (.long q2), .second, .val (.long q3), .second, .val (.long q4), .second, .val (.long q5), .second, .val (.long v4), .second, .val (.long v10), .second, .unset, .unset, .unset, .unset, .unset, .unset, .unset, .unset, .unset, .unset, .unset, .unset, .unset, .unset] [])) t → Steps p.tables e below (s₁.setTop (entryFrame m #[(.long q1), (.long q2), (.long q3), (.long q4), (.long q5)] maxLocals)) t := fun t k => pre28 t (by
    show Steps p.tables e below (T27.setTop (mkF m 6 #[.val (.long q1), .second, .val (.long q2), .second, .val (.long q3), .second, .val (.long q4), .second, .val (.long q5), .second, .val (.long v4), .second, .unset, .unset, .unset, .unset, .unset, .unset, .unset, .unset, .unset, .unset, .unset, .unset, .unset, .unset, .unset, .unset] [])) _
    refine XS.lloadN X27.here hx rfl (hb hby at_6) rfl ?_
    show Steps p.tables e below (T27.setTop (mkF m 7 #[.val (.long q1), .second, .val (.long q2), .second, .val (.long q3), .second, .val (.long q4), .second, .val (.long q5), .second, .val (.long v4), .second, .unset, .unset, .unset, .unset, .unset, .unset, .unset, .unset, .unset, .unset, .unset, .unset, .unset, .unset, .unset, .unset] [(.long q2)])) _
    refine st29 _ ?_
    show Steps p.tables e below (T29.setTop (mkF m 10 #[.val (.long q1), .second, .val (.long q2), .second, .val (.long q3), .second, .val (.long q4), .second, .val (.long q5), .second, .val (.long v4), .second, .unset, .unset, .unset, .unset, .unset, .unset, .unset, .unset, .unset, .unset, .unset, .unset, .unset, .unset, .unset, .unset] [(.long (f1 q2))])) _
    refine XS.lstore X29.here hx rfl (hb hby at_10) rfl (l' := #[.val (.long q1), .second, .val (.long q2), .second, .val (.long q3), .second, .val (.long q4), .second, .val (.long q5), .second, .val (.long v4), .second, .val (.long (f1 q2)), .second, .unset, .unset, .unset, .unset, .unset, .unset, .unset, .unset, .unset, .unset, .unset, .unset, .unset, .unset]) rfl ?_
    rw [hv10] at k
    exact k)
  obtain ⟨_, _, ⟨T31, L31, k31, n31⟩, -, X31, ⟨Lc31, hQ31, l31, y31, z31⟩, st31⟩ := Jvm.LawKit.callS X29 hx (y := (⟨"com/example/regolo/regolo/engine/WorkSpendPinLaw", "steps", "(J)J"⟩ : MethodName)) hown (mvT hZ (hw _ (List.mem_of_getElem? (i := 4) rfl))) (mvT hZ (hw _ (List.mem_of_getElem? (i := 5) rfl))) (mvT hZ (hw _ (List.mem_of_getElem? (i := 2) rfl))) (mvT hZ (hw _ (List.mem_of_getElem? (i := 6) rfl))) (by decide) (backOf (W := 0) (rm2 l Z a0 hw [] q3 h0 n0 Zs ) hZ (hw _ (List.mem_of_getElem? (i := 6) rfl)) (hw _ (List.mem_of_getElem? (i := 2) rfl)) (by decide) (by decide)) (g := (mkF m 14 #[.val (.long q1), .second, .val (.long q2), .second, .val (.long q3), .second, .val (.long q4), .second, .val (.long q5), .second, .val (.long v4), .second, .val (.long v10), .second, .unset, .unset, .unset, .unset, .unset, .unset, .unset, .unset, .unset, .unset, .unset, .unset, .unset, .unset] [(.long q3)])) rfl (by rw [hml]; rfl) (argsL := [(.long q3)]) (rest := []) (lenOf pd_3 rfl) rfl (by show 2 * 0 + _ ≤ _; exact Nat.le_of_eq rfl) (hb hby at_14) (fun _ _ => ⟨rfl, e29, (by decide : 0 + 0 ≤ _), (by decide : 0 + 0 ≤ _)⟩)
  dsimp only [Pt.U, Pt.locs, Pt.cells, Pt.slots] at X31 l31 y31 z31 st31 hQ31
  subst l31 y31 z31
  obtain ⟨rfl, N31q, e31⟩ := hQ31
  have N31 := Fr.app N29 N31q
  obtain ⟨v17, hv17⟩ : ∃ z : Int64, z = (f2 q3) := ⟨_, rfl⟩
  have pre32 : ∀ t, Steps p.tables e below (T31.setTop (mkF m 19 #[.val (.long q1), .second, .val (.long q2), .second, .val (.long q3), .second, .val (.long q4), .second, .val (.long q5), .second, .val (.long v4), .second, .val (.long v10), .second, .val (.long v17), .second, .unset, .unset, .unset, .unset, .unset, .unset, .unset, .unset, .unset, .unset, .unset, .unset] [])) t → Steps p.tables e below (s₁.setTop (entryFrame m #[(.long q1), (.long q2), (.long q3), (.long q4), (.long q5)] maxLocals)) t := fun t k => pre30 t (by
    show Steps p.tables e below (T29.setTop (mkF m 12 #[.val (.long q1), .second, .val (.long q2), .second, .val (.long q3), .second, .val (.long q4), .second, .val (.long q5), .second, .val (.long v4), .second, .val (.long v10), .second, .unset, .unset, .unset, .unset, .unset, .unset, .unset, .unset, .unset, .unset, .unset, .unset, .unset, .unset] [])) _
    refine XS.lload X29.here hx rfl (hb hby at_12) rfl ?_
    show Steps p.tables e below (T29.setTop (mkF m 14 #[.val (.long q1), .second, .val (.long q2), .second, .val (.long q3), .second, .val (.long q4), .second, .val (.long q5), .second, .val (.long v4), .second, .val (.long v10), .second, .unset, .unset, .unset, .unset, .unset, .unset, .unset, .unset, .unset, .unset, .unset, .unset, .unset, .unset] [(.long q3)])) _
    refine st31 _ ?_
    show Steps p.tables e below (T31.setTop (mkF m 17 #[.val (.long q1), .second, .val (.long q2), .second, .val (.long q3), .second, .val (.long q4), .second, .val (.long q5), .second, .val (.long v4), .second, .val (.long v10), .second, .unset, .unset, .unset, .unset, .unset, .unset, .unset, .unset, .unset, .unset, .unset, .unset, .unset, .unset] [(.long (f2 q3))])) _
    refine XS.lstore X31.here hx rfl (hb hby at_17) rfl (l' := #[.val (.long q1), .second, .val (.long q2), .second, .val (.long q3), .second, .val (.long q4), .second, .val (.long q5), .second, .val (.long v4), .second, .val (.long v10), .second, .val (.long (f2 q3)), .second, .unset, .unset, .unset, .unset, .unset, .unset, .unset, .unset, .unset, .unset, .unset, .unset]) rfl ?_
    rw [hv17] at k
    exact k)
  obtain ⟨_, _, ⟨T33, L33, k33, n33⟩, -, X33, ⟨Lc33, hQ33, l33, y33, z33⟩, st33⟩ := Jvm.LawKit.callS X31 hx (y := (⟨"com/example/regolo/regolo/engine/WorkSpendPinLaw", "steps", "(J)J"⟩ : MethodName)) hown (mvT hZ (hw _ (List.mem_of_getElem? (i := 4) rfl))) (mvT hZ (hw _ (List.mem_of_getElem? (i := 5) rfl))) (mvT hZ (hw _ (List.mem_of_getElem? (i := 2) rfl))) (mvT hZ (hw _ (List.mem_of_getElem? (i := 6) rfl))) (by decide) (backOf (W := 0) (rm2 l Z a0 hw [] q4 h0 n0 Zs ) hZ (hw _ (List.mem_of_getElem? (i := 6) rfl)) (hw _ (List.mem_of_getElem? (i := 2) rfl)) (by decide) (by decide)) (g := (mkF m 21 #[.val (.long q1), .second, .val (.long q2), .second, .val (.long q3), .second, .val (.long q4), .second, .val (.long q5), .second, .val (.long v4), .second, .val (.long v10), .second, .val (.long v17), .second, .unset, .unset, .unset, .unset, .unset, .unset, .unset, .unset, .unset, .unset, .unset, .unset] [(.long q4)])) rfl (by rw [hml]; rfl) (argsL := [(.long q4)]) (rest := []) (lenOf pd_3 rfl) rfl (by show 2 * 0 + _ ≤ _; exact Nat.le_of_eq rfl) (hb hby at_21) (fun _ _ => ⟨rfl, e31, (by decide : 0 + 0 ≤ _), (by decide : 0 + 0 ≤ _)⟩)
  dsimp only [Pt.U, Pt.locs, Pt.cells, Pt.slots] at X33 l33 y33 z33 st33 hQ33
  subst l33 y33 z33
  obtain ⟨rfl, N33q, e33⟩ := hQ33
  have N33 := Fr.app N31 N33q
  obtain ⟨v24, hv24⟩ : ∃ z : Int64, z = (f2 q4) := ⟨_, rfl⟩
  have pre34 : ∀ t, Steps p.tables e below (T33.setTop (mkF m 26 #[.val (.long q1), .second, .val (.long q2), .second, .val (.long q3), .second, .val (.long q4), .second, .val (.long q5), .second, .val (.long v4), .second, .val (.long v10), .second, .val (.long v17), .second, .val (.long v24), .second, .unset, .unset, .unset, .unset, .unset, .unset, .unset, .unset, .unset, .unset] [])) t → Steps p.tables e below (s₁.setTop (entryFrame m #[(.long q1), (.long q2), (.long q3), (.long q4), (.long q5)] maxLocals)) t := fun t k => pre32 t (by
    show Steps p.tables e below (T31.setTop (mkF m 19 #[.val (.long q1), .second, .val (.long q2), .second, .val (.long q3), .second, .val (.long q4), .second, .val (.long q5), .second, .val (.long v4), .second, .val (.long v10), .second, .val (.long v17), .second, .unset, .unset, .unset, .unset, .unset, .unset, .unset, .unset, .unset, .unset, .unset, .unset] [])) _
    refine XS.lload X31.here hx rfl (hb hby at_19) rfl ?_
    show Steps p.tables e below (T31.setTop (mkF m 21 #[.val (.long q1), .second, .val (.long q2), .second, .val (.long q3), .second, .val (.long q4), .second, .val (.long q5), .second, .val (.long v4), .second, .val (.long v10), .second, .val (.long v17), .second, .unset, .unset, .unset, .unset, .unset, .unset, .unset, .unset, .unset, .unset, .unset, .unset] [(.long q4)])) _
    refine st33 _ ?_
    show Steps p.tables e below (T33.setTop (mkF m 24 #[.val (.long q1), .second, .val (.long q2), .second, .val (.long q3), .second, .val (.long q4), .second, .val (.long q5), .second, .val (.long v4), .second, .val (.long v10), .second, .val (.long v17), .second, .unset, .unset, .unset, .unset, .unset, .unset, .unset, .unset, .unset, .unset, .unset, .unset] [(.long (f2 q4))])) _
    refine XS.lstore X33.here hx rfl (hb hby at_24) rfl (l' := #[.val (.long q1), .second, .val (.long q2), .second, .val (.long q3), .second, .val (.long q4), .second, .val (.long q5), .second, .val (.long v4), .second, .val (.long v10), .second, .val (.long v17), .second, .val (.long (f2 q4)), .second, .unset, .unset, .unset, .unset, .unset, .unset, .unset, .unset, .unset, .unset]) rfl ?_
    rw [hv24] at k
    exact k)
  obtain ⟨_, _, ⟨T35, L35, k35, n35⟩, -, X35, ⟨Lc35, hQ35, l35, y35, z35⟩, st35⟩ := Jvm.LawKit.callS X33 hx (y := (⟨"com/example/regolo/regolo/engine/WorkSpendPinLaw", "steps", "(J)J"⟩ : MethodName)) hown (mvT hZ (hw _ (List.mem_of_getElem? (i := 4) rfl))) (mvT hZ (hw _ (List.mem_of_getElem? (i := 5) rfl))) (mvT hZ (hw _ (List.mem_of_getElem? (i := 2) rfl))) (mvT hZ (hw _ (List.mem_of_getElem? (i := 6) rfl))) (by decide) (backOf (W := 0) (rm2 l Z a0 hw [] q5 h0 n0 Zs ) hZ (hw _ (List.mem_of_getElem? (i := 6) rfl)) (hw _ (List.mem_of_getElem? (i := 2) rfl)) (by decide) (by decide)) (g := (mkF m 28 #[.val (.long q1), .second, .val (.long q2), .second, .val (.long q3), .second, .val (.long q4), .second, .val (.long q5), .second, .val (.long v4), .second, .val (.long v10), .second, .val (.long v17), .second, .val (.long v24), .second, .unset, .unset, .unset, .unset, .unset, .unset, .unset, .unset, .unset, .unset] [(.long q5)])) rfl (by rw [hml]; rfl) (argsL := [(.long q5)]) (rest := []) (lenOf pd_3 rfl) rfl (by show 2 * 0 + _ ≤ _; exact Nat.le_of_eq rfl) (hb hby at_28) (fun _ _ => ⟨rfl, e33, (by decide : 0 + 0 ≤ _), (by decide : 0 + 0 ≤ _)⟩)
  dsimp only [Pt.U, Pt.locs, Pt.cells, Pt.slots] at X35 l35 y35 z35 st35 hQ35
  subst l35 y35 z35
  obtain ⟨rfl, N35q, e35⟩ := hQ35
  have N35 := Fr.app N33 N35q
  obtain ⟨v31, hv31⟩ : ∃ z : Int64, z = (f2 q5) := ⟨_, rfl⟩
  have pre36 : ∀ t, Steps p.tables e below (T35.setTop (mkF m 33 #[.val (.long q1), .second, .val (.long q2), .second, .val (.long q3), .second, .val (.long q4), .second, .val (.long q5), .second, .val (.long v4), .second, .val (.long v10), .second, .val (.long v17), .second, .val (.long v24), .second, .val (.long v31), .second, .unset, .unset, .unset, .unset, .unset, .unset, .unset, .unset] [])) t → Steps p.tables e below (s₁.setTop (entryFrame m #[(.long q1), (.long q2), (.long q3), (.long q4), (.long q5)] maxLocals)) t := fun t k => pre34 t (by
    show Steps p.tables e below (T33.setTop (mkF m 26 #[.val (.long q1), .second, .val (.long q2), .second, .val (.long q3), .second, .val (.long q4), .second, .val (.long q5), .second, .val (.long v4), .second, .val (.long v10), .second, .val (.long v17), .second, .val (.long v24), .second, .unset, .unset, .unset, .unset, .unset, .unset, .unset, .unset, .unset, .unset] [])) _
    refine XS.lload X33.here hx rfl (hb hby at_26) rfl ?_
    show Steps p.tables e below (T33.setTop (mkF m 28 #[.val (.long q1), .second, .val (.long q2), .second, .val (.long q3), .second, .val (.long q4), .second, .val (.long q5), .second, .val (.long v4), .second, .val (.long v10), .second, .val (.long v17), .second, .val (.long v24), .second, .unset, .unset, .unset, .unset, .unset, .unset, .unset, .unset, .unset, .unset] [(.long q5)])) _
    refine st35 _ ?_
    show Steps p.tables e below (T35.setTop (mkF m 31 #[.val (.long q1), .second, .val (.long q2), .second, .val (.long q3), .second, .val (.long q4), .second, .val (.long q5), .second, .val (.long v4), .second, .val (.long v10), .second, .val (.long v17), .second, .val (.long v24), .second, .unset, .unset, .unset, .unset, .unset, .unset, .unset, .unset, .unset, .unset] [(.long (f2 q5))])) _
    refine XS.lstore X35.here hx rfl (hb hby at_31) rfl (l' := #[.val (.long q1), .second, .val (.long q2), .second, .val (.long q3), .second, .val (.long q4), .second, .val (.long q5), .second, .val (.long v4), .second, .val (.long v10), .second, .val (.long v17), .second, .val (.long v24), .second, .val (.long (f2 q5)), .second, .unset, .unset, .unset, .unset, .unset, .unset, .unset, .unset]) rfl ?_
    rw [hv31] at k
    exact k)
  obtain ⟨T37, h37, X37, e37, E37, A37, D37, -, st37⟩ := newO X35 hx hZ hown (hw _ (List.mem_of_getElem? (i := 8) rfl)) (hw _ (List.mem_of_getElem? (i := 9) rfl)) (hw _ (List.mem_of_getElem? (i := 10) rfl)) e35 (g := (mkF m 33 #[.val (.long q1), .second, .val (.long q2), .second, .val (.long q3), .second, .val (.long q4), .second, .val (.long q5), .second, .val (.long v4), .second, .val (.long v10), .second, .val (.long v17), .second, .val (.long v24), .second, .val (.long v31), .second, .unset, .unset, .unset, .unset, .unset, .unset, .unset, .unset] [])) rfl (hb hby at_33) (by decide) (by decide)
  obtain ⟨b37, g37⟩ : ∃ z, z = h0.size := ⟨_, rfl⟩
  rw [← g37] at A37 D37 st37
  have g_b37 : n0 ≤ b37 := Nat.le_trans Zs (Nat.le_of_eq g37.symm)
  have Zs : n0 ≤ h37.size := Nat.le_trans Zs E37.1
  have E_b37 : Exa Z h37 b37 "com/example/regolo/regolo/engine/Work" := A37
  have F_left_b37 : Fld Z h37 b37 "com/example/regolo/regolo/engine/Work" "left" "J" (.long (0 : Int64)) := D37 (Or.inl (hw _ (List.mem_of_getElem? (i := 21) rfl))) (ty := .long) (by decide)
  have F_whole_b37 : Fld Z h37 b37 "com/example/regolo/regolo/engine/Work" "whole" "Lcom/example/regolo/regolo/engine/Work;" .null := D37 (Or.inr (hw _ (List.mem_of_getElem? (i := 23) rfl))) (ty := (.object "com/example/regolo/regolo/engine/Work")) (by decide)
  obtain ⟨_, _, ⟨T38, L38, k38, n38⟩, -, X38, ⟨Lc38, hQ38, l38, y38, z38⟩, st38⟩ := X37.specialBack hx (y := (⟨"com/example/regolo/regolo/engine/Work", "<init>", "(J)V"⟩ : MethodName)) rfl hown (mvT hZ (hw _ (List.mem_of_getElem? (i := 11) rfl))) (mvT hZ (hw _ (List.mem_of_getElem? (i := 12) rfl))) (mvT hZ (hw _ (List.mem_of_getElem? (i := 13) rfl))) (by decide) (backOf (W := 1) (rmC l Z a0 hw [] b37 v4 (0 : Int64) h37 n0 Zs E_b37 F_left_b37 F_whole_b37 g_b37) hZ (hw _ (List.mem_of_getElem? (i := 13) rfl)) (hw _ (List.mem_of_getElem? (i := 10) rfl)) (by decide) (by decide)) (g := (mkF m 39 #[.val (.long q1), .second, .val (.long q2), .second, .val (.long q3), .second, .val (.long q4), .second, .val (.long q5), .second, .val (.long v4), .second, .val (.long v10), .second, .val (.long v17), .second, .val (.long v24), .second, .val (.long v31), .second, .unset, .unset, .unset, .unset, .unset, .unset, .unset, .unset] [(.long v4), (.ref b37), (.ref b37)])) rfl (by rw [hml]; rfl) (Steps.refl _) (a := b37) (argsL := [(.long v4)]) (rest := [(.ref b37)]) (lenOf pd_1 rfl) rfl (by show 2 * 0 + _ ≤ _; exact Nat.le_of_eq rfl) (hb hby at_39) (fun _ _ => ⟨rfl, e37, (by decide : 1 + 0 ≤ _), (by decide : 2 + 0 ≤ _)⟩)
  dsimp only [Pt.U, Pt.locs, Pt.cells, Pt.slots] at X38 l38 y38 z38 st38 hQ38
  subst l38 y38 z38
  obtain ⟨rfl, N38q, K38, P38_1, P38_2⟩ := hQ38
  have Zs : n0 ≤ T38.heap.size := Nat.le_trans Zs K38.1
  have E_b37 : Exa Z T38.heap b37 "com/example/regolo/regolo/engine/Work" := E_b37.keep K38
  have F_left_b37 : Fld Z T38.heap b37 "com/example/regolo/regolo/engine/Work" "left" "J" (.long v4) := P38_1
  have F_whole_b37 : Fld Z T38.heap b37 "com/example/regolo/regolo/engine/Work" "whole" "Lcom/example/regolo/regolo/engine/Work;" .null := P38_2
  have N38 := Fr.app N35 N38q
  obtain ⟨cq39, kq39, q39a, q39b, q39c⟩ := isOf hZ rfl E_b37
  obtain ⟨_, _, ⟨T39, L39, k39, n39⟩, -, X39, ⟨Lc39, hQ39, l39, y39, z39⟩, st39⟩ := X38.virtualBack hx (y := (⟨"com/example/regolo/regolo/engine/Work", "part", "(J)Lcom/example/regolo/regolo/engine/Work;"⟩ : MethodName)) (z := (⟨"com/example/regolo/regolo/engine/Work", "part", "(J)Lcom/example/regolo/regolo/engine/Work;"⟩ : MethodName)) hown (mvT hZ (hw _ (List.mem_of_getElem? (i := 24) rfl))) (mvT hZ (hw _ (List.mem_of_getElem? (i := 25) rfl))) (notFace_of_selects (args := #[]) (mvT hZ (hw _ (List.mem_of_getElem? (i := 27) rfl)))) (mvT hZ (hw _ (List.mem_of_getElem? (i := 27) rfl))) (mvT hZ (hw _ (List.mem_of_getElem? (i := 26) rfl))) (by decide) (backOf (W := 0) (rmP l Z a0 hw [] b37 v10 T38.heap n0 Zs ) hZ (hw _ (List.mem_of_getElem? (i := 28) rfl)) (hw _ (List.mem_of_getElem? (i := 10) rfl)) (by decide) (by decide)) q39a q39c (g := (mkF m 48 #[.val (.long q1), .second, .val (.long q2), .second, .val (.long q3), .second, .val (.long q4), .second, .val (.long q5), .second, .val (.long v4), .second, .val (.long v10), .second, .val (.long v17), .second, .val (.long v24), .second, .val (.long v31), .second, .val (.ref b37), .unset, .unset, .unset, .unset, .unset, .unset, .unset] [(.long v10), (.ref b37)])) rfl (by rw [hml]; rfl) (Steps.refl _) (argsL := [(.long v10)]) (rest := []) (lenOf pd_4 rfl) rfl (by show 2 * 0 + _ ≤ _; exact Nat.le_of_eq rfl) (hb hby at_48) (fun _ _ => ⟨rfl, rfl, (by decide : 1 + 1 ≤ _), (by decide : 2 + 2 ≤ _)⟩)
  dsimp only [Pt.U, Pt.locs, Pt.cells, Pt.slots] at X39 l39 y39 z39 st39 hQ39
  subst l39 y39 z39
  obtain ⟨b_39, rfl, N39q, K39, szc_b_39, g_b_39, P39_3, P39_4, P39_5⟩ := hQ39
  have ne_b37_b_39 : b37 ≠ b_39 := Nat.ne_of_lt (Nat.lt_of_lt_of_le E_b37.lt szc_b_39)
  have Zs : n0 ≤ T39.heap.size := Nat.le_trans Zs K39.1
  have E_b37 : Exa Z T39.heap b37 "com/example/regolo/regolo/engine/Work" := E_b37.keep K39
  have F_left_b37 : Fld Z T39.heap b37 "com/example/regolo/regolo/engine/Work" "left" "J" (.long v4) := F_left_b37.keep K39 nin0
  have F_whole_b37 : Fld Z T39.heap b37 "com/example/regolo/regolo/engine/Work" "whole" "Lcom/example/regolo/regolo/engine/Work;" .null := F_whole_b37.keep K39 nin0
  have E_b_39 : Exa Z T39.heap b_39 "com/example/regolo/regolo/engine/Work" := P39_3
  have F_left_b_39 : Fld Z T39.heap b_39 "com/example/regolo/regolo/engine/Work" "left" "J" (.long v10) := P39_4
  have F_whole_b_39 : Fld Z T39.heap b_39 "com/example/regolo/regolo/engine/Work" "whole" "Lcom/example/regolo/regolo/engine/Work;" (.ref b37) := P39_5
  have N39 := Fr.app N38 N39q
  obtain ⟨cq40, kq40, q40a, q40b, q40c⟩ := isOf hZ rfl E_b_39
  obtain ⟨_, _, ⟨T40, L40, k40, n40⟩, -, X40, ⟨Lc40, hQ40, l40, y40, z40⟩, st40⟩ := X39.virtualBack hx (y := (⟨"com/example/regolo/regolo/engine/Work", "spend", "(J)V"⟩ : MethodName)) (z := (⟨"com/example/regolo/regolo/engine/Work", "spend", "(J)V"⟩ : MethodName)) hown (mvT hZ (hw _ (List.mem_of_getElem? (i := 30) rfl))) (mvT hZ (hw _ (List.mem_of_getElem? (i := 31) rfl))) (notFace_of_selects (args := #[]) (mvT hZ (hw _ (List.mem_of_getElem? (i := 33) rfl)))) (mvT hZ (hw _ (List.mem_of_getElem? (i := 33) rfl))) (mvT hZ (hw _ (List.mem_of_getElem? (i := 32) rfl))) (by decide) (backOf (W := 0) (rmS1 l Z a0 hw [] b_39 v17 v10 b37 v4 T39.heap n0 Zs E_b_39 F_left_b_39 F_whole_b_39 g_b_39 E_b37 F_left_b37 F_whole_b37 g_b37 (Ne.symm ne_b37_b_39)) hZ (hw _ (List.mem_of_getElem? (i := 34) rfl)) (hw _ (List.mem_of_getElem? (i := 10) rfl)) (by decide) (by decide)) q40a q40c (g := (mkF m 57 #[.val (.long q1), .second, .val (.long q2), .second, .val (.long q3), .second, .val (.long q4), .second, .val (.long q5), .second, .val (.long v4), .second, .val (.long v10), .second, .val (.long v17), .second, .val (.long v24), .second, .val (.long v31), .second, .val (.ref b37), .val (.ref b_39), .unset, .unset, .unset, .unset, .unset, .unset] [(.long v17), (.ref b_39)])) rfl (by rw [hml]; rfl) (Steps.refl _) (argsL := [(.long v17)]) (rest := []) (lenOf pd_1 rfl) rfl (by show 2 * 0 + _ ≤ _; exact Nat.le_of_eq rfl) (hb hby at_57) (fun _ _ => ⟨rfl, rfl, (by decide : 2 + 0 ≤ _), (by decide : 4 + 0 ≤ _)⟩)
  dsimp only [Pt.U, Pt.locs, Pt.cells, Pt.slots] at X40 l40 y40 z40 st40 hQ40
  subst l40 y40 z40
  obtain ⟨rfl, N40q, K40, P40_1, P40_2, P40_3, P40_4⟩ := hQ40
  have Zs : n0 ≤ T40.heap.size := Nat.le_trans Zs K40.1
  have E_b37 : Exa Z T40.heap b37 "com/example/regolo/regolo/engine/Work" := E_b37.keep K40
  have E_b_39 : Exa Z T40.heap b_39 "com/example/regolo/regolo/engine/Work" := E_b_39.keep K40
  have F_left_b_39 : Fld Z T40.heap b_39 "com/example/regolo/regolo/engine/Work" "left" "J" (.long (v10 - v17)) := P40_1
  have F_whole_b_39 : Fld Z T40.heap b_39 "com/example/regolo/regolo/engine/Work" "whole" "Lcom/example/regolo/regolo/engine/Work;" (.ref b37) := P40_2
  have F_left_b37 : Fld Z T40.heap b37 "com/example/regolo/regolo/engine/Work" "left" "J" (.long (v4 - v17)) := P40_3
  have F_whole_b37 : Fld Z T40.heap b37 "com/example/regolo/regolo/engine/Work" "whole" "Lcom/example/regolo/regolo/engine/Work;" .null := P40_4
  have N40 := Fr.app N39 N40q
  have pre41 : ∀ t, Steps p.tables e below (T40.setTop (mkF m 65 #[.val (.long q1), .second, .val (.long q2), .second, .val (.long q3), .second, .val (.long q4), .second, .val (.long q5), .second, .val (.long v4), .second, .val (.long v10), .second, .val (.long v17), .second, .val (.long v24), .second, .val (.long v31), .second, .val (.ref b37), .val (.ref b_39), .unset, .unset, .unset, .unset, .unset, .unset] [(.int (lcmpW v17 v4))])) t → Steps p.tables e below (s₁.setTop (entryFrame m #[(.long q1), (.long q2), (.long q3), (.long q4), (.long q5)] maxLocals)) t := fun t k => pre36 t (by
    show Steps p.tables e below (T35.setTop (mkF m 33 #[.val (.long q1), .second, .val (.long q2), .second, .val (.long q3), .second, .val (.long q4), .second, .val (.long q5), .second, .val (.long v4), .second, .val (.long v10), .second, .val (.long v17), .second, .val (.long v24), .second, .val (.long v31), .second, .unset, .unset, .unset, .unset, .unset, .unset, .unset, .unset] [])) _
    refine st37 _ ?_
    show Steps p.tables e below (T37.setTop (mkF m 36 #[.val (.long q1), .second, .val (.long q2), .second, .val (.long q3), .second, .val (.long q4), .second, .val (.long q5), .second, .val (.long v4), .second, .val (.long v10), .second, .val (.long v17), .second, .val (.long v24), .second, .val (.long v31), .second, .unset, .unset, .unset, .unset, .unset, .unset, .unset, .unset] [(.ref b37)])) _
    refine XS.dup X37.here hx rfl (hb hby at_36) rfl rfl ?_
    show Steps p.tables e below (T37.setTop (mkF m 37 #[.val (.long q1), .second, .val (.long q2), .second, .val (.long q3), .second, .val (.long q4), .second, .val (.long q5), .second, .val (.long v4), .second, .val (.long v10), .second, .val (.long v17), .second, .val (.long v24), .second, .val (.long v31), .second, .unset, .unset, .unset, .unset, .unset, .unset, .unset, .unset] [(.ref b37), (.ref b37)])) _
    refine XS.lload X37.here hx rfl (hb hby at_37) rfl ?_
    show Steps p.tables e below (T37.setTop (mkF m 39 #[.val (.long q1), .second, .val (.long q2), .second, .val (.long q3), .second, .val (.long q4), .second, .val (.long q5), .second, .val (.long v4), .second, .val (.long v10), .second, .val (.long v17), .second, .val (.long v24), .second, .val (.long v31), .second, .unset, .unset, .unset, .unset, .unset, .unset, .unset, .unset] [(.long v4), (.ref b37), (.ref b37)])) _
    refine st38.trans ?_
    show Steps p.tables e below (T38.setTop (mkF m 42 #[.val (.long q1), .second, .val (.long q2), .second, .val (.long q3), .second, .val (.long q4), .second, .val (.long q5), .second, .val (.long v4), .second, .val (.long v10), .second, .val (.long v17), .second, .val (.long v24), .second, .val (.long v31), .second, .unset, .unset, .unset, .unset, .unset, .unset, .unset, .unset] [(.ref b37)])) _
    refine XS.astore X38.here hx rfl (hb hby at_42) rfl rfl (l' := #[.val (.long q1), .second, .val (.long q2), .second, .val (.long q3), .second, .val (.long q4), .second, .val (.long q5), .second, .val (.long v4), .second, .val (.long v10), .second, .val (.long v17), .second, .val (.long v24), .second, .val (.long v31), .second, .val (.ref b37), .unset, .unset, .unset, .unset, .unset, .unset, .unset]) rfl ?_
    show Steps p.tables e below (T38.setTop (mkF m 44 #[.val (.long q1), .second, .val (.long q2), .second, .val (.long q3), .second, .val (.long q4), .second, .val (.long q5), .second, .val (.long v4), .second, .val (.long v10), .second, .val (.long v17), .second, .val (.long v24), .second, .val (.long v31), .second, .val (.ref b37), .unset, .unset, .unset, .unset, .unset, .unset, .unset] [])) _
    refine XS.aload X38.here hx rfl (hb hby at_44) rfl rfl ?_
    show Steps p.tables e below (T38.setTop (mkF m 46 #[.val (.long q1), .second, .val (.long q2), .second, .val (.long q3), .second, .val (.long q4), .second, .val (.long q5), .second, .val (.long v4), .second, .val (.long v10), .second, .val (.long v17), .second, .val (.long v24), .second, .val (.long v31), .second, .val (.ref b37), .unset, .unset, .unset, .unset, .unset, .unset, .unset] [(.ref b37)])) _
    refine XS.lload X38.here hx rfl (hb hby at_46) rfl ?_
    show Steps p.tables e below (T38.setTop (mkF m 48 #[.val (.long q1), .second, .val (.long q2), .second, .val (.long q3), .second, .val (.long q4), .second, .val (.long q5), .second, .val (.long v4), .second, .val (.long v10), .second, .val (.long v17), .second, .val (.long v24), .second, .val (.long v31), .second, .val (.ref b37), .unset, .unset, .unset, .unset, .unset, .unset, .unset] [(.long v10), (.ref b37)])) _
    refine st39.trans ?_
    show Steps p.tables e below (T39.setTop (mkF m 51 #[.val (.long q1), .second, .val (.long q2), .second, .val (.long q3), .second, .val (.long q4), .second, .val (.long q5), .second, .val (.long v4), .second, .val (.long v10), .second, .val (.long v17), .second, .val (.long v24), .second, .val (.long v31), .second, .val (.ref b37), .unset, .unset, .unset, .unset, .unset, .unset, .unset] [(.ref b_39)])) _
    refine XS.astore X39.here hx rfl (hb hby at_51) rfl rfl (l' := #[.val (.long q1), .second, .val (.long q2), .second, .val (.long q3), .second, .val (.long q4), .second, .val (.long q5), .second, .val (.long v4), .second, .val (.long v10), .second, .val (.long v17), .second, .val (.long v24), .second, .val (.long v31), .second, .val (.ref b37), .val (.ref b_39), .unset, .unset, .unset, .unset, .unset, .unset]) rfl ?_
    show Steps p.tables e below (T39.setTop (mkF m 53 #[.val (.long q1), .second, .val (.long q2), .second, .val (.long q3), .second, .val (.long q4), .second, .val (.long q5), .second, .val (.long v4), .second, .val (.long v10), .second, .val (.long v17), .second, .val (.long v24), .second, .val (.long v31), .second, .val (.ref b37), .val (.ref b_39), .unset, .unset, .unset, .unset, .unset, .unset] [])) _
    refine XS.aload X39.here hx rfl (hb hby at_53) rfl rfl ?_
    show Steps p.tables e below (T39.setTop (mkF m 55 #[.val (.long q1), .second, .val (.long q2), .second, .val (.long q3), .second, .val (.long q4), .second, .val (.long q5), .second, .val (.long v4), .second, .val (.long v10), .second, .val (.long v17), .second, .val (.long v24), .second, .val (.long v31), .second, .val (.ref b37), .val (.ref b_39), .unset, .unset, .unset, .unset, .unset, .unset] [(.ref b_39)])) _
    refine XS.lload X39.here hx rfl (hb hby at_55) rfl ?_
    show Steps p.tables e below (T39.setTop (mkF m 57 #[.val (.long q1), .second, .val (.long q2), .second, .val (.long q3), .second, .val (.long q4), .second, .val (.long q5), .second, .val (.long v4), .second, .val (.long v10), .second, .val (.long v17), .second, .val (.long v24), .second, .val (.long v31), .second, .val (.ref b37), .val (.ref b_39), .unset, .unset, .unset, .unset, .unset, .unset] [(.long v17), (.ref b_39)])) _
    refine st40.trans ?_
    show Steps p.tables e below (T40.setTop (mkF m 60 #[.val (.long q1), .second, .val (.long q2), .second, .val (.long q3), .second, .val (.long q4), .second, .val (.long q5), .second, .val (.long v4), .second, .val (.long v10), .second, .val (.long v17), .second, .val (.long v24), .second, .val (.long v31), .second, .val (.ref b37), .val (.ref b_39), .unset, .unset, .unset, .unset, .unset, .unset] [])) _
    refine XS.lload X40.here hx rfl (hb hby at_60) rfl ?_
    show Steps p.tables e below (T40.setTop (mkF m 62 #[.val (.long q1), .second, .val (.long q2), .second, .val (.long q3), .second, .val (.long q4), .second, .val (.long q5), .second, .val (.long v4), .second, .val (.long v10), .second, .val (.long v17), .second, .val (.long v24), .second, .val (.long v31), .second, .val (.ref b37), .val (.ref b_39), .unset, .unset, .unset, .unset, .unset, .unset] [(.long v17)])) _
    refine XS.lload X40.here hx rfl (hb hby at_62) rfl ?_
    show Steps p.tables e below (T40.setTop (mkF m 64 #[.val (.long q1), .second, .val (.long q2), .second, .val (.long q3), .second, .val (.long q4), .second, .val (.long q5), .second, .val (.long v4), .second, .val (.long v10), .second, .val (.long v17), .second, .val (.long v24), .second, .val (.long v31), .second, .val (.ref b37), .val (.ref b_39), .unset, .unset, .unset, .unset, .unset, .unset] [(.long v4), (.long v17)])) _
    refine XS.lcmp X40.here hx rfl (hb hby at_64) rfl ?_
    exact k)
  obtain ⟨z73_s0, hz73_s0⟩ : ∃ z : Int32, z = (if v17 < v4 then (0 : Int32) else (1 : Int32)) := ⟨_, rfl⟩
  obtain ⟨T44, Lc44, X44, e44, N44, pre44⟩ : ∃ (T' : State) (locs' : List Loc), Stand p l e room_1 s m #[(.long q1), (.long q2), (.long q3), (.long q4), (.long q5)] below meth c T' locs' 2 4 ∧ T'.heap = T40.heap ∧ Fr n0 locs' ∧ ∀ t, Steps p.tables e below (T'.setTop (mkF m 73 #[.val (.long q1), .second, .val (.long q2), .second, .val (.long q3), .second, .val (.long q4), .second, .val (.long q5), .second, .val (.long v4), .second, .val (.long v10), .second, .val (.long v17), .second, .val (.long v24), .second, .val (.long v31), .second, .val (.ref b37), .val (.ref b_39), .unset, .unset, .unset, .unset, .unset, .unset] [(.int z73_s0)])) t → Steps p.tables e below (s₁.setTop (entryFrame m #[(.long q1), (.long q2), (.long q3), (.long q4), (.long q5)] maxLocals)) t := by
    by_cases hc65 : v17 < v4
    ·
      have pre42 : ∀ t, Steps p.tables e below (T40.setTop (mkF m 73 #[.val (.long q1), .second, .val (.long q2), .second, .val (.long q3), .second, .val (.long q4), .second, .val (.long q5), .second, .val (.long v4), .second, .val (.long v10), .second, .val (.long v17), .second, .val (.long v24), .second, .val (.long v31), .second, .val (.ref b37), .val (.ref b_39), .unset, .unset, .unset, .unset, .unset, .unset] [(.int (0 : Int32))])) t → Steps p.tables e below (s₁.setTop (entryFrame m #[(.long q1), (.long q2), (.long q3), (.long q4), (.long q5)] maxLocals)) t := fun t k => pre41 t (by
        show Steps p.tables e below (T40.setTop (mkF m 65 #[.val (.long q1), .second, .val (.long q2), .second, .val (.long q3), .second, .val (.long q4), .second, .val (.long q5), .second, .val (.long v4), .second, .val (.long v10), .second, .val (.long v17), .second, .val (.long v24), .second, .val (.long v31), .second, .val (.ref b37), .val (.ref b_39), .unset, .unset, .unset, .unset, .unset, .unset] [(.int (lcmpW v17 v4))])) _
        refine XS.ifYes X40.here hx rfl (pc0 := 65) (pc' := 72) rfl (hb hby at_65) rfl ((if0 _ _).trans (tlt ((lw_lt v17 v4).mpr hc65)).1) (by decide) (by decide) ?_
        show Steps p.tables e below (T40.setTop (mkF m 72 #[.val (.long q1), .second, .val (.long q2), .second, .val (.long q3), .second, .val (.long q4), .second, .val (.long q5), .second, .val (.long v4), .second, .val (.long v10), .second, .val (.long v17), .second, .val (.long v24), .second, .val (.long v31), .second, .val (.ref b37), .val (.ref b_39), .unset, .unset, .unset, .unset, .unset, .unset] [])) _
        refine XS.iconst X40.here hx rfl (hb hby at_72) ?_
        exact k)
      have q_z73_s0 : z73_s0 = (0 : Int32) := by rw [hz73_s0, if_pos hc65]
      refine ⟨_, _, X40, rfl, N40, fun t k => ?_⟩
      rw [q_z73_s0] at k
      exact pre42 t k
    ·
      have pre43 : ∀ t, Steps p.tables e below (T40.setTop (mkF m 73 #[.val (.long q1), .second, .val (.long q2), .second, .val (.long q3), .second, .val (.long q4), .second, .val (.long q5), .second, .val (.long v4), .second, .val (.long v10), .second, .val (.long v17), .second, .val (.long v24), .second, .val (.long v31), .second, .val (.ref b37), .val (.ref b_39), .unset, .unset, .unset, .unset, .unset, .unset] [(.int (1 : Int32))])) t → Steps p.tables e below (s₁.setTop (entryFrame m #[(.long q1), (.long q2), (.long q3), (.long q4), (.long q5)] maxLocals)) t := fun t k => pre41 t (by
        show Steps p.tables e below (T40.setTop (mkF m 65 #[.val (.long q1), .second, .val (.long q2), .second, .val (.long q3), .second, .val (.long q4), .second, .val (.long q5), .second, .val (.long v4), .second, .val (.long v10), .second, .val (.long v17), .second, .val (.long v24), .second, .val (.long v31), .second, .val (.ref b37), .val (.ref b_39), .unset, .unset, .unset, .unset, .unset, .unset] [(.int (lcmpW v17 v4))])) _
        refine XS.ifNo X40.here hx rfl (hb hby at_65) rfl ((if0 _ _).trans (flt (fun q => hc65 ((lw_lt v17 v4).mp q))).1) ?_
        show Steps p.tables e below (T40.setTop (mkF m 68 #[.val (.long q1), .second, .val (.long q2), .second, .val (.long q3), .second, .val (.long q4), .second, .val (.long q5), .second, .val (.long v4), .second, .val (.long v10), .second, .val (.long v17), .second, .val (.long v24), .second, .val (.long v31), .second, .val (.ref b37), .val (.ref b_39), .unset, .unset, .unset, .unset, .unset, .unset] [])) _
        refine XS.iconst X40.here hx rfl (hb hby at_68) ?_
        show Steps p.tables e below (T40.setTop (mkF m 69 #[.val (.long q1), .second, .val (.long q2), .second, .val (.long q3), .second, .val (.long q4), .second, .val (.long q5), .second, .val (.long v4), .second, .val (.long v10), .second, .val (.long v17), .second, .val (.long v24), .second, .val (.long v31), .second, .val (.ref b37), .val (.ref b_39), .unset, .unset, .unset, .unset, .unset, .unset] [(.int (1 : Int32))])) _
        refine XS.goto X40.here hx rfl (pc0 := 69) (pc' := 73) rfl (hb hby at_69) (by decide) (by decide) ?_
        exact k)
      have q_z73_s0 : z73_s0 = (1 : Int32) := by rw [hz73_s0, if_neg hc65]
      refine ⟨_, _, X40, rfl, N40, fun t k => ?_⟩
      rw [q_z73_s0] at k
      exact pre43 t k
  have pre45 : ∀ t, Steps p.tables e below (T44.setTop (mkF m 80 #[.val (.long q1), .second, .val (.long q2), .second, .val (.long q3), .second, .val (.long q4), .second, .val (.long q5), .second, .val (.long v4), .second, .val (.long v10), .second, .val (.long v17), .second, .val (.long v24), .second, .val (.long v31), .second, .val (.ref b37), .val (.ref b_39), .val (.int z73_s0), .unset, .unset, .unset, .unset, .unset] [(.int (lcmpW v17 v10))])) t → Steps p.tables e below (s₁.setTop (entryFrame m #[(.long q1), (.long q2), (.long q3), (.long q4), (.long q5)] maxLocals)) t := fun t k => pre44 t (by
    show Steps p.tables e below (T44.setTop (mkF m 73 #[.val (.long q1), .second, .val (.long q2), .second, .val (.long q3), .second, .val (.long q4), .second, .val (.long q5), .second, .val (.long v4), .second, .val (.long v10), .second, .val (.long v17), .second, .val (.long v24), .second, .val (.long v31), .second, .val (.ref b37), .val (.ref b_39), .unset, .unset, .unset, .unset, .unset, .unset] [(.int z73_s0)])) _
    refine XS.istore X44.here hx rfl (hb hby at_73) rfl (l' := #[.val (.long q1), .second, .val (.long q2), .second, .val (.long q3), .second, .val (.long q4), .second, .val (.long q5), .second, .val (.long v4), .second, .val (.long v10), .second, .val (.long v17), .second, .val (.long v24), .second, .val (.long v31), .second, .val (.ref b37), .val (.ref b_39), .val (.int z73_s0), .unset, .unset, .unset, .unset, .unset]) rfl ?_
    show Steps p.tables e below (T44.setTop (mkF m 75 #[.val (.long q1), .second, .val (.long q2), .second, .val (.long q3), .second, .val (.long q4), .second, .val (.long q5), .second, .val (.long v4), .second, .val (.long v10), .second, .val (.long v17), .second, .val (.long v24), .second, .val (.long v31), .second, .val (.ref b37), .val (.ref b_39), .val (.int z73_s0), .unset, .unset, .unset, .unset, .unset] [])) _
    refine XS.lload X44.here hx rfl (hb hby at_75) rfl ?_
    show Steps p.tables e below (T44.setTop (mkF m 77 #[.val (.long q1), .second, .val (.long q2), .second, .val (.long q3), .second, .val (.long q4), .second, .val (.long q5), .second, .val (.long v4), .second, .val (.long v10), .second, .val (.long v17), .second, .val (.long v24), .second, .val (.long v31), .second, .val (.ref b37), .val (.ref b_39), .val (.int z73_s0), .unset, .unset, .unset, .unset, .unset] [(.long v17)])) _
    refine XS.lload X44.here hx rfl (hb hby at_77) rfl ?_
    show Steps p.tables e below (T44.setTop (mkF m 79 #[.val (.long q1), .second, .val (.long q2), .second, .val (.long q3), .second, .val (.long q4), .second, .val (.long q5), .second, .val (.long v4), .second, .val (.long v10), .second, .val (.long v17), .second, .val (.long v24), .second, .val (.long v31), .second, .val (.ref b37), .val (.ref b_39), .val (.int z73_s0), .unset, .unset, .unset, .unset, .unset] [(.long v10), (.long v17)])) _
    refine XS.lcmp X44.here hx rfl (hb hby at_79) rfl ?_
    exact k)
  obtain ⟨z93_s0, hz93_s0⟩ : ∃ z : Int32, z = (if v17 < v10 then (if z73_s0 = (0 : Int32) then (0 : Int32) else (1 : Int32)) else (1 : Int32)) := ⟨_, rfl⟩
  obtain ⟨T50, Lc50, X50, e50, N50, pre50⟩ : ∃ (T' : State) (locs' : List Loc), Stand p l e room_1 s m #[(.long q1), (.long q2), (.long q3), (.long q4), (.long q5)] below meth c T' locs' 2 4 ∧ T'.heap = T40.heap ∧ Fr n0 locs' ∧ ∀ t, Steps p.tables e below (T'.setTop (mkF m 93 #[.val (.long q1), .second, .val (.long q2), .second, .val (.long q3), .second, .val (.long q4), .second, .val (.long q5), .second, .val (.long v4), .second, .val (.long v10), .second, .val (.long v17), .second, .val (.long v24), .second, .val (.long v31), .second, .val (.ref b37), .val (.ref b_39), .val (.int z73_s0), .unset, .unset, .unset, .unset, .unset] [(.int z93_s0)])) t → Steps p.tables e below (s₁.setTop (entryFrame m #[(.long q1), (.long q2), (.long q3), (.long q4), (.long q5)] maxLocals)) t := by
    by_cases hc80 : v17 < v10
    ·
      have pre46 : ∀ t, Steps p.tables e below (T44.setTop (mkF m 85 #[.val (.long q1), .second, .val (.long q2), .second, .val (.long q3), .second, .val (.long q4), .second, .val (.long q5), .second, .val (.long v4), .second, .val (.long v10), .second, .val (.long v17), .second, .val (.long v24), .second, .val (.long v31), .second, .val (.ref b37), .val (.ref b_39), .val (.int z73_s0), .unset, .unset, .unset, .unset, .unset] [(.int z73_s0)])) t → Steps p.tables e below (s₁.setTop (entryFrame m #[(.long q1), (.long q2), (.long q3), (.long q4), (.long q5)] maxLocals)) t := fun t k => pre45 t (by
        show Steps p.tables e below (T44.setTop (mkF m 80 #[.val (.long q1), .second, .val (.long q2), .second, .val (.long q3), .second, .val (.long q4), .second, .val (.long q5), .second, .val (.long v4), .second, .val (.long v10), .second, .val (.long v17), .second, .val (.long v24), .second, .val (.long v31), .second, .val (.ref b37), .val (.ref b_39), .val (.int z73_s0), .unset, .unset, .unset, .unset, .unset] [(.int (lcmpW v17 v10))])) _
        refine XS.ifNo X44.here hx rfl (hb hby at_80) rfl ((if0 _ _).trans (tlt ((lw_lt v17 v10).mpr hc80)).2.1) ?_
        show Steps p.tables e below (T44.setTop (mkF m 83 #[.val (.long q1), .second, .val (.long q2), .second, .val (.long q3), .second, .val (.long q4), .second, .val (.long q5), .second, .val (.long v4), .second, .val (.long v10), .second, .val (.long v17), .second, .val (.long v24), .second, .val (.long v31), .second, .val (.ref b37), .val (.ref b_39), .val (.int z73_s0), .unset, .unset, .unset, .unset, .unset] [])) _
        refine XS.iload X44.here hx rfl (hb hby at_83) rfl ?_
        exact k)
      by_cases hc85 : z73_s0 = (0 : Int32)
      ·
        have pre47 : ∀ t, Steps p.tables e below (T44.setTop (mkF m 93 #[.val (.long q1), .second, .val (.long q2), .second, .val (.long q3), .second, .val (.long q4), .second, .val (.long q5), .second, .val (.long v4), .second, .val (.long v10), .second, .val (.long v17), .second, .val (.long v24), .second, .val (.long v31), .second, .val (.ref b37), .val (.ref b_39), .val (.int z73_s0), .unset, .unset, .unset, .unset, .unset] [(.int (0 : Int32))])) t → Steps p.tables e below (s₁.setTop (entryFrame m #[(.long q1), (.long q2), (.long q3), (.long q4), (.long q5)] maxLocals)) t := fun t k => pre46 t (by
          show Steps p.tables e below (T44.setTop (mkF m 85 #[.val (.long q1), .second, .val (.long q2), .second, .val (.long q3), .second, .val (.long q4), .second, .val (.long q5), .second, .val (.long v4), .second, .val (.long v10), .second, .val (.long v17), .second, .val (.long v24), .second, .val (.long v31), .second, .val (.ref b37), .val (.ref b_39), .val (.int z73_s0), .unset, .unset, .unset, .unset, .unset] [(.int z73_s0)])) _
          refine XS.ifYes X44.here hx rfl (pc0 := 85) (pc' := 92) rfl (hb hby at_85) rfl ((if0 _ _).trans (teq hc85).1) (by decide) (by decide) ?_
          show Steps p.tables e below (T44.setTop (mkF m 92 #[.val (.long q1), .second, .val (.long q2), .second, .val (.long q3), .second, .val (.long q4), .second, .val (.long q5), .second, .val (.long v4), .second, .val (.long v10), .second, .val (.long v17), .second, .val (.long v24), .second, .val (.long v31), .second, .val (.ref b37), .val (.ref b_39), .val (.int z73_s0), .unset, .unset, .unset, .unset, .unset] [])) _
          refine XS.iconst X44.here hx rfl (hb hby at_92) ?_
          exact k)
        have q_z93_s0 : z93_s0 = (0 : Int32) := by rw [hz93_s0, if_pos hc80, if_pos hc85]
        refine ⟨_, _, X44, e44, N44, fun t k => ?_⟩
        rw [q_z93_s0] at k
        exact pre47 t k
      ·
        have pre48 : ∀ t, Steps p.tables e below (T44.setTop (mkF m 93 #[.val (.long q1), .second, .val (.long q2), .second, .val (.long q3), .second, .val (.long q4), .second, .val (.long q5), .second, .val (.long v4), .second, .val (.long v10), .second, .val (.long v17), .second, .val (.long v24), .second, .val (.long v31), .second, .val (.ref b37), .val (.ref b_39), .val (.int z73_s0), .unset, .unset, .unset, .unset, .unset] [(.int (1 : Int32))])) t → Steps p.tables e below (s₁.setTop (entryFrame m #[(.long q1), (.long q2), (.long q3), (.long q4), (.long q5)] maxLocals)) t := fun t k => pre46 t (by
          show Steps p.tables e below (T44.setTop (mkF m 85 #[.val (.long q1), .second, .val (.long q2), .second, .val (.long q3), .second, .val (.long q4), .second, .val (.long q5), .second, .val (.long v4), .second, .val (.long v10), .second, .val (.long v17), .second, .val (.long v24), .second, .val (.long v31), .second, .val (.ref b37), .val (.ref b_39), .val (.int z73_s0), .unset, .unset, .unset, .unset, .unset] [(.int z73_s0)])) _
          refine XS.ifNo X44.here hx rfl (hb hby at_85) rfl ((if0 _ _).trans (feq hc85).1) ?_
          show Steps p.tables e below (T44.setTop (mkF m 88 #[.val (.long q1), .second, .val (.long q2), .second, .val (.long q3), .second, .val (.long q4), .second, .val (.long q5), .second, .val (.long v4), .second, .val (.long v10), .second, .val (.long v17), .second, .val (.long v24), .second, .val (.long v31), .second, .val (.ref b37), .val (.ref b_39), .val (.int z73_s0), .unset, .unset, .unset, .unset, .unset] [])) _
          refine XS.iconst X44.here hx rfl (hb hby at_88) ?_
          show Steps p.tables e below (T44.setTop (mkF m 89 #[.val (.long q1), .second, .val (.long q2), .second, .val (.long q3), .second, .val (.long q4), .second, .val (.long q5), .second, .val (.long v4), .second, .val (.long v10), .second, .val (.long v17), .second, .val (.long v24), .second, .val (.long v31), .second, .val (.ref b37), .val (.ref b_39), .val (.int z73_s0), .unset, .unset, .unset, .unset, .unset] [(.int (1 : Int32))])) _
          refine XS.goto X44.here hx rfl (pc0 := 89) (pc' := 93) rfl (hb hby at_89) (by decide) (by decide) ?_
          exact k)
        have q_z93_s0 : z93_s0 = (1 : Int32) := by rw [hz93_s0, if_pos hc80, if_neg hc85]
        refine ⟨_, _, X44, e44, N44, fun t k => ?_⟩
        rw [q_z93_s0] at k
        exact pre48 t k
    ·
      have pre49 : ∀ t, Steps p.tables e below (T44.setTop (mkF m 93 #[.val (.long q1), .second, .val (.long q2), .second, .val (.long q3), .second, .val (.long q4), .second, .val (.long q5), .second, .val (.long v4), .second, .val (.long v10), .second, .val (.long v17), .second, .val (.long v24), .second, .val (.long v31), .second, .val (.ref b37), .val (.ref b_39), .val (.int z73_s0), .unset, .unset, .unset, .unset, .unset] [(.int (1 : Int32))])) t → Steps p.tables e below (s₁.setTop (entryFrame m #[(.long q1), (.long q2), (.long q3), (.long q4), (.long q5)] maxLocals)) t := fun t k => pre45 t (by
        show Steps p.tables e below (T44.setTop (mkF m 80 #[.val (.long q1), .second, .val (.long q2), .second, .val (.long q3), .second, .val (.long q4), .second, .val (.long q5), .second, .val (.long v4), .second, .val (.long v10), .second, .val (.long v17), .second, .val (.long v24), .second, .val (.long v31), .second, .val (.ref b37), .val (.ref b_39), .val (.int z73_s0), .unset, .unset, .unset, .unset, .unset] [(.int (lcmpW v17 v10))])) _
        refine XS.ifYes X44.here hx rfl (pc0 := 80) (pc' := 88) rfl (hb hby at_80) rfl ((if0 _ _).trans (flt (fun q => hc80 ((lw_lt v17 v10).mp q))).2.1) (by decide) (by decide) ?_
        show Steps p.tables e below (T44.setTop (mkF m 88 #[.val (.long q1), .second, .val (.long q2), .second, .val (.long q3), .second, .val (.long q4), .second, .val (.long q5), .second, .val (.long v4), .second, .val (.long v10), .second, .val (.long v17), .second, .val (.long v24), .second, .val (.long v31), .second, .val (.ref b37), .val (.ref b_39), .val (.int z73_s0), .unset, .unset, .unset, .unset, .unset] [])) _
        refine XS.iconst X44.here hx rfl (hb hby at_88) ?_
        show Steps p.tables e below (T44.setTop (mkF m 89 #[.val (.long q1), .second, .val (.long q2), .second, .val (.long q3), .second, .val (.long q4), .second, .val (.long q5), .second, .val (.long v4), .second, .val (.long v10), .second, .val (.long v17), .second, .val (.long v24), .second, .val (.long v31), .second, .val (.ref b37), .val (.ref b_39), .val (.int z73_s0), .unset, .unset, .unset, .unset, .unset] [(.int (1 : Int32))])) _
        refine XS.goto X44.here hx rfl (pc0 := 89) (pc' := 93) rfl (hb hby at_89) (by decide) (by decide) ?_
        exact k)
      have q_z93_s0 : z93_s0 = (1 : Int32) := by rw [hz93_s0, if_neg hc80]
      refine ⟨_, _, X44, e44, N44, fun t k => ?_⟩
      rw [q_z93_s0] at k
      exact pre49 t k
  obtain ⟨cq51, kq51, q51a, q51b, q51c⟩ := isOf hZ e50 E_b37
  obtain ⟨_, _, ⟨T51, L51, k51, n51⟩, -, X51, ⟨Lc51, hQ51, l51, y51, z51⟩, st51⟩ := X50.virtualBack hx (y := (⟨"com/example/regolo/regolo/engine/Work", "spent", "()Z"⟩ : MethodName)) (z := (⟨"com/example/regolo/regolo/engine/Work", "spent", "()Z"⟩ : MethodName)) hown (mvT hZ (hw _ (List.mem_of_getElem? (i := 36) rfl))) (mvT hZ (hw _ (List.mem_of_getElem? (i := 37) rfl))) (notFace_of_selects (args := #[]) (mvT hZ (hw _ (List.mem_of_getElem? (i := 39) rfl)))) (mvT hZ (hw _ (List.mem_of_getElem? (i := 39) rfl))) (mvT hZ (hw _ (List.mem_of_getElem? (i := 38) rfl))) (by decide) (backOf (W := 0) (rmT0 l Z a0 hw [] b37 (v4 - v17) T40.heap n0 Zs F_left_b37 F_whole_b37) hZ (hw _ (List.mem_of_getElem? (i := 40) rfl)) (hw _ (List.mem_of_getElem? (i := 10) rfl)) (by decide) (by decide)) q51a q51c (g := (mkF m 97 #[.val (.long q1), .second, .val (.long q2), .second, .val (.long q3), .second, .val (.long q4), .second, .val (.long q5), .second, .val (.long v4), .second, .val (.long v10), .second, .val (.long v17), .second, .val (.long v24), .second, .val (.long v31), .second, .val (.ref b37), .val (.ref b_39), .val (.int z73_s0), .val (.int z93_s0), .unset, .unset, .unset, .unset] [(.ref b37)])) rfl (by rw [hml]; rfl) (Steps.refl _) (argsL := []) (rest := []) (lenOf pd_2 rfl) rfl (by show 2 * 0 + _ ≤ _; exact Nat.le_of_eq rfl) (hb hby at_97) (fun _ _ => ⟨rfl, e50, (by decide : 2 + 0 ≤ _), (by decide : 4 + 0 ≤ _)⟩)
  dsimp only [Pt.U, Pt.locs, Pt.cells, Pt.slots] at X51 l51 y51 z51 st51 hQ51
  subst l51 y51 z51
  obtain ⟨rfl, N51q, e51⟩ := hQ51
  have N51 := Fr.app N50 N51q
  have pre52 : ∀ t, Steps p.tables e below (T51.setTop (mkF m 102 #[.val (.long q1), .second, .val (.long q2), .second, .val (.long q3), .second, .val (.long q4), .second, .val (.long q5), .second, .val (.long v4), .second, .val (.long v10), .second, .val (.long v17), .second, .val (.long v24), .second, .val (.long v31), .second, .val (.ref b37), .val (.ref b_39), .val (.int z73_s0), .val (.int z93_s0), .unset, .unset, .unset, .unset] [(.int z73_s0), (.int (fT0 (v4 - v17)))])) t → Steps p.tables e below (s₁.setTop (entryFrame m #[(.long q1), (.long q2), (.long q3), (.long q4), (.long q5)] maxLocals)) t := fun t k => pre50 t (by
    show Steps p.tables e below (T50.setTop (mkF m 93 #[.val (.long q1), .second, .val (.long q2), .second, .val (.long q3), .second, .val (.long q4), .second, .val (.long q5), .second, .val (.long v4), .second, .val (.long v10), .second, .val (.long v17), .second, .val (.long v24), .second, .val (.long v31), .second, .val (.ref b37), .val (.ref b_39), .val (.int z73_s0), .unset, .unset, .unset, .unset, .unset] [(.int z93_s0)])) _
    refine XS.istore X50.here hx rfl (hb hby at_93) rfl (l' := #[.val (.long q1), .second, .val (.long q2), .second, .val (.long q3), .second, .val (.long q4), .second, .val (.long q5), .second, .val (.long v4), .second, .val (.long v10), .second, .val (.long v17), .second, .val (.long v24), .second, .val (.long v31), .second, .val (.ref b37), .val (.ref b_39), .val (.int z73_s0), .val (.int z93_s0), .unset, .unset, .unset, .unset]) rfl ?_
    show Steps p.tables e below (T50.setTop (mkF m 95 #[.val (.long q1), .second, .val (.long q2), .second, .val (.long q3), .second, .val (.long q4), .second, .val (.long q5), .second, .val (.long v4), .second, .val (.long v10), .second, .val (.long v17), .second, .val (.long v24), .second, .val (.long v31), .second, .val (.ref b37), .val (.ref b_39), .val (.int z73_s0), .val (.int z93_s0), .unset, .unset, .unset, .unset] [])) _
    refine XS.aload X50.here hx rfl (hb hby at_95) rfl rfl ?_
    show Steps p.tables e below (T50.setTop (mkF m 97 #[.val (.long q1), .second, .val (.long q2), .second, .val (.long q3), .second, .val (.long q4), .second, .val (.long q5), .second, .val (.long v4), .second, .val (.long v10), .second, .val (.long v17), .second, .val (.long v24), .second, .val (.long v31), .second, .val (.ref b37), .val (.ref b_39), .val (.int z73_s0), .val (.int z93_s0), .unset, .unset, .unset, .unset] [(.ref b37)])) _
    refine st51.trans ?_
    show Steps p.tables e below (T51.setTop (mkF m 100 #[.val (.long q1), .second, .val (.long q2), .second, .val (.long q3), .second, .val (.long q4), .second, .val (.long q5), .second, .val (.long v4), .second, .val (.long v10), .second, .val (.long v17), .second, .val (.long v24), .second, .val (.long v31), .second, .val (.ref b37), .val (.ref b_39), .val (.int z73_s0), .val (.int z93_s0), .unset, .unset, .unset, .unset] [(.int (fT0 (v4 - v17)))])) _
    refine XS.iload X51.here hx rfl (hb hby at_100) rfl ?_
    exact k)
  obtain ⟨z120_s0, hz120_s0⟩ : ∃ z : Int32, z = (if (fT0 (v4 - v17)) = z73_s0 then (if (fT1 (v10 - v17) (v4 - v17)) = z93_s0 then (1 : Int32) else (0 : Int32)) else (0 : Int32)) := ⟨_, rfl⟩
  obtain ⟨T58, Lc58, X58, e58, N58, pre58⟩ : ∃ (T' : State) (locs' : List Loc), Stand p l e room_1 s m #[(.long q1), (.long q2), (.long q3), (.long q4), (.long q5)] below meth c T' locs' 2 4 ∧ T'.heap = T40.heap ∧ Fr n0 locs' ∧ ∀ t, Steps p.tables e below (T'.setTop (mkF m 120 #[.val (.long q1), .second, .val (.long q2), .second, .val (.long q3), .second, .val (.long q4), .second, .val (.long q5), .second, .val (.long v4), .second, .val (.long v10), .second, .val (.long v17), .second, .val (.long v24), .second, .val (.long v31), .second, .val (.ref b37), .val (.ref b_39), .val (.int z73_s0), .val (.int z93_s0), .unset, .unset, .unset, .unset] [(.int z120_s0)])) t → Steps p.tables e below (s₁.setTop (entryFrame m #[(.long q1), (.long q2), (.long q3), (.long q4), (.long q5)] maxLocals)) t := by
    by_cases hc102 : (fT0 (v4 - v17)) = z73_s0
    ·
      obtain ⟨cq53, kq53, q53a, q53b, q53c⟩ := isOf hZ e51 E_b_39
      obtain ⟨_, _, ⟨T53, L53, k53, n53⟩, -, X53, ⟨Lc53, hQ53, l53, y53, z53⟩, st53⟩ := X51.virtualBack hx (y := (⟨"com/example/regolo/regolo/engine/Work", "spent", "()Z"⟩ : MethodName)) (z := (⟨"com/example/regolo/regolo/engine/Work", "spent", "()Z"⟩ : MethodName)) hown (mvT hZ (hw _ (List.mem_of_getElem? (i := 36) rfl))) (mvT hZ (hw _ (List.mem_of_getElem? (i := 37) rfl))) (notFace_of_selects (args := #[]) (mvT hZ (hw _ (List.mem_of_getElem? (i := 39) rfl)))) (mvT hZ (hw _ (List.mem_of_getElem? (i := 39) rfl))) (mvT hZ (hw _ (List.mem_of_getElem? (i := 38) rfl))) (by decide) (backOf (W := 0) (rmT1 l Z a0 hw [] b_39 (v10 - v17) b37 (v4 - v17) T40.heap n0 Zs F_left_b_39 F_whole_b_39 E_b37 F_left_b37 F_whole_b37) hZ (hw _ (List.mem_of_getElem? (i := 40) rfl)) (hw _ (List.mem_of_getElem? (i := 10) rfl)) (by decide) (by decide)) q53a q53c (g := (mkF m 107 #[.val (.long q1), .second, .val (.long q2), .second, .val (.long q3), .second, .val (.long q4), .second, .val (.long q5), .second, .val (.long v4), .second, .val (.long v10), .second, .val (.long v17), .second, .val (.long v24), .second, .val (.long v31), .second, .val (.ref b37), .val (.ref b_39), .val (.int z73_s0), .val (.int z93_s0), .unset, .unset, .unset, .unset] [(.ref b_39)])) rfl (by rw [hml]; rfl) (Steps.refl _) (argsL := []) (rest := []) (lenOf pd_2 rfl) rfl (by show 2 * 0 + _ ≤ _; exact Nat.le_of_eq rfl) (hb hby at_107) (fun _ _ => ⟨rfl, e51, (by decide : 2 + 0 ≤ _), (by decide : 4 + 0 ≤ _)⟩)
      dsimp only [Pt.U, Pt.locs, Pt.cells, Pt.slots] at X53 l53 y53 z53 st53 hQ53
      subst l53 y53 z53
      obtain ⟨rfl, N53q, e53⟩ := hQ53
      have N53 := Fr.app N51 N53q
      have pre54 : ∀ t, Steps p.tables e below (T53.setTop (mkF m 112 #[.val (.long q1), .second, .val (.long q2), .second, .val (.long q3), .second, .val (.long q4), .second, .val (.long q5), .second, .val (.long v4), .second, .val (.long v10), .second, .val (.long v17), .second, .val (.long v24), .second, .val (.long v31), .second, .val (.ref b37), .val (.ref b_39), .val (.int z73_s0), .val (.int z93_s0), .unset, .unset, .unset, .unset] [(.int z93_s0), (.int (fT1 (v10 - v17) (v4 - v17)))])) t → Steps p.tables e below (s₁.setTop (entryFrame m #[(.long q1), (.long q2), (.long q3), (.long q4), (.long q5)] maxLocals)) t := fun t k => pre52 t (by
        show Steps p.tables e below (T51.setTop (mkF m 102 #[.val (.long q1), .second, .val (.long q2), .second, .val (.long q3), .second, .val (.long q4), .second, .val (.long q5), .second, .val (.long v4), .second, .val (.long v10), .second, .val (.long v17), .second, .val (.long v24), .second, .val (.long v31), .second, .val (.ref b37), .val (.ref b_39), .val (.int z73_s0), .val (.int z93_s0), .unset, .unset, .unset, .unset] [(.int z73_s0), (.int (fT0 (v4 - v17)))])) _
        refine XS.icmpNo X51.here hx rfl (hb hby at_102) rfl (teq hc102).2 ?_
        show Steps p.tables e below (T51.setTop (mkF m 105 #[.val (.long q1), .second, .val (.long q2), .second, .val (.long q3), .second, .val (.long q4), .second, .val (.long q5), .second, .val (.long v4), .second, .val (.long v10), .second, .val (.long v17), .second, .val (.long v24), .second, .val (.long v31), .second, .val (.ref b37), .val (.ref b_39), .val (.int z73_s0), .val (.int z93_s0), .unset, .unset, .unset, .unset] [])) _
        refine XS.aload X51.here hx rfl (hb hby at_105) rfl rfl ?_
        show Steps p.tables e below (T51.setTop (mkF m 107 #[.val (.long q1), .second, .val (.long q2), .second, .val (.long q3), .second, .val (.long q4), .second, .val (.long q5), .second, .val (.long v4), .second, .val (.long v10), .second, .val (.long v17), .second, .val (.long v24), .second, .val (.long v31), .second, .val (.ref b37), .val (.ref b_39), .val (.int z73_s0), .val (.int z93_s0), .unset, .unset, .unset, .unset] [(.ref b_39)])) _
        refine st53.trans ?_
        show Steps p.tables e below (T53.setTop (mkF m 110 #[.val (.long q1), .second, .val (.long q2), .second, .val (.long q3), .second, .val (.long q4), .second, .val (.long q5), .second, .val (.long v4), .second, .val (.long v10), .second, .val (.long v17), .second, .val (.long v24), .second, .val (.long v31), .second, .val (.ref b37), .val (.ref b_39), .val (.int z73_s0), .val (.int z93_s0), .unset, .unset, .unset, .unset] [(.int (fT1 (v10 - v17) (v4 - v17)))])) _
        refine XS.iload X53.here hx rfl (hb hby at_110) rfl ?_
        exact k)
      by_cases hc112 : (fT1 (v10 - v17) (v4 - v17)) = z93_s0
      ·
        have pre55 : ∀ t, Steps p.tables e below (T53.setTop (mkF m 120 #[.val (.long q1), .second, .val (.long q2), .second, .val (.long q3), .second, .val (.long q4), .second, .val (.long q5), .second, .val (.long v4), .second, .val (.long v10), .second, .val (.long v17), .second, .val (.long v24), .second, .val (.long v31), .second, .val (.ref b37), .val (.ref b_39), .val (.int z73_s0), .val (.int z93_s0), .unset, .unset, .unset, .unset] [(.int (1 : Int32))])) t → Steps p.tables e below (s₁.setTop (entryFrame m #[(.long q1), (.long q2), (.long q3), (.long q4), (.long q5)] maxLocals)) t := fun t k => pre54 t (by
          show Steps p.tables e below (T53.setTop (mkF m 112 #[.val (.long q1), .second, .val (.long q2), .second, .val (.long q3), .second, .val (.long q4), .second, .val (.long q5), .second, .val (.long v4), .second, .val (.long v10), .second, .val (.long v17), .second, .val (.long v24), .second, .val (.long v31), .second, .val (.ref b37), .val (.ref b_39), .val (.int z73_s0), .val (.int z93_s0), .unset, .unset, .unset, .unset] [(.int z93_s0), (.int (fT1 (v10 - v17) (v4 - v17)))])) _
          refine XS.icmpNo X53.here hx rfl (hb hby at_112) rfl (teq hc112).2 ?_
          show Steps p.tables e below (T53.setTop (mkF m 115 #[.val (.long q1), .second, .val (.long q2), .second, .val (.long q3), .second, .val (.long q4), .second, .val (.long q5), .second, .val (.long v4), .second, .val (.long v10), .second, .val (.long v17), .second, .val (.long v24), .second, .val (.long v31), .second, .val (.ref b37), .val (.ref b_39), .val (.int z73_s0), .val (.int z93_s0), .unset, .unset, .unset, .unset] [])) _
          refine XS.iconst X53.here hx rfl (hb hby at_115) ?_
          show Steps p.tables e below (T53.setTop (mkF m 116 #[.val (.long q1), .second, .val (.long q2), .second, .val (.long q3), .second, .val (.long q4), .second, .val (.long q5), .second, .val (.long v4), .second, .val (.long v10), .second, .val (.long v17), .second, .val (.long v24), .second, .val (.long v31), .second, .val (.ref b37), .val (.ref b_39), .val (.int z73_s0), .val (.int z93_s0), .unset, .unset, .unset, .unset] [(.int (1 : Int32))])) _
          refine XS.goto X53.here hx rfl (pc0 := 116) (pc' := 120) rfl (hb hby at_116) (by decide) (by decide) ?_
          exact k)
        have q_z120_s0 : z120_s0 = (1 : Int32) := by rw [hz120_s0, if_pos hc102, if_pos hc112]
        refine ⟨_, _, X53, e53, N53, fun t k => ?_⟩
        rw [q_z120_s0] at k
        exact pre55 t k
      ·
        have pre56 : ∀ t, Steps p.tables e below (T53.setTop (mkF m 120 #[.val (.long q1), .second, .val (.long q2), .second, .val (.long q3), .second, .val (.long q4), .second, .val (.long q5), .second, .val (.long v4), .second, .val (.long v10), .second, .val (.long v17), .second, .val (.long v24), .second, .val (.long v31), .second, .val (.ref b37), .val (.ref b_39), .val (.int z73_s0), .val (.int z93_s0), .unset, .unset, .unset, .unset] [(.int (0 : Int32))])) t → Steps p.tables e below (s₁.setTop (entryFrame m #[(.long q1), (.long q2), (.long q3), (.long q4), (.long q5)] maxLocals)) t := fun t k => pre54 t (by
          show Steps p.tables e below (T53.setTop (mkF m 112 #[.val (.long q1), .second, .val (.long q2), .second, .val (.long q3), .second, .val (.long q4), .second, .val (.long q5), .second, .val (.long v4), .second, .val (.long v10), .second, .val (.long v17), .second, .val (.long v24), .second, .val (.long v31), .second, .val (.ref b37), .val (.ref b_39), .val (.int z73_s0), .val (.int z93_s0), .unset, .unset, .unset, .unset] [(.int z93_s0), (.int (fT1 (v10 - v17) (v4 - v17)))])) _
          refine XS.icmpYes X53.here hx rfl (pc0 := 112) (pc' := 119) rfl (hb hby at_112) rfl (feq hc112).2 (by decide) (by decide) ?_
          show Steps p.tables e below (T53.setTop (mkF m 119 #[.val (.long q1), .second, .val (.long q2), .second, .val (.long q3), .second, .val (.long q4), .second, .val (.long q5), .second, .val (.long v4), .second, .val (.long v10), .second, .val (.long v17), .second, .val (.long v24), .second, .val (.long v31), .second, .val (.ref b37), .val (.ref b_39), .val (.int z73_s0), .val (.int z93_s0), .unset, .unset, .unset, .unset] [])) _
          refine XS.iconst X53.here hx rfl (hb hby at_119) ?_
          exact k)
        have q_z120_s0 : z120_s0 = (0 : Int32) := by rw [hz120_s0, if_pos hc102, if_neg hc112]
        refine ⟨_, _, X53, e53, N53, fun t k => ?_⟩
        rw [q_z120_s0] at k
        exact pre56 t k
    ·
      have pre57 : ∀ t, Steps p.tables e below (T51.setTop (mkF m 120 #[.val (.long q1), .second, .val (.long q2), .second, .val (.long q3), .second, .val (.long q4), .second, .val (.long q5), .second, .val (.long v4), .second, .val (.long v10), .second, .val (.long v17), .second, .val (.long v24), .second, .val (.long v31), .second, .val (.ref b37), .val (.ref b_39), .val (.int z73_s0), .val (.int z93_s0), .unset, .unset, .unset, .unset] [(.int (0 : Int32))])) t → Steps p.tables e below (s₁.setTop (entryFrame m #[(.long q1), (.long q2), (.long q3), (.long q4), (.long q5)] maxLocals)) t := fun t k => pre52 t (by
        show Steps p.tables e below (T51.setTop (mkF m 102 #[.val (.long q1), .second, .val (.long q2), .second, .val (.long q3), .second, .val (.long q4), .second, .val (.long q5), .second, .val (.long v4), .second, .val (.long v10), .second, .val (.long v17), .second, .val (.long v24), .second, .val (.long v31), .second, .val (.ref b37), .val (.ref b_39), .val (.int z73_s0), .val (.int z93_s0), .unset, .unset, .unset, .unset] [(.int z73_s0), (.int (fT0 (v4 - v17)))])) _
        refine XS.icmpYes X51.here hx rfl (pc0 := 102) (pc' := 119) rfl (hb hby at_102) rfl (feq hc102).2 (by decide) (by decide) ?_
        show Steps p.tables e below (T51.setTop (mkF m 119 #[.val (.long q1), .second, .val (.long q2), .second, .val (.long q3), .second, .val (.long q4), .second, .val (.long q5), .second, .val (.long v4), .second, .val (.long v10), .second, .val (.long v17), .second, .val (.long v24), .second, .val (.long v31), .second, .val (.ref b37), .val (.ref b_39), .val (.int z73_s0), .val (.int z93_s0), .unset, .unset, .unset, .unset] [])) _
        refine XS.iconst X51.here hx rfl (hb hby at_119) ?_
        exact k)
      have q_z120_s0 : z120_s0 = (0 : Int32) := by rw [hz120_s0, if_neg hc102]
      refine ⟨_, _, X51, e51, N51, fun t k => ?_⟩
      rw [q_z120_s0] at k
      exact pre57 t k
  obtain ⟨cq59, kq59, q59a, q59b, q59c⟩ := isOf hZ e58 E_b37
  obtain ⟨_, _, ⟨T59, L59, k59, n59⟩, -, X59, ⟨Lc59, hQ59, l59, y59, z59⟩, st59⟩ := X58.virtualBack hx (y := (⟨"com/example/regolo/regolo/engine/Work", "spend", "(J)V"⟩ : MethodName)) (z := (⟨"com/example/regolo/regolo/engine/Work", "spend", "(J)V"⟩ : MethodName)) hown (mvT hZ (hw _ (List.mem_of_getElem? (i := 30) rfl))) (mvT hZ (hw _ (List.mem_of_getElem? (i := 31) rfl))) (notFace_of_selects (args := #[]) (mvT hZ (hw _ (List.mem_of_getElem? (i := 33) rfl)))) (mvT hZ (hw _ (List.mem_of_getElem? (i := 33) rfl))) (mvT hZ (hw _ (List.mem_of_getElem? (i := 32) rfl))) (by decide) (backOf (W := 0) (rmS0 l Z a0 hw [] b37 v24 (v4 - v17) T40.heap n0 Zs E_b37 F_left_b37 F_whole_b37 g_b37) hZ (hw _ (List.mem_of_getElem? (i := 34) rfl)) (hw _ (List.mem_of_getElem? (i := 10) rfl)) (by decide) (by decide)) q59a q59c (g := (mkF m 126 #[.val (.long q1), .second, .val (.long q2), .second, .val (.long q3), .second, .val (.long q4), .second, .val (.long q5), .second, .val (.long v4), .second, .val (.long v10), .second, .val (.long v17), .second, .val (.long v24), .second, .val (.long v31), .second, .val (.ref b37), .val (.ref b_39), .val (.int z73_s0), .val (.int z93_s0), .val (.int z120_s0), .unset, .unset, .unset] [(.long v24), (.ref b37)])) rfl (by rw [hml]; rfl) (Steps.refl _) (argsL := [(.long v24)]) (rest := []) (lenOf pd_1 rfl) rfl (by show 2 * 0 + _ ≤ _; exact Nat.le_of_eq rfl) (hb hby at_126) (fun _ _ => ⟨rfl, e58, (by decide : 2 + 0 ≤ _), (by decide : 4 + 0 ≤ _)⟩)
  dsimp only [Pt.U, Pt.locs, Pt.cells, Pt.slots] at X59 l59 y59 z59 st59 hQ59
  subst l59 y59 z59
  obtain ⟨rfl, N59q, K59, P59_1, P59_2⟩ := hQ59
  have Zs : n0 ≤ T59.heap.size := Nat.le_trans Zs K59.1
  have E_b37 : Exa Z T59.heap b37 "com/example/regolo/regolo/engine/Work" := E_b37.keep K59
  have E_b_39 : Exa Z T59.heap b_39 "com/example/regolo/regolo/engine/Work" := E_b_39.keep K59
  have F_left_b_39 : Fld Z T59.heap b_39 "com/example/regolo/regolo/engine/Work" "left" "J" (.long (v10 - v17)) := F_left_b_39.keep K59 (ninS (Ne.symm ne_b37_b_39) nin0)
  have F_whole_b_39 : Fld Z T59.heap b_39 "com/example/regolo/regolo/engine/Work" "whole" "Lcom/example/regolo/regolo/engine/Work;" (.ref b37) := F_whole_b_39.keep K59 (ninS (Ne.symm ne_b37_b_39) nin0)
  have F_left_b37 : Fld Z T59.heap b37 "com/example/regolo/regolo/engine/Work" "left" "J" (.long ((v4 - v17) - v24)) := P59_1
  have F_whole_b37 : Fld Z T59.heap b37 "com/example/regolo/regolo/engine/Work" "whole" "Lcom/example/regolo/regolo/engine/Work;" .null := P59_2
  have N59 := Fr.app N58 N59q
  obtain ⟨cq60, kq60, q60a, q60b, q60c⟩ := isOf hZ rfl E_b_39
  obtain ⟨_, _, ⟨T60, L60, k60, n60⟩, -, X60, ⟨Lc60, hQ60, l60, y60, z60⟩, st60⟩ := X59.virtualBack hx (y := (⟨"com/example/regolo/regolo/engine/Work", "spend", "(J)V"⟩ : MethodName)) (z := (⟨"com/example/regolo/regolo/engine/Work", "spend", "(J)V"⟩ : MethodName)) hown (mvT hZ (hw _ (List.mem_of_getElem? (i := 30) rfl))) (mvT hZ (hw _ (List.mem_of_getElem? (i := 31) rfl))) (notFace_of_selects (args := #[]) (mvT hZ (hw _ (List.mem_of_getElem? (i := 33) rfl)))) (mvT hZ (hw _ (List.mem_of_getElem? (i := 33) rfl))) (mvT hZ (hw _ (List.mem_of_getElem? (i := 32) rfl))) (by decide) (backOf (W := 0) (rmS1 l Z a0 hw [] b_39 v31 (v10 - v17) b37 ((v4 - v17) - v24) T59.heap n0 Zs E_b_39 F_left_b_39 F_whole_b_39 g_b_39 E_b37 F_left_b37 F_whole_b37 g_b37 (Ne.symm ne_b37_b_39)) hZ (hw _ (List.mem_of_getElem? (i := 34) rfl)) (hw _ (List.mem_of_getElem? (i := 10) rfl)) (by decide) (by decide)) q60a q60c (g := (mkF m 133 #[.val (.long q1), .second, .val (.long q2), .second, .val (.long q3), .second, .val (.long q4), .second, .val (.long q5), .second, .val (.long v4), .second, .val (.long v10), .second, .val (.long v17), .second, .val (.long v24), .second, .val (.long v31), .second, .val (.ref b37), .val (.ref b_39), .val (.int z73_s0), .val (.int z93_s0), .val (.int z120_s0), .unset, .unset, .unset] [(.long v31), (.ref b_39)])) rfl (by rw [hml]; rfl) (Steps.refl _) (argsL := [(.long v31)]) (rest := []) (lenOf pd_1 rfl) rfl (by show 2 * 0 + _ ≤ _; exact Nat.le_of_eq rfl) (hb hby at_133) (fun _ _ => ⟨rfl, rfl, (by decide : 2 + 0 ≤ _), (by decide : 4 + 0 ≤ _)⟩)
  dsimp only [Pt.U, Pt.locs, Pt.cells, Pt.slots] at X60 l60 y60 z60 st60 hQ60
  subst l60 y60 z60
  obtain ⟨rfl, N60q, K60, P60_1, P60_2, P60_3, P60_4⟩ := hQ60
  have Zs : n0 ≤ T60.heap.size := Nat.le_trans Zs K60.1
  have E_b37 : Exa Z T60.heap b37 "com/example/regolo/regolo/engine/Work" := E_b37.keep K60
  have E_b_39 : Exa Z T60.heap b_39 "com/example/regolo/regolo/engine/Work" := E_b_39.keep K60
  have F_left_b_39 : Fld Z T60.heap b_39 "com/example/regolo/regolo/engine/Work" "left" "J" (.long ((v10 - v17) - v31)) := P60_1
  have F_whole_b_39 : Fld Z T60.heap b_39 "com/example/regolo/regolo/engine/Work" "whole" "Lcom/example/regolo/regolo/engine/Work;" (.ref b37) := P60_2
  have F_left_b37 : Fld Z T60.heap b37 "com/example/regolo/regolo/engine/Work" "left" "J" (.long (((v4 - v17) - v24) - v31)) := P60_3
  have F_whole_b37 : Fld Z T60.heap b37 "com/example/regolo/regolo/engine/Work" "whole" "Lcom/example/regolo/regolo/engine/Work;" .null := P60_4
  have N60 := Fr.app N59 N60q
  have pre61 : ∀ t, Steps p.tables e below (T60.setTop (mkF m 147 #[.val (.long q1), .second, .val (.long q2), .second, .val (.long q3), .second, .val (.long q4), .second, .val (.long q5), .second, .val (.long v4), .second, .val (.long v10), .second, .val (.long v17), .second, .val (.long v24), .second, .val (.long v31), .second, .val (.ref b37), .val (.ref b_39), .val (.int z73_s0), .val (.int z93_s0), .val (.int z120_s0), .unset, .unset, .unset] [(.int (lcmpW ((v17 + v24) + v31) v4))])) t → Steps p.tables e below (s₁.setTop (entryFrame m #[(.long q1), (.long q2), (.long q3), (.long q4), (.long q5)] maxLocals)) t := fun t k => pre58 t (by
    show Steps p.tables e below (T58.setTop (mkF m 120 #[.val (.long q1), .second, .val (.long q2), .second, .val (.long q3), .second, .val (.long q4), .second, .val (.long q5), .second, .val (.long v4), .second, .val (.long v10), .second, .val (.long v17), .second, .val (.long v24), .second, .val (.long v31), .second, .val (.ref b37), .val (.ref b_39), .val (.int z73_s0), .val (.int z93_s0), .unset, .unset, .unset, .unset] [(.int z120_s0)])) _
    refine XS.istore X58.here hx rfl (hb hby at_120) rfl (l' := #[.val (.long q1), .second, .val (.long q2), .second, .val (.long q3), .second, .val (.long q4), .second, .val (.long q5), .second, .val (.long v4), .second, .val (.long v10), .second, .val (.long v17), .second, .val (.long v24), .second, .val (.long v31), .second, .val (.ref b37), .val (.ref b_39), .val (.int z73_s0), .val (.int z93_s0), .val (.int z120_s0), .unset, .unset, .unset]) rfl ?_
    show Steps p.tables e below (T58.setTop (mkF m 122 #[.val (.long q1), .second, .val (.long q2), .second, .val (.long q3), .second, .val (.long q4), .second, .val (.long q5), .second, .val (.long v4), .second, .val (.long v10), .second, .val (.long v17), .second, .val (.long v24), .second, .val (.long v31), .second, .val (.ref b37), .val (.ref b_39), .val (.int z73_s0), .val (.int z93_s0), .val (.int z120_s0), .unset, .unset, .unset] [])) _
    refine XS.aload X58.here hx rfl (hb hby at_122) rfl rfl ?_
    show Steps p.tables e below (T58.setTop (mkF m 124 #[.val (.long q1), .second, .val (.long q2), .second, .val (.long q3), .second, .val (.long q4), .second, .val (.long q5), .second, .val (.long v4), .second, .val (.long v10), .second, .val (.long v17), .second, .val (.long v24), .second, .val (.long v31), .second, .val (.ref b37), .val (.ref b_39), .val (.int z73_s0), .val (.int z93_s0), .val (.int z120_s0), .unset, .unset, .unset] [(.ref b37)])) _
    refine XS.lload X58.here hx rfl (hb hby at_124) rfl ?_
    show Steps p.tables e below (T58.setTop (mkF m 126 #[.val (.long q1), .second, .val (.long q2), .second, .val (.long q3), .second, .val (.long q4), .second, .val (.long q5), .second, .val (.long v4), .second, .val (.long v10), .second, .val (.long v17), .second, .val (.long v24), .second, .val (.long v31), .second, .val (.ref b37), .val (.ref b_39), .val (.int z73_s0), .val (.int z93_s0), .val (.int z120_s0), .unset, .unset, .unset] [(.long v24), (.ref b37)])) _
    refine st59.trans ?_
    show Steps p.tables e below (T59.setTop (mkF m 129 #[.val (.long q1), .second, .val (.long q2), .second, .val (.long q3), .second, .val (.long q4), .second, .val (.long q5), .second, .val (.long v4), .second, .val (.long v10), .second, .val (.long v17), .second, .val (.long v24), .second, .val (.long v31), .second, .val (.ref b37), .val (.ref b_39), .val (.int z73_s0), .val (.int z93_s0), .val (.int z120_s0), .unset, .unset, .unset] [])) _
    refine XS.aload X59.here hx rfl (hb hby at_129) rfl rfl ?_
    show Steps p.tables e below (T59.setTop (mkF m 131 #[.val (.long q1), .second, .val (.long q2), .second, .val (.long q3), .second, .val (.long q4), .second, .val (.long q5), .second, .val (.long v4), .second, .val (.long v10), .second, .val (.long v17), .second, .val (.long v24), .second, .val (.long v31), .second, .val (.ref b37), .val (.ref b_39), .val (.int z73_s0), .val (.int z93_s0), .val (.int z120_s0), .unset, .unset, .unset] [(.ref b_39)])) _
    refine XS.lload X59.here hx rfl (hb hby at_131) rfl ?_
    show Steps p.tables e below (T59.setTop (mkF m 133 #[.val (.long q1), .second, .val (.long q2), .second, .val (.long q3), .second, .val (.long q4), .second, .val (.long q5), .second, .val (.long v4), .second, .val (.long v10), .second, .val (.long v17), .second, .val (.long v24), .second, .val (.long v31), .second, .val (.ref b37), .val (.ref b_39), .val (.int z73_s0), .val (.int z93_s0), .val (.int z120_s0), .unset, .unset, .unset] [(.long v31), (.ref b_39)])) _
    refine st60.trans ?_
    show Steps p.tables e below (T60.setTop (mkF m 136 #[.val (.long q1), .second, .val (.long q2), .second, .val (.long q3), .second, .val (.long q4), .second, .val (.long q5), .second, .val (.long v4), .second, .val (.long v10), .second, .val (.long v17), .second, .val (.long v24), .second, .val (.long v31), .second, .val (.ref b37), .val (.ref b_39), .val (.int z73_s0), .val (.int z93_s0), .val (.int z120_s0), .unset, .unset, .unset] [])) _
    refine XS.lload X60.here hx rfl (hb hby at_136) rfl ?_
    show Steps p.tables e below (T60.setTop (mkF m 138 #[.val (.long q1), .second, .val (.long q2), .second, .val (.long q3), .second, .val (.long q4), .second, .val (.long q5), .second, .val (.long v4), .second, .val (.long v10), .second, .val (.long v17), .second, .val (.long v24), .second, .val (.long v31), .second, .val (.ref b37), .val (.ref b_39), .val (.int z73_s0), .val (.int z93_s0), .val (.int z120_s0), .unset, .unset, .unset] [(.long v17)])) _
    refine XS.lload X60.here hx rfl (hb hby at_138) rfl ?_
    show Steps p.tables e below (T60.setTop (mkF m 140 #[.val (.long q1), .second, .val (.long q2), .second, .val (.long q3), .second, .val (.long q4), .second, .val (.long q5), .second, .val (.long v4), .second, .val (.long v10), .second, .val (.long v17), .second, .val (.long v24), .second, .val (.long v31), .second, .val (.ref b37), .val (.ref b_39), .val (.int z73_s0), .val (.int z93_s0), .val (.int z120_s0), .unset, .unset, .unset] [(.long v24), (.long v17)])) _
    refine XS.ladd X60.here hx rfl (hb hby at_140) rfl ?_
    show Steps p.tables e below (T60.setTop (mkF m 141 #[.val (.long q1), .second, .val (.long q2), .second, .val (.long q3), .second, .val (.long q4), .second, .val (.long q5), .second, .val (.long v4), .second, .val (.long v10), .second, .val (.long v17), .second, .val (.long v24), .second, .val (.long v31), .second, .val (.ref b37), .val (.ref b_39), .val (.int z73_s0), .val (.int z93_s0), .val (.int z120_s0), .unset, .unset, .unset] [(.long (v17 + v24))])) _
    refine XS.lload X60.here hx rfl (hb hby at_141) rfl ?_
    show Steps p.tables e below (T60.setTop (mkF m 143 #[.val (.long q1), .second, .val (.long q2), .second, .val (.long q3), .second, .val (.long q4), .second, .val (.long q5), .second, .val (.long v4), .second, .val (.long v10), .second, .val (.long v17), .second, .val (.long v24), .second, .val (.long v31), .second, .val (.ref b37), .val (.ref b_39), .val (.int z73_s0), .val (.int z93_s0), .val (.int z120_s0), .unset, .unset, .unset] [(.long v31), (.long (v17 + v24))])) _
    refine XS.ladd X60.here hx rfl (hb hby at_143) rfl ?_
    show Steps p.tables e below (T60.setTop (mkF m 144 #[.val (.long q1), .second, .val (.long q2), .second, .val (.long q3), .second, .val (.long q4), .second, .val (.long q5), .second, .val (.long v4), .second, .val (.long v10), .second, .val (.long v17), .second, .val (.long v24), .second, .val (.long v31), .second, .val (.ref b37), .val (.ref b_39), .val (.int z73_s0), .val (.int z93_s0), .val (.int z120_s0), .unset, .unset, .unset] [(.long ((v17 + v24) + v31))])) _
    refine XS.lload X60.here hx rfl (hb hby at_144) rfl ?_
    show Steps p.tables e below (T60.setTop (mkF m 146 #[.val (.long q1), .second, .val (.long q2), .second, .val (.long q3), .second, .val (.long q4), .second, .val (.long q5), .second, .val (.long v4), .second, .val (.long v10), .second, .val (.long v17), .second, .val (.long v24), .second, .val (.long v31), .second, .val (.ref b37), .val (.ref b_39), .val (.int z73_s0), .val (.int z93_s0), .val (.int z120_s0), .unset, .unset, .unset] [(.long v4), (.long ((v17 + v24) + v31))])) _
    refine XS.lcmp X60.here hx rfl (hb hby at_146) rfl ?_
    exact k)
  obtain ⟨z155_s0, hz155_s0⟩ : ∃ z : Int32, z = (if ((v17 + v24) + v31) < v4 then (0 : Int32) else (1 : Int32)) := ⟨_, rfl⟩
  obtain ⟨T64, Lc64, X64, e64, N64, pre64⟩ : ∃ (T' : State) (locs' : List Loc), Stand p l e room_1 s m #[(.long q1), (.long q2), (.long q3), (.long q4), (.long q5)] below meth c T' locs' 2 4 ∧ T'.heap = T60.heap ∧ Fr n0 locs' ∧ ∀ t, Steps p.tables e below (T'.setTop (mkF m 155 #[.val (.long q1), .second, .val (.long q2), .second, .val (.long q3), .second, .val (.long q4), .second, .val (.long q5), .second, .val (.long v4), .second, .val (.long v10), .second, .val (.long v17), .second, .val (.long v24), .second, .val (.long v31), .second, .val (.ref b37), .val (.ref b_39), .val (.int z73_s0), .val (.int z93_s0), .val (.int z120_s0), .unset, .unset, .unset] [(.int z155_s0)])) t → Steps p.tables e below (s₁.setTop (entryFrame m #[(.long q1), (.long q2), (.long q3), (.long q4), (.long q5)] maxLocals)) t := by
    by_cases hc147 : ((v17 + v24) + v31) < v4
    ·
      have pre62 : ∀ t, Steps p.tables e below (T60.setTop (mkF m 155 #[.val (.long q1), .second, .val (.long q2), .second, .val (.long q3), .second, .val (.long q4), .second, .val (.long q5), .second, .val (.long v4), .second, .val (.long v10), .second, .val (.long v17), .second, .val (.long v24), .second, .val (.long v31), .second, .val (.ref b37), .val (.ref b_39), .val (.int z73_s0), .val (.int z93_s0), .val (.int z120_s0), .unset, .unset, .unset] [(.int (0 : Int32))])) t → Steps p.tables e below (s₁.setTop (entryFrame m #[(.long q1), (.long q2), (.long q3), (.long q4), (.long q5)] maxLocals)) t := fun t k => pre61 t (by
        show Steps p.tables e below (T60.setTop (mkF m 147 #[.val (.long q1), .second, .val (.long q2), .second, .val (.long q3), .second, .val (.long q4), .second, .val (.long q5), .second, .val (.long v4), .second, .val (.long v10), .second, .val (.long v17), .second, .val (.long v24), .second, .val (.long v31), .second, .val (.ref b37), .val (.ref b_39), .val (.int z73_s0), .val (.int z93_s0), .val (.int z120_s0), .unset, .unset, .unset] [(.int (lcmpW ((v17 + v24) + v31) v4))])) _
        refine XS.ifYes X60.here hx rfl (pc0 := 147) (pc' := 154) rfl (hb hby at_147) rfl ((if0 _ _).trans (tlt ((lw_lt ((v17 + v24) + v31) v4).mpr hc147)).1) (by decide) (by decide) ?_
        show Steps p.tables e below (T60.setTop (mkF m 154 #[.val (.long q1), .second, .val (.long q2), .second, .val (.long q3), .second, .val (.long q4), .second, .val (.long q5), .second, .val (.long v4), .second, .val (.long v10), .second, .val (.long v17), .second, .val (.long v24), .second, .val (.long v31), .second, .val (.ref b37), .val (.ref b_39), .val (.int z73_s0), .val (.int z93_s0), .val (.int z120_s0), .unset, .unset, .unset] [])) _
        refine XS.iconst X60.here hx rfl (hb hby at_154) ?_
        exact k)
      have q_z155_s0 : z155_s0 = (0 : Int32) := by rw [hz155_s0, if_pos hc147]
      refine ⟨_, _, X60, rfl, N60, fun t k => ?_⟩
      rw [q_z155_s0] at k
      exact pre62 t k
    ·
      have pre63 : ∀ t, Steps p.tables e below (T60.setTop (mkF m 155 #[.val (.long q1), .second, .val (.long q2), .second, .val (.long q3), .second, .val (.long q4), .second, .val (.long q5), .second, .val (.long v4), .second, .val (.long v10), .second, .val (.long v17), .second, .val (.long v24), .second, .val (.long v31), .second, .val (.ref b37), .val (.ref b_39), .val (.int z73_s0), .val (.int z93_s0), .val (.int z120_s0), .unset, .unset, .unset] [(.int (1 : Int32))])) t → Steps p.tables e below (s₁.setTop (entryFrame m #[(.long q1), (.long q2), (.long q3), (.long q4), (.long q5)] maxLocals)) t := fun t k => pre61 t (by
        show Steps p.tables e below (T60.setTop (mkF m 147 #[.val (.long q1), .second, .val (.long q2), .second, .val (.long q3), .second, .val (.long q4), .second, .val (.long q5), .second, .val (.long v4), .second, .val (.long v10), .second, .val (.long v17), .second, .val (.long v24), .second, .val (.long v31), .second, .val (.ref b37), .val (.ref b_39), .val (.int z73_s0), .val (.int z93_s0), .val (.int z120_s0), .unset, .unset, .unset] [(.int (lcmpW ((v17 + v24) + v31) v4))])) _
        refine XS.ifNo X60.here hx rfl (hb hby at_147) rfl ((if0 _ _).trans (flt (fun q => hc147 ((lw_lt ((v17 + v24) + v31) v4).mp q))).1) ?_
        show Steps p.tables e below (T60.setTop (mkF m 150 #[.val (.long q1), .second, .val (.long q2), .second, .val (.long q3), .second, .val (.long q4), .second, .val (.long q5), .second, .val (.long v4), .second, .val (.long v10), .second, .val (.long v17), .second, .val (.long v24), .second, .val (.long v31), .second, .val (.ref b37), .val (.ref b_39), .val (.int z73_s0), .val (.int z93_s0), .val (.int z120_s0), .unset, .unset, .unset] [])) _
        refine XS.iconst X60.here hx rfl (hb hby at_150) ?_
        show Steps p.tables e below (T60.setTop (mkF m 151 #[.val (.long q1), .second, .val (.long q2), .second, .val (.long q3), .second, .val (.long q4), .second, .val (.long q5), .second, .val (.long v4), .second, .val (.long v10), .second, .val (.long v17), .second, .val (.long v24), .second, .val (.long v31), .second, .val (.ref b37), .val (.ref b_39), .val (.int z73_s0), .val (.int z93_s0), .val (.int z120_s0), .unset, .unset, .unset] [(.int (1 : Int32))])) _
        refine XS.goto X60.here hx rfl (pc0 := 151) (pc' := 155) rfl (hb hby at_151) (by decide) (by decide) ?_
        exact k)
      have q_z155_s0 : z155_s0 = (1 : Int32) := by rw [hz155_s0, if_neg hc147]
      refine ⟨_, _, X60, rfl, N60, fun t k => ?_⟩
      rw [q_z155_s0] at k
      exact pre63 t k
  have pre65 : ∀ t, Steps p.tables e below (T64.setTop (mkF m 165 #[.val (.long q1), .second, .val (.long q2), .second, .val (.long q3), .second, .val (.long q4), .second, .val (.long q5), .second, .val (.long v4), .second, .val (.long v10), .second, .val (.long v17), .second, .val (.long v24), .second, .val (.long v31), .second, .val (.ref b37), .val (.ref b_39), .val (.int z73_s0), .val (.int z93_s0), .val (.int z120_s0), .val (.int z155_s0), .unset, .unset] [(.int (lcmpW (v17 + v31) v10))])) t → Steps p.tables e below (s₁.setTop (entryFrame m #[(.long q1), (.long q2), (.long q3), (.long q4), (.long q5)] maxLocals)) t := fun t k => pre64 t (by
    show Steps p.tables e below (T64.setTop (mkF m 155 #[.val (.long q1), .second, .val (.long q2), .second, .val (.long q3), .second, .val (.long q4), .second, .val (.long q5), .second, .val (.long v4), .second, .val (.long v10), .second, .val (.long v17), .second, .val (.long v24), .second, .val (.long v31), .second, .val (.ref b37), .val (.ref b_39), .val (.int z73_s0), .val (.int z93_s0), .val (.int z120_s0), .unset, .unset, .unset] [(.int z155_s0)])) _
    refine XS.istore X64.here hx rfl (hb hby at_155) rfl (l' := #[.val (.long q1), .second, .val (.long q2), .second, .val (.long q3), .second, .val (.long q4), .second, .val (.long q5), .second, .val (.long v4), .second, .val (.long v10), .second, .val (.long v17), .second, .val (.long v24), .second, .val (.long v31), .second, .val (.ref b37), .val (.ref b_39), .val (.int z73_s0), .val (.int z93_s0), .val (.int z120_s0), .val (.int z155_s0), .unset, .unset]) rfl ?_
    show Steps p.tables e below (T64.setTop (mkF m 157 #[.val (.long q1), .second, .val (.long q2), .second, .val (.long q3), .second, .val (.long q4), .second, .val (.long q5), .second, .val (.long v4), .second, .val (.long v10), .second, .val (.long v17), .second, .val (.long v24), .second, .val (.long v31), .second, .val (.ref b37), .val (.ref b_39), .val (.int z73_s0), .val (.int z93_s0), .val (.int z120_s0), .val (.int z155_s0), .unset, .unset] [])) _
    refine XS.lload X64.here hx rfl (hb hby at_157) rfl ?_
    show Steps p.tables e below (T64.setTop (mkF m 159 #[.val (.long q1), .second, .val (.long q2), .second, .val (.long q3), .second, .val (.long q4), .second, .val (.long q5), .second, .val (.long v4), .second, .val (.long v10), .second, .val (.long v17), .second, .val (.long v24), .second, .val (.long v31), .second, .val (.ref b37), .val (.ref b_39), .val (.int z73_s0), .val (.int z93_s0), .val (.int z120_s0), .val (.int z155_s0), .unset, .unset] [(.long v17)])) _
    refine XS.lload X64.here hx rfl (hb hby at_159) rfl ?_
    show Steps p.tables e below (T64.setTop (mkF m 161 #[.val (.long q1), .second, .val (.long q2), .second, .val (.long q3), .second, .val (.long q4), .second, .val (.long q5), .second, .val (.long v4), .second, .val (.long v10), .second, .val (.long v17), .second, .val (.long v24), .second, .val (.long v31), .second, .val (.ref b37), .val (.ref b_39), .val (.int z73_s0), .val (.int z93_s0), .val (.int z120_s0), .val (.int z155_s0), .unset, .unset] [(.long v31), (.long v17)])) _
    refine XS.ladd X64.here hx rfl (hb hby at_161) rfl ?_
    show Steps p.tables e below (T64.setTop (mkF m 162 #[.val (.long q1), .second, .val (.long q2), .second, .val (.long q3), .second, .val (.long q4), .second, .val (.long q5), .second, .val (.long v4), .second, .val (.long v10), .second, .val (.long v17), .second, .val (.long v24), .second, .val (.long v31), .second, .val (.ref b37), .val (.ref b_39), .val (.int z73_s0), .val (.int z93_s0), .val (.int z120_s0), .val (.int z155_s0), .unset, .unset] [(.long (v17 + v31))])) _
    refine XS.lload X64.here hx rfl (hb hby at_162) rfl ?_
    show Steps p.tables e below (T64.setTop (mkF m 164 #[.val (.long q1), .second, .val (.long q2), .second, .val (.long q3), .second, .val (.long q4), .second, .val (.long q5), .second, .val (.long v4), .second, .val (.long v10), .second, .val (.long v17), .second, .val (.long v24), .second, .val (.long v31), .second, .val (.ref b37), .val (.ref b_39), .val (.int z73_s0), .val (.int z93_s0), .val (.int z120_s0), .val (.int z155_s0), .unset, .unset] [(.long v10), (.long (v17 + v31))])) _
    refine XS.lcmp X64.here hx rfl (hb hby at_164) rfl ?_
    exact k)
  obtain ⟨z178_s0, hz178_s0⟩ : ∃ z : Int32, z = (if (v17 + v31) < v10 then (if z155_s0 = (0 : Int32) then (0 : Int32) else (1 : Int32)) else (1 : Int32)) := ⟨_, rfl⟩
  obtain ⟨T70, Lc70, X70, e70, N70, pre70⟩ : ∃ (T' : State) (locs' : List Loc), Stand p l e room_1 s m #[(.long q1), (.long q2), (.long q3), (.long q4), (.long q5)] below meth c T' locs' 2 4 ∧ T'.heap = T60.heap ∧ Fr n0 locs' ∧ ∀ t, Steps p.tables e below (T'.setTop (mkF m 178 #[.val (.long q1), .second, .val (.long q2), .second, .val (.long q3), .second, .val (.long q4), .second, .val (.long q5), .second, .val (.long v4), .second, .val (.long v10), .second, .val (.long v17), .second, .val (.long v24), .second, .val (.long v31), .second, .val (.ref b37), .val (.ref b_39), .val (.int z73_s0), .val (.int z93_s0), .val (.int z120_s0), .val (.int z155_s0), .unset, .unset] [(.int z178_s0)])) t → Steps p.tables e below (s₁.setTop (entryFrame m #[(.long q1), (.long q2), (.long q3), (.long q4), (.long q5)] maxLocals)) t := by
    by_cases hc165 : (v17 + v31) < v10
    ·
      have pre66 : ∀ t, Steps p.tables e below (T64.setTop (mkF m 170 #[.val (.long q1), .second, .val (.long q2), .second, .val (.long q3), .second, .val (.long q4), .second, .val (.long q5), .second, .val (.long v4), .second, .val (.long v10), .second, .val (.long v17), .second, .val (.long v24), .second, .val (.long v31), .second, .val (.ref b37), .val (.ref b_39), .val (.int z73_s0), .val (.int z93_s0), .val (.int z120_s0), .val (.int z155_s0), .unset, .unset] [(.int z155_s0)])) t → Steps p.tables e below (s₁.setTop (entryFrame m #[(.long q1), (.long q2), (.long q3), (.long q4), (.long q5)] maxLocals)) t := fun t k => pre65 t (by
        show Steps p.tables e below (T64.setTop (mkF m 165 #[.val (.long q1), .second, .val (.long q2), .second, .val (.long q3), .second, .val (.long q4), .second, .val (.long q5), .second, .val (.long v4), .second, .val (.long v10), .second, .val (.long v17), .second, .val (.long v24), .second, .val (.long v31), .second, .val (.ref b37), .val (.ref b_39), .val (.int z73_s0), .val (.int z93_s0), .val (.int z120_s0), .val (.int z155_s0), .unset, .unset] [(.int (lcmpW (v17 + v31) v10))])) _
        refine XS.ifNo X64.here hx rfl (hb hby at_165) rfl ((if0 _ _).trans (tlt ((lw_lt (v17 + v31) v10).mpr hc165)).2.1) ?_
        show Steps p.tables e below (T64.setTop (mkF m 168 #[.val (.long q1), .second, .val (.long q2), .second, .val (.long q3), .second, .val (.long q4), .second, .val (.long q5), .second, .val (.long v4), .second, .val (.long v10), .second, .val (.long v17), .second, .val (.long v24), .second, .val (.long v31), .second, .val (.ref b37), .val (.ref b_39), .val (.int z73_s0), .val (.int z93_s0), .val (.int z120_s0), .val (.int z155_s0), .unset, .unset] [])) _
        refine XS.iload X64.here hx rfl (hb hby at_168) rfl ?_
        exact k)
      by_cases hc170 : z155_s0 = (0 : Int32)
      ·
        have pre67 : ∀ t, Steps p.tables e below (T64.setTop (mkF m 178 #[.val (.long q1), .second, .val (.long q2), .second, .val (.long q3), .second, .val (.long q4), .second, .val (.long q5), .second, .val (.long v4), .second, .val (.long v10), .second, .val (.long v17), .second, .val (.long v24), .second, .val (.long v31), .second, .val (.ref b37), .val (.ref b_39), .val (.int z73_s0), .val (.int z93_s0), .val (.int z120_s0), .val (.int z155_s0), .unset, .unset] [(.int (0 : Int32))])) t → Steps p.tables e below (s₁.setTop (entryFrame m #[(.long q1), (.long q2), (.long q3), (.long q4), (.long q5)] maxLocals)) t := fun t k => pre66 t (by
          show Steps p.tables e below (T64.setTop (mkF m 170 #[.val (.long q1), .second, .val (.long q2), .second, .val (.long q3), .second, .val (.long q4), .second, .val (.long q5), .second, .val (.long v4), .second, .val (.long v10), .second, .val (.long v17), .second, .val (.long v24), .second, .val (.long v31), .second, .val (.ref b37), .val (.ref b_39), .val (.int z73_s0), .val (.int z93_s0), .val (.int z120_s0), .val (.int z155_s0), .unset, .unset] [(.int z155_s0)])) _
          refine XS.ifYes X64.here hx rfl (pc0 := 170) (pc' := 177) rfl (hb hby at_170) rfl ((if0 _ _).trans (teq hc170).1) (by decide) (by decide) ?_
          show Steps p.tables e below (T64.setTop (mkF m 177 #[.val (.long q1), .second, .val (.long q2), .second, .val (.long q3), .second, .val (.long q4), .second, .val (.long q5), .second, .val (.long v4), .second, .val (.long v10), .second, .val (.long v17), .second, .val (.long v24), .second, .val (.long v31), .second, .val (.ref b37), .val (.ref b_39), .val (.int z73_s0), .val (.int z93_s0), .val (.int z120_s0), .val (.int z155_s0), .unset, .unset] [])) _
          refine XS.iconst X64.here hx rfl (hb hby at_177) ?_
          exact k)
        have q_z178_s0 : z178_s0 = (0 : Int32) := by rw [hz178_s0, if_pos hc165, if_pos hc170]
        refine ⟨_, _, X64, e64, N64, fun t k => ?_⟩
        rw [q_z178_s0] at k
        exact pre67 t k
      ·
        have pre68 : ∀ t, Steps p.tables e below (T64.setTop (mkF m 178 #[.val (.long q1), .second, .val (.long q2), .second, .val (.long q3), .second, .val (.long q4), .second, .val (.long q5), .second, .val (.long v4), .second, .val (.long v10), .second, .val (.long v17), .second, .val (.long v24), .second, .val (.long v31), .second, .val (.ref b37), .val (.ref b_39), .val (.int z73_s0), .val (.int z93_s0), .val (.int z120_s0), .val (.int z155_s0), .unset, .unset] [(.int (1 : Int32))])) t → Steps p.tables e below (s₁.setTop (entryFrame m #[(.long q1), (.long q2), (.long q3), (.long q4), (.long q5)] maxLocals)) t := fun t k => pre66 t (by
          show Steps p.tables e below (T64.setTop (mkF m 170 #[.val (.long q1), .second, .val (.long q2), .second, .val (.long q3), .second, .val (.long q4), .second, .val (.long q5), .second, .val (.long v4), .second, .val (.long v10), .second, .val (.long v17), .second, .val (.long v24), .second, .val (.long v31), .second, .val (.ref b37), .val (.ref b_39), .val (.int z73_s0), .val (.int z93_s0), .val (.int z120_s0), .val (.int z155_s0), .unset, .unset] [(.int z155_s0)])) _
          refine XS.ifNo X64.here hx rfl (hb hby at_170) rfl ((if0 _ _).trans (feq hc170).1) ?_
          show Steps p.tables e below (T64.setTop (mkF m 173 #[.val (.long q1), .second, .val (.long q2), .second, .val (.long q3), .second, .val (.long q4), .second, .val (.long q5), .second, .val (.long v4), .second, .val (.long v10), .second, .val (.long v17), .second, .val (.long v24), .second, .val (.long v31), .second, .val (.ref b37), .val (.ref b_39), .val (.int z73_s0), .val (.int z93_s0), .val (.int z120_s0), .val (.int z155_s0), .unset, .unset] [])) _
          refine XS.iconst X64.here hx rfl (hb hby at_173) ?_
          show Steps p.tables e below (T64.setTop (mkF m 174 #[.val (.long q1), .second, .val (.long q2), .second, .val (.long q3), .second, .val (.long q4), .second, .val (.long q5), .second, .val (.long v4), .second, .val (.long v10), .second, .val (.long v17), .second, .val (.long v24), .second, .val (.long v31), .second, .val (.ref b37), .val (.ref b_39), .val (.int z73_s0), .val (.int z93_s0), .val (.int z120_s0), .val (.int z155_s0), .unset, .unset] [(.int (1 : Int32))])) _
          refine XS.goto X64.here hx rfl (pc0 := 174) (pc' := 178) rfl (hb hby at_174) (by decide) (by decide) ?_
          exact k)
        have q_z178_s0 : z178_s0 = (1 : Int32) := by rw [hz178_s0, if_pos hc165, if_neg hc170]
        refine ⟨_, _, X64, e64, N64, fun t k => ?_⟩
        rw [q_z178_s0] at k
        exact pre68 t k
    ·
      have pre69 : ∀ t, Steps p.tables e below (T64.setTop (mkF m 178 #[.val (.long q1), .second, .val (.long q2), .second, .val (.long q3), .second, .val (.long q4), .second, .val (.long q5), .second, .val (.long v4), .second, .val (.long v10), .second, .val (.long v17), .second, .val (.long v24), .second, .val (.long v31), .second, .val (.ref b37), .val (.ref b_39), .val (.int z73_s0), .val (.int z93_s0), .val (.int z120_s0), .val (.int z155_s0), .unset, .unset] [(.int (1 : Int32))])) t → Steps p.tables e below (s₁.setTop (entryFrame m #[(.long q1), (.long q2), (.long q3), (.long q4), (.long q5)] maxLocals)) t := fun t k => pre65 t (by
        show Steps p.tables e below (T64.setTop (mkF m 165 #[.val (.long q1), .second, .val (.long q2), .second, .val (.long q3), .second, .val (.long q4), .second, .val (.long q5), .second, .val (.long v4), .second, .val (.long v10), .second, .val (.long v17), .second, .val (.long v24), .second, .val (.long v31), .second, .val (.ref b37), .val (.ref b_39), .val (.int z73_s0), .val (.int z93_s0), .val (.int z120_s0), .val (.int z155_s0), .unset, .unset] [(.int (lcmpW (v17 + v31) v10))])) _
        refine XS.ifYes X64.here hx rfl (pc0 := 165) (pc' := 173) rfl (hb hby at_165) rfl ((if0 _ _).trans (flt (fun q => hc165 ((lw_lt (v17 + v31) v10).mp q))).2.1) (by decide) (by decide) ?_
        show Steps p.tables e below (T64.setTop (mkF m 173 #[.val (.long q1), .second, .val (.long q2), .second, .val (.long q3), .second, .val (.long q4), .second, .val (.long q5), .second, .val (.long v4), .second, .val (.long v10), .second, .val (.long v17), .second, .val (.long v24), .second, .val (.long v31), .second, .val (.ref b37), .val (.ref b_39), .val (.int z73_s0), .val (.int z93_s0), .val (.int z120_s0), .val (.int z155_s0), .unset, .unset] [])) _
        refine XS.iconst X64.here hx rfl (hb hby at_173) ?_
        show Steps p.tables e below (T64.setTop (mkF m 174 #[.val (.long q1), .second, .val (.long q2), .second, .val (.long q3), .second, .val (.long q4), .second, .val (.long q5), .second, .val (.long v4), .second, .val (.long v10), .second, .val (.long v17), .second, .val (.long v24), .second, .val (.long v31), .second, .val (.ref b37), .val (.ref b_39), .val (.int z73_s0), .val (.int z93_s0), .val (.int z120_s0), .val (.int z155_s0), .unset, .unset] [(.int (1 : Int32))])) _
        refine XS.goto X64.here hx rfl (pc0 := 174) (pc' := 178) rfl (hb hby at_174) (by decide) (by decide) ?_
        exact k)
      have q_z178_s0 : z178_s0 = (1 : Int32) := by rw [hz178_s0, if_neg hc165]
      refine ⟨_, _, X64, e64, N64, fun t k => ?_⟩
      rw [q_z178_s0] at k
      exact pre69 t k
  obtain ⟨cq71, kq71, q71a, q71b, q71c⟩ := isOf hZ e70 E_b37
  obtain ⟨_, _, ⟨T71, L71, k71, n71⟩, -, X71, ⟨Lc71, hQ71, l71, y71, z71⟩, st71⟩ := X70.virtualBack hx (y := (⟨"com/example/regolo/regolo/engine/Work", "spent", "()Z"⟩ : MethodName)) (z := (⟨"com/example/regolo/regolo/engine/Work", "spent", "()Z"⟩ : MethodName)) hown (mvT hZ (hw _ (List.mem_of_getElem? (i := 36) rfl))) (mvT hZ (hw _ (List.mem_of_getElem? (i := 37) rfl))) (notFace_of_selects (args := #[]) (mvT hZ (hw _ (List.mem_of_getElem? (i := 39) rfl)))) (mvT hZ (hw _ (List.mem_of_getElem? (i := 39) rfl))) (mvT hZ (hw _ (List.mem_of_getElem? (i := 38) rfl))) (by decide) (backOf (W := 0) (rmT0 l Z a0 hw [] b37 (((v4 - v17) - v24) - v31) T60.heap n0 Zs F_left_b37 F_whole_b37) hZ (hw _ (List.mem_of_getElem? (i := 40) rfl)) (hw _ (List.mem_of_getElem? (i := 10) rfl)) (by decide) (by decide)) q71a q71c (g := (mkF m 182 #[.val (.long q1), .second, .val (.long q2), .second, .val (.long q3), .second, .val (.long q4), .second, .val (.long q5), .second, .val (.long v4), .second, .val (.long v10), .second, .val (.long v17), .second, .val (.long v24), .second, .val (.long v31), .second, .val (.ref b37), .val (.ref b_39), .val (.int z73_s0), .val (.int z93_s0), .val (.int z120_s0), .val (.int z155_s0), .val (.int z178_s0), .unset] [(.ref b37)])) rfl (by rw [hml]; rfl) (Steps.refl _) (argsL := []) (rest := []) (lenOf pd_2 rfl) rfl (by show 2 * 0 + _ ≤ _; exact Nat.le_of_eq rfl) (hb hby at_182) (fun _ _ => ⟨rfl, e70, (by decide : 2 + 0 ≤ _), (by decide : 4 + 0 ≤ _)⟩)
  dsimp only [Pt.U, Pt.locs, Pt.cells, Pt.slots] at X71 l71 y71 z71 st71 hQ71
  subst l71 y71 z71
  obtain ⟨rfl, N71q, e71⟩ := hQ71
  have N71 := Fr.app N70 N71q
  have pre72 : ∀ t, Steps p.tables e below (T71.setTop (mkF m 187 #[.val (.long q1), .second, .val (.long q2), .second, .val (.long q3), .second, .val (.long q4), .second, .val (.long q5), .second, .val (.long v4), .second, .val (.long v10), .second, .val (.long v17), .second, .val (.long v24), .second, .val (.long v31), .second, .val (.ref b37), .val (.ref b_39), .val (.int z73_s0), .val (.int z93_s0), .val (.int z120_s0), .val (.int z155_s0), .val (.int z178_s0), .unset] [(.int z155_s0), (.int (fT0 (((v4 - v17) - v24) - v31)))])) t → Steps p.tables e below (s₁.setTop (entryFrame m #[(.long q1), (.long q2), (.long q3), (.long q4), (.long q5)] maxLocals)) t := fun t k => pre70 t (by
    show Steps p.tables e below (T70.setTop (mkF m 178 #[.val (.long q1), .second, .val (.long q2), .second, .val (.long q3), .second, .val (.long q4), .second, .val (.long q5), .second, .val (.long v4), .second, .val (.long v10), .second, .val (.long v17), .second, .val (.long v24), .second, .val (.long v31), .second, .val (.ref b37), .val (.ref b_39), .val (.int z73_s0), .val (.int z93_s0), .val (.int z120_s0), .val (.int z155_s0), .unset, .unset] [(.int z178_s0)])) _
    refine XS.istore X70.here hx rfl (hb hby at_178) rfl (l' := #[.val (.long q1), .second, .val (.long q2), .second, .val (.long q3), .second, .val (.long q4), .second, .val (.long q5), .second, .val (.long v4), .second, .val (.long v10), .second, .val (.long v17), .second, .val (.long v24), .second, .val (.long v31), .second, .val (.ref b37), .val (.ref b_39), .val (.int z73_s0), .val (.int z93_s0), .val (.int z120_s0), .val (.int z155_s0), .val (.int z178_s0), .unset]) rfl ?_
    show Steps p.tables e below (T70.setTop (mkF m 180 #[.val (.long q1), .second, .val (.long q2), .second, .val (.long q3), .second, .val (.long q4), .second, .val (.long q5), .second, .val (.long v4), .second, .val (.long v10), .second, .val (.long v17), .second, .val (.long v24), .second, .val (.long v31), .second, .val (.ref b37), .val (.ref b_39), .val (.int z73_s0), .val (.int z93_s0), .val (.int z120_s0), .val (.int z155_s0), .val (.int z178_s0), .unset] [])) _
    refine XS.aload X70.here hx rfl (hb hby at_180) rfl rfl ?_
    show Steps p.tables e below (T70.setTop (mkF m 182 #[.val (.long q1), .second, .val (.long q2), .second, .val (.long q3), .second, .val (.long q4), .second, .val (.long q5), .second, .val (.long v4), .second, .val (.long v10), .second, .val (.long v17), .second, .val (.long v24), .second, .val (.long v31), .second, .val (.ref b37), .val (.ref b_39), .val (.int z73_s0), .val (.int z93_s0), .val (.int z120_s0), .val (.int z155_s0), .val (.int z178_s0), .unset] [(.ref b37)])) _
    refine st71.trans ?_
    show Steps p.tables e below (T71.setTop (mkF m 185 #[.val (.long q1), .second, .val (.long q2), .second, .val (.long q3), .second, .val (.long q4), .second, .val (.long q5), .second, .val (.long v4), .second, .val (.long v10), .second, .val (.long v17), .second, .val (.long v24), .second, .val (.long v31), .second, .val (.ref b37), .val (.ref b_39), .val (.int z73_s0), .val (.int z93_s0), .val (.int z120_s0), .val (.int z155_s0), .val (.int z178_s0), .unset] [(.int (fT0 (((v4 - v17) - v24) - v31)))])) _
    refine XS.iload X71.here hx rfl (hb hby at_185) rfl ?_
    exact k)
  obtain ⟨z205_s0, hz205_s0⟩ : ∃ z : Int32, z = (if (fT0 (((v4 - v17) - v24) - v31)) = z155_s0 then (if (fT1 ((v10 - v17) - v31) (((v4 - v17) - v24) - v31)) = z178_s0 then (1 : Int32) else (0 : Int32)) else (0 : Int32)) := ⟨_, rfl⟩
  obtain ⟨T78, Lc78, X78, e78, N78, pre78⟩ : ∃ (T' : State) (locs' : List Loc), Stand p l e room_1 s m #[(.long q1), (.long q2), (.long q3), (.long q4), (.long q5)] below meth c T' locs' 2 4 ∧ T'.heap = T60.heap ∧ Fr n0 locs' ∧ ∀ t, Steps p.tables e below (T'.setTop (mkF m 205 #[.val (.long q1), .second, .val (.long q2), .second, .val (.long q3), .second, .val (.long q4), .second, .val (.long q5), .second, .val (.long v4), .second, .val (.long v10), .second, .val (.long v17), .second, .val (.long v24), .second, .val (.long v31), .second, .val (.ref b37), .val (.ref b_39), .val (.int z73_s0), .val (.int z93_s0), .val (.int z120_s0), .val (.int z155_s0), .val (.int z178_s0), .unset] [(.int z205_s0)])) t → Steps p.tables e below (s₁.setTop (entryFrame m #[(.long q1), (.long q2), (.long q3), (.long q4), (.long q5)] maxLocals)) t := by
    by_cases hc187 : (fT0 (((v4 - v17) - v24) - v31)) = z155_s0
    ·
      obtain ⟨cq73, kq73, q73a, q73b, q73c⟩ := isOf hZ e71 E_b_39
      obtain ⟨_, _, ⟨T73, L73, k73, n73⟩, -, X73, ⟨Lc73, hQ73, l73, y73, z73⟩, st73⟩ := X71.virtualBack hx (y := (⟨"com/example/regolo/regolo/engine/Work", "spent", "()Z"⟩ : MethodName)) (z := (⟨"com/example/regolo/regolo/engine/Work", "spent", "()Z"⟩ : MethodName)) hown (mvT hZ (hw _ (List.mem_of_getElem? (i := 36) rfl))) (mvT hZ (hw _ (List.mem_of_getElem? (i := 37) rfl))) (notFace_of_selects (args := #[]) (mvT hZ (hw _ (List.mem_of_getElem? (i := 39) rfl)))) (mvT hZ (hw _ (List.mem_of_getElem? (i := 39) rfl))) (mvT hZ (hw _ (List.mem_of_getElem? (i := 38) rfl))) (by decide) (backOf (W := 0) (rmT1 l Z a0 hw [] b_39 ((v10 - v17) - v31) b37 (((v4 - v17) - v24) - v31) T60.heap n0 Zs F_left_b_39 F_whole_b_39 E_b37 F_left_b37 F_whole_b37) hZ (hw _ (List.mem_of_getElem? (i := 40) rfl)) (hw _ (List.mem_of_getElem? (i := 10) rfl)) (by decide) (by decide)) q73a q73c (g := (mkF m 192 #[.val (.long q1), .second, .val (.long q2), .second, .val (.long q3), .second, .val (.long q4), .second, .val (.long q5), .second, .val (.long v4), .second, .val (.long v10), .second, .val (.long v17), .second, .val (.long v24), .second, .val (.long v31), .second, .val (.ref b37), .val (.ref b_39), .val (.int z73_s0), .val (.int z93_s0), .val (.int z120_s0), .val (.int z155_s0), .val (.int z178_s0), .unset] [(.ref b_39)])) rfl (by rw [hml]; rfl) (Steps.refl _) (argsL := []) (rest := []) (lenOf pd_2 rfl) rfl (by show 2 * 0 + _ ≤ _; exact Nat.le_of_eq rfl) (hb hby at_192) (fun _ _ => ⟨rfl, e71, (by decide : 2 + 0 ≤ _), (by decide : 4 + 0 ≤ _)⟩)
      dsimp only [Pt.U, Pt.locs, Pt.cells, Pt.slots] at X73 l73 y73 z73 st73 hQ73
      subst l73 y73 z73
      obtain ⟨rfl, N73q, e73⟩ := hQ73
      have N73 := Fr.app N71 N73q
      have pre74 : ∀ t, Steps p.tables e below (T73.setTop (mkF m 197 #[.val (.long q1), .second, .val (.long q2), .second, .val (.long q3), .second, .val (.long q4), .second, .val (.long q5), .second, .val (.long v4), .second, .val (.long v10), .second, .val (.long v17), .second, .val (.long v24), .second, .val (.long v31), .second, .val (.ref b37), .val (.ref b_39), .val (.int z73_s0), .val (.int z93_s0), .val (.int z120_s0), .val (.int z155_s0), .val (.int z178_s0), .unset] [(.int z178_s0), (.int (fT1 ((v10 - v17) - v31) (((v4 - v17) - v24) - v31)))])) t → Steps p.tables e below (s₁.setTop (entryFrame m #[(.long q1), (.long q2), (.long q3), (.long q4), (.long q5)] maxLocals)) t := fun t k => pre72 t (by
        show Steps p.tables e below (T71.setTop (mkF m 187 #[.val (.long q1), .second, .val (.long q2), .second, .val (.long q3), .second, .val (.long q4), .second, .val (.long q5), .second, .val (.long v4), .second, .val (.long v10), .second, .val (.long v17), .second, .val (.long v24), .second, .val (.long v31), .second, .val (.ref b37), .val (.ref b_39), .val (.int z73_s0), .val (.int z93_s0), .val (.int z120_s0), .val (.int z155_s0), .val (.int z178_s0), .unset] [(.int z155_s0), (.int (fT0 (((v4 - v17) - v24) - v31)))])) _
        refine XS.icmpNo X71.here hx rfl (hb hby at_187) rfl (teq hc187).2 ?_
        show Steps p.tables e below (T71.setTop (mkF m 190 #[.val (.long q1), .second, .val (.long q2), .second, .val (.long q3), .second, .val (.long q4), .second, .val (.long q5), .second, .val (.long v4), .second, .val (.long v10), .second, .val (.long v17), .second, .val (.long v24), .second, .val (.long v31), .second, .val (.ref b37), .val (.ref b_39), .val (.int z73_s0), .val (.int z93_s0), .val (.int z120_s0), .val (.int z155_s0), .val (.int z178_s0), .unset] [])) _
        refine XS.aload X71.here hx rfl (hb hby at_190) rfl rfl ?_
        show Steps p.tables e below (T71.setTop (mkF m 192 #[.val (.long q1), .second, .val (.long q2), .second, .val (.long q3), .second, .val (.long q4), .second, .val (.long q5), .second, .val (.long v4), .second, .val (.long v10), .second, .val (.long v17), .second, .val (.long v24), .second, .val (.long v31), .second, .val (.ref b37), .val (.ref b_39), .val (.int z73_s0), .val (.int z93_s0), .val (.int z120_s0), .val (.int z155_s0), .val (.int z178_s0), .unset] [(.ref b_39)])) _
        refine st73.trans ?_
        show Steps p.tables e below (T73.setTop (mkF m 195 #[.val (.long q1), .second, .val (.long q2), .second, .val (.long q3), .second, .val (.long q4), .second, .val (.long q5), .second, .val (.long v4), .second, .val (.long v10), .second, .val (.long v17), .second, .val (.long v24), .second, .val (.long v31), .second, .val (.ref b37), .val (.ref b_39), .val (.int z73_s0), .val (.int z93_s0), .val (.int z120_s0), .val (.int z155_s0), .val (.int z178_s0), .unset] [(.int (fT1 ((v10 - v17) - v31) (((v4 - v17) - v24) - v31)))])) _
        refine XS.iload X73.here hx rfl (hb hby at_195) rfl ?_
        exact k)
      by_cases hc197 : (fT1 ((v10 - v17) - v31) (((v4 - v17) - v24) - v31)) = z178_s0
      ·
        have pre75 : ∀ t, Steps p.tables e below (T73.setTop (mkF m 205 #[.val (.long q1), .second, .val (.long q2), .second, .val (.long q3), .second, .val (.long q4), .second, .val (.long q5), .second, .val (.long v4), .second, .val (.long v10), .second, .val (.long v17), .second, .val (.long v24), .second, .val (.long v31), .second, .val (.ref b37), .val (.ref b_39), .val (.int z73_s0), .val (.int z93_s0), .val (.int z120_s0), .val (.int z155_s0), .val (.int z178_s0), .unset] [(.int (1 : Int32))])) t → Steps p.tables e below (s₁.setTop (entryFrame m #[(.long q1), (.long q2), (.long q3), (.long q4), (.long q5)] maxLocals)) t := fun t k => pre74 t (by
          show Steps p.tables e below (T73.setTop (mkF m 197 #[.val (.long q1), .second, .val (.long q2), .second, .val (.long q3), .second, .val (.long q4), .second, .val (.long q5), .second, .val (.long v4), .second, .val (.long v10), .second, .val (.long v17), .second, .val (.long v24), .second, .val (.long v31), .second, .val (.ref b37), .val (.ref b_39), .val (.int z73_s0), .val (.int z93_s0), .val (.int z120_s0), .val (.int z155_s0), .val (.int z178_s0), .unset] [(.int z178_s0), (.int (fT1 ((v10 - v17) - v31) (((v4 - v17) - v24) - v31)))])) _
          refine XS.icmpNo X73.here hx rfl (hb hby at_197) rfl (teq hc197).2 ?_
          show Steps p.tables e below (T73.setTop (mkF m 200 #[.val (.long q1), .second, .val (.long q2), .second, .val (.long q3), .second, .val (.long q4), .second, .val (.long q5), .second, .val (.long v4), .second, .val (.long v10), .second, .val (.long v17), .second, .val (.long v24), .second, .val (.long v31), .second, .val (.ref b37), .val (.ref b_39), .val (.int z73_s0), .val (.int z93_s0), .val (.int z120_s0), .val (.int z155_s0), .val (.int z178_s0), .unset] [])) _
          refine XS.iconst X73.here hx rfl (hb hby at_200) ?_
          show Steps p.tables e below (T73.setTop (mkF m 201 #[.val (.long q1), .second, .val (.long q2), .second, .val (.long q3), .second, .val (.long q4), .second, .val (.long q5), .second, .val (.long v4), .second, .val (.long v10), .second, .val (.long v17), .second, .val (.long v24), .second, .val (.long v31), .second, .val (.ref b37), .val (.ref b_39), .val (.int z73_s0), .val (.int z93_s0), .val (.int z120_s0), .val (.int z155_s0), .val (.int z178_s0), .unset] [(.int (1 : Int32))])) _
          refine XS.goto X73.here hx rfl (pc0 := 201) (pc' := 205) rfl (hb hby at_201) (by decide) (by decide) ?_
          exact k)
        have q_z205_s0 : z205_s0 = (1 : Int32) := by rw [hz205_s0, if_pos hc187, if_pos hc197]
        refine ⟨_, _, X73, e73, N73, fun t k => ?_⟩
        rw [q_z205_s0] at k
        exact pre75 t k
      ·
        have pre76 : ∀ t, Steps p.tables e below (T73.setTop (mkF m 205 #[.val (.long q1), .second, .val (.long q2), .second, .val (.long q3), .second, .val (.long q4), .second, .val (.long q5), .second, .val (.long v4), .second, .val (.long v10), .second, .val (.long v17), .second, .val (.long v24), .second, .val (.long v31), .second, .val (.ref b37), .val (.ref b_39), .val (.int z73_s0), .val (.int z93_s0), .val (.int z120_s0), .val (.int z155_s0), .val (.int z178_s0), .unset] [(.int (0 : Int32))])) t → Steps p.tables e below (s₁.setTop (entryFrame m #[(.long q1), (.long q2), (.long q3), (.long q4), (.long q5)] maxLocals)) t := fun t k => pre74 t (by
          show Steps p.tables e below (T73.setTop (mkF m 197 #[.val (.long q1), .second, .val (.long q2), .second, .val (.long q3), .second, .val (.long q4), .second, .val (.long q5), .second, .val (.long v4), .second, .val (.long v10), .second, .val (.long v17), .second, .val (.long v24), .second, .val (.long v31), .second, .val (.ref b37), .val (.ref b_39), .val (.int z73_s0), .val (.int z93_s0), .val (.int z120_s0), .val (.int z155_s0), .val (.int z178_s0), .unset] [(.int z178_s0), (.int (fT1 ((v10 - v17) - v31) (((v4 - v17) - v24) - v31)))])) _
          refine XS.icmpYes X73.here hx rfl (pc0 := 197) (pc' := 204) rfl (hb hby at_197) rfl (feq hc197).2 (by decide) (by decide) ?_
          show Steps p.tables e below (T73.setTop (mkF m 204 #[.val (.long q1), .second, .val (.long q2), .second, .val (.long q3), .second, .val (.long q4), .second, .val (.long q5), .second, .val (.long v4), .second, .val (.long v10), .second, .val (.long v17), .second, .val (.long v24), .second, .val (.long v31), .second, .val (.ref b37), .val (.ref b_39), .val (.int z73_s0), .val (.int z93_s0), .val (.int z120_s0), .val (.int z155_s0), .val (.int z178_s0), .unset] [])) _
          refine XS.iconst X73.here hx rfl (hb hby at_204) ?_
          exact k)
        have q_z205_s0 : z205_s0 = (0 : Int32) := by rw [hz205_s0, if_pos hc187, if_neg hc197]
        refine ⟨_, _, X73, e73, N73, fun t k => ?_⟩
        rw [q_z205_s0] at k
        exact pre76 t k
    ·
      have pre77 : ∀ t, Steps p.tables e below (T71.setTop (mkF m 205 #[.val (.long q1), .second, .val (.long q2), .second, .val (.long q3), .second, .val (.long q4), .second, .val (.long q5), .second, .val (.long v4), .second, .val (.long v10), .second, .val (.long v17), .second, .val (.long v24), .second, .val (.long v31), .second, .val (.ref b37), .val (.ref b_39), .val (.int z73_s0), .val (.int z93_s0), .val (.int z120_s0), .val (.int z155_s0), .val (.int z178_s0), .unset] [(.int (0 : Int32))])) t → Steps p.tables e below (s₁.setTop (entryFrame m #[(.long q1), (.long q2), (.long q3), (.long q4), (.long q5)] maxLocals)) t := fun t k => pre72 t (by
        show Steps p.tables e below (T71.setTop (mkF m 187 #[.val (.long q1), .second, .val (.long q2), .second, .val (.long q3), .second, .val (.long q4), .second, .val (.long q5), .second, .val (.long v4), .second, .val (.long v10), .second, .val (.long v17), .second, .val (.long v24), .second, .val (.long v31), .second, .val (.ref b37), .val (.ref b_39), .val (.int z73_s0), .val (.int z93_s0), .val (.int z120_s0), .val (.int z155_s0), .val (.int z178_s0), .unset] [(.int z155_s0), (.int (fT0 (((v4 - v17) - v24) - v31)))])) _
        refine XS.icmpYes X71.here hx rfl (pc0 := 187) (pc' := 204) rfl (hb hby at_187) rfl (feq hc187).2 (by decide) (by decide) ?_
        show Steps p.tables e below (T71.setTop (mkF m 204 #[.val (.long q1), .second, .val (.long q2), .second, .val (.long q3), .second, .val (.long q4), .second, .val (.long q5), .second, .val (.long v4), .second, .val (.long v10), .second, .val (.long v17), .second, .val (.long v24), .second, .val (.long v31), .second, .val (.ref b37), .val (.ref b_39), .val (.int z73_s0), .val (.int z93_s0), .val (.int z120_s0), .val (.int z155_s0), .val (.int z178_s0), .unset] [])) _
        refine XS.iconst X71.here hx rfl (hb hby at_204) ?_
        exact k)
      have q_z205_s0 : z205_s0 = (0 : Int32) := by rw [hz205_s0, if_neg hc187]
      refine ⟨_, _, X71, e71, N71, fun t k => ?_⟩
      rw [q_z205_s0] at k
      exact pre77 t k
  have pre79 : ∀ t, Steps p.tables e below (T78.setTop (mkF m 209 #[.val (.long q1), .second, .val (.long q2), .second, .val (.long q3), .second, .val (.long q4), .second, .val (.long q5), .second, .val (.long v4), .second, .val (.long v10), .second, .val (.long v17), .second, .val (.long v24), .second, .val (.long v31), .second, .val (.ref b37), .val (.ref b_39), .val (.int z73_s0), .val (.int z93_s0), .val (.int z120_s0), .val (.int z155_s0), .val (.int z178_s0), .val (.int z205_s0)] [(.int z120_s0)])) t → Steps p.tables e below (s₁.setTop (entryFrame m #[(.long q1), (.long q2), (.long q3), (.long q4), (.long q5)] maxLocals)) t := fun t k => pre78 t (by
    show Steps p.tables e below (T78.setTop (mkF m 205 #[.val (.long q1), .second, .val (.long q2), .second, .val (.long q3), .second, .val (.long q4), .second, .val (.long q5), .second, .val (.long v4), .second, .val (.long v10), .second, .val (.long v17), .second, .val (.long v24), .second, .val (.long v31), .second, .val (.ref b37), .val (.ref b_39), .val (.int z73_s0), .val (.int z93_s0), .val (.int z120_s0), .val (.int z155_s0), .val (.int z178_s0), .unset] [(.int z205_s0)])) _
    refine XS.istore X78.here hx rfl (hb hby at_205) rfl (l' := #[.val (.long q1), .second, .val (.long q2), .second, .val (.long q3), .second, .val (.long q4), .second, .val (.long q5), .second, .val (.long v4), .second, .val (.long v10), .second, .val (.long v17), .second, .val (.long v24), .second, .val (.long v31), .second, .val (.ref b37), .val (.ref b_39), .val (.int z73_s0), .val (.int z93_s0), .val (.int z120_s0), .val (.int z155_s0), .val (.int z178_s0), .val (.int z205_s0)]) rfl ?_
    show Steps p.tables e below (T78.setTop (mkF m 207 #[.val (.long q1), .second, .val (.long q2), .second, .val (.long q3), .second, .val (.long q4), .second, .val (.long q5), .second, .val (.long v4), .second, .val (.long v10), .second, .val (.long v17), .second, .val (.long v24), .second, .val (.long v31), .second, .val (.ref b37), .val (.ref b_39), .val (.int z73_s0), .val (.int z93_s0), .val (.int z120_s0), .val (.int z155_s0), .val (.int z178_s0), .val (.int z205_s0)] [])) _
    refine XS.iload X78.here hx rfl (hb hby at_207) rfl ?_
    exact k)
  obtain ⟨z222_s0, hz222_s0⟩ : ∃ z : Int32, z = (if z120_s0 = (0 : Int32) then (0 : Int32) else (if z205_s0 = (0 : Int32) then (0 : Int32) else (1 : Int32))) := ⟨_, rfl⟩
  obtain ⟨T84, Lc84, X84, e84, N84, pre84⟩ : ∃ (T' : State) (locs' : List Loc), Stand p l e room_1 s m #[(.long q1), (.long q2), (.long q3), (.long q4), (.long q5)] below meth c T' locs' 2 4 ∧ T'.heap = T60.heap ∧ Fr n0 locs' ∧ ∀ t, Steps p.tables e below (T'.setTop (mkF m 222 #[.val (.long q1), .second, .val (.long q2), .second, .val (.long q3), .second, .val (.long q4), .second, .val (.long q5), .second, .val (.long v4), .second, .val (.long v10), .second, .val (.long v17), .second, .val (.long v24), .second, .val (.long v31), .second, .val (.ref b37), .val (.ref b_39), .val (.int z73_s0), .val (.int z93_s0), .val (.int z120_s0), .val (.int z155_s0), .val (.int z178_s0), .val (.int z205_s0)] [(.int z222_s0)])) t → Steps p.tables e below (s₁.setTop (entryFrame m #[(.long q1), (.long q2), (.long q3), (.long q4), (.long q5)] maxLocals)) t := by
    by_cases hc209 : z120_s0 = (0 : Int32)
    ·
      have pre80 : ∀ t, Steps p.tables e below (T78.setTop (mkF m 222 #[.val (.long q1), .second, .val (.long q2), .second, .val (.long q3), .second, .val (.long q4), .second, .val (.long q5), .second, .val (.long v4), .second, .val (.long v10), .second, .val (.long v17), .second, .val (.long v24), .second, .val (.long v31), .second, .val (.ref b37), .val (.ref b_39), .val (.int z73_s0), .val (.int z93_s0), .val (.int z120_s0), .val (.int z155_s0), .val (.int z178_s0), .val (.int z205_s0)] [(.int (0 : Int32))])) t → Steps p.tables e below (s₁.setTop (entryFrame m #[(.long q1), (.long q2), (.long q3), (.long q4), (.long q5)] maxLocals)) t := fun t k => pre79 t (by
        show Steps p.tables e below (T78.setTop (mkF m 209 #[.val (.long q1), .second, .val (.long q2), .second, .val (.long q3), .second, .val (.long q4), .second, .val (.long q5), .second, .val (.long v4), .second, .val (.long v10), .second, .val (.long v17), .second, .val (.long v24), .second, .val (.long v31), .second, .val (.ref b37), .val (.ref b_39), .val (.int z73_s0), .val (.int z93_s0), .val (.int z120_s0), .val (.int z155_s0), .val (.int z178_s0), .val (.int z205_s0)] [(.int z120_s0)])) _
        refine XS.ifYes X78.here hx rfl (pc0 := 209) (pc' := 221) rfl (hb hby at_209) rfl ((if0 _ _).trans (teq hc209).1) (by decide) (by decide) ?_
        show Steps p.tables e below (T78.setTop (mkF m 221 #[.val (.long q1), .second, .val (.long q2), .second, .val (.long q3), .second, .val (.long q4), .second, .val (.long q5), .second, .val (.long v4), .second, .val (.long v10), .second, .val (.long v17), .second, .val (.long v24), .second, .val (.long v31), .second, .val (.ref b37), .val (.ref b_39), .val (.int z73_s0), .val (.int z93_s0), .val (.int z120_s0), .val (.int z155_s0), .val (.int z178_s0), .val (.int z205_s0)] [])) _
        refine XS.iconst X78.here hx rfl (hb hby at_221) ?_
        exact k)
      have q_z222_s0 : z222_s0 = (0 : Int32) := by rw [hz222_s0, if_pos hc209]
      refine ⟨_, _, X78, e78, N78, fun t k => ?_⟩
      rw [q_z222_s0] at k
      exact pre80 t k
    ·
      have pre81 : ∀ t, Steps p.tables e below (T78.setTop (mkF m 214 #[.val (.long q1), .second, .val (.long q2), .second, .val (.long q3), .second, .val (.long q4), .second, .val (.long q5), .second, .val (.long v4), .second, .val (.long v10), .second, .val (.long v17), .second, .val (.long v24), .second, .val (.long v31), .second, .val (.ref b37), .val (.ref b_39), .val (.int z73_s0), .val (.int z93_s0), .val (.int z120_s0), .val (.int z155_s0), .val (.int z178_s0), .val (.int z205_s0)] [(.int z205_s0)])) t → Steps p.tables e below (s₁.setTop (entryFrame m #[(.long q1), (.long q2), (.long q3), (.long q4), (.long q5)] maxLocals)) t := fun t k => pre79 t (by
        show Steps p.tables e below (T78.setTop (mkF m 209 #[.val (.long q1), .second, .val (.long q2), .second, .val (.long q3), .second, .val (.long q4), .second, .val (.long q5), .second, .val (.long v4), .second, .val (.long v10), .second, .val (.long v17), .second, .val (.long v24), .second, .val (.long v31), .second, .val (.ref b37), .val (.ref b_39), .val (.int z73_s0), .val (.int z93_s0), .val (.int z120_s0), .val (.int z155_s0), .val (.int z178_s0), .val (.int z205_s0)] [(.int z120_s0)])) _
        refine XS.ifNo X78.here hx rfl (hb hby at_209) rfl ((if0 _ _).trans (feq hc209).1) ?_
        show Steps p.tables e below (T78.setTop (mkF m 212 #[.val (.long q1), .second, .val (.long q2), .second, .val (.long q3), .second, .val (.long q4), .second, .val (.long q5), .second, .val (.long v4), .second, .val (.long v10), .second, .val (.long v17), .second, .val (.long v24), .second, .val (.long v31), .second, .val (.ref b37), .val (.ref b_39), .val (.int z73_s0), .val (.int z93_s0), .val (.int z120_s0), .val (.int z155_s0), .val (.int z178_s0), .val (.int z205_s0)] [])) _
        refine XS.iload X78.here hx rfl (hb hby at_212) rfl ?_
        exact k)
      by_cases hc214 : z205_s0 = (0 : Int32)
      ·
        have pre82 : ∀ t, Steps p.tables e below (T78.setTop (mkF m 222 #[.val (.long q1), .second, .val (.long q2), .second, .val (.long q3), .second, .val (.long q4), .second, .val (.long q5), .second, .val (.long v4), .second, .val (.long v10), .second, .val (.long v17), .second, .val (.long v24), .second, .val (.long v31), .second, .val (.ref b37), .val (.ref b_39), .val (.int z73_s0), .val (.int z93_s0), .val (.int z120_s0), .val (.int z155_s0), .val (.int z178_s0), .val (.int z205_s0)] [(.int (0 : Int32))])) t → Steps p.tables e below (s₁.setTop (entryFrame m #[(.long q1), (.long q2), (.long q3), (.long q4), (.long q5)] maxLocals)) t := fun t k => pre81 t (by
          show Steps p.tables e below (T78.setTop (mkF m 214 #[.val (.long q1), .second, .val (.long q2), .second, .val (.long q3), .second, .val (.long q4), .second, .val (.long q5), .second, .val (.long v4), .second, .val (.long v10), .second, .val (.long v17), .second, .val (.long v24), .second, .val (.long v31), .second, .val (.ref b37), .val (.ref b_39), .val (.int z73_s0), .val (.int z93_s0), .val (.int z120_s0), .val (.int z155_s0), .val (.int z178_s0), .val (.int z205_s0)] [(.int z205_s0)])) _
          refine XS.ifYes X78.here hx rfl (pc0 := 214) (pc' := 221) rfl (hb hby at_214) rfl ((if0 _ _).trans (teq hc214).1) (by decide) (by decide) ?_
          show Steps p.tables e below (T78.setTop (mkF m 221 #[.val (.long q1), .second, .val (.long q2), .second, .val (.long q3), .second, .val (.long q4), .second, .val (.long q5), .second, .val (.long v4), .second, .val (.long v10), .second, .val (.long v17), .second, .val (.long v24), .second, .val (.long v31), .second, .val (.ref b37), .val (.ref b_39), .val (.int z73_s0), .val (.int z93_s0), .val (.int z120_s0), .val (.int z155_s0), .val (.int z178_s0), .val (.int z205_s0)] [])) _
          refine XS.iconst X78.here hx rfl (hb hby at_221) ?_
          exact k)
        have q_z222_s0 : z222_s0 = (0 : Int32) := by rw [hz222_s0, if_neg hc209, if_pos hc214]
        refine ⟨_, _, X78, e78, N78, fun t k => ?_⟩
        rw [q_z222_s0] at k
        exact pre82 t k
      ·
        have pre83 : ∀ t, Steps p.tables e below (T78.setTop (mkF m 222 #[.val (.long q1), .second, .val (.long q2), .second, .val (.long q3), .second, .val (.long q4), .second, .val (.long q5), .second, .val (.long v4), .second, .val (.long v10), .second, .val (.long v17), .second, .val (.long v24), .second, .val (.long v31), .second, .val (.ref b37), .val (.ref b_39), .val (.int z73_s0), .val (.int z93_s0), .val (.int z120_s0), .val (.int z155_s0), .val (.int z178_s0), .val (.int z205_s0)] [(.int (1 : Int32))])) t → Steps p.tables e below (s₁.setTop (entryFrame m #[(.long q1), (.long q2), (.long q3), (.long q4), (.long q5)] maxLocals)) t := fun t k => pre81 t (by
          show Steps p.tables e below (T78.setTop (mkF m 214 #[.val (.long q1), .second, .val (.long q2), .second, .val (.long q3), .second, .val (.long q4), .second, .val (.long q5), .second, .val (.long v4), .second, .val (.long v10), .second, .val (.long v17), .second, .val (.long v24), .second, .val (.long v31), .second, .val (.ref b37), .val (.ref b_39), .val (.int z73_s0), .val (.int z93_s0), .val (.int z120_s0), .val (.int z155_s0), .val (.int z178_s0), .val (.int z205_s0)] [(.int z205_s0)])) _
          refine XS.ifNo X78.here hx rfl (hb hby at_214) rfl ((if0 _ _).trans (feq hc214).1) ?_
          show Steps p.tables e below (T78.setTop (mkF m 217 #[.val (.long q1), .second, .val (.long q2), .second, .val (.long q3), .second, .val (.long q4), .second, .val (.long q5), .second, .val (.long v4), .second, .val (.long v10), .second, .val (.long v17), .second, .val (.long v24), .second, .val (.long v31), .second, .val (.ref b37), .val (.ref b_39), .val (.int z73_s0), .val (.int z93_s0), .val (.int z120_s0), .val (.int z155_s0), .val (.int z178_s0), .val (.int z205_s0)] [])) _
          refine XS.iconst X78.here hx rfl (hb hby at_217) ?_
          show Steps p.tables e below (T78.setTop (mkF m 218 #[.val (.long q1), .second, .val (.long q2), .second, .val (.long q3), .second, .val (.long q4), .second, .val (.long q5), .second, .val (.long v4), .second, .val (.long v10), .second, .val (.long v17), .second, .val (.long v24), .second, .val (.long v31), .second, .val (.ref b37), .val (.ref b_39), .val (.int z73_s0), .val (.int z93_s0), .val (.int z120_s0), .val (.int z155_s0), .val (.int z178_s0), .val (.int z205_s0)] [(.int (1 : Int32))])) _
          refine XS.goto X78.here hx rfl (pc0 := 218) (pc' := 222) rfl (hb hby at_218) (by decide) (by decide) ?_
          exact k)
        have q_z222_s0 : z222_s0 = (1 : Int32) := by rw [hz222_s0, if_neg hc209, if_neg hc214]
        refine ⟨_, _, X78, e78, N78, fun t k => ?_⟩
        rw [q_z222_s0] at k
        exact pre83 t k
  obtain rfl : z222_s0 = (1 : Int32) := own_law hv4 hv10 hv17 hv24 hv31 hz73_s0 hz93_s0 hz120_s0 hz155_s0 hz178_s0 hz205_s0 hz222_s0
  obtain ⟨fs, hr, hrun, hended, hW, hsame⟩ := X84.leave (v := some (.int (1 : Int32))) (fun h => by rw [Bd.returns] at h; cases h)
  refine ⟨_, _, pre84 _ ?_, hrun, hended, _, _, rfl, ?_, ⟨_, rfl⟩, hW, hsame.mono (by decide) (by decide)⟩
  · show Steps p.tables e below (T84.setTop (mkF m 222 #[.val (.long q1), .second, .val (.long q2), .second, .val (.long q3), .second, .val (.long q4), .second, .val (.long q5), .second, .val (.long v4), .second, .val (.long v10), .second, .val (.long v17), .second, .val (.long v24), .second, .val (.long v31), .second, .val (.ref b37), .val (.ref b_39), .val (.int z73_s0), .val (.int z93_s0), .val (.int z120_s0), .val (.int z155_s0), .val (.int z178_s0), .val (.int z205_s0)] [(.int (1 : Int32))])) _
    exact retN X84 hx (t := .boolean) Bd.returns (by simp) (hb hby at_222) hr
  · show Q0 Z q1 q2 q3 q4 q5 h0 n0 _ T84.heap _
    rw [e84]
    exact ⟨rfl, N84⟩
set_option maxRecDepth 65536 in
set_option maxHeartbeats 40000000 in
theorem comes_1 {Post : Tables → Env → Array Value → State → Outcome → State → Prop} (hpost : ∀ tb e args s v u, (limb_1_1.after args s (.returned v) u = true ∧ limb_1_2.after args s (.returned v) u = true ∧ True) → FrameEnd s (.returned v) u (Jvm.fieldLocs frame_1_writes args s ++ Jvm.arrayLocs frame_1_arrays args s ++ Jvm.staticLocs frame_1_statics s) 16 128 → Post tb e args s (.returned v) u) :
    ArmFor flags0 classFile x code maxLocals ret World_1 tables_1 room_1 Calls_1 rest_1 Pre_1 Post := by
  intro l hfl _ _ p e ha hc hk s m args below hf hA hF happ hP
  obtain ⟨hcalls, hrest, hpre⟩ := hP
  obtain ⟨-, -, -, hnamed, -, -, -, hat⟩ := (Spec.applies_iff hf).mp happ
  obtain ⟨hg, hn⟩ := and_e (Cond.before_iff.mp (show (Jvm.Cond.and given_1 narrow_1).before args s = true from hpre))
  obtain ⟨hcount, ha0⟩ := and_e hg
  obtain ⟨ga0, gb0⟩ := and_e ha0
  obtain ⟨ga1, gb1⟩ := and_e gb0
  obtain ⟨ga2, gb2⟩ := and_e gb1
  obtain ⟨ga3, gb3⟩ := and_e gb2
  obtain ⟨w0, w1, w2, w3, w4, rfl⟩ : ∃ w0 w1 w2 w3 w4 : Value, args = #[w0, w1, w2, w3, w4] := by
    have hs : args.size = 5 := by simpa [Cond.value, given_1] using hcount
    obtain ⟨L⟩ := args
    match L, hs with
    | [w0, w1, w2, w3, w4], _ => exact ⟨w0, w1, w2, w3, w4, rfl⟩
  have hw := fun d (hd : d ∈ tables_1) => atoms_spec (ws := Jvm.Cond.code x code maxLocals ret :: tables_1) hat d (List.mem_cons_of_mem _ hd)
  have hfit : Fit s := fun {y c} hc i hi => by
    obtain ⟨ha, rfl⟩ := Array.getElem?_eq_some_iff.mp hc
    have q := List.all_eq_true.mp ((Array.all_eq_true_iff_forall_mem.mp hF) _ (Array.getElem_mem ha)) i (List.mem_range.mpr hi)
    simpa [Array.getElem?_eq_getElem hi] using q
  obtain ⟨i0, ei0⟩ := isL_v ga0
  obtain rfl : w0 = (.long i0) := Option.some.inj ei0
  obtain ⟨i1, ei1⟩ := isL_v ga1
  obtain rfl : w1 = (.long i1) := Option.some.inj ei1
  obtain ⟨i2, ei2⟩ := isL_v ga2
  obtain rfl : w2 = (.long i2) := Option.some.inj ei2
  obtain ⟨i3, ei3⟩ := isL_v ga3
  obtain rfl : w3 = (.long i3) := Option.some.inj ei3
  obtain ⟨i4, ei4⟩ := isL_v gb3
  obtain rfl : w4 = (.long i4) := Option.some.inj ei4
  obtain ⟨n, o, h1, h2, h3, _, L, rfl, ⟨rfl, N⟩, hq⟩ := rm0 l s _ hw tables_1 i0 i1 i2 i3 i4 s.heap s.heap.size (Nat.le_refl _)  p e ha hc hk s m _ below hf ((Spec.applies_iff_loose hf).mp happ).1 ⟨rfl, State.Warmed39.refl s, rfl⟩ trivial
  refine ⟨n, _, h1, h2, h3, hpost _ _ _ _ _ _ ⟨Cond.after_iff.mpr rfl, Cond.after_iff.mpr (eq_i res_at (Term.int_eval (1)) rfl), trivial⟩ ⟨hq.1, hq.2.1, (hq.2.2.sift fun y hy => Or.inr (N y hy)).mono (by decide) (by decide)⟩⟩
theorem main_1_1 : Claimed_1_1 := comes_1 fun _ _ _ _ _ _ h hF => ⟨h.1, hF⟩
theorem main_1_2 : Claimed_1_2 := comes_1 fun _ _ _ _ _ _ h hF => ⟨h.2.1, hF⟩
end Jvm.Pilot.@@N@@
namespace Jvm.Pilot.@@N@@
open Jvm Jvm.ClassFile Sem Op Lib Jvm.Free Jvm.Stand Jvm.Pilot.@@N@@.Jvm.D
/-! MADE BY PROGRAM (witnessworld.py) out of the Statement's table words and the real class files: 9 classes; the members and pool entries that the words name. The judged class is class 1, her method 3. -/
namespace start1
open Jvm.ClassFile
def u (s : String) : CpInfo := .utf8 (stringToUtf16 s)
/-- a pool by its gaps: so many unusable entries, then the entry; so many at the end -/
def gap : Nat → List CpInfo → List CpInfo
  | 0, r => r
  | n + 1, r => .unusable :: gap n r
def poolList (es : List (Nat × CpInfo)) (last : Nat) : List CpInfo := es.foldr (fun e r => gap e.1 (e.2 :: r)) (gap last [])
def pool (es : List (Nat × CpInfo)) (last : Nat) : Array CpInfo := ⟨poolList es last⟩
def fileOf (pool : Array CpInfo) (this : Nat) (attrs : Array Attribute := #[]) (ms : Array MethodInfo := #[]) (fl : Nat := 33) (sup : Nat := 0) (ifs : Array Nat := #[]) (fds : Array FieldInfo := #[]) : ClassFile where
  minorVersion := 0
  majorVersion := 65
  constantPool := pool
  accessFlags := fl
  thisClass := this
  superClass := sup
  interfaces := ifs
  fields := fds
  methods := ms
  attributes := attrs
def plain (name : String) (sup : Option ClassId) : Class where
  name := name
  kind := .ordinary
  loader := none
  accessFlags := 33
  super := sup
  interfaces := #[]
  cf := none
  fields := #[]
  methods := #[]
  instanceTypes := #[]
  staticTypes := #[]
  resolved := #[]
  callSites := []
  init := .initialized
  statics := none
  mirror := none

def pool0 : Array CpInfo := pool [(5, u "<init>"), (0, u "()V"), (1, .class_ 10), (1, u "java/lang/Object")] 113

def k0c0 : Code := { maxStack := 0, maxLocals := 1, code := object_method_1_code, exceptionTable := #[], attributes := #[] }
def k0m0 : Method := { name := "<init>", desc := "()V", sig := { parameters := [], returnType := none }, accessFlags := 1, code := some k0c0 }
/-- java/lang/Object -/
def k0 : Class := { plain "java/lang/Object" none with
  accessFlags := 33
  interfaces := #[]
  cf := some (fileOf pool0 8 #[] #[{ accessFlags := 1, nameIndex := 5, descriptorIndex := 6, attributes := #[] }] 33 0 #[] #[])
  fields := #[]
  methods := #[k0m0]
  instanceTypes := #[]
  staticTypes := #[]
  resolved := Array.replicate 124 none
  statics := none }

def pool1 : Array CpInfo := pool [(2, .class_ 4), (1, u "java/lang/Object"), (0, u "<init>"), (0, u "()V"), (2, .long 9223372036854775807), (1, .methodref 12 13), (0, .class_ 14), (0, .nameAndType 15 16), (0, u "com/example/regolo/regolo/engine/WorkSpendPinLaw"), (0, u "budget"), (0, u "(J)J"), (0, .methodref 12 18), (0, .nameAndType 19 16), (0, u "steps"), (0, .class_ 21), (0, u "com/example/regolo/regolo/engine/Work"), (0, .methodref 20 23), (0, .nameAndType 5 24), (0, u "(J)V"), (0, .methodref 20 26), (0, .nameAndType 27 28), (0, u "part"), (0, u "(J)Lcom/example/regolo/regolo/engine/Work;"), (0, .methodref 20 30), (0, .nameAndType 31 24), (0, u "spend"), (0, .methodref 20 33), (0, .nameAndType 34 35), (0, u "spent"), (0, u "()Z"), (2, u "law"), (0, u "(JJJJJ)Z")] 3

def k1m0 : Method := { name := "<init>", desc := "()V", sig := { parameters := [], returnType := none }, accessFlags := 1, code := none }
def k1c1 : Code := { maxStack := 3, maxLocals := 2, code := method_2_code, exceptionTable := #[], attributes := #[] }
def k1m1 : Method := { name := "budget", desc := "(J)J", sig := { parameters := [.long], returnType := some .long }, accessFlags := 10, code := some k1c1 }
def k1c2 : Code := { maxStack := 4, maxLocals := 2, code := method_3_code, exceptionTable := #[], attributes := #[] }
def k1m2 : Method := { name := "steps", desc := "(J)J", sig := { parameters := [.long], returnType := some .long }, accessFlags := 10, code := some k1c2 }
def k1c3 : Code := { maxStack := 4, maxLocals := 28, code := code, exceptionTable := #[], attributes := #[] }
def k1m3 : Method := { name := "law", desc := "(JJJJJ)Z", sig := { parameters := [.long, .long, .long, .long, .long], returnType := some .boolean }, accessFlags := 9, code := some k1c3 }
/-- com/example/regolo/regolo/engine/WorkSpendPinLaw -/
def k1 : Class := { plain "com/example/regolo/regolo/engine/WorkSpendPinLaw" (some 0) with
  accessFlags := 49
  interfaces := #[]
  cf := some (fileOf pool1 12 #[] #[{ accessFlags := 1, nameIndex := 5, descriptorIndex := 6, attributes := #[] }, { accessFlags := 10, nameIndex := 15, descriptorIndex := 16, attributes := #[] }, { accessFlags := 10, nameIndex := 19, descriptorIndex := 16, attributes := #[] }, { accessFlags := 9, nameIndex := 38, descriptorIndex := 39, attributes := #[] }] 49 2 #[] #[])
  fields := #[]
  methods := #[k1m0, k1m1, k1m2, k1m3]
  instanceTypes := #[]
  staticTypes := #[]
  resolved := Array.replicate 43 none
  statics := none }

def pool2 : Array CpInfo := pool [(1, .methodref 2 3), (0, .class_ 4), (0, .nameAndType 5 6), (0, u "com/example/regolo/regolo/engine/Work"), (0, u "<init>"), (0, u "(JLcom/example/regolo/regolo/engine/Work;)V"), (0, .methodref 8 9), (0, .class_ 10), (0, .nameAndType 5 11), (0, u "java/lang/Object"), (0, u "()V"), (0, .fieldref 2 13), (0, .nameAndType 14 15), (0, u "left"), (0, u "J"), (0, .fieldref 2 17), (0, .nameAndType 18 19), (0, u "whole"), (0, u "Lcom/example/regolo/regolo/engine/Work;"), (0, .methodref 2 21), (0, .nameAndType 22 23), (0, u "spend"), (0, u "(J)V"), (0, .methodref 2 25), (0, .nameAndType 26 27), (0, u "spent"), (0, u "()Z"), (2, u "part"), (0, u "(J)Lcom/example/regolo/regolo/engine/Work;")] 3

def k2c0 : Code := { maxStack := 4, maxLocals := 3, code := prog_77_method_1_code, exceptionTable := #[], attributes := #[] }
def k2m0 : Method := { name := "<init>", desc := "(J)V", sig := { parameters := [.long], returnType := none }, accessFlags := 0, code := some k2c0 }
def k2c1 : Code := { maxStack := 3, maxLocals := 4, code := prog_77_method_2_code, exceptionTable := #[], attributes := #[] }
def k2m1 : Method := { name := "<init>", desc := "(JLcom/example/regolo/regolo/engine/Work;)V", sig := { parameters := [.long, (.object "com/example/regolo/regolo/engine/Work")], returnType := none }, accessFlags := 2, code := some k2c1 }
def k2c2 : Code := { maxStack := 5, maxLocals := 3, code := prog_77_method_3_code, exceptionTable := #[], attributes := #[] }
def k2m2 : Method := { name := "part", desc := "(J)Lcom/example/regolo/regolo/engine/Work;", sig := { parameters := [.long], returnType := some (.object "com/example/regolo/regolo/engine/Work") }, accessFlags := 0, code := some k2c2 }
def k2c3 : Code := { maxStack := 5, maxLocals := 3, code := prog_77_method_4_code, exceptionTable := #[], attributes := #[] }
def k2m3 : Method := { name := "spend", desc := "(J)V", sig := { parameters := [.long], returnType := none }, accessFlags := 0, code := some k2c3 }
def k2c4 : Code := { maxStack := 4, maxLocals := 1, code := prog_77_method_5_code, exceptionTable := #[], attributes := #[] }
def k2m4 : Method := { name := "spent", desc := "()Z", sig := { parameters := [], returnType := some .boolean }, accessFlags := 0, code := some k2c4 }
/-- com/example/regolo/regolo/engine/Work -/
def k2 : Class := { plain "com/example/regolo/regolo/engine/Work" (some 0) with
  accessFlags := 48
  interfaces := #[]
  cf := some (fileOf pool2 2 #[] #[{ accessFlags := 0, nameIndex := 5, descriptorIndex := 23, attributes := #[] }, { accessFlags := 2, nameIndex := 5, descriptorIndex := 6, attributes := #[] }, { accessFlags := 0, nameIndex := 30, descriptorIndex := 31, attributes := #[] }, { accessFlags := 0, nameIndex := 22, descriptorIndex := 23, attributes := #[] }, { accessFlags := 0, nameIndex := 26, descriptorIndex := 27, attributes := #[] }] 48 8 #[] #[{ accessFlags := 18, nameIndex := 18, descriptorIndex := 19, attributes := #[] }, { accessFlags := 2, nameIndex := 14, descriptorIndex := 15, attributes := #[] }])
  fields := #[{ name := "whole", type := (.object "com/example/regolo/regolo/engine/Work"), accessFlags := 18, slot := 0, constantValue := 0 }, { name := "left", type := .long, accessFlags := 2, slot := 1, constantValue := 0 }]
  methods := #[k2m0, k2m1, k2m2, k2m3, k2m4]
  instanceTypes := #[(.object "com/example/regolo/regolo/engine/Work"), .long]
  staticTypes := #[]
  resolved := Array.replicate 35 none
  statics := none }

def pool3 : Array CpInfo := pool [(1, u "java/lang/Cloneable"), (0, .class_ 1), (0, u "java/lang/Object"), (0, .class_ 3)] 3

/-- java/lang/Cloneable -/
def k3 : Class := { plain "java/lang/Cloneable" (some 0) with
  accessFlags := 1537
  interfaces := #[]
  cf := some (fileOf pool3 2 #[] #[] 1537 4 #[] #[])
  fields := #[]
  methods := #[]
  instanceTypes := #[]
  staticTypes := #[]
  resolved := Array.replicate 8 none
  statics := none }

def pool4 : Array CpInfo := pool [(1, u "java/io/Serializable"), (0, .class_ 1), (0, u "java/lang/Object"), (0, .class_ 3)] 3

/-- java/io/Serializable -/
def k4 : Class := { plain "java/io/Serializable" (some 0) with
  accessFlags := 1537
  interfaces := #[]
  cf := some (fileOf pool4 2 #[] #[] 1537 4 #[] #[])
  fields := #[]
  methods := #[]
  instanceTypes := #[]
  staticTypes := #[]
  resolved := Array.replicate 8 none
  statics := none }

/-- the primitive byte -/
def k5 : Class := { plain "byte" none with kind := .primitive 'B', accessFlags := 0x411 }
/-- [B -/
def k6 : Class := { plain "[B" (some 0) with kind := .array 5 .byte, interfaces := #[3, 4], accessFlags := 1041 }

/-- the primitive int -/
def k7 : Class := { plain "int" none with kind := .primitive 'I', accessFlags := 0x411 }
/-- [I -/
def k8 : Class := { plain "[I" (some 0) with kind := .array 7 .int, interfaces := #[3, 4], accessFlags := 1041 }

def heap : Heap := #[]
def classes : Array Class := #[k0, k1, k2, k3, k4, k5, k6, k7, k8]
def interned : List (Array UInt16 × Addr) := []
def slotsUsed : Nat := 0
def theMethod : MethodId := ⟨1, 3⟩
def args0 : Array Value := #[.long 5, .long 300, .long 7, .long 1, .long 9]
def aboutOver (below : List Frame) : State where
  vm := { classes := classes, interned := interned.toArray }
  heap := heap
  slotsUsed := slotsUsed
  threads := #[{ frames := .invoking theMethod args0 :: below }]
def below0 : List Frame := [.native { method := ⟨0, 0⟩, args := #[] }]
def about1 : State := aboutOver below0
def p0 : Program := .bare "" "" ""
def e0 : Env := launch0.env 0 0 0
theorem w_frames : about1.frames = Frame.invoking theMethod args0 :: below0 := rfl
set_option maxRecDepth 65536 in
theorem w_args : argsFit about1.vm theMethod args0 = true := by decide +kernel
set_option maxRecDepth 65536 in
theorem w_heap : heapFits about1 = true := by decide +kernel
set_option maxRecDepth 65536 in
theorem w_runnable : about1.curStatus? = some .runnable := by decide +kernel
set_option maxRecDepth 65536 in
theorem w_alone : about1.alone = true := by decide +kernel
set_option maxRecDepth 65536 in
theorem w_named : about1.methodNamed? x = some theMethod := by decide +kernel
set_option maxRecDepth 65536 in
theorem w_hears : about1.hears theMethod below0 = true := by decide +kernel
set_option maxRecDepth 65536 in
theorem w_ripe : about1.ripe theMethod args0 below0 = true := by decide +kernel
theorem w_running : about1.status = .running := rfl
set_option maxRecDepth 65536 in
theorem w_room : about1.hasRoom e0.platform room_1 = true :=
  launch0.hasRoom_least _ room_1 (by decide +kernel) (by decide +kernel) (by decide +kernel) (by decide +kernel) (by decide +kernel) (by decide +kernel)
theorem allAtoms_all (ts : List Jvm.Cond) (a : Array Jvm.Value) (st : Jvm.State) : (allAtoms ts).before a st = ts.all (fun c => c.before a st) := by
  induction ts with
  | nil => rfl
  | cons c t ih =>
    show (Jvm.Cond.and c (allAtoms t)).before a st = _
    rw [Jvm.Cond.before_and, ih, List.all_cons]
def words1 : List Jvm.Cond := Jvm.Cond.code x code maxLocals ret :: tables_1
/-- a 'code' word, met by the world's own term for the bytes: nothing is compared byte by byte -/
theorem code_word {y : MethodName} {bytes : ByteArray} {mx : Nat} {rt : Option FieldType} {a : Array Value} {s : State} {m : MethodId} {meth : Method} {c : Code} (h1 : s.methodNamed? y = some m) (h2 : s.vm.method? m = some meth) (h3 : meth.code = some c) (h4 : c.code = bytes)
    (h5 : (c.maxLocals == mx && c.exceptionTable.isEmpty && decide (c.maxStack ≤ mostOperands) && decide (meth.sig.returnType = rt) && !meth.locks && decide (parseMethodDescriptor y.desc = some meth.sig)) = true) : (Jvm.Cond.code y bytes mx rt).before a s = true := by
  simp only [Bool.and_eq_true, beq_iff_eq, Bool.not_eq_true', decide_eq_true_eq] at h5
  obtain ⟨⟨⟨⟨⟨g1, g2⟩, g3⟩, g4⟩, g5⟩, g6⟩ := h5
  simp [Cond.before, Cond.holds, Cond.value, h1, h2, h3, h4, g1, g2, g3, g4, g5, g6]
def isCode : Jvm.Cond → Bool
  | .code _ _ _ _ => true
  | _ => false
theorem all_split {L : List Jvm.Cond} {P : Jvm.Cond → Bool} (h1 : L.all (fun c => isCode c || P c) = true) (h2 : ∀ c ∈ L.filter isCode, P c = true) : L.all P = true := by
  refine List.all_eq_true.mpr fun c hc => ?_
  have h := List.all_eq_true.mp h1 c hc
  rcases Bool.eq_false_or_eq_true (isCode c) with hi | hi
  · exact h2 c (List.mem_filter.mpr ⟨hc, hi⟩)
  · simpa [hi] using h
set_option maxRecDepth 65536 in
theorem w_c0 : (Jvm.Cond.code x code maxLocals ret).before args0 about1 = true := code_word (m := ⟨1, 3⟩) (meth := k1m3) (c := k1c3) (by decide +kernel) rfl rfl rfl (by decide +kernel)
set_option maxRecDepth 65536 in
theorem w_c1 : (Jvm.Cond.code ({ cls := "com/example/regolo/regolo/engine/WorkSpendPinLaw", name := "budget", desc := "(J)J" } : Jvm.MethodName) method_2_code (2 : Nat) (Option.some Jvm.ClassFile.FieldType.long)).before args0 about1 = true := code_word (m := ⟨1, 1⟩) (meth := k1m1) (c := k1c1) (by decide +kernel) rfl rfl rfl (by decide +kernel)
set_option maxRecDepth 65536 in
theorem w_c2 : (Jvm.Cond.code ({ cls := "com/example/regolo/regolo/engine/WorkSpendPinLaw", name := "steps", desc := "(J)J" } : Jvm.MethodName) method_3_code (2 : Nat) (Option.some Jvm.ClassFile.FieldType.long)).before args0 about1 = true := code_word (m := ⟨1, 2⟩) (meth := k1m2) (c := k1c2) (by decide +kernel) rfl rfl rfl (by decide +kernel)
set_option maxRecDepth 65536 in
theorem w_c3 : (Jvm.Cond.code ({ cls := "com/example/regolo/regolo/engine/Work", name := "<init>", desc := "(J)V" } : Jvm.MethodName) prog_77_method_1_code (3 : Nat) (Option.none : Option Jvm.ClassFile.FieldType)).before args0 about1 = true := code_word (m := ⟨2, 0⟩) (meth := k2m0) (c := k2c0) (by decide +kernel) rfl rfl rfl (by decide +kernel)
set_option maxRecDepth 65536 in
theorem w_c4 : (Jvm.Cond.code ({ cls := "com/example/regolo/regolo/engine/Work", name := "<init>", desc := "(JLcom/example/regolo/regolo/engine/Work;)V" } : Jvm.MethodName) prog_77_method_2_code (4 : Nat) (Option.none : Option Jvm.ClassFile.FieldType)).before args0 about1 = true := code_word (m := ⟨2, 1⟩) (meth := k2m1) (c := k2c1) (by decide +kernel) rfl rfl rfl (by decide +kernel)
set_option maxRecDepth 65536 in
theorem w_c5 : (Jvm.Cond.code ({ cls := "java/lang/Object", name := "<init>", desc := "()V" } : Jvm.MethodName) object_method_1_code (1 : Nat) (Option.none : Option Jvm.ClassFile.FieldType)).before args0 about1 = true := code_word (m := ⟨0, 0⟩) (meth := k0m0) (c := k0c0) (by decide +kernel) rfl rfl rfl (by decide +kernel)
set_option maxRecDepth 65536 in
theorem w_c6 : (Jvm.Cond.code ({ cls := "com/example/regolo/regolo/engine/Work", name := "part", desc := "(J)Lcom/example/regolo/regolo/engine/Work;" } : Jvm.MethodName) prog_77_method_3_code (3 : Nat) (Option.some (Jvm.ClassFile.FieldType.object "com/example/regolo/regolo/engine/Work"))).before args0 about1 = true := code_word (m := ⟨2, 2⟩) (meth := k2m2) (c := k2c2) (by decide +kernel) rfl rfl rfl (by decide +kernel)
set_option maxRecDepth 65536 in
theorem w_c7 : (Jvm.Cond.code ({ cls := "com/example/regolo/regolo/engine/Work", name := "spend", desc := "(J)V" } : Jvm.MethodName) prog_77_method_4_code (3 : Nat) (Option.none : Option Jvm.ClassFile.FieldType)).before args0 about1 = true := code_word (m := ⟨2, 3⟩) (meth := k2m3) (c := k2c3) (by decide +kernel) rfl rfl rfl (by decide +kernel)
set_option maxRecDepth 65536 in
theorem w_c8 : (Jvm.Cond.code ({ cls := "com/example/regolo/regolo/engine/Work", name := "spent", desc := "()Z" } : Jvm.MethodName) prog_77_method_5_code (1 : Nat) (Option.some Jvm.ClassFile.FieldType.boolean)).before args0 about1 = true := code_word (m := ⟨2, 4⟩) (meth := k2m4) (c := k2c4) (by decide +kernel) rfl rfl rfl (by decide +kernel)
def codes1 : List Jvm.Cond := [Jvm.Cond.code x code maxLocals ret, Jvm.Cond.code ({ cls := "com/example/regolo/regolo/engine/WorkSpendPinLaw", name := "budget", desc := "(J)J" } : Jvm.MethodName) method_2_code (2 : Nat) (Option.some Jvm.ClassFile.FieldType.long), Jvm.Cond.code ({ cls := "com/example/regolo/regolo/engine/WorkSpendPinLaw", name := "steps", desc := "(J)J" } : Jvm.MethodName) method_3_code (2 : Nat) (Option.some Jvm.ClassFile.FieldType.long), Jvm.Cond.code ({ cls := "com/example/regolo/regolo/engine/Work", name := "<init>", desc := "(J)V" } : Jvm.MethodName) prog_77_method_1_code (3 : Nat) (Option.none : Option Jvm.ClassFile.FieldType), Jvm.Cond.code ({ cls := "com/example/regolo/regolo/engine/Work", name := "<init>", desc := "(JLcom/example/regolo/regolo/engine/Work;)V" } : Jvm.MethodName) prog_77_method_2_code (4 : Nat) (Option.none : Option Jvm.ClassFile.FieldType), Jvm.Cond.code ({ cls := "java/lang/Object", name := "<init>", desc := "()V" } : Jvm.MethodName) object_method_1_code (1 : Nat) (Option.none : Option Jvm.ClassFile.FieldType), Jvm.Cond.code ({ cls := "com/example/regolo/regolo/engine/Work", name := "part", desc := "(J)Lcom/example/regolo/regolo/engine/Work;" } : Jvm.MethodName) prog_77_method_3_code (3 : Nat) (Option.some (Jvm.ClassFile.FieldType.object "com/example/regolo/regolo/engine/Work")), Jvm.Cond.code ({ cls := "com/example/regolo/regolo/engine/Work", name := "spend", desc := "(J)V" } : Jvm.MethodName) prog_77_method_4_code (3 : Nat) (Option.none : Option Jvm.ClassFile.FieldType), Jvm.Cond.code ({ cls := "com/example/regolo/regolo/engine/Work", name := "spent", desc := "()Z" } : Jvm.MethodName) prog_77_method_5_code (1 : Nat) (Option.some Jvm.ClassFile.FieldType.boolean)]
set_option maxRecDepth 65536 in
theorem codes_eq : words1.filter isCode = codes1 := rfl
theorem w_codes : ∀ c ∈ words1.filter isCode, c.before args0 about1 = true := by
  rw [codes_eq]
  intro c hc
  simp only [codes1, List.mem_cons, List.not_mem_nil, or_false] at hc
  rcases hc with rfl | rfl | rfl | rfl | rfl | rfl | rfl | rfl | rfl
  · exact w_c0
  · exact w_c1
  · exact w_c2
  · exact w_c3
  · exact w_c4
  · exact w_c5
  · exact w_c6
  · exact w_c7
  · exact w_c8
set_option maxRecDepth 65536 in
theorem w_t1 : (words1.take 24).all (fun c => isCode c || c.before args0 about1) = true := by decide +kernel
set_option maxRecDepth 65536 in
theorem w_t2 : (words1.drop 24).all (fun c => isCode c || c.before args0 about1) = true := by decide +kernel
theorem w_tables : (allAtoms (Jvm.Cond.code x code maxLocals ret :: tables_1)).before args0 about1 = true := by
  rw [allAtoms_all]
  show words1.all (fun c => c.before args0 about1) = true
  refine all_split ?_ w_codes
  rw [← List.take_append_drop 24 words1, List.all_append, w_t1, w_t2]
  rfl
set_option maxRecDepth 65536 in
theorem w_case : (Jvm.Cond.and given_1 narrow_1).before args0 about1 = true := by decide +kernel
theorem w_applies : (headSpec (Jvm.Cond.code x code maxLocals ret :: tables_1) room_1).applies x e0.platform about1 = true :=
  (Spec.applies_iff w_frames).mpr ⟨w_running, w_runnable, w_alone, w_named, w_hears, w_ripe, w_room, w_tables⟩
theorem atStart : AtStart classFile x code maxLocals ret World_1 tables_1 room_1 Calls_1 rest_1 Pre_1 launch0 p0 e0 about1 theMethod args0 below0 :=
  ⟨lists_1, trivial, launch0.admits_env _ _ _, launch0.least_env, fairChoices_fair.cas, fairChoices_fair.clock, w_frames, w_args, w_heap, w_applies, trivial, trivial, w_case⟩
end start1
theorem witness_1 : WitnessClaimed_1 := ⟨start1.p0, start1.e0, start1.about1, start1.theMethod, start1.args0, start1.below0, start1.atStart⟩
end Jvm.Pilot.@@N@@
