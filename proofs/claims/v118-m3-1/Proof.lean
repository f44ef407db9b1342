import JvmDerived
import JvmDerived.Pilot.@@N@@Statement
import JvmDerived.Pilot.@@N@@Code
set_option linter.unusedVariables false
set_option linter.unusedSimpArgs false
@@BLOCK:NumsL.lean.txt@@
namespace Jvm.RoadKit
open Sem ClassFile Op Lib Jvm.Stand Jvm.Free Jvm.LawKit
section New
variable {p : Program} {l : Launch} {e : Env} {R : Room} {s : State} {m : MethodId} {args : Array Value} {below : List Frame} {meth : Method} {c : Code} {T : State} {locs : List Loc} {cells slots : Nat}
theorem retI (X : Stand p l e R s m args below meth c T locs cells slots) (hx : p.tables.exec = Jvm.exec) {pc : Nat} {Ls : Array Slot} {z : Int32} {rest : List Value} (hret : meth.sig.returnType = some .int) (hd : decode c.code pc = .ok (.ireturn, 1)) {fs : List Frame}
    (hl : ∀ (f : JFrame) (acts : List Action), f.method = m → f.locked = none → f.entered = [] → (doReturn e (T.setTop f) acts (some (.int z))).1 = T.setFrames fs) : Steps p.tables e below (T.setTop (mkF m pc Ls (.int z :: rest))) (T.setFrames fs) := by
  have hm' : T.vm.method? m = some meth := X.method'
  have hn : narrow .int (.int z) = .int z := rfl
  show Steps p.tables e below (T.setTop { method := m, pc := pc, locals := Ls, stack := _ :: rest, locked := none }) _
  jvm_step X.here [X.here.top, hx, hd, hm', hret, hn]
  first | (intro acts; rw [hl _ acts rfl rfl rfl]) | rw [hl _ _ rfl rfl rfl]
  exact Steps.refl _
end New
end Jvm.RoadKit
namespace Jvm.Pilot.@@N@@
open Jvm Jvm.ClassFile Sem Op Lib Jvm.Free Jvm.Stand Jvm.LawKit Jvm.RoadKit Bundle Jvm.Pilot.@@N@@.Jvm.D

def f1 (q1 : Int64) : Int64 := (if (q1 &&& (9223372036854775807 : Int64)) = (0 : Int64) then (1 : Int64) else (q1 &&& (9223372036854775807 : Int64)))
def f7 (q1 : Int64) (q2 : Int64) (q3 : Int64) : Int32 := (if q3 < (q2 - q1) then (0 : Int32) else (1 : Int32))
def f6 (q1 : Int64) (q2 : Int64) : Int64 := (if q2 < q1 then q2 else q1)
def f5 (q2 : Int64) (q3 : Int64) (q4 : Int64) (w1 : Int64) (w2 : Int64) : Int32 := (if w1 < q4 then (0 : Int32) else (if w2 < (q3 - q2) then (0 : Int32) else (if (f7 q2 q3 q4) = (0 : Int32) then (0 : Int32) else (1 : Int32))))

theorem own_mask (x : Int64) : 0 ≤ (x &&& (9223372036854775807 : Int64)).toInt := by
  have e : (x &&& (9223372036854775807 : Int64)).toInt = x.toInt % 2 ^ 63 := Jvm.Kit.i64_mask x 9223372036854775807 (k := 63) (by decide) (by decide)
  omega
theorem own_pos {x v : Int64} (h : v = f1 x) : 1 ≤ v.toInt ∧ ¬ v < (1 : Int64) := by
  have h1 : 1 ≤ v.toInt := by
    rw [h]; unfold f1
    have m := own_mask x
    split
    · decide
    · rename_i q
      have : (x &&& (9223372036854775807 : Int64)).toInt ≠ 0 := fun e => q (Int64.toInt_inj.mp e)
      omega
  exact ⟨h1, by rw [Int64.lt_iff_toInt_lt, show (1 : Int64).toInt = 1 from by decide]; omega⟩
theorem own_law {q1 q2 q3 q4 q5 q6 v4 v10 v17 v24 v31 v39 v76 : Int64} {v69 z91 z111 z128 z142 : Int32} (h4 : v4 = f1 q1) (h10 : v10 = f1 q2) (h17 : v17 = f1 q3) (h24 : v24 = f1 q4) (h31 : v31 = f1 q5) (h39 : v39 = (q6 &&& (9223372036854775807 : Int64)))
    (h69 : v69 = f5 v24 v31 v39 v10 v17) (h76 : v76 = (v31 - v24)) (h91 : z91 = (if v10 < v39 then (0 : Int32) else (1 : Int32))) (h111 : z111 = (if (f6 v39 v17) < v76 then (0 : Int32) else (1 : Int32)))
    (h128 : z128 = (if z91 = (0 : Int32) then (0 : Int32) else (if z111 = (0 : Int32) then (0 : Int32) else (1 : Int32)))) (h142 : z142 = (if v69 = z128 then (1 : Int32) else (0 : Int32))) : z142 = 1 := by
  have a4 := (own_pos h24).1
  have a5 := (own_pos h31).1
  have b4 := Int64.toInt_lt v24
  have b5 := Int64.toInt_lt v31
  have s1 : (v31 - v24).toInt = v31.toInt - v24.toInt := Jvm.Kit.i64_sub (by omega) (by omega)
  rw [h142, if_pos]
  rw [h69, h128, h91, h111, h76]
  unfold f5 f6 f7
  simp only [Int64.lt_iff_toInt_lt, s1]
  by_cases k1 : v10.toInt < v39.toInt
  · rw [if_pos k1, if_pos k1, if_pos rfl]
  · rw [if_neg k1, if_neg k1, if_neg (by decide : ¬ (1 : Int32) = 0)]
    by_cases k2 : v17.toInt < v31.toInt - v24.toInt
    · rw [if_pos k2]
      by_cases k3 : v17.toInt < v39.toInt
      · rw [if_pos k3, if_pos k2, if_pos rfl]
      · rw [if_neg k3, if_pos (by omega : v39.toInt < v31.toInt - v24.toInt), if_pos rfl]
    · rw [if_neg k2]
      by_cases k4 : v39.toInt < v31.toInt - v24.toInt
      · rw [if_pos k4, if_pos rfl, if_neg (by omega : ¬ v17.toInt < v39.toInt), if_pos k4, if_pos rfl]
      · rw [if_neg k4, if_neg (by decide : ¬ (1 : Int32) = 0)]
        by_cases k3 : v17.toInt < v39.toInt
        · rw [if_pos k3, if_neg k2, if_neg (by decide : ¬ (1 : Int32) = 0)]
        · rw [if_neg k3, if_neg k4, if_neg (by decide : ¬ (1 : Int32) = 0)]

theorem d1_0 : decode method_2_code 0 = .ok (.lload_n 0, 1) := by decide +kernel
theorem d1_1 : decode method_2_code 1 = .ok (.ldc2_w 9, 3) := by decide +kernel
theorem d1_4 : decode method_2_code 4 = .ok (.land, 1) := by decide +kernel
theorem d1_5 : decode method_2_code 5 = .ok (.lstore_n 2, 1) := by decide +kernel
theorem d1_6 : decode method_2_code 6 = .ok (.lload_n 2, 1) := by decide +kernel
theorem d1_7 : decode method_2_code 7 = .ok (.lconst 0, 1) := by decide +kernel
theorem d1_8 : decode method_2_code 8 = .ok (.lcmp, 1) := by decide +kernel
theorem d1_9 : decode method_2_code 9 = .ok (.ifCond .ne 7, 3) := by decide +kernel
theorem d1_12 : decode method_2_code 12 = .ok (.lconst 1, 1) := by decide +kernel
theorem d1_13 : decode method_2_code 13 = .ok (.goto 4, 3) := by decide +kernel
theorem d1_17 : decode method_2_code 17 = .ok (.lreturn, 1) := by decide +kernel
theorem d1_16 : decode method_2_code 16 = .ok (.lload_n 2, 1) := by decide +kernel
theorem d3_0 : decode jdk_30_method_1_code 0 = .ok (.aload_n 0, 1) := by decide +kernel
theorem d3_1 : decode jdk_30_method_1_code 1 = .ok (.invokespecial 1, 3) := by decide +kernel
theorem d3_4 : decode jdk_30_method_1_code 4 = .ok (.return_, 1) := by decide +kernel
theorem d7_0 : decode prog_45_method_2_code 0 = .ok (.lload_n 2, 1) := by decide +kernel
theorem d7_1 : decode prog_45_method_2_code 1 = .ok (.lload_n 0, 1) := by decide +kernel
theorem d7_2 : decode prog_45_method_2_code 2 = .ok (.lsub, 1) := by decide +kernel
theorem d7_3 : decode prog_45_method_2_code 3 = .ok (.lload 4, 2) := by decide +kernel
theorem d7_5 : decode prog_45_method_2_code 5 = .ok (.lcmp, 1) := by decide +kernel
theorem d7_6 : decode prog_45_method_2_code 6 = .ok (.ifCond .gt 7, 3) := by decide +kernel
theorem d7_13 : decode prog_45_method_2_code 13 = .ok (.iconst 0, 1) := by decide +kernel
theorem d7_14 : decode prog_45_method_2_code 14 = .ok (.ireturn, 1) := by decide +kernel
theorem d7_9 : decode prog_45_method_2_code 9 = .ok (.iconst 1, 1) := by decide +kernel
theorem d7_10 : decode prog_45_method_2_code 10 = .ok (.goto 4, 3) := by decide +kernel
theorem d6_0 : decode jdk_29_method_70_code 0 = .ok (.lload_n 0, 1) := by decide +kernel
theorem d6_1 : decode jdk_29_method_70_code 1 = .ok (.lload_n 2, 1) := by decide +kernel
theorem d6_2 : decode jdk_29_method_70_code 2 = .ok (.lcmp, 1) := by decide +kernel
theorem d6_3 : decode jdk_29_method_70_code 3 = .ok (.ifCond .gt 7, 3) := by decide +kernel
theorem d6_10 : decode jdk_29_method_70_code 10 = .ok (.lload_n 2, 1) := by decide +kernel
theorem d6_11 : decode jdk_29_method_70_code 11 = .ok (.lreturn, 1) := by decide +kernel
theorem d6_6 : decode jdk_29_method_70_code 6 = .ok (.lload_n 0, 1) := by decide +kernel
theorem d6_7 : decode jdk_29_method_70_code 7 = .ok (.goto 4, 3) := by decide +kernel
theorem d2_0 : decode prog_54_method_1_code 0 = .ok (.aload_n 0, 1) := by decide +kernel
theorem d2_1 : decode prog_54_method_1_code 1 = .ok (.invokespecial 3, 3) := by decide +kernel
theorem d2_4 : decode prog_54_method_1_code 4 = .ok (.lload_n 1, 1) := by decide +kernel
theorem d2_5 : decode prog_54_method_1_code 5 = .ok (.lconst 1, 1) := by decide +kernel
theorem d2_6 : decode prog_54_method_1_code 6 = .ok (.lcmp, 1) := by decide +kernel
theorem d2_7 : decode prog_54_method_1_code 7 = .ok (.ifCond .lt 9, 3) := by decide +kernel
theorem d2_10 : decode prog_54_method_1_code 10 = .ok (.lload_n 3, 1) := by decide +kernel
theorem d2_11 : decode prog_54_method_1_code 11 = .ok (.lconst 1, 1) := by decide +kernel
theorem d2_12 : decode prog_54_method_1_code 12 = .ok (.lcmp, 1) := by decide +kernel
theorem d2_13 : decode prog_54_method_1_code 13 = .ok (.ifCond .ge 18, 3) := by decide +kernel
theorem d2_31 : decode prog_54_method_1_code 31 = .ok (.lload 5, 2) := by decide +kernel
theorem d2_33 : decode prog_54_method_1_code 33 = .ok (.lconst 1, 1) := by decide +kernel
theorem d2_34 : decode prog_54_method_1_code 34 = .ok (.lcmp, 1) := by decide +kernel
theorem d2_35 : decode prog_54_method_1_code 35 = .ok (.ifCond .lt 10, 3) := by decide +kernel
theorem d2_38 : decode prog_54_method_1_code 38 = .ok (.lload 7, 2) := by decide +kernel
theorem d2_40 : decode prog_54_method_1_code 40 = .ok (.lconst 1, 1) := by decide +kernel
theorem d2_41 : decode prog_54_method_1_code 41 = .ok (.lcmp, 1) := by decide +kernel
theorem d2_42 : decode prog_54_method_1_code 42 = .ok (.ifCond .ge 20, 3) := by decide +kernel
theorem d2_62 : decode prog_54_method_1_code 62 = .ok (.aload_n 0, 1) := by decide +kernel
theorem d2_63 : decode prog_54_method_1_code 63 = .ok (.lload_n 1, 1) := by decide +kernel
theorem d2_64 : decode prog_54_method_1_code 64 = .ok (.putfield 19, 3) := by decide +kernel
theorem d2_67 : decode prog_54_method_1_code 67 = .ok (.aload_n 0, 1) := by decide +kernel
theorem d2_68 : decode prog_54_method_1_code 68 = .ok (.lload_n 3, 1) := by decide +kernel
theorem d2_69 : decode prog_54_method_1_code 69 = .ok (.putfield 25, 3) := by decide +kernel
theorem d2_72 : decode prog_54_method_1_code 72 = .ok (.aload_n 0, 1) := by decide +kernel
theorem d2_73 : decode prog_54_method_1_code 73 = .ok (.lload 5, 2) := by decide +kernel
theorem d2_75 : decode prog_54_method_1_code 75 = .ok (.putfield 28, 3) := by decide +kernel
theorem d2_78 : decode prog_54_method_1_code 78 = .ok (.aload_n 0, 1) := by decide +kernel
theorem d2_79 : decode prog_54_method_1_code 79 = .ok (.lload 7, 2) := by decide +kernel
theorem d2_81 : decode prog_54_method_1_code 81 = .ok (.putfield 31, 3) := by decide +kernel
theorem d2_84 : decode prog_54_method_1_code 84 = .ok (.return_, 1) := by decide +kernel
theorem d5_0 : decode prog_54_method_3_code 0 = .ok (.lload 5, 2) := by decide +kernel
theorem d5_2 : decode prog_54_method_3_code 2 = .ok (.aload_n 0, 1) := by decide +kernel
theorem d5_3 : decode prog_54_method_3_code 3 = .ok (.getfield 28, 3) := by decide +kernel
theorem d5_6 : decode prog_54_method_3_code 6 = .ok (.lcmp, 1) := by decide +kernel
theorem d5_7 : decode prog_54_method_3_code 7 = .ok (.ifCond .gt 28, 3) := by decide +kernel
theorem d5_35 : decode prog_54_method_3_code 35 = .ok (.iconst 0, 1) := by decide +kernel
theorem d5_36 : decode prog_54_method_3_code 36 = .ok (.ireturn, 1) := by decide +kernel
theorem d5_10 : decode prog_54_method_3_code 10 = .ok (.lload_n 3, 1) := by decide +kernel
theorem d5_11 : decode prog_54_method_3_code 11 = .ok (.lload_n 1, 1) := by decide +kernel
theorem d5_12 : decode prog_54_method_3_code 12 = .ok (.lsub, 1) := by decide +kernel
theorem d5_13 : decode prog_54_method_3_code 13 = .ok (.aload_n 0, 1) := by decide +kernel
theorem d5_14 : decode prog_54_method_3_code 14 = .ok (.getfield 31, 3) := by decide +kernel
theorem d5_17 : decode prog_54_method_3_code 17 = .ok (.lcmp, 1) := by decide +kernel
theorem d5_18 : decode prog_54_method_3_code 18 = .ok (.ifCond .gt 17, 3) := by decide +kernel
theorem d5_21 : decode prog_54_method_3_code 21 = .ok (.lload_n 1, 1) := by decide +kernel
theorem d5_22 : decode prog_54_method_3_code 22 = .ok (.lload_n 3, 1) := by decide +kernel
theorem d5_23 : decode prog_54_method_3_code 23 = .ok (.lload 5, 2) := by decide +kernel
theorem d5_25 : decode prog_54_method_3_code 25 = .ok (.invokestatic 39, 3) := by decide +kernel
theorem d5_28 : decode prog_54_method_3_code 28 = .ok (.ifCond .eq 7, 3) := by decide +kernel
theorem d5_31 : decode prog_54_method_3_code 31 = .ok (.iconst 1, 1) := by decide +kernel
theorem d5_32 : decode prog_54_method_3_code 32 = .ok (.goto 4, 3) := by decide +kernel
theorem pn_0 : plainName "com/example/verschil/verschil/repository/ClientGroupFollowsDeltasPinLaw" = true := by first | (simp [plainName, overriddenIn]; done) | decide +kernel
theorem pn_1 : plainName "java/lang/Record" = true := by first | (simp [plainName, overriddenIn]; done) | decide +kernel
theorem pn_2 : plainName "com/example/verschil/verschil/repository/RetentionPolicy" = true := by first | (simp [plainName, overriddenIn]; done) | decide +kernel
theorem pn_3 : plainName "com/example/verschil/verschil/repository/RetentionSimulator$ClientGroup" = true := by first | (simp [plainName, overriddenIn]; done) | decide +kernel
theorem pd_0 : parseMethodDescriptor "()V" = some ⟨[], none⟩ := by decide +kernel
theorem pd_1 : parseMethodDescriptor "(JJJ)Z" = some ⟨[.long, .long, .long], some .boolean⟩ := by decide +kernel
theorem pd_2 : parseMethodDescriptor "(J)J" = some ⟨[.long], some .long⟩ := by decide +kernel
theorem pd_3 : parseMethodDescriptor "(JJJJ)V" = some ⟨[.long, .long, .long, .long], none⟩ := by decide +kernel
theorem pd_4 : parseMethodDescriptor "(JJ)J" = some ⟨[.long, .long], some .long⟩ := by decide +kernel
def Q1 (Z : State) (q1 : Int64) (h0 : Heap) (n0 : Nat) (v : Option Value) (h : Heap) (L : List Loc) : Prop := v = some (.long (f1 q1)) ∧ Fr n0 L ∧ h = h0
theorem ef_1 (m : MethodId) (q1 : Int64) : entryFrame m #[(.long q1)] 4 = mkF m 0 #[.val (.long q1), .second, .unset, .unset] [] := by first | (simp [entryFrame, mkF, argsToLocals, Value.category]; done) | rfl
set_option maxRecDepth 65536 in
set_option maxHeartbeats 40000000 in
theorem rm1 (l : Launch) (Z : State) (a0 : Array Value) (hw : ∀ d ∈ tables_1, d.before a0 Z = true) (ws : List Jvm.Cond) (q1 : Int64) (h0 : Heap) (n0 : Nat) (Zs : n0 ≤ h0.size)  :
    MetFree l (⟨"com/example/verschil/verschil/repository/ClientGroupFollowsDeltasPinLaw", "pos", "(J)J"⟩ : MethodName) (head1 (Jvm.Cond.code (⟨"com/example/verschil/verschil/repository/ClientGroupFollowsDeltasPinLaw", "pos", "(J)J"⟩ : MethodName) method_2_code 4 (some .long) :: ws) ({ frames := 0, cells := 0, slots := 0, locals := 0 } : Room)) (fun a U => a = #[(.long q1)] ∧ Z.Warmed39 U.vm ∧ U.heap = h0) (fun _ _ _ _ _ => True) (fun _ U o U' => ∃ v L, o = .returned v ∧ Q1 Z q1 h0 n0 v U'.heap L ∧ FrameEnd U o U' L ({ frames := 0, cells := 0, slots := 0, locals := 0 } : Room).cells ({ frames := 0, cells := 0, slots := 0, locals := 0 } : Room).slots) := by
  refine MetFree.of_bodySF (plainFor_of_name pn_0) hisR ?_
  intro p e s m args below meth c s₁ Bd hml0 hP hK
  obtain ⟨rfl, hZ, hh⟩ := hP
  have hx := Bd.exec
  have hby := Bd.bytes
  have hml : c.maxLocals = 4 := hml0
  have hown : s.vm.findClass "com/example/verschil/verschil/repository/ClientGroupFollowsDeltasPinLaw" = some m.cls := findClass_of_methodNamed Bd.named
  have hnm := (name_of_methodNamed Bd.named Bd.method).1
  have X0 : Stand p l e ({ frames := 0, cells := 0, slots := 0, locals := 0 } : Room) s m #[(.long q1)] below meth c s₁ [] 0 0 := Stand.of_body Bd
  have e0 : s₁.heap = h0 := by rw [← hh, Bd.state]; rfl
  have N0 := Fr.nil n0
  have pre0 : ∀ t, Steps p.tables e below (s₁.setTop (mkF m 0 #[.val (.long q1), .second, .unset, .unset] [])) t → Steps p.tables e below (s₁.setTop (entryFrame m #[(.long q1)] 4)) t := fun t k => castTop (ef_1 m q1) k
  have pre1 : ∀ t, Steps p.tables e below (s₁.setTop (mkF m 9 #[.val (.long q1), .second, .val (.long (q1 &&& (9223372036854775807 : Int64))), .second] [(.int (lcmpW (q1 &&& (9223372036854775807 : Int64)) (0 : Int64)))])) t → Steps p.tables e below (s₁.setTop (entryFrame m #[(.long q1)] 4)) t := fun t k => pre0 t (by
    show Steps p.tables e below (s₁.setTop (mkF m 0 #[.val (.long q1), .second, .unset, .unset] [])) _
    refine XS.lloadN X0.here hx rfl (hb hby d1_0) rfl ?_
    show Steps p.tables e below (s₁.setTop (mkF m 1 #[.val (.long q1), .second, .unset, .unset] [(.long q1)])) _
    refine X0.ldc2Long hx hown (mvT hZ (hw _ (List.mem_of_getElem? (i := 4) rfl))) (g := (mkF m 1 #[.val (.long q1), .second, .unset, .unset] [(.long q1)])) rfl (hb hby d1_1) _ ?_
    show Steps p.tables e below (s₁.setTop (mkF m 4 #[.val (.long q1), .second, .unset, .unset] [(.long (9223372036854775807 : Int64)), (.long q1)])) _
    refine XS.land X0.here hx rfl (hb hby d1_4) rfl ?_
    show Steps p.tables e below (s₁.setTop (mkF m 5 #[.val (.long q1), .second, .unset, .unset] [(.long (q1 &&& (9223372036854775807 : Int64)))])) _
    refine XS.lstoreN X0.here hx rfl (hb hby d1_5) rfl (l' := #[.val (.long q1), .second, .val (.long (q1 &&& (9223372036854775807 : Int64))), .second]) rfl ?_
    show Steps p.tables e below (s₁.setTop (mkF m 6 #[.val (.long q1), .second, .val (.long (q1 &&& (9223372036854775807 : Int64))), .second] [])) _
    refine XS.lloadN X0.here hx rfl (hb hby d1_6) rfl ?_
    show Steps p.tables e below (s₁.setTop (mkF m 7 #[.val (.long q1), .second, .val (.long (q1 &&& (9223372036854775807 : Int64))), .second] [(.long (q1 &&& (9223372036854775807 : Int64)))])) _
    refine XS.lconst X0.here hx rfl (hb hby d1_7) ?_
    show Steps p.tables e below (s₁.setTop (mkF m 8 #[.val (.long q1), .second, .val (.long (q1 &&& (9223372036854775807 : Int64))), .second] [(.long (0 : Int64)), (.long (q1 &&& (9223372036854775807 : Int64)))])) _
    refine XS.lcmp X0.here hx rfl (hb hby d1_8) rfl ?_
    exact k)
  by_cases hc9 : (q1 &&& (9223372036854775807 : Int64)) = (0 : Int64)
  ·
    obtain ⟨fs, hr, hrun, hended, hW, hsame⟩ := X0.leave (v := some (.long (1 : Int64))) (fun h => by rw [Bd.returns] at h; cases h)
    refine ⟨_, _, pre1 _ ?_, hrun, hended, _, _, rfl, ?_, ⟨_, rfl⟩, hW, hsame.mono (by decide) (by decide)⟩
    · show Steps p.tables e below (s₁.setTop (mkF m 9 #[.val (.long q1), .second, .val (.long (q1 &&& (9223372036854775807 : Int64))), .second] [(.int (lcmpW (q1 &&& (9223372036854775807 : Int64)) (0 : Int64)))])) _
      refine XS.ifNo X0.here hx rfl (hb hby d1_9) rfl ((if0 _ _).trans (teq ((lw_eq (q1 &&& (9223372036854775807 : Int64)) (0 : Int64)).mpr hc9)).2) ?_
      show Steps p.tables e below (s₁.setTop (mkF m 12 #[.val (.long q1), .second, .val (.long (q1 &&& (9223372036854775807 : Int64))), .second] [])) _
      refine XS.lconst X0.here hx rfl (hb hby d1_12) ?_
      show Steps p.tables e below (s₁.setTop (mkF m 13 #[.val (.long q1), .second, .val (.long (q1 &&& (9223372036854775807 : Int64))), .second] [(.long (1 : Int64))])) _
      refine XS.goto X0.here hx rfl (pc0 := 13) (pc' := 17) rfl (hb hby d1_13) (by decide) (by decide) ?_
      show Steps p.tables e below (s₁.setTop (mkF m 17 #[.val (.long q1), .second, .val (.long (q1 &&& (9223372036854775807 : Int64))), .second] [(.long (1 : Int64))])) _
      exact retOut X0 hx Bd.returns rfl (Or.inr (Or.inl ⟨rfl, rfl, _, rfl⟩)) (hb hby d1_17) hr
    · show Q1 Z q1 h0 n0 _ s₁.heap _
      rw [e0]
      exact ⟨congrArg some (congrArg Value.long (show (1 : Int64) = (f1 q1) from by rw [f1, if_pos hc9])), N0, rfl⟩
  ·
    obtain ⟨fs, hr, hrun, hended, hW, hsame⟩ := X0.leave (v := some (.long (q1 &&& (9223372036854775807 : Int64)))) (fun h => by rw [Bd.returns] at h; cases h)
    refine ⟨_, _, pre1 _ ?_, hrun, hended, _, _, rfl, ?_, ⟨_, rfl⟩, hW, hsame.mono (by decide) (by decide)⟩
    · show Steps p.tables e below (s₁.setTop (mkF m 9 #[.val (.long q1), .second, .val (.long (q1 &&& (9223372036854775807 : Int64))), .second] [(.int (lcmpW (q1 &&& (9223372036854775807 : Int64)) (0 : Int64)))])) _
      refine XS.ifYes X0.here hx rfl (pc0 := 9) (pc' := 16) rfl (hb hby d1_9) rfl ((if0 _ _).trans (feq (fun q => hc9 ((lw_eq (q1 &&& (9223372036854775807 : Int64)) (0 : Int64)).mp q))).2) (by decide) (by decide) ?_
      show Steps p.tables e below (s₁.setTop (mkF m 16 #[.val (.long q1), .second, .val (.long (q1 &&& (9223372036854775807 : Int64))), .second] [])) _
      refine XS.lloadN X0.here hx rfl (hb hby d1_16) rfl ?_
      show Steps p.tables e below (s₁.setTop (mkF m 17 #[.val (.long q1), .second, .val (.long (q1 &&& (9223372036854775807 : Int64))), .second] [(.long (q1 &&& (9223372036854775807 : Int64)))])) _
      exact retOut X0 hx Bd.returns rfl (Or.inr (Or.inl ⟨rfl, rfl, _, rfl⟩)) (hb hby d1_17) hr
    · show Q1 Z q1 h0 n0 _ s₁.heap _
      rw [e0]
      exact ⟨congrArg some (congrArg Value.long (show (q1 &&& (9223372036854775807 : Int64)) = (f1 q1) from by rw [f1, if_neg hc9])), N0, rfl⟩
def Q3 (Z : State) (a1 : Addr) (h0 : Heap) (n0 : Nat) (v : Option Value) (h : Heap) (L : List Loc) : Prop := v = none ∧ Fr n0 L ∧ h = h0
theorem ef_3 (m : MethodId) (a1 : Addr) : entryFrame m #[(.ref a1)] 1 = mkF m 0 #[.val (.ref a1)] [] := by first | (simp [entryFrame, mkF, argsToLocals, Value.category]; done) | rfl
set_option maxRecDepth 65536 in
set_option maxHeartbeats 40000000 in
theorem rm3 (l : Launch) (Z : State) (a0 : Array Value) (hw : ∀ d ∈ tables_1, d.before a0 Z = true) (ws : List Jvm.Cond) (a1 : Addr) (h0 : Heap) (n0 : Nat) (Zs : n0 ≤ h0.size)  :
    MetFree l (⟨"java/lang/Record", "<init>", "()V"⟩ : MethodName) (head1 (Jvm.Cond.code (⟨"java/lang/Record", "<init>", "()V"⟩ : MethodName) jdk_30_method_1_code 1 none :: ws) ({ frames := 1, cells := 0, slots := 0, locals := 12 } : Room)) (fun a U => a = #[(.ref a1)] ∧ Z.Warmed39 U.vm ∧ U.heap = h0) (fun _ _ _ _ _ => True) (fun _ U o U' => ∃ v L, o = .returned v ∧ Q3 Z a1 h0 n0 v U'.heap L ∧ FrameEnd U o U' L ({ frames := 1, cells := 0, slots := 0, locals := 12 } : Room).cells ({ frames := 1, cells := 0, slots := 0, locals := 12 } : Room).slots) := by
  refine MetFree.of_bodySF (plainFor_of_name pn_1) hisR ?_
  intro p e s m args below meth c s₁ Bd hml0 hP hK
  obtain ⟨rfl, hZ, hh⟩ := hP
  have hx := Bd.exec
  have hby := Bd.bytes
  have hml : c.maxLocals = 1 := hml0
  have hown : s.vm.findClass "java/lang/Record" = some m.cls := findClass_of_methodNamed Bd.named
  have hnm := (name_of_methodNamed Bd.named Bd.method).1
  have X0 : Stand p l e ({ frames := 1, cells := 0, slots := 0, locals := 12 } : Room) s m #[(.ref a1)] below meth c s₁ [] 0 0 := Stand.of_body Bd
  have e0 : s₁.heap = h0 := by rw [← hh, Bd.state]; rfl
  have N0 := Fr.nil n0
  have pre0 : ∀ t, Steps p.tables e below (s₁.setTop (mkF m 0 #[.val (.ref a1)] [])) t → Steps p.tables e below (s₁.setTop (entryFrame m #[(.ref a1)] 1)) t := fun t k => castTop (ef_3 m a1) k
  obtain ⟨T2, X2, e2, st2⟩ := initO X0 hx hZ hown (hw _ (List.mem_of_getElem? (i := 16) rfl)) (hw _ (List.mem_of_getElem? (i := 17) rfl)) (hw _ (List.mem_of_getElem? (i := 18) rfl)) e0 (g := (mkF m 1 #[.val (.ref a1)] [(.ref a1)])) rfl (by rw [hml]; rfl) rfl (hb hby d3_1) (by decide) (W := 0) (by show 2 * 0 + _ ≤ _; exact Nat.le_of_eq rfl) (by decide)
  obtain ⟨fs, hr, hrun, hended, hW, hsame⟩ := X2.leave (v := none) (fun _ => rfl)
  refine ⟨_, _, pre0 _ ?_, hrun, hended, _, _, rfl, ?_, ⟨_, rfl⟩, hW, hsame.mono (by decide) (by decide)⟩
  · show Steps p.tables e below (s₁.setTop (mkF m 0 #[.val (.ref a1)] [])) _
    refine XS.aloadN X0.here hx rfl (hb hby d3_0) rfl rfl ?_
    show Steps p.tables e below (s₁.setTop (mkF m 1 #[.val (.ref a1)] [(.ref a1)])) _
    refine st2 _ ?_
    show Steps p.tables e below (T2.setTop (mkF m 4 #[.val (.ref a1)] [])) _
    exact X2.returnOut hx Bd.returns (hb hby d3_4) hr
  · show Q3 Z a1 h0 n0 _ T2.heap _
    rw [e2]
    exact ⟨rfl, N0, rfl⟩
def Q7 (Z : State) (q1 : Int64) (q2 : Int64) (q3 : Int64) (h0 : Heap) (n0 : Nat) (v : Option Value) (h : Heap) (L : List Loc) : Prop := v = some (.int (f7 q1 q2 q3)) ∧ Fr n0 L ∧ h = h0
theorem ef_7 (m : MethodId) (q1 : Int64) (q2 : Int64) (q3 : Int64) : entryFrame m #[(.long q1), (.long q2), (.long q3)] 6 = mkF m 0 #[.val (.long q1), .second, .val (.long q2), .second, .val (.long q3), .second] [] := by first | (simp [entryFrame, mkF, argsToLocals, Value.category]; done) | rfl
set_option maxRecDepth 65536 in
set_option maxHeartbeats 40000000 in
theorem rm7 (l : Launch) (Z : State) (a0 : Array Value) (hw : ∀ d ∈ tables_1, d.before a0 Z = true) (ws : List Jvm.Cond) (q1 : Int64) (q2 : Int64) (q3 : Int64) (h0 : Heap) (n0 : Nat) (Zs : n0 ≤ h0.size)  :
    MetFree l (⟨"com/example/verschil/verschil/repository/RetentionPolicy", "reachedByDeltas", "(JJJ)Z"⟩ : MethodName) (head1 (Jvm.Cond.code (⟨"com/example/verschil/verschil/repository/RetentionPolicy", "reachedByDeltas", "(JJJ)Z"⟩ : MethodName) prog_45_method_2_code 6 (some .boolean) :: ws) ({ frames := 0, cells := 0, slots := 0, locals := 0 } : Room)) (fun a U => a = #[(.long q1), (.long q2), (.long q3)] ∧ Z.Warmed39 U.vm ∧ U.heap = h0) (fun _ _ _ _ _ => True) (fun _ U o U' => ∃ v L, o = .returned v ∧ Q7 Z q1 q2 q3 h0 n0 v U'.heap L ∧ FrameEnd U o U' L ({ frames := 0, cells := 0, slots := 0, locals := 0 } : Room).cells ({ frames := 0, cells := 0, slots := 0, locals := 0 } : Room).slots) := by
  refine MetFree.of_bodySF (plainFor_of_name pn_2) hisR ?_
  intro p e s m args below meth c s₁ Bd hml0 hP hK
  obtain ⟨rfl, hZ, hh⟩ := hP
  have hx := Bd.exec
  have hby := Bd.bytes
  have hml : c.maxLocals = 6 := hml0
  have hown : s.vm.findClass "com/example/verschil/verschil/repository/RetentionPolicy" = some m.cls := findClass_of_methodNamed Bd.named
  have hnm := (name_of_methodNamed Bd.named Bd.method).1
  have X0 : Stand p l e ({ frames := 0, cells := 0, slots := 0, locals := 0 } : Room) s m #[(.long q1), (.long q2), (.long q3)] below meth c s₁ [] 0 0 := Stand.of_body Bd
  have e0 : s₁.heap = h0 := by rw [← hh, Bd.state]; rfl
  have N0 := Fr.nil n0
  have pre0 : ∀ t, Steps p.tables e below (s₁.setTop (mkF m 0 #[.val (.long q1), .second, .val (.long q2), .second, .val (.long q3), .second] [])) t → Steps p.tables e below (s₁.setTop (entryFrame m #[(.long q1), (.long q2), (.long q3)] 6)) t := fun t k => castTop (ef_7 m q1 q2 q3) k
  have pre3 : ∀ t, Steps p.tables e below (s₁.setTop (mkF m 6 #[.val (.long q1), .second, .val (.long q2), .second, .val (.long q3), .second] [(.int (lcmpW (q2 - q1) q3))])) t → Steps p.tables e below (s₁.setTop (entryFrame m #[(.long q1), (.long q2), (.long q3)] 6)) t := fun t k => pre0 t (by
    show Steps p.tables e below (s₁.setTop (mkF m 0 #[.val (.long q1), .second, .val (.long q2), .second, .val (.long q3), .second] [])) _
    refine XS.lloadN X0.here hx rfl (hb hby d7_0) rfl ?_
    show Steps p.tables e below (s₁.setTop (mkF m 1 #[.val (.long q1), .second, .val (.long q2), .second, .val (.long q3), .second] [(.long q2)])) _
    refine XS.lloadN X0.here hx rfl (hb hby d7_1) rfl ?_
    show Steps p.tables e below (s₁.setTop (mkF m 2 #[.val (.long q1), .second, .val (.long q2), .second, .val (.long q3), .second] [(.long q1), (.long q2)])) _
    refine XS.lsub X0.here hx rfl (hb hby d7_2) rfl ?_
    show Steps p.tables e below (s₁.setTop (mkF m 3 #[.val (.long q1), .second, .val (.long q2), .second, .val (.long q3), .second] [(.long (q2 - q1))])) _
    refine XS.lload X0.here hx rfl (hb hby d7_3) rfl ?_
    show Steps p.tables e below (s₁.setTop (mkF m 5 #[.val (.long q1), .second, .val (.long q2), .second, .val (.long q3), .second] [(.long q3), (.long (q2 - q1))])) _
    refine XS.lcmp X0.here hx rfl (hb hby d7_5) rfl ?_
    exact k)
  by_cases hc6 : q3 < (q2 - q1)
  ·
    obtain ⟨fs, hr, hrun, hended, hW, hsame⟩ := X0.leave (v := some (.int (0 : Int32))) (fun h => by rw [Bd.returns] at h; cases h)
    refine ⟨_, _, pre3 _ ?_, hrun, hended, _, _, rfl, ?_, ⟨_, rfl⟩, hW, hsame.mono (by decide) (by decide)⟩
    · show Steps p.tables e below (s₁.setTop (mkF m 6 #[.val (.long q1), .second, .val (.long q2), .second, .val (.long q3), .second] [(.int (lcmpW (q2 - q1) q3))])) _
      refine XS.ifYes X0.here hx rfl (pc0 := 6) (pc' := 13) rfl (hb hby d7_6) rfl ((if0 _ _).trans (tlt ((lw_gt (q2 - q1) q3).mpr hc6)).2.2.1) (by decide) (by decide) ?_
      show Steps p.tables e below (s₁.setTop (mkF m 13 #[.val (.long q1), .second, .val (.long q2), .second, .val (.long q3), .second] [])) _
      refine XS.iconst X0.here hx rfl (hb hby d7_13) ?_
      show Steps p.tables e below (s₁.setTop (mkF m 14 #[.val (.long q1), .second, .val (.long q2), .second, .val (.long q3), .second] [(.int (0 : Int32))])) _
      exact retN X0 hx (t := .boolean) Bd.returns (by simp) (hb hby d7_14) hr
    · show Q7 Z q1 q2 q3 h0 n0 _ s₁.heap _
      rw [e0]
      exact ⟨congrArg some (congrArg Value.int (show (0 : Int32) = (f7 q1 q2 q3) from by rw [f7, if_pos hc6])), N0, rfl⟩
  ·
    obtain ⟨fs, hr, hrun, hended, hW, hsame⟩ := X0.leave (v := some (.int (1 : Int32))) (fun h => by rw [Bd.returns] at h; cases h)
    refine ⟨_, _, pre3 _ ?_, hrun, hended, _, _, rfl, ?_, ⟨_, rfl⟩, hW, hsame.mono (by decide) (by decide)⟩
    · show Steps p.tables e below (s₁.setTop (mkF m 6 #[.val (.long q1), .second, .val (.long q2), .second, .val (.long q3), .second] [(.int (lcmpW (q2 - q1) q3))])) _
      refine XS.ifNo X0.here hx rfl (hb hby d7_6) rfl ((if0 _ _).trans (flt (fun q => hc6 ((lw_gt (q2 - q1) q3).mp q))).2.2.1) ?_
      show Steps p.tables e below (s₁.setTop (mkF m 9 #[.val (.long q1), .second, .val (.long q2), .second, .val (.long q3), .second] [])) _
      refine XS.iconst X0.here hx rfl (hb hby d7_9) ?_
      show Steps p.tables e below (s₁.setTop (mkF m 10 #[.val (.long q1), .second, .val (.long q2), .second, .val (.long q3), .second] [(.int (1 : Int32))])) _
      refine XS.goto X0.here hx rfl (pc0 := 10) (pc' := 14) rfl (hb hby d7_10) (by decide) (by decide) ?_
      show Steps p.tables e below (s₁.setTop (mkF m 14 #[.val (.long q1), .second, .val (.long q2), .second, .val (.long q3), .second] [(.int (1 : Int32))])) _
      exact retN X0 hx (t := .boolean) Bd.returns (by simp) (hb hby d7_14) hr
    · show Q7 Z q1 q2 q3 h0 n0 _ s₁.heap _
      rw [e0]
      exact ⟨congrArg some (congrArg Value.int (show (1 : Int32) = (f7 q1 q2 q3) from by rw [f7, if_neg hc6])), N0, rfl⟩
def Q6 (Z : State) (q1 : Int64) (q2 : Int64) (h0 : Heap) (n0 : Nat) (v : Option Value) (h : Heap) (L : List Loc) : Prop := v = some (.long (f6 q1 q2)) ∧ Fr n0 L ∧ h = h0
theorem ef_6 (m : MethodId) (q1 : Int64) (q2 : Int64) : entryFrame m #[(.long q1), (.long q2)] 4 = mkF m 0 #[.val (.long q1), .second, .val (.long q2), .second] [] := by first | (simp [entryFrame, mkF, argsToLocals, Value.category]; done) | rfl
set_option maxRecDepth 65536 in
set_option maxHeartbeats 40000000 in
theorem rm6 (l : Launch) (Z : State) (a0 : Array Value) (hw : ∀ d ∈ tables_1, d.before a0 Z = true) (ws : List Jvm.Cond) (q1 : Int64) (q2 : Int64) (h0 : Heap) (n0 : Nat) (Zs : n0 ≤ h0.size)  :
    MetFree l (⟨"java/lang/Math", "min", "(JJ)J"⟩ : MethodName) (head1 (Jvm.Cond.code (⟨"java/lang/Math", "min", "(JJ)J"⟩ : MethodName) jdk_29_method_70_code 4 (some .long) :: ws) ({ frames := 0, cells := 0, slots := 0, locals := 0 } : Room)) (fun a U => a = #[(.long q1), (.long q2)] ∧ Z.Warmed39 U.vm ∧ U.heap = h0) (fun _ _ _ _ _ => True) (fun _ U o U' => ∃ v L, o = .returned v ∧ Q6 Z q1 q2 h0 n0 v U'.heap L ∧ FrameEnd U o U' L ({ frames := 0, cells := 0, slots := 0, locals := 0 } : Room).cells ({ frames := 0, cells := 0, slots := 0, locals := 0 } : Room).slots) := by
  refine MetFree.of_bodySF (Jvm.Free.JP.mathPlain rfl (by decide +kernel)) hisR ?_
  intro p e s m args below meth c s₁ Bd hml0 hP hK
  obtain ⟨rfl, hZ, hh⟩ := hP
  have hx := Bd.exec
  have hby := Bd.bytes
  have hml : c.maxLocals = 4 := hml0
  have hown : s.vm.findClass "java/lang/Math" = some m.cls := findClass_of_methodNamed Bd.named
  have hnm := (name_of_methodNamed Bd.named Bd.method).1
  have X0 : Stand p l e ({ frames := 0, cells := 0, slots := 0, locals := 0 } : Room) s m #[(.long q1), (.long q2)] below meth c s₁ [] 0 0 := Stand.of_body Bd
  have e0 : s₁.heap = h0 := by rw [← hh, Bd.state]; rfl
  have N0 := Fr.nil n0
  have pre0 : ∀ t, Steps p.tables e below (s₁.setTop (mkF m 0 #[.val (.long q1), .second, .val (.long q2), .second] [])) t → Steps p.tables e below (s₁.setTop (entryFrame m #[(.long q1), (.long q2)] 4)) t := fun t k => castTop (ef_6 m q1 q2) k
  have pre4 : ∀ t, Steps p.tables e below (s₁.setTop (mkF m 3 #[.val (.long q1), .second, .val (.long q2), .second] [(.int (lcmpW q1 q2))])) t → Steps p.tables e below (s₁.setTop (entryFrame m #[(.long q1), (.long q2)] 4)) t := fun t k => pre0 t (by
    show Steps p.tables e below (s₁.setTop (mkF m 0 #[.val (.long q1), .second, .val (.long q2), .second] [])) _
    refine XS.lloadN X0.here hx rfl (hb hby d6_0) rfl ?_
    show Steps p.tables e below (s₁.setTop (mkF m 1 #[.val (.long q1), .second, .val (.long q2), .second] [(.long q1)])) _
    refine XS.lloadN X0.here hx rfl (hb hby d6_1) rfl ?_
    show Steps p.tables e below (s₁.setTop (mkF m 2 #[.val (.long q1), .second, .val (.long q2), .second] [(.long q2), (.long q1)])) _
    refine XS.lcmp X0.here hx rfl (hb hby d6_2) rfl ?_
    exact k)
  by_cases hc3 : q2 < q1
  ·
    obtain ⟨fs, hr, hrun, hended, hW, hsame⟩ := X0.leave (v := some (.long q2)) (fun h => by rw [Bd.returns] at h; cases h)
    refine ⟨_, _, pre4 _ ?_, hrun, hended, _, _, rfl, ?_, ⟨_, rfl⟩, hW, hsame.mono (by decide) (by decide)⟩
    · show Steps p.tables e below (s₁.setTop (mkF m 3 #[.val (.long q1), .second, .val (.long q2), .second] [(.int (lcmpW q1 q2))])) _
      refine XS.ifYes X0.here hx rfl (pc0 := 3) (pc' := 10) rfl (hb hby d6_3) rfl ((if0 _ _).trans (tlt ((lw_gt q1 q2).mpr hc3)).2.2.1) (by decide) (by decide) ?_
      show Steps p.tables e below (s₁.setTop (mkF m 10 #[.val (.long q1), .second, .val (.long q2), .second] [])) _
      refine XS.lloadN X0.here hx rfl (hb hby d6_10) rfl ?_
      show Steps p.tables e below (s₁.setTop (mkF m 11 #[.val (.long q1), .second, .val (.long q2), .second] [(.long q2)])) _
      exact retOut X0 hx Bd.returns rfl (Or.inr (Or.inl ⟨rfl, rfl, _, rfl⟩)) (hb hby d6_11) hr
    · show Q6 Z q1 q2 h0 n0 _ s₁.heap _
      rw [e0]
      exact ⟨congrArg some (congrArg Value.long (show q2 = (f6 q1 q2) from by rw [f6, if_pos hc3])), N0, rfl⟩
  ·
    obtain ⟨fs, hr, hrun, hended, hW, hsame⟩ := X0.leave (v := some (.long q1)) (fun h => by rw [Bd.returns] at h; cases h)
    refine ⟨_, _, pre4 _ ?_, hrun, hended, _, _, rfl, ?_, ⟨_, rfl⟩, hW, hsame.mono (by decide) (by decide)⟩
    · show Steps p.tables e below (s₁.setTop (mkF m 3 #[.val (.long q1), .second, .val (.long q2), .second] [(.int (lcmpW q1 q2))])) _
      refine XS.ifNo X0.here hx rfl (hb hby d6_3) rfl ((if0 _ _).trans (flt (fun q => hc3 ((lw_gt q1 q2).mp q))).2.2.1) ?_
      show Steps p.tables e below (s₁.setTop (mkF m 6 #[.val (.long q1), .second, .val (.long q2), .second] [])) _
      refine XS.lloadN X0.here hx rfl (hb hby d6_6) rfl ?_
      show Steps p.tables e below (s₁.setTop (mkF m 7 #[.val (.long q1), .second, .val (.long q2), .second] [(.long q1)])) _
      refine XS.goto X0.here hx rfl (pc0 := 7) (pc' := 11) rfl (hb hby d6_7) (by decide) (by decide) ?_
      show Steps p.tables e below (s₁.setTop (mkF m 11 #[.val (.long q1), .second, .val (.long q2), .second] [(.long q1)])) _
      exact retOut X0 hx Bd.returns rfl (Or.inr (Or.inl ⟨rfl, rfl, _, rfl⟩)) (hb hby d6_11) hr
    · show Q6 Z q1 q2 h0 n0 _ s₁.heap _
      rw [e0]
      exact ⟨congrArg some (congrArg Value.long (show q1 = (f6 q1 q2) from by rw [f6, if_neg hc3])), N0, rfl⟩
def Q2 (Z : State) (a1 : Addr) (q2 : Int64) (q3 : Int64) (q4 : Int64) (q5 : Int64) (u1 : Int64) (u2 : Int64) (u3 : Int64) (u4 : Int64) (h0 : Heap) (n0 : Nat) (v : Option Value) (h : Heap) (L : List Loc) : Prop := v = none ∧ Fr n0 L ∧ (Keep h0 h [a1]) ∧ (Exa Z h a1 "com/example/verschil/verschil/repository/RetentionSimulator$ClientGroup") ∧ (Fld Z h a1 "com/example/verschil/verschil/repository/RetentionSimulator$ClientGroup" "listLimit" "J" (.long q4)) ∧ (Fld Z h a1 "com/example/verschil/verschil/repository/RetentionSimulator$ClientGroup" "chainLimit" "J" (.long q5))
theorem ef_2 (m : MethodId) (a1 : Addr) (q2 : Int64) (q3 : Int64) (q4 : Int64) (q5 : Int64) : entryFrame m #[(.ref a1), (.long q2), (.long q3), (.long q4), (.long q5)] 9 = mkF m 0 #[.val (.ref a1), .val (.long q2), .second, .val (.long q3), .second, .val (.long q4), .second, .val (.long q5), .second] [] := by first | (simp [entryFrame, mkF, argsToLocals, Value.category]; done) | rfl
set_option maxRecDepth 65536 in
set_option maxHeartbeats 40000000 in
theorem rm2 (l : Launch) (Z : State) (a0 : Array Value) (hw : ∀ d ∈ tables_1, d.before a0 Z = true) (ws : List Jvm.Cond) (a1 : Addr) (q2 : Int64) (q3 : Int64) (q4 : Int64) (q5 : Int64) (u1 : Int64) (u2 : Int64) (u3 : Int64) (u4 : Int64) (h0 : Heap) (n0 : Nat) (Zs : n0 ≤ h0.size) (E_a1 : Exa Z h0 a1 "com/example/verschil/verschil/repository/RetentionSimulator$ClientGroup") (F_count_a1 : Fld Z h0 a1 "com/example/verschil/verschil/repository/RetentionSimulator$ClientGroup" "count" "J" (.long u1)) (F_interval_a1 : Fld Z h0 a1 "com/example/verschil/verschil/repository/RetentionSimulator$ClientGroup" "interval" "J" (.long u2)) (F_listLimit_a1 : Fld Z h0 a1 "com/example/verschil/verschil/repository/RetentionSimulator$ClientGroup" "listLimit" "J" (.long u3)) (F_chainLimit_a1 : Fld Z h0 a1 "com/example/verschil/verschil/repository/RetentionSimulator$ClientGroup" "chainLimit" "J" (.long u4)) (g_a1 : n0 ≤ a1) (hp2 : ¬ q2 < (1 : Int64)) (hp3 : ¬ q3 < (1 : Int64)) (hp4 : ¬ q4 < (1 : Int64)) (hp5 : ¬ q5 < (1 : Int64)) :
    MetFree l (⟨"com/example/verschil/verschil/repository/RetentionSimulator$ClientGroup", "<init>", "(JJJJ)V"⟩ : MethodName) (head1 (Jvm.Cond.code (⟨"com/example/verschil/verschil/repository/RetentionSimulator$ClientGroup", "<init>", "(JJJJ)V"⟩ : MethodName) prog_54_method_1_code 9 none :: ws) ({ frames := 2, cells := 0, slots := 0, locals := 24 } : Room)) (fun a U => a = #[(.ref a1), (.long q2), (.long q3), (.long q4), (.long q5)] ∧ Z.Warmed39 U.vm ∧ U.heap = h0) (fun _ _ _ _ _ => True) (fun _ U o U' => ∃ v L, o = .returned v ∧ Q2 Z a1 q2 q3 q4 q5 u1 u2 u3 u4 h0 n0 v U'.heap L ∧ FrameEnd U o U' L ({ frames := 2, cells := 0, slots := 0, locals := 24 } : Room).cells ({ frames := 2, cells := 0, slots := 0, locals := 24 } : Room).slots) := by
  refine MetFree.of_bodySF (plainFor_of_name pn_3) hisR ?_
  intro p e s m args below meth c s₁ Bd hml0 hP hK
  obtain ⟨rfl, hZ, hh⟩ := hP
  have hx := Bd.exec
  have hby := Bd.bytes
  have hml : c.maxLocals = 9 := hml0
  have hown : s.vm.findClass "com/example/verschil/verschil/repository/RetentionSimulator$ClientGroup" = some m.cls := findClass_of_methodNamed Bd.named
  have hnm := (name_of_methodNamed Bd.named Bd.method).1
  have X0 : Stand p l e ({ frames := 2, cells := 0, slots := 0, locals := 24 } : Room) s m #[(.ref a1), (.long q2), (.long q3), (.long q4), (.long q5)] below meth c s₁ [] 0 0 := Stand.of_body Bd
  have e0 : s₁.heap = h0 := by rw [← hh, Bd.state]; rfl
  have N0 := Fr.nil n0
  have pre0 : ∀ t, Steps p.tables e below (s₁.setTop (mkF m 0 #[.val (.ref a1), .val (.long q2), .second, .val (.long q3), .second, .val (.long q4), .second, .val (.long q5), .second] [])) t → Steps p.tables e below (s₁.setTop (entryFrame m #[(.ref a1), (.long q2), (.long q3), (.long q4), (.long q5)] 9)) t := fun t k => castTop (ef_2 m a1 q2 q3 q4 q5) k
  have Kp : Keep h0 h0 [a1] := Keep.refl h0 [a1]
  obtain ⟨_, _, ⟨T5, L5, k5, n5⟩, -, X5, ⟨Lc5, hQ5, l5, y5, z5⟩, st5⟩ := X0.specialBack hx (y := (⟨"java/lang/Record", "<init>", "()V"⟩ : MethodName)) rfl hown (mvT hZ (hw _ (List.mem_of_getElem? (i := 11) rfl))) (mvT hZ (hw _ (List.mem_of_getElem? (i := 12) rfl))) (mvT hZ (hw _ (List.mem_of_getElem? (i := 15) rfl))) (by decide) (backOf (W := 0) (rm3 l Z a0 hw [] a1 h0 n0 Zs ) hZ (hw _ (List.mem_of_getElem? (i := 15) rfl)) (hw _ (List.mem_of_getElem? (i := 14) rfl)) (by decide) (by decide)) (g := (mkF m 1 #[.val (.ref a1), .val (.long q2), .second, .val (.long q3), .second, .val (.long q4), .second, .val (.long q5), .second] [(.ref a1)])) rfl (by rw [hml]; rfl) (Steps.refl _) (a := a1) (argsL := []) (rest := []) (lenOf pd_0 rfl) rfl (by show 2 * 0 + _ ≤ _; exact Nat.le_of_eq rfl) (hb hby d2_1) (fun _ _ => ⟨rfl, e0, (by decide : 0 + 0 ≤ _), (by decide : 0 + 0 ≤ _)⟩)
  dsimp only [Pt.U, Pt.locs, Pt.cells, Pt.slots] at X5 l5 y5 z5 st5 hQ5
  subst l5 y5 z5
  obtain ⟨rfl, N5q, e5⟩ := hQ5
  have N5 := Fr.app N0 N5q
  obtain ⟨T6, h6, X6, e6, W6, st6⟩ := putF X5 hx hZ hown (host := "") (Or.inl (hw _ (List.mem_of_getElem? (i := 19) rfl))) Via.refl e5 F_count_a1 E_a1 (Or.inr ⟨(hw _ (List.mem_of_getElem? (i := 20) rfl)), rfl, hnm⟩) (hw _ (List.mem_of_getElem? (i := 6) rfl)) (ty := .long) (by decide) rfl rfl (g := (mkF m 64 #[.val (.ref a1), .val (.long q2), .second, .val (.long q3), .second, .val (.long q4), .second, .val (.long q5), .second] [(.long q2), (.ref a1)])) rfl rfl (hb hby d2_64)
  have N6 := Fr.snoc X6 N5 g_a1
  have Zs : n0 ≤ h6.size := Nat.le_trans Zs (Keep.of_wr W6).1
  have E_a1 : Exa Z h6 a1 "com/example/verschil/verschil/repository/RetentionSimulator$ClientGroup" := E_a1.wr W6
  have F_count_a1 : Fld Z h6 a1 "com/example/verschil/verschil/repository/RetentionSimulator$ClientGroup" "count" "J" (.long q2) := F_count_a1.same W6
  have F_interval_a1 : Fld Z h6 a1 "com/example/verschil/verschil/repository/RetentionSimulator$ClientGroup" "interval" "J" (.long u2) := F_interval_a1.other W6 (Or.inr (slot_ne (Or.inr (hw _ (List.mem_of_getElem? (i := 22) rfl))) (Or.inr (hw _ (List.mem_of_getElem? (i := 20) rfl))) (by decide) (t := .long) (t' := .long) (by decide) (by decide)))
  have F_listLimit_a1 : Fld Z h6 a1 "com/example/verschil/verschil/repository/RetentionSimulator$ClientGroup" "listLimit" "J" (.long u3) := F_listLimit_a1.other W6 (Or.inr (slot_ne (Or.inr (hw _ (List.mem_of_getElem? (i := 24) rfl))) (Or.inr (hw _ (List.mem_of_getElem? (i := 20) rfl))) (by decide) (t := .long) (t' := .long) (by decide) (by decide)))
  have F_chainLimit_a1 : Fld Z h6 a1 "com/example/verschil/verschil/repository/RetentionSimulator$ClientGroup" "chainLimit" "J" (.long u4) := F_chainLimit_a1.other W6 (Or.inr (slot_ne (Or.inr (hw _ (List.mem_of_getElem? (i := 26) rfl))) (Or.inr (hw _ (List.mem_of_getElem? (i := 20) rfl))) (by decide) (t := .long) (t' := .long) (by decide) (by decide)))
  have Kp : Keep h0 h6 [a1] := Kp.wr W6 (Or.inl (List.mem_of_getElem? (i := 0) rfl))
  obtain ⟨T7, h7, X7, e7, W7, st7⟩ := putF X6 hx hZ hown (host := "") (Or.inl (hw _ (List.mem_of_getElem? (i := 21) rfl))) Via.refl e6 F_interval_a1 E_a1 (Or.inr ⟨(hw _ (List.mem_of_getElem? (i := 22) rfl)), rfl, hnm⟩) (hw _ (List.mem_of_getElem? (i := 6) rfl)) (ty := .long) (by decide) rfl rfl (g := (mkF m 69 #[.val (.ref a1), .val (.long q2), .second, .val (.long q3), .second, .val (.long q4), .second, .val (.long q5), .second] [(.long q3), (.ref a1)])) rfl rfl (hb hby d2_69)
  have N7 := Fr.snoc X7 N6 g_a1
  have Zs : n0 ≤ h7.size := Nat.le_trans Zs (Keep.of_wr W7).1
  have E_a1 : Exa Z h7 a1 "com/example/verschil/verschil/repository/RetentionSimulator$ClientGroup" := E_a1.wr W7
  have F_count_a1 : Fld Z h7 a1 "com/example/verschil/verschil/repository/RetentionSimulator$ClientGroup" "count" "J" (.long q2) := F_count_a1.other W7 (Or.inr (slot_ne (Or.inr (hw _ (List.mem_of_getElem? (i := 20) rfl))) (Or.inr (hw _ (List.mem_of_getElem? (i := 22) rfl))) (by decide) (t := .long) (t' := .long) (by decide) (by decide)))
  have F_interval_a1 : Fld Z h7 a1 "com/example/verschil/verschil/repository/RetentionSimulator$ClientGroup" "interval" "J" (.long q3) := F_interval_a1.same W7
  have F_listLimit_a1 : Fld Z h7 a1 "com/example/verschil/verschil/repository/RetentionSimulator$ClientGroup" "listLimit" "J" (.long u3) := F_listLimit_a1.other W7 (Or.inr (slot_ne (Or.inr (hw _ (List.mem_of_getElem? (i := 24) rfl))) (Or.inr (hw _ (List.mem_of_getElem? (i := 22) rfl))) (by decide) (t := .long) (t' := .long) (by decide) (by decide)))
  have F_chainLimit_a1 : Fld Z h7 a1 "com/example/verschil/verschil/repository/RetentionSimulator$ClientGroup" "chainLimit" "J" (.long u4) := F_chainLimit_a1.other W7 (Or.inr (slot_ne (Or.inr (hw _ (List.mem_of_getElem? (i := 26) rfl))) (Or.inr (hw _ (List.mem_of_getElem? (i := 22) rfl))) (by decide) (t := .long) (t' := .long) (by decide) (by decide)))
  have Kp : Keep h0 h7 [a1] := Kp.wr W7 (Or.inl (List.mem_of_getElem? (i := 0) rfl))
  obtain ⟨T8, h8, X8, e8, W8, st8⟩ := putF X7 hx hZ hown (host := "") (Or.inl (hw _ (List.mem_of_getElem? (i := 23) rfl))) Via.refl e7 F_listLimit_a1 E_a1 (Or.inr ⟨(hw _ (List.mem_of_getElem? (i := 24) rfl)), rfl, hnm⟩) (hw _ (List.mem_of_getElem? (i := 6) rfl)) (ty := .long) (by decide) rfl rfl (g := (mkF m 75 #[.val (.ref a1), .val (.long q2), .second, .val (.long q3), .second, .val (.long q4), .second, .val (.long q5), .second] [(.long q4), (.ref a1)])) rfl rfl (hb hby d2_75)
  have N8 := Fr.snoc X8 N7 g_a1
  have Zs : n0 ≤ h8.size := Nat.le_trans Zs (Keep.of_wr W8).1
  have E_a1 : Exa Z h8 a1 "com/example/verschil/verschil/repository/RetentionSimulator$ClientGroup" := E_a1.wr W8
  have F_count_a1 : Fld Z h8 a1 "com/example/verschil/verschil/repository/RetentionSimulator$ClientGroup" "count" "J" (.long q2) := F_count_a1.other W8 (Or.inr (slot_ne (Or.inr (hw _ (List.mem_of_getElem? (i := 20) rfl))) (Or.inr (hw _ (List.mem_of_getElem? (i := 24) rfl))) (by decide) (t := .long) (t' := .long) (by decide) (by decide)))
  have F_interval_a1 : Fld Z h8 a1 "com/example/verschil/verschil/repository/RetentionSimulator$ClientGroup" "interval" "J" (.long q3) := F_interval_a1.other W8 (Or.inr (slot_ne (Or.inr (hw _ (List.mem_of_getElem? (i := 22) rfl))) (Or.inr (hw _ (List.mem_of_getElem? (i := 24) rfl))) (by decide) (t := .long) (t' := .long) (by decide) (by decide)))
  have F_listLimit_a1 : Fld Z h8 a1 "com/example/verschil/verschil/repository/RetentionSimulator$ClientGroup" "listLimit" "J" (.long q4) := F_listLimit_a1.same W8
  have F_chainLimit_a1 : Fld Z h8 a1 "com/example/verschil/verschil/repository/RetentionSimulator$ClientGroup" "chainLimit" "J" (.long u4) := F_chainLimit_a1.other W8 (Or.inr (slot_ne (Or.inr (hw _ (List.mem_of_getElem? (i := 26) rfl))) (Or.inr (hw _ (List.mem_of_getElem? (i := 24) rfl))) (by decide) (t := .long) (t' := .long) (by decide) (by decide)))
  have Kp : Keep h0 h8 [a1] := Kp.wr W8 (Or.inl (List.mem_of_getElem? (i := 0) rfl))
  obtain ⟨T9, h9, X9, e9, W9, st9⟩ := putF X8 hx hZ hown (host := "") (Or.inl (hw _ (List.mem_of_getElem? (i := 25) rfl))) Via.refl e8 F_chainLimit_a1 E_a1 (Or.inr ⟨(hw _ (List.mem_of_getElem? (i := 26) rfl)), rfl, hnm⟩) (hw _ (List.mem_of_getElem? (i := 6) rfl)) (ty := .long) (by decide) rfl rfl (g := (mkF m 81 #[.val (.ref a1), .val (.long q2), .second, .val (.long q3), .second, .val (.long q4), .second, .val (.long q5), .second] [(.long q5), (.ref a1)])) rfl rfl (hb hby d2_81)
  have N9 := Fr.snoc X9 N8 g_a1
  have Zs : n0 ≤ h9.size := Nat.le_trans Zs (Keep.of_wr W9).1
  have E_a1 : Exa Z h9 a1 "com/example/verschil/verschil/repository/RetentionSimulator$ClientGroup" := E_a1.wr W9
  have F_count_a1 : Fld Z h9 a1 "com/example/verschil/verschil/repository/RetentionSimulator$ClientGroup" "count" "J" (.long q2) := F_count_a1.other W9 (Or.inr (slot_ne (Or.inr (hw _ (List.mem_of_getElem? (i := 20) rfl))) (Or.inr (hw _ (List.mem_of_getElem? (i := 26) rfl))) (by decide) (t := .long) (t' := .long) (by decide) (by decide)))
  have F_interval_a1 : Fld Z h9 a1 "com/example/verschil/verschil/repository/RetentionSimulator$ClientGroup" "interval" "J" (.long q3) := F_interval_a1.other W9 (Or.inr (slot_ne (Or.inr (hw _ (List.mem_of_getElem? (i := 22) rfl))) (Or.inr (hw _ (List.mem_of_getElem? (i := 26) rfl))) (by decide) (t := .long) (t' := .long) (by decide) (by decide)))
  have F_listLimit_a1 : Fld Z h9 a1 "com/example/verschil/verschil/repository/RetentionSimulator$ClientGroup" "listLimit" "J" (.long q4) := F_listLimit_a1.other W9 (Or.inr (slot_ne (Or.inr (hw _ (List.mem_of_getElem? (i := 24) rfl))) (Or.inr (hw _ (List.mem_of_getElem? (i := 26) rfl))) (by decide) (t := .long) (t' := .long) (by decide) (by decide)))
  have F_chainLimit_a1 : Fld Z h9 a1 "com/example/verschil/verschil/repository/RetentionSimulator$ClientGroup" "chainLimit" "J" (.long q5) := F_chainLimit_a1.same W9
  have Kp : Keep h0 h9 [a1] := Kp.wr W9 (Or.inl (List.mem_of_getElem? (i := 0) rfl))
  obtain ⟨fs, hr, hrun, hended, hW, hsame⟩ := X9.leave (v := none) (fun _ => rfl)
  refine ⟨_, _, pre0 _ ?_, hrun, hended, _, _, rfl, ?_, ⟨_, rfl⟩, hW, hsame.mono (by decide) (by decide)⟩
  · show Steps p.tables e below (s₁.setTop (mkF m 0 #[.val (.ref a1), .val (.long q2), .second, .val (.long q3), .second, .val (.long q4), .second, .val (.long q5), .second] [])) _
    refine XS.aloadN X0.here hx rfl (hb hby d2_0) rfl rfl ?_
    show Steps p.tables e below (s₁.setTop (mkF m 1 #[.val (.ref a1), .val (.long q2), .second, .val (.long q3), .second, .val (.long q4), .second, .val (.long q5), .second] [(.ref a1)])) _
    refine st5.trans ?_
    show Steps p.tables e below (T5.setTop (mkF m 4 #[.val (.ref a1), .val (.long q2), .second, .val (.long q3), .second, .val (.long q4), .second, .val (.long q5), .second] [])) _
    refine XS.lloadN X5.here hx rfl (hb hby d2_4) rfl ?_
    show Steps p.tables e below (T5.setTop (mkF m 5 #[.val (.ref a1), .val (.long q2), .second, .val (.long q3), .second, .val (.long q4), .second, .val (.long q5), .second] [(.long q2)])) _
    refine XS.lconst X5.here hx rfl (hb hby d2_5) ?_
    show Steps p.tables e below (T5.setTop (mkF m 6 #[.val (.ref a1), .val (.long q2), .second, .val (.long q3), .second, .val (.long q4), .second, .val (.long q5), .second] [(.long (1 : Int64)), (.long q2)])) _
    refine XS.lcmp X5.here hx rfl (hb hby d2_6) rfl ?_
    show Steps p.tables e below (T5.setTop (mkF m 7 #[.val (.ref a1), .val (.long q2), .second, .val (.long q3), .second, .val (.long q4), .second, .val (.long q5), .second] [(.int (lcmpW q2 (1 : Int64)))])) _
    refine XS.ifNo X5.here hx rfl (hb hby d2_7) rfl ((if0 _ _).trans (flt (fun q => hp2 ((lw_lt q2 (1 : Int64)).mp q))).1) ?_
    show Steps p.tables e below (T5.setTop (mkF m 10 #[.val (.ref a1), .val (.long q2), .second, .val (.long q3), .second, .val (.long q4), .second, .val (.long q5), .second] [])) _
    refine XS.lloadN X5.here hx rfl (hb hby d2_10) rfl ?_
    show Steps p.tables e below (T5.setTop (mkF m 11 #[.val (.ref a1), .val (.long q2), .second, .val (.long q3), .second, .val (.long q4), .second, .val (.long q5), .second] [(.long q3)])) _
    refine XS.lconst X5.here hx rfl (hb hby d2_11) ?_
    show Steps p.tables e below (T5.setTop (mkF m 12 #[.val (.ref a1), .val (.long q2), .second, .val (.long q3), .second, .val (.long q4), .second, .val (.long q5), .second] [(.long (1 : Int64)), (.long q3)])) _
    refine XS.lcmp X5.here hx rfl (hb hby d2_12) rfl ?_
    show Steps p.tables e below (T5.setTop (mkF m 13 #[.val (.ref a1), .val (.long q2), .second, .val (.long q3), .second, .val (.long q4), .second, .val (.long q5), .second] [(.int (lcmpW q3 (1 : Int64)))])) _
    refine XS.ifYes X5.here hx rfl (pc0 := 13) (pc' := 31) rfl (hb hby d2_13) rfl ((if0 _ _).trans (flt (fun q => hp3 ((lw_lt q3 (1 : Int64)).mp q))).2.1) (by decide) (by decide) ?_
    show Steps p.tables e below (T5.setTop (mkF m 31 #[.val (.ref a1), .val (.long q2), .second, .val (.long q3), .second, .val (.long q4), .second, .val (.long q5), .second] [])) _
    refine XS.lload X5.here hx rfl (hb hby d2_31) rfl ?_
    show Steps p.tables e below (T5.setTop (mkF m 33 #[.val (.ref a1), .val (.long q2), .second, .val (.long q3), .second, .val (.long q4), .second, .val (.long q5), .second] [(.long q4)])) _
    refine XS.lconst X5.here hx rfl (hb hby d2_33) ?_
    show Steps p.tables e below (T5.setTop (mkF m 34 #[.val (.ref a1), .val (.long q2), .second, .val (.long q3), .second, .val (.long q4), .second, .val (.long q5), .second] [(.long (1 : Int64)), (.long q4)])) _
    refine XS.lcmp X5.here hx rfl (hb hby d2_34) rfl ?_
    show Steps p.tables e below (T5.setTop (mkF m 35 #[.val (.ref a1), .val (.long q2), .second, .val (.long q3), .second, .val (.long q4), .second, .val (.long q5), .second] [(.int (lcmpW q4 (1 : Int64)))])) _
    refine XS.ifNo X5.here hx rfl (hb hby d2_35) rfl ((if0 _ _).trans (flt (fun q => hp4 ((lw_lt q4 (1 : Int64)).mp q))).1) ?_
    show Steps p.tables e below (T5.setTop (mkF m 38 #[.val (.ref a1), .val (.long q2), .second, .val (.long q3), .second, .val (.long q4), .second, .val (.long q5), .second] [])) _
    refine XS.lload X5.here hx rfl (hb hby d2_38) rfl ?_
    show Steps p.tables e below (T5.setTop (mkF m 40 #[.val (.ref a1), .val (.long q2), .second, .val (.long q3), .second, .val (.long q4), .second, .val (.long q5), .second] [(.long q5)])) _
    refine XS.lconst X5.here hx rfl (hb hby d2_40) ?_
    show Steps p.tables e below (T5.setTop (mkF m 41 #[.val (.ref a1), .val (.long q2), .second, .val (.long q3), .second, .val (.long q4), .second, .val (.long q5), .second] [(.long (1 : Int64)), (.long q5)])) _
    refine XS.lcmp X5.here hx rfl (hb hby d2_41) rfl ?_
    show Steps p.tables e below (T5.setTop (mkF m 42 #[.val (.ref a1), .val (.long q2), .second, .val (.long q3), .second, .val (.long q4), .second, .val (.long q5), .second] [(.int (lcmpW q5 (1 : Int64)))])) _
    refine XS.ifYes X5.here hx rfl (pc0 := 42) (pc' := 62) rfl (hb hby d2_42) rfl ((if0 _ _).trans (flt (fun q => hp5 ((lw_lt q5 (1 : Int64)).mp q))).2.1) (by decide) (by decide) ?_
    show Steps p.tables e below (T5.setTop (mkF m 62 #[.val (.ref a1), .val (.long q2), .second, .val (.long q3), .second, .val (.long q4), .second, .val (.long q5), .second] [])) _
    refine XS.aloadN X5.here hx rfl (hb hby d2_62) rfl rfl ?_
    show Steps p.tables e below (T5.setTop (mkF m 63 #[.val (.ref a1), .val (.long q2), .second, .val (.long q3), .second, .val (.long q4), .second, .val (.long q5), .second] [(.ref a1)])) _
    refine XS.lloadN X5.here hx rfl (hb hby d2_63) rfl ?_
    show Steps p.tables e below (T5.setTop (mkF m 64 #[.val (.ref a1), .val (.long q2), .second, .val (.long q3), .second, .val (.long q4), .second, .val (.long q5), .second] [(.long q2), (.ref a1)])) _
    refine st6 _ ?_
    show Steps p.tables e below (T6.setTop (mkF m 67 #[.val (.ref a1), .val (.long q2), .second, .val (.long q3), .second, .val (.long q4), .second, .val (.long q5), .second] [])) _
    refine XS.aloadN X6.here hx rfl (hb hby d2_67) rfl rfl ?_
    show Steps p.tables e below (T6.setTop (mkF m 68 #[.val (.ref a1), .val (.long q2), .second, .val (.long q3), .second, .val (.long q4), .second, .val (.long q5), .second] [(.ref a1)])) _
    refine XS.lloadN X6.here hx rfl (hb hby d2_68) rfl ?_
    show Steps p.tables e below (T6.setTop (mkF m 69 #[.val (.ref a1), .val (.long q2), .second, .val (.long q3), .second, .val (.long q4), .second, .val (.long q5), .second] [(.long q3), (.ref a1)])) _
    refine st7 _ ?_
    show Steps p.tables e below (T7.setTop (mkF m 72 #[.val (.ref a1), .val (.long q2), .second, .val (.long q3), .second, .val (.long q4), .second, .val (.long q5), .second] [])) _
    refine XS.aloadN X7.here hx rfl (hb hby d2_72) rfl rfl ?_
    show Steps p.tables e below (T7.setTop (mkF m 73 #[.val (.ref a1), .val (.long q2), .second, .val (.long q3), .second, .val (.long q4), .second, .val (.long q5), .second] [(.ref a1)])) _
    refine XS.lload X7.here hx rfl (hb hby d2_73) rfl ?_
    show Steps p.tables e below (T7.setTop (mkF m 75 #[.val (.ref a1), .val (.long q2), .second, .val (.long q3), .second, .val (.long q4), .second, .val (.long q5), .second] [(.long q4), (.ref a1)])) _
    refine st8 _ ?_
    show Steps p.tables e below (T8.setTop (mkF m 78 #[.val (.ref a1), .val (.long q2), .second, .val (.long q3), .second, .val (.long q4), .second, .val (.long q5), .second] [])) _
    refine XS.aloadN X8.here hx rfl (hb hby d2_78) rfl rfl ?_
    show Steps p.tables e below (T8.setTop (mkF m 79 #[.val (.ref a1), .val (.long q2), .second, .val (.long q3), .second, .val (.long q4), .second, .val (.long q5), .second] [(.ref a1)])) _
    refine XS.lload X8.here hx rfl (hb hby d2_79) rfl ?_
    show Steps p.tables e below (T8.setTop (mkF m 81 #[.val (.ref a1), .val (.long q2), .second, .val (.long q3), .second, .val (.long q4), .second, .val (.long q5), .second] [(.long q5), (.ref a1)])) _
    refine st9 _ ?_
    show Steps p.tables e below (T9.setTop (mkF m 84 #[.val (.ref a1), .val (.long q2), .second, .val (.long q3), .second, .val (.long q4), .second, .val (.long q5), .second] [])) _
    exact X9.returnOut hx Bd.returns (hb hby d2_84) hr
  · show Q2 Z a1 q2 q3 q4 q5 u1 u2 u3 u4 h0 n0 _ T9.heap _
    rw [e9]
    exact ⟨rfl, N9, Kp, E_a1, F_listLimit_a1, F_chainLimit_a1⟩
def Q5 (Z : State) (a1 : Addr) (q2 : Int64) (q3 : Int64) (q4 : Int64) (w1 : Int64) (w2 : Int64) (h0 : Heap) (n0 : Nat) (v : Option Value) (h : Heap) (L : List Loc) : Prop := v = some (.int (f5 q2 q3 q4 w1 w2)) ∧ Fr n0 L ∧ h = h0
theorem ef_5 (m : MethodId) (a1 : Addr) (q2 : Int64) (q3 : Int64) (q4 : Int64) : entryFrame m #[(.ref a1), (.long q2), (.long q3), (.long q4)] 7 = mkF m 0 #[.val (.ref a1), .val (.long q2), .second, .val (.long q3), .second, .val (.long q4), .second] [] := by first | (simp [entryFrame, mkF, argsToLocals, Value.category]; done) | rfl
set_option maxRecDepth 65536 in
set_option maxHeartbeats 40000000 in
theorem rm5 (l : Launch) (Z : State) (a0 : Array Value) (hw : ∀ d ∈ tables_1, d.before a0 Z = true) (ws : List Jvm.Cond) (a1 : Addr) (q2 : Int64) (q3 : Int64) (q4 : Int64) (w1 : Int64) (w2 : Int64) (h0 : Heap) (n0 : Nat) (Zs : n0 ≤ h0.size) (F_listLimit_a1 : Fld Z h0 a1 "com/example/verschil/verschil/repository/RetentionSimulator$ClientGroup" "listLimit" "J" (.long w1)) (F_chainLimit_a1 : Fld Z h0 a1 "com/example/verschil/verschil/repository/RetentionSimulator$ClientGroup" "chainLimit" "J" (.long w2)) :
    MetFree l (⟨"com/example/verschil/verschil/repository/RetentionSimulator$ClientGroup", "followsDeltas", "(JJJ)Z"⟩ : MethodName) (head1 (Jvm.Cond.code (⟨"com/example/verschil/verschil/repository/RetentionSimulator$ClientGroup", "followsDeltas", "(JJJ)Z"⟩ : MethodName) prog_54_method_3_code 7 (some .boolean) :: ws) ({ frames := 1, cells := 0, slots := 0, locals := 17 } : Room)) (fun a U => a = #[(.ref a1), (.long q2), (.long q3), (.long q4)] ∧ Z.Warmed39 U.vm ∧ U.heap = h0) (fun _ _ _ _ _ => True) (fun _ U o U' => ∃ v L, o = .returned v ∧ Q5 Z a1 q2 q3 q4 w1 w2 h0 n0 v U'.heap L ∧ FrameEnd U o U' L ({ frames := 1, cells := 0, slots := 0, locals := 17 } : Room).cells ({ frames := 1, cells := 0, slots := 0, locals := 17 } : Room).slots) := by
  refine MetFree.of_bodySF (plainFor_of_name pn_3) hisR ?_
  intro p e s m args below meth c s₁ Bd hml0 hP hK
  obtain ⟨rfl, hZ, hh⟩ := hP
  have hx := Bd.exec
  have hby := Bd.bytes
  have hml : c.maxLocals = 7 := hml0
  have hown : s.vm.findClass "com/example/verschil/verschil/repository/RetentionSimulator$ClientGroup" = some m.cls := findClass_of_methodNamed Bd.named
  have hnm := (name_of_methodNamed Bd.named Bd.method).1
  have X0 : Stand p l e ({ frames := 1, cells := 0, slots := 0, locals := 17 } : Room) s m #[(.ref a1), (.long q2), (.long q3), (.long q4)] below meth c s₁ [] 0 0 := Stand.of_body Bd
  have e0 : s₁.heap = h0 := by rw [← hh, Bd.state]; rfl
  have N0 := Fr.nil n0
  have pre0 : ∀ t, Steps p.tables e below (s₁.setTop (mkF m 0 #[.val (.ref a1), .val (.long q2), .second, .val (.long q3), .second, .val (.long q4), .second] [])) t → Steps p.tables e below (s₁.setTop (entryFrame m #[(.ref a1), (.long q2), (.long q3), (.long q4)] 7)) t := fun t k => castTop (ef_5 m a1 q2 q3 q4) k
  obtain ⟨T10, X10, e10, st10⟩ := getF X0 hx hZ hown (host := "") (Or.inl (hw _ (List.mem_of_getElem? (i := 23) rfl))) Via.refl e0 F_listLimit_a1 (g := (mkF m 3 #[.val (.ref a1), .val (.long q2), .second, .val (.long q3), .second, .val (.long q4), .second] [(.ref a1), (.long q4)])) rfl rfl (hb hby d5_3)
  have pre11 : ∀ t, Steps p.tables e below (T10.setTop (mkF m 7 #[.val (.ref a1), .val (.long q2), .second, .val (.long q3), .second, .val (.long q4), .second] [(.int (lcmpW q4 w1))])) t → Steps p.tables e below (s₁.setTop (entryFrame m #[(.ref a1), (.long q2), (.long q3), (.long q4)] 7)) t := fun t k => pre0 t (by
    show Steps p.tables e below (s₁.setTop (mkF m 0 #[.val (.ref a1), .val (.long q2), .second, .val (.long q3), .second, .val (.long q4), .second] [])) _
    refine XS.lload X0.here hx rfl (hb hby d5_0) rfl ?_
    show Steps p.tables e below (s₁.setTop (mkF m 2 #[.val (.ref a1), .val (.long q2), .second, .val (.long q3), .second, .val (.long q4), .second] [(.long q4)])) _
    refine XS.aloadN X0.here hx rfl (hb hby d5_2) rfl rfl ?_
    show Steps p.tables e below (s₁.setTop (mkF m 3 #[.val (.ref a1), .val (.long q2), .second, .val (.long q3), .second, .val (.long q4), .second] [(.ref a1), (.long q4)])) _
    refine st10 _ ?_
    show Steps p.tables e below (T10.setTop (mkF m 6 #[.val (.ref a1), .val (.long q2), .second, .val (.long q3), .second, .val (.long q4), .second] [(.long w1), (.long q4)])) _
    refine XS.lcmp X10.here hx rfl (hb hby d5_6) rfl ?_
    exact k)
  by_cases hc7 : w1 < q4
  ·
    obtain ⟨fs, hr, hrun, hended, hW, hsame⟩ := X10.leave (v := some (.int (0 : Int32))) (fun h => by rw [Bd.returns] at h; cases h)
    refine ⟨_, _, pre11 _ ?_, hrun, hended, _, _, rfl, ?_, ⟨_, rfl⟩, hW, hsame.mono (by decide) (by decide)⟩
    · show Steps p.tables e below (T10.setTop (mkF m 7 #[.val (.ref a1), .val (.long q2), .second, .val (.long q3), .second, .val (.long q4), .second] [(.int (lcmpW q4 w1))])) _
      refine XS.ifYes X10.here hx rfl (pc0 := 7) (pc' := 35) rfl (hb hby d5_7) rfl ((if0 _ _).trans (tlt ((lw_gt q4 w1).mpr hc7)).2.2.1) (by decide) (by decide) ?_
      show Steps p.tables e below (T10.setTop (mkF m 35 #[.val (.ref a1), .val (.long q2), .second, .val (.long q3), .second, .val (.long q4), .second] [])) _
      refine XS.iconst X10.here hx rfl (hb hby d5_35) ?_
      show Steps p.tables e below (T10.setTop (mkF m 36 #[.val (.ref a1), .val (.long q2), .second, .val (.long q3), .second, .val (.long q4), .second] [(.int (0 : Int32))])) _
      exact retN X10 hx (t := .boolean) Bd.returns (by simp) (hb hby d5_36) hr
    · show Q5 Z a1 q2 q3 q4 w1 w2 h0 n0 _ T10.heap _
      rw [e10]
      exact ⟨congrArg some (congrArg Value.int (show (0 : Int32) = (f5 q2 q3 q4 w1 w2) from by rw [f5, if_pos hc7])), N0, rfl⟩
  ·
    obtain ⟨T12, X12, e12, st12⟩ := getF X10 hx hZ hown (host := "") (Or.inl (hw _ (List.mem_of_getElem? (i := 25) rfl))) Via.refl e10 F_chainLimit_a1 (g := (mkF m 14 #[.val (.ref a1), .val (.long q2), .second, .val (.long q3), .second, .val (.long q4), .second] [(.ref a1), (.long (q3 - q2))])) rfl rfl (hb hby d5_14)
    have pre13 : ∀ t, Steps p.tables e below (T12.setTop (mkF m 18 #[.val (.ref a1), .val (.long q2), .second, .val (.long q3), .second, .val (.long q4), .second] [(.int (lcmpW (q3 - q2) w2))])) t → Steps p.tables e below (s₁.setTop (entryFrame m #[(.ref a1), (.long q2), (.long q3), (.long q4)] 7)) t := fun t k => pre11 t (by
      show Steps p.tables e below (T10.setTop (mkF m 7 #[.val (.ref a1), .val (.long q2), .second, .val (.long q3), .second, .val (.long q4), .second] [(.int (lcmpW q4 w1))])) _
      refine XS.ifNo X10.here hx rfl (hb hby d5_7) rfl ((if0 _ _).trans (flt (fun q => hc7 ((lw_gt q4 w1).mp q))).2.2.1) ?_
      show Steps p.tables e below (T10.setTop (mkF m 10 #[.val (.ref a1), .val (.long q2), .second, .val (.long q3), .second, .val (.long q4), .second] [])) _
      refine XS.lloadN X10.here hx rfl (hb hby d5_10) rfl ?_
      show Steps p.tables e below (T10.setTop (mkF m 11 #[.val (.ref a1), .val (.long q2), .second, .val (.long q3), .second, .val (.long q4), .second] [(.long q3)])) _
      refine XS.lloadN X10.here hx rfl (hb hby d5_11) rfl ?_
      show Steps p.tables e below (T10.setTop (mkF m 12 #[.val (.ref a1), .val (.long q2), .second, .val (.long q3), .second, .val (.long q4), .second] [(.long q2), (.long q3)])) _
      refine XS.lsub X10.here hx rfl (hb hby d5_12) rfl ?_
      show Steps p.tables e below (T10.setTop (mkF m 13 #[.val (.ref a1), .val (.long q2), .second, .val (.long q3), .second, .val (.long q4), .second] [(.long (q3 - q2))])) _
      refine XS.aloadN X10.here hx rfl (hb hby d5_13) rfl rfl ?_
      show Steps p.tables e below (T10.setTop (mkF m 14 #[.val (.ref a1), .val (.long q2), .second, .val (.long q3), .second, .val (.long q4), .second] [(.ref a1), (.long (q3 - q2))])) _
      refine st12 _ ?_
      show Steps p.tables e below (T12.setTop (mkF m 17 #[.val (.ref a1), .val (.long q2), .second, .val (.long q3), .second, .val (.long q4), .second] [(.long w2), (.long (q3 - q2))])) _
      refine XS.lcmp X12.here hx rfl (hb hby d5_17) rfl ?_
      exact k)
    by_cases hc18 : w2 < (q3 - q2)
    ·
      obtain ⟨fs, hr, hrun, hended, hW, hsame⟩ := X12.leave (v := some (.int (0 : Int32))) (fun h => by rw [Bd.returns] at h; cases h)
      refine ⟨_, _, pre13 _ ?_, hrun, hended, _, _, rfl, ?_, ⟨_, rfl⟩, hW, hsame.mono (by decide) (by decide)⟩
      · show Steps p.tables e below (T12.setTop (mkF m 18 #[.val (.ref a1), .val (.long q2), .second, .val (.long q3), .second, .val (.long q4), .second] [(.int (lcmpW (q3 - q2) w2))])) _
        refine XS.ifYes X12.here hx rfl (pc0 := 18) (pc' := 35) rfl (hb hby d5_18) rfl ((if0 _ _).trans (tlt ((lw_gt (q3 - q2) w2).mpr hc18)).2.2.1) (by decide) (by decide) ?_
        show Steps p.tables e below (T12.setTop (mkF m 35 #[.val (.ref a1), .val (.long q2), .second, .val (.long q3), .second, .val (.long q4), .second] [])) _
        refine XS.iconst X12.here hx rfl (hb hby d5_35) ?_
        show Steps p.tables e below (T12.setTop (mkF m 36 #[.val (.ref a1), .val (.long q2), .second, .val (.long q3), .second, .val (.long q4), .second] [(.int (0 : Int32))])) _
        exact retN X12 hx (t := .boolean) Bd.returns (by simp) (hb hby d5_36) hr
      · show Q5 Z a1 q2 q3 q4 w1 w2 h0 n0 _ T12.heap _
        rw [e12]
        exact ⟨congrArg some (congrArg Value.int (show (0 : Int32) = (f5 q2 q3 q4 w1 w2) from by rw [f5, if_neg hc7, if_pos hc18])), N0, rfl⟩
    ·
      obtain ⟨_, _, ⟨T14, L14, k14, n14⟩, -, X14, ⟨Lc14, hQ14, l14, y14, z14⟩, st14⟩ := Jvm.LawKit.callS X12 hx (y := (⟨"com/example/verschil/verschil/repository/RetentionPolicy", "reachedByDeltas", "(JJJ)Z"⟩ : MethodName)) hown (mvT hZ (hw _ (List.mem_of_getElem? (i := 36) rfl))) (mvT hZ (hw _ (List.mem_of_getElem? (i := 37) rfl))) (mvT hZ (hw _ (List.mem_of_getElem? (i := 38) rfl))) (mvT hZ (hw _ (List.mem_of_getElem? (i := 39) rfl))) (by decide) (backOf (W := 0) (rm7 l Z a0 hw [] q2 q3 q4 h0 n0 Zs ) hZ (hw _ (List.mem_of_getElem? (i := 39) rfl)) (hw _ (List.mem_of_getElem? (i := 38) rfl)) (by decide) (by decide)) (g := (mkF m 25 #[.val (.ref a1), .val (.long q2), .second, .val (.long q3), .second, .val (.long q4), .second] [(.long q4), (.long q3), (.long q2)])) rfl (by rw [hml]; rfl) (argsL := [(.long q2), (.long q3), (.long q4)]) (rest := []) (lenOf pd_1 rfl) rfl (by show 2 * 0 + _ ≤ _; exact Nat.le_of_eq rfl) (hb hby d5_25) (fun _ _ => ⟨rfl, e12, (by decide : 0 + 0 ≤ _), (by decide : 0 + 0 ≤ _)⟩)
      dsimp only [Pt.U, Pt.locs, Pt.cells, Pt.slots] at X14 l14 y14 z14 st14 hQ14
      subst l14 y14 z14
      obtain ⟨rfl, N14q, e14⟩ := hQ14
      have N14 := Fr.app N0 N14q
      have pre15 : ∀ t, Steps p.tables e below (T14.setTop (mkF m 28 #[.val (.ref a1), .val (.long q2), .second, .val (.long q3), .second, .val (.long q4), .second] [(.int (f7 q2 q3 q4))])) t → Steps p.tables e below (s₁.setTop (entryFrame m #[(.ref a1), (.long q2), (.long q3), (.long q4)] 7)) t := fun t k => pre13 t (by
        show Steps p.tables e below (T12.setTop (mkF m 18 #[.val (.ref a1), .val (.long q2), .second, .val (.long q3), .second, .val (.long q4), .second] [(.int (lcmpW (q3 - q2) w2))])) _
        refine XS.ifNo X12.here hx rfl (hb hby d5_18) rfl ((if0 _ _).trans (flt (fun q => hc18 ((lw_gt (q3 - q2) w2).mp q))).2.2.1) ?_
        show Steps p.tables e below (T12.setTop (mkF m 21 #[.val (.ref a1), .val (.long q2), .second, .val (.long q3), .second, .val (.long q4), .second] [])) _
        refine XS.lloadN X12.here hx rfl (hb hby d5_21) rfl ?_
        show Steps p.tables e below (T12.setTop (mkF m 22 #[.val (.ref a1), .val (.long q2), .second, .val (.long q3), .second, .val (.long q4), .second] [(.long q2)])) _
        refine XS.lloadN X12.here hx rfl (hb hby d5_22) rfl ?_
        show Steps p.tables e below (T12.setTop (mkF m 23 #[.val (.ref a1), .val (.long q2), .second, .val (.long q3), .second, .val (.long q4), .second] [(.long q3), (.long q2)])) _
        refine XS.lload X12.here hx rfl (hb hby d5_23) rfl ?_
        show Steps p.tables e below (T12.setTop (mkF m 25 #[.val (.ref a1), .val (.long q2), .second, .val (.long q3), .second, .val (.long q4), .second] [(.long q4), (.long q3), (.long q2)])) _
        refine st14 _ ?_
        exact k)
      by_cases hc28 : (f7 q2 q3 q4) = (0 : Int32)
      ·
        obtain ⟨fs, hr, hrun, hended, hW, hsame⟩ := X14.leave (v := some (.int (0 : Int32))) (fun h => by rw [Bd.returns] at h; cases h)
        refine ⟨_, _, pre15 _ ?_, hrun, hended, _, _, rfl, ?_, ⟨_, rfl⟩, hW, hsame.mono (by decide) (by decide)⟩
        · show Steps p.tables e below (T14.setTop (mkF m 28 #[.val (.ref a1), .val (.long q2), .second, .val (.long q3), .second, .val (.long q4), .second] [(.int (f7 q2 q3 q4))])) _
          refine XS.ifYes X14.here hx rfl (pc0 := 28) (pc' := 35) rfl (hb hby d5_28) rfl ((if0 _ _).trans (teq hc28).1) (by decide) (by decide) ?_
          show Steps p.tables e below (T14.setTop (mkF m 35 #[.val (.ref a1), .val (.long q2), .second, .val (.long q3), .second, .val (.long q4), .second] [])) _
          refine XS.iconst X14.here hx rfl (hb hby d5_35) ?_
          show Steps p.tables e below (T14.setTop (mkF m 36 #[.val (.ref a1), .val (.long q2), .second, .val (.long q3), .second, .val (.long q4), .second] [(.int (0 : Int32))])) _
          exact retN X14 hx (t := .boolean) Bd.returns (by simp) (hb hby d5_36) hr
        · show Q5 Z a1 q2 q3 q4 w1 w2 h0 n0 _ T14.heap _
          rw [e14]
          exact ⟨congrArg some (congrArg Value.int (show (0 : Int32) = (f5 q2 q3 q4 w1 w2) from by rw [f5, if_neg hc7, if_neg hc18, if_pos hc28])), N14, rfl⟩
      ·
        obtain ⟨fs, hr, hrun, hended, hW, hsame⟩ := X14.leave (v := some (.int (1 : Int32))) (fun h => by rw [Bd.returns] at h; cases h)
        refine ⟨_, _, pre15 _ ?_, hrun, hended, _, _, rfl, ?_, ⟨_, rfl⟩, hW, hsame.mono (by decide) (by decide)⟩
        · show Steps p.tables e below (T14.setTop (mkF m 28 #[.val (.ref a1), .val (.long q2), .second, .val (.long q3), .second, .val (.long q4), .second] [(.int (f7 q2 q3 q4))])) _
          refine XS.ifNo X14.here hx rfl (hb hby d5_28) rfl ((if0 _ _).trans (feq hc28).1) ?_
          show Steps p.tables e below (T14.setTop (mkF m 31 #[.val (.ref a1), .val (.long q2), .second, .val (.long q3), .second, .val (.long q4), .second] [])) _
          refine XS.iconst X14.here hx rfl (hb hby d5_31) ?_
          show Steps p.tables e below (T14.setTop (mkF m 32 #[.val (.ref a1), .val (.long q2), .second, .val (.long q3), .second, .val (.long q4), .second] [(.int (1 : Int32))])) _
          refine XS.goto X14.here hx rfl (pc0 := 32) (pc' := 36) rfl (hb hby d5_32) (by decide) (by decide) ?_
          show Steps p.tables e below (T14.setTop (mkF m 36 #[.val (.ref a1), .val (.long q2), .second, .val (.long q3), .second, .val (.long q4), .second] [(.int (1 : Int32))])) _
          exact retN X14 hx (t := .boolean) Bd.returns (by simp) (hb hby d5_36) hr
        · show Q5 Z a1 q2 q3 q4 w1 w2 h0 n0 _ T14.heap _
          rw [e14]
          exact ⟨congrArg some (congrArg Value.int (show (1 : Int32) = (f5 q2 q3 q4 w1 w2) from by rw [f5, if_neg hc7, if_neg hc18, if_neg hc28])), N14, rfl⟩
def Q0 (Z : State) (q1 : Int64) (q2 : Int64) (q3 : Int64) (q4 : Int64) (q5 : Int64) (q6 : Int64) (h0 : Heap) (n0 : Nat) (v : Option Value) (h : Heap) (L : List Loc) : Prop := v = some (.int (1 : Int32)) ∧ Fr n0 L
theorem ef_0 (m : MethodId) (q1 : Int64) (q2 : Int64) (q3 : Int64) (q4 : Int64) (q5 : Int64) (q6 : Int64) : entryFrame m #[(.long q1), (.long q2), (.long q3), (.long q4), (.long q5), (.long q6)] maxLocals = mkF m 0 #[.val (.long q1), .second, .val (.long q2), .second, .val (.long q3), .second, .val (.long q4), .second, .val (.long q5), .second, .val (.long q6), .second, .unset, .unset, .unset, .unset, .unset, .unset, .unset, .unset, .unset, .unset, .unset, .unset, .unset, .unset, .unset, .unset, .unset, .unset, .unset] [] := by first | (simp [entryFrame, mkF, argsToLocals, Value.category, maxLocals]; done) | rfl
set_option maxRecDepth 65536 in
set_option maxHeartbeats 40000000 in
theorem rm0 (l : Launch) (Z : State) (a0 : Array Value) (hw : ∀ d ∈ tables_1, d.before a0 Z = true) (ws : List Jvm.Cond) (q1 : Int64) (q2 : Int64) (q3 : Int64) (q4 : Int64) (q5 : Int64) (q6 : Int64) (h0 : Heap) (n0 : Nat) (Zs : n0 ≤ h0.size)  :
    MetFree l x (head1 (Jvm.Cond.code x code maxLocals ret :: ws) room_1) (fun a U => a = #[(.long q1), (.long q2), (.long q3), (.long q4), (.long q5), (.long q6)] ∧ Z.Warmed39 U.vm ∧ U.heap = h0) (fun _ _ _ _ _ => True) (fun _ U o U' => ∃ v L, o = .returned v ∧ Q0 Z q1 q2 q3 q4 q5 q6 h0 n0 v U'.heap L ∧ FrameEnd U o U' L room_1.cells room_1.slots) := by
  refine MetFree.of_bodySF (plainFor_of_name pn_0) hisR ?_
  intro p e s m args below meth c s₁ Bd hml0 hP hK
  obtain ⟨rfl, hZ, hh⟩ := hP
  have hx := Bd.exec
  have hby := Bd.bytes
  have hml : c.maxLocals = 31 := hml0
  have hown : s.vm.findClass "com/example/verschil/verschil/repository/ClientGroupFollowsDeltasPinLaw" = some m.cls := findClass_of_methodNamed Bd.named
  have hnm := (name_of_methodNamed Bd.named Bd.method).1
  have X0 : Stand p l e room_1 s m #[(.long q1), (.long q2), (.long q3), (.long q4), (.long q5), (.long q6)] below meth c s₁ [] 0 0 := Stand.of_body Bd
  have e0 : s₁.heap = h0 := by rw [← hh, Bd.state]; rfl
  have N0 := Fr.nil n0
  have pre0 : ∀ t, Steps p.tables e below (s₁.setTop (mkF m 0 #[.val (.long q1), .second, .val (.long q2), .second, .val (.long q3), .second, .val (.long q4), .second, .val (.long q5), .second, .val (.long q6), .second, .unset, .unset, .unset, .unset, .unset, .unset, .unset, .unset, .unset, .unset, .unset, .unset, .unset, .unset, .unset, .unset, .unset, .unset, .unset] [])) t → Steps p.tables e below (s₁.setTop (entryFrame m #[(.long q1), (.long q2), (.long q3), (.long q4), (.long q5), (.long q6)] maxLocals)) t := fun t k => castTop (ef_0 m q1 q2 q3 q4 q5 q6) k
  obtain ⟨_, _, ⟨T16, L16, k16, n16⟩, -, X16, ⟨Lc16, hQ16, l16, y16, z16⟩, st16⟩ := Jvm.LawKit.callS X0 hx (y := (⟨"com/example/verschil/verschil/repository/ClientGroupFollowsDeltasPinLaw", "pos", "(J)J"⟩ : MethodName)) hown (mvT hZ (hw _ (List.mem_of_getElem? (i := 0) rfl))) (mvT hZ (hw _ (List.mem_of_getElem? (i := 1) rfl))) (mvT hZ (hw _ (List.mem_of_getElem? (i := 2) rfl))) (mvT hZ (hw _ (List.mem_of_getElem? (i := 3) rfl))) (by decide) (backOf (W := 0) (rm1 l Z a0 hw [] q1 h0 n0 Zs ) hZ (hw _ (List.mem_of_getElem? (i := 3) rfl)) (hw _ (List.mem_of_getElem? (i := 2) rfl)) (by decide) (by decide)) (g := (mkF m 1 #[.val (.long q1), .second, .val (.long q2), .second, .val (.long q3), .second, .val (.long q4), .second, .val (.long q5), .second, .val (.long q6), .second, .unset, .unset, .unset, .unset, .unset, .unset, .unset, .unset, .unset, .unset, .unset, .unset, .unset, .unset, .unset, .unset, .unset, .unset, .unset] [(.long q1)])) rfl (by rw [hml]; rfl) (argsL := [(.long q1)]) (rest := []) (lenOf pd_2 rfl) rfl (by show 2 * 0 + _ ≤ _; exact Nat.le_of_eq rfl) (hb hby at_1) (fun _ _ => ⟨rfl, e0, (by decide : 0 + 0 ≤ _), (by decide : 0 + 0 ≤ _)⟩)
  dsimp only [Pt.U, Pt.locs, Pt.cells, Pt.slots] at X16 l16 y16 z16 st16 hQ16
  subst l16 y16 z16
  obtain ⟨rfl, N16q, e16⟩ := hQ16
  have N16 := Fr.app N0 N16q
  obtain ⟨v4, hv4⟩ : ∃ z : Int64, z = (f1 q1) := ⟨_, rfl⟩
  have pre17 : ∀ t, Steps p.tables e below (T16.setTop (mkF m 6 #[.val (.long q1), .second, .val (.long q2), .second, .val (.long q3), .second, .val (.long q4), .second, .val (.long q5), .second, .val (.long q6), .second, .val (.long v4), .second, .unset, .unset, .unset, .unset, .unset, .unset, .unset, .unset, .unset, .unset, .unset, .unset, .unset, .unset, .unset, .unset, .unset] [])) t → Steps p.tables e below (s₁.setTop (entryFrame m #[(.long q1), (.long q2), (.long q3), (.long q4), (.long q5), (.long q6)] maxLocals)) t := fun t k => pre0 t (by
    show Steps p.tables e below (s₁.setTop (mkF m 0 #[.val (.long q1), .second, .val (.long q2), .second, .val (.long q3), .second, .val (.long q4), .second, .val (.long q5), .second, .val (.long q6), .second, .unset, .unset, .unset, .unset, .unset, .unset, .unset, .unset, .unset, .unset, .unset, .unset, .unset, .unset, .unset, .unset, .unset, .unset, .unset] [])) _
    refine XS.lloadN X0.here hx rfl (hb hby at_0) rfl ?_
    show Steps p.tables e below (s₁.setTop (mkF m 1 #[.val (.long q1), .second, .val (.long q2), .second, .val (.long q3), .second, .val (.long q4), .second, .val (.long q5), .second, .val (.long q6), .second, .unset, .unset, .unset, .unset, .unset, .unset, .unset, .unset, .unset, .unset, .unset, .unset, .unset, .unset, .unset, .unset, .unset, .unset, .unset] [(.long q1)])) _
    refine st16 _ ?_
    show Steps p.tables e below (T16.setTop (mkF m 4 #[.val (.long q1), .second, .val (.long q2), .second, .val (.long q3), .second, .val (.long q4), .second, .val (.long q5), .second, .val (.long q6), .second, .unset, .unset, .unset, .unset, .unset, .unset, .unset, .unset, .unset, .unset, .unset, .unset, .unset, .unset, .unset, .unset, .unset, .unset, .unset] [(.long (f1 q1))])) _
    refine XS.lstore X16.here hx rfl (hb hby at_4) rfl (l' := #[.val (.long q1), .second, .val (.long q2), .second, .val (.long q3), .second, .val (.long q4), .second, .val (.long q5), .second, .val (.long q6), .second, .val (.long (f1 q1)), .second, .unset, .unset, .unset, .unset, .unset, .unset, .unset, .unset, .unset, .unset, .unset, .unset, .unset, .unset, .unset, .unset, .unset]) rfl ?_
    rw [hv4] at k
    exact k)
  obtain ⟨_, _, ⟨T18, L18, k18, n18⟩, -, X18, ⟨Lc18, hQ18, l18, y18, z18⟩, st18⟩ := Jvm.LawKit.callS X16 hx (y := (⟨"com/example/verschil/verschil/repository/ClientGroupFollowsDeltasPinLaw", "pos", "(J)J"⟩ : MethodName)) hown (mvT hZ (hw _ (List.mem_of_getElem? (i := 0) rfl))) (mvT hZ (hw _ (List.mem_of_getElem? (i := 1) rfl))) (mvT hZ (hw _ (List.mem_of_getElem? (i := 2) rfl))) (mvT hZ (hw _ (List.mem_of_getElem? (i := 3) rfl))) (by decide) (backOf (W := 0) (rm1 l Z a0 hw [] q2 h0 n0 Zs ) hZ (hw _ (List.mem_of_getElem? (i := 3) rfl)) (hw _ (List.mem_of_getElem? (i := 2) rfl)) (by decide) (by decide)) (g := (mkF m 7 #[.val (.long q1), .second, .val (.long q2), .second, .val (.long q3), .second, .val (.long q4), .second, .val (.long q5), .second, .val (.long q6), .second, .val (.long v4), .second, .unset, .unset, .unset, .unset, .unset, .unset, .unset, .unset, .unset, .unset, .unset, .unset, .unset, .unset, .unset, .unset, .unset] [(.long q2)])) rfl (by rw [hml]; rfl) (argsL := [(.long q2)]) (rest := []) (lenOf pd_2 rfl) rfl (by show 2 * 0 + _ ≤ _; exact Nat.le_of_eq rfl) (hb hby at_7) (fun _ _ => ⟨rfl, e16, (by decide : 0 + 0 ≤ _), (by decide : 0 + 0 ≤ _)⟩)
  dsimp only [Pt.U, Pt.locs, Pt.cells, Pt.slots] at X18 l18 y18 z18 st18 hQ18
  subst l18 y18 z18
  obtain ⟨rfl, N18q, e18⟩ := hQ18
  have N18 := Fr.app N16 N18q
  obtain ⟨v10, hv10⟩ : ∃ z : Int64, z = (f1 q2) := ⟨_, rfl⟩
  have pre19 : ∀ t, Steps p.tables e below (T18.setTop (mkF m 12 #[.val (.long q1), .second, .val (.long q2), .second, .val (.long q3), .second, .val (.long q4), .second, .val (.long q5), .second, .val (.long q6), .second, .val (.long v4), .second, .val (.long v10), .second, .unset, .unset, .unset, .unset, .unset, .unset, .unset, .unset, .unset, .unset, .unset, .unset, .unset, .unset, .unset] [])) t → Steps p.tables e below (s₁.setTop (entryFrame m #[(.long q1), (.long q2), (.long q3), (.long q4), (.long q5), (.long q6)] maxLocals)) t := fun t k => pre17 t (by
    show Steps p.tables e below (T16.setTop (mkF m 6 #[.val (.long q1), .second, .val (.long q2), .second, .val (.long q3), .second, .val (.long q4), .second, .val (.long q5), .second, .val (.long q6), .second, .val (.long v4), .second, .unset, .unset, .unset, .unset, .unset, .unset, .unset, .unset, .unset, .unset, .unset, .unset, .unset, .unset, .unset, .unset, .unset] [])) _
    refine XS.lloadN X16.here hx rfl (hb hby at_6) rfl ?_
    show Steps p.tables e below (T16.setTop (mkF m 7 #[.val (.long q1), .second, .val (.long q2), .second, .val (.long q3), .second, .val (.long q4), .second, .val (.long q5), .second, .val (.long q6), .second, .val (.long v4), .second, .unset, .unset, .unset, .unset, .unset, .unset, .unset, .unset, .unset, .unset, .unset, .unset, .unset, .unset, .unset, .unset, .unset] [(.long q2)])) _
    refine st18 _ ?_
    show Steps p.tables e below (T18.setTop (mkF m 10 #[.val (.long q1), .second, .val (.long q2), .second, .val (.long q3), .second, .val (.long q4), .second, .val (.long q5), .second, .val (.long q6), .second, .val (.long v4), .second, .unset, .unset, .unset, .unset, .unset, .unset, .unset, .unset, .unset, .unset, .unset, .unset, .unset, .unset, .unset, .unset, .unset] [(.long (f1 q2))])) _
    refine XS.lstore X18.here hx rfl (hb hby at_10) rfl (l' := #[.val (.long q1), .second, .val (.long q2), .second, .val (.long q3), .second, .val (.long q4), .second, .val (.long q5), .second, .val (.long q6), .second, .val (.long v4), .second, .val (.long (f1 q2)), .second, .unset, .unset, .unset, .unset, .unset, .unset, .unset, .unset, .unset, .unset, .unset, .unset, .unset, .unset, .unset]) rfl ?_
    rw [hv10] at k
    exact k)
  obtain ⟨_, _, ⟨T20, L20, k20, n20⟩, -, X20, ⟨Lc20, hQ20, l20, y20, z20⟩, st20⟩ := Jvm.LawKit.callS X18 hx (y := (⟨"com/example/verschil/verschil/repository/ClientGroupFollowsDeltasPinLaw", "pos", "(J)J"⟩ : MethodName)) hown (mvT hZ (hw _ (List.mem_of_getElem? (i := 0) rfl))) (mvT hZ (hw _ (List.mem_of_getElem? (i := 1) rfl))) (mvT hZ (hw _ (List.mem_of_getElem? (i := 2) rfl))) (mvT hZ (hw _ (List.mem_of_getElem? (i := 3) rfl))) (by decide) (backOf (W := 0) (rm1 l Z a0 hw [] q3 h0 n0 Zs ) hZ (hw _ (List.mem_of_getElem? (i := 3) rfl)) (hw _ (List.mem_of_getElem? (i := 2) rfl)) (by decide) (by decide)) (g := (mkF m 14 #[.val (.long q1), .second, .val (.long q2), .second, .val (.long q3), .second, .val (.long q4), .second, .val (.long q5), .second, .val (.long q6), .second, .val (.long v4), .second, .val (.long v10), .second, .unset, .unset, .unset, .unset, .unset, .unset, .unset, .unset, .unset, .unset, .unset, .unset, .unset, .unset, .unset] [(.long q3)])) rfl (by rw [hml]; rfl) (argsL := [(.long q3)]) (rest := []) (lenOf pd_2 rfl) rfl (by show 2 * 0 + _ ≤ _; exact Nat.le_of_eq rfl) (hb hby at_14) (fun _ _ => ⟨rfl, e18, (by decide : 0 + 0 ≤ _), (by decide : 0 + 0 ≤ _)⟩)
  dsimp only [Pt.U, Pt.locs, Pt.cells, Pt.slots] at X20 l20 y20 z20 st20 hQ20
  subst l20 y20 z20
  obtain ⟨rfl, N20q, e20⟩ := hQ20
  have N20 := Fr.app N18 N20q
  obtain ⟨v17, hv17⟩ : ∃ z : Int64, z = (f1 q3) := ⟨_, rfl⟩
  have pre21 : ∀ t, Steps p.tables e below (T20.setTop (mkF m 19 #[.val (.long q1), .second, .val (.long q2), .second, .val (.long q3), .second, .val (.long q4), .second, .val (.long q5), .second, .val (.long q6), .second, .val (.long v4), .second, .val (.long v10), .second, .val (.long v17), .second, .unset, .unset, .unset, .unset, .unset, .unset, .unset, .unset, .unset, .unset, .unset, .unset, .unset] [])) t → Steps p.tables e below (s₁.setTop (entryFrame m #[(.long q1), (.long q2), (.long q3), (.long q4), (.long q5), (.long q6)] maxLocals)) t := fun t k => pre19 t (by
    show Steps p.tables e below (T18.setTop (mkF m 12 #[.val (.long q1), .second, .val (.long q2), .second, .val (.long q3), .second, .val (.long q4), .second, .val (.long q5), .second, .val (.long q6), .second, .val (.long v4), .second, .val (.long v10), .second, .unset, .unset, .unset, .unset, .unset, .unset, .unset, .unset, .unset, .unset, .unset, .unset, .unset, .unset, .unset] [])) _
    refine XS.lload X18.here hx rfl (hb hby at_12) rfl ?_
    show Steps p.tables e below (T18.setTop (mkF m 14 #[.val (.long q1), .second, .val (.long q2), .second, .val (.long q3), .second, .val (.long q4), .second, .val (.long q5), .second, .val (.long q6), .second, .val (.long v4), .second, .val (.long v10), .second, .unset, .unset, .unset, .unset, .unset, .unset, .unset, .unset, .unset, .unset, .unset, .unset, .unset, .unset, .unset] [(.long q3)])) _
    refine st20 _ ?_
    show Steps p.tables e below (T20.setTop (mkF m 17 #[.val (.long q1), .second, .val (.long q2), .second, .val (.long q3), .second, .val (.long q4), .second, .val (.long q5), .second, .val (.long q6), .second, .val (.long v4), .second, .val (.long v10), .second, .unset, .unset, .unset, .unset, .unset, .unset, .unset, .unset, .unset, .unset, .unset, .unset, .unset, .unset, .unset] [(.long (f1 q3))])) _
    refine XS.lstore X20.here hx rfl (hb hby at_17) rfl (l' := #[.val (.long q1), .second, .val (.long q2), .second, .val (.long q3), .second, .val (.long q4), .second, .val (.long q5), .second, .val (.long q6), .second, .val (.long v4), .second, .val (.long v10), .second, .val (.long (f1 q3)), .second, .unset, .unset, .unset, .unset, .unset, .unset, .unset, .unset, .unset, .unset, .unset, .unset, .unset]) rfl ?_
    rw [hv17] at k
    exact k)
  obtain ⟨_, _, ⟨T22, L22, k22, n22⟩, -, X22, ⟨Lc22, hQ22, l22, y22, z22⟩, st22⟩ := Jvm.LawKit.callS X20 hx (y := (⟨"com/example/verschil/verschil/repository/ClientGroupFollowsDeltasPinLaw", "pos", "(J)J"⟩ : MethodName)) hown (mvT hZ (hw _ (List.mem_of_getElem? (i := 0) rfl))) (mvT hZ (hw _ (List.mem_of_getElem? (i := 1) rfl))) (mvT hZ (hw _ (List.mem_of_getElem? (i := 2) rfl))) (mvT hZ (hw _ (List.mem_of_getElem? (i := 3) rfl))) (by decide) (backOf (W := 0) (rm1 l Z a0 hw [] q4 h0 n0 Zs ) hZ (hw _ (List.mem_of_getElem? (i := 3) rfl)) (hw _ (List.mem_of_getElem? (i := 2) rfl)) (by decide) (by decide)) (g := (mkF m 21 #[.val (.long q1), .second, .val (.long q2), .second, .val (.long q3), .second, .val (.long q4), .second, .val (.long q5), .second, .val (.long q6), .second, .val (.long v4), .second, .val (.long v10), .second, .val (.long v17), .second, .unset, .unset, .unset, .unset, .unset, .unset, .unset, .unset, .unset, .unset, .unset, .unset, .unset] [(.long q4)])) rfl (by rw [hml]; rfl) (argsL := [(.long q4)]) (rest := []) (lenOf pd_2 rfl) rfl (by show 2 * 0 + _ ≤ _; exact Nat.le_of_eq rfl) (hb hby at_21) (fun _ _ => ⟨rfl, e20, (by decide : 0 + 0 ≤ _), (by decide : 0 + 0 ≤ _)⟩)
  dsimp only [Pt.U, Pt.locs, Pt.cells, Pt.slots] at X22 l22 y22 z22 st22 hQ22
  subst l22 y22 z22
  obtain ⟨rfl, N22q, e22⟩ := hQ22
  have N22 := Fr.app N20 N22q
  obtain ⟨v24, hv24⟩ : ∃ z : Int64, z = (f1 q4) := ⟨_, rfl⟩
  have pre23 : ∀ t, Steps p.tables e below (T22.setTop (mkF m 26 #[.val (.long q1), .second, .val (.long q2), .second, .val (.long q3), .second, .val (.long q4), .second, .val (.long q5), .second, .val (.long q6), .second, .val (.long v4), .second, .val (.long v10), .second, .val (.long v17), .second, .val (.long v24), .second, .unset, .unset, .unset, .unset, .unset, .unset, .unset, .unset, .unset, .unset, .unset] [])) t → Steps p.tables e below (s₁.setTop (entryFrame m #[(.long q1), (.long q2), (.long q3), (.long q4), (.long q5), (.long q6)] maxLocals)) t := fun t k => pre21 t (by
    show Steps p.tables e below (T20.setTop (mkF m 19 #[.val (.long q1), .second, .val (.long q2), .second, .val (.long q3), .second, .val (.long q4), .second, .val (.long q5), .second, .val (.long q6), .second, .val (.long v4), .second, .val (.long v10), .second, .val (.long v17), .second, .unset, .unset, .unset, .unset, .unset, .unset, .unset, .unset, .unset, .unset, .unset, .unset, .unset] [])) _
    refine XS.lload X20.here hx rfl (hb hby at_19) rfl ?_
    show Steps p.tables e below (T20.setTop (mkF m 21 #[.val (.long q1), .second, .val (.long q2), .second, .val (.long q3), .second, .val (.long q4), .second, .val (.long q5), .second, .val (.long q6), .second, .val (.long v4), .second, .val (.long v10), .second, .val (.long v17), .second, .unset, .unset, .unset, .unset, .unset, .unset, .unset, .unset, .unset, .unset, .unset, .unset, .unset] [(.long q4)])) _
    refine st22 _ ?_
    show Steps p.tables e below (T22.setTop (mkF m 24 #[.val (.long q1), .second, .val (.long q2), .second, .val (.long q3), .second, .val (.long q4), .second, .val (.long q5), .second, .val (.long q6), .second, .val (.long v4), .second, .val (.long v10), .second, .val (.long v17), .second, .unset, .unset, .unset, .unset, .unset, .unset, .unset, .unset, .unset, .unset, .unset, .unset, .unset] [(.long (f1 q4))])) _
    refine XS.lstore X22.here hx rfl (hb hby at_24) rfl (l' := #[.val (.long q1), .second, .val (.long q2), .second, .val (.long q3), .second, .val (.long q4), .second, .val (.long q5), .second, .val (.long q6), .second, .val (.long v4), .second, .val (.long v10), .second, .val (.long v17), .second, .val (.long (f1 q4)), .second, .unset, .unset, .unset, .unset, .unset, .unset, .unset, .unset, .unset, .unset, .unset]) rfl ?_
    rw [hv24] at k
    exact k)
  obtain ⟨_, _, ⟨T24, L24, k24, n24⟩, -, X24, ⟨Lc24, hQ24, l24, y24, z24⟩, st24⟩ := Jvm.LawKit.callS X22 hx (y := (⟨"com/example/verschil/verschil/repository/ClientGroupFollowsDeltasPinLaw", "pos", "(J)J"⟩ : MethodName)) hown (mvT hZ (hw _ (List.mem_of_getElem? (i := 0) rfl))) (mvT hZ (hw _ (List.mem_of_getElem? (i := 1) rfl))) (mvT hZ (hw _ (List.mem_of_getElem? (i := 2) rfl))) (mvT hZ (hw _ (List.mem_of_getElem? (i := 3) rfl))) (by decide) (backOf (W := 0) (rm1 l Z a0 hw [] q5 h0 n0 Zs ) hZ (hw _ (List.mem_of_getElem? (i := 3) rfl)) (hw _ (List.mem_of_getElem? (i := 2) rfl)) (by decide) (by decide)) (g := (mkF m 28 #[.val (.long q1), .second, .val (.long q2), .second, .val (.long q3), .second, .val (.long q4), .second, .val (.long q5), .second, .val (.long q6), .second, .val (.long v4), .second, .val (.long v10), .second, .val (.long v17), .second, .val (.long v24), .second, .unset, .unset, .unset, .unset, .unset, .unset, .unset, .unset, .unset, .unset, .unset] [(.long q5)])) rfl (by rw [hml]; rfl) (argsL := [(.long q5)]) (rest := []) (lenOf pd_2 rfl) rfl (by show 2 * 0 + _ ≤ _; exact Nat.le_of_eq rfl) (hb hby at_28) (fun _ _ => ⟨rfl, e22, (by decide : 0 + 0 ≤ _), (by decide : 0 + 0 ≤ _)⟩)
  dsimp only [Pt.U, Pt.locs, Pt.cells, Pt.slots] at X24 l24 y24 z24 st24 hQ24
  subst l24 y24 z24
  obtain ⟨rfl, N24q, e24⟩ := hQ24
  have N24 := Fr.app N22 N24q
  obtain ⟨v31, hv31⟩ : ∃ z : Int64, z = (f1 q5) := ⟨_, rfl⟩
  have pre25 : ∀ t, Steps p.tables e below (T24.setTop (mkF m 33 #[.val (.long q1), .second, .val (.long q2), .second, .val (.long q3), .second, .val (.long q4), .second, .val (.long q5), .second, .val (.long q6), .second, .val (.long v4), .second, .val (.long v10), .second, .val (.long v17), .second, .val (.long v24), .second, .val (.long v31), .second, .unset, .unset, .unset, .unset, .unset, .unset, .unset, .unset, .unset] [])) t → Steps p.tables e below (s₁.setTop (entryFrame m #[(.long q1), (.long q2), (.long q3), (.long q4), (.long q5), (.long q6)] maxLocals)) t := fun t k => pre23 t (by
    show Steps p.tables e below (T22.setTop (mkF m 26 #[.val (.long q1), .second, .val (.long q2), .second, .val (.long q3), .second, .val (.long q4), .second, .val (.long q5), .second, .val (.long q6), .second, .val (.long v4), .second, .val (.long v10), .second, .val (.long v17), .second, .val (.long v24), .second, .unset, .unset, .unset, .unset, .unset, .unset, .unset, .unset, .unset, .unset, .unset] [])) _
    refine XS.lload X22.here hx rfl (hb hby at_26) rfl ?_
    show Steps p.tables e below (T22.setTop (mkF m 28 #[.val (.long q1), .second, .val (.long q2), .second, .val (.long q3), .second, .val (.long q4), .second, .val (.long q5), .second, .val (.long q6), .second, .val (.long v4), .second, .val (.long v10), .second, .val (.long v17), .second, .val (.long v24), .second, .unset, .unset, .unset, .unset, .unset, .unset, .unset, .unset, .unset, .unset, .unset] [(.long q5)])) _
    refine st24 _ ?_
    show Steps p.tables e below (T24.setTop (mkF m 31 #[.val (.long q1), .second, .val (.long q2), .second, .val (.long q3), .second, .val (.long q4), .second, .val (.long q5), .second, .val (.long q6), .second, .val (.long v4), .second, .val (.long v10), .second, .val (.long v17), .second, .val (.long v24), .second, .unset, .unset, .unset, .unset, .unset, .unset, .unset, .unset, .unset, .unset, .unset] [(.long (f1 q5))])) _
    refine XS.lstore X24.here hx rfl (hb hby at_31) rfl (l' := #[.val (.long q1), .second, .val (.long q2), .second, .val (.long q3), .second, .val (.long q4), .second, .val (.long q5), .second, .val (.long q6), .second, .val (.long v4), .second, .val (.long v10), .second, .val (.long v17), .second, .val (.long v24), .second, .val (.long (f1 q5)), .second, .unset, .unset, .unset, .unset, .unset, .unset, .unset, .unset, .unset]) rfl ?_
    rw [hv31] at k
    exact k)
  obtain ⟨v39, hv39⟩ : ∃ z : Int64, z = (q6 &&& (9223372036854775807 : Int64)) := ⟨_, rfl⟩
  have pre26 : ∀ t, Steps p.tables e below (T24.setTop (mkF m 41 #[.val (.long q1), .second, .val (.long q2), .second, .val (.long q3), .second, .val (.long q4), .second, .val (.long q5), .second, .val (.long q6), .second, .val (.long v4), .second, .val (.long v10), .second, .val (.long v17), .second, .val (.long v24), .second, .val (.long v31), .second, .val (.long v39), .second, .unset, .unset, .unset, .unset, .unset, .unset, .unset] [])) t → Steps p.tables e below (s₁.setTop (entryFrame m #[(.long q1), (.long q2), (.long q3), (.long q4), (.long q5), (.long q6)] maxLocals)) t := fun t k => pre25 t (by
    show Steps p.tables e below (T24.setTop (mkF m 33 #[.val (.long q1), .second, .val (.long q2), .second, .val (.long q3), .second, .val (.long q4), .second, .val (.long q5), .second, .val (.long q6), .second, .val (.long v4), .second, .val (.long v10), .second, .val (.long v17), .second, .val (.long v24), .second, .val (.long v31), .second, .unset, .unset, .unset, .unset, .unset, .unset, .unset, .unset, .unset] [])) _
    refine XS.lload X24.here hx rfl (hb hby at_33) rfl ?_
    show Steps p.tables e below (T24.setTop (mkF m 35 #[.val (.long q1), .second, .val (.long q2), .second, .val (.long q3), .second, .val (.long q4), .second, .val (.long q5), .second, .val (.long q6), .second, .val (.long v4), .second, .val (.long v10), .second, .val (.long v17), .second, .val (.long v24), .second, .val (.long v31), .second, .unset, .unset, .unset, .unset, .unset, .unset, .unset, .unset, .unset] [(.long q6)])) _
    refine X24.ldc2Long hx hown (mvT hZ (hw _ (List.mem_of_getElem? (i := 4) rfl))) (g := (mkF m 35 #[.val (.long q1), .second, .val (.long q2), .second, .val (.long q3), .second, .val (.long q4), .second, .val (.long q5), .second, .val (.long q6), .second, .val (.long v4), .second, .val (.long v10), .second, .val (.long v17), .second, .val (.long v24), .second, .val (.long v31), .second, .unset, .unset, .unset, .unset, .unset, .unset, .unset, .unset, .unset] [(.long q6)])) rfl (hb hby at_35) _ ?_
    show Steps p.tables e below (T24.setTop (mkF m 38 #[.val (.long q1), .second, .val (.long q2), .second, .val (.long q3), .second, .val (.long q4), .second, .val (.long q5), .second, .val (.long q6), .second, .val (.long v4), .second, .val (.long v10), .second, .val (.long v17), .second, .val (.long v24), .second, .val (.long v31), .second, .unset, .unset, .unset, .unset, .unset, .unset, .unset, .unset, .unset] [(.long (9223372036854775807 : Int64)), (.long q6)])) _
    refine XS.land X24.here hx rfl (hb hby at_38) rfl ?_
    show Steps p.tables e below (T24.setTop (mkF m 39 #[.val (.long q1), .second, .val (.long q2), .second, .val (.long q3), .second, .val (.long q4), .second, .val (.long q5), .second, .val (.long q6), .second, .val (.long v4), .second, .val (.long v10), .second, .val (.long v17), .second, .val (.long v24), .second, .val (.long v31), .second, .unset, .unset, .unset, .unset, .unset, .unset, .unset, .unset, .unset] [(.long (q6 &&& (9223372036854775807 : Int64)))])) _
    refine XS.lstore X24.here hx rfl (hb hby at_39) rfl (l' := #[.val (.long q1), .second, .val (.long q2), .second, .val (.long q3), .second, .val (.long q4), .second, .val (.long q5), .second, .val (.long q6), .second, .val (.long v4), .second, .val (.long v10), .second, .val (.long v17), .second, .val (.long v24), .second, .val (.long v31), .second, .val (.long (q6 &&& (9223372036854775807 : Int64))), .second, .unset, .unset, .unset, .unset, .unset, .unset, .unset]) rfl ?_
    rw [hv39] at k
    exact k)
  obtain ⟨T27, h27, X27, e27, E27, A27, D27, -, st27⟩ := newO X24 hx hZ hown (hw _ (List.mem_of_getElem? (i := 5) rfl)) (hw _ (List.mem_of_getElem? (i := 6) rfl)) (hw _ (List.mem_of_getElem? (i := 7) rfl)) e24 (g := (mkF m 41 #[.val (.long q1), .second, .val (.long q2), .second, .val (.long q3), .second, .val (.long q4), .second, .val (.long q5), .second, .val (.long q6), .second, .val (.long v4), .second, .val (.long v10), .second, .val (.long v17), .second, .val (.long v24), .second, .val (.long v31), .second, .val (.long v39), .second, .unset, .unset, .unset, .unset, .unset, .unset, .unset] [])) rfl (hb hby at_41) (by decide) (by decide)
  obtain ⟨b27, g27⟩ : ∃ z, z = h0.size := ⟨_, rfl⟩
  rw [← g27] at A27 D27 st27
  have g_b27 : n0 ≤ b27 := Nat.le_trans Zs (Nat.le_of_eq g27.symm)
  have Zs : n0 ≤ h27.size := Nat.le_trans Zs E27.1
  have E_b27 : Exa Z h27 b27 "com/example/verschil/verschil/repository/RetentionSimulator$ClientGroup" := A27
  have F_count_b27 : Fld Z h27 b27 "com/example/verschil/verschil/repository/RetentionSimulator$ClientGroup" "count" "J" (.long (0 : Int64)) := D27 (Or.inr (hw _ (List.mem_of_getElem? (i := 20) rfl))) (ty := .long) (by decide)
  have F_interval_b27 : Fld Z h27 b27 "com/example/verschil/verschil/repository/RetentionSimulator$ClientGroup" "interval" "J" (.long (0 : Int64)) := D27 (Or.inr (hw _ (List.mem_of_getElem? (i := 22) rfl))) (ty := .long) (by decide)
  have F_listLimit_b27 : Fld Z h27 b27 "com/example/verschil/verschil/repository/RetentionSimulator$ClientGroup" "listLimit" "J" (.long (0 : Int64)) := D27 (Or.inr (hw _ (List.mem_of_getElem? (i := 24) rfl))) (ty := .long) (by decide)
  have F_chainLimit_b27 : Fld Z h27 b27 "com/example/verschil/verschil/repository/RetentionSimulator$ClientGroup" "chainLimit" "J" (.long (0 : Int64)) := D27 (Or.inr (hw _ (List.mem_of_getElem? (i := 26) rfl))) (ty := .long) (by decide)
  obtain ⟨_, _, ⟨T28, L28, k28, n28⟩, -, X28, ⟨Lc28, hQ28, l28, y28, z28⟩, st28⟩ := X27.specialBack hx (y := (⟨"com/example/verschil/verschil/repository/RetentionSimulator$ClientGroup", "<init>", "(JJJJ)V"⟩ : MethodName)) rfl hown (mvT hZ (hw _ (List.mem_of_getElem? (i := 8) rfl))) (mvT hZ (hw _ (List.mem_of_getElem? (i := 9) rfl))) (mvT hZ (hw _ (List.mem_of_getElem? (i := 10) rfl))) (by decide) (backOf (W := 1) (rm2 l Z a0 hw [] b27 v4 v4 v10 v17 (0 : Int64) (0 : Int64) (0 : Int64) (0 : Int64) h27 n0 Zs E_b27 F_count_b27 F_interval_b27 F_listLimit_b27 F_chainLimit_b27 g_b27 (own_pos hv4).2 (own_pos hv4).2 (own_pos hv10).2 (own_pos hv17).2) hZ (hw _ (List.mem_of_getElem? (i := 10) rfl)) (hw _ (List.mem_of_getElem? (i := 7) rfl)) (by decide) (by decide)) (g := (mkF m 53 #[.val (.long q1), .second, .val (.long q2), .second, .val (.long q3), .second, .val (.long q4), .second, .val (.long q5), .second, .val (.long q6), .second, .val (.long v4), .second, .val (.long v10), .second, .val (.long v17), .second, .val (.long v24), .second, .val (.long v31), .second, .val (.long v39), .second, .unset, .unset, .unset, .unset, .unset, .unset, .unset] [(.long v17), (.long v10), (.long v4), (.long v4), (.ref b27), (.ref b27)])) rfl (by rw [hml]; rfl) (Steps.refl _) (a := b27) (argsL := [(.long v4), (.long v4), (.long v10), (.long v17)]) (rest := [(.ref b27)]) (lenOf pd_3 rfl) rfl (by show 2 * 0 + _ ≤ _; exact Nat.le_of_eq rfl) (hb hby at_53) (fun _ _ => ⟨rfl, e27, (by decide : 1 + 0 ≤ _), (by decide : 4 + 0 ≤ _)⟩)
  dsimp only [Pt.U, Pt.locs, Pt.cells, Pt.slots] at X28 l28 y28 z28 st28 hQ28
  subst l28 y28 z28
  obtain ⟨rfl, N28q, K28, P28_1, P28_2, P28_3⟩ := hQ28
  have Zs : n0 ≤ T28.heap.size := Nat.le_trans Zs K28.1
  have E_b27 : Exa Z T28.heap b27 "com/example/verschil/verschil/repository/RetentionSimulator$ClientGroup" := E_b27.keep K28
  have E_b27 : Exa Z T28.heap b27 "com/example/verschil/verschil/repository/RetentionSimulator$ClientGroup" := P28_1
  have F_listLimit_b27 : Fld Z T28.heap b27 "com/example/verschil/verschil/repository/RetentionSimulator$ClientGroup" "listLimit" "J" (.long v10) := P28_2
  have F_chainLimit_b27 : Fld Z T28.heap b27 "com/example/verschil/verschil/repository/RetentionSimulator$ClientGroup" "chainLimit" "J" (.long v17) := P28_3
  have N28 := Fr.app N24 N28q
  obtain ⟨cq29, kq29, q29a, q29b, q29c⟩ := isOf hZ rfl E_b27
  obtain ⟨_, _, ⟨T29, L29, k29, n29⟩, -, X29, ⟨Lc29, hQ29, l29, y29, z29⟩, st29⟩ := X28.virtualBack hx (y := (⟨"com/example/verschil/verschil/repository/RetentionSimulator$ClientGroup", "followsDeltas", "(JJJ)Z"⟩ : MethodName)) (z := (⟨"com/example/verschil/verschil/repository/RetentionSimulator$ClientGroup", "followsDeltas", "(JJJ)Z"⟩ : MethodName)) hown (mvT hZ (hw _ (List.mem_of_getElem? (i := 27) rfl))) (mvT hZ (hw _ (List.mem_of_getElem? (i := 28) rfl))) (notFace_of_selects (args := #[]) (mvT hZ (hw _ (List.mem_of_getElem? (i := 30) rfl)))) (mvT hZ (hw _ (List.mem_of_getElem? (i := 30) rfl))) (mvT hZ (hw _ (List.mem_of_getElem? (i := 29) rfl))) (by decide) (backOf (W := 0) (rm5 l Z a0 hw [] b27 v24 v31 v39 v10 v17 T28.heap n0 Zs F_listLimit_b27 F_chainLimit_b27) hZ (hw _ (List.mem_of_getElem? (i := 31) rfl)) (hw _ (List.mem_of_getElem? (i := 7) rfl)) (by decide) (by decide)) q29a q29c (g := (mkF m 66 #[.val (.long q1), .second, .val (.long q2), .second, .val (.long q3), .second, .val (.long q4), .second, .val (.long q5), .second, .val (.long q6), .second, .val (.long v4), .second, .val (.long v10), .second, .val (.long v17), .second, .val (.long v24), .second, .val (.long v31), .second, .val (.long v39), .second, .val (.ref b27), .unset, .unset, .unset, .unset, .unset, .unset] [(.long v39), (.long v31), (.long v24), (.ref b27)])) rfl (by rw [hml]; rfl) (Steps.refl _) (argsL := [(.long v24), (.long v31), (.long v39)]) (rest := []) (lenOf pd_1 rfl) rfl (by show 2 * 0 + _ ≤ _; exact Nat.le_of_eq rfl) (hb hby at_66) (fun _ _ => ⟨rfl, rfl, (by decide : 1 + 0 ≤ _), (by decide : 4 + 0 ≤ _)⟩)
  dsimp only [Pt.U, Pt.locs, Pt.cells, Pt.slots] at X29 l29 y29 z29 st29 hQ29
  subst l29 y29 z29
  obtain ⟨rfl, N29q, e29⟩ := hQ29
  have N29 := Fr.app N28 N29q
  obtain ⟨v69, hv69⟩ : ∃ z : Int32, z = (f5 v24 v31 v39 v10 v17) := ⟨_, rfl⟩
  have pre30 : ∀ t, Steps p.tables e below (T29.setTop (mkF m 71 #[.val (.long q1), .second, .val (.long q2), .second, .val (.long q3), .second, .val (.long q4), .second, .val (.long q5), .second, .val (.long q6), .second, .val (.long v4), .second, .val (.long v10), .second, .val (.long v17), .second, .val (.long v24), .second, .val (.long v31), .second, .val (.long v39), .second, .val (.ref b27), .val (.int v69), .unset, .unset, .unset, .unset, .unset] [])) t → Steps p.tables e below (s₁.setTop (entryFrame m #[(.long q1), (.long q2), (.long q3), (.long q4), (.long q5), (.long q6)] maxLocals)) t := fun t k => pre26 t (by
    show Steps p.tables e below (T24.setTop (mkF m 41 #[.val (.long q1), .second, .val (.long q2), .second, .val (.long q3), .second, .val (.long q4), .second, .val (.long q5), .second, .val (.long q6), .second, .val (.long v4), .second, .val (.long v10), .second, .val (.long v17), .second, .val (.long v24), .second, .val (.long v31), .second, .val (.long v39), .second, .unset, .unset, .unset, .unset, .unset, .unset, .unset] [])) _
    refine st27 _ ?_
    show Steps p.tables e below (T27.setTop (mkF m 44 #[.val (.long q1), .second, .val (.long q2), .second, .val (.long q3), .second, .val (.long q4), .second, .val (.long q5), .second, .val (.long q6), .second, .val (.long v4), .second, .val (.long v10), .second, .val (.long v17), .second, .val (.long v24), .second, .val (.long v31), .second, .val (.long v39), .second, .unset, .unset, .unset, .unset, .unset, .unset, .unset] [(.ref b27)])) _
    refine XS.dup X27.here hx rfl (hb hby at_44) rfl rfl ?_
    show Steps p.tables e below (T27.setTop (mkF m 45 #[.val (.long q1), .second, .val (.long q2), .second, .val (.long q3), .second, .val (.long q4), .second, .val (.long q5), .second, .val (.long q6), .second, .val (.long v4), .second, .val (.long v10), .second, .val (.long v17), .second, .val (.long v24), .second, .val (.long v31), .second, .val (.long v39), .second, .unset, .unset, .unset, .unset, .unset, .unset, .unset] [(.ref b27), (.ref b27)])) _
    refine XS.lload X27.here hx rfl (hb hby at_45) rfl ?_
    show Steps p.tables e below (T27.setTop (mkF m 47 #[.val (.long q1), .second, .val (.long q2), .second, .val (.long q3), .second, .val (.long q4), .second, .val (.long q5), .second, .val (.long q6), .second, .val (.long v4), .second, .val (.long v10), .second, .val (.long v17), .second, .val (.long v24), .second, .val (.long v31), .second, .val (.long v39), .second, .unset, .unset, .unset, .unset, .unset, .unset, .unset] [(.long v4), (.ref b27), (.ref b27)])) _
    refine XS.lload X27.here hx rfl (hb hby at_47) rfl ?_
    show Steps p.tables e below (T27.setTop (mkF m 49 #[.val (.long q1), .second, .val (.long q2), .second, .val (.long q3), .second, .val (.long q4), .second, .val (.long q5), .second, .val (.long q6), .second, .val (.long v4), .second, .val (.long v10), .second, .val (.long v17), .second, .val (.long v24), .second, .val (.long v31), .second, .val (.long v39), .second, .unset, .unset, .unset, .unset, .unset, .unset, .unset] [(.long v4), (.long v4), (.ref b27), (.ref b27)])) _
    refine XS.lload X27.here hx rfl (hb hby at_49) rfl ?_
    show Steps p.tables e below (T27.setTop (mkF m 51 #[.val (.long q1), .second, .val (.long q2), .second, .val (.long q3), .second, .val (.long q4), .second, .val (.long q5), .second, .val (.long q6), .second, .val (.long v4), .second, .val (.long v10), .second, .val (.long v17), .second, .val (.long v24), .second, .val (.long v31), .second, .val (.long v39), .second, .unset, .unset, .unset, .unset, .unset, .unset, .unset] [(.long v10), (.long v4), (.long v4), (.ref b27), (.ref b27)])) _
    refine XS.lload X27.here hx rfl (hb hby at_51) rfl ?_
    show Steps p.tables e below (T27.setTop (mkF m 53 #[.val (.long q1), .second, .val (.long q2), .second, .val (.long q3), .second, .val (.long q4), .second, .val (.long q5), .second, .val (.long q6), .second, .val (.long v4), .second, .val (.long v10), .second, .val (.long v17), .second, .val (.long v24), .second, .val (.long v31), .second, .val (.long v39), .second, .unset, .unset, .unset, .unset, .unset, .unset, .unset] [(.long v17), (.long v10), (.long v4), (.long v4), (.ref b27), (.ref b27)])) _
    refine st28.trans ?_
    show Steps p.tables e below (T28.setTop (mkF m 56 #[.val (.long q1), .second, .val (.long q2), .second, .val (.long q3), .second, .val (.long q4), .second, .val (.long q5), .second, .val (.long q6), .second, .val (.long v4), .second, .val (.long v10), .second, .val (.long v17), .second, .val (.long v24), .second, .val (.long v31), .second, .val (.long v39), .second, .unset, .unset, .unset, .unset, .unset, .unset, .unset] [(.ref b27)])) _
    refine XS.astore X28.here hx rfl (hb hby at_56) rfl rfl (l' := #[.val (.long q1), .second, .val (.long q2), .second, .val (.long q3), .second, .val (.long q4), .second, .val (.long q5), .second, .val (.long q6), .second, .val (.long v4), .second, .val (.long v10), .second, .val (.long v17), .second, .val (.long v24), .second, .val (.long v31), .second, .val (.long v39), .second, .val (.ref b27), .unset, .unset, .unset, .unset, .unset, .unset]) rfl ?_
    show Steps p.tables e below (T28.setTop (mkF m 58 #[.val (.long q1), .second, .val (.long q2), .second, .val (.long q3), .second, .val (.long q4), .second, .val (.long q5), .second, .val (.long q6), .second, .val (.long v4), .second, .val (.long v10), .second, .val (.long v17), .second, .val (.long v24), .second, .val (.long v31), .second, .val (.long v39), .second, .val (.ref b27), .unset, .unset, .unset, .unset, .unset, .unset] [])) _
    refine XS.aload X28.here hx rfl (hb hby at_58) rfl rfl ?_
    show Steps p.tables e below (T28.setTop (mkF m 60 #[.val (.long q1), .second, .val (.long q2), .second, .val (.long q3), .second, .val (.long q4), .second, .val (.long q5), .second, .val (.long q6), .second, .val (.long v4), .second, .val (.long v10), .second, .val (.long v17), .second, .val (.long v24), .second, .val (.long v31), .second, .val (.long v39), .second, .val (.ref b27), .unset, .unset, .unset, .unset, .unset, .unset] [(.ref b27)])) _
    refine XS.lload X28.here hx rfl (hb hby at_60) rfl ?_
    show Steps p.tables e below (T28.setTop (mkF m 62 #[.val (.long q1), .second, .val (.long q2), .second, .val (.long q3), .second, .val (.long q4), .second, .val (.long q5), .second, .val (.long q6), .second, .val (.long v4), .second, .val (.long v10), .second, .val (.long v17), .second, .val (.long v24), .second, .val (.long v31), .second, .val (.long v39), .second, .val (.ref b27), .unset, .unset, .unset, .unset, .unset, .unset] [(.long v24), (.ref b27)])) _
    refine XS.lload X28.here hx rfl (hb hby at_62) rfl ?_
    show Steps p.tables e below (T28.setTop (mkF m 64 #[.val (.long q1), .second, .val (.long q2), .second, .val (.long q3), .second, .val (.long q4), .second, .val (.long q5), .second, .val (.long q6), .second, .val (.long v4), .second, .val (.long v10), .second, .val (.long v17), .second, .val (.long v24), .second, .val (.long v31), .second, .val (.long v39), .second, .val (.ref b27), .unset, .unset, .unset, .unset, .unset, .unset] [(.long v31), (.long v24), (.ref b27)])) _
    refine XS.lload X28.here hx rfl (hb hby at_64) rfl ?_
    show Steps p.tables e below (T28.setTop (mkF m 66 #[.val (.long q1), .second, .val (.long q2), .second, .val (.long q3), .second, .val (.long q4), .second, .val (.long q5), .second, .val (.long q6), .second, .val (.long v4), .second, .val (.long v10), .second, .val (.long v17), .second, .val (.long v24), .second, .val (.long v31), .second, .val (.long v39), .second, .val (.ref b27), .unset, .unset, .unset, .unset, .unset, .unset] [(.long v39), (.long v31), (.long v24), (.ref b27)])) _
    refine st29.trans ?_
    show Steps p.tables e below (T29.setTop (mkF m 69 #[.val (.long q1), .second, .val (.long q2), .second, .val (.long q3), .second, .val (.long q4), .second, .val (.long q5), .second, .val (.long q6), .second, .val (.long v4), .second, .val (.long v10), .second, .val (.long v17), .second, .val (.long v24), .second, .val (.long v31), .second, .val (.long v39), .second, .val (.ref b27), .unset, .unset, .unset, .unset, .unset, .unset] [(.int (f5 v24 v31 v39 v10 v17))])) _
    refine XS.istore X29.here hx rfl (hb hby at_69) rfl (l' := #[.val (.long q1), .second, .val (.long q2), .second, .val (.long q3), .second, .val (.long q4), .second, .val (.long q5), .second, .val (.long q6), .second, .val (.long v4), .second, .val (.long v10), .second, .val (.long v17), .second, .val (.long v24), .second, .val (.long v31), .second, .val (.long v39), .second, .val (.ref b27), .val (.int (f5 v24 v31 v39 v10 v17)), .unset, .unset, .unset, .unset, .unset]) rfl ?_
    rw [hv69] at k
    exact k)
  obtain ⟨v76, hv76⟩ : ∃ z : Int64, z = (v31 - v24) := ⟨_, rfl⟩
  have pre31 : ∀ t, Steps p.tables e below (T29.setTop (mkF m 78 #[.val (.long q1), .second, .val (.long q2), .second, .val (.long q3), .second, .val (.long q4), .second, .val (.long q5), .second, .val (.long q6), .second, .val (.long v4), .second, .val (.long v10), .second, .val (.long v17), .second, .val (.long v24), .second, .val (.long v31), .second, .val (.long v39), .second, .val (.ref b27), .val (.int v69), .val (.long v76), .second, .unset, .unset, .unset] [])) t → Steps p.tables e below (s₁.setTop (entryFrame m #[(.long q1), (.long q2), (.long q3), (.long q4), (.long q5), (.long q6)] maxLocals)) t := fun t k => pre30 t (by
    show Steps p.tables e below (T29.setTop (mkF m 71 #[.val (.long q1), .second, .val (.long q2), .second, .val (.long q3), .second, .val (.long q4), .second, .val (.long q5), .second, .val (.long q6), .second, .val (.long v4), .second, .val (.long v10), .second, .val (.long v17), .second, .val (.long v24), .second, .val (.long v31), .second, .val (.long v39), .second, .val (.ref b27), .val (.int v69), .unset, .unset, .unset, .unset, .unset] [])) _
    refine XS.lload X29.here hx rfl (hb hby at_71) rfl ?_
    show Steps p.tables e below (T29.setTop (mkF m 73 #[.val (.long q1), .second, .val (.long q2), .second, .val (.long q3), .second, .val (.long q4), .second, .val (.long q5), .second, .val (.long q6), .second, .val (.long v4), .second, .val (.long v10), .second, .val (.long v17), .second, .val (.long v24), .second, .val (.long v31), .second, .val (.long v39), .second, .val (.ref b27), .val (.int v69), .unset, .unset, .unset, .unset, .unset] [(.long v31)])) _
    refine XS.lload X29.here hx rfl (hb hby at_73) rfl ?_
    show Steps p.tables e below (T29.setTop (mkF m 75 #[.val (.long q1), .second, .val (.long q2), .second, .val (.long q3), .second, .val (.long q4), .second, .val (.long q5), .second, .val (.long q6), .second, .val (.long v4), .second, .val (.long v10), .second, .val (.long v17), .second, .val (.long v24), .second, .val (.long v31), .second, .val (.long v39), .second, .val (.ref b27), .val (.int v69), .unset, .unset, .unset, .unset, .unset] [(.long v24), (.long v31)])) _
    refine XS.lsub X29.here hx rfl (hb hby at_75) rfl ?_
    show Steps p.tables e below (T29.setTop (mkF m 76 #[.val (.long q1), .second, .val (.long q2), .second, .val (.long q3), .second, .val (.long q4), .second, .val (.long q5), .second, .val (.long q6), .second, .val (.long v4), .second, .val (.long v10), .second, .val (.long v17), .second, .val (.long v24), .second, .val (.long v31), .second, .val (.long v39), .second, .val (.ref b27), .val (.int v69), .unset, .unset, .unset, .unset, .unset] [(.long (v31 - v24))])) _
    refine XS.lstore X29.here hx rfl (hb hby at_76) rfl (l' := #[.val (.long q1), .second, .val (.long q2), .second, .val (.long q3), .second, .val (.long q4), .second, .val (.long q5), .second, .val (.long q6), .second, .val (.long v4), .second, .val (.long v10), .second, .val (.long v17), .second, .val (.long v24), .second, .val (.long v31), .second, .val (.long v39), .second, .val (.ref b27), .val (.int v69), .val (.long (v31 - v24)), .second, .unset, .unset, .unset]) rfl ?_
    rw [hv76] at k
    exact k)
  have pre32 : ∀ t, Steps p.tables e below (T29.setTop (mkF m 83 #[.val (.long q1), .second, .val (.long q2), .second, .val (.long q3), .second, .val (.long q4), .second, .val (.long q5), .second, .val (.long q6), .second, .val (.long v4), .second, .val (.long v10), .second, .val (.long v17), .second, .val (.long v24), .second, .val (.long v31), .second, .val (.long v39), .second, .val (.ref b27), .val (.int v69), .val (.long v76), .second, .unset, .unset, .unset] [(.int (lcmpW v39 v10))])) t → Steps p.tables e below (s₁.setTop (entryFrame m #[(.long q1), (.long q2), (.long q3), (.long q4), (.long q5), (.long q6)] maxLocals)) t := fun t k => pre31 t (by
    show Steps p.tables e below (T29.setTop (mkF m 78 #[.val (.long q1), .second, .val (.long q2), .second, .val (.long q3), .second, .val (.long q4), .second, .val (.long q5), .second, .val (.long q6), .second, .val (.long v4), .second, .val (.long v10), .second, .val (.long v17), .second, .val (.long v24), .second, .val (.long v31), .second, .val (.long v39), .second, .val (.ref b27), .val (.int v69), .val (.long v76), .second, .unset, .unset, .unset] [])) _
    refine XS.lload X29.here hx rfl (hb hby at_78) rfl ?_
    show Steps p.tables e below (T29.setTop (mkF m 80 #[.val (.long q1), .second, .val (.long q2), .second, .val (.long q3), .second, .val (.long q4), .second, .val (.long q5), .second, .val (.long q6), .second, .val (.long v4), .second, .val (.long v10), .second, .val (.long v17), .second, .val (.long v24), .second, .val (.long v31), .second, .val (.long v39), .second, .val (.ref b27), .val (.int v69), .val (.long v76), .second, .unset, .unset, .unset] [(.long v39)])) _
    refine XS.lload X29.here hx rfl (hb hby at_80) rfl ?_
    show Steps p.tables e below (T29.setTop (mkF m 82 #[.val (.long q1), .second, .val (.long q2), .second, .val (.long q3), .second, .val (.long q4), .second, .val (.long q5), .second, .val (.long q6), .second, .val (.long v4), .second, .val (.long v10), .second, .val (.long v17), .second, .val (.long v24), .second, .val (.long v31), .second, .val (.long v39), .second, .val (.ref b27), .val (.int v69), .val (.long v76), .second, .unset, .unset, .unset] [(.long v10), (.long v39)])) _
    refine XS.lcmp X29.here hx rfl (hb hby at_82) rfl ?_
    exact k)
  obtain ⟨z91_s0, hz91_s0⟩ : ∃ z : Int32, z = (if v10 < v39 then (0 : Int32) else (1 : Int32)) := ⟨_, rfl⟩
  obtain ⟨T35, Lc35, X35, e35, N35, pre35⟩ : ∃ (T' : State) (locs' : List Loc), Stand p l e room_1 s m #[(.long q1), (.long q2), (.long q3), (.long q4), (.long q5), (.long q6)] below meth c T' locs' 1 4 ∧ T'.heap = T28.heap ∧ Fr n0 locs' ∧ ∀ t, Steps p.tables e below (T'.setTop (mkF m 91 #[.val (.long q1), .second, .val (.long q2), .second, .val (.long q3), .second, .val (.long q4), .second, .val (.long q5), .second, .val (.long q6), .second, .val (.long v4), .second, .val (.long v10), .second, .val (.long v17), .second, .val (.long v24), .second, .val (.long v31), .second, .val (.long v39), .second, .val (.ref b27), .val (.int v69), .val (.long v76), .second, .unset, .unset, .unset] [(.int z91_s0)])) t → Steps p.tables e below (s₁.setTop (entryFrame m #[(.long q1), (.long q2), (.long q3), (.long q4), (.long q5), (.long q6)] maxLocals)) t := by
    by_cases hc83 : v10 < v39
    ·
      have pre33 : ∀ t, Steps p.tables e below (T29.setTop (mkF m 91 #[.val (.long q1), .second, .val (.long q2), .second, .val (.long q3), .second, .val (.long q4), .second, .val (.long q5), .second, .val (.long q6), .second, .val (.long v4), .second, .val (.long v10), .second, .val (.long v17), .second, .val (.long v24), .second, .val (.long v31), .second, .val (.long v39), .second, .val (.ref b27), .val (.int v69), .val (.long v76), .second, .unset, .unset, .unset] [(.int (0 : Int32))])) t → Steps p.tables e below (s₁.setTop (entryFrame m #[(.long q1), (.long q2), (.long q3), (.long q4), (.long q5), (.long q6)] maxLocals)) t := fun t k => pre32 t (by
        show Steps p.tables e below (T29.setTop (mkF m 83 #[.val (.long q1), .second, .val (.long q2), .second, .val (.long q3), .second, .val (.long q4), .second, .val (.long q5), .second, .val (.long q6), .second, .val (.long v4), .second, .val (.long v10), .second, .val (.long v17), .second, .val (.long v24), .second, .val (.long v31), .second, .val (.long v39), .second, .val (.ref b27), .val (.int v69), .val (.long v76), .second, .unset, .unset, .unset] [(.int (lcmpW v39 v10))])) _
        refine XS.ifYes X29.here hx rfl (pc0 := 83) (pc' := 90) rfl (hb hby at_83) rfl ((if0 _ _).trans (tlt ((lw_gt v39 v10).mpr hc83)).2.2.1) (by decide) (by decide) ?_
        show Steps p.tables e below (T29.setTop (mkF m 90 #[.val (.long q1), .second, .val (.long q2), .second, .val (.long q3), .second, .val (.long q4), .second, .val (.long q5), .second, .val (.long q6), .second, .val (.long v4), .second, .val (.long v10), .second, .val (.long v17), .second, .val (.long v24), .second, .val (.long v31), .second, .val (.long v39), .second, .val (.ref b27), .val (.int v69), .val (.long v76), .second, .unset, .unset, .unset] [])) _
        refine XS.iconst X29.here hx rfl (hb hby at_90) ?_
        exact k)
      have q_z91_s0 : z91_s0 = (0 : Int32) := by rw [hz91_s0, if_pos hc83]
      refine ⟨_, _, X29, e29, N29, fun t k => ?_⟩
      rw [q_z91_s0] at k
      exact pre33 t k
    ·
      have pre34 : ∀ t, Steps p.tables e below (T29.setTop (mkF m 91 #[.val (.long q1), .second, .val (.long q2), .second, .val (.long q3), .second, .val (.long q4), .second, .val (.long q5), .second, .val (.long q6), .second, .val (.long v4), .second, .val (.long v10), .second, .val (.long v17), .second, .val (.long v24), .second, .val (.long v31), .second, .val (.long v39), .second, .val (.ref b27), .val (.int v69), .val (.long v76), .second, .unset, .unset, .unset] [(.int (1 : Int32))])) t → Steps p.tables e below (s₁.setTop (entryFrame m #[(.long q1), (.long q2), (.long q3), (.long q4), (.long q5), (.long q6)] maxLocals)) t := fun t k => pre32 t (by
        show Steps p.tables e below (T29.setTop (mkF m 83 #[.val (.long q1), .second, .val (.long q2), .second, .val (.long q3), .second, .val (.long q4), .second, .val (.long q5), .second, .val (.long q6), .second, .val (.long v4), .second, .val (.long v10), .second, .val (.long v17), .second, .val (.long v24), .second, .val (.long v31), .second, .val (.long v39), .second, .val (.ref b27), .val (.int v69), .val (.long v76), .second, .unset, .unset, .unset] [(.int (lcmpW v39 v10))])) _
        refine XS.ifNo X29.here hx rfl (hb hby at_83) rfl ((if0 _ _).trans (flt (fun q => hc83 ((lw_gt v39 v10).mp q))).2.2.1) ?_
        show Steps p.tables e below (T29.setTop (mkF m 86 #[.val (.long q1), .second, .val (.long q2), .second, .val (.long q3), .second, .val (.long q4), .second, .val (.long q5), .second, .val (.long q6), .second, .val (.long v4), .second, .val (.long v10), .second, .val (.long v17), .second, .val (.long v24), .second, .val (.long v31), .second, .val (.long v39), .second, .val (.ref b27), .val (.int v69), .val (.long v76), .second, .unset, .unset, .unset] [])) _
        refine XS.iconst X29.here hx rfl (hb hby at_86) ?_
        show Steps p.tables e below (T29.setTop (mkF m 87 #[.val (.long q1), .second, .val (.long q2), .second, .val (.long q3), .second, .val (.long q4), .second, .val (.long q5), .second, .val (.long q6), .second, .val (.long v4), .second, .val (.long v10), .second, .val (.long v17), .second, .val (.long v24), .second, .val (.long v31), .second, .val (.long v39), .second, .val (.ref b27), .val (.int v69), .val (.long v76), .second, .unset, .unset, .unset] [(.int (1 : Int32))])) _
        refine XS.goto X29.here hx rfl (pc0 := 87) (pc' := 91) rfl (hb hby at_87) (by decide) (by decide) ?_
        exact k)
      have q_z91_s0 : z91_s0 = (1 : Int32) := by rw [hz91_s0, if_neg hc83]
      refine ⟨_, _, X29, e29, N29, fun t k => ?_⟩
      rw [q_z91_s0] at k
      exact pre34 t k
  obtain ⟨_, _, ⟨T36, L36, k36, n36⟩, -, X36, ⟨Lc36, hQ36, l36, y36, z36⟩, st36⟩ := Jvm.LawKit.callS X35 hx (y := (⟨"java/lang/Math", "min", "(JJ)J"⟩ : MethodName)) hown (mvT hZ (hw _ (List.mem_of_getElem? (i := 32) rfl))) (mvT hZ (hw _ (List.mem_of_getElem? (i := 33) rfl))) (mvT hZ (hw _ (List.mem_of_getElem? (i := 34) rfl))) (mvT hZ (hw _ (List.mem_of_getElem? (i := 35) rfl))) (by decide) (backOf (W := 2) (rm6 l Z a0 hw [] v39 v17 T28.heap n0 Zs ) hZ (hw _ (List.mem_of_getElem? (i := 35) rfl)) (hw _ (List.mem_of_getElem? (i := 34) rfl)) (by decide) (by decide)) (g := (mkF m 99 #[.val (.long q1), .second, .val (.long q2), .second, .val (.long q3), .second, .val (.long q4), .second, .val (.long q5), .second, .val (.long q6), .second, .val (.long v4), .second, .val (.long v10), .second, .val (.long v17), .second, .val (.long v24), .second, .val (.long v31), .second, .val (.long v39), .second, .val (.ref b27), .val (.int v69), .val (.long v76), .second, .val (.int z91_s0), .unset, .unset] [(.long v17), (.long v39), (.long v76)])) rfl (by rw [hml]; rfl) (argsL := [(.long v39), (.long v17)]) (rest := [(.long v76)]) (lenOf pd_4 rfl) rfl (by show 2 * 0 + _ ≤ _; exact Nat.le_of_eq rfl) (hb hby at_99) (fun _ _ => ⟨rfl, e35, (by decide : 1 + 0 ≤ _), (by decide : 4 + 0 ≤ _)⟩)
  dsimp only [Pt.U, Pt.locs, Pt.cells, Pt.slots] at X36 l36 y36 z36 st36 hQ36
  subst l36 y36 z36
  obtain ⟨rfl, N36q, e36⟩ := hQ36
  have N36 := Fr.app N35 N36q
  have pre37 : ∀ t, Steps p.tables e below (T36.setTop (mkF m 103 #[.val (.long q1), .second, .val (.long q2), .second, .val (.long q3), .second, .val (.long q4), .second, .val (.long q5), .second, .val (.long q6), .second, .val (.long v4), .second, .val (.long v10), .second, .val (.long v17), .second, .val (.long v24), .second, .val (.long v31), .second, .val (.long v39), .second, .val (.ref b27), .val (.int v69), .val (.long v76), .second, .val (.int z91_s0), .unset, .unset] [(.int (lcmpW v76 (f6 v39 v17)))])) t → Steps p.tables e below (s₁.setTop (entryFrame m #[(.long q1), (.long q2), (.long q3), (.long q4), (.long q5), (.long q6)] maxLocals)) t := fun t k => pre35 t (by
    show Steps p.tables e below (T35.setTop (mkF m 91 #[.val (.long q1), .second, .val (.long q2), .second, .val (.long q3), .second, .val (.long q4), .second, .val (.long q5), .second, .val (.long q6), .second, .val (.long v4), .second, .val (.long v10), .second, .val (.long v17), .second, .val (.long v24), .second, .val (.long v31), .second, .val (.long v39), .second, .val (.ref b27), .val (.int v69), .val (.long v76), .second, .unset, .unset, .unset] [(.int z91_s0)])) _
    refine XS.istore X35.here hx rfl (hb hby at_91) rfl (l' := #[.val (.long q1), .second, .val (.long q2), .second, .val (.long q3), .second, .val (.long q4), .second, .val (.long q5), .second, .val (.long q6), .second, .val (.long v4), .second, .val (.long v10), .second, .val (.long v17), .second, .val (.long v24), .second, .val (.long v31), .second, .val (.long v39), .second, .val (.ref b27), .val (.int v69), .val (.long v76), .second, .val (.int z91_s0), .unset, .unset]) rfl ?_
    show Steps p.tables e below (T35.setTop (mkF m 93 #[.val (.long q1), .second, .val (.long q2), .second, .val (.long q3), .second, .val (.long q4), .second, .val (.long q5), .second, .val (.long q6), .second, .val (.long v4), .second, .val (.long v10), .second, .val (.long v17), .second, .val (.long v24), .second, .val (.long v31), .second, .val (.long v39), .second, .val (.ref b27), .val (.int v69), .val (.long v76), .second, .val (.int z91_s0), .unset, .unset] [])) _
    refine XS.lload X35.here hx rfl (hb hby at_93) rfl ?_
    show Steps p.tables e below (T35.setTop (mkF m 95 #[.val (.long q1), .second, .val (.long q2), .second, .val (.long q3), .second, .val (.long q4), .second, .val (.long q5), .second, .val (.long q6), .second, .val (.long v4), .second, .val (.long v10), .second, .val (.long v17), .second, .val (.long v24), .second, .val (.long v31), .second, .val (.long v39), .second, .val (.ref b27), .val (.int v69), .val (.long v76), .second, .val (.int z91_s0), .unset, .unset] [(.long v76)])) _
    refine XS.lload X35.here hx rfl (hb hby at_95) rfl ?_
    show Steps p.tables e below (T35.setTop (mkF m 97 #[.val (.long q1), .second, .val (.long q2), .second, .val (.long q3), .second, .val (.long q4), .second, .val (.long q5), .second, .val (.long q6), .second, .val (.long v4), .second, .val (.long v10), .second, .val (.long v17), .second, .val (.long v24), .second, .val (.long v31), .second, .val (.long v39), .second, .val (.ref b27), .val (.int v69), .val (.long v76), .second, .val (.int z91_s0), .unset, .unset] [(.long v39), (.long v76)])) _
    refine XS.lload X35.here hx rfl (hb hby at_97) rfl ?_
    show Steps p.tables e below (T35.setTop (mkF m 99 #[.val (.long q1), .second, .val (.long q2), .second, .val (.long q3), .second, .val (.long q4), .second, .val (.long q5), .second, .val (.long q6), .second, .val (.long v4), .second, .val (.long v10), .second, .val (.long v17), .second, .val (.long v24), .second, .val (.long v31), .second, .val (.long v39), .second, .val (.ref b27), .val (.int v69), .val (.long v76), .second, .val (.int z91_s0), .unset, .unset] [(.long v17), (.long v39), (.long v76)])) _
    refine st36 _ ?_
    show Steps p.tables e below (T36.setTop (mkF m 102 #[.val (.long q1), .second, .val (.long q2), .second, .val (.long q3), .second, .val (.long q4), .second, .val (.long q5), .second, .val (.long q6), .second, .val (.long v4), .second, .val (.long v10), .second, .val (.long v17), .second, .val (.long v24), .second, .val (.long v31), .second, .val (.long v39), .second, .val (.ref b27), .val (.int v69), .val (.long v76), .second, .val (.int z91_s0), .unset, .unset] [(.long (f6 v39 v17)), (.long v76)])) _
    refine XS.lcmp X36.here hx rfl (hb hby at_102) rfl ?_
    exact k)
  obtain ⟨z111_s0, hz111_s0⟩ : ∃ z : Int32, z = (if (f6 v39 v17) < v76 then (0 : Int32) else (1 : Int32)) := ⟨_, rfl⟩
  obtain ⟨T40, Lc40, X40, e40, N40, pre40⟩ : ∃ (T' : State) (locs' : List Loc), Stand p l e room_1 s m #[(.long q1), (.long q2), (.long q3), (.long q4), (.long q5), (.long q6)] below meth c T' locs' 1 4 ∧ T'.heap = T28.heap ∧ Fr n0 locs' ∧ ∀ t, Steps p.tables e below (T'.setTop (mkF m 111 #[.val (.long q1), .second, .val (.long q2), .second, .val (.long q3), .second, .val (.long q4), .second, .val (.long q5), .second, .val (.long q6), .second, .val (.long v4), .second, .val (.long v10), .second, .val (.long v17), .second, .val (.long v24), .second, .val (.long v31), .second, .val (.long v39), .second, .val (.ref b27), .val (.int v69), .val (.long v76), .second, .val (.int z91_s0), .unset, .unset] [(.int z111_s0)])) t → Steps p.tables e below (s₁.setTop (entryFrame m #[(.long q1), (.long q2), (.long q3), (.long q4), (.long q5), (.long q6)] maxLocals)) t := by
    by_cases hc103 : (f6 v39 v17) < v76
    ·
      have pre38 : ∀ t, Steps p.tables e below (T36.setTop (mkF m 111 #[.val (.long q1), .second, .val (.long q2), .second, .val (.long q3), .second, .val (.long q4), .second, .val (.long q5), .second, .val (.long q6), .second, .val (.long v4), .second, .val (.long v10), .second, .val (.long v17), .second, .val (.long v24), .second, .val (.long v31), .second, .val (.long v39), .second, .val (.ref b27), .val (.int v69), .val (.long v76), .second, .val (.int z91_s0), .unset, .unset] [(.int (0 : Int32))])) t → Steps p.tables e below (s₁.setTop (entryFrame m #[(.long q1), (.long q2), (.long q3), (.long q4), (.long q5), (.long q6)] maxLocals)) t := fun t k => pre37 t (by
        show Steps p.tables e below (T36.setTop (mkF m 103 #[.val (.long q1), .second, .val (.long q2), .second, .val (.long q3), .second, .val (.long q4), .second, .val (.long q5), .second, .val (.long q6), .second, .val (.long v4), .second, .val (.long v10), .second, .val (.long v17), .second, .val (.long v24), .second, .val (.long v31), .second, .val (.long v39), .second, .val (.ref b27), .val (.int v69), .val (.long v76), .second, .val (.int z91_s0), .unset, .unset] [(.int (lcmpW v76 (f6 v39 v17)))])) _
        refine XS.ifYes X36.here hx rfl (pc0 := 103) (pc' := 110) rfl (hb hby at_103) rfl ((if0 _ _).trans (tlt ((lw_gt v76 (f6 v39 v17)).mpr hc103)).2.2.1) (by decide) (by decide) ?_
        show Steps p.tables e below (T36.setTop (mkF m 110 #[.val (.long q1), .second, .val (.long q2), .second, .val (.long q3), .second, .val (.long q4), .second, .val (.long q5), .second, .val (.long q6), .second, .val (.long v4), .second, .val (.long v10), .second, .val (.long v17), .second, .val (.long v24), .second, .val (.long v31), .second, .val (.long v39), .second, .val (.ref b27), .val (.int v69), .val (.long v76), .second, .val (.int z91_s0), .unset, .unset] [])) _
        refine XS.iconst X36.here hx rfl (hb hby at_110) ?_
        exact k)
      have q_z111_s0 : z111_s0 = (0 : Int32) := by rw [hz111_s0, if_pos hc103]
      refine ⟨_, _, X36, e36, N36, fun t k => ?_⟩
      rw [q_z111_s0] at k
      exact pre38 t k
    ·
      have pre39 : ∀ t, Steps p.tables e below (T36.setTop (mkF m 111 #[.val (.long q1), .second, .val (.long q2), .second, .val (.long q3), .second, .val (.long q4), .second, .val (.long q5), .second, .val (.long q6), .second, .val (.long v4), .second, .val (.long v10), .second, .val (.long v17), .second, .val (.long v24), .second, .val (.long v31), .second, .val (.long v39), .second, .val (.ref b27), .val (.int v69), .val (.long v76), .second, .val (.int z91_s0), .unset, .unset] [(.int (1 : Int32))])) t → Steps p.tables e below (s₁.setTop (entryFrame m #[(.long q1), (.long q2), (.long q3), (.long q4), (.long q5), (.long q6)] maxLocals)) t := fun t k => pre37 t (by
        show Steps p.tables e below (T36.setTop (mkF m 103 #[.val (.long q1), .second, .val (.long q2), .second, .val (.long q3), .second, .val (.long q4), .second, .val (.long q5), .second, .val (.long q6), .second, .val (.long v4), .second, .val (.long v10), .second, .val (.long v17), .second, .val (.long v24), .second, .val (.long v31), .second, .val (.long v39), .second, .val (.ref b27), .val (.int v69), .val (.long v76), .second, .val (.int z91_s0), .unset, .unset] [(.int (lcmpW v76 (f6 v39 v17)))])) _
        refine XS.ifNo X36.here hx rfl (hb hby at_103) rfl ((if0 _ _).trans (flt (fun q => hc103 ((lw_gt v76 (f6 v39 v17)).mp q))).2.2.1) ?_
        show Steps p.tables e below (T36.setTop (mkF m 106 #[.val (.long q1), .second, .val (.long q2), .second, .val (.long q3), .second, .val (.long q4), .second, .val (.long q5), .second, .val (.long q6), .second, .val (.long v4), .second, .val (.long v10), .second, .val (.long v17), .second, .val (.long v24), .second, .val (.long v31), .second, .val (.long v39), .second, .val (.ref b27), .val (.int v69), .val (.long v76), .second, .val (.int z91_s0), .unset, .unset] [])) _
        refine XS.iconst X36.here hx rfl (hb hby at_106) ?_
        show Steps p.tables e below (T36.setTop (mkF m 107 #[.val (.long q1), .second, .val (.long q2), .second, .val (.long q3), .second, .val (.long q4), .second, .val (.long q5), .second, .val (.long q6), .second, .val (.long v4), .second, .val (.long v10), .second, .val (.long v17), .second, .val (.long v24), .second, .val (.long v31), .second, .val (.long v39), .second, .val (.ref b27), .val (.int v69), .val (.long v76), .second, .val (.int z91_s0), .unset, .unset] [(.int (1 : Int32))])) _
        refine XS.goto X36.here hx rfl (pc0 := 107) (pc' := 111) rfl (hb hby at_107) (by decide) (by decide) ?_
        exact k)
      have q_z111_s0 : z111_s0 = (1 : Int32) := by rw [hz111_s0, if_neg hc103]
      refine ⟨_, _, X36, e36, N36, fun t k => ?_⟩
      rw [q_z111_s0] at k
      exact pre39 t k
  have pre41 : ∀ t, Steps p.tables e below (T40.setTop (mkF m 115 #[.val (.long q1), .second, .val (.long q2), .second, .val (.long q3), .second, .val (.long q4), .second, .val (.long q5), .second, .val (.long q6), .second, .val (.long v4), .second, .val (.long v10), .second, .val (.long v17), .second, .val (.long v24), .second, .val (.long v31), .second, .val (.long v39), .second, .val (.ref b27), .val (.int v69), .val (.long v76), .second, .val (.int z91_s0), .val (.int z111_s0), .unset] [(.int z91_s0)])) t → Steps p.tables e below (s₁.setTop (entryFrame m #[(.long q1), (.long q2), (.long q3), (.long q4), (.long q5), (.long q6)] maxLocals)) t := fun t k => pre40 t (by
    show Steps p.tables e below (T40.setTop (mkF m 111 #[.val (.long q1), .second, .val (.long q2), .second, .val (.long q3), .second, .val (.long q4), .second, .val (.long q5), .second, .val (.long q6), .second, .val (.long v4), .second, .val (.long v10), .second, .val (.long v17), .second, .val (.long v24), .second, .val (.long v31), .second, .val (.long v39), .second, .val (.ref b27), .val (.int v69), .val (.long v76), .second, .val (.int z91_s0), .unset, .unset] [(.int z111_s0)])) _
    refine XS.istore X40.here hx rfl (hb hby at_111) rfl (l' := #[.val (.long q1), .second, .val (.long q2), .second, .val (.long q3), .second, .val (.long q4), .second, .val (.long q5), .second, .val (.long q6), .second, .val (.long v4), .second, .val (.long v10), .second, .val (.long v17), .second, .val (.long v24), .second, .val (.long v31), .second, .val (.long v39), .second, .val (.ref b27), .val (.int v69), .val (.long v76), .second, .val (.int z91_s0), .val (.int z111_s0), .unset]) rfl ?_
    show Steps p.tables e below (T40.setTop (mkF m 113 #[.val (.long q1), .second, .val (.long q2), .second, .val (.long q3), .second, .val (.long q4), .second, .val (.long q5), .second, .val (.long q6), .second, .val (.long v4), .second, .val (.long v10), .second, .val (.long v17), .second, .val (.long v24), .second, .val (.long v31), .second, .val (.long v39), .second, .val (.ref b27), .val (.int v69), .val (.long v76), .second, .val (.int z91_s0), .val (.int z111_s0), .unset] [])) _
    refine XS.iload X40.here hx rfl (hb hby at_113) rfl ?_
    exact k)
  obtain ⟨z128_s0, hz128_s0⟩ : ∃ z : Int32, z = (if z91_s0 = (0 : Int32) then (0 : Int32) else (if z111_s0 = (0 : Int32) then (0 : Int32) else (1 : Int32))) := ⟨_, rfl⟩
  obtain ⟨T46, Lc46, X46, e46, N46, pre46⟩ : ∃ (T' : State) (locs' : List Loc), Stand p l e room_1 s m #[(.long q1), (.long q2), (.long q3), (.long q4), (.long q5), (.long q6)] below meth c T' locs' 1 4 ∧ T'.heap = T28.heap ∧ Fr n0 locs' ∧ ∀ t, Steps p.tables e below (T'.setTop (mkF m 128 #[.val (.long q1), .second, .val (.long q2), .second, .val (.long q3), .second, .val (.long q4), .second, .val (.long q5), .second, .val (.long q6), .second, .val (.long v4), .second, .val (.long v10), .second, .val (.long v17), .second, .val (.long v24), .second, .val (.long v31), .second, .val (.long v39), .second, .val (.ref b27), .val (.int v69), .val (.long v76), .second, .val (.int z91_s0), .val (.int z111_s0), .unset] [(.int z128_s0)])) t → Steps p.tables e below (s₁.setTop (entryFrame m #[(.long q1), (.long q2), (.long q3), (.long q4), (.long q5), (.long q6)] maxLocals)) t := by
    by_cases hc115 : z91_s0 = (0 : Int32)
    ·
      have pre42 : ∀ t, Steps p.tables e below (T40.setTop (mkF m 128 #[.val (.long q1), .second, .val (.long q2), .second, .val (.long q3), .second, .val (.long q4), .second, .val (.long q5), .second, .val (.long q6), .second, .val (.long v4), .second, .val (.long v10), .second, .val (.long v17), .second, .val (.long v24), .second, .val (.long v31), .second, .val (.long v39), .second, .val (.ref b27), .val (.int v69), .val (.long v76), .second, .val (.int z91_s0), .val (.int z111_s0), .unset] [(.int (0 : Int32))])) t → Steps p.tables e below (s₁.setTop (entryFrame m #[(.long q1), (.long q2), (.long q3), (.long q4), (.long q5), (.long q6)] maxLocals)) t := fun t k => pre41 t (by
        show Steps p.tables e below (T40.setTop (mkF m 115 #[.val (.long q1), .second, .val (.long q2), .second, .val (.long q3), .second, .val (.long q4), .second, .val (.long q5), .second, .val (.long q6), .second, .val (.long v4), .second, .val (.long v10), .second, .val (.long v17), .second, .val (.long v24), .second, .val (.long v31), .second, .val (.long v39), .second, .val (.ref b27), .val (.int v69), .val (.long v76), .second, .val (.int z91_s0), .val (.int z111_s0), .unset] [(.int z91_s0)])) _
        refine XS.ifYes X40.here hx rfl (pc0 := 115) (pc' := 127) rfl (hb hby at_115) rfl ((if0 _ _).trans (teq hc115).1) (by decide) (by decide) ?_
        show Steps p.tables e below (T40.setTop (mkF m 127 #[.val (.long q1), .second, .val (.long q2), .second, .val (.long q3), .second, .val (.long q4), .second, .val (.long q5), .second, .val (.long q6), .second, .val (.long v4), .second, .val (.long v10), .second, .val (.long v17), .second, .val (.long v24), .second, .val (.long v31), .second, .val (.long v39), .second, .val (.ref b27), .val (.int v69), .val (.long v76), .second, .val (.int z91_s0), .val (.int z111_s0), .unset] [])) _
        refine XS.iconst X40.here hx rfl (hb hby at_127) ?_
        exact k)
      have q_z128_s0 : z128_s0 = (0 : Int32) := by rw [hz128_s0, if_pos hc115]
      refine ⟨_, _, X40, e40, N40, fun t k => ?_⟩
      rw [q_z128_s0] at k
      exact pre42 t k
    ·
      have pre43 : ∀ t, Steps p.tables e below (T40.setTop (mkF m 120 #[.val (.long q1), .second, .val (.long q2), .second, .val (.long q3), .second, .val (.long q4), .second, .val (.long q5), .second, .val (.long q6), .second, .val (.long v4), .second, .val (.long v10), .second, .val (.long v17), .second, .val (.long v24), .second, .val (.long v31), .second, .val (.long v39), .second, .val (.ref b27), .val (.int v69), .val (.long v76), .second, .val (.int z91_s0), .val (.int z111_s0), .unset] [(.int z111_s0)])) t → Steps p.tables e below (s₁.setTop (entryFrame m #[(.long q1), (.long q2), (.long q3), (.long q4), (.long q5), (.long q6)] maxLocals)) t := fun t k => pre41 t (by
        show Steps p.tables e below (T40.setTop (mkF m 115 #[.val (.long q1), .second, .val (.long q2), .second, .val (.long q3), .second, .val (.long q4), .second, .val (.long q5), .second, .val (.long q6), .second, .val (.long v4), .second, .val (.long v10), .second, .val (.long v17), .second, .val (.long v24), .second, .val (.long v31), .second, .val (.long v39), .second, .val (.ref b27), .val (.int v69), .val (.long v76), .second, .val (.int z91_s0), .val (.int z111_s0), .unset] [(.int z91_s0)])) _
        refine XS.ifNo X40.here hx rfl (hb hby at_115) rfl ((if0 _ _).trans (feq hc115).1) ?_
        show Steps p.tables e below (T40.setTop (mkF m 118 #[.val (.long q1), .second, .val (.long q2), .second, .val (.long q3), .second, .val (.long q4), .second, .val (.long q5), .second, .val (.long q6), .second, .val (.long v4), .second, .val (.long v10), .second, .val (.long v17), .second, .val (.long v24), .second, .val (.long v31), .second, .val (.long v39), .second, .val (.ref b27), .val (.int v69), .val (.long v76), .second, .val (.int z91_s0), .val (.int z111_s0), .unset] [])) _
        refine XS.iload X40.here hx rfl (hb hby at_118) rfl ?_
        exact k)
      by_cases hc120 : z111_s0 = (0 : Int32)
      ·
        have pre44 : ∀ t, Steps p.tables e below (T40.setTop (mkF m 128 #[.val (.long q1), .second, .val (.long q2), .second, .val (.long q3), .second, .val (.long q4), .second, .val (.long q5), .second, .val (.long q6), .second, .val (.long v4), .second, .val (.long v10), .second, .val (.long v17), .second, .val (.long v24), .second, .val (.long v31), .second, .val (.long v39), .second, .val (.ref b27), .val (.int v69), .val (.long v76), .second, .val (.int z91_s0), .val (.int z111_s0), .unset] [(.int (0 : Int32))])) t → Steps p.tables e below (s₁.setTop (entryFrame m #[(.long q1), (.long q2), (.long q3), (.long q4), (.long q5), (.long q6)] maxLocals)) t := fun t k => pre43 t (by
          show Steps p.tables e below (T40.setTop (mkF m 120 #[.val (.long q1), .second, .val (.long q2), .second, .val (.long q3), .second, .val (.long q4), .second, .val (.long q5), .second, .val (.long q6), .second, .val (.long v4), .second, .val (.long v10), .second, .val (.long v17), .second, .val (.long v24), .second, .val (.long v31), .second, .val (.long v39), .second, .val (.ref b27), .val (.int v69), .val (.long v76), .second, .val (.int z91_s0), .val (.int z111_s0), .unset] [(.int z111_s0)])) _
          refine XS.ifYes X40.here hx rfl (pc0 := 120) (pc' := 127) rfl (hb hby at_120) rfl ((if0 _ _).trans (teq hc120).1) (by decide) (by decide) ?_
          show Steps p.tables e below (T40.setTop (mkF m 127 #[.val (.long q1), .second, .val (.long q2), .second, .val (.long q3), .second, .val (.long q4), .second, .val (.long q5), .second, .val (.long q6), .second, .val (.long v4), .second, .val (.long v10), .second, .val (.long v17), .second, .val (.long v24), .second, .val (.long v31), .second, .val (.long v39), .second, .val (.ref b27), .val (.int v69), .val (.long v76), .second, .val (.int z91_s0), .val (.int z111_s0), .unset] [])) _
          refine XS.iconst X40.here hx rfl (hb hby at_127) ?_
          exact k)
        have q_z128_s0 : z128_s0 = (0 : Int32) := by rw [hz128_s0, if_neg hc115, if_pos hc120]
        refine ⟨_, _, X40, e40, N40, fun t k => ?_⟩
        rw [q_z128_s0] at k
        exact pre44 t k
      ·
        have pre45 : ∀ t, Steps p.tables e below (T40.setTop (mkF m 128 #[.val (.long q1), .second, .val (.long q2), .second, .val (.long q3), .second, .val (.long q4), .second, .val (.long q5), .second, .val (.long q6), .second, .val (.long v4), .second, .val (.long v10), .second, .val (.long v17), .second, .val (.long v24), .second, .val (.long v31), .second, .val (.long v39), .second, .val (.ref b27), .val (.int v69), .val (.long v76), .second, .val (.int z91_s0), .val (.int z111_s0), .unset] [(.int (1 : Int32))])) t → Steps p.tables e below (s₁.setTop (entryFrame m #[(.long q1), (.long q2), (.long q3), (.long q4), (.long q5), (.long q6)] maxLocals)) t := fun t k => pre43 t (by
          show Steps p.tables e below (T40.setTop (mkF m 120 #[.val (.long q1), .second, .val (.long q2), .second, .val (.long q3), .second, .val (.long q4), .second, .val (.long q5), .second, .val (.long q6), .second, .val (.long v4), .second, .val (.long v10), .second, .val (.long v17), .second, .val (.long v24), .second, .val (.long v31), .second, .val (.long v39), .second, .val (.ref b27), .val (.int v69), .val (.long v76), .second, .val (.int z91_s0), .val (.int z111_s0), .unset] [(.int z111_s0)])) _
          refine XS.ifNo X40.here hx rfl (hb hby at_120) rfl ((if0 _ _).trans (feq hc120).1) ?_
          show Steps p.tables e below (T40.setTop (mkF m 123 #[.val (.long q1), .second, .val (.long q2), .second, .val (.long q3), .second, .val (.long q4), .second, .val (.long q5), .second, .val (.long q6), .second, .val (.long v4), .second, .val (.long v10), .second, .val (.long v17), .second, .val (.long v24), .second, .val (.long v31), .second, .val (.long v39), .second, .val (.ref b27), .val (.int v69), .val (.long v76), .second, .val (.int z91_s0), .val (.int z111_s0), .unset] [])) _
          refine XS.iconst X40.here hx rfl (hb hby at_123) ?_
          show Steps p.tables e below (T40.setTop (mkF m 124 #[.val (.long q1), .second, .val (.long q2), .second, .val (.long q3), .second, .val (.long q4), .second, .val (.long q5), .second, .val (.long q6), .second, .val (.long v4), .second, .val (.long v10), .second, .val (.long v17), .second, .val (.long v24), .second, .val (.long v31), .second, .val (.long v39), .second, .val (.ref b27), .val (.int v69), .val (.long v76), .second, .val (.int z91_s0), .val (.int z111_s0), .unset] [(.int (1 : Int32))])) _
          refine XS.goto X40.here hx rfl (pc0 := 124) (pc' := 128) rfl (hb hby at_124) (by decide) (by decide) ?_
          exact k)
        have q_z128_s0 : z128_s0 = (1 : Int32) := by rw [hz128_s0, if_neg hc115, if_neg hc120]
        refine ⟨_, _, X40, e40, N40, fun t k => ?_⟩
        rw [q_z128_s0] at k
        exact pre45 t k
  have pre47 : ∀ t, Steps p.tables e below (T46.setTop (mkF m 134 #[.val (.long q1), .second, .val (.long q2), .second, .val (.long q3), .second, .val (.long q4), .second, .val (.long q5), .second, .val (.long q6), .second, .val (.long v4), .second, .val (.long v10), .second, .val (.long v17), .second, .val (.long v24), .second, .val (.long v31), .second, .val (.long v39), .second, .val (.ref b27), .val (.int v69), .val (.long v76), .second, .val (.int z91_s0), .val (.int z111_s0), .val (.int z128_s0)] [(.int z128_s0), (.int v69)])) t → Steps p.tables e below (s₁.setTop (entryFrame m #[(.long q1), (.long q2), (.long q3), (.long q4), (.long q5), (.long q6)] maxLocals)) t := fun t k => pre46 t (by
    show Steps p.tables e below (T46.setTop (mkF m 128 #[.val (.long q1), .second, .val (.long q2), .second, .val (.long q3), .second, .val (.long q4), .second, .val (.long q5), .second, .val (.long q6), .second, .val (.long v4), .second, .val (.long v10), .second, .val (.long v17), .second, .val (.long v24), .second, .val (.long v31), .second, .val (.long v39), .second, .val (.ref b27), .val (.int v69), .val (.long v76), .second, .val (.int z91_s0), .val (.int z111_s0), .unset] [(.int z128_s0)])) _
    refine XS.istore X46.here hx rfl (hb hby at_128) rfl (l' := #[.val (.long q1), .second, .val (.long q2), .second, .val (.long q3), .second, .val (.long q4), .second, .val (.long q5), .second, .val (.long q6), .second, .val (.long v4), .second, .val (.long v10), .second, .val (.long v17), .second, .val (.long v24), .second, .val (.long v31), .second, .val (.long v39), .second, .val (.ref b27), .val (.int v69), .val (.long v76), .second, .val (.int z91_s0), .val (.int z111_s0), .val (.int z128_s0)]) rfl ?_
    show Steps p.tables e below (T46.setTop (mkF m 130 #[.val (.long q1), .second, .val (.long q2), .second, .val (.long q3), .second, .val (.long q4), .second, .val (.long q5), .second, .val (.long q6), .second, .val (.long v4), .second, .val (.long v10), .second, .val (.long v17), .second, .val (.long v24), .second, .val (.long v31), .second, .val (.long v39), .second, .val (.ref b27), .val (.int v69), .val (.long v76), .second, .val (.int z91_s0), .val (.int z111_s0), .val (.int z128_s0)] [])) _
    refine XS.iload X46.here hx rfl (hb hby at_130) rfl ?_
    show Steps p.tables e below (T46.setTop (mkF m 132 #[.val (.long q1), .second, .val (.long q2), .second, .val (.long q3), .second, .val (.long q4), .second, .val (.long q5), .second, .val (.long q6), .second, .val (.long v4), .second, .val (.long v10), .second, .val (.long v17), .second, .val (.long v24), .second, .val (.long v31), .second, .val (.long v39), .second, .val (.ref b27), .val (.int v69), .val (.long v76), .second, .val (.int z91_s0), .val (.int z111_s0), .val (.int z128_s0)] [(.int v69)])) _
    refine XS.iload X46.here hx rfl (hb hby at_132) rfl ?_
    exact k)
  obtain ⟨z142_s0, hz142_s0⟩ : ∃ z : Int32, z = (if v69 = z128_s0 then (1 : Int32) else (0 : Int32)) := ⟨_, rfl⟩
  obtain ⟨T50, Lc50, X50, e50, N50, pre50⟩ : ∃ (T' : State) (locs' : List Loc), Stand p l e room_1 s m #[(.long q1), (.long q2), (.long q3), (.long q4), (.long q5), (.long q6)] below meth c T' locs' 1 4 ∧ T'.heap = T28.heap ∧ Fr n0 locs' ∧ ∀ t, Steps p.tables e below (T'.setTop (mkF m 142 #[.val (.long q1), .second, .val (.long q2), .second, .val (.long q3), .second, .val (.long q4), .second, .val (.long q5), .second, .val (.long q6), .second, .val (.long v4), .second, .val (.long v10), .second, .val (.long v17), .second, .val (.long v24), .second, .val (.long v31), .second, .val (.long v39), .second, .val (.ref b27), .val (.int v69), .val (.long v76), .second, .val (.int z91_s0), .val (.int z111_s0), .val (.int z128_s0)] [(.int z142_s0)])) t → Steps p.tables e below (s₁.setTop (entryFrame m #[(.long q1), (.long q2), (.long q3), (.long q4), (.long q5), (.long q6)] maxLocals)) t := by
    by_cases hc134 : v69 = z128_s0
    ·
      have pre48 : ∀ t, Steps p.tables e below (T46.setTop (mkF m 142 #[.val (.long q1), .second, .val (.long q2), .second, .val (.long q3), .second, .val (.long q4), .second, .val (.long q5), .second, .val (.long q6), .second, .val (.long v4), .second, .val (.long v10), .second, .val (.long v17), .second, .val (.long v24), .second, .val (.long v31), .second, .val (.long v39), .second, .val (.ref b27), .val (.int v69), .val (.long v76), .second, .val (.int z91_s0), .val (.int z111_s0), .val (.int z128_s0)] [(.int (1 : Int32))])) t → Steps p.tables e below (s₁.setTop (entryFrame m #[(.long q1), (.long q2), (.long q3), (.long q4), (.long q5), (.long q6)] maxLocals)) t := fun t k => pre47 t (by
        show Steps p.tables e below (T46.setTop (mkF m 134 #[.val (.long q1), .second, .val (.long q2), .second, .val (.long q3), .second, .val (.long q4), .second, .val (.long q5), .second, .val (.long q6), .second, .val (.long v4), .second, .val (.long v10), .second, .val (.long v17), .second, .val (.long v24), .second, .val (.long v31), .second, .val (.long v39), .second, .val (.ref b27), .val (.int v69), .val (.long v76), .second, .val (.int z91_s0), .val (.int z111_s0), .val (.int z128_s0)] [(.int z128_s0), (.int v69)])) _
        refine XS.icmpNo X46.here hx rfl (hb hby at_134) rfl (teq hc134).2 ?_
        show Steps p.tables e below (T46.setTop (mkF m 137 #[.val (.long q1), .second, .val (.long q2), .second, .val (.long q3), .second, .val (.long q4), .second, .val (.long q5), .second, .val (.long q6), .second, .val (.long v4), .second, .val (.long v10), .second, .val (.long v17), .second, .val (.long v24), .second, .val (.long v31), .second, .val (.long v39), .second, .val (.ref b27), .val (.int v69), .val (.long v76), .second, .val (.int z91_s0), .val (.int z111_s0), .val (.int z128_s0)] [])) _
        refine XS.iconst X46.here hx rfl (hb hby at_137) ?_
        show Steps p.tables e below (T46.setTop (mkF m 138 #[.val (.long q1), .second, .val (.long q2), .second, .val (.long q3), .second, .val (.long q4), .second, .val (.long q5), .second, .val (.long q6), .second, .val (.long v4), .second, .val (.long v10), .second, .val (.long v17), .second, .val (.long v24), .second, .val (.long v31), .second, .val (.long v39), .second, .val (.ref b27), .val (.int v69), .val (.long v76), .second, .val (.int z91_s0), .val (.int z111_s0), .val (.int z128_s0)] [(.int (1 : Int32))])) _
        refine XS.goto X46.here hx rfl (pc0 := 138) (pc' := 142) rfl (hb hby at_138) (by decide) (by decide) ?_
        exact k)
      have q_z142_s0 : z142_s0 = (1 : Int32) := by rw [hz142_s0, if_pos hc134]
      refine ⟨_, _, X46, e46, N46, fun t k => ?_⟩
      rw [q_z142_s0] at k
      exact pre48 t k
    ·
      have pre49 : ∀ t, Steps p.tables e below (T46.setTop (mkF m 142 #[.val (.long q1), .second, .val (.long q2), .second, .val (.long q3), .second, .val (.long q4), .second, .val (.long q5), .second, .val (.long q6), .second, .val (.long v4), .second, .val (.long v10), .second, .val (.long v17), .second, .val (.long v24), .second, .val (.long v31), .second, .val (.long v39), .second, .val (.ref b27), .val (.int v69), .val (.long v76), .second, .val (.int z91_s0), .val (.int z111_s0), .val (.int z128_s0)] [(.int (0 : Int32))])) t → Steps p.tables e below (s₁.setTop (entryFrame m #[(.long q1), (.long q2), (.long q3), (.long q4), (.long q5), (.long q6)] maxLocals)) t := fun t k => pre47 t (by
        show Steps p.tables e below (T46.setTop (mkF m 134 #[.val (.long q1), .second, .val (.long q2), .second, .val (.long q3), .second, .val (.long q4), .second, .val (.long q5), .second, .val (.long q6), .second, .val (.long v4), .second, .val (.long v10), .second, .val (.long v17), .second, .val (.long v24), .second, .val (.long v31), .second, .val (.long v39), .second, .val (.ref b27), .val (.int v69), .val (.long v76), .second, .val (.int z91_s0), .val (.int z111_s0), .val (.int z128_s0)] [(.int z128_s0), (.int v69)])) _
        refine XS.icmpYes X46.here hx rfl (pc0 := 134) (pc' := 141) rfl (hb hby at_134) rfl (feq hc134).2 (by decide) (by decide) ?_
        show Steps p.tables e below (T46.setTop (mkF m 141 #[.val (.long q1), .second, .val (.long q2), .second, .val (.long q3), .second, .val (.long q4), .second, .val (.long q5), .second, .val (.long q6), .second, .val (.long v4), .second, .val (.long v10), .second, .val (.long v17), .second, .val (.long v24), .second, .val (.long v31), .second, .val (.long v39), .second, .val (.ref b27), .val (.int v69), .val (.long v76), .second, .val (.int z91_s0), .val (.int z111_s0), .val (.int z128_s0)] [])) _
        refine XS.iconst X46.here hx rfl (hb hby at_141) ?_
        exact k)
      have q_z142_s0 : z142_s0 = (0 : Int32) := by rw [hz142_s0, if_neg hc134]
      refine ⟨_, _, X46, e46, N46, fun t k => ?_⟩
      rw [q_z142_s0] at k
      exact pre49 t k
  obtain rfl : z142_s0 = (1 : Int32) := own_law hv4 hv10 hv17 hv24 hv31 hv39 hv69 hv76 hz91_s0 hz111_s0 hz128_s0 hz142_s0
  obtain ⟨fs, hr, hrun, hended, hW, hsame⟩ := X50.leave (v := some (.int (1 : Int32))) (fun h => by rw [Bd.returns] at h; cases h)
  refine ⟨_, _, pre50 _ ?_, hrun, hended, _, _, rfl, ?_, ⟨_, rfl⟩, hW, hsame.mono (by decide) (by decide)⟩
  · show Steps p.tables e below (T50.setTop (mkF m 142 #[.val (.long q1), .second, .val (.long q2), .second, .val (.long q3), .second, .val (.long q4), .second, .val (.long q5), .second, .val (.long q6), .second, .val (.long v4), .second, .val (.long v10), .second, .val (.long v17), .second, .val (.long v24), .second, .val (.long v31), .second, .val (.long v39), .second, .val (.ref b27), .val (.int v69), .val (.long v76), .second, .val (.int z91_s0), .val (.int z111_s0), .val (.int z128_s0)] [(.int (1 : Int32))])) _
    exact retN X50 hx (t := .boolean) Bd.returns (by simp) (hb hby at_142) hr
  · show Q0 Z q1 q2 q3 q4 q5 q6 h0 n0 _ T50.heap _
    rw [e50]
    exact ⟨rfl, N50⟩
set_option maxRecDepth 65536 in
set_option maxHeartbeats 40000000 in
theorem comes_1 {Post : Tables → Env → Array Value → State → Outcome → State → Prop} (hpost : ∀ tb e args s v u, (limb_1_1.after args s (.returned v) u = true ∧ limb_1_2.after args s (.returned v) u = true ∧ True) → FrameEnd s (.returned v) u (Jvm.fieldLocs frame_1_writes args s ++ Jvm.arrayLocs frame_1_arrays args s ++ Jvm.staticLocs frame_1_statics s) 16 128 → Post tb e args s (.returned v) u) :
    ArmFor flags0 classFile x code maxLocals ret World_1 tables_1 room_1 Calls_1 rest_1 Pre_1 Post := by
  intro l hfl _ _ p e ha hc hk s m args below hf hA hF happ hP
  obtain ⟨hcalls, hrest, hpre⟩ := hP
  obtain ⟨-, -, -, hnamed, -, -, -, hat⟩ := (Spec.applies_iff hf).mp happ
  obtain ⟨hg, hn⟩ := and_e (Cond.before_iff.mp (show (Jvm.Cond.and given_1 narrow_1).before args s = true from hpre))
  obtain ⟨hcount, ha0⟩ := and_e hg
  obtain ⟨ga0, gb0⟩ := and_e ha0
  obtain ⟨ga1, gb1⟩ := and_e gb0
  obtain ⟨ga2, gb2⟩ := and_e gb1
  obtain ⟨ga3, gb3⟩ := and_e gb2
  obtain ⟨ga4, gb4⟩ := and_e gb3
  obtain ⟨w0, w1, w2, w3, w4, w5, rfl⟩ : ∃ w0 w1 w2 w3 w4 w5 : Value, args = #[w0, w1, w2, w3, w4, w5] := by
    have hs : args.size = 6 := by simpa [Cond.value, given_1] using hcount
    obtain ⟨L⟩ := args
    match L, hs with
    | [w0, w1, w2, w3, w4, w5], _ => exact ⟨w0, w1, w2, w3, w4, w5, rfl⟩
  have hw := fun d (hd : d ∈ tables_1) => atoms_spec (ws := Jvm.Cond.code x code maxLocals ret :: tables_1) hat d (List.mem_cons_of_mem _ hd)
  have hfit : Fit s := fun {y c} hc i hi => by
    obtain ⟨ha, rfl⟩ := Array.getElem?_eq_some_iff.mp hc
    have q := List.all_eq_true.mp ((Array.all_eq_true_iff_forall_mem.mp hF) _ (Array.getElem_mem ha)) i (List.mem_range.mpr hi)
    simpa [Array.getElem?_eq_getElem hi] using q
  obtain ⟨i0, ei0⟩ := isL_v ga0
  obtain rfl : w0 = (.long i0) := Option.some.inj ei0
  obtain ⟨i1, ei1⟩ := isL_v ga1
  obtain rfl : w1 = (.long i1) := Option.some.inj ei1
  obtain ⟨i2, ei2⟩ := isL_v ga2
  obtain rfl : w2 = (.long i2) := Option.some.inj ei2
  obtain ⟨i3, ei3⟩ := isL_v ga3
  obtain rfl : w3 = (.long i3) := Option.some.inj ei3
  obtain ⟨i4, ei4⟩ := isL_v ga4
  obtain rfl : w4 = (.long i4) := Option.some.inj ei4
  obtain ⟨i5, ei5⟩ := isL_v gb4
  obtain rfl : w5 = (.long i5) := Option.some.inj ei5
  obtain ⟨n, o, h1, h2, h3, _, L, rfl, ⟨rfl, N⟩, hq⟩ := rm0 l s _ hw tables_1 i0 i1 i2 i3 i4 i5 s.heap s.heap.size (Nat.le_refl _)  p e ha hc hk s m _ below hf ((Spec.applies_iff_loose hf).mp happ).1 ⟨rfl, State.Warmed39.refl s, rfl⟩ trivial
  refine ⟨n, _, h1, h2, h3, hpost _ _ _ _ _ _ ⟨Cond.after_iff.mpr rfl, Cond.after_iff.mpr (eq_i res_at (Term.int_eval (1)) rfl), trivial⟩ ⟨hq.1, hq.2.1, (hq.2.2.sift fun y hy => Or.inr (N y hy)).mono (by decide) (by decide)⟩⟩
theorem main_1_1 : Claimed_1_1 := comes_1 fun _ _ _ _ _ _ h hF => ⟨h.1, hF⟩
theorem main_1_2 : Claimed_1_2 := comes_1 fun _ _ _ _ _ _ h hF => ⟨h.2.1, hF⟩
end Jvm.Pilot.@@N@@
namespace Jvm.Pilot.@@N@@
open Jvm Jvm.ClassFile Sem Op Lib Jvm.Free Jvm.Stand Jvm.Pilot.@@N@@.Jvm.D
/-! MADE BY PROGRAM (witnessworld.py) out of the Statement's table words and the real class files: 12 classes; the members and pool entries that the words name. The judged class is class 1, her method 2. -/
namespace start1
open Jvm.ClassFile
def u (s : String) : CpInfo := .utf8 (stringToUtf16 s)
/-- a pool by its gaps: so many unusable entries, then the entry; so many at the end -/
def gap : Nat → List CpInfo → List CpInfo
  | 0, r => r
  | n + 1, r => .unusable :: gap n r
def poolList (es : List (Nat × CpInfo)) (last : Nat) : List CpInfo := es.foldr (fun e r => gap e.1 (e.2 :: r)) (gap last [])
def pool (es : List (Nat × CpInfo)) (last : Nat) : Array CpInfo := ⟨poolList es last⟩
def fileOf (pool : Array CpInfo) (this : Nat) (attrs : Array Attribute := #[]) (ms : Array MethodInfo := #[]) (fl : Nat := 33) (sup : Nat := 0) (ifs : Array Nat := #[]) (fds : Array FieldInfo := #[]) : ClassFile where
  minorVersion := 0
  majorVersion := 65
  constantPool := pool
  accessFlags := fl
  thisClass := this
  superClass := sup
  interfaces := ifs
  fields := fds
  methods := ms
  attributes := attrs
def plain (name : String) (sup : Option ClassId) : Class where
  name := name
  kind := .ordinary
  loader := none
  accessFlags := 33
  super := sup
  interfaces := #[]
  cf := none
  fields := #[]
  methods := #[]
  instanceTypes := #[]
  staticTypes := #[]
  resolved := #[]
  callSites := []
  init := .initialized
  statics := none
  mirror := none

def pool0 : Array CpInfo := pool [(5, u "<init>"), (0, u "()V"), (1, .class_ 10), (1, u "java/lang/Object")] 113

def k0c0 : Code := { maxStack := 0, maxLocals := 1, code := object_method_1_code, exceptionTable := #[], attributes := #[] }
def k0m0 : Method := { name := "<init>", desc := "()V", sig := { parameters := [], returnType := none }, accessFlags := 1, code := some k0c0 }
/-- java/lang/Object -/
def k0 : Class := { plain "java/lang/Object" none with
  accessFlags := 33
  interfaces := #[]
  cf := some (fileOf pool0 8 #[] #[{ accessFlags := 1, nameIndex := 5, descriptorIndex := 6, attributes := #[] }] 33 0 #[] #[])
  fields := #[]
  methods := #[k0m0]
  instanceTypes := #[]
  staticTypes := #[]
  resolved := Array.replicate 124 none
  statics := none }

def pool1 : Array CpInfo := pool [(2, .class_ 4), (1, u "java/lang/Object"), (0, u "<init>"), (0, u "()V"), (2, .long 9223372036854775807), (1, .methodref 12 13), (0, .class_ 14), (0, .nameAndType 15 16), (0, u "com/example/verschil/verschil/repository/ClientGroupFollowsDeltasPinLaw"), (0, u "pos"), (0, u "(J)J"), (0, .class_ 18), (0, u "com/example/verschil/verschil/repository/RetentionSimulator$ClientGroup"), (0, .methodref 17 20), (0, .nameAndType 5 21), (0, u "(JJJJ)V"), (0, .methodref 17 23), (0, .nameAndType 24 25), (0, u "followsDeltas"), (0, u "(JJJ)Z"), (0, .methodref 27 28), (0, .class_ 29), (0, .nameAndType 30 31), (0, u "java/lang/Math"), (0, u "min"), (0, u "(JJ)J"), (3, u "law"), (0, u "(JJJJJJ)Z")] 6

def k1m0 : Method := { name := "<init>", desc := "()V", sig := { parameters := [], returnType := none }, accessFlags := 2, code := none }
def k1c1 : Code := { maxStack := 4, maxLocals := 4, code := method_2_code, exceptionTable := #[], attributes := #[] }
def k1m1 : Method := { name := "pos", desc := "(J)J", sig := { parameters := [.long], returnType := some .long }, accessFlags := 10, code := some k1c1 }
def k1c2 : Code := { maxStack := 10, maxLocals := 31, code := code, exceptionTable := #[], attributes := #[] }
def k1m2 : Method := { name := "law", desc := "(JJJJJJ)Z", sig := { parameters := [.long, .long, .long, .long, .long, .long], returnType := some .boolean }, accessFlags := 9, code := some k1c2 }
/-- com/example/verschil/verschil/repository/ClientGroupFollowsDeltasPinLaw -/
def k1 : Class := { plain "com/example/verschil/verschil/repository/ClientGroupFollowsDeltasPinLaw" (some 0) with
  accessFlags := 49
  interfaces := #[]
  cf := some (fileOf pool1 12 #[] #[{ accessFlags := 2, nameIndex := 5, descriptorIndex := 6, attributes := #[] }, { accessFlags := 10, nameIndex := 15, descriptorIndex := 16, attributes := #[] }, { accessFlags := 9, nameIndex := 35, descriptorIndex := 36, attributes := #[] }] 49 2 #[] #[])
  fields := #[]
  methods := #[k1m0, k1m1, k1m2]
  instanceTypes := #[]
  staticTypes := #[]
  resolved := Array.replicate 43 none
  statics := none }

def pool2 : Array CpInfo := pool [(1, .methodref 2 3), (0, .class_ 4), (0, .nameAndType 5 6), (0, u "java/lang/Object"), (0, u "<init>"), (0, u "()V"), (0, .class_ 8), (0, u "java/lang/Record")] 13

def k2c0 : Code := { maxStack := 1, maxLocals := 1, code := jdk_30_method_1_code, exceptionTable := #[], attributes := #[] }
def k2m0 : Method := { name := "<init>", desc := "()V", sig := { parameters := [], returnType := none }, accessFlags := 4, code := some k2c0 }
/-- java/lang/Record -/
def k2 : Class := { plain "java/lang/Record" (some 0) with
  accessFlags := 1057
  interfaces := #[]
  cf := some (fileOf pool2 7 #[] #[{ accessFlags := 4, nameIndex := 5, descriptorIndex := 6, attributes := #[] }] 1057 2 #[] #[])
  fields := #[]
  methods := #[k2m0]
  instanceTypes := #[]
  staticTypes := #[]
  resolved := Array.replicate 22 none
  statics := none }

def pool3 : Array CpInfo := pool [(3, .methodref 4 5), (0, .class_ 6), (0, .nameAndType 7 8), (0, u "java/lang/Record"), (0, u "<init>"), (0, u "()V"), (10, .fieldref 20 21), (0, .class_ 22), (0, .nameAndType 23 24), (0, u "com/example/verschil/verschil/repository/RetentionSimulator$ClientGroup"), (0, u "count"), (0, u "J"), (0, .fieldref 20 26), (0, .nameAndType 27 24), (0, u "interval"), (0, .fieldref 20 29), (0, .nameAndType 30 24), (0, u "listLimit"), (0, .fieldref 20 32), (0, .nameAndType 33 24), (0, u "chainLimit"), (4, u "(JJJJ)V"), (0, .interfaceMethodref 40 41), (0, .class_ 42), (0, .nameAndType 43 44), (0, u "com/example/verschil/verschil/repository/RetentionPolicy"), (0, u "reachedByDeltas"), (0, u "(JJJ)Z"), (12, u "NO_LIMIT"), (6, u "followsDeltas"), (7, .class_ 73), (0, u "com/example/verschil/verschil/repository/RetentionSimulator")] 32

def k3c0 : Code := { maxStack := 6, maxLocals := 9, code := prog_54_method_1_code, exceptionTable := #[], attributes := #[] }
def k3m0 : Method := { name := "<init>", desc := "(JJJJ)V", sig := { parameters := [.long, .long, .long, .long], returnType := none }, accessFlags := 1, code := some k3c0 }
def k3c1 : Code := { maxStack := 6, maxLocals := 7, code := prog_54_method_3_code, exceptionTable := #[], attributes := #[] }
def k3m1 : Method := { name := "followsDeltas", desc := "(JJJ)Z", sig := { parameters := [.long, .long, .long], returnType := some .boolean }, accessFlags := 0, code := some k3c1 }
/-- com/example/verschil/verschil/repository/RetentionSimulator$ClientGroup -/
def k3 : Class := { plain "com/example/verschil/verschil/repository/RetentionSimulator$ClientGroup" (some 2) with
  accessFlags := 49
  interfaces := #[]
  cf := some (fileOf pool3 20 #[.nestHost 72] #[{ accessFlags := 1, nameIndex := 7, descriptorIndex := 38, attributes := #[] }, { accessFlags := 0, nameIndex := 64, descriptorIndex := 44, attributes := #[] }] 49 4 #[] #[{ accessFlags := 18, nameIndex := 23, descriptorIndex := 24, attributes := #[] }, { accessFlags := 18, nameIndex := 27, descriptorIndex := 24, attributes := #[] }, { accessFlags := 18, nameIndex := 30, descriptorIndex := 24, attributes := #[] }, { accessFlags := 18, nameIndex := 33, descriptorIndex := 24, attributes := #[] }, { accessFlags := 25, nameIndex := 57, descriptorIndex := 24, attributes := #[] }])
  fields := #[{ name := "count", type := .long, accessFlags := 18, slot := 0, constantValue := 0 }, { name := "interval", type := .long, accessFlags := 18, slot := 1, constantValue := 0 }, { name := "listLimit", type := .long, accessFlags := 18, slot := 2, constantValue := 0 }, { name := "chainLimit", type := .long, accessFlags := 18, slot := 3, constantValue := 0 }, { name := "NO_LIMIT", type := .long, accessFlags := 25, slot := 0, constantValue := 0 }]
  methods := #[k3m0, k3m1]
  instanceTypes := #[.long, .long, .long, .long]
  staticTypes := #[.long]
  resolved := Array.replicate 106 none
  statics := none }

def pool4 : Array CpInfo := pool [(1, .class_ 2), (0, u "java/lang/Math"), (1, .class_ 6), (1, u "java/lang/Object"), (0, u "<init>"), (0, u "()V"), (89, .class_ 100), (1, u "java/lang/Math$RandomNumberGeneratorHolder"), (20, u "(JJ)J"), (50, u "negativeZeroFloatBits"), (0, u "J"), (2, u "negativeZeroDoubleBits"), (24, u "min"), (43, u "$assertionsDisabled"), (0, u "Z"), (91, u "twoToTheDoubleScaleDown"), (0, u "D"), (4, u "twoToTheDoubleScaleUp"), (9, u "E"), (3, u "PI"), (2, u "TAU"), (2, u "DEGREES_TO_RADIANS"), (0, u "RADIANS_TO_DEGREES")] 94

def k4m0 : Method := { name := "<init>", desc := "()V", sig := { parameters := [], returnType := none }, accessFlags := 2, code := none }
def k4c1 : Code := { maxStack := 4, maxLocals := 4, code := jdk_29_method_70_code, exceptionTable := #[], attributes := #[] }
def k4m1 : Method := { name := "min", desc := "(JJ)J", sig := { parameters := [.long, .long], returnType := some .long }, accessFlags := 9, code := some k4c1 }
/-- java/lang/Math -/
def k4 : Class := { plain "java/lang/Math" (some 0) with
  accessFlags := 49
  interfaces := #[]
  cf := some (fileOf pool4 1 #[.nestMembers #[98]] #[{ accessFlags := 2, nameIndex := 7, descriptorIndex := 8, attributes := #[] }, { accessFlags := 9, nameIndex := 201, descriptorIndex := 121, attributes := #[] }] 49 4 #[] #[{ accessFlags := 25, nameIndex := 354, descriptorIndex := 339, attributes := #[] }, { accessFlags := 25, nameIndex := 358, descriptorIndex := 339, attributes := #[] }, { accessFlags := 25, nameIndex := 361, descriptorIndex := 339, attributes := #[] }, { accessFlags := 26, nameIndex := 364, descriptorIndex := 339, attributes := #[] }, { accessFlags := 26, nameIndex := 365, descriptorIndex := 339, attributes := #[] }, { accessFlags := 26, nameIndex := 172, descriptorIndex := 173, attributes := #[] }, { accessFlags := 26, nameIndex := 176, descriptorIndex := 173, attributes := #[] }, { accessFlags := 8, nameIndex := 344, descriptorIndex := 339, attributes := #[] }, { accessFlags := 8, nameIndex := 338, descriptorIndex := 339, attributes := #[] }, { accessFlags := 4120, nameIndex := 245, descriptorIndex := 246, attributes := #[] }])
  fields := #[{ name := "E", type := .double, accessFlags := 25, slot := 0, constantValue := 0 }, { name := "PI", type := .double, accessFlags := 25, slot := 1, constantValue := 0 }, { name := "TAU", type := .double, accessFlags := 25, slot := 2, constantValue := 0 }, { name := "DEGREES_TO_RADIANS", type := .double, accessFlags := 26, slot := 3, constantValue := 0 }, { name := "RADIANS_TO_DEGREES", type := .double, accessFlags := 26, slot := 4, constantValue := 0 }, { name := "negativeZeroFloatBits", type := .long, accessFlags := 26, slot := 5, constantValue := 0 }, { name := "negativeZeroDoubleBits", type := .long, accessFlags := 26, slot := 6, constantValue := 0 }, { name := "twoToTheDoubleScaleUp", type := .double, accessFlags := 8, slot := 7, constantValue := 0 }, { name := "twoToTheDoubleScaleDown", type := .double, accessFlags := 8, slot := 8, constantValue := 0 }, { name := "$assertionsDisabled", type := .boolean, accessFlags := 4120, slot := 9, constantValue := 0 }]
  methods := #[k4m0, k4m1]
  instanceTypes := #[]
  staticTypes := #[.double, .double, .double, .double, .double, .long, .long, .double, .double, .boolean]
  resolved := Array.replicate 460 none
  statics := none }

def pool5 : Array CpInfo := pool [(2, .class_ 4), (1, u "com/example/verschil/verschil/repository/RetentionPolicy$Listing"), (3, .class_ 10), (1, u "com/example/verschil/verschil/repository/RetentionPolicy$Deltas"), (12, .class_ 24), (0, u "com/example/verschil/verschil/repository/RetentionPolicy$Delta"), (1, .class_ 28), (1, u "com/example/verschil/verschil/repository/RetentionPolicy"), (5, .class_ 35), (0, u "com/example/verschil/verschil/repository/RetentionPolicy$SizeRule"), (6, u "SIZE_RULE"), (0, u "Lcom/example/verschil/verschil/repository/RetentionPolicy;"), (0, .class_ 45), (0, u "java/lang/Object"), (0, u "DEFAULT_MAX_LISTED"), (0, u "J"), (3, u "reachedByDeltas"), (0, u "(JJJ)Z"), (13, .class_ 67), (0, u "com/example/verschil/verschil/repository/RetentionPolicy$Adaptive"), (0, .class_ 69), (0, u "com/example/verschil/verschil/repository/RetentionPolicy$Time"), (0, .class_ 71), (0, u "com/example/verschil/verschil/repository/RetentionPolicy$Count")] 9

def k5c0 : Code := { maxStack := 4, maxLocals := 6, code := prog_45_method_2_code, exceptionTable := #[], attributes := #[] }
def k5m0 : Method := { name := "reachedByDeltas", desc := "(JJJ)Z", sig := { parameters := [.long, .long, .long], returnType := some .boolean }, accessFlags := 9, code := some k5c0 }
/-- com/example/verschil/verschil/repository/RetentionPolicy -/
def k5 : Class := { plain "com/example/verschil/verschil/repository/RetentionPolicy" (some 0) with
  accessFlags := 1537
  interfaces := #[]
  cf := some (fileOf pool5 26 #[.nestMembers #[8, 23, 2, 66, 68, 70, 34]] #[{ accessFlags := 9, nameIndex := 51, descriptorIndex := 52, attributes := #[] }] 1537 44 #[] #[{ accessFlags := 25, nameIndex := 42, descriptorIndex := 43, attributes := #[] }, { accessFlags := 25, nameIndex := 46, descriptorIndex := 47, attributes := #[] }])
  fields := #[{ name := "SIZE_RULE", type := (.object "com/example/verschil/verschil/repository/RetentionPolicy"), accessFlags := 25, slot := 0, constantValue := 0 }, { name := "DEFAULT_MAX_LISTED", type := .long, accessFlags := 25, slot := 1, constantValue := 0 }]
  methods := #[k5m0]
  instanceTypes := #[]
  staticTypes := #[(.object "com/example/verschil/verschil/repository/RetentionPolicy"), .long]
  resolved := Array.replicate 81 none
  statics := none }

def pool6 : Array CpInfo := pool [(1, u "java/lang/Cloneable"), (0, .class_ 1), (0, u "java/lang/Object"), (0, .class_ 3)] 3

/-- java/lang/Cloneable -/
def k6 : Class := { plain "java/lang/Cloneable" (some 0) with
  accessFlags := 1537
  interfaces := #[]
  cf := some (fileOf pool6 2 #[] #[] 1537 4 #[] #[])
  fields := #[]
  methods := #[]
  instanceTypes := #[]
  staticTypes := #[]
  resolved := Array.replicate 8 none
  statics := none }

def pool7 : Array CpInfo := pool [(1, u "java/io/Serializable"), (0, .class_ 1), (0, u "java/lang/Object"), (0, .class_ 3)] 3

/-- java/io/Serializable -/
def k7 : Class := { plain "java/io/Serializable" (some 0) with
  accessFlags := 1537
  interfaces := #[]
  cf := some (fileOf pool7 2 #[] #[] 1537 4 #[] #[])
  fields := #[]
  methods := #[]
  instanceTypes := #[]
  staticTypes := #[]
  resolved := Array.replicate 8 none
  statics := none }

/-- the primitive byte -/
def k8 : Class := { plain "byte" none with kind := .primitive 'B', accessFlags := 0x411 }
/-- [B -/
def k9 : Class := { plain "[B" (some 0) with kind := .array 8 .byte, interfaces := #[6, 7], accessFlags := 1041 }

/-- the primitive int -/
def k10 : Class := { plain "int" none with kind := .primitive 'I', accessFlags := 0x411 }
/-- [I -/
def k11 : Class := { plain "[I" (some 0) with kind := .array 10 .int, interfaces := #[6, 7], accessFlags := 1041 }

def heap : Heap := #[]
def classes : Array Class := #[k0, k1, k2, k3, k4, k5, k6, k7, k8, k9, k10, k11]
def interned : List (Array UInt16 × Addr) := []
def slotsUsed : Nat := 0
def theMethod : MethodId := ⟨1, 2⟩
def args0 : Array Value := #[.long 5, .long 300, .long 7, .long 1, .long 9, .long 3]
def aboutOver (below : List Frame) : State where
  vm := { classes := classes, interned := interned.toArray }
  heap := heap
  slotsUsed := slotsUsed
  threads := #[{ frames := .invoking theMethod args0 :: below }]
def below0 : List Frame := [.native { method := ⟨0, 0⟩, args := #[] }]
def about1 : State := aboutOver below0
def p0 : Program := .bare "" "" ""
def e0 : Env := launch0.env 0 0 0
theorem w_frames : about1.frames = Frame.invoking theMethod args0 :: below0 := rfl
set_option maxRecDepth 65536 in
theorem w_args : argsFit about1.vm theMethod args0 = true := by decide +kernel
set_option maxRecDepth 65536 in
theorem w_heap : heapFits about1 = true := by decide +kernel
set_option maxRecDepth 65536 in
theorem w_runnable : about1.curStatus? = some .runnable := by decide +kernel
set_option maxRecDepth 65536 in
theorem w_alone : about1.alone = true := by decide +kernel
set_option maxRecDepth 65536 in
theorem w_named : about1.methodNamed? x = some theMethod := by decide +kernel
set_option maxRecDepth 65536 in
theorem w_hears : about1.hears theMethod below0 = true := by decide +kernel
set_option maxRecDepth 65536 in
theorem w_ripe : about1.ripe theMethod args0 below0 = true := by decide +kernel
theorem w_running : about1.status = .running := rfl
set_option maxRecDepth 65536 in
theorem w_room : about1.hasRoom e0.platform room_1 = true :=
  launch0.hasRoom_least _ room_1 (by decide +kernel) (by decide +kernel) (by decide +kernel) (by decide +kernel) (by decide +kernel) (by decide +kernel)
theorem allAtoms_all (ts : List Jvm.Cond) (a : Array Jvm.Value) (st : Jvm.State) : (allAtoms ts).before a st = ts.all (fun c => c.before a st) := by
  induction ts with
  | nil => rfl
  | cons c t ih =>
    show (Jvm.Cond.and c (allAtoms t)).before a st = _
    rw [Jvm.Cond.before_and, ih, List.all_cons]
def words1 : List Jvm.Cond := Jvm.Cond.code x code maxLocals ret :: tables_1
/-- a 'code' word, met by the world's own term for the bytes: nothing is compared byte by byte -/
theorem code_word {y : MethodName} {bytes : ByteArray} {mx : Nat} {rt : Option FieldType} {a : Array Value} {s : State} {m : MethodId} {meth : Method} {c : Code} (h1 : s.methodNamed? y = some m) (h2 : s.vm.method? m = some meth) (h3 : meth.code = some c) (h4 : c.code = bytes)
    (h5 : (c.maxLocals == mx && c.exceptionTable.isEmpty && decide (c.maxStack ≤ mostOperands) && decide (meth.sig.returnType = rt) && !meth.locks && decide (parseMethodDescriptor y.desc = some meth.sig)) = true) : (Jvm.Cond.code y bytes mx rt).before a s = true := by
  simp only [Bool.and_eq_true, beq_iff_eq, Bool.not_eq_true', decide_eq_true_eq] at h5
  obtain ⟨⟨⟨⟨⟨g1, g2⟩, g3⟩, g4⟩, g5⟩, g6⟩ := h5
  simp [Cond.before, Cond.holds, Cond.value, h1, h2, h3, h4, g1, g2, g3, g4, g5, g6]
def isCode : Jvm.Cond → Bool
  | .code _ _ _ _ => true
  | _ => false
theorem all_split {L : List Jvm.Cond} {P : Jvm.Cond → Bool} (h1 : L.all (fun c => isCode c || P c) = true) (h2 : ∀ c ∈ L.filter isCode, P c = true) : L.all P = true := by
  refine List.all_eq_true.mpr fun c hc => ?_
  have h := List.all_eq_true.mp h1 c hc
  rcases Bool.eq_false_or_eq_true (isCode c) with hi | hi
  · exact h2 c (List.mem_filter.mpr ⟨hc, hi⟩)
  · simpa [hi] using h
set_option maxRecDepth 65536 in
theorem w_c0 : (Jvm.Cond.code x code maxLocals ret).before args0 about1 = true := code_word (m := ⟨1, 2⟩) (meth := k1m2) (c := k1c2) (by decide +kernel) rfl rfl rfl (by decide +kernel)
set_option maxRecDepth 65536 in
theorem w_c1 : (Jvm.Cond.code ({ cls := "com/example/verschil/verschil/repository/ClientGroupFollowsDeltasPinLaw", name := "pos", desc := "(J)J" } : Jvm.MethodName) method_2_code (4 : Nat) (Option.some Jvm.ClassFile.FieldType.long)).before args0 about1 = true := code_word (m := ⟨1, 1⟩) (meth := k1m1) (c := k1c1) (by decide +kernel) rfl rfl rfl (by decide +kernel)
set_option maxRecDepth 65536 in
theorem w_c2 : (Jvm.Cond.code ({ cls := "com/example/verschil/verschil/repository/RetentionSimulator$ClientGroup", name := "<init>", desc := "(JJJJ)V" } : Jvm.MethodName) prog_54_method_1_code (9 : Nat) (Option.none : Option Jvm.ClassFile.FieldType)).before args0 about1 = true := code_word (m := ⟨3, 0⟩) (meth := k3m0) (c := k3c0) (by decide +kernel) rfl rfl rfl (by decide +kernel)
set_option maxRecDepth 65536 in
theorem w_c3 : (Jvm.Cond.code ({ cls := "java/lang/Record", name := "<init>", desc := "()V" } : Jvm.MethodName) jdk_30_method_1_code (1 : Nat) (Option.none : Option Jvm.ClassFile.FieldType)).before args0 about1 = true := code_word (m := ⟨2, 0⟩) (meth := k2m0) (c := k2c0) (by decide +kernel) rfl rfl rfl (by decide +kernel)
set_option maxRecDepth 65536 in
theorem w_c4 : (Jvm.Cond.code ({ cls := "java/lang/Object", name := "<init>", desc := "()V" } : Jvm.MethodName) object_method_1_code (1 : Nat) (Option.none : Option Jvm.ClassFile.FieldType)).before args0 about1 = true := code_word (m := ⟨0, 0⟩) (meth := k0m0) (c := k0c0) (by decide +kernel) rfl rfl rfl (by decide +kernel)
set_option maxRecDepth 65536 in
theorem w_c5 : (Jvm.Cond.code ({ cls := "com/example/verschil/verschil/repository/RetentionSimulator$ClientGroup", name := "followsDeltas", desc := "(JJJ)Z" } : Jvm.MethodName) prog_54_method_3_code (7 : Nat) (Option.some Jvm.ClassFile.FieldType.boolean)).before args0 about1 = true := code_word (m := ⟨3, 1⟩) (meth := k3m1) (c := k3c1) (by decide +kernel) rfl rfl rfl (by decide +kernel)
set_option maxRecDepth 65536 in
theorem w_c6 : (Jvm.Cond.code ({ cls := "java/lang/Math", name := "min", desc := "(JJ)J" } : Jvm.MethodName) jdk_29_method_70_code (4 : Nat) (Option.some Jvm.ClassFile.FieldType.long)).before args0 about1 = true := code_word (m := ⟨4, 1⟩) (meth := k4m1) (c := k4c1) (by decide +kernel) rfl rfl rfl (by decide +kernel)
set_option maxRecDepth 65536 in
theorem w_c7 : (Jvm.Cond.code ({ cls := "com/example/verschil/verschil/repository/RetentionPolicy", name := "reachedByDeltas", desc := "(JJJ)Z" } : Jvm.MethodName) prog_45_method_2_code (6 : Nat) (Option.some Jvm.ClassFile.FieldType.boolean)).before args0 about1 = true := code_word (m := ⟨5, 0⟩) (meth := k5m0) (c := k5c0) (by decide +kernel) rfl rfl rfl (by decide +kernel)
def codes1 : List Jvm.Cond := [Jvm.Cond.code x code maxLocals ret, Jvm.Cond.code ({ cls := "com/example/verschil/verschil/repository/ClientGroupFollowsDeltasPinLaw", name := "pos", desc := "(J)J" } : Jvm.MethodName) method_2_code (4 : Nat) (Option.some Jvm.ClassFile.FieldType.long), Jvm.Cond.code ({ cls := "com/example/verschil/verschil/repository/RetentionSimulator$ClientGroup", name := "<init>", desc := "(JJJJ)V" } : Jvm.MethodName) prog_54_method_1_code (9 : Nat) (Option.none : Option Jvm.ClassFile.FieldType), Jvm.Cond.code ({ cls := "java/lang/Record", name := "<init>", desc := "()V" } : Jvm.MethodName) jdk_30_method_1_code (1 : Nat) (Option.none : Option Jvm.ClassFile.FieldType), Jvm.Cond.code ({ cls := "java/lang/Object", name := "<init>", desc := "()V" } : Jvm.MethodName) object_method_1_code (1 : Nat) (Option.none : Option Jvm.ClassFile.FieldType), Jvm.Cond.code ({ cls := "com/example/verschil/verschil/repository/RetentionSimulator$ClientGroup", name := "followsDeltas", desc := "(JJJ)Z" } : Jvm.MethodName) prog_54_method_3_code (7 : Nat) (Option.some Jvm.ClassFile.FieldType.boolean), Jvm.Cond.code ({ cls := "java/lang/Math", name := "min", desc := "(JJ)J" } : Jvm.MethodName) jdk_29_method_70_code (4 : Nat) (Option.some Jvm.ClassFile.FieldType.long), Jvm.Cond.code ({ cls := "com/example/verschil/verschil/repository/RetentionPolicy", name := "reachedByDeltas", desc := "(JJJ)Z" } : Jvm.MethodName) prog_45_method_2_code (6 : Nat) (Option.some Jvm.ClassFile.FieldType.boolean)]
set_option maxRecDepth 65536 in
theorem codes_eq : words1.filter isCode = codes1 := rfl
theorem w_codes : ∀ c ∈ words1.filter isCode, c.before args0 about1 = true := by
  rw [codes_eq]
  intro c hc
  simp only [codes1, List.mem_cons, List.not_mem_nil, or_false] at hc
  rcases hc with rfl | rfl | rfl | rfl | rfl | rfl | rfl | rfl
  · exact w_c0
  · exact w_c1
  · exact w_c2
  · exact w_c3
  · exact w_c4
  · exact w_c5
  · exact w_c6
  · exact w_c7
set_option maxRecDepth 65536 in
theorem w_t1 : (words1.take 24).all (fun c => isCode c || c.before args0 about1) = true := by decide +kernel
set_option maxRecDepth 65536 in
theorem w_t2 : (words1.drop 24).all (fun c => isCode c || c.before args0 about1) = true := by decide +kernel
theorem w_tables : (allAtoms (Jvm.Cond.code x code maxLocals ret :: tables_1)).before args0 about1 = true := by
  rw [allAtoms_all]
  show words1.all (fun c => c.before args0 about1) = true
  refine all_split ?_ w_codes
  rw [← List.take_append_drop 24 words1, List.all_append, w_t1, w_t2]
  rfl
set_option maxRecDepth 65536 in
theorem w_case : (Jvm.Cond.and given_1 narrow_1).before args0 about1 = true := by decide +kernel
theorem w_applies : (headSpec (Jvm.Cond.code x code maxLocals ret :: tables_1) room_1).applies x e0.platform about1 = true :=
  (Spec.applies_iff w_frames).mpr ⟨w_running, w_runnable, w_alone, w_named, w_hears, w_ripe, w_room, w_tables⟩
theorem atStart : AtStart classFile x code maxLocals ret World_1 tables_1 room_1 Calls_1 rest_1 Pre_1 launch0 p0 e0 about1 theMethod args0 below0 :=
  ⟨lists_1, trivial, launch0.admits_env _ _ _, launch0.least_env, fairChoices_fair.cas, fairChoices_fair.clock, w_frames, w_args, w_heap, w_applies, trivial, trivial, w_case⟩
end start1
theorem witness_1 : WitnessClaimed_1 := ⟨start1.p0, start1.e0, start1.about1, start1.theMethod, start1.args0, start1.below0, start1.atStart⟩
end Jvm.Pilot.@@N@@
