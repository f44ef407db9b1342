import JvmDerived
import JvmDerived.Pilot.@@N@@Statement
import JvmDerived.Pilot.@@N@@Code
set_option linter.unusedVariables false
set_option linter.unusedSimpArgs false
@@BLOCK:NumsL.lean.txt@@
namespace Jvm.RoadKit
open Sem ClassFile Op Lib Jvm.Stand Jvm.Free Jvm.LawKit
section New
variable {p : Program} {l : Launch} {e : Env} {R : Room} {s : State} {m : MethodId} {args : Array Value} {below : List Frame} {meth : Method} {c : Code} {T : State} {locs : List Loc} {cells slots : Nat}
theorem retI (X : Stand p l e R s m args below meth c T locs cells slots) (hx : p.tables.exec = Jvm.exec) {pc : Nat} {Ls : Array Slot} {z : Int32} {rest : List Value} (hret : meth.sig.returnType = some .int) (hd : decode c.code pc = .ok (.ireturn, 1)) {fs : List Frame}
    (hl : ∀ (f : JFrame) (acts : List Action), f.method = m → f.locked = none → f.entered = [] → (doReturn e (T.setTop f) acts (some (.int z))).1 = T.setFrames fs) : Steps p.tables e below (T.setTop (mkF m pc Ls (.int z :: rest))) (T.setFrames fs) := by
  have hm' : T.vm.method? m = some meth := X.method'
  have hn : narrow .int (.int z) = .int z := rfl
  show Steps p.tables e below (T.setTop { method := m, pc := pc, locals := Ls, stack := _ :: rest, locked := none }) _
  jvm_step X.here [X.here.top, hx, hd, hm', hret, hn]
  first | (intro acts; rw [hl _ acts rfl rfl rfl]) | rw [hl _ _ rfl rfl rfl]
  exact Steps.refl _
end New
end Jvm.RoadKit
namespace Jvm.Pilot.@@N@@
open Jvm Jvm.ClassFile Sem Op Lib Jvm.Free Jvm.Stand Jvm.LawKit Jvm.RoadKit Bundle Jvm.Pilot.@@N@@.Jvm.D

def f1 (p1 : Int32) (p2 : Int32) : Int32 := (if p1 < p2 then p2 else p1)
def f4 (p1 : Int32) : Int32 := p1
def f5 (p1 : Int32) (p2 : Int32) : Int64 := (((p1.toInt64) <<< ((31 : Int32) &&& 0x3f).toInt64) + (p2.toInt64))
def f6 (w1 : Int32) (w2 : Int32) (w3 : Int32) (w4 : Int32) : Int32 := (if w1 = w2 then (if w4 < w3 then (1 : Int32) else (0 : Int32)) else (if w2 < w1 then (1 : Int32) else (0 : Int32)))

theorem own_mask (x : Int32) : 0 ≤ (x &&& (2147483647 : Int32)).toInt := by
  have e : (x &&& (2147483647 : Int32)).toInt = x.toInt % 2 ^ 31 := Jvm.Kit.i32_mask x 2147483647 (k := 31) (by decide) (by decide)
  omega
theorem own_max {x v : Int32} (h : v = (f1 (1 : Int32) (x &&& (2147483647 : Int32)))) : 1 ≤ v.toInt := by
  rw [h]; unfold f1
  split
  · rename_i q; rw [Int32.lt_iff_toInt_lt, show (1 : Int32).toInt = 1 from by decide] at q; omega
  · decide
theorem own_n1 {v : Int32} (h : 1 ≤ v.toInt) : ¬ v < (1 : Int32) := by rw [Int32.lt_iff_toInt_lt, show (1 : Int32).toInt = 1 from by decide]; omega
theorem own_n0 {v : Int32} (h : 0 ≤ v.toInt) : ¬ v < (0 : Int32) := by rw [Int32.lt_iff_toInt_lt, show (0 : Int32).toInt = 0 from by decide]; omega
theorem own_maxb {x v w z p : Int32} (h : v = (f1 (1 : Int32) (x &&& (2147483647 : Int32)))) (hz : z = (if p = (0 : Int32) then (f1 (1 : Int32) (w &&& (2147483647 : Int32))) else v)) : 1 ≤ z.toInt := by
  rw [hz]
  split
  · exact own_max rfl
  · exact own_max h
theorem own_mb0 {x v w z p : Int32} (h : v = (x &&& (2147483647 : Int32))) (hz : z = (if p = (0 : Int32) then (w &&& (2147483647 : Int32)) else v)) : 0 ≤ z.toInt := by
  rw [hz]
  split
  · exact own_mask w
  · rw [h]; exact own_mask x
theorem own_m0 {x v : Int32} (h : v = (x &&& (2147483647 : Int32))) : 0 ≤ v.toInt := by rw [h]; exact own_mask x
theorem own_key {c m : Int32} (hc : 1 ≤ c.toInt) (hm : 0 ≤ m.toInt) : (f5 c m).toInt = c.toInt * 2147483648 + m.toInt := by
  have b1 := Int32.toInt_lt c
  have b2 := Int32.toInt_lt m
  have e1 : (c.toInt64 <<< ((31 : Int32) &&& 0x3f).toInt64).toInt = c.toInt * 2147483648 := by
    have i := Jvm.Kit.i64_of_i32 c
    rw [Jvm.Kit.i64_shl (k := 31) _ _ (by decide) (by omega) (by omega), i]
    omega
  unfold f5
  have j := Jvm.Kit.i64_of_i32 m
  rw [Jvm.Kit.i64_add (by omega) (by omega), e1, j]
theorem own_beats {c m d n : Int32} {x y : Int64} (hc : 1 ≤ c.toInt) (hm : 0 ≤ m.toInt) (hd : 1 ≤ d.toInt) (hn : 0 ≤ n.toInt) (hx : x = f5 c m) (hy : y = f5 d n) : f6 c d (f4 m) (f4 n) = (if y < x then (1 : Int32) else (0 : Int32)) := by
  have kx := own_key hc hm
  have ky := own_key hd hn
  rw [← hx] at kx
  rw [← hy] at ky
  have b1 := Int32.toInt_lt m
  have b2 := Int32.toInt_lt n
  unfold f6 f4
  simp only [Int64.lt_iff_toInt_lt, Int32.lt_iff_toInt_lt, ← Int32.toInt_inj]
  by_cases k1 : c.toInt = d.toInt
  · rw [if_pos k1]
    by_cases k2 : n.toInt < m.toInt
    · rw [if_pos k2, if_pos (by omega)]
    · rw [if_neg k2, if_neg (by omega)]
  · rw [if_neg k1]
    by_cases k2 : d.toInt < c.toInt
    · rw [if_pos k2, if_pos (by omega)]
    · rw [if_neg k2, if_neg (by omega)]
theorem own_law {p1 p2 p3 p4 r1 r2 v8 v14 z36 z54 v107 v116 z133 z159 : Int32} {v89 v98 : Int64} (h8 : v8 = (f1 (1 : Int32) (p1 &&& (2147483647 : Int32)))) (h14 : v14 = (p2 &&& (2147483647 : Int32)))
    (h36 : z36 = (if r1 = (0 : Int32) then (f1 (1 : Int32) (p3 &&& (2147483647 : Int32))) else v8)) (h54 : z54 = (if r2 = (0 : Int32) then (p4 &&& (2147483647 : Int32)) else v14)) (h89 : v89 = (f5 v8 v14)) (h98 : v98 = (f5 z36 z54))
    (h107 : v107 = (f6 v8 z36 (f4 v14) (f4 z54))) (h116 : v116 = (f6 z36 v8 (f4 z54) (f4 v14))) (h133 : z133 = (if v98 < v89 then (1 : Int32) else (0 : Int32)))
    (h159 : z159 = (if v107 = z133 then (if v89 < v98 then (if v116 = (1 : Int32) then (1 : Int32) else (0 : Int32)) else (if v116 = (0 : Int32) then (1 : Int32) else (0 : Int32))) else (0 : Int32))) : z159 = 1 := by
  have a1 := own_max h8
  have a2 := own_m0 h14
  have a3 := own_maxb h8 h36
  have a4 := own_mb0 h14 h54
  have e1 : v107 = z133 := by rw [h107, h133]; exact own_beats a1 a2 a3 a4 h89 h98
  have e2 : v116 = (if v89 < v98 then (1 : Int32) else (0 : Int32)) := by rw [h116]; exact own_beats a3 a4 a1 a2 h98 h89
  rw [h159, if_pos e1]
  by_cases k : v89 < v98
  · rw [if_pos k] at e2 ⊢; rw [if_pos e2]
  · rw [if_neg k] at e2 ⊢; rw [if_pos e2]

theorem d1_0 : decode jdk_29_method_65_code 0 = .ok (.iload_n 0, 1) := by decide +kernel
theorem d1_1 : decode jdk_29_method_65_code 1 = .ok (.iload_n 1, 1) := by decide +kernel
theorem d1_2 : decode jdk_29_method_65_code 2 = .ok (.if_icmp .lt 7, 3) := by decide +kernel
theorem d1_9 : decode jdk_29_method_65_code 9 = .ok (.iload_n 1, 1) := by decide +kernel
theorem d1_10 : decode jdk_29_method_65_code 10 = .ok (.ireturn, 1) := by decide +kernel
theorem d1_5 : decode jdk_29_method_65_code 5 = .ok (.iload_n 0, 1) := by decide +kernel
theorem d1_6 : decode jdk_29_method_65_code 6 = .ok (.goto 4, 3) := by decide +kernel
theorem d4_0 : decode prog_26_method_3_code 0 = .ok (.iload_n 0, 1) := by decide +kernel
theorem d4_1 : decode prog_26_method_3_code 1 = .ok (.ifCond .ge 17, 3) := by decide +kernel
theorem d4_18 : decode prog_26_method_3_code 18 = .ok (.iload_n 0, 1) := by decide +kernel
theorem d4_19 : decode prog_26_method_3_code 19 = .ok (.ireturn, 1) := by decide +kernel
theorem d5_0 : decode method_2_code 0 = .ok (.iload_n 0, 1) := by decide +kernel
theorem d5_1 : decode method_2_code 1 = .ok (.i2l, 1) := by decide +kernel
theorem d5_2 : decode method_2_code 2 = .ok (.bipush 31, 2) := by decide +kernel
theorem d5_4 : decode method_2_code 4 = .ok (.lshl, 1) := by decide +kernel
theorem d5_5 : decode method_2_code 5 = .ok (.iload_n 1, 1) := by decide +kernel
theorem d5_6 : decode method_2_code 6 = .ok (.i2l, 1) := by decide +kernel
theorem d5_7 : decode method_2_code 7 = .ok (.ladd, 1) := by decide +kernel
theorem d5_8 : decode method_2_code 8 = .ok (.lreturn, 1) := by decide +kernel
theorem d2_0 : decode prog_35_method_1_code 0 = .ok (.aload_n 0, 1) := by decide +kernel
theorem d2_1 : decode prog_35_method_1_code 1 = .ok (.invokespecial 1, 3) := by decide +kernel
theorem d2_4 : decode prog_35_method_1_code 4 = .ok (.iload_n 1, 1) := by decide +kernel
theorem d2_5 : decode prog_35_method_1_code 5 = .ok (.iconst 1, 1) := by decide +kernel
theorem d2_6 : decode prog_35_method_1_code 6 = .ok (.if_icmp .ge 17, 3) := by decide +kernel
theorem d2_23 : decode prog_35_method_1_code 23 = .ok (.aload_n 0, 1) := by decide +kernel
theorem d2_24 : decode prog_35_method_1_code 24 = .ok (.iload_n 1, 1) := by decide +kernel
theorem d2_25 : decode prog_35_method_1_code 25 = .ok (.putfield 16, 3) := by decide +kernel
theorem d2_28 : decode prog_35_method_1_code 28 = .ok (.aload_n 0, 1) := by decide +kernel
theorem d2_29 : decode prog_35_method_1_code 29 = .ok (.iload_n 2, 1) := by decide +kernel
theorem d2_30 : decode prog_35_method_1_code 30 = .ok (.invokestatic 22, 3) := by decide +kernel
theorem d2_33 : decode prog_35_method_1_code 33 = .ok (.putfield 28, 3) := by decide +kernel
theorem d2_36 : decode prog_35_method_1_code 36 = .ok (.return_, 1) := by decide +kernel
theorem d6_0 : decode prog_35_method_4_code 0 = .ok (.aload_n 0, 1) := by decide +kernel
theorem d6_1 : decode prog_35_method_4_code 1 = .ok (.getfield 16, 3) := by decide +kernel
theorem d6_4 : decode prog_35_method_4_code 4 = .ok (.aload_n 1, 1) := by decide +kernel
theorem d6_5 : decode prog_35_method_4_code 5 = .ok (.getfield 16, 3) := by decide +kernel
theorem d6_8 : decode prog_35_method_4_code 8 = .ok (.if_icmp .eq 22, 3) := by decide +kernel
theorem d6_30 : decode prog_35_method_4_code 30 = .ok (.aload_n 0, 1) := by decide +kernel
theorem d6_31 : decode prog_35_method_4_code 31 = .ok (.getfield 28, 3) := by decide +kernel
theorem d6_34 : decode prog_35_method_4_code 34 = .ok (.aload_n 1, 1) := by decide +kernel
theorem d6_35 : decode prog_35_method_4_code 35 = .ok (.getfield 28, 3) := by decide +kernel
theorem d6_38 : decode prog_35_method_4_code 38 = .ok (.if_icmp .le 7, 3) := by decide +kernel
theorem d6_41 : decode prog_35_method_4_code 41 = .ok (.iconst 1, 1) := by decide +kernel
theorem d6_42 : decode prog_35_method_4_code 42 = .ok (.goto 4, 3) := by decide +kernel
theorem d6_46 : decode prog_35_method_4_code 46 = .ok (.ireturn, 1) := by decide +kernel
theorem d6_45 : decode prog_35_method_4_code 45 = .ok (.iconst 0, 1) := by decide +kernel
theorem d6_11 : decode prog_35_method_4_code 11 = .ok (.aload_n 0, 1) := by decide +kernel
theorem d6_12 : decode prog_35_method_4_code 12 = .ok (.getfield 16, 3) := by decide +kernel
theorem d6_15 : decode prog_35_method_4_code 15 = .ok (.aload_n 1, 1) := by decide +kernel
theorem d6_16 : decode prog_35_method_4_code 16 = .ok (.getfield 16, 3) := by decide +kernel
theorem d6_19 : decode prog_35_method_4_code 19 = .ok (.if_icmp .le 7, 3) := by decide +kernel
theorem d6_22 : decode prog_35_method_4_code 22 = .ok (.iconst 1, 1) := by decide +kernel
theorem d6_23 : decode prog_35_method_4_code 23 = .ok (.goto 23, 3) := by decide +kernel
theorem d6_26 : decode prog_35_method_4_code 26 = .ok (.iconst 0, 1) := by decide +kernel
theorem d6_27 : decode prog_35_method_4_code 27 = .ok (.goto 19, 3) := by decide +kernel
theorem pn_0 : plainName "com/example/wachter/wachter/model/Message" = true := by first | (simp [plainName, overriddenIn]; done) | decide +kernel
theorem pn_1 : plainName "com/example/wachter/wachter/model/StampBeatsPinLaw" = true := by first | (simp [plainName, overriddenIn]; done) | decide +kernel
theorem pn_2 : plainName "com/example/wachter/wachter/model/Stamp" = true := by first | (simp [plainName, overriddenIn]; done) | decide +kernel
theorem pd_0 : parseMethodDescriptor "(I)I" = some ⟨[.int], some .int⟩ := by decide +kernel
theorem pd_1 : parseMethodDescriptor "(II)I" = some ⟨[.int, .int], some .int⟩ := by decide +kernel
theorem pd_2 : parseMethodDescriptor "(II)V" = some ⟨[.int, .int], none⟩ := by decide +kernel
theorem pd_3 : parseMethodDescriptor "(II)J" = some ⟨[.int, .int], some .long⟩ := by decide +kernel
theorem pd_4 : parseMethodDescriptor "(Lcom/example/wachter/wachter/model/Stamp;)Z" = some ⟨[(.object "com/example/wachter/wachter/model/Stamp")], some .boolean⟩ := by decide +kernel
def Q1 (Z : State) (p1 : Int32) (p2 : Int32) (h0 : Heap) (n0 : Nat) (v : Option Value) (h : Heap) (L : List Loc) : Prop := v = some (.int (f1 p1 p2)) ∧ Fr n0 L ∧ h = h0
theorem ef_1 (m : MethodId) (p1 : Int32) (p2 : Int32) : entryFrame m #[(.int p1), (.int p2)] 2 = mkF m 0 #[.val (.int p1), .val (.int p2)] [] := by first | (simp [entryFrame, mkF, argsToLocals, Value.category]; done) | rfl
set_option maxRecDepth 65536 in
set_option maxHeartbeats 40000000 in
theorem rm1 (l : Launch) (Z : State) (a0 : Array Value) (hw : ∀ d ∈ tables_1, d.before a0 Z = true) (ws : List Jvm.Cond) (p1 : Int32) (p2 : Int32) (h0 : Heap) (n0 : Nat) (Zs : n0 ≤ h0.size)  :
    MetFree l (⟨"java/lang/Math", "max", "(II)I"⟩ : MethodName) (head1 (Jvm.Cond.code (⟨"java/lang/Math", "max", "(II)I"⟩ : MethodName) jdk_29_method_65_code 2 (some .int) :: ws) ({ frames := 0, cells := 0, slots := 0, locals := 0 } : Room)) (fun a U => a = #[(.int p1), (.int p2)] ∧ Z.Warmed39 U.vm ∧ U.heap = h0) (fun _ _ _ _ _ => True) (fun _ U o U' => ∃ v L, o = .returned v ∧ Q1 Z p1 p2 h0 n0 v U'.heap L ∧ FrameEnd U o U' L ({ frames := 0, cells := 0, slots := 0, locals := 0 } : Room).cells ({ frames := 0, cells := 0, slots := 0, locals := 0 } : Room).slots) := by
  refine MetFree.of_bodySF (Jvm.Free.JP.mathPlain rfl (by decide +kernel)) hisR ?_
  intro p e s m args below meth c s₁ Bd hml0 hP hK
  obtain ⟨rfl, hZ, hh⟩ := hP
  have hx := Bd.exec
  have hby := Bd.bytes
  have hml : c.maxLocals = 2 := hml0
  have hown : s.vm.findClass "java/lang/Math" = some m.cls := findClass_of_methodNamed Bd.named
  have hnm := (name_of_methodNamed Bd.named Bd.method).1
  have X0 : Stand p l e ({ frames := 0, cells := 0, slots := 0, locals := 0 } : Room) s m #[(.int p1), (.int p2)] below meth c s₁ [] 0 0 := Stand.of_body Bd
  have e0 : s₁.heap = h0 := by rw [← hh, Bd.state]; rfl
  have N0 := Fr.nil n0
  have pre0 : ∀ t, Steps p.tables e below (s₁.setTop (mkF m 0 #[.val (.int p1), .val (.int p2)] [])) t → Steps p.tables e below (s₁.setTop (entryFrame m #[(.int p1), (.int p2)] 2)) t := fun t k => castTop (ef_1 m p1 p2) k
  have pre1 : ∀ t, Steps p.tables e below (s₁.setTop (mkF m 2 #[.val (.int p1), .val (.int p2)] [(.int p2), (.int p1)])) t → Steps p.tables e below (s₁.setTop (entryFrame m #[(.int p1), (.int p2)] 2)) t := fun t k => pre0 t (by
    show Steps p.tables e below (s₁.setTop (mkF m 0 #[.val (.int p1), .val (.int p2)] [])) _
    refine XS.iloadN X0.here hx rfl (hb hby d1_0) rfl ?_
    show Steps p.tables e below (s₁.setTop (mkF m 1 #[.val (.int p1), .val (.int p2)] [(.int p1)])) _
    refine XS.iloadN X0.here hx rfl (hb hby d1_1) rfl ?_
    exact k)
  by_cases hc2 : p1 < p2
  ·
    obtain ⟨fs, hr, hrun, hended, hW, hsame⟩ := X0.leave (v := some (.int p2)) (fun h => by rw [Bd.returns] at h; cases h)
    refine ⟨_, _, pre1 _ ?_, hrun, hended, _, _, rfl, ?_, ⟨_, rfl⟩, hW, hsame.mono (by decide) (by decide)⟩
    · show Steps p.tables e below (s₁.setTop (mkF m 2 #[.val (.int p1), .val (.int p2)] [(.int p2), (.int p1)])) _
      refine XS.icmpYes X0.here hx rfl (pc0 := 2) (pc' := 9) rfl (hb hby d1_2) rfl (tlt hc2).1 (by decide) (by decide) ?_
      show Steps p.tables e below (s₁.setTop (mkF m 9 #[.val (.int p1), .val (.int p2)] [])) _
      refine XS.iloadN X0.here hx rfl (hb hby d1_9) rfl ?_
      show Steps p.tables e below (s₁.setTop (mkF m 10 #[.val (.int p1), .val (.int p2)] [(.int p2)])) _
      exact retI X0 hx Bd.returns (hb hby d1_10) hr
    · show Q1 Z p1 p2 h0 n0 _ s₁.heap _
      rw [e0]
      exact ⟨congrArg some (congrArg Value.int (show p2 = (f1 p1 p2) from by rw [f1, if_pos hc2])), N0, rfl⟩
  ·
    obtain ⟨fs, hr, hrun, hended, hW, hsame⟩ := X0.leave (v := some (.int p1)) (fun h => by rw [Bd.returns] at h; cases h)
    refine ⟨_, _, pre1 _ ?_, hrun, hended, _, _, rfl, ?_, ⟨_, rfl⟩, hW, hsame.mono (by decide) (by decide)⟩
    · show Steps p.tables e below (s₁.setTop (mkF m 2 #[.val (.int p1), .val (.int p2)] [(.int p2), (.int p1)])) _
      refine XS.icmpNo X0.here hx rfl (hb hby d1_2) rfl (flt hc2).1 ?_
      show Steps p.tables e below (s₁.setTop (mkF m 5 #[.val (.int p1), .val (.int p2)] [])) _
      refine XS.iloadN X0.here hx rfl (hb hby d1_5) rfl ?_
      show Steps p.tables e below (s₁.setTop (mkF m 6 #[.val (.int p1), .val (.int p2)] [(.int p1)])) _
      refine XS.goto X0.here hx rfl (pc0 := 6) (pc' := 10) rfl (hb hby d1_6) (by decide) (by decide) ?_
      show Steps p.tables e below (s₁.setTop (mkF m 10 #[.val (.int p1), .val (.int p2)] [(.int p1)])) _
      exact retI X0 hx Bd.returns (hb hby d1_10) hr
    · show Q1 Z p1 p2 h0 n0 _ s₁.heap _
      rw [e0]
      exact ⟨congrArg some (congrArg Value.int (show p1 = (f1 p1 p2) from by rw [f1, if_neg hc2])), N0, rfl⟩
def Q4 (Z : State) (p1 : Int32) (h0 : Heap) (n0 : Nat) (v : Option Value) (h : Heap) (L : List Loc) : Prop := v = some (.int (f4 p1)) ∧ Fr n0 L ∧ h = h0
theorem ef_4 (m : MethodId) (p1 : Int32) : entryFrame m #[(.int p1)] 1 = mkF m 0 #[.val (.int p1)] [] := by first | (simp [entryFrame, mkF, argsToLocals, Value.category]; done) | rfl
set_option maxRecDepth 65536 in
set_option maxHeartbeats 40000000 in
theorem rm4 (l : Launch) (Z : State) (a0 : Array Value) (hw : ∀ d ∈ tables_1, d.before a0 Z = true) (ws : List Jvm.Cond) (p1 : Int32) (h0 : Heap) (n0 : Nat) (Zs : n0 ≤ h0.size) (hp1 : ¬ p1 < (0 : Int32)) :
    MetFree l (⟨"com/example/wachter/wachter/model/Message", "requireMember", "(I)I"⟩ : MethodName) (head1 (Jvm.Cond.code (⟨"com/example/wachter/wachter/model/Message", "requireMember", "(I)I"⟩ : MethodName) prog_26_method_3_code 1 (some .int) :: ws) ({ frames := 0, cells := 0, slots := 0, locals := 0 } : Room)) (fun a U => a = #[(.int p1)] ∧ Z.Warmed39 U.vm ∧ U.heap = h0) (fun _ _ _ _ _ => True) (fun _ U o U' => ∃ v L, o = .returned v ∧ Q4 Z p1 h0 n0 v U'.heap L ∧ FrameEnd U o U' L ({ frames := 0, cells := 0, slots := 0, locals := 0 } : Room).cells ({ frames := 0, cells := 0, slots := 0, locals := 0 } : Room).slots) := by
  refine MetFree.of_bodySF (plainFor_of_name pn_0) hisR ?_
  intro p e s m args below meth c s₁ Bd hml0 hP hK
  obtain ⟨rfl, hZ, hh⟩ := hP
  have hx := Bd.exec
  have hby := Bd.bytes
  have hml : c.maxLocals = 1 := hml0
  have hown : s.vm.findClass "com/example/wachter/wachter/model/Message" = some m.cls := findClass_of_methodNamed Bd.named
  have hnm := (name_of_methodNamed Bd.named Bd.method).1
  have X0 : Stand p l e ({ frames := 0, cells := 0, slots := 0, locals := 0 } : Room) s m #[(.int p1)] below meth c s₁ [] 0 0 := Stand.of_body Bd
  have e0 : s₁.heap = h0 := by rw [← hh, Bd.state]; rfl
  have N0 := Fr.nil n0
  have pre0 : ∀ t, Steps p.tables e below (s₁.setTop (mkF m 0 #[.val (.int p1)] [])) t → Steps p.tables e below (s₁.setTop (entryFrame m #[(.int p1)] 1)) t := fun t k => castTop (ef_4 m p1) k
  obtain ⟨fs, hr, hrun, hended, hW, hsame⟩ := X0.leave (v := some (.int p1)) (fun h => by rw [Bd.returns] at h; cases h)
  refine ⟨_, _, pre0 _ ?_, hrun, hended, _, _, rfl, ?_, ⟨_, rfl⟩, hW, hsame.mono (by decide) (by decide)⟩
  · show Steps p.tables e below (s₁.setTop (mkF m 0 #[.val (.int p1)] [])) _
    refine XS.iloadN X0.here hx rfl (hb hby d4_0) rfl ?_
    show Steps p.tables e below (s₁.setTop (mkF m 1 #[.val (.int p1)] [(.int p1)])) _
    refine XS.ifYes X0.here hx rfl (pc0 := 1) (pc' := 18) rfl (hb hby d4_1) rfl ((if0 _ _).trans (flt hp1).2.1) (by decide) (by decide) ?_
    show Steps p.tables e below (s₁.setTop (mkF m 18 #[.val (.int p1)] [])) _
    refine XS.iloadN X0.here hx rfl (hb hby d4_18) rfl ?_
    show Steps p.tables e below (s₁.setTop (mkF m 19 #[.val (.int p1)] [(.int p1)])) _
    exact retI X0 hx Bd.returns (hb hby d4_19) hr
  · show Q4 Z p1 h0 n0 _ s₁.heap _
    rw [e0]
    exact ⟨congrArg some (congrArg Value.int (show p1 = (f4 p1) from rfl)), N0, rfl⟩
def Q5 (Z : State) (p1 : Int32) (p2 : Int32) (h0 : Heap) (n0 : Nat) (v : Option Value) (h : Heap) (L : List Loc) : Prop := v = some (.long (f5 p1 p2)) ∧ Fr n0 L ∧ h = h0
theorem ef_5 (m : MethodId) (p1 : Int32) (p2 : Int32) : entryFrame m #[(.int p1), (.int p2)] 2 = mkF m 0 #[.val (.int p1), .val (.int p2)] [] := by first | (simp [entryFrame, mkF, argsToLocals, Value.category]; done) | rfl
set_option maxRecDepth 65536 in
set_option maxHeartbeats 40000000 in
theorem rm5 (l : Launch) (Z : State) (a0 : Array Value) (hw : ∀ d ∈ tables_1, d.before a0 Z = true) (ws : List Jvm.Cond) (p1 : Int32) (p2 : Int32) (h0 : Heap) (n0 : Nat) (Zs : n0 ≤ h0.size)  :
    MetFree l (⟨"com/example/wachter/wachter/model/StampBeatsPinLaw", "key", "(II)J"⟩ : MethodName) (head1 (Jvm.Cond.code (⟨"com/example/wachter/wachter/model/StampBeatsPinLaw", "key", "(II)J"⟩ : MethodName) method_2_code 2 (some .long) :: ws) ({ frames := 0, cells := 0, slots := 0, locals := 0 } : Room)) (fun a U => a = #[(.int p1), (.int p2)] ∧ Z.Warmed39 U.vm ∧ U.heap = h0) (fun _ _ _ _ _ => True) (fun _ U o U' => ∃ v L, o = .returned v ∧ Q5 Z p1 p2 h0 n0 v U'.heap L ∧ FrameEnd U o U' L ({ frames := 0, cells := 0, slots := 0, locals := 0 } : Room).cells ({ frames := 0, cells := 0, slots := 0, locals := 0 } : Room).slots) := by
  refine MetFree.of_bodySF (plainFor_of_name pn_1) hisR ?_
  intro p e s m args below meth c s₁ Bd hml0 hP hK
  obtain ⟨rfl, hZ, hh⟩ := hP
  have hx := Bd.exec
  have hby := Bd.bytes
  have hml : c.maxLocals = 2 := hml0
  have hown : s.vm.findClass "com/example/wachter/wachter/model/StampBeatsPinLaw" = some m.cls := findClass_of_methodNamed Bd.named
  have hnm := (name_of_methodNamed Bd.named Bd.method).1
  have X0 : Stand p l e ({ frames := 0, cells := 0, slots := 0, locals := 0 } : Room) s m #[(.int p1), (.int p2)] below meth c s₁ [] 0 0 := Stand.of_body Bd
  have e0 : s₁.heap = h0 := by rw [← hh, Bd.state]; rfl
  have N0 := Fr.nil n0
  have pre0 : ∀ t, Steps p.tables e below (s₁.setTop (mkF m 0 #[.val (.int p1), .val (.int p2)] [])) t → Steps p.tables e below (s₁.setTop (entryFrame m #[(.int p1), (.int p2)] 2)) t := fun t k => castTop (ef_5 m p1 p2) k
  obtain ⟨fs, hr, hrun, hended, hW, hsame⟩ := X0.leave (v := some (.long (((p1.toInt64) <<< ((31 : Int32) &&& 0x3f).toInt64) + (p2.toInt64)))) (fun h => by rw [Bd.returns] at h; cases h)
  refine ⟨_, _, pre0 _ ?_, hrun, hended, _, _, rfl, ?_, ⟨_, rfl⟩, hW, hsame.mono (by decide) (by decide)⟩
  · show Steps p.tables e below (s₁.setTop (mkF m 0 #[.val (.int p1), .val (.int p2)] [])) _
    refine XS.iloadN X0.here hx rfl (hb hby d5_0) rfl ?_
    show Steps p.tables e below (s₁.setTop (mkF m 1 #[.val (.int p1), .val (.int p2)] [(.int p1)])) _
    refine XS.i2l X0.here hx rfl (hb hby d5_1) rfl ?_
    show Steps p.tables e below (s₁.setTop (mkF m 2 #[.val (.int p1), .val (.int p2)] [(.long (p1.toInt64))])) _
    refine XS.bipush X0.here hx rfl (hb hby d5_2) ?_
    show Steps p.tables e below (s₁.setTop (mkF m 4 #[.val (.int p1), .val (.int p2)] [(.int (31 : Int32)), (.long (p1.toInt64))])) _
    refine XS.lshl X0.here hx rfl (hb hby d5_4) rfl ?_
    show Steps p.tables e below (s₁.setTop (mkF m 5 #[.val (.int p1), .val (.int p2)] [(.long ((p1.toInt64) <<< ((31 : Int32) &&& 0x3f).toInt64))])) _
    refine XS.iloadN X0.here hx rfl (hb hby d5_5) rfl ?_
    show Steps p.tables e below (s₁.setTop (mkF m 6 #[.val (.int p1), .val (.int p2)] [(.int p2), (.long ((p1.toInt64) <<< ((31 : Int32) &&& 0x3f).toInt64))])) _
    refine XS.i2l X0.here hx rfl (hb hby d5_6) rfl ?_
    show Steps p.tables e below (s₁.setTop (mkF m 7 #[.val (.int p1), .val (.int p2)] [(.long (p2.toInt64)), (.long ((p1.toInt64) <<< ((31 : Int32) &&& 0x3f).toInt64))])) _
    refine XS.ladd X0.here hx rfl (hb hby d5_7) rfl ?_
    show Steps p.tables e below (s₁.setTop (mkF m 8 #[.val (.int p1), .val (.int p2)] [(.long (((p1.toInt64) <<< ((31 : Int32) &&& 0x3f).toInt64) + (p2.toInt64)))])) _
    exact retOut X0 hx Bd.returns rfl (Or.inr (Or.inl ⟨rfl, rfl, _, rfl⟩)) (hb hby d5_8) hr
  · show Q5 Z p1 p2 h0 n0 _ s₁.heap _
    rw [e0]
    exact ⟨congrArg some (congrArg Value.long (show (((p1.toInt64) <<< ((31 : Int32) &&& 0x3f).toInt64) + (p2.toInt64)) = (f5 p1 p2) from rfl)), N0, rfl⟩
def Q2 (Z : State) (a1 : Addr) (p2 : Int32) (p3 : Int32) (u1 : Int32) (u2 : Int32) (h0 : Heap) (n0 : Nat) (v : Option Value) (h : Heap) (L : List Loc) : Prop := v = none ∧ Fr n0 L ∧ (Keep h0 h [a1]) ∧ (Exa Z h a1 "com/example/wachter/wachter/model/Stamp") ∧ (Fld Z h a1 "com/example/wachter/wachter/model/Stamp" "counter" "I" (.int p2)) ∧ (Fld Z h a1 "com/example/wachter/wachter/model/Stamp" "member" "I" (.int (f4 p3)))
theorem ef_2 (m : MethodId) (a1 : Addr) (p2 : Int32) (p3 : Int32) : entryFrame m #[(.ref a1), (.int p2), (.int p3)] 3 = mkF m 0 #[.val (.ref a1), .val (.int p2), .val (.int p3)] [] := by first | (simp [entryFrame, mkF, argsToLocals, Value.category]; done) | rfl
set_option maxRecDepth 65536 in
set_option maxHeartbeats 40000000 in
theorem rm2 (l : Launch) (Z : State) (a0 : Array Value) (hw : ∀ d ∈ tables_1, d.before a0 Z = true) (ws : List Jvm.Cond) (a1 : Addr) (p2 : Int32) (p3 : Int32) (u1 : Int32) (u2 : Int32) (h0 : Heap) (n0 : Nat) (Zs : n0 ≤ h0.size) (E_a1 : Exa Z h0 a1 "com/example/wachter/wachter/model/Stamp") (F_counter_a1 : Fld Z h0 a1 "com/example/wachter/wachter/model/Stamp" "counter" "I" (.int u1)) (F_member_a1 : Fld Z h0 a1 "com/example/wachter/wachter/model/Stamp" "member" "I" (.int u2)) (g_a1 : n0 ≤ a1) (hp2 : ¬ p2 < (1 : Int32)) (hp3 : ¬ p3 < (0 : Int32)) :
    MetFree l (⟨"com/example/wachter/wachter/model/Stamp", "<init>", "(II)V"⟩ : MethodName) (head1 (Jvm.Cond.code (⟨"com/example/wachter/wachter/model/Stamp", "<init>", "(II)V"⟩ : MethodName) prog_35_method_1_code 3 none :: ws) ({ frames := 1, cells := 0, slots := 0, locals := 13 } : Room)) (fun a U => a = #[(.ref a1), (.int p2), (.int p3)] ∧ Z.Warmed39 U.vm ∧ U.heap = h0) (fun _ _ _ _ _ => True) (fun _ U o U' => ∃ v L, o = .returned v ∧ Q2 Z a1 p2 p3 u1 u2 h0 n0 v U'.heap L ∧ FrameEnd U o U' L ({ frames := 1, cells := 0, slots := 0, locals := 13 } : Room).cells ({ frames := 1, cells := 0, slots := 0, locals := 13 } : Room).slots) := by
  refine MetFree.of_bodySF (plainFor_of_name pn_2) hisR ?_
  intro p e s m args below meth c s₁ Bd hml0 hP hK
  obtain ⟨rfl, hZ, hh⟩ := hP
  have hx := Bd.exec
  have hby := Bd.bytes
  have hml : c.maxLocals = 3 := hml0
  have hown : s.vm.findClass "com/example/wachter/wachter/model/Stamp" = some m.cls := findClass_of_methodNamed Bd.named
  have hnm := (name_of_methodNamed Bd.named Bd.method).1
  have X0 : Stand p l e ({ frames := 1, cells := 0, slots := 0, locals := 13 } : Room) s m #[(.ref a1), (.int p2), (.int p3)] below meth c s₁ [] 0 0 := Stand.of_body Bd
  have e0 : s₁.heap = h0 := by rw [← hh, Bd.state]; rfl
  have N0 := Fr.nil n0
  have pre0 : ∀ t, Steps p.tables e below (s₁.setTop (mkF m 0 #[.val (.ref a1), .val (.int p2), .val (.int p3)] [])) t → Steps p.tables e below (s₁.setTop (entryFrame m #[(.ref a1), (.int p2), (.int p3)] 3)) t := fun t k => castTop (ef_2 m a1 p2 p3) k
  have Kp : Keep h0 h0 [a1] := Keep.refl h0 [a1]
  obtain ⟨T2, X2, e2, st2⟩ := initO X0 hx hZ hown (hw _ (List.mem_of_getElem? (i := 11) rfl)) (hw _ (List.mem_of_getElem? (i := 12) rfl)) (hw _ (List.mem_of_getElem? (i := 13) rfl)) e0 (g := (mkF m 1 #[.val (.ref a1), .val (.int p2), .val (.int p3)] [(.ref a1)])) rfl (by rw [hml]; rfl) rfl (hb hby d2_1) (by decide) (W := 0) (by show 2 * 0 + _ ≤ _; exact Nat.le_of_eq rfl) (by decide)
  obtain ⟨T3, h3, X3, e3, W3, st3⟩ := putF X2 hx hZ hown (host := "") (Or.inl (hw _ (List.mem_of_getElem? (i := 14) rfl))) Via.refl e2 F_counter_a1 E_a1 (Or.inr ⟨(hw _ (List.mem_of_getElem? (i := 15) rfl)), rfl, hnm⟩) (hw _ (List.mem_of_getElem? (i := 6) rfl)) (ty := .int) (by decide) rfl rfl (g := (mkF m 25 #[.val (.ref a1), .val (.int p2), .val (.int p3)] [(.int p2), (.ref a1)])) rfl rfl (hb hby d2_25)
  have N3 := Fr.snoc X3 N0 g_a1
  have Zs : n0 ≤ h3.size := Nat.le_trans Zs (Keep.of_wr W3).1
  have E_a1 : Exa Z h3 a1 "com/example/wachter/wachter/model/Stamp" := E_a1.wr W3
  have F_counter_a1 : Fld Z h3 a1 "com/example/wachter/wachter/model/Stamp" "counter" "I" (.int p2) := F_counter_a1.same W3
  have F_member_a1 : Fld Z h3 a1 "com/example/wachter/wachter/model/Stamp" "member" "I" (.int u2) := F_member_a1.other W3 (Or.inr (slot_ne (Or.inr (hw _ (List.mem_of_getElem? (i := 21) rfl))) (Or.inr (hw _ (List.mem_of_getElem? (i := 15) rfl))) (by decide) (t := .int) (t' := .int) (by decide) (by decide)))
  have Kp : Keep h0 h3 [a1] := Kp.wr W3 (Or.inl (List.mem_of_getElem? (i := 0) rfl))
  obtain ⟨_, _, ⟨T4, L4, k4, n4⟩, -, X4, ⟨Lc4, hQ4, l4, y4, z4⟩, st4⟩ := Jvm.LawKit.callS X3 hx (y := (⟨"com/example/wachter/wachter/model/Message", "requireMember", "(I)I"⟩ : MethodName)) hown (mvT hZ (hw _ (List.mem_of_getElem? (i := 16) rfl))) (mvT hZ (hw _ (List.mem_of_getElem? (i := 17) rfl))) (mvT hZ (hw _ (List.mem_of_getElem? (i := 18) rfl))) (mvT hZ (hw _ (List.mem_of_getElem? (i := 19) rfl))) (by decide) (backOf (W := 1) (rm4 l Z a0 hw [] p3 h3 n0 Zs hp3) hZ (hw _ (List.mem_of_getElem? (i := 19) rfl)) (hw _ (List.mem_of_getElem? (i := 18) rfl)) (by decide) (by decide)) (g := (mkF m 30 #[.val (.ref a1), .val (.int p2), .val (.int p3)] [(.int p3), (.ref a1)])) rfl (by rw [hml]; rfl) (argsL := [(.int p3)]) (rest := [(.ref a1)]) (lenOf pd_0 rfl) rfl (by show 2 * 0 + _ ≤ _; exact Nat.le_of_eq rfl) (hb hby d2_30) (fun _ _ => ⟨rfl, e3, (by decide : 0 + 0 ≤ _), (by decide : 0 + 0 ≤ _)⟩)
  dsimp only [Pt.U, Pt.locs, Pt.cells, Pt.slots] at X4 l4 y4 z4 st4 hQ4
  subst l4 y4 z4
  obtain ⟨rfl, N4q, e4⟩ := hQ4
  have N4 := Fr.app N3 N4q
  obtain ⟨T5, h5, X5, e5, W5, st5⟩ := putF X4 hx hZ hown (host := "") (Or.inl (hw _ (List.mem_of_getElem? (i := 20) rfl))) Via.refl e4 F_member_a1 E_a1 (Or.inr ⟨(hw _ (List.mem_of_getElem? (i := 21) rfl)), rfl, hnm⟩) (hw _ (List.mem_of_getElem? (i := 6) rfl)) (ty := .int) (by decide) rfl rfl (g := (mkF m 33 #[.val (.ref a1), .val (.int p2), .val (.int p3)] [(.int (f4 p3)), (.ref a1)])) rfl rfl (hb hby d2_33)
  have N5 := Fr.snoc X5 N4 g_a1
  have Zs : n0 ≤ h5.size := Nat.le_trans Zs (Keep.of_wr W5).1
  have E_a1 : Exa Z h5 a1 "com/example/wachter/wachter/model/Stamp" := E_a1.wr W5
  have F_counter_a1 : Fld Z h5 a1 "com/example/wachter/wachter/model/Stamp" "counter" "I" (.int p2) := F_counter_a1.other W5 (Or.inr (slot_ne (Or.inr (hw _ (List.mem_of_getElem? (i := 15) rfl))) (Or.inr (hw _ (List.mem_of_getElem? (i := 21) rfl))) (by decide) (t := .int) (t' := .int) (by decide) (by decide)))
  have F_member_a1 : Fld Z h5 a1 "com/example/wachter/wachter/model/Stamp" "member" "I" (.int (f4 p3)) := F_member_a1.same W5
  have Kp : Keep h0 h5 [a1] := Kp.wr W5 (Or.inl (List.mem_of_getElem? (i := 0) rfl))
  obtain ⟨fs, hr, hrun, hended, hW, hsame⟩ := X5.leave (v := none) (fun _ => rfl)
  refine ⟨_, _, pre0 _ ?_, hrun, hended, _, _, rfl, ?_, ⟨_, rfl⟩, hW, hsame.mono (by decide) (by decide)⟩
  · show Steps p.tables e below (s₁.setTop (mkF m 0 #[.val (.ref a1), .val (.int p2), .val (.int p3)] [])) _
    refine XS.aloadN X0.here hx rfl (hb hby d2_0) rfl rfl ?_
    show Steps p.tables e below (s₁.setTop (mkF m 1 #[.val (.ref a1), .val (.int p2), .val (.int p3)] [(.ref a1)])) _
    refine st2 _ ?_
    show Steps p.tables e below (T2.setTop (mkF m 4 #[.val (.ref a1), .val (.int p2), .val (.int p3)] [])) _
    refine XS.iloadN X2.here hx rfl (hb hby d2_4) rfl ?_
    show Steps p.tables e below (T2.setTop (mkF m 5 #[.val (.ref a1), .val (.int p2), .val (.int p3)] [(.int p2)])) _
    refine XS.iconst X2.here hx rfl (hb hby d2_5) ?_
    show Steps p.tables e below (T2.setTop (mkF m 6 #[.val (.ref a1), .val (.int p2), .val (.int p3)] [(.int (1 : Int32)), (.int p2)])) _
    refine XS.icmpYes X2.here hx rfl (pc0 := 6) (pc' := 23) rfl (hb hby d2_6) rfl (flt hp2).2.1 (by decide) (by decide) ?_
    show Steps p.tables e below (T2.setTop (mkF m 23 #[.val (.ref a1), .val (.int p2), .val (.int p3)] [])) _
    refine XS.aloadN X2.here hx rfl (hb hby d2_23) rfl rfl ?_
    show Steps p.tables e below (T2.setTop (mkF m 24 #[.val (.ref a1), .val (.int p2), .val (.int p3)] [(.ref a1)])) _
    refine XS.iloadN X2.here hx rfl (hb hby d2_24) rfl ?_
    show Steps p.tables e below (T2.setTop (mkF m 25 #[.val (.ref a1), .val (.int p2), .val (.int p3)] [(.int p2), (.ref a1)])) _
    refine st3 _ ?_
    show Steps p.tables e below (T3.setTop (mkF m 28 #[.val (.ref a1), .val (.int p2), .val (.int p3)] [])) _
    refine XS.aloadN X3.here hx rfl (hb hby d2_28) rfl rfl ?_
    show Steps p.tables e below (T3.setTop (mkF m 29 #[.val (.ref a1), .val (.int p2), .val (.int p3)] [(.ref a1)])) _
    refine XS.iloadN X3.here hx rfl (hb hby d2_29) rfl ?_
    show Steps p.tables e below (T3.setTop (mkF m 30 #[.val (.ref a1), .val (.int p2), .val (.int p3)] [(.int p3), (.ref a1)])) _
    refine st4 _ ?_
    show Steps p.tables e below (T4.setTop (mkF m 33 #[.val (.ref a1), .val (.int p2), .val (.int p3)] [(.int (f4 p3)), (.ref a1)])) _
    refine st5 _ ?_
    show Steps p.tables e below (T5.setTop (mkF m 36 #[.val (.ref a1), .val (.int p2), .val (.int p3)] [])) _
    exact X5.returnOut hx Bd.returns (hb hby d2_36) hr
  · show Q2 Z a1 p2 p3 u1 u2 h0 n0 _ T5.heap _
    rw [e5]
    exact ⟨rfl, N5, Kp, E_a1, F_counter_a1, F_member_a1⟩
def Q6 (Z : State) (a1 : Addr) (a2 : Addr) (w1 : Int32) (w2 : Int32) (w3 : Int32) (w4 : Int32) (h0 : Heap) (n0 : Nat) (v : Option Value) (h : Heap) (L : List Loc) : Prop := v = some (.int (f6 w1 w2 w3 w4)) ∧ Fr n0 L ∧ h = h0
theorem ef_6 (m : MethodId) (a1 : Addr) (a2 : Addr) : entryFrame m #[(.ref a1), (.ref a2)] 2 = mkF m 0 #[.val (.ref a1), .val (.ref a2)] [] := by first | (simp [entryFrame, mkF, argsToLocals, Value.category]; done) | rfl
set_option maxRecDepth 65536 in
set_option maxHeartbeats 40000000 in
theorem rm6 (l : Launch) (Z : State) (a0 : Array Value) (hw : ∀ d ∈ tables_1, d.before a0 Z = true) (ws : List Jvm.Cond) (a1 : Addr) (a2 : Addr) (w1 : Int32) (w2 : Int32) (w3 : Int32) (w4 : Int32) (h0 : Heap) (n0 : Nat) (Zs : n0 ≤ h0.size) (F_counter_a1 : Fld Z h0 a1 "com/example/wachter/wachter/model/Stamp" "counter" "I" (.int w1)) (F_counter_a2 : Fld Z h0 a2 "com/example/wachter/wachter/model/Stamp" "counter" "I" (.int w2)) (F_member_a1 : Fld Z h0 a1 "com/example/wachter/wachter/model/Stamp" "member" "I" (.int w3)) (F_member_a2 : Fld Z h0 a2 "com/example/wachter/wachter/model/Stamp" "member" "I" (.int w4)) :
    MetFree l (⟨"com/example/wachter/wachter/model/Stamp", "beats", "(Lcom/example/wachter/wachter/model/Stamp;)Z"⟩ : MethodName) (head1 (Jvm.Cond.code (⟨"com/example/wachter/wachter/model/Stamp", "beats", "(Lcom/example/wachter/wachter/model/Stamp;)Z"⟩ : MethodName) prog_35_method_4_code 2 (some .boolean) :: ws) ({ frames := 0, cells := 0, slots := 0, locals := 0 } : Room)) (fun a U => a = #[(.ref a1), (.ref a2)] ∧ Z.Warmed39 U.vm ∧ U.heap = h0) (fun _ _ _ _ _ => True) (fun _ U o U' => ∃ v L, o = .returned v ∧ Q6 Z a1 a2 w1 w2 w3 w4 h0 n0 v U'.heap L ∧ FrameEnd U o U' L ({ frames := 0, cells := 0, slots := 0, locals := 0 } : Room).cells ({ frames := 0, cells := 0, slots := 0, locals := 0 } : Room).slots) := by
  refine MetFree.of_bodySF (plainFor_of_name pn_2) hisR ?_
  intro p e s m args below meth c s₁ Bd hml0 hP hK
  obtain ⟨rfl, hZ, hh⟩ := hP
  have hx := Bd.exec
  have hby := Bd.bytes
  have hml : c.maxLocals = 2 := hml0
  have hown : s.vm.findClass "com/example/wachter/wachter/model/Stamp" = some m.cls := findClass_of_methodNamed Bd.named
  have hnm := (name_of_methodNamed Bd.named Bd.method).1
  have X0 : Stand p l e ({ frames := 0, cells := 0, slots := 0, locals := 0 } : Room) s m #[(.ref a1), (.ref a2)] below meth c s₁ [] 0 0 := Stand.of_body Bd
  have e0 : s₁.heap = h0 := by rw [← hh, Bd.state]; rfl
  have N0 := Fr.nil n0
  have pre0 : ∀ t, Steps p.tables e below (s₁.setTop (mkF m 0 #[.val (.ref a1), .val (.ref a2)] [])) t → Steps p.tables e below (s₁.setTop (entryFrame m #[(.ref a1), (.ref a2)] 2)) t := fun t k => castTop (ef_6 m a1 a2) k
  obtain ⟨T6, X6, e6, st6⟩ := getF X0 hx hZ hown (host := "") (Or.inl (hw _ (List.mem_of_getElem? (i := 14) rfl))) Via.refl e0 F_counter_a1 (g := (mkF m 1 #[.val (.ref a1), .val (.ref a2)] [(.ref a1)])) rfl rfl (hb hby d6_1)
  obtain ⟨T7, X7, e7, st7⟩ := getF X6 hx hZ hown (host := "") (Or.inl (hw _ (List.mem_of_getElem? (i := 14) rfl))) Via.refl e6 F_counter_a2 (g := (mkF m 5 #[.val (.ref a1), .val (.ref a2)] [(.ref a2), (.int w1)])) rfl rfl (hb hby d6_5)
  have pre8 : ∀ t, Steps p.tables e below (T7.setTop (mkF m 8 #[.val (.ref a1), .val (.ref a2)] [(.int w2), (.int w1)])) t → Steps p.tables e below (s₁.setTop (entryFrame m #[(.ref a1), (.ref a2)] 2)) t := fun t k => pre0 t (by
    show Steps p.tables e below (s₁.setTop (mkF m 0 #[.val (.ref a1), .val (.ref a2)] [])) _
    refine XS.aloadN X0.here hx rfl (hb hby d6_0) rfl rfl ?_
    show Steps p.tables e below (s₁.setTop (mkF m 1 #[.val (.ref a1), .val (.ref a2)] [(.ref a1)])) _
    refine st6 _ ?_
    show Steps p.tables e below (T6.setTop (mkF m 4 #[.val (.ref a1), .val (.ref a2)] [(.int w1)])) _
    refine XS.aloadN X6.here hx rfl (hb hby d6_4) rfl rfl ?_
    show Steps p.tables e below (T6.setTop (mkF m 5 #[.val (.ref a1), .val (.ref a2)] [(.ref a2), (.int w1)])) _
    refine st7 _ ?_
    exact k)
  by_cases hc8 : w1 = w2
  ·
    obtain ⟨T9, X9, e9, st9⟩ := getF X7 hx hZ hown (host := "") (Or.inl (hw _ (List.mem_of_getElem? (i := 20) rfl))) Via.refl e7 F_member_a1 (g := (mkF m 31 #[.val (.ref a1), .val (.ref a2)] [(.ref a1)])) rfl rfl (hb hby d6_31)
    obtain ⟨T10, X10, e10, st10⟩ := getF X9 hx hZ hown (host := "") (Or.inl (hw _ (List.mem_of_getElem? (i := 20) rfl))) Via.refl e9 F_member_a2 (g := (mkF m 35 #[.val (.ref a1), .val (.ref a2)] [(.ref a2), (.int w3)])) rfl rfl (hb hby d6_35)
    have pre11 : ∀ t, Steps p.tables e below (T10.setTop (mkF m 38 #[.val (.ref a1), .val (.ref a2)] [(.int w4), (.int w3)])) t → Steps p.tables e below (s₁.setTop (entryFrame m #[(.ref a1), (.ref a2)] 2)) t := fun t k => pre8 t (by
      show Steps p.tables e below (T7.setTop (mkF m 8 #[.val (.ref a1), .val (.ref a2)] [(.int w2), (.int w1)])) _
      refine XS.icmpYes X7.here hx rfl (pc0 := 8) (pc' := 30) rfl (hb hby d6_8) rfl (teq hc8).1 (by decide) (by decide) ?_
      show Steps p.tables e below (T7.setTop (mkF m 30 #[.val (.ref a1), .val (.ref a2)] [])) _
      refine XS.aloadN X7.here hx rfl (hb hby d6_30) rfl rfl ?_
      show Steps p.tables e below (T7.setTop (mkF m 31 #[.val (.ref a1), .val (.ref a2)] [(.ref a1)])) _
      refine st9 _ ?_
      show Steps p.tables e below (T9.setTop (mkF m 34 #[.val (.ref a1), .val (.ref a2)] [(.int w3)])) _
      refine XS.aloadN X9.here hx rfl (hb hby d6_34) rfl rfl ?_
      show Steps p.tables e below (T9.setTop (mkF m 35 #[.val (.ref a1), .val (.ref a2)] [(.ref a2), (.int w3)])) _
      refine st10 _ ?_
      exact k)
    by_cases hc38 : w4 < w3
    ·
      obtain ⟨fs, hr, hrun, hended, hW, hsame⟩ := X10.leave (v := some (.int (1 : Int32))) (fun h => by rw [Bd.returns] at h; cases h)
      refine ⟨_, _, pre11 _ ?_, hrun, hended, _, _, rfl, ?_, ⟨_, rfl⟩, hW, hsame.mono (by decide) (by decide)⟩
      · show Steps p.tables e below (T10.setTop (mkF m 38 #[.val (.ref a1), .val (.ref a2)] [(.int w4), (.int w3)])) _
        refine XS.icmpNo X10.here hx rfl (hb hby d6_38) rfl (tlt hc38).2.2.2 ?_
        show Steps p.tables e below (T10.setTop (mkF m 41 #[.val (.ref a1), .val (.ref a2)] [])) _
        refine XS.iconst X10.here hx rfl (hb hby d6_41) ?_
        show Steps p.tables e below (T10.setTop (mkF m 42 #[.val (.ref a1), .val (.ref a2)] [(.int (1 : Int32))])) _
        refine XS.goto X10.here hx rfl (pc0 := 42) (pc' := 46) rfl (hb hby d6_42) (by decide) (by decide) ?_
        show Steps p.tables e below (T10.setTop (mkF m 46 #[.val (.ref a1), .val (.ref a2)] [(.int (1 : Int32))])) _
        exact retN X10 hx (t := .boolean) Bd.returns (by simp) (hb hby d6_46) hr
      · show Q6 Z a1 a2 w1 w2 w3 w4 h0 n0 _ T10.heap _
        rw [e10]
        exact ⟨congrArg some (congrArg Value.int (show (1 : Int32) = (f6 w1 w2 w3 w4) from by rw [f6, if_pos hc8, if_pos hc38])), N0, rfl⟩
    ·
      obtain ⟨fs, hr, hrun, hended, hW, hsame⟩ := X10.leave (v := some (.int (0 : Int32))) (fun h => by rw [Bd.returns] at h; cases h)
      refine ⟨_, _, pre11 _ ?_, hrun, hended, _, _, rfl, ?_, ⟨_, rfl⟩, hW, hsame.mono (by decide) (by decide)⟩
      · show Steps p.tables e below (T10.setTop (mkF m 38 #[.val (.ref a1), .val (.ref a2)] [(.int w4), (.int w3)])) _
        refine XS.icmpYes X10.here hx rfl (pc0 := 38) (pc' := 45) rfl (hb hby d6_38) rfl (flt hc38).2.2.2 (by decide) (by decide) ?_
        show Steps p.tables e below (T10.setTop (mkF m 45 #[.val (.ref a1), .val (.ref a2)] [])) _
        refine XS.iconst X10.here hx rfl (hb hby d6_45) ?_
        show Steps p.tables e below (T10.setTop (mkF m 46 #[.val (.ref a1), .val (.ref a2)] [(.int (0 : Int32))])) _
        exact retN X10 hx (t := .boolean) Bd.returns (by simp) (hb hby d6_46) hr
      · show Q6 Z a1 a2 w1 w2 w3 w4 h0 n0 _ T10.heap _
        rw [e10]
        exact ⟨congrArg some (congrArg Value.int (show (0 : Int32) = (f6 w1 w2 w3 w4) from by rw [f6, if_pos hc8, if_neg hc38])), N0, rfl⟩
  ·
    obtain ⟨T12, X12, e12, st12⟩ := getF X7 hx hZ hown (host := "") (Or.inl (hw _ (List.mem_of_getElem? (i := 14) rfl))) Via.refl e7 F_counter_a1 (g := (mkF m 12 #[.val (.ref a1), .val (.ref a2)] [(.ref a1)])) rfl rfl (hb hby d6_12)
    obtain ⟨T13, X13, e13, st13⟩ := getF X12 hx hZ hown (host := "") (Or.inl (hw _ (List.mem_of_getElem? (i := 14) rfl))) Via.refl e12 F_counter_a2 (g := (mkF m 16 #[.val (.ref a1), .val (.ref a2)] [(.ref a2), (.int w1)])) rfl rfl (hb hby d6_16)
    have pre14 : ∀ t, Steps p.tables e below (T13.setTop (mkF m 19 #[.val (.ref a1), .val (.ref a2)] [(.int w2), (.int w1)])) t → Steps p.tables e below (s₁.setTop (entryFrame m #[(.ref a1), (.ref a2)] 2)) t := fun t k => pre8 t (by
      show Steps p.tables e below (T7.setTop (mkF m 8 #[.val (.ref a1), .val (.ref a2)] [(.int w2), (.int w1)])) _
      refine XS.icmpNo X7.here hx rfl (hb hby d6_8) rfl (feq hc8).1 ?_
      show Steps p.tables e below (T7.setTop (mkF m 11 #[.val (.ref a1), .val (.ref a2)] [])) _
      refine XS.aloadN X7.here hx rfl (hb hby d6_11) rfl rfl ?_
      show Steps p.tables e below (T7.setTop (mkF m 12 #[.val (.ref a1), .val (.ref a2)] [(.ref a1)])) _
      refine st12 _ ?_
      show Steps p.tables e below (T12.setTop (mkF m 15 #[.val (.ref a1), .val (.ref a2)] [(.int w1)])) _
      refine XS.aloadN X12.here hx rfl (hb hby d6_15) rfl rfl ?_
      show Steps p.tables e below (T12.setTop (mkF m 16 #[.val (.ref a1), .val (.ref a2)] [(.ref a2), (.int w1)])) _
      refine st13 _ ?_
      exact k)
    by_cases hc19 : w2 < w1
    ·
      obtain ⟨fs, hr, hrun, hended, hW, hsame⟩ := X13.leave (v := some (.int (1 : Int32))) (fun h => by rw [Bd.returns] at h; cases h)
      refine ⟨_, _, pre14 _ ?_, hrun, hended, _, _, rfl, ?_, ⟨_, rfl⟩, hW, hsame.mono (by decide) (by decide)⟩
      · show Steps p.tables e below (T13.setTop (mkF m 19 #[.val (.ref a1), .val (.ref a2)] [(.int w2), (.int w1)])) _
        refine XS.icmpNo X13.here hx rfl (hb hby d6_19) rfl (tlt hc19).2.2.2 ?_
        show Steps p.tables e below (T13.setTop (mkF m 22 #[.val (.ref a1), .val (.ref a2)] [])) _
        refine XS.iconst X13.here hx rfl (hb hby d6_22) ?_
        show Steps p.tables e below (T13.setTop (mkF m 23 #[.val (.ref a1), .val (.ref a2)] [(.int (1 : Int32))])) _
        refine XS.goto X13.here hx rfl (pc0 := 23) (pc' := 46) rfl (hb hby d6_23) (by decide) (by decide) ?_
        show Steps p.tables e below (T13.setTop (mkF m 46 #[.val (.ref a1), .val (.ref a2)] [(.int (1 : Int32))])) _
        exact retN X13 hx (t := .boolean) Bd.returns (by simp) (hb hby d6_46) hr
      · show Q6 Z a1 a2 w1 w2 w3 w4 h0 n0 _ T13.heap _
        rw [e13]
        exact ⟨congrArg some (congrArg Value.int (show (1 : Int32) = (f6 w1 w2 w3 w4) from by rw [f6, if_neg hc8, if_pos hc19])), N0, rfl⟩
    ·
      obtain ⟨fs, hr, hrun, hended, hW, hsame⟩ := X13.leave (v := some (.int (0 : Int32))) (fun h => by rw [Bd.returns] at h; cases h)
      refine ⟨_, _, pre14 _ ?_, hrun, hended, _, _, rfl, ?_, ⟨_, rfl⟩, hW, hsame.mono (by decide) (by decide)⟩
      · show Steps p.tables e below (T13.setTop (mkF m 19 #[.val (.ref a1), .val (.ref a2)] [(.int w2), (.int w1)])) _
        refine XS.icmpYes X13.here hx rfl (pc0 := 19) (pc' := 26) rfl (hb hby d6_19) rfl (flt hc19).2.2.2 (by decide) (by decide) ?_
        show Steps p.tables e below (T13.setTop (mkF m 26 #[.val (.ref a1), .val (.ref a2)] [])) _
        refine XS.iconst X13.here hx rfl (hb hby d6_26) ?_
        show Steps p.tables e below (T13.setTop (mkF m 27 #[.val (.ref a1), .val (.ref a2)] [(.int (0 : Int32))])) _
        refine XS.goto X13.here hx rfl (pc0 := 27) (pc' := 46) rfl (hb hby d6_27) (by decide) (by decide) ?_
        show Steps p.tables e below (T13.setTop (mkF m 46 #[.val (.ref a1), .val (.ref a2)] [(.int (0 : Int32))])) _
        exact retN X13 hx (t := .boolean) Bd.returns (by simp) (hb hby d6_46) hr
      · show Q6 Z a1 a2 w1 w2 w3 w4 h0 n0 _ T13.heap _
        rw [e13]
        exact ⟨congrArg some (congrArg Value.int (show (0 : Int32) = (f6 w1 w2 w3 w4) from by rw [f6, if_neg hc8, if_neg hc19])), N0, rfl⟩
def Q0 (Z : State) (p1 : Int32) (p2 : Int32) (p3 : Int32) (p4 : Int32) (p5 : Int32) (h0 : Heap) (n0 : Nat) (v : Option Value) (h : Heap) (L : List Loc) : Prop := v = some (.int (1 : Int32)) ∧ Fr n0 L
theorem ef_0 (m : MethodId) (p1 : Int32) (p2 : Int32) (p3 : Int32) (p4 : Int32) (p5 : Int32) : entryFrame m #[(.int p1), (.int p2), (.int p3), (.int p4), (.int p5)] maxLocals = mkF m 0 #[.val (.int p1), .val (.int p2), .val (.int p3), .val (.int p4), .val (.int p5), .unset, .unset, .unset, .unset, .unset, .unset, .unset, .unset, .unset, .unset, .unset, .unset] [] := by first | (simp [entryFrame, mkF, argsToLocals, Value.category, maxLocals]; done) | rfl
set_option maxRecDepth 65536 in
set_option maxHeartbeats 40000000 in
theorem rm0 (l : Launch) (Z : State) (a0 : Array Value) (hw : ∀ d ∈ tables_1, d.before a0 Z = true) (ws : List Jvm.Cond) (p1 : Int32) (p2 : Int32) (p3 : Int32) (p4 : Int32) (p5 : Int32) (h0 : Heap) (n0 : Nat) (Zs : n0 ≤ h0.size)  :
    MetFree l x (head1 (Jvm.Cond.code x code maxLocals ret :: ws) room_1) (fun a U => a = #[(.int p1), (.int p2), (.int p3), (.int p4), (.int p5)] ∧ Z.Warmed39 U.vm ∧ U.heap = h0) (fun _ _ _ _ _ => True) (fun _ U o U' => ∃ v L, o = .returned v ∧ Q0 Z p1 p2 p3 p4 p5 h0 n0 v U'.heap L ∧ FrameEnd U o U' L room_1.cells room_1.slots) := by
  refine MetFree.of_bodySF (plainFor_of_name pn_1) hisR ?_
  intro p e s m args below meth c s₁ Bd hml0 hP hK
  obtain ⟨rfl, hZ, hh⟩ := hP
  have hx := Bd.exec
  have hby := Bd.bytes
  have hml : c.maxLocals = 17 := hml0
  have hown : s.vm.findClass "com/example/wachter/wachter/model/StampBeatsPinLaw" = some m.cls := findClass_of_methodNamed Bd.named
  have hnm := (name_of_methodNamed Bd.named Bd.method).1
  have X0 : Stand p l e room_1 s m #[(.int p1), (.int p2), (.int p3), (.int p4), (.int p5)] below meth c s₁ [] 0 0 := Stand.of_body Bd
  have e0 : s₁.heap = h0 := by rw [← hh, Bd.state]; rfl
  have N0 := Fr.nil n0
  have pre0 : ∀ t, Steps p.tables e below (s₁.setTop (mkF m 0 #[.val (.int p1), .val (.int p2), .val (.int p3), .val (.int p4), .val (.int p5), .unset, .unset, .unset, .unset, .unset, .unset, .unset, .unset, .unset, .unset, .unset, .unset] [])) t → Steps p.tables e below (s₁.setTop (entryFrame m #[(.int p1), (.int p2), (.int p3), (.int p4), (.int p5)] maxLocals)) t := fun t k => castTop (ef_0 m p1 p2 p3 p4 p5) k
  obtain ⟨_, _, ⟨T15, L15, k15, n15⟩, -, X15, ⟨Lc15, hQ15, l15, y15, z15⟩, st15⟩ := Jvm.LawKit.callS X0 hx (y := (⟨"java/lang/Math", "max", "(II)I"⟩ : MethodName)) hown (mvT hZ (hw _ (List.mem_of_getElem? (i := 1) rfl))) (mvT hZ (hw _ (List.mem_of_getElem? (i := 2) rfl))) (mvT hZ (hw _ (List.mem_of_getElem? (i := 3) rfl))) (mvT hZ (hw _ (List.mem_of_getElem? (i := 4) rfl))) (by decide) (backOf (W := 0) (rm1 l Z a0 hw [] (1 : Int32) (p1 &&& (2147483647 : Int32)) h0 n0 Zs ) hZ (hw _ (List.mem_of_getElem? (i := 4) rfl)) (hw _ (List.mem_of_getElem? (i := 3) rfl)) (by decide) (by decide)) (g := (mkF m 5 #[.val (.int p1), .val (.int p2), .val (.int p3), .val (.int p4), .val (.int p5), .unset, .unset, .unset, .unset, .unset, .unset, .unset, .unset, .unset, .unset, .unset, .unset] [(.int (p1 &&& (2147483647 : Int32))), (.int (1 : Int32))])) rfl (by rw [hml]; rfl) (argsL := [(.int (1 : Int32)), (.int (p1 &&& (2147483647 : Int32)))]) (rest := []) (lenOf pd_1 rfl) rfl (by show 2 * 0 + _ ≤ _; exact Nat.le_of_eq rfl) (hb hby at_5) (fun _ _ => ⟨rfl, e0, (by decide : 0 + 0 ≤ _), (by decide : 0 + 0 ≤ _)⟩)
  dsimp only [Pt.U, Pt.locs, Pt.cells, Pt.slots] at X15 l15 y15 z15 st15 hQ15
  subst l15 y15 z15
  obtain ⟨rfl, N15q, e15⟩ := hQ15
  have N15 := Fr.app N0 N15q
  obtain ⟨v8, hv8⟩ : ∃ z : Int32, z = (f1 (1 : Int32) (p1 &&& (2147483647 : Int32))) := ⟨_, rfl⟩
  have pre16 : ∀ t, Steps p.tables e below (T15.setTop (mkF m 10 #[.val (.int p1), .val (.int p2), .val (.int p3), .val (.int p4), .val (.int p5), .val (.int v8), .unset, .unset, .unset, .unset, .unset, .unset, .unset, .unset, .unset, .unset, .unset] [])) t → Steps p.tables e below (s₁.setTop (entryFrame m #[(.int p1), (.int p2), (.int p3), (.int p4), (.int p5)] maxLocals)) t := fun t k => pre0 t (by
    show Steps p.tables e below (s₁.setTop (mkF m 0 #[.val (.int p1), .val (.int p2), .val (.int p3), .val (.int p4), .val (.int p5), .unset, .unset, .unset, .unset, .unset, .unset, .unset, .unset, .unset, .unset, .unset, .unset] [])) _
    refine XS.iconst X0.here hx rfl (hb hby at_0) ?_
    show Steps p.tables e below (s₁.setTop (mkF m 1 #[.val (.int p1), .val (.int p2), .val (.int p3), .val (.int p4), .val (.int p5), .unset, .unset, .unset, .unset, .unset, .unset, .unset, .unset, .unset, .unset, .unset, .unset] [(.int (1 : Int32))])) _
    refine XS.iloadN X0.here hx rfl (hb hby at_1) rfl ?_
    show Steps p.tables e below (s₁.setTop (mkF m 2 #[.val (.int p1), .val (.int p2), .val (.int p3), .val (.int p4), .val (.int p5), .unset, .unset, .unset, .unset, .unset, .unset, .unset, .unset, .unset, .unset, .unset, .unset] [(.int p1), (.int (1 : Int32))])) _
    refine X0.ldcInt hx hown (mvT hZ (hw _ (List.mem_of_getElem? (i := 0) rfl))) (g := (mkF m 2 #[.val (.int p1), .val (.int p2), .val (.int p3), .val (.int p4), .val (.int p5), .unset, .unset, .unset, .unset, .unset, .unset, .unset, .unset, .unset, .unset, .unset, .unset] [(.int p1), (.int (1 : Int32))])) rfl (hb hby at_2) _ ?_
    show Steps p.tables e below (s₁.setTop (mkF m 4 #[.val (.int p1), .val (.int p2), .val (.int p3), .val (.int p4), .val (.int p5), .unset, .unset, .unset, .unset, .unset, .unset, .unset, .unset, .unset, .unset, .unset, .unset] [(.int (2147483647 : Int32)), (.int p1), (.int (1 : Int32))])) _
    refine XS.iand X0.here hx rfl (hb hby at_4) rfl ?_
    show Steps p.tables e below (s₁.setTop (mkF m 5 #[.val (.int p1), .val (.int p2), .val (.int p3), .val (.int p4), .val (.int p5), .unset, .unset, .unset, .unset, .unset, .unset, .unset, .unset, .unset, .unset, .unset, .unset] [(.int (p1 &&& (2147483647 : Int32))), (.int (1 : Int32))])) _
    refine st15 _ ?_
    show Steps p.tables e below (T15.setTop (mkF m 8 #[.val (.int p1), .val (.int p2), .val (.int p3), .val (.int p4), .val (.int p5), .unset, .unset, .unset, .unset, .unset, .unset, .unset, .unset, .unset, .unset, .unset, .unset] [(.int (f1 (1 : Int32) (p1 &&& (2147483647 : Int32))))])) _
    refine XS.istore X15.here hx rfl (hb hby at_8) rfl (l' := #[.val (.int p1), .val (.int p2), .val (.int p3), .val (.int p4), .val (.int p5), .val (.int (f1 (1 : Int32) (p1 &&& (2147483647 : Int32)))), .unset, .unset, .unset, .unset, .unset, .unset, .unset, .unset, .unset, .unset, .unset]) rfl ?_
    rw [hv8] at k
    exact k)
  obtain ⟨v14, hv14⟩ : ∃ z : Int32, z = (p2 &&& (2147483647 : Int32)) := ⟨_, rfl⟩
  have pre17 : ∀ t, Steps p.tables e below (T15.setTop (mkF m 16 #[.val (.int p1), .val (.int p2), .val (.int p3), .val (.int p4), .val (.int p5), .val (.int v8), .val (.int v14), .unset, .unset, .unset, .unset, .unset, .unset, .unset, .unset, .unset, .unset] [])) t → Steps p.tables e below (s₁.setTop (entryFrame m #[(.int p1), (.int p2), (.int p3), (.int p4), (.int p5)] maxLocals)) t := fun t k => pre16 t (by
    show Steps p.tables e below (T15.setTop (mkF m 10 #[.val (.int p1), .val (.int p2), .val (.int p3), .val (.int p4), .val (.int p5), .val (.int v8), .unset, .unset, .unset, .unset, .unset, .unset, .unset, .unset, .unset, .unset, .unset] [])) _
    refine XS.iloadN X15.here hx rfl (hb hby at_10) rfl ?_
    show Steps p.tables e below (T15.setTop (mkF m 11 #[.val (.int p1), .val (.int p2), .val (.int p3), .val (.int p4), .val (.int p5), .val (.int v8), .unset, .unset, .unset, .unset, .unset, .unset, .unset, .unset, .unset, .unset, .unset] [(.int p2)])) _
    refine X15.ldcInt hx hown (mvT hZ (hw _ (List.mem_of_getElem? (i := 0) rfl))) (g := (mkF m 11 #[.val (.int p1), .val (.int p2), .val (.int p3), .val (.int p4), .val (.int p5), .val (.int v8), .unset, .unset, .unset, .unset, .unset, .unset, .unset, .unset, .unset, .unset, .unset] [(.int p2)])) rfl (hb hby at_11) _ ?_
    show Steps p.tables e below (T15.setTop (mkF m 13 #[.val (.int p1), .val (.int p2), .val (.int p3), .val (.int p4), .val (.int p5), .val (.int v8), .unset, .unset, .unset, .unset, .unset, .unset, .unset, .unset, .unset, .unset, .unset] [(.int (2147483647 : Int32)), (.int p2)])) _
    refine XS.iand X15.here hx rfl (hb hby at_13) rfl ?_
    show Steps p.tables e below (T15.setTop (mkF m 14 #[.val (.int p1), .val (.int p2), .val (.int p3), .val (.int p4), .val (.int p5), .val (.int v8), .unset, .unset, .unset, .unset, .unset, .unset, .unset, .unset, .unset, .unset, .unset] [(.int (p2 &&& (2147483647 : Int32)))])) _
    refine XS.istore X15.here hx rfl (hb hby at_14) rfl (l' := #[.val (.int p1), .val (.int p2), .val (.int p3), .val (.int p4), .val (.int p5), .val (.int v8), .val (.int (p2 &&& (2147483647 : Int32))), .unset, .unset, .unset, .unset, .unset, .unset, .unset, .unset, .unset, .unset]) rfl ?_
    rw [hv14] at k
    exact k)
  have pre18 : ∀ t, Steps p.tables e below (T15.setTop (mkF m 20 #[.val (.int p1), .val (.int p2), .val (.int p3), .val (.int p4), .val (.int p5), .val (.int v8), .val (.int v14), .unset, .unset, .unset, .unset, .unset, .unset, .unset, .unset, .unset, .unset] [(.int (p5 &&& (1 : Int32)))])) t → Steps p.tables e below (s₁.setTop (entryFrame m #[(.int p1), (.int p2), (.int p3), (.int p4), (.int p5)] maxLocals)) t := fun t k => pre17 t (by
    show Steps p.tables e below (T15.setTop (mkF m 16 #[.val (.int p1), .val (.int p2), .val (.int p3), .val (.int p4), .val (.int p5), .val (.int v8), .val (.int v14), .unset, .unset, .unset, .unset, .unset, .unset, .unset, .unset, .unset, .unset] [])) _
    refine XS.iload X15.here hx rfl (hb hby at_16) rfl ?_
    show Steps p.tables e below (T15.setTop (mkF m 18 #[.val (.int p1), .val (.int p2), .val (.int p3), .val (.int p4), .val (.int p5), .val (.int v8), .val (.int v14), .unset, .unset, .unset, .unset, .unset, .unset, .unset, .unset, .unset, .unset] [(.int p5)])) _
    refine XS.iconst X15.here hx rfl (hb hby at_18) ?_
    show Steps p.tables e below (T15.setTop (mkF m 19 #[.val (.int p1), .val (.int p2), .val (.int p3), .val (.int p4), .val (.int p5), .val (.int v8), .val (.int v14), .unset, .unset, .unset, .unset, .unset, .unset, .unset, .unset, .unset, .unset] [(.int (1 : Int32)), (.int p5)])) _
    refine XS.iand X15.here hx rfl (hb hby at_19) rfl ?_
    exact k)
  obtain ⟨z36_s0, hz36_s0⟩ : ∃ z : Int32, z = (if (p5 &&& (1 : Int32)) = (0 : Int32) then (f1 (1 : Int32) (p3 &&& (2147483647 : Int32))) else v8) := ⟨_, rfl⟩
  obtain ⟨T22, Lc22, X22, e22, N22, pre22⟩ : ∃ (T' : State) (locs' : List Loc), Stand p l e room_1 s m #[(.int p1), (.int p2), (.int p3), (.int p4), (.int p5)] below meth c T' locs' 0 0 ∧ T'.heap = h0 ∧ Fr n0 locs' ∧ ∀ t, Steps p.tables e below (T'.setTop (mkF m 36 #[.val (.int p1), .val (.int p2), .val (.int p3), .val (.int p4), .val (.int p5), .val (.int v8), .val (.int v14), .unset, .unset, .unset, .unset, .unset, .unset, .unset, .unset, .unset, .unset] [(.int z36_s0)])) t → Steps p.tables e below (s₁.setTop (entryFrame m #[(.int p1), (.int p2), (.int p3), (.int p4), (.int p5)] maxLocals)) t := by
    by_cases hc20 : (p5 &&& (1 : Int32)) = (0 : Int32)
    ·
      obtain ⟨_, _, ⟨T19, L19, k19, n19⟩, -, X19, ⟨Lc19, hQ19, l19, y19, z19⟩, st19⟩ := Jvm.LawKit.callS X15 hx (y := (⟨"java/lang/Math", "max", "(II)I"⟩ : MethodName)) hown (mvT hZ (hw _ (List.mem_of_getElem? (i := 1) rfl))) (mvT hZ (hw _ (List.mem_of_getElem? (i := 2) rfl))) (mvT hZ (hw _ (List.mem_of_getElem? (i := 3) rfl))) (mvT hZ (hw _ (List.mem_of_getElem? (i := 4) rfl))) (by decide) (backOf (W := 0) (rm1 l Z a0 hw [] (1 : Int32) (p3 &&& (2147483647 : Int32)) h0 n0 Zs ) hZ (hw _ (List.mem_of_getElem? (i := 4) rfl)) (hw _ (List.mem_of_getElem? (i := 3) rfl)) (by decide) (by decide)) (g := (mkF m 33 #[.val (.int p1), .val (.int p2), .val (.int p3), .val (.int p4), .val (.int p5), .val (.int v8), .val (.int v14), .unset, .unset, .unset, .unset, .unset, .unset, .unset, .unset, .unset, .unset] [(.int (p3 &&& (2147483647 : Int32))), (.int (1 : Int32))])) rfl (by rw [hml]; rfl) (argsL := [(.int (1 : Int32)), (.int (p3 &&& (2147483647 : Int32)))]) (rest := []) (lenOf pd_1 rfl) rfl (by show 2 * 0 + _ ≤ _; exact Nat.le_of_eq rfl) (hb hby at_33) (fun _ _ => ⟨rfl, e15, (by decide : 0 + 0 ≤ _), (by decide : 0 + 0 ≤ _)⟩)
      dsimp only [Pt.U, Pt.locs, Pt.cells, Pt.slots] at X19 l19 y19 z19 st19 hQ19
      subst l19 y19 z19
      obtain ⟨rfl, N19q, e19⟩ := hQ19
      have N19 := Fr.app N15 N19q
      have pre20 : ∀ t, Steps p.tables e below (T19.setTop (mkF m 36 #[.val (.int p1), .val (.int p2), .val (.int p3), .val (.int p4), .val (.int p5), .val (.int v8), .val (.int v14), .unset, .unset, .unset, .unset, .unset, .unset, .unset, .unset, .unset, .unset] [(.int (f1 (1 : Int32) (p3 &&& (2147483647 : Int32))))])) t → Steps p.tables e below (s₁.setTop (entryFrame m #[(.int p1), (.int p2), (.int p3), (.int p4), (.int p5)] maxLocals)) t := fun t k => pre18 t (by
        show Steps p.tables e below (T15.setTop (mkF m 20 #[.val (.int p1), .val (.int p2), .val (.int p3), .val (.int p4), .val (.int p5), .val (.int v8), .val (.int v14), .unset, .unset, .unset, .unset, .unset, .unset, .unset, .unset, .unset, .unset] [(.int (p5 &&& (1 : Int32)))])) _
        refine XS.ifYes X15.here hx rfl (pc0 := 20) (pc' := 28) rfl (hb hby at_20) rfl ((if0 _ _).trans (teq hc20).1) (by decide) (by decide) ?_
        show Steps p.tables e below (T15.setTop (mkF m 28 #[.val (.int p1), .val (.int p2), .val (.int p3), .val (.int p4), .val (.int p5), .val (.int v8), .val (.int v14), .unset, .unset, .unset, .unset, .unset, .unset, .unset, .unset, .unset, .unset] [])) _
        refine XS.iconst X15.here hx rfl (hb hby at_28) ?_
        show Steps p.tables e below (T15.setTop (mkF m 29 #[.val (.int p1), .val (.int p2), .val (.int p3), .val (.int p4), .val (.int p5), .val (.int v8), .val (.int v14), .unset, .unset, .unset, .unset, .unset, .unset, .unset, .unset, .unset, .unset] [(.int (1 : Int32))])) _
        refine XS.iloadN X15.here hx rfl (hb hby at_29) rfl ?_
        show Steps p.tables e below (T15.setTop (mkF m 30 #[.val (.int p1), .val (.int p2), .val (.int p3), .val (.int p4), .val (.int p5), .val (.int v8), .val (.int v14), .unset, .unset, .unset, .unset, .unset, .unset, .unset, .unset, .unset, .unset] [(.int p3), (.int (1 : Int32))])) _
        refine X15.ldcInt hx hown (mvT hZ (hw _ (List.mem_of_getElem? (i := 0) rfl))) (g := (mkF m 30 #[.val (.int p1), .val (.int p2), .val (.int p3), .val (.int p4), .val (.int p5), .val (.int v8), .val (.int v14), .unset, .unset, .unset, .unset, .unset, .unset, .unset, .unset, .unset, .unset] [(.int p3), (.int (1 : Int32))])) rfl (hb hby at_30) _ ?_
        show Steps p.tables e below (T15.setTop (mkF m 32 #[.val (.int p1), .val (.int p2), .val (.int p3), .val (.int p4), .val (.int p5), .val (.int v8), .val (.int v14), .unset, .unset, .unset, .unset, .unset, .unset, .unset, .unset, .unset, .unset] [(.int (2147483647 : Int32)), (.int p3), (.int (1 : Int32))])) _
        refine XS.iand X15.here hx rfl (hb hby at_32) rfl ?_
        show Steps p.tables e below (T15.setTop (mkF m 33 #[.val (.int p1), .val (.int p2), .val (.int p3), .val (.int p4), .val (.int p5), .val (.int v8), .val (.int v14), .unset, .unset, .unset, .unset, .unset, .unset, .unset, .unset, .unset, .unset] [(.int (p3 &&& (2147483647 : Int32))), (.int (1 : Int32))])) _
        refine st19 _ ?_
        exact k)
      have q_z36_s0 : z36_s0 = (f1 (1 : Int32) (p3 &&& (2147483647 : Int32))) := by rw [hz36_s0, if_pos hc20]
      refine ⟨_, _, X19, e19, N19, fun t k => ?_⟩
      rw [q_z36_s0] at k
      exact pre20 t k
    ·
      have pre21 : ∀ t, Steps p.tables e below (T15.setTop (mkF m 36 #[.val (.int p1), .val (.int p2), .val (.int p3), .val (.int p4), .val (.int p5), .val (.int v8), .val (.int v14), .unset, .unset, .unset, .unset, .unset, .unset, .unset, .unset, .unset, .unset] [(.int v8)])) t → Steps p.tables e below (s₁.setTop (entryFrame m #[(.int p1), (.int p2), (.int p3), (.int p4), (.int p5)] maxLocals)) t := fun t k => pre18 t (by
        show Steps p.tables e below (T15.setTop (mkF m 20 #[.val (.int p1), .val (.int p2), .val (.int p3), .val (.int p4), .val (.int p5), .val (.int v8), .val (.int v14), .unset, .unset, .unset, .unset, .unset, .unset, .unset, .unset, .unset, .unset] [(.int (p5 &&& (1 : Int32)))])) _
        refine XS.ifNo X15.here hx rfl (hb hby at_20) rfl ((if0 _ _).trans (feq hc20).1) ?_
        show Steps p.tables e below (T15.setTop (mkF m 23 #[.val (.int p1), .val (.int p2), .val (.int p3), .val (.int p4), .val (.int p5), .val (.int v8), .val (.int v14), .unset, .unset, .unset, .unset, .unset, .unset, .unset, .unset, .unset, .unset] [])) _
        refine XS.iload X15.here hx rfl (hb hby at_23) rfl ?_
        show Steps p.tables e below (T15.setTop (mkF m 25 #[.val (.int p1), .val (.int p2), .val (.int p3), .val (.int p4), .val (.int p5), .val (.int v8), .val (.int v14), .unset, .unset, .unset, .unset, .unset, .unset, .unset, .unset, .unset, .unset] [(.int v8)])) _
        refine XS.goto X15.here hx rfl (pc0 := 25) (pc' := 36) rfl (hb hby at_25) (by decide) (by decide) ?_
        exact k)
      have q_z36_s0 : z36_s0 = v8 := by rw [hz36_s0, if_neg hc20]
      refine ⟨_, _, X15, e15, N15, fun t k => ?_⟩
      rw [q_z36_s0] at k
      exact pre21 t k
  have pre23 : ∀ t, Steps p.tables e below (T22.setTop (mkF m 42 #[.val (.int p1), .val (.int p2), .val (.int p3), .val (.int p4), .val (.int p5), .val (.int v8), .val (.int v14), .val (.int z36_s0), .unset, .unset, .unset, .unset, .unset, .unset, .unset, .unset, .unset] [(.int (p5 &&& (2 : Int32)))])) t → Steps p.tables e below (s₁.setTop (entryFrame m #[(.int p1), (.int p2), (.int p3), (.int p4), (.int p5)] maxLocals)) t := fun t k => pre22 t (by
    show Steps p.tables e below (T22.setTop (mkF m 36 #[.val (.int p1), .val (.int p2), .val (.int p3), .val (.int p4), .val (.int p5), .val (.int v8), .val (.int v14), .unset, .unset, .unset, .unset, .unset, .unset, .unset, .unset, .unset, .unset] [(.int z36_s0)])) _
    refine XS.istore X22.here hx rfl (hb hby at_36) rfl (l' := #[.val (.int p1), .val (.int p2), .val (.int p3), .val (.int p4), .val (.int p5), .val (.int v8), .val (.int v14), .val (.int z36_s0), .unset, .unset, .unset, .unset, .unset, .unset, .unset, .unset, .unset]) rfl ?_
    show Steps p.tables e below (T22.setTop (mkF m 38 #[.val (.int p1), .val (.int p2), .val (.int p3), .val (.int p4), .val (.int p5), .val (.int v8), .val (.int v14), .val (.int z36_s0), .unset, .unset, .unset, .unset, .unset, .unset, .unset, .unset, .unset] [])) _
    refine XS.iload X22.here hx rfl (hb hby at_38) rfl ?_
    show Steps p.tables e below (T22.setTop (mkF m 40 #[.val (.int p1), .val (.int p2), .val (.int p3), .val (.int p4), .val (.int p5), .val (.int v8), .val (.int v14), .val (.int z36_s0), .unset, .unset, .unset, .unset, .unset, .unset, .unset, .unset, .unset] [(.int p5)])) _
    refine XS.iconst X22.here hx rfl (hb hby at_40) ?_
    show Steps p.tables e below (T22.setTop (mkF m 41 #[.val (.int p1), .val (.int p2), .val (.int p3), .val (.int p4), .val (.int p5), .val (.int v8), .val (.int v14), .val (.int z36_s0), .unset, .unset, .unset, .unset, .unset, .unset, .unset, .unset, .unset] [(.int (2 : Int32)), (.int p5)])) _
    refine XS.iand X22.here hx rfl (hb hby at_41) rfl ?_
    exact k)
  obtain ⟨z54_s0, hz54_s0⟩ : ∃ z : Int32, z = (if (p5 &&& (2 : Int32)) = (0 : Int32) then (p4 &&& (2147483647 : Int32)) else v14) := ⟨_, rfl⟩
  obtain ⟨T26, Lc26, X26, e26, N26, pre26⟩ : ∃ (T' : State) (locs' : List Loc), Stand p l e room_1 s m #[(.int p1), (.int p2), (.int p3), (.int p4), (.int p5)] below meth c T' locs' 0 0 ∧ T'.heap = h0 ∧ Fr n0 locs' ∧ ∀ t, Steps p.tables e below (T'.setTop (mkF m 54 #[.val (.int p1), .val (.int p2), .val (.int p3), .val (.int p4), .val (.int p5), .val (.int v8), .val (.int v14), .val (.int z36_s0), .unset, .unset, .unset, .unset, .unset, .unset, .unset, .unset, .unset] [(.int z54_s0)])) t → Steps p.tables e below (s₁.setTop (entryFrame m #[(.int p1), (.int p2), (.int p3), (.int p4), (.int p5)] maxLocals)) t := by
    by_cases hc42 : (p5 &&& (2 : Int32)) = (0 : Int32)
    ·
      have pre24 : ∀ t, Steps p.tables e below (T22.setTop (mkF m 54 #[.val (.int p1), .val (.int p2), .val (.int p3), .val (.int p4), .val (.int p5), .val (.int v8), .val (.int v14), .val (.int z36_s0), .unset, .unset, .unset, .unset, .unset, .unset, .unset, .unset, .unset] [(.int (p4 &&& (2147483647 : Int32)))])) t → Steps p.tables e below (s₁.setTop (entryFrame m #[(.int p1), (.int p2), (.int p3), (.int p4), (.int p5)] maxLocals)) t := fun t k => pre23 t (by
        show Steps p.tables e below (T22.setTop (mkF m 42 #[.val (.int p1), .val (.int p2), .val (.int p3), .val (.int p4), .val (.int p5), .val (.int v8), .val (.int v14), .val (.int z36_s0), .unset, .unset, .unset, .unset, .unset, .unset, .unset, .unset, .unset] [(.int (p5 &&& (2 : Int32)))])) _
        refine XS.ifYes X22.here hx rfl (pc0 := 42) (pc' := 50) rfl (hb hby at_42) rfl ((if0 _ _).trans (teq hc42).1) (by decide) (by decide) ?_
        show Steps p.tables e below (T22.setTop (mkF m 50 #[.val (.int p1), .val (.int p2), .val (.int p3), .val (.int p4), .val (.int p5), .val (.int v8), .val (.int v14), .val (.int z36_s0), .unset, .unset, .unset, .unset, .unset, .unset, .unset, .unset, .unset] [])) _
        refine XS.iloadN X22.here hx rfl (hb hby at_50) rfl ?_
        show Steps p.tables e below (T22.setTop (mkF m 51 #[.val (.int p1), .val (.int p2), .val (.int p3), .val (.int p4), .val (.int p5), .val (.int v8), .val (.int v14), .val (.int z36_s0), .unset, .unset, .unset, .unset, .unset, .unset, .unset, .unset, .unset] [(.int p4)])) _
        refine X22.ldcInt hx hown (mvT hZ (hw _ (List.mem_of_getElem? (i := 0) rfl))) (g := (mkF m 51 #[.val (.int p1), .val (.int p2), .val (.int p3), .val (.int p4), .val (.int p5), .val (.int v8), .val (.int v14), .val (.int z36_s0), .unset, .unset, .unset, .unset, .unset, .unset, .unset, .unset, .unset] [(.int p4)])) rfl (hb hby at_51) _ ?_
        show Steps p.tables e below (T22.setTop (mkF m 53 #[.val (.int p1), .val (.int p2), .val (.int p3), .val (.int p4), .val (.int p5), .val (.int v8), .val (.int v14), .val (.int z36_s0), .unset, .unset, .unset, .unset, .unset, .unset, .unset, .unset, .unset] [(.int (2147483647 : Int32)), (.int p4)])) _
        refine XS.iand X22.here hx rfl (hb hby at_53) rfl ?_
        exact k)
      have q_z54_s0 : z54_s0 = (p4 &&& (2147483647 : Int32)) := by rw [hz54_s0, if_pos hc42]
      refine ⟨_, _, X22, e22, N22, fun t k => ?_⟩
      rw [q_z54_s0] at k
      exact pre24 t k
    ·
      have pre25 : ∀ t, Steps p.tables e below (T22.setTop (mkF m 54 #[.val (.int p1), .val (.int p2), .val (.int p3), .val (.int p4), .val (.int p5), .val (.int v8), .val (.int v14), .val (.int z36_s0), .unset, .unset, .unset, .unset, .unset, .unset, .unset, .unset, .unset] [(.int v14)])) t → Steps p.tables e below (s₁.setTop (entryFrame m #[(.int p1), (.int p2), (.int p3), (.int p4), (.int p5)] maxLocals)) t := fun t k => pre23 t (by
        show Steps p.tables e below (T22.setTop (mkF m 42 #[.val (.int p1), .val (.int p2), .val (.int p3), .val (.int p4), .val (.int p5), .val (.int v8), .val (.int v14), .val (.int z36_s0), .unset, .unset, .unset, .unset, .unset, .unset, .unset, .unset, .unset] [(.int (p5 &&& (2 : Int32)))])) _
        refine XS.ifNo X22.here hx rfl (hb hby at_42) rfl ((if0 _ _).trans (feq hc42).1) ?_
        show Steps p.tables e below (T22.setTop (mkF m 45 #[.val (.int p1), .val (.int p2), .val (.int p3), .val (.int p4), .val (.int p5), .val (.int v8), .val (.int v14), .val (.int z36_s0), .unset, .unset, .unset, .unset, .unset, .unset, .unset, .unset, .unset] [])) _
        refine XS.iload X22.here hx rfl (hb hby at_45) rfl ?_
        show Steps p.tables e below (T22.setTop (mkF m 47 #[.val (.int p1), .val (.int p2), .val (.int p3), .val (.int p4), .val (.int p5), .val (.int v8), .val (.int v14), .val (.int z36_s0), .unset, .unset, .unset, .unset, .unset, .unset, .unset, .unset, .unset] [(.int v14)])) _
        refine XS.goto X22.here hx rfl (pc0 := 47) (pc' := 54) rfl (hb hby at_47) (by decide) (by decide) ?_
        exact k)
      have q_z54_s0 : z54_s0 = v14 := by rw [hz54_s0, if_neg hc42]
      refine ⟨_, _, X22, e22, N22, fun t k => ?_⟩
      rw [q_z54_s0] at k
      exact pre25 t k
  obtain ⟨T27, h27, X27, e27, E27, A27, D27, -, st27⟩ := newO X26 hx hZ hown (hw _ (List.mem_of_getElem? (i := 5) rfl)) (hw _ (List.mem_of_getElem? (i := 6) rfl)) (hw _ (List.mem_of_getElem? (i := 7) rfl)) e26 (g := (mkF m 56 #[.val (.int p1), .val (.int p2), .val (.int p3), .val (.int p4), .val (.int p5), .val (.int v8), .val (.int v14), .val (.int z36_s0), .val (.int z54_s0), .unset, .unset, .unset, .unset, .unset, .unset, .unset, .unset] [])) rfl (hb hby at_56) (by decide) (by decide)
  obtain ⟨b27, g27⟩ : ∃ z, z = h0.size := ⟨_, rfl⟩
  rw [← g27] at A27 D27 st27
  have g_b27 : n0 ≤ b27 := Nat.le_trans Zs (Nat.le_of_eq g27.symm)
  have Zs : n0 ≤ h27.size := Nat.le_trans Zs E27.1
  have E_b27 : Exa Z h27 b27 "com/example/wachter/wachter/model/Stamp" := A27
  have F_counter_b27 : Fld Z h27 b27 "com/example/wachter/wachter/model/Stamp" "counter" "I" (.int (0 : Int32)) := D27 (Or.inr (hw _ (List.mem_of_getElem? (i := 15) rfl))) (ty := .int) (by decide)
  have F_member_b27 : Fld Z h27 b27 "com/example/wachter/wachter/model/Stamp" "member" "I" (.int (0 : Int32)) := D27 (Or.inr (hw _ (List.mem_of_getElem? (i := 21) rfl))) (ty := .int) (by decide)
  obtain ⟨_, _, ⟨T28, L28, k28, n28⟩, -, X28, ⟨Lc28, hQ28, l28, y28, z28⟩, st28⟩ := X27.specialBack hx (y := (⟨"com/example/wachter/wachter/model/Stamp", "<init>", "(II)V"⟩ : MethodName)) rfl hown (mvT hZ (hw _ (List.mem_of_getElem? (i := 8) rfl))) (mvT hZ (hw _ (List.mem_of_getElem? (i := 9) rfl))) (mvT hZ (hw _ (List.mem_of_getElem? (i := 10) rfl))) (by decide) (backOf (W := 1) (rm2 l Z a0 hw [] b27 v8 v14 (0 : Int32) (0 : Int32) h27 n0 Zs E_b27 F_counter_b27 F_member_b27 g_b27 (own_n1 (own_max hv8)) (own_n0 (own_m0 hv14))) hZ (hw _ (List.mem_of_getElem? (i := 10) rfl)) (hw _ (List.mem_of_getElem? (i := 7) rfl)) (by decide) (by decide)) (g := (mkF m 64 #[.val (.int p1), .val (.int p2), .val (.int p3), .val (.int p4), .val (.int p5), .val (.int v8), .val (.int v14), .val (.int z36_s0), .val (.int z54_s0), .unset, .unset, .unset, .unset, .unset, .unset, .unset, .unset] [(.int v14), (.int v8), (.ref b27), (.ref b27)])) rfl (by rw [hml]; rfl) (Steps.refl _) (a := b27) (argsL := [(.int v8), (.int v14)]) (rest := [(.ref b27)]) (lenOf pd_2 rfl) rfl (by show 2 * 0 + _ ≤ _; exact Nat.le_of_eq rfl) (hb hby at_64) (fun _ _ => ⟨rfl, e27, (by decide : 1 + 0 ≤ _), (by decide : 2 + 0 ≤ _)⟩)
  dsimp only [Pt.U, Pt.locs, Pt.cells, Pt.slots] at X28 l28 y28 z28 st28 hQ28
  subst l28 y28 z28
  obtain ⟨rfl, N28q, K28, P28_1, P28_2, P28_3⟩ := hQ28
  have Zs : n0 ≤ T28.heap.size := Nat.le_trans Zs K28.1
  have E_b27 : Exa Z T28.heap b27 "com/example/wachter/wachter/model/Stamp" := E_b27.keep K28
  have E_b27 : Exa Z T28.heap b27 "com/example/wachter/wachter/model/Stamp" := P28_1
  have F_counter_b27 : Fld Z T28.heap b27 "com/example/wachter/wachter/model/Stamp" "counter" "I" (.int v8) := P28_2
  have F_member_b27 : Fld Z T28.heap b27 "com/example/wachter/wachter/model/Stamp" "member" "I" (.int (f4 v14)) := P28_3
  have N28 := Fr.app N26 N28q
  obtain ⟨T29, h29, X29, e29, E29, A29, D29, -, st29⟩ := newO X28 hx hZ hown (hw _ (List.mem_of_getElem? (i := 5) rfl)) (hw _ (List.mem_of_getElem? (i := 6) rfl)) (hw _ (List.mem_of_getElem? (i := 7) rfl)) rfl (g := (mkF m 69 #[.val (.int p1), .val (.int p2), .val (.int p3), .val (.int p4), .val (.int p5), .val (.int v8), .val (.int v14), .val (.int z36_s0), .val (.int z54_s0), .val (.ref b27), .unset, .unset, .unset, .unset, .unset, .unset, .unset] [])) rfl (hb hby at_69) (by decide) (by decide)
  obtain ⟨b29, g29⟩ : ∃ z, z = T28.heap.size := ⟨_, rfl⟩
  rw [← g29] at A29 D29 st29
  have g_b29 : n0 ≤ b29 := Nat.le_trans Zs (Nat.le_of_eq g29.symm)
  have ne_b27_b29 : b27 ≠ b29 := Nat.ne_of_lt (Nat.lt_of_lt_of_le E_b27.lt (Nat.le_of_eq g29.symm))
  have Zs : n0 ≤ h29.size := Nat.le_trans Zs E29.1
  have E_b27 : Exa Z h29 b27 "com/example/wachter/wachter/model/Stamp" := E_b27.ext E29
  have F_counter_b27 : Fld Z h29 b27 "com/example/wachter/wachter/model/Stamp" "counter" "I" (.int v8) := F_counter_b27.ext E29
  have F_member_b27 : Fld Z h29 b27 "com/example/wachter/wachter/model/Stamp" "member" "I" (.int (f4 v14)) := F_member_b27.ext E29
  have E_b29 : Exa Z h29 b29 "com/example/wachter/wachter/model/Stamp" := A29
  have F_counter_b29 : Fld Z h29 b29 "com/example/wachter/wachter/model/Stamp" "counter" "I" (.int (0 : Int32)) := D29 (Or.inr (hw _ (List.mem_of_getElem? (i := 15) rfl))) (ty := .int) (by decide)
  have F_member_b29 : Fld Z h29 b29 "com/example/wachter/wachter/model/Stamp" "member" "I" (.int (0 : Int32)) := D29 (Or.inr (hw _ (List.mem_of_getElem? (i := 21) rfl))) (ty := .int) (by decide)
  obtain ⟨_, _, ⟨T30, L30, k30, n30⟩, -, X30, ⟨Lc30, hQ30, l30, y30, z30⟩, st30⟩ := X29.specialBack hx (y := (⟨"com/example/wachter/wachter/model/Stamp", "<init>", "(II)V"⟩ : MethodName)) rfl hown (mvT hZ (hw _ (List.mem_of_getElem? (i := 8) rfl))) (mvT hZ (hw _ (List.mem_of_getElem? (i := 9) rfl))) (mvT hZ (hw _ (List.mem_of_getElem? (i := 10) rfl))) (by decide) (backOf (W := 1) (rm2 l Z a0 hw [] b29 z36_s0 z54_s0 (0 : Int32) (0 : Int32) h29 n0 Zs E_b29 F_counter_b29 F_member_b29 g_b29 (own_n1 (own_maxb hv8 hz36_s0)) (own_n0 (own_mb0 hv14 hz54_s0))) hZ (hw _ (List.mem_of_getElem? (i := 10) rfl)) (hw _ (List.mem_of_getElem? (i := 7) rfl)) (by decide) (by decide)) (g := (mkF m 77 #[.val (.int p1), .val (.int p2), .val (.int p3), .val (.int p4), .val (.int p5), .val (.int v8), .val (.int v14), .val (.int z36_s0), .val (.int z54_s0), .val (.ref b27), .unset, .unset, .unset, .unset, .unset, .unset, .unset] [(.int z54_s0), (.int z36_s0), (.ref b29), (.ref b29)])) rfl (by rw [hml]; rfl) (Steps.refl _) (a := b29) (argsL := [(.int z36_s0), (.int z54_s0)]) (rest := [(.ref b29)]) (lenOf pd_2 rfl) rfl (by show 2 * 0 + _ ≤ _; exact Nat.le_of_eq rfl) (hb hby at_77) (fun _ _ => ⟨rfl, e29, (by decide : 2 + 0 ≤ _), (by decide : 4 + 0 ≤ _)⟩)
  dsimp only [Pt.U, Pt.locs, Pt.cells, Pt.slots] at X30 l30 y30 z30 st30 hQ30
  subst l30 y30 z30
  obtain ⟨rfl, N30q, K30, P30_1, P30_2, P30_3⟩ := hQ30
  have Zs : n0 ≤ T30.heap.size := Nat.le_trans Zs K30.1
  have E_b27 : Exa Z T30.heap b27 "com/example/wachter/wachter/model/Stamp" := E_b27.keep K30
  have F_counter_b27 : Fld Z T30.heap b27 "com/example/wachter/wachter/model/Stamp" "counter" "I" (.int v8) := F_counter_b27.keep K30 (ninS ne_b27_b29 nin0)
  have F_member_b27 : Fld Z T30.heap b27 "com/example/wachter/wachter/model/Stamp" "member" "I" (.int (f4 v14)) := F_member_b27.keep K30 (ninS ne_b27_b29 nin0)
  have E_b29 : Exa Z T30.heap b29 "com/example/wachter/wachter/model/Stamp" := E_b29.keep K30
  have E_b29 : Exa Z T30.heap b29 "com/example/wachter/wachter/model/Stamp" := P30_1
  have F_counter_b29 : Fld Z T30.heap b29 "com/example/wachter/wachter/model/Stamp" "counter" "I" (.int z36_s0) := P30_2
  have F_member_b29 : Fld Z T30.heap b29 "com/example/wachter/wachter/model/Stamp" "member" "I" (.int (f4 z54_s0)) := P30_3
  have N30 := Fr.app N28 N30q
  obtain ⟨_, _, ⟨T31, L31, k31, n31⟩, -, X31, ⟨Lc31, hQ31, l31, y31, z31⟩, st31⟩ := Jvm.LawKit.callS X30 hx (y := (⟨"com/example/wachter/wachter/model/StampBeatsPinLaw", "key", "(II)J"⟩ : MethodName)) hown (mvT hZ (hw _ (List.mem_of_getElem? (i := 22) rfl))) (mvT hZ (hw _ (List.mem_of_getElem? (i := 23) rfl))) (mvT hZ (hw _ (List.mem_of_getElem? (i := 24) rfl))) (mvT hZ (hw _ (List.mem_of_getElem? (i := 25) rfl))) (by decide) (backOf (W := 0) (rm5 l Z a0 hw [] v8 v14 T30.heap n0 Zs ) hZ (hw _ (List.mem_of_getElem? (i := 25) rfl)) (hw _ (List.mem_of_getElem? (i := 24) rfl)) (by decide) (by decide)) (g := (mkF m 86 #[.val (.int p1), .val (.int p2), .val (.int p3), .val (.int p4), .val (.int p5), .val (.int v8), .val (.int v14), .val (.int z36_s0), .val (.int z54_s0), .val (.ref b27), .val (.ref b29), .unset, .unset, .unset, .unset, .unset, .unset] [(.int v14), (.int v8)])) rfl (by rw [hml]; rfl) (argsL := [(.int v8), (.int v14)]) (rest := []) (lenOf pd_3 rfl) rfl (by show 2 * 0 + _ ≤ _; exact Nat.le_of_eq rfl) (hb hby at_86) (fun _ _ => ⟨rfl, rfl, (by decide : 2 + 0 ≤ _), (by decide : 4 + 0 ≤ _)⟩)
  dsimp only [Pt.U, Pt.locs, Pt.cells, Pt.slots] at X31 l31 y31 z31 st31 hQ31
  subst l31 y31 z31
  obtain ⟨rfl, N31q, e31⟩ := hQ31
  have N31 := Fr.app N30 N31q
  obtain ⟨v89, hv89⟩ : ∃ z : Int64, z = (f5 v8 v14) := ⟨_, rfl⟩
  have pre32 : ∀ t, Steps p.tables e below (T31.setTop (mkF m 91 #[.val (.int p1), .val (.int p2), .val (.int p3), .val (.int p4), .val (.int p5), .val (.int v8), .val (.int v14), .val (.int z36_s0), .val (.int z54_s0), .val (.ref b27), .val (.ref b29), .val (.long v89), .second, .unset, .unset, .unset, .unset] [])) t → Steps p.tables e below (s₁.setTop (entryFrame m #[(.int p1), (.int p2), (.int p3), (.int p4), (.int p5)] maxLocals)) t := fun t k => pre26 t (by
    show Steps p.tables e below (T26.setTop (mkF m 54 #[.val (.int p1), .val (.int p2), .val (.int p3), .val (.int p4), .val (.int p5), .val (.int v8), .val (.int v14), .val (.int z36_s0), .unset, .unset, .unset, .unset, .unset, .unset, .unset, .unset, .unset] [(.int z54_s0)])) _
    refine XS.istore X26.here hx rfl (hb hby at_54) rfl (l' := #[.val (.int p1), .val (.int p2), .val (.int p3), .val (.int p4), .val (.int p5), .val (.int v8), .val (.int v14), .val (.int z36_s0), .val (.int z54_s0), .unset, .unset, .unset, .unset, .unset, .unset, .unset, .unset]) rfl ?_
    show Steps p.tables e below (T26.setTop (mkF m 56 #[.val (.int p1), .val (.int p2), .val (.int p3), .val (.int p4), .val (.int p5), .val (.int v8), .val (.int v14), .val (.int z36_s0), .val (.int z54_s0), .unset, .unset, .unset, .unset, .unset, .unset, .unset, .unset] [])) _
    refine st27 _ ?_
    show Steps p.tables e below (T27.setTop (mkF m 59 #[.val (.int p1), .val (.int p2), .val (.int p3), .val (.int p4), .val (.int p5), .val (.int v8), .val (.int v14), .val (.int z36_s0), .val (.int z54_s0), .unset, .unset, .unset, .unset, .unset, .unset, .unset, .unset] [(.ref b27)])) _
    refine XS.dup X27.here hx rfl (hb hby at_59) rfl rfl ?_
    show Steps p.tables e below (T27.setTop (mkF m 60 #[.val (.int p1), .val (.int p2), .val (.int p3), .val (.int p4), .val (.int p5), .val (.int v8), .val (.int v14), .val (.int z36_s0), .val (.int z54_s0), .unset, .unset, .unset, .unset, .unset, .unset, .unset, .unset] [(.ref b27), (.ref b27)])) _
    refine XS.iload X27.here hx rfl (hb hby at_60) rfl ?_
    show Steps p.tables e below (T27.setTop (mkF m 62 #[.val (.int p1), .val (.int p2), .val (.int p3), .val (.int p4), .val (.int p5), .val (.int v8), .val (.int v14), .val (.int z36_s0), .val (.int z54_s0), .unset, .unset, .unset, .unset, .unset, .unset, .unset, .unset] [(.int v8), (.ref b27), (.ref b27)])) _
    refine XS.iload X27.here hx rfl (hb hby at_62) rfl ?_
    show Steps p.tables e below (T27.setTop (mkF m 64 #[.val (.int p1), .val (.int p2), .val (.int p3), .val (.int p4), .val (.int p5), .val (.int v8), .val (.int v14), .val (.int z36_s0), .val (.int z54_s0), .unset, .unset, .unset, .unset, .unset, .unset, .unset, .unset] [(.int v14), (.int v8), (.ref b27), (.ref b27)])) _
    refine st28.trans ?_
    show Steps p.tables e below (T28.setTop (mkF m 67 #[.val (.int p1), .val (.int p2), .val (.int p3), .val (.int p4), .val (.int p5), .val (.int v8), .val (.int v14), .val (.int z36_s0), .val (.int z54_s0), .unset, .unset, .unset, .unset, .unset, .unset, .unset, .unset] [(.ref b27)])) _
    refine XS.astore X28.here hx rfl (hb hby at_67) rfl rfl (l' := #[.val (.int p1), .val (.int p2), .val (.int p3), .val (.int p4), .val (.int p5), .val (.int v8), .val (.int v14), .val (.int z36_s0), .val (.int z54_s0), .val (.ref b27), .unset, .unset, .unset, .unset, .unset, .unset, .unset]) rfl ?_
    show Steps p.tables e below (T28.setTop (mkF m 69 #[.val (.int p1), .val (.int p2), .val (.int p3), .val (.int p4), .val (.int p5), .val (.int v8), .val (.int v14), .val (.int z36_s0), .val (.int z54_s0), .val (.ref b27), .unset, .unset, .unset, .unset, .unset, .unset, .unset] [])) _
    refine st29 _ ?_
    show Steps p.tables e below (T29.setTop (mkF m 72 #[.val (.int p1), .val (.int p2), .val (.int p3), .val (.int p4), .val (.int p5), .val (.int v8), .val (.int v14), .val (.int z36_s0), .val (.int z54_s0), .val (.ref b27), .unset, .unset, .unset, .unset, .unset, .unset, .unset] [(.ref b29)])) _
    refine XS.dup X29.here hx rfl (hb hby at_72) rfl rfl ?_
    show Steps p.tables e below (T29.setTop (mkF m 73 #[.val (.int p1), .val (.int p2), .val (.int p3), .val (.int p4), .val (.int p5), .val (.int v8), .val (.int v14), .val (.int z36_s0), .val (.int z54_s0), .val (.ref b27), .unset, .unset, .unset, .unset, .unset, .unset, .unset] [(.ref b29), (.ref b29)])) _
    refine XS.iload X29.here hx rfl (hb hby at_73) rfl ?_
    show Steps p.tables e below (T29.setTop (mkF m 75 #[.val (.int p1), .val (.int p2), .val (.int p3), .val (.int p4), .val (.int p5), .val (.int v8), .val (.int v14), .val (.int z36_s0), .val (.int z54_s0), .val (.ref b27), .unset, .unset, .unset, .unset, .unset, .unset, .unset] [(.int z36_s0), (.ref b29), (.ref b29)])) _
    refine XS.iload X29.here hx rfl (hb hby at_75) rfl ?_
    show Steps p.tables e below (T29.setTop (mkF m 77 #[.val (.int p1), .val (.int p2), .val (.int p3), .val (.int p4), .val (.int p5), .val (.int v8), .val (.int v14), .val (.int z36_s0), .val (.int z54_s0), .val (.ref b27), .unset, .unset, .unset, .unset, .unset, .unset, .unset] [(.int z54_s0), (.int z36_s0), (.ref b29), (.ref b29)])) _
    refine st30.trans ?_
    show Steps p.tables e below (T30.setTop (mkF m 80 #[.val (.int p1), .val (.int p2), .val (.int p3), .val (.int p4), .val (.int p5), .val (.int v8), .val (.int v14), .val (.int z36_s0), .val (.int z54_s0), .val (.ref b27), .unset, .unset, .unset, .unset, .unset, .unset, .unset] [(.ref b29)])) _
    refine XS.astore X30.here hx rfl (hb hby at_80) rfl rfl (l' := #[.val (.int p1), .val (.int p2), .val (.int p3), .val (.int p4), .val (.int p5), .val (.int v8), .val (.int v14), .val (.int z36_s0), .val (.int z54_s0), .val (.ref b27), .val (.ref b29), .unset, .unset, .unset, .unset, .unset, .unset]) rfl ?_
    show Steps p.tables e below (T30.setTop (mkF m 82 #[.val (.int p1), .val (.int p2), .val (.int p3), .val (.int p4), .val (.int p5), .val (.int v8), .val (.int v14), .val (.int z36_s0), .val (.int z54_s0), .val (.ref b27), .val (.ref b29), .unset, .unset, .unset, .unset, .unset, .unset] [])) _
    refine XS.iload X30.here hx rfl (hb hby at_82) rfl ?_
    show Steps p.tables e below (T30.setTop (mkF m 84 #[.val (.int p1), .val (.int p2), .val (.int p3), .val (.int p4), .val (.int p5), .val (.int v8), .val (.int v14), .val (.int z36_s0), .val (.int z54_s0), .val (.ref b27), .val (.ref b29), .unset, .unset, .unset, .unset, .unset, .unset] [(.int v8)])) _
    refine XS.iload X30.here hx rfl (hb hby at_84) rfl ?_
    show Steps p.tables e below (T30.setTop (mkF m 86 #[.val (.int p1), .val (.int p2), .val (.int p3), .val (.int p4), .val (.int p5), .val (.int v8), .val (.int v14), .val (.int z36_s0), .val (.int z54_s0), .val (.ref b27), .val (.ref b29), .unset, .unset, .unset, .unset, .unset, .unset] [(.int v14), (.int v8)])) _
    refine st31 _ ?_
    show Steps p.tables e below (T31.setTop (mkF m 89 #[.val (.int p1), .val (.int p2), .val (.int p3), .val (.int p4), .val (.int p5), .val (.int v8), .val (.int v14), .val (.int z36_s0), .val (.int z54_s0), .val (.ref b27), .val (.ref b29), .unset, .unset, .unset, .unset, .unset, .unset] [(.long (f5 v8 v14))])) _
    refine XS.lstore X31.here hx rfl (hb hby at_89) rfl (l' := #[.val (.int p1), .val (.int p2), .val (.int p3), .val (.int p4), .val (.int p5), .val (.int v8), .val (.int v14), .val (.int z36_s0), .val (.int z54_s0), .val (.ref b27), .val (.ref b29), .val (.long (f5 v8 v14)), .second, .unset, .unset, .unset, .unset]) rfl ?_
    rw [hv89] at k
    exact k)
  obtain ⟨_, _, ⟨T33, L33, k33, n33⟩, -, X33, ⟨Lc33, hQ33, l33, y33, z33⟩, st33⟩ := Jvm.LawKit.callS X31 hx (y := (⟨"com/example/wachter/wachter/model/StampBeatsPinLaw", "key", "(II)J"⟩ : MethodName)) hown (mvT hZ (hw _ (List.mem_of_getElem? (i := 22) rfl))) (mvT hZ (hw _ (List.mem_of_getElem? (i := 23) rfl))) (mvT hZ (hw _ (List.mem_of_getElem? (i := 24) rfl))) (mvT hZ (hw _ (List.mem_of_getElem? (i := 25) rfl))) (by decide) (backOf (W := 0) (rm5 l Z a0 hw [] z36_s0 z54_s0 T30.heap n0 Zs ) hZ (hw _ (List.mem_of_getElem? (i := 25) rfl)) (hw _ (List.mem_of_getElem? (i := 24) rfl)) (by decide) (by decide)) (g := (mkF m 95 #[.val (.int p1), .val (.int p2), .val (.int p3), .val (.int p4), .val (.int p5), .val (.int v8), .val (.int v14), .val (.int z36_s0), .val (.int z54_s0), .val (.ref b27), .val (.ref b29), .val (.long v89), .second, .unset, .unset, .unset, .unset] [(.int z54_s0), (.int z36_s0)])) rfl (by rw [hml]; rfl) (argsL := [(.int z36_s0), (.int z54_s0)]) (rest := []) (lenOf pd_3 rfl) rfl (by show 2 * 0 + _ ≤ _; exact Nat.le_of_eq rfl) (hb hby at_95) (fun _ _ => ⟨rfl, e31, (by decide : 2 + 0 ≤ _), (by decide : 4 + 0 ≤ _)⟩)
  dsimp only [Pt.U, Pt.locs, Pt.cells, Pt.slots] at X33 l33 y33 z33 st33 hQ33
  subst l33 y33 z33
  obtain ⟨rfl, N33q, e33⟩ := hQ33
  have N33 := Fr.app N31 N33q
  obtain ⟨v98, hv98⟩ : ∃ z : Int64, z = (f5 z36_s0 z54_s0) := ⟨_, rfl⟩
  have pre34 : ∀ t, Steps p.tables e below (T33.setTop (mkF m 100 #[.val (.int p1), .val (.int p2), .val (.int p3), .val (.int p4), .val (.int p5), .val (.int v8), .val (.int v14), .val (.int z36_s0), .val (.int z54_s0), .val (.ref b27), .val (.ref b29), .val (.long v89), .second, .val (.long v98), .second, .unset, .unset] [])) t → Steps p.tables e below (s₁.setTop (entryFrame m #[(.int p1), (.int p2), (.int p3), (.int p4), (.int p5)] maxLocals)) t := fun t k => pre32 t (by
    show Steps p.tables e below (T31.setTop (mkF m 91 #[.val (.int p1), .val (.int p2), .val (.int p3), .val (.int p4), .val (.int p5), .val (.int v8), .val (.int v14), .val (.int z36_s0), .val (.int z54_s0), .val (.ref b27), .val (.ref b29), .val (.long v89), .second, .unset, .unset, .unset, .unset] [])) _
    refine XS.iload X31.here hx rfl (hb hby at_91) rfl ?_
    show Steps p.tables e below (T31.setTop (mkF m 93 #[.val (.int p1), .val (.int p2), .val (.int p3), .val (.int p4), .val (.int p5), .val (.int v8), .val (.int v14), .val (.int z36_s0), .val (.int z54_s0), .val (.ref b27), .val (.ref b29), .val (.long v89), .second, .unset, .unset, .unset, .unset] [(.int z36_s0)])) _
    refine XS.iload X31.here hx rfl (hb hby at_93) rfl ?_
    show Steps p.tables e below (T31.setTop (mkF m 95 #[.val (.int p1), .val (.int p2), .val (.int p3), .val (.int p4), .val (.int p5), .val (.int v8), .val (.int v14), .val (.int z36_s0), .val (.int z54_s0), .val (.ref b27), .val (.ref b29), .val (.long v89), .second, .unset, .unset, .unset, .unset] [(.int z54_s0), (.int z36_s0)])) _
    refine st33 _ ?_
    show Steps p.tables e below (T33.setTop (mkF m 98 #[.val (.int p1), .val (.int p2), .val (.int p3), .val (.int p4), .val (.int p5), .val (.int v8), .val (.int v14), .val (.int z36_s0), .val (.int z54_s0), .val (.ref b27), .val (.ref b29), .val (.long v89), .second, .unset, .unset, .unset, .unset] [(.long (f5 z36_s0 z54_s0))])) _
    refine XS.lstore X33.here hx rfl (hb hby at_98) rfl (l' := #[.val (.int p1), .val (.int p2), .val (.int p3), .val (.int p4), .val (.int p5), .val (.int v8), .val (.int v14), .val (.int z36_s0), .val (.int z54_s0), .val (.ref b27), .val (.ref b29), .val (.long v89), .second, .val (.long (f5 z36_s0 z54_s0)), .second, .unset, .unset]) rfl ?_
    rw [hv98] at k
    exact k)
  obtain ⟨cq35, kq35, q35a, q35b, q35c⟩ := isOf hZ e33 E_b27
  obtain ⟨_, _, ⟨T35, L35, k35, n35⟩, -, X35, ⟨Lc35, hQ35, l35, y35, z35⟩, st35⟩ := X33.virtualBack hx (y := (⟨"com/example/wachter/wachter/model/Stamp", "beats", "(Lcom/example/wachter/wachter/model/Stamp;)Z"⟩ : MethodName)) (z := (⟨"com/example/wachter/wachter/model/Stamp", "beats", "(Lcom/example/wachter/wachter/model/Stamp;)Z"⟩ : MethodName)) hown (mvT hZ (hw _ (List.mem_of_getElem? (i := 26) rfl))) (mvT hZ (hw _ (List.mem_of_getElem? (i := 27) rfl))) (notFace_of_selects (args := #[]) (mvT hZ (hw _ (List.mem_of_getElem? (i := 29) rfl)))) (mvT hZ (hw _ (List.mem_of_getElem? (i := 29) rfl))) (mvT hZ (hw _ (List.mem_of_getElem? (i := 28) rfl))) (by decide) (backOf (W := 0) (rm6 l Z a0 hw [] b27 b29 v8 z36_s0 (f4 v14) (f4 z54_s0) T30.heap n0 Zs F_counter_b27 F_counter_b29 F_member_b27 F_member_b29) hZ (hw _ (List.mem_of_getElem? (i := 30) rfl)) (hw _ (List.mem_of_getElem? (i := 7) rfl)) (by decide) (by decide)) q35a q35c (g := (mkF m 104 #[.val (.int p1), .val (.int p2), .val (.int p3), .val (.int p4), .val (.int p5), .val (.int v8), .val (.int v14), .val (.int z36_s0), .val (.int z54_s0), .val (.ref b27), .val (.ref b29), .val (.long v89), .second, .val (.long v98), .second, .unset, .unset] [(.ref b29), (.ref b27)])) rfl (by rw [hml]; rfl) (Steps.refl _) (argsL := [(.ref b29)]) (rest := []) (lenOf pd_4 rfl) rfl (by show 2 * 0 + _ ≤ _; exact Nat.le_of_eq rfl) (hb hby at_104) (fun _ _ => ⟨rfl, e33, (by decide : 2 + 0 ≤ _), (by decide : 4 + 0 ≤ _)⟩)
  dsimp only [Pt.U, Pt.locs, Pt.cells, Pt.slots] at X35 l35 y35 z35 st35 hQ35
  subst l35 y35 z35
  obtain ⟨rfl, N35q, e35⟩ := hQ35
  have N35 := Fr.app N33 N35q
  obtain ⟨v107, hv107⟩ : ∃ z : Int32, z = (f6 v8 z36_s0 (f4 v14) (f4 z54_s0)) := ⟨_, rfl⟩
  have pre36 : ∀ t, Steps p.tables e below (T35.setTop (mkF m 109 #[.val (.int p1), .val (.int p2), .val (.int p3), .val (.int p4), .val (.int p5), .val (.int v8), .val (.int v14), .val (.int z36_s0), .val (.int z54_s0), .val (.ref b27), .val (.ref b29), .val (.long v89), .second, .val (.long v98), .second, .val (.int v107), .unset] [])) t → Steps p.tables e below (s₁.setTop (entryFrame m #[(.int p1), (.int p2), (.int p3), (.int p4), (.int p5)] maxLocals)) t := fun t k => pre34 t (by
    show Steps p.tables e below (T33.setTop (mkF m 100 #[.val (.int p1), .val (.int p2), .val (.int p3), .val (.int p4), .val (.int p5), .val (.int v8), .val (.int v14), .val (.int z36_s0), .val (.int z54_s0), .val (.ref b27), .val (.ref b29), .val (.long v89), .second, .val (.long v98), .second, .unset, .unset] [])) _
    refine XS.aload X33.here hx rfl (hb hby at_100) rfl rfl ?_
    show Steps p.tables e below (T33.setTop (mkF m 102 #[.val (.int p1), .val (.int p2), .val (.int p3), .val (.int p4), .val (.int p5), .val (.int v8), .val (.int v14), .val (.int z36_s0), .val (.int z54_s0), .val (.ref b27), .val (.ref b29), .val (.long v89), .second, .val (.long v98), .second, .unset, .unset] [(.ref b27)])) _
    refine XS.aload X33.here hx rfl (hb hby at_102) rfl rfl ?_
    show Steps p.tables e below (T33.setTop (mkF m 104 #[.val (.int p1), .val (.int p2), .val (.int p3), .val (.int p4), .val (.int p5), .val (.int v8), .val (.int v14), .val (.int z36_s0), .val (.int z54_s0), .val (.ref b27), .val (.ref b29), .val (.long v89), .second, .val (.long v98), .second, .unset, .unset] [(.ref b29), (.ref b27)])) _
    refine st35.trans ?_
    show Steps p.tables e below (T35.setTop (mkF m 107 #[.val (.int p1), .val (.int p2), .val (.int p3), .val (.int p4), .val (.int p5), .val (.int v8), .val (.int v14), .val (.int z36_s0), .val (.int z54_s0), .val (.ref b27), .val (.ref b29), .val (.long v89), .second, .val (.long v98), .second, .unset, .unset] [(.int (f6 v8 z36_s0 (f4 v14) (f4 z54_s0)))])) _
    refine XS.istore X35.here hx rfl (hb hby at_107) rfl (l' := #[.val (.int p1), .val (.int p2), .val (.int p3), .val (.int p4), .val (.int p5), .val (.int v8), .val (.int v14), .val (.int z36_s0), .val (.int z54_s0), .val (.ref b27), .val (.ref b29), .val (.long v89), .second, .val (.long v98), .second, .val (.int (f6 v8 z36_s0 (f4 v14) (f4 z54_s0))), .unset]) rfl ?_
    rw [hv107] at k
    exact k)
  obtain ⟨cq37, kq37, q37a, q37b, q37c⟩ := isOf hZ e35 E_b29
  obtain ⟨_, _, ⟨T37, L37, k37, n37⟩, -, X37, ⟨Lc37, hQ37, l37, y37, z37⟩, st37⟩ := X35.virtualBack hx (y := (⟨"com/example/wachter/wachter/model/Stamp", "beats", "(Lcom/example/wachter/wachter/model/Stamp;)Z"⟩ : MethodName)) (z := (⟨"com/example/wachter/wachter/model/Stamp", "beats", "(Lcom/example/wachter/wachter/model/Stamp;)Z"⟩ : MethodName)) hown (mvT hZ (hw _ (List.mem_of_getElem? (i := 26) rfl))) (mvT hZ (hw _ (List.mem_of_getElem? (i := 27) rfl))) (notFace_of_selects (args := #[]) (mvT hZ (hw _ (List.mem_of_getElem? (i := 29) rfl)))) (mvT hZ (hw _ (List.mem_of_getElem? (i := 29) rfl))) (mvT hZ (hw _ (List.mem_of_getElem? (i := 28) rfl))) (by decide) (backOf (W := 0) (rm6 l Z a0 hw [] b29 b27 z36_s0 v8 (f4 z54_s0) (f4 v14) T30.heap n0 Zs F_counter_b29 F_counter_b27 F_member_b29 F_member_b27) hZ (hw _ (List.mem_of_getElem? (i := 30) rfl)) (hw _ (List.mem_of_getElem? (i := 7) rfl)) (by decide) (by decide)) q37a q37c (g := (mkF m 113 #[.val (.int p1), .val (.int p2), .val (.int p3), .val (.int p4), .val (.int p5), .val (.int v8), .val (.int v14), .val (.int z36_s0), .val (.int z54_s0), .val (.ref b27), .val (.ref b29), .val (.long v89), .second, .val (.long v98), .second, .val (.int v107), .unset] [(.ref b27), (.ref b29)])) rfl (by rw [hml]; rfl) (Steps.refl _) (argsL := [(.ref b27)]) (rest := []) (lenOf pd_4 rfl) rfl (by show 2 * 0 + _ ≤ _; exact Nat.le_of_eq rfl) (hb hby at_113) (fun _ _ => ⟨rfl, e35, (by decide : 2 + 0 ≤ _), (by decide : 4 + 0 ≤ _)⟩)
  dsimp only [Pt.U, Pt.locs, Pt.cells, Pt.slots] at X37 l37 y37 z37 st37 hQ37
  subst l37 y37 z37
  obtain ⟨rfl, N37q, e37⟩ := hQ37
  have N37 := Fr.app N35 N37q
  obtain ⟨v116, hv116⟩ : ∃ z : Int32, z = (f6 z36_s0 v8 (f4 z54_s0) (f4 v14)) := ⟨_, rfl⟩
  have pre38 : ∀ t, Steps p.tables e below (T37.setTop (mkF m 118 #[.val (.int p1), .val (.int p2), .val (.int p3), .val (.int p4), .val (.int p5), .val (.int v8), .val (.int v14), .val (.int z36_s0), .val (.int z54_s0), .val (.ref b27), .val (.ref b29), .val (.long v89), .second, .val (.long v98), .second, .val (.int v107), .val (.int v116)] [])) t → Steps p.tables e below (s₁.setTop (entryFrame m #[(.int p1), (.int p2), (.int p3), (.int p4), (.int p5)] maxLocals)) t := fun t k => pre36 t (by
    show Steps p.tables e below (T35.setTop (mkF m 109 #[.val (.int p1), .val (.int p2), .val (.int p3), .val (.int p4), .val (.int p5), .val (.int v8), .val (.int v14), .val (.int z36_s0), .val (.int z54_s0), .val (.ref b27), .val (.ref b29), .val (.long v89), .second, .val (.long v98), .second, .val (.int v107), .unset] [])) _
    refine XS.aload X35.here hx rfl (hb hby at_109) rfl rfl ?_
    show Steps p.tables e below (T35.setTop (mkF m 111 #[.val (.int p1), .val (.int p2), .val (.int p3), .val (.int p4), .val (.int p5), .val (.int v8), .val (.int v14), .val (.int z36_s0), .val (.int z54_s0), .val (.ref b27), .val (.ref b29), .val (.long v89), .second, .val (.long v98), .second, .val (.int v107), .unset] [(.ref b29)])) _
    refine XS.aload X35.here hx rfl (hb hby at_111) rfl rfl ?_
    show Steps p.tables e below (T35.setTop (mkF m 113 #[.val (.int p1), .val (.int p2), .val (.int p3), .val (.int p4), .val (.int p5), .val (.int v8), .val (.int v14), .val (.int z36_s0), .val (.int z54_s0), .val (.ref b27), .val (.ref b29), .val (.long v89), .second, .val (.long v98), .second, .val (.int v107), .unset] [(.ref b27), (.ref b29)])) _
    refine st37.trans ?_
    show Steps p.tables e below (T37.setTop (mkF m 116 #[.val (.int p1), .val (.int p2), .val (.int p3), .val (.int p4), .val (.int p5), .val (.int v8), .val (.int v14), .val (.int z36_s0), .val (.int z54_s0), .val (.ref b27), .val (.ref b29), .val (.long v89), .second, .val (.long v98), .second, .val (.int v107), .unset] [(.int (f6 z36_s0 v8 (f4 z54_s0) (f4 v14)))])) _
    refine XS.istore X37.here hx rfl (hb hby at_116) rfl (l' := #[.val (.int p1), .val (.int p2), .val (.int p3), .val (.int p4), .val (.int p5), .val (.int v8), .val (.int v14), .val (.int z36_s0), .val (.int z54_s0), .val (.ref b27), .val (.ref b29), .val (.long v89), .second, .val (.long v98), .second, .val (.int v107), .val (.int (f6 z36_s0 v8 (f4 z54_s0) (f4 v14)))]) rfl ?_
    rw [hv116] at k
    exact k)
  have pre39 : ∀ t, Steps p.tables e below (T37.setTop (mkF m 125 #[.val (.int p1), .val (.int p2), .val (.int p3), .val (.int p4), .val (.int p5), .val (.int v8), .val (.int v14), .val (.int z36_s0), .val (.int z54_s0), .val (.ref b27), .val (.ref b29), .val (.long v89), .second, .val (.long v98), .second, .val (.int v107), .val (.int v116)] [(.int (lcmpW v89 v98)), (.int v107)])) t → Steps p.tables e below (s₁.setTop (entryFrame m #[(.int p1), (.int p2), (.int p3), (.int p4), (.int p5)] maxLocals)) t := fun t k => pre38 t (by
    show Steps p.tables e below (T37.setTop (mkF m 118 #[.val (.int p1), .val (.int p2), .val (.int p3), .val (.int p4), .val (.int p5), .val (.int v8), .val (.int v14), .val (.int z36_s0), .val (.int z54_s0), .val (.ref b27), .val (.ref b29), .val (.long v89), .second, .val (.long v98), .second, .val (.int v107), .val (.int v116)] [])) _
    refine XS.iload X37.here hx rfl (hb hby at_118) rfl ?_
    show Steps p.tables e below (T37.setTop (mkF m 120 #[.val (.int p1), .val (.int p2), .val (.int p3), .val (.int p4), .val (.int p5), .val (.int v8), .val (.int v14), .val (.int z36_s0), .val (.int z54_s0), .val (.ref b27), .val (.ref b29), .val (.long v89), .second, .val (.long v98), .second, .val (.int v107), .val (.int v116)] [(.int v107)])) _
    refine XS.lload X37.here hx rfl (hb hby at_120) rfl ?_
    show Steps p.tables e below (T37.setTop (mkF m 122 #[.val (.int p1), .val (.int p2), .val (.int p3), .val (.int p4), .val (.int p5), .val (.int v8), .val (.int v14), .val (.int z36_s0), .val (.int z54_s0), .val (.ref b27), .val (.ref b29), .val (.long v89), .second, .val (.long v98), .second, .val (.int v107), .val (.int v116)] [(.long v89), (.int v107)])) _
    refine XS.lload X37.here hx rfl (hb hby at_122) rfl ?_
    show Steps p.tables e below (T37.setTop (mkF m 124 #[.val (.int p1), .val (.int p2), .val (.int p3), .val (.int p4), .val (.int p5), .val (.int v8), .val (.int v14), .val (.int z36_s0), .val (.int z54_s0), .val (.ref b27), .val (.ref b29), .val (.long v89), .second, .val (.long v98), .second, .val (.int v107), .val (.int v116)] [(.long v98), (.long v89), (.int v107)])) _
    refine XS.lcmp X37.here hx rfl (hb hby at_124) rfl ?_
    exact k)
  obtain ⟨z133_s0, hz133_s0⟩ : ∃ z : Int32, z = (if v98 < v89 then (1 : Int32) else (0 : Int32)) := ⟨_, rfl⟩
  obtain ⟨T42, Lc42, X42, e42, N42, pre42⟩ : ∃ (T' : State) (locs' : List Loc), Stand p l e room_1 s m #[(.int p1), (.int p2), (.int p3), (.int p4), (.int p5)] below meth c T' locs' 2 4 ∧ T'.heap = T30.heap ∧ Fr n0 locs' ∧ ∀ t, Steps p.tables e below (T'.setTop (mkF m 133 #[.val (.int p1), .val (.int p2), .val (.int p3), .val (.int p4), .val (.int p5), .val (.int v8), .val (.int v14), .val (.int z36_s0), .val (.int z54_s0), .val (.ref b27), .val (.ref b29), .val (.long v89), .second, .val (.long v98), .second, .val (.int v107), .val (.int v116)] [(.int z133_s0), (.int v107)])) t → Steps p.tables e below (s₁.setTop (entryFrame m #[(.int p1), (.int p2), (.int p3), (.int p4), (.int p5)] maxLocals)) t := by
    by_cases hc125 : v98 < v89
    ·
      have pre40 : ∀ t, Steps p.tables e below (T37.setTop (mkF m 133 #[.val (.int p1), .val (.int p2), .val (.int p3), .val (.int p4), .val (.int p5), .val (.int v8), .val (.int v14), .val (.int z36_s0), .val (.int z54_s0), .val (.ref b27), .val (.ref b29), .val (.long v89), .second, .val (.long v98), .second, .val (.int v107), .val (.int v116)] [(.int (1 : Int32)), (.int v107)])) t → Steps p.tables e below (s₁.setTop (entryFrame m #[(.int p1), (.int p2), (.int p3), (.int p4), (.int p5)] maxLocals)) t := fun t k => pre39 t (by
        show Steps p.tables e below (T37.setTop (mkF m 125 #[.val (.int p1), .val (.int p2), .val (.int p3), .val (.int p4), .val (.int p5), .val (.int v8), .val (.int v14), .val (.int z36_s0), .val (.int z54_s0), .val (.ref b27), .val (.ref b29), .val (.long v89), .second, .val (.long v98), .second, .val (.int v107), .val (.int v116)] [(.int (lcmpW v89 v98)), (.int v107)])) _
        refine XS.ifNo X37.here hx rfl (hb hby at_125) rfl ((if0 _ _).trans (tlt ((lw_gt v89 v98).mpr hc125)).2.2.2) ?_
        show Steps p.tables e below (T37.setTop (mkF m 128 #[.val (.int p1), .val (.int p2), .val (.int p3), .val (.int p4), .val (.int p5), .val (.int v8), .val (.int v14), .val (.int z36_s0), .val (.int z54_s0), .val (.ref b27), .val (.ref b29), .val (.long v89), .second, .val (.long v98), .second, .val (.int v107), .val (.int v116)] [(.int v107)])) _
        refine XS.iconst X37.here hx rfl (hb hby at_128) ?_
        show Steps p.tables e below (T37.setTop (mkF m 129 #[.val (.int p1), .val (.int p2), .val (.int p3), .val (.int p4), .val (.int p5), .val (.int v8), .val (.int v14), .val (.int z36_s0), .val (.int z54_s0), .val (.ref b27), .val (.ref b29), .val (.long v89), .second, .val (.long v98), .second, .val (.int v107), .val (.int v116)] [(.int (1 : Int32)), (.int v107)])) _
        refine XS.goto X37.here hx rfl (pc0 := 129) (pc' := 133) rfl (hb hby at_129) (by decide) (by decide) ?_
        exact k)
      have q_z133_s0 : z133_s0 = (1 : Int32) := by rw [hz133_s0, if_pos hc125]
      refine ⟨_, _, X37, e37, N37, fun t k => ?_⟩
      rw [q_z133_s0] at k
      exact pre40 t k
    ·
      have pre41 : ∀ t, Steps p.tables e below (T37.setTop (mkF m 133 #[.val (.int p1), .val (.int p2), .val (.int p3), .val (.int p4), .val (.int p5), .val (.int v8), .val (.int v14), .val (.int z36_s0), .val (.int z54_s0), .val (.ref b27), .val (.ref b29), .val (.long v89), .second, .val (.long v98), .second, .val (.int v107), .val (.int v116)] [(.int (0 : Int32)), (.int v107)])) t → Steps p.tables e below (s₁.setTop (entryFrame m #[(.int p1), (.int p2), (.int p3), (.int p4), (.int p5)] maxLocals)) t := fun t k => pre39 t (by
        show Steps p.tables e below (T37.setTop (mkF m 125 #[.val (.int p1), .val (.int p2), .val (.int p3), .val (.int p4), .val (.int p5), .val (.int v8), .val (.int v14), .val (.int z36_s0), .val (.int z54_s0), .val (.ref b27), .val (.ref b29), .val (.long v89), .second, .val (.long v98), .second, .val (.int v107), .val (.int v116)] [(.int (lcmpW v89 v98)), (.int v107)])) _
        refine XS.ifYes X37.here hx rfl (pc0 := 125) (pc' := 132) rfl (hb hby at_125) rfl ((if0 _ _).trans (flt (fun q => hc125 ((lw_gt v89 v98).mp q))).2.2.2) (by decide) (by decide) ?_
        show Steps p.tables e below (T37.setTop (mkF m 132 #[.val (.int p1), .val (.int p2), .val (.int p3), .val (.int p4), .val (.int p5), .val (.int v8), .val (.int v14), .val (.int z36_s0), .val (.int z54_s0), .val (.ref b27), .val (.ref b29), .val (.long v89), .second, .val (.long v98), .second, .val (.int v107), .val (.int v116)] [(.int v107)])) _
        refine XS.iconst X37.here hx rfl (hb hby at_132) ?_
        exact k)
      have q_z133_s0 : z133_s0 = (0 : Int32) := by rw [hz133_s0, if_neg hc125]
      refine ⟨_, _, X37, e37, N37, fun t k => ?_⟩
      rw [q_z133_s0] at k
      exact pre41 t k
  obtain ⟨z159_s0, hz159_s0⟩ : ∃ z : Int32, z = (if v107 = z133_s0 then (if v89 < v98 then (if v116 = (1 : Int32) then (1 : Int32) else (0 : Int32)) else (if v116 = (0 : Int32) then (1 : Int32) else (0 : Int32))) else (0 : Int32)) := ⟨_, rfl⟩
  obtain ⟨T51, Lc51, X51, e51, N51, pre51⟩ : ∃ (T' : State) (locs' : List Loc), Stand p l e room_1 s m #[(.int p1), (.int p2), (.int p3), (.int p4), (.int p5)] below meth c T' locs' 2 4 ∧ T'.heap = T30.heap ∧ Fr n0 locs' ∧ ∀ t, Steps p.tables e below (T'.setTop (mkF m 159 #[.val (.int p1), .val (.int p2), .val (.int p3), .val (.int p4), .val (.int p5), .val (.int v8), .val (.int v14), .val (.int z36_s0), .val (.int z54_s0), .val (.ref b27), .val (.ref b29), .val (.long v89), .second, .val (.long v98), .second, .val (.int v107), .val (.int v116)] [(.int z159_s0)])) t → Steps p.tables e below (s₁.setTop (entryFrame m #[(.int p1), (.int p2), (.int p3), (.int p4), (.int p5)] maxLocals)) t := by
    by_cases hc133 : v107 = z133_s0
    ·
      have pre43 : ∀ t, Steps p.tables e below (T42.setTop (mkF m 143 #[.val (.int p1), .val (.int p2), .val (.int p3), .val (.int p4), .val (.int p5), .val (.int v8), .val (.int v14), .val (.int z36_s0), .val (.int z54_s0), .val (.ref b27), .val (.ref b29), .val (.long v89), .second, .val (.long v98), .second, .val (.int v107), .val (.int v116)] [(.int (lcmpW v98 v89)), (.int v116)])) t → Steps p.tables e below (s₁.setTop (entryFrame m #[(.int p1), (.int p2), (.int p3), (.int p4), (.int p5)] maxLocals)) t := fun t k => pre42 t (by
        show Steps p.tables e below (T42.setTop (mkF m 133 #[.val (.int p1), .val (.int p2), .val (.int p3), .val (.int p4), .val (.int p5), .val (.int v8), .val (.int v14), .val (.int z36_s0), .val (.int z54_s0), .val (.ref b27), .val (.ref b29), .val (.long v89), .second, .val (.long v98), .second, .val (.int v107), .val (.int v116)] [(.int z133_s0), (.int v107)])) _
        refine XS.icmpNo X42.here hx rfl (hb hby at_133) rfl (teq hc133).2 ?_
        show Steps p.tables e below (T42.setTop (mkF m 136 #[.val (.int p1), .val (.int p2), .val (.int p3), .val (.int p4), .val (.int p5), .val (.int v8), .val (.int v14), .val (.int z36_s0), .val (.int z54_s0), .val (.ref b27), .val (.ref b29), .val (.long v89), .second, .val (.long v98), .second, .val (.int v107), .val (.int v116)] [])) _
        refine XS.iload X42.here hx rfl (hb hby at_136) rfl ?_
        show Steps p.tables e below (T42.setTop (mkF m 138 #[.val (.int p1), .val (.int p2), .val (.int p3), .val (.int p4), .val (.int p5), .val (.int v8), .val (.int v14), .val (.int z36_s0), .val (.int z54_s0), .val (.ref b27), .val (.ref b29), .val (.long v89), .second, .val (.long v98), .second, .val (.int v107), .val (.int v116)] [(.int v116)])) _
        refine XS.lload X42.here hx rfl (hb hby at_138) rfl ?_
        show Steps p.tables e below (T42.setTop (mkF m 140 #[.val (.int p1), .val (.int p2), .val (.int p3), .val (.int p4), .val (.int p5), .val (.int v8), .val (.int v14), .val (.int z36_s0), .val (.int z54_s0), .val (.ref b27), .val (.ref b29), .val (.long v89), .second, .val (.long v98), .second, .val (.int v107), .val (.int v116)] [(.long v98), (.int v116)])) _
        refine XS.lload X42.here hx rfl (hb hby at_140) rfl ?_
        show Steps p.tables e below (T42.setTop (mkF m 142 #[.val (.int p1), .val (.int p2), .val (.int p3), .val (.int p4), .val (.int p5), .val (.int v8), .val (.int v14), .val (.int z36_s0), .val (.int z54_s0), .val (.ref b27), .val (.ref b29), .val (.long v89), .second, .val (.long v98), .second, .val (.int v107), .val (.int v116)] [(.long v89), (.long v98), (.int v116)])) _
        refine XS.lcmp X42.here hx rfl (hb hby at_142) rfl ?_
        exact k)
      by_cases hc143 : v89 < v98
      ·
        have pre44 : ∀ t, Steps p.tables e below (T42.setTop (mkF m 151 #[.val (.int p1), .val (.int p2), .val (.int p3), .val (.int p4), .val (.int p5), .val (.int v8), .val (.int v14), .val (.int z36_s0), .val (.int z54_s0), .val (.ref b27), .val (.ref b29), .val (.long v89), .second, .val (.long v98), .second, .val (.int v107), .val (.int v116)] [(.int (1 : Int32)), (.int v116)])) t → Steps p.tables e below (s₁.setTop (entryFrame m #[(.int p1), (.int p2), (.int p3), (.int p4), (.int p5)] maxLocals)) t := fun t k => pre43 t (by
          show Steps p.tables e below (T42.setTop (mkF m 143 #[.val (.int p1), .val (.int p2), .val (.int p3), .val (.int p4), .val (.int p5), .val (.int v8), .val (.int v14), .val (.int z36_s0), .val (.int z54_s0), .val (.ref b27), .val (.ref b29), .val (.long v89), .second, .val (.long v98), .second, .val (.int v107), .val (.int v116)] [(.int (lcmpW v98 v89)), (.int v116)])) _
          refine XS.ifNo X42.here hx rfl (hb hby at_143) rfl ((if0 _ _).trans (tlt ((lw_gt v98 v89).mpr hc143)).2.2.2) ?_
          show Steps p.tables e below (T42.setTop (mkF m 146 #[.val (.int p1), .val (.int p2), .val (.int p3), .val (.int p4), .val (.int p5), .val (.int v8), .val (.int v14), .val (.int z36_s0), .val (.int z54_s0), .val (.ref b27), .val (.ref b29), .val (.long v89), .second, .val (.long v98), .second, .val (.int v107), .val (.int v116)] [(.int v116)])) _
          refine XS.iconst X42.here hx rfl (hb hby at_146) ?_
          show Steps p.tables e below (T42.setTop (mkF m 147 #[.val (.int p1), .val (.int p2), .val (.int p3), .val (.int p4), .val (.int p5), .val (.int v8), .val (.int v14), .val (.int z36_s0), .val (.int z54_s0), .val (.ref b27), .val (.ref b29), .val (.long v89), .second, .val (.long v98), .second, .val (.int v107), .val (.int v116)] [(.int (1 : Int32)), (.int v116)])) _
          refine XS.goto X42.here hx rfl (pc0 := 147) (pc' := 151) rfl (hb hby at_147) (by decide) (by decide) ?_
          exact k)
        by_cases hc151 : v116 = (1 : Int32)
        ·
          have pre45 : ∀ t, Steps p.tables e below (T42.setTop (mkF m 159 #[.val (.int p1), .val (.int p2), .val (.int p3), .val (.int p4), .val (.int p5), .val (.int v8), .val (.int v14), .val (.int z36_s0), .val (.int z54_s0), .val (.ref b27), .val (.ref b29), .val (.long v89), .second, .val (.long v98), .second, .val (.int v107), .val (.int v116)] [(.int (1 : Int32))])) t → Steps p.tables e below (s₁.setTop (entryFrame m #[(.int p1), (.int p2), (.int p3), (.int p4), (.int p5)] maxLocals)) t := fun t k => pre44 t (by
            show Steps p.tables e below (T42.setTop (mkF m 151 #[.val (.int p1), .val (.int p2), .val (.int p3), .val (.int p4), .val (.int p5), .val (.int v8), .val (.int v14), .val (.int z36_s0), .val (.int z54_s0), .val (.ref b27), .val (.ref b29), .val (.long v89), .second, .val (.long v98), .second, .val (.int v107), .val (.int v116)] [(.int (1 : Int32)), (.int v116)])) _
            refine XS.icmpNo X42.here hx rfl (hb hby at_151) rfl (teq hc151).2 ?_
            show Steps p.tables e below (T42.setTop (mkF m 154 #[.val (.int p1), .val (.int p2), .val (.int p3), .val (.int p4), .val (.int p5), .val (.int v8), .val (.int v14), .val (.int z36_s0), .val (.int z54_s0), .val (.ref b27), .val (.ref b29), .val (.long v89), .second, .val (.long v98), .second, .val (.int v107), .val (.int v116)] [])) _
            refine XS.iconst X42.here hx rfl (hb hby at_154) ?_
            show Steps p.tables e below (T42.setTop (mkF m 155 #[.val (.int p1), .val (.int p2), .val (.int p3), .val (.int p4), .val (.int p5), .val (.int v8), .val (.int v14), .val (.int z36_s0), .val (.int z54_s0), .val (.ref b27), .val (.ref b29), .val (.long v89), .second, .val (.long v98), .second, .val (.int v107), .val (.int v116)] [(.int (1 : Int32))])) _
            refine XS.goto X42.here hx rfl (pc0 := 155) (pc' := 159) rfl (hb hby at_155) (by decide) (by decide) ?_
            exact k)
          have q_z159_s0 : z159_s0 = (1 : Int32) := by rw [hz159_s0, if_pos hc133, if_pos hc143, if_pos hc151]
          refine ⟨_, _, X42, e42, N42, fun t k => ?_⟩
          rw [q_z159_s0] at k
          exact pre45 t k
        ·
          have pre46 : ∀ t, Steps p.tables e below (T42.setTop (mkF m 159 #[.val (.int p1), .val (.int p2), .val (.int p3), .val (.int p4), .val (.int p5), .val (.int v8), .val (.int v14), .val (.int z36_s0), .val (.int z54_s0), .val (.ref b27), .val (.ref b29), .val (.long v89), .second, .val (.long v98), .second, .val (.int v107), .val (.int v116)] [(.int (0 : Int32))])) t → Steps p.tables e below (s₁.setTop (entryFrame m #[(.int p1), (.int p2), (.int p3), (.int p4), (.int p5)] maxLocals)) t := fun t k => pre44 t (by
            show Steps p.tables e below (T42.setTop (mkF m 151 #[.val (.int p1), .val (.int p2), .val (.int p3), .val (.int p4), .val (.int p5), .val (.int v8), .val (.int v14), .val (.int z36_s0), .val (.int z54_s0), .val (.ref b27), .val (.ref b29), .val (.long v89), .second, .val (.long v98), .second, .val (.int v107), .val (.int v116)] [(.int (1 : Int32)), (.int v116)])) _
            refine XS.icmpYes X42.here hx rfl (pc0 := 151) (pc' := 158) rfl (hb hby at_151) rfl (feq hc151).2 (by decide) (by decide) ?_
            show Steps p.tables e below (T42.setTop (mkF m 158 #[.val (.int p1), .val (.int p2), .val (.int p3), .val (.int p4), .val (.int p5), .val (.int v8), .val (.int v14), .val (.int z36_s0), .val (.int z54_s0), .val (.ref b27), .val (.ref b29), .val (.long v89), .second, .val (.long v98), .second, .val (.int v107), .val (.int v116)] [])) _
            refine XS.iconst X42.here hx rfl (hb hby at_158) ?_
            exact k)
          have q_z159_s0 : z159_s0 = (0 : Int32) := by rw [hz159_s0, if_pos hc133, if_pos hc143, if_neg hc151]
          refine ⟨_, _, X42, e42, N42, fun t k => ?_⟩
          rw [q_z159_s0] at k
          exact pre46 t k
      ·
        have pre47 : ∀ t, Steps p.tables e below (T42.setTop (mkF m 151 #[.val (.int p1), .val (.int p2), .val (.int p3), .val (.int p4), .val (.int p5), .val (.int v8), .val (.int v14), .val (.int z36_s0), .val (.int z54_s0), .val (.ref b27), .val (.ref b29), .val (.long v89), .second, .val (.long v98), .second, .val (.int v107), .val (.int v116)] [(.int (0 : Int32)), (.int v116)])) t → Steps p.tables e below (s₁.setTop (entryFrame m #[(.int p1), (.int p2), (.int p3), (.int p4), (.int p5)] maxLocals)) t := fun t k => pre43 t (by
          show Steps p.tables e below (T42.setTop (mkF m 143 #[.val (.int p1), .val (.int p2), .val (.int p3), .val (.int p4), .val (.int p5), .val (.int v8), .val (.int v14), .val (.int z36_s0), .val (.int z54_s0), .val (.ref b27), .val (.ref b29), .val (.long v89), .second, .val (.long v98), .second, .val (.int v107), .val (.int v116)] [(.int (lcmpW v98 v89)), (.int v116)])) _
          refine XS.ifYes X42.here hx rfl (pc0 := 143) (pc' := 150) rfl (hb hby at_143) rfl ((if0 _ _).trans (flt (fun q => hc143 ((lw_gt v98 v89).mp q))).2.2.2) (by decide) (by decide) ?_
          show Steps p.tables e below (T42.setTop (mkF m 150 #[.val (.int p1), .val (.int p2), .val (.int p3), .val (.int p4), .val (.int p5), .val (.int v8), .val (.int v14), .val (.int z36_s0), .val (.int z54_s0), .val (.ref b27), .val (.ref b29), .val (.long v89), .second, .val (.long v98), .second, .val (.int v107), .val (.int v116)] [(.int v116)])) _
          refine XS.iconst X42.here hx rfl (hb hby at_150) ?_
          exact k)
        by_cases hc151 : v116 = (0 : Int32)
        ·
          have pre48 : ∀ t, Steps p.tables e below (T42.setTop (mkF m 159 #[.val (.int p1), .val (.int p2), .val (.int p3), .val (.int p4), .val (.int p5), .val (.int v8), .val (.int v14), .val (.int z36_s0), .val (.int z54_s0), .val (.ref b27), .val (.ref b29), .val (.long v89), .second, .val (.long v98), .second, .val (.int v107), .val (.int v116)] [(.int (1 : Int32))])) t → Steps p.tables e below (s₁.setTop (entryFrame m #[(.int p1), (.int p2), (.int p3), (.int p4), (.int p5)] maxLocals)) t := fun t k => pre47 t (by
            show Steps p.tables e below (T42.setTop (mkF m 151 #[.val (.int p1), .val (.int p2), .val (.int p3), .val (.int p4), .val (.int p5), .val (.int v8), .val (.int v14), .val (.int z36_s0), .val (.int z54_s0), .val (.ref b27), .val (.ref b29), .val (.long v89), .second, .val (.long v98), .second, .val (.int v107), .val (.int v116)] [(.int (0 : Int32)), (.int v116)])) _
            refine XS.icmpNo X42.here hx rfl (hb hby at_151) rfl (teq hc151).2 ?_
            show Steps p.tables e below (T42.setTop (mkF m 154 #[.val (.int p1), .val (.int p2), .val (.int p3), .val (.int p4), .val (.int p5), .val (.int v8), .val (.int v14), .val (.int z36_s0), .val (.int z54_s0), .val (.ref b27), .val (.ref b29), .val (.long v89), .second, .val (.long v98), .second, .val (.int v107), .val (.int v116)] [])) _
            refine XS.iconst X42.here hx rfl (hb hby at_154) ?_
            show Steps p.tables e below (T42.setTop (mkF m 155 #[.val (.int p1), .val (.int p2), .val (.int p3), .val (.int p4), .val (.int p5), .val (.int v8), .val (.int v14), .val (.int z36_s0), .val (.int z54_s0), .val (.ref b27), .val (.ref b29), .val (.long v89), .second, .val (.long v98), .second, .val (.int v107), .val (.int v116)] [(.int (1 : Int32))])) _
            refine XS.goto X42.here hx rfl (pc0 := 155) (pc' := 159) rfl (hb hby at_155) (by decide) (by decide) ?_
            exact k)
          have q_z159_s0 : z159_s0 = (1 : Int32) := by rw [hz159_s0, if_pos hc133, if_neg hc143, if_pos hc151]
          refine ⟨_, _, X42, e42, N42, fun t k => ?_⟩
          rw [q_z159_s0] at k
          exact pre48 t k
        ·
          have pre49 : ∀ t, Steps p.tables e below (T42.setTop (mkF m 159 #[.val (.int p1), .val (.int p2), .val (.int p3), .val (.int p4), .val (.int p5), .val (.int v8), .val (.int v14), .val (.int z36_s0), .val (.int z54_s0), .val (.ref b27), .val (.ref b29), .val (.long v89), .second, .val (.long v98), .second, .val (.int v107), .val (.int v116)] [(.int (0 : Int32))])) t → Steps p.tables e below (s₁.setTop (entryFrame m #[(.int p1), (.int p2), (.int p3), (.int p4), (.int p5)] maxLocals)) t := fun t k => pre47 t (by
            show Steps p.tables e below (T42.setTop (mkF m 151 #[.val (.int p1), .val (.int p2), .val (.int p3), .val (.int p4), .val (.int p5), .val (.int v8), .val (.int v14), .val (.int z36_s0), .val (.int z54_s0), .val (.ref b27), .val (.ref b29), .val (.long v89), .second, .val (.long v98), .second, .val (.int v107), .val (.int v116)] [(.int (0 : Int32)), (.int v116)])) _
            refine XS.icmpYes X42.here hx rfl (pc0 := 151) (pc' := 158) rfl (hb hby at_151) rfl (feq hc151).2 (by decide) (by decide) ?_
            show Steps p.tables e below (T42.setTop (mkF m 158 #[.val (.int p1), .val (.int p2), .val (.int p3), .val (.int p4), .val (.int p5), .val (.int v8), .val (.int v14), .val (.int z36_s0), .val (.int z54_s0), .val (.ref b27), .val (.ref b29), .val (.long v89), .second, .val (.long v98), .second, .val (.int v107), .val (.int v116)] [])) _
            refine XS.iconst X42.here hx rfl (hb hby at_158) ?_
            exact k)
          have q_z159_s0 : z159_s0 = (0 : Int32) := by rw [hz159_s0, if_pos hc133, if_neg hc143, if_neg hc151]
          refine ⟨_, _, X42, e42, N42, fun t k => ?_⟩
          rw [q_z159_s0] at k
          exact pre49 t k
    ·
      have pre50 : ∀ t, Steps p.tables e below (T42.setTop (mkF m 159 #[.val (.int p1), .val (.int p2), .val (.int p3), .val (.int p4), .val (.int p5), .val (.int v8), .val (.int v14), .val (.int z36_s0), .val (.int z54_s0), .val (.ref b27), .val (.ref b29), .val (.long v89), .second, .val (.long v98), .second, .val (.int v107), .val (.int v116)] [(.int (0 : Int32))])) t → Steps p.tables e below (s₁.setTop (entryFrame m #[(.int p1), (.int p2), (.int p3), (.int p4), (.int p5)] maxLocals)) t := fun t k => pre42 t (by
        show Steps p.tables e below (T42.setTop (mkF m 133 #[.val (.int p1), .val (.int p2), .val (.int p3), .val (.int p4), .val (.int p5), .val (.int v8), .val (.int v14), .val (.int z36_s0), .val (.int z54_s0), .val (.ref b27), .val (.ref b29), .val (.long v89), .second, .val (.long v98), .second, .val (.int v107), .val (.int v116)] [(.int z133_s0), (.int v107)])) _
        refine XS.icmpYes X42.here hx rfl (pc0 := 133) (pc' := 158) rfl (hb hby at_133) rfl (feq hc133).2 (by decide) (by decide) ?_
        show Steps p.tables e below (T42.setTop (mkF m 158 #[.val (.int p1), .val (.int p2), .val (.int p3), .val (.int p4), .val (.int p5), .val (.int v8), .val (.int v14), .val (.int z36_s0), .val (.int z54_s0), .val (.ref b27), .val (.ref b29), .val (.long v89), .second, .val (.long v98), .second, .val (.int v107), .val (.int v116)] [])) _
        refine XS.iconst X42.here hx rfl (hb hby at_158) ?_
        exact k)
      have q_z159_s0 : z159_s0 = (0 : Int32) := by rw [hz159_s0, if_neg hc133]
      refine ⟨_, _, X42, e42, N42, fun t k => ?_⟩
      rw [q_z159_s0] at k
      exact pre50 t k
  obtain rfl : z159_s0 = (1 : Int32) := own_law hv8 hv14 hz36_s0 hz54_s0 hv89 hv98 hv107 hv116 hz133_s0 hz159_s0
  obtain ⟨fs, hr, hrun, hended, hW, hsame⟩ := X51.leave (v := some (.int (1 : Int32))) (fun h => by rw [Bd.returns] at h; cases h)
  refine ⟨_, _, pre51 _ ?_, hrun, hended, _, _, rfl, ?_, ⟨_, rfl⟩, hW, hsame.mono (by decide) (by decide)⟩
  · show Steps p.tables e below (T51.setTop (mkF m 159 #[.val (.int p1), .val (.int p2), .val (.int p3), .val (.int p4), .val (.int p5), .val (.int v8), .val (.int v14), .val (.int z36_s0), .val (.int z54_s0), .val (.ref b27), .val (.ref b29), .val (.long v89), .second, .val (.long v98), .second, .val (.int v107), .val (.int v116)] [(.int (1 : Int32))])) _
    exact retN X51 hx (t := .boolean) Bd.returns (by simp) (hb hby at_159) hr
  · show Q0 Z p1 p2 p3 p4 p5 h0 n0 _ T51.heap _
    rw [e51]
    exact ⟨rfl, N51⟩
set_option maxRecDepth 65536 in
set_option maxHeartbeats 40000000 in
theorem comes_1 {Post : Tables → Env → Array Value → State → Outcome → State → Prop} (hpost : ∀ tb e args s v u, (limb_1_1.after args s (.returned v) u = true ∧ limb_1_2.after args s (.returned v) u = true ∧ True) → FrameEnd s (.returned v) u (Jvm.fieldLocs frame_1_writes args s ++ Jvm.arrayLocs frame_1_arrays args s ++ Jvm.staticLocs frame_1_statics s) 16 128 → Post tb e args s (.returned v) u) :
    ArmFor flags0 classFile x code maxLocals ret World_1 tables_1 room_1 Calls_1 rest_1 Pre_1 Post := by
  intro l hfl _ _ p e ha hc hk s m args below hf hA hF happ hP
  obtain ⟨hcalls, hrest, hpre⟩ := hP
  obtain ⟨-, -, -, hnamed, -, -, -, hat⟩ := (Spec.applies_iff hf).mp happ
  obtain ⟨hg, hn⟩ := and_e (Cond.before_iff.mp (show (Jvm.Cond.and given_1 narrow_1).before args s = true from hpre))
  obtain ⟨hcount, ha0⟩ := and_e hg
  obtain ⟨ga0, gb0⟩ := and_e ha0
  obtain ⟨ga1, gb1⟩ := and_e gb0
  obtain ⟨ga2, gb2⟩ := and_e gb1
  obtain ⟨ga3, gb3⟩ := and_e gb2
  obtain ⟨w0, w1, w2, w3, w4, rfl⟩ : ∃ w0 w1 w2 w3 w4 : Value, args = #[w0, w1, w2, w3, w4] := by
    have hs : args.size = 5 := by simpa [Cond.value, given_1] using hcount
    obtain ⟨L⟩ := args
    match L, hs with
    | [w0, w1, w2, w3, w4], _ => exact ⟨w0, w1, w2, w3, w4, rfl⟩
  have hw := fun d (hd : d ∈ tables_1) => atoms_spec (ws := Jvm.Cond.code x code maxLocals ret :: tables_1) hat d (List.mem_cons_of_mem _ hd)
  have hfit : Fit s := fun {y c} hc i hi => by
    obtain ⟨ha, rfl⟩ := Array.getElem?_eq_some_iff.mp hc
    have q := List.all_eq_true.mp ((Array.all_eq_true_iff_forall_mem.mp hF) _ (Array.getElem_mem ha)) i (List.mem_range.mpr hi)
    simpa [Array.getElem?_eq_getElem hi] using q
  obtain ⟨i0, ei0⟩ := is_v ga0
  obtain rfl : w0 = (.int i0) := Option.some.inj ei0
  obtain ⟨i1, ei1⟩ := is_v ga1
  obtain rfl : w1 = (.int i1) := Option.some.inj ei1
  obtain ⟨i2, ei2⟩ := is_v ga2
  obtain rfl : w2 = (.int i2) := Option.some.inj ei2
  obtain ⟨i3, ei3⟩ := is_v ga3
  obtain rfl : w3 = (.int i3) := Option.some.inj ei3
  obtain ⟨i4, ei4⟩ := is_v gb3
  obtain rfl : w4 = (.int i4) := Option.some.inj ei4
  obtain ⟨n, o, h1, h2, h3, _, L, rfl, ⟨rfl, N⟩, hq⟩ := rm0 l s _ hw tables_1 i0 i1 i2 i3 i4 s.heap s.heap.size (Nat.le_refl _)  p e ha hc hk s m _ below hf ((Spec.applies_iff_loose hf).mp happ).1 ⟨rfl, State.Warmed39.refl s, rfl⟩ trivial
  refine ⟨n, _, h1, h2, h3, hpost _ _ _ _ _ _ ⟨Cond.after_iff.mpr rfl, Cond.after_iff.mpr (eq_i res_at (Term.int_eval (1)) rfl), trivial⟩ ⟨hq.1, hq.2.1, (hq.2.2.sift fun y hy => Or.inr (N y hy)).mono (by decide) (by decide)⟩⟩
theorem main_1_1 : Claimed_1_1 := comes_1 fun _ _ _ _ _ _ h hF => ⟨h.1, hF⟩
theorem main_1_2 : Claimed_1_2 := comes_1 fun _ _ _ _ _ _ h hF => ⟨h.2.1, hF⟩
end Jvm.Pilot.@@N@@
namespace Jvm.Pilot.@@N@@
open Jvm Jvm.ClassFile Sem Op Lib Jvm.Free Jvm.Stand Jvm.Pilot.@@N@@.Jvm.D
/-! MADE BY PROGRAM (witnessworld.py) out of the Statement's table words and the real class files: 11 classes; the members and pool entries that the words name. The judged class is class 1, her method 2. -/
namespace start1
open Jvm.ClassFile
def u (s : String) : CpInfo := .utf8 (stringToUtf16 s)
/-- a pool by its gaps: so many unusable entries, then the entry; so many at the end -/
def gap : Nat → List CpInfo → List CpInfo
  | 0, r => r
  | n + 1, r => .unusable :: gap n r
def poolList (es : List (Nat × CpInfo)) (last : Nat) : List CpInfo := es.foldr (fun e r => gap e.1 (e.2 :: r)) (gap last [])
def pool (es : List (Nat × CpInfo)) (last : Nat) : Array CpInfo := ⟨poolList es last⟩
def fileOf (pool : Array CpInfo) (this : Nat) (attrs : Array Attribute := #[]) (ms : Array MethodInfo := #[]) (fl : Nat := 33) (sup : Nat := 0) (ifs : Array Nat := #[]) (fds : Array FieldInfo := #[]) : ClassFile where
  minorVersion := 0
  majorVersion := 65
  constantPool := pool
  accessFlags := fl
  thisClass := this
  superClass := sup
  interfaces := ifs
  fields := fds
  methods := ms
  attributes := attrs
def plain (name : String) (sup : Option ClassId) : Class where
  name := name
  kind := .ordinary
  loader := none
  accessFlags := 33
  super := sup
  interfaces := #[]
  cf := none
  fields := #[]
  methods := #[]
  instanceTypes := #[]
  staticTypes := #[]
  resolved := #[]
  callSites := []
  init := .initialized
  statics := none
  mirror := none

def pool0 : Array CpInfo := pool [(5, u "<init>"), (0, u "()V"), (1, .class_ 10), (1, u "java/lang/Object")] 113

def k0c0 : Code := { maxStack := 0, maxLocals := 1, code := object_method_1_code, exceptionTable := #[], attributes := #[] }
def k0m0 : Method := { name := "<init>", desc := "()V", sig := { parameters := [], returnType := none }, accessFlags := 1, code := some k0c0 }
/-- java/lang/Object -/
def k0 : Class := { plain "java/lang/Object" none with
  accessFlags := 33
  interfaces := #[]
  cf := some (fileOf pool0 8 #[] #[{ accessFlags := 1, nameIndex := 5, descriptorIndex := 6, attributes := #[] }] 33 0 #[] #[])
  fields := #[]
  methods := #[k0m0]
  instanceTypes := #[]
  staticTypes := #[]
  resolved := Array.replicate 124 none
  statics := none }

def pool1 : Array CpInfo := pool [(2, .class_ 4), (1, u "java/lang/Object"), (0, u "<init>"), (0, u "()V"), (0, .integer 2147483647), (0, .methodref 9 10), (0, .class_ 11), (0, .nameAndType 12 13), (0, u "java/lang/Math"), (0, u "max"), (0, u "(II)I"), (0, .class_ 15), (0, u "com/example/wachter/wachter/model/Stamp"), (0, .methodref 14 17), (0, .nameAndType 5 18), (0, u "(II)V"), (0, .methodref 20 21), (0, .class_ 22), (0, .nameAndType 23 24), (0, u "com/example/wachter/wachter/model/StampBeatsPinLaw"), (0, u "key"), (0, u "(II)J"), (0, .methodref 14 26), (0, .nameAndType 27 28), (0, u "beats"), (0, u "(Lcom/example/wachter/wachter/model/Stamp;)Z"), (2, u "law"), (0, u "(IIIII)Z")] 3

def k1m0 : Method := { name := "<init>", desc := "()V", sig := { parameters := [], returnType := none }, accessFlags := 1, code := none }
def k1c1 : Code := { maxStack := 4, maxLocals := 2, code := method_2_code, exceptionTable := #[], attributes := #[] }
def k1m1 : Method := { name := "key", desc := "(II)J", sig := { parameters := [.int, .int], returnType := some .long }, accessFlags := 10, code := some k1c1 }
def k1c2 : Code := { maxStack := 5, maxLocals := 17, code := code, exceptionTable := #[], attributes := #[] }
def k1m2 : Method := { name := "law", desc := "(IIIII)Z", sig := { parameters := [.int, .int, .int, .int, .int], returnType := some .boolean }, accessFlags := 9, code := some k1c2 }
/-- com/example/wachter/wachter/model/StampBeatsPinLaw -/
def k1 : Class := { plain "com/example/wachter/wachter/model/StampBeatsPinLaw" (some 0) with
  accessFlags := 49
  interfaces := #[]
  cf := some (fileOf pool1 20 #[] #[{ accessFlags := 1, nameIndex := 5, descriptorIndex := 6, attributes := #[] }, { accessFlags := 10, nameIndex := 23, descriptorIndex := 24, attributes := #[] }, { accessFlags := 9, nameIndex := 31, descriptorIndex := 32, attributes := #[] }] 49 2 #[] #[])
  fields := #[]
  methods := #[k1m0, k1m1, k1m2]
  instanceTypes := #[]
  staticTypes := #[]
  resolved := Array.replicate 36 none
  statics := none }

def pool2 : Array CpInfo := pool [(1, .class_ 2), (0, u "java/lang/Math"), (1, .class_ 6), (1, u "java/lang/Object"), (0, u "<init>"), (0, u "()V"), (89, .class_ 100), (1, u "java/lang/Math$RandomNumberGeneratorHolder"), (71, u "negativeZeroFloatBits"), (0, u "J"), (2, u "negativeZeroDoubleBits"), (21, u "max"), (46, u "$assertionsDisabled"), (0, u "Z"), (88, u "(II)I"), (2, u "twoToTheDoubleScaleDown"), (0, u "D"), (4, u "twoToTheDoubleScaleUp"), (9, u "E"), (3, u "PI"), (2, u "TAU"), (2, u "DEGREES_TO_RADIANS"), (0, u "RADIANS_TO_DEGREES")] 94

def k2m0 : Method := { name := "<init>", desc := "()V", sig := { parameters := [], returnType := none }, accessFlags := 2, code := none }
def k2c1 : Code := { maxStack := 2, maxLocals := 2, code := jdk_29_method_65_code, exceptionTable := #[], attributes := #[] }
def k2m1 : Method := { name := "max", desc := "(II)I", sig := { parameters := [.int, .int], returnType := some .int }, accessFlags := 9, code := some k2c1 }
/-- java/lang/Math -/
def k2 : Class := { plain "java/lang/Math" (some 0) with
  accessFlags := 49
  interfaces := #[]
  cf := some (fileOf pool2 1 #[.nestMembers #[98]] #[{ accessFlags := 2, nameIndex := 7, descriptorIndex := 8, attributes := #[] }, { accessFlags := 9, nameIndex := 198, descriptorIndex := 335, attributes := #[] }] 49 4 #[] #[{ accessFlags := 25, nameIndex := 354, descriptorIndex := 339, attributes := #[] }, { accessFlags := 25, nameIndex := 358, descriptorIndex := 339, attributes := #[] }, { accessFlags := 25, nameIndex := 361, descriptorIndex := 339, attributes := #[] }, { accessFlags := 26, nameIndex := 364, descriptorIndex := 339, attributes := #[] }, { accessFlags := 26, nameIndex := 365, descriptorIndex := 339, attributes := #[] }, { accessFlags := 26, nameIndex := 172, descriptorIndex := 173, attributes := #[] }, { accessFlags := 26, nameIndex := 176, descriptorIndex := 173, attributes := #[] }, { accessFlags := 8, nameIndex := 344, descriptorIndex := 339, attributes := #[] }, { accessFlags := 8, nameIndex := 338, descriptorIndex := 339, attributes := #[] }, { accessFlags := 4120, nameIndex := 245, descriptorIndex := 246, attributes := #[] }])
  fields := #[{ name := "E", type := .double, accessFlags := 25, slot := 0, constantValue := 0 }, { name := "PI", type := .double, accessFlags := 25, slot := 1, constantValue := 0 }, { name := "TAU", type := .double, accessFlags := 25, slot := 2, constantValue := 0 }, { name := "DEGREES_TO_RADIANS", type := .double, accessFlags := 26, slot := 3, constantValue := 0 }, { name := "RADIANS_TO_DEGREES", type := .double, accessFlags := 26, slot := 4, constantValue := 0 }, { name := "negativeZeroFloatBits", type := .long, accessFlags := 26, slot := 5, constantValue := 0 }, { name := "negativeZeroDoubleBits", type := .long, accessFlags := 26, slot := 6, constantValue := 0 }, { name := "twoToTheDoubleScaleUp", type := .double, accessFlags := 8, slot := 7, constantValue := 0 }, { name := "twoToTheDoubleScaleDown", type := .double, accessFlags := 8, slot := 8, constantValue := 0 }, { name := "$assertionsDisabled", type := .boolean, accessFlags := 4120, slot := 9, constantValue := 0 }]
  methods := #[k2m0, k2m1]
  instanceTypes := #[]
  staticTypes := #[.double, .double, .double, .double, .double, .long, .long, .double, .double, .boolean]
  resolved := Array.replicate 460 none
  statics := none }

def pool3 : Array CpInfo := pool [(1, .methodref 2 3), (0, .class_ 4), (0, .nameAndType 5 6), (0, u "java/lang/Object"), (0, u "<init>"), (0, u "()V"), (9, .fieldref 17 18), (0, .class_ 19), (0, .nameAndType 20 21), (0, u "com/example/wachter/wachter/model/Stamp"), (0, u "counter"), (0, u "I"), (0, .methodref 23 24), (0, .class_ 25), (0, .nameAndType 26 27), (0, u "com/example/wachter/wachter/model/Message"), (0, u "requireMember"), (0, u "(I)I"), (0, .fieldref 17 29), (0, .nameAndType 30 21), (0, u "member"), (0, u "(II)V"), (6, u "beats"), (0, u "(Lcom/example/wachter/wachter/model/Stamp;)Z")] 17

def k3c0 : Code := { maxStack := 3, maxLocals := 3, code := prog_35_method_1_code, exceptionTable := #[], attributes := #[] }
def k3m0 : Method := { name := "<init>", desc := "(II)V", sig := { parameters := [.int, .int], returnType := none }, accessFlags := 1, code := some k3c0 }
def k3c1 : Code := { maxStack := 2, maxLocals := 2, code := prog_35_method_4_code, exceptionTable := #[], attributes := #[] }
def k3m1 : Method := { name := "beats", desc := "(Lcom/example/wachter/wachter/model/Stamp;)Z", sig := { parameters := [(.object "com/example/wachter/wachter/model/Stamp")], returnType := some .boolean }, accessFlags := 1, code := some k3c1 }
/-- com/example/wachter/wachter/model/Stamp -/
def k3 : Class := { plain "com/example/wachter/wachter/model/Stamp" (some 0) with
  accessFlags := 33
  interfaces := #[]
  cf := some (fileOf pool3 17 #[] #[{ accessFlags := 1, nameIndex := 5, descriptorIndex := 31, attributes := #[] }, { accessFlags := 1, nameIndex := 38, descriptorIndex := 39, attributes := #[] }] 33 2 #[] #[{ accessFlags := 18, nameIndex := 20, descriptorIndex := 21, attributes := #[] }, { accessFlags := 18, nameIndex := 30, descriptorIndex := 21, attributes := #[] }])
  fields := #[{ name := "counter", type := .int, accessFlags := 18, slot := 0, constantValue := 0 }, { name := "member", type := .int, accessFlags := 18, slot := 1, constantValue := 0 }]
  methods := #[k3m0, k3m1]
  instanceTypes := #[.int, .int]
  staticTypes := #[]
  resolved := Array.replicate 57 none
  statics := none }

def pool4 : Array CpInfo := pool [(2, .class_ 4), (1, u "java/lang/Object"), (3, .class_ 10), (1, u "com/example/wachter/wachter/model/Message"), (0, u "type"), (0, u "Lcom/example/wachter/wachter/model/MessageType;"), (39, u "requireMember"), (0, u "(I)I"), (5, u "NO_MEMBER"), (0, u "I"), (2, u "NO_POSITION")] 53

def k4c0 : Code := { maxStack := 3, maxLocals := 1, code := prog_26_method_3_code, exceptionTable := #[], attributes := #[] }
def k4m0 : Method := { name := "requireMember", desc := "(I)I", sig := { parameters := [.int], returnType := some .int }, accessFlags := 8, code := some k4c0 }
/-- com/example/wachter/wachter/model/Message -/
def k4 : Class := { plain "com/example/wachter/wachter/model/Message" (some 0) with
  accessFlags := 1057
  interfaces := #[]
  cf := some (fileOf pool4 8 #[] #[{ accessFlags := 8, nameIndex := 52, descriptorIndex := 53, attributes := #[] }] 1057 2 #[] #[{ accessFlags := 25, nameIndex := 59, descriptorIndex := 60, attributes := #[] }, { accessFlags := 25, nameIndex := 63, descriptorIndex := 60, attributes := #[] }, { accessFlags := 18, nameIndex := 11, descriptorIndex := 12, attributes := #[] }])
  fields := #[{ name := "NO_MEMBER", type := .int, accessFlags := 25, slot := 0, constantValue := 0 }, { name := "NO_POSITION", type := .int, accessFlags := 25, slot := 1, constantValue := 0 }, { name := "type", type := (.object "com/example/wachter/wachter/model/MessageType"), accessFlags := 18, slot := 0, constantValue := 0 }]
  methods := #[k4m0]
  instanceTypes := #[(.object "com/example/wachter/wachter/model/MessageType")]
  staticTypes := #[.int, .int]
  resolved := Array.replicate 117 none
  statics := none }

def pool5 : Array CpInfo := pool [(1, u "java/lang/Cloneable"), (0, .class_ 1), (0, u "java/lang/Object"), (0, .class_ 3)] 3

/-- java/lang/Cloneable -/
def k5 : Class := { plain "java/lang/Cloneable" (some 0) with
  accessFlags := 1537
  interfaces := #[]
  cf := some (fileOf pool5 2 #[] #[] 1537 4 #[] #[])
  fields := #[]
  methods := #[]
  instanceTypes := #[]
  staticTypes := #[]
  resolved := Array.replicate 8 none
  statics := none }

def pool6 : Array CpInfo := pool [(1, u "java/io/Serializable"), (0, .class_ 1), (0, u "java/lang/Object"), (0, .class_ 3)] 3

/-- java/io/Serializable -/
def k6 : Class := { plain "java/io/Serializable" (some 0) with
  accessFlags := 1537
  interfaces := #[]
  cf := some (fileOf pool6 2 #[] #[] 1537 4 #[] #[])
  fields := #[]
  methods := #[]
  instanceTypes := #[]
  staticTypes := #[]
  resolved := Array.replicate 8 none
  statics := none }

/-- the primitive byte -/
def k7 : Class := { plain "byte" none with kind := .primitive 'B', accessFlags := 0x411 }
/-- [B -/
def k8 : Class := { plain "[B" (some 0) with kind := .array 7 .byte, interfaces := #[5, 6], accessFlags := 1041 }

/-- the primitive int -/
def k9 : Class := { plain "int" none with kind := .primitive 'I', accessFlags := 0x411 }
/-- [I -/
def k10 : Class := { plain "[I" (some 0) with kind := .array 9 .int, interfaces := #[5, 6], accessFlags := 1041 }

def heap : Heap := #[]
def classes : Array Class := #[k0, k1, k2, k3, k4, k5, k6, k7, k8, k9, k10]
def interned : List (Array UInt16 × Addr) := []
def slotsUsed : Nat := 0
def theMethod : MethodId := ⟨1, 2⟩
def args0 : Array Value := #[.int 5, .int 300, .int 7, .int 1, .int 9]
def aboutOver (below : List Frame) : State where
  vm := { classes := classes, interned := interned.toArray }
  heap := heap
  slotsUsed := slotsUsed
  threads := #[{ frames := .invoking theMethod args0 :: below }]
def below0 : List Frame := [.native { method := ⟨0, 0⟩, args := #[] }]
def about1 : State := aboutOver below0
def p0 : Program := .bare "" "" ""
def e0 : Env := launch0.env 0 0 0
theorem w_frames : about1.frames = Frame.invoking theMethod args0 :: below0 := rfl
set_option maxRecDepth 65536 in
theorem w_args : argsFit about1.vm theMethod args0 = true := by decide +kernel
set_option maxRecDepth 65536 in
theorem w_heap : heapFits about1 = true := by decide +kernel
set_option maxRecDepth 65536 in
theorem w_runnable : about1.curStatus? = some .runnable := by decide +kernel
set_option maxRecDepth 65536 in
theorem w_alone : about1.alone = true := by decide +kernel
set_option maxRecDepth 65536 in
theorem w_named : about1.methodNamed? x = some theMethod := by decide +kernel
set_option maxRecDepth 65536 in
theorem w_hears : about1.hears theMethod below0 = true := by decide +kernel
set_option maxRecDepth 65536 in
theorem w_ripe : about1.ripe theMethod args0 below0 = true := by decide +kernel
theorem w_running : about1.status = .running := rfl
set_option maxRecDepth 65536 in
theorem w_room : about1.hasRoom e0.platform room_1 = true :=
  launch0.hasRoom_least _ room_1 (by decide +kernel) (by decide +kernel) (by decide +kernel) (by decide +kernel) (by decide +kernel) (by decide +kernel)
theorem allAtoms_all (ts : List Jvm.Cond) (a : Array Jvm.Value) (st : Jvm.State) : (allAtoms ts).before a st = ts.all (fun c => c.before a st) := by
  induction ts with
  | nil => rfl
  | cons c t ih =>
    show (Jvm.Cond.and c (allAtoms t)).before a st = _
    rw [Jvm.Cond.before_and, ih, List.all_cons]
def words1 : List Jvm.Cond := Jvm.Cond.code x code maxLocals ret :: tables_1
/-- a 'code' word, met by the world's own term for the bytes: nothing is compared byte by byte -/
theorem code_word {y : MethodName} {bytes : ByteArray} {mx : Nat} {rt : Option FieldType} {a : Array Value} {s : State} {m : MethodId} {meth : Method} {c : Code} (h1 : s.methodNamed? y = some m) (h2 : s.vm.method? m = some meth) (h3 : meth.code = some c) (h4 : c.code = bytes)
    (h5 : (c.maxLocals == mx && c.exceptionTable.isEmpty && decide (c.maxStack ≤ mostOperands) && decide (meth.sig.returnType = rt) && !meth.locks && decide (parseMethodDescriptor y.desc = some meth.sig)) = true) : (Jvm.Cond.code y bytes mx rt).before a s = true := by
  simp only [Bool.and_eq_true, beq_iff_eq, Bool.not_eq_true', decide_eq_true_eq] at h5
  obtain ⟨⟨⟨⟨⟨g1, g2⟩, g3⟩, g4⟩, g5⟩, g6⟩ := h5
  simp [Cond.before, Cond.holds, Cond.value, h1, h2, h3, h4, g1, g2, g3, g4, g5, g6]
def isCode : Jvm.Cond → Bool
  | .code _ _ _ _ => true
  | _ => false
theorem all_split {L : List Jvm.Cond} {P : Jvm.Cond → Bool} (h1 : L.all (fun c => isCode c || P c) = true) (h2 : ∀ c ∈ L.filter isCode, P c = true) : L.all P = true := by
  refine List.all_eq_true.mpr fun c hc => ?_
  have h := List.all_eq_true.mp h1 c hc
  rcases Bool.eq_false_or_eq_true (isCode c) with hi | hi
  · exact h2 c (List.mem_filter.mpr ⟨hc, hi⟩)
  · simpa [hi] using h
set_option maxRecDepth 65536 in
theorem w_c0 : (Jvm.Cond.code x code maxLocals ret).before args0 about1 = true := code_word (m := ⟨1, 2⟩) (meth := k1m2) (c := k1c2) (by decide +kernel) rfl rfl rfl (by decide +kernel)
set_option maxRecDepth 65536 in
theorem w_c1 : (Jvm.Cond.code ({ cls := "java/lang/Math", name := "max", desc := "(II)I" } : Jvm.MethodName) jdk_29_method_65_code (2 : Nat) (Option.some Jvm.ClassFile.FieldType.int)).before args0 about1 = true := code_word (m := ⟨2, 1⟩) (meth := k2m1) (c := k2c1) (by decide +kernel) rfl rfl rfl (by decide +kernel)
set_option maxRecDepth 65536 in
theorem w_c2 : (Jvm.Cond.code ({ cls := "com/example/wachter/wachter/model/Stamp", name := "<init>", desc := "(II)V" } : Jvm.MethodName) prog_35_method_1_code (3 : Nat) (Option.none : Option Jvm.ClassFile.FieldType)).before args0 about1 = true := code_word (m := ⟨3, 0⟩) (meth := k3m0) (c := k3c0) (by decide +kernel) rfl rfl rfl (by decide +kernel)
set_option maxRecDepth 65536 in
theorem w_c3 : (Jvm.Cond.code ({ cls := "java/lang/Object", name := "<init>", desc := "()V" } : Jvm.MethodName) object_method_1_code (1 : Nat) (Option.none : Option Jvm.ClassFile.FieldType)).before args0 about1 = true := code_word (m := ⟨0, 0⟩) (meth := k0m0) (c := k0c0) (by decide +kernel) rfl rfl rfl (by decide +kernel)
set_option maxRecDepth 65536 in
theorem w_c4 : (Jvm.Cond.code ({ cls := "com/example/wachter/wachter/model/Message", name := "requireMember", desc := "(I)I" } : Jvm.MethodName) prog_26_method_3_code (1 : Nat) (Option.some Jvm.ClassFile.FieldType.int)).before args0 about1 = true := code_word (m := ⟨4, 0⟩) (meth := k4m0) (c := k4c0) (by decide +kernel) rfl rfl rfl (by decide +kernel)
set_option maxRecDepth 65536 in
theorem w_c5 : (Jvm.Cond.code ({ cls := "com/example/wachter/wachter/model/StampBeatsPinLaw", name := "key", desc := "(II)J" } : Jvm.MethodName) method_2_code (2 : Nat) (Option.some Jvm.ClassFile.FieldType.long)).before args0 about1 = true := code_word (m := ⟨1, 1⟩) (meth := k1m1) (c := k1c1) (by decide +kernel) rfl rfl rfl (by decide +kernel)
set_option maxRecDepth 65536 in
theorem w_c6 : (Jvm.Cond.code ({ cls := "com/example/wachter/wachter/model/Stamp", name := "beats", desc := "(Lcom/example/wachter/wachter/model/Stamp;)Z" } : Jvm.MethodName) prog_35_method_4_code (2 : Nat) (Option.some Jvm.ClassFile.FieldType.boolean)).before args0 about1 = true := code_word (m := ⟨3, 1⟩) (meth := k3m1) (c := k3c1) (by decide +kernel) rfl rfl rfl (by decide +kernel)
def codes1 : List Jvm.Cond := [Jvm.Cond.code x code maxLocals ret, Jvm.Cond.code ({ cls := "java/lang/Math", name := "max", desc := "(II)I" } : Jvm.MethodName) jdk_29_method_65_code (2 : Nat) (Option.some Jvm.ClassFile.FieldType.int), Jvm.Cond.code ({ cls := "com/example/wachter/wachter/model/Stamp", name := "<init>", desc := "(II)V" } : Jvm.MethodName) prog_35_method_1_code (3 : Nat) (Option.none : Option Jvm.ClassFile.FieldType), Jvm.Cond.code ({ cls := "java/lang/Object", name := "<init>", desc := "()V" } : Jvm.MethodName) object_method_1_code (1 : Nat) (Option.none : Option Jvm.ClassFile.FieldType), Jvm.Cond.code ({ cls := "com/example/wachter/wachter/model/Message", name := "requireMember", desc := "(I)I" } : Jvm.MethodName) prog_26_method_3_code (1 : Nat) (Option.some Jvm.ClassFile.FieldType.int), Jvm.Cond.code ({ cls := "com/example/wachter/wachter/model/StampBeatsPinLaw", name := "key", desc := "(II)J" } : Jvm.MethodName) method_2_code (2 : Nat) (Option.some Jvm.ClassFile.FieldType.long), Jvm.Cond.code ({ cls := "com/example/wachter/wachter/model/Stamp", name := "beats", desc := "(Lcom/example/wachter/wachter/model/Stamp;)Z" } : Jvm.MethodName) prog_35_method_4_code (2 : Nat) (Option.some Jvm.ClassFile.FieldType.boolean)]
set_option maxRecDepth 65536 in
theorem codes_eq : words1.filter isCode = codes1 := rfl
theorem w_codes : ∀ c ∈ words1.filter isCode, c.before args0 about1 = true := by
  rw [codes_eq]
  intro c hc
  simp only [codes1, List.mem_cons, List.not_mem_nil, or_false] at hc
  rcases hc with rfl | rfl | rfl | rfl | rfl | rfl | rfl
  · exact w_c0
  · exact w_c1
  · exact w_c2
  · exact w_c3
  · exact w_c4
  · exact w_c5
  · exact w_c6
set_option maxRecDepth 65536 in
theorem w_t1 : (words1.take 24).all (fun c => isCode c || c.before args0 about1) = true := by decide +kernel
set_option maxRecDepth 65536 in
theorem w_t2 : (words1.drop 24).all (fun c => isCode c || c.before args0 about1) = true := by decide +kernel
theorem w_tables : (allAtoms (Jvm.Cond.code x code maxLocals ret :: tables_1)).before args0 about1 = true := by
  rw [allAtoms_all]
  show words1.all (fun c => c.before args0 about1) = true
  refine all_split ?_ w_codes
  rw [← List.take_append_drop 24 words1, List.all_append, w_t1, w_t2]
  rfl
set_option maxRecDepth 65536 in
theorem w_case : (Jvm.Cond.and given_1 narrow_1).before args0 about1 = true := by decide +kernel
theorem w_applies : (headSpec (Jvm.Cond.code x code maxLocals ret :: tables_1) room_1).applies x e0.platform about1 = true :=
  (Spec.applies_iff w_frames).mpr ⟨w_running, w_runnable, w_alone, w_named, w_hears, w_ripe, w_room, w_tables⟩
theorem atStart : AtStart classFile x code maxLocals ret World_1 tables_1 room_1 Calls_1 rest_1 Pre_1 launch0 p0 e0 about1 theMethod args0 below0 :=
  ⟨lists_1, trivial, launch0.admits_env _ _ _, launch0.least_env, fairChoices_fair.cas, fairChoices_fair.clock, w_frames, w_args, w_heap, w_applies, trivial, trivial, w_case⟩
end start1
theorem witness_1 : WitnessClaimed_1 := ⟨start1.p0, start1.e0, start1.about1, start1.theMethod, start1.args0, start1.below0, start1.atStart⟩
end Jvm.Pilot.@@N@@
