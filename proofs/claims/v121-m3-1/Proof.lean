import JvmDerived
import JvmDerived.Pilot.@@N@@Statement
import JvmDerived.Pilot.@@N@@Code
set_option linter.unusedVariables false
set_option linter.unusedSimpArgs false
@@BLOCK:NumsL.lean.txt@@
namespace Jvm.RoadKit
open Sem ClassFile Op Lib Jvm.Stand Jvm.Free Jvm.LawKit
section New
variable {p : Program} {l : Launch} {e : Env} {R : Room} {s : State} {m : MethodId} {args : Array Value} {below : List Frame} {meth : Method} {c : Code} {T : State} {locs : List Loc} {cells slots : Nat}
theorem retI (X : Stand p l e R s m args below meth c T locs cells slots) (hx : p.tables.exec = Jvm.exec) {pc : Nat} {Ls : Array Slot} {z : Int32} {rest : List Value} (hret : meth.sig.returnType = some .int) (hd : decode c.code pc = .ok (.ireturn, 1)) {fs : List Frame}
    (hl : ∀ (f : JFrame) (acts : List Action), f.method = m → f.locked = none → f.entered = [] → (doReturn e (T.setTop f) acts (some (.int z))).1 = T.setFrames fs) : Steps p.tables e below (T.setTop (mkF m pc Ls (.int z :: rest))) (T.setFrames fs) := by
  have hm' : T.vm.method? m = some meth := X.method'
  have hn : narrow .int (.int z) = .int z := rfl
  show Steps p.tables e below (T.setTop { method := m, pc := pc, locals := Ls, stack := _ :: rest, locked := none }) _
  jvm_step X.here [X.here.top, hx, hd, hm', hret, hn]
  first | (intro acts; rw [hl _ acts rfl rfl rfl]) | rw [hl _ _ rfl rfl rfl]
  exact Steps.refl _
end New
end Jvm.RoadKit
namespace Jvm.Pilot.@@N@@
open Jvm Jvm.ClassFile Sem Op Lib Jvm.Free Jvm.Stand Jvm.LawKit Jvm.RoadKit Bundle Jvm.Pilot.@@N@@.Jvm.D


theorem own_mask (x : Int64) : 0 ≤ (x &&& (9223372036854775807 : Int64)).toInt := by
  have e : (x &&& (9223372036854775807 : Int64)).toInt = x.toInt % 2 ^ 63 := Jvm.Kit.i64_mask x 9223372036854775807 (k := 63) (by decide) (by decide)
  omega
theorem own_M : (9223372036854775807 : Int64).toInt = 9223372036854775807 := by decide
theorem own_1 : (1 : Int64).toInt = 1 := by decide
theorem own_ne {w : Int64} (h : 1 ≤ w.toInt) : w ≠ (0 : Int64) := fun e => by rw [e] at h; exact absurd h (by decide)
theorem own_up (x m : Int64) (hm : 1 ≤ m.toInt) : (1 : Int64).toInt ≤ ((1 : Int64) + (((x &&& (9223372036854775807 : Int64)) - ((x &&& (9223372036854775807 : Int64)) / m) * m))).toInt ∧ ((1 : Int64) + (((x &&& (9223372036854775807 : Int64)) - ((x &&& (9223372036854775807 : Int64)) / m) * m))).toInt ≤ m.toInt := by
  have h0 := own_mask x
  have hr : ((x &&& (9223372036854775807 : Int64)) - ((x &&& (9223372036854775807 : Int64)) / m) * m).toInt = (x &&& (9223372036854775807 : Int64)).toInt % m.toInt := Jvm.Kit.i64_rem_nonneg h0
  have h1 := Int.emod_nonneg (x &&& (9223372036854775807 : Int64)).toInt (b := m.toInt) (by omega)
  have h2 := Int.emod_lt_of_pos (x &&& (9223372036854775807 : Int64)).toInt (b := m.toInt) (by omega)
  have h3 := Int64.toInt_lt m
  have ha : ((1 : Int64) + (((x &&& (9223372036854775807 : Int64)) - ((x &&& (9223372036854775807 : Int64)) / m) * m))).toInt = 1 + (x &&& (9223372036854775807 : Int64)).toInt % m.toInt := by
    rw [Jvm.Kit.i64_add, hr, own_1]
    · rw [hr, own_1]; omega
    · rw [hr, own_1]; omega
  rw [ha, own_1]
  omega
theorem own_w {q1 w : Int64} {v4 : Int32} (h : w = (if v4 = (0 : Int32) then (1 : Int64) else (if v4 = (1 : Int32) then (9223372036854775807 : Int64) else ((1 : Int64) + ((q1 &&& (9223372036854775807 : Int64)) - ((q1 &&& (9223372036854775807 : Int64)) / (9223372036854775807 : Int64)) * (9223372036854775807 : Int64)))))) : 1 ≤ w.toInt := by
  rw [h]
  split
  · decide
  · split
    · decide
    · exact (own_up q1 _ (by decide)).1
theorem own_div {w m : Int64} (hw : 1 ≤ w.toInt) (h : m = ((9223372036854775807 : Int64) / w)) : m.toInt = 9223372036854775807 / w.toInt := by
  rw [h, Jvm.Kit.i64_div (fun q => by omega), own_M, Int.tdiv_eq_ediv_of_nonneg (by decide)]
theorem own_m {w m : Int64} (hw : 1 ≤ w.toInt) (h : m = ((9223372036854775807 : Int64) / w)) : 1 ≤ m.toInt := by
  rw [own_div hw h]
  have h3 := Int64.toInt_lt w
  have := (Int.le_ediv_iff_mul_le (c := w.toInt) (a := 1) (b := 9223372036854775807) (by omega)).mpr (by omega)
  exact this
theorem own_d {q2 d m : Int64} {v12 : Int32} (hm : 1 ≤ m.toInt) (h : d = (if v12 = (0 : Int32) then (1 : Int64) else (if v12 = (1 : Int32) then m else ((1 : Int64) + ((q2 &&& (9223372036854775807 : Int64)) - ((q2 &&& (9223372036854775807 : Int64)) / m) * m))))) : 1 ≤ d.toInt ∧ d.toInt ≤ m.toInt := by
  rw [h]
  split
  · exact ⟨by decide, hm⟩
  · split
    · exact ⟨hm, Int.le_refl _⟩
    · exact own_up q2 m hm
theorem own_p1 {d m : Int64} (hd : 1 ≤ d.toInt ∧ d.toInt ≤ m.toInt) : ¬ d < (1 : Int64) := by
  rw [Int64.lt_iff_toInt_lt, own_1]; omega
theorem own_p2 {d m w : Int64} (h : m = ((9223372036854775807 : Int64) / w)) (hd : 1 ≤ d.toInt ∧ d.toInt ≤ m.toInt) : ¬ ((9223372036854775807 : Int64) / w) < d := by
  rw [← h, Int64.lt_iff_toInt_lt]; omega
theorem own_law {d m w t : Int64} {z : Int32} (hw : 1 ≤ w.toInt) (h : m = ((9223372036854775807 : Int64) / w)) (hd : 1 ≤ d.toInt ∧ d.toInt ≤ m.toInt) (ht : t = (d * w))
    (hz : z = (if d < (1 : Int64) then (0 : Int32) else (if t < d then (0 : Int32) else (if (t / w) = d then (1 : Int32) else (0 : Int32))))) : z = 1 := by
  have em := own_div hw h
  rw [em] at hd
  have h1 : d.toInt * w.toInt ≤ 9223372036854775807 := (Int.le_ediv_iff_mul_le (by omega)).mp hd.2
  have h2 : d.toInt * 1 ≤ d.toInt * w.toInt := Int.mul_le_mul_of_nonneg_left hw (by omega)
  have et : t.toInt = d.toInt * w.toInt := by rw [ht]; exact Jvm.Kit.i64_mul (by omega) (by omega)
  have ed : (t / w) = d := by
    apply Int64.toInt_inj.mp
    rw [Jvm.Kit.i64_div (fun q => by omega), et, Int.mul_tdiv_cancel _ (by omega)]
  rw [hz, if_neg, if_neg, if_pos ed]
  · rw [Int64.lt_iff_toInt_lt]; omega
  · rw [Int64.lt_iff_toInt_lt, own_1]; omega

theorem d1_0 : decode prog_9_method_3_code 0 = .ok (.ldc2_w 18, 3) := by decide +kernel
theorem d1_3 : decode prog_9_method_3_code 3 = .ok (.lload_n 2, 1) := by decide +kernel
theorem d1_4 : decode prog_9_method_3_code 4 = .ok (.ldiv, 1) := by decide +kernel
theorem d1_5 : decode prog_9_method_3_code 5 = .ok (.lstore 4, 2) := by decide +kernel
theorem d1_7 : decode prog_9_method_3_code 7 = .ok (.lload_n 0, 1) := by decide +kernel
theorem d1_8 : decode prog_9_method_3_code 8 = .ok (.lconst 1, 1) := by decide +kernel
theorem d1_9 : decode prog_9_method_3_code 9 = .ok (.lcmp, 1) := by decide +kernel
theorem d1_10 : decode prog_9_method_3_code 10 = .ok (.ifCond .lt 10, 3) := by decide +kernel
theorem d1_13 : decode prog_9_method_3_code 13 = .ok (.lload_n 0, 1) := by decide +kernel
theorem d1_14 : decode prog_9_method_3_code 14 = .ok (.lload 4, 2) := by decide +kernel
theorem d1_16 : decode prog_9_method_3_code 16 = .ok (.lcmp, 1) := by decide +kernel
theorem d1_17 : decode prog_9_method_3_code 17 = .ok (.ifCond .le 19, 3) := by decide +kernel
theorem d1_36 : decode prog_9_method_3_code 36 = .ok (.return_, 1) := by decide +kernel
theorem pn_0 : plainName "com/example/wachter/wachter/algorithm/StartingState" = true := by first | (simp [plainName, overriddenIn]; done) | decide +kernel
theorem pn_1 : plainName "com/example/wachter/wachter/algorithm/StartingStateRequireDelayPinLaw" = true := by first | (simp [plainName, overriddenIn]; done) | decide +kernel
theorem pd_0 : parseMethodDescriptor "(JJ)V" = some ⟨[.long, .long], none⟩ := by decide +kernel
def Q1 (Z : State) (q1 : Int64) (q2 : Int64) (h0 : Heap) (n0 : Nat) (v : Option Value) (h : Heap) (L : List Loc) : Prop := v = none ∧ Fr n0 L ∧ h = h0
theorem ef_1 (m : MethodId) (q1 : Int64) (q2 : Int64) : entryFrame m #[(.long q1), (.long q2)] 6 = mkF m 0 #[.val (.long q1), .second, .val (.long q2), .second, .unset, .unset] [] := by first | (simp [entryFrame, mkF, argsToLocals, Value.category]; done) | rfl
set_option maxRecDepth 65536 in
set_option maxHeartbeats 40000000 in
theorem rm1 (l : Launch) (Z : State) (a0 : Array Value) (hw : ∀ d ∈ tables_1, d.before a0 Z = true) (ws : List Jvm.Cond) (q1 : Int64) (q2 : Int64) (h0 : Heap) (n0 : Nat) (Zs : n0 ≤ h0.size) (hp0 : q2 ≠ (0 : Int64)) (hp1 : ¬ q1 < (1 : Int64)) (hp2 : ¬ ((9223372036854775807 : Int64) / q2) < q1) :
    MetFree l (⟨"com/example/wachter/wachter/algorithm/StartingState", "requireDelay", "(JJ)V"⟩ : MethodName) (head1 (Jvm.Cond.code (⟨"com/example/wachter/wachter/algorithm/StartingState", "requireDelay", "(JJ)V"⟩ : MethodName) prog_9_method_3_code 6 none :: ws) ({ frames := 0, cells := 0, slots := 0, locals := 0 } : Room)) (fun a U => a = #[(.long q1), (.long q2)] ∧ Z.Warmed39 U.vm ∧ U.heap = h0) (fun _ _ _ _ _ => True) (fun _ U o U' => ∃ v L, o = .returned v ∧ Q1 Z q1 q2 h0 n0 v U'.heap L ∧ FrameEnd U o U' L ({ frames := 0, cells := 0, slots := 0, locals := 0 } : Room).cells ({ frames := 0, cells := 0, slots := 0, locals := 0 } : Room).slots) := by
  refine MetFree.of_bodySF (plainFor_of_name pn_0) hisR ?_
  intro p e s m args below meth c s₁ Bd hml0 hP hK
  obtain ⟨rfl, hZ, hh⟩ := hP
  have hx := Bd.exec
  have hby := Bd.bytes
  have hml : c.maxLocals = 6 := hml0
  have hown : s.vm.findClass "com/example/wachter/wachter/algorithm/StartingState" = some m.cls := findClass_of_methodNamed Bd.named
  have hnm := (name_of_methodNamed Bd.named Bd.method).1
  have X0 : Stand p l e ({ frames := 0, cells := 0, slots := 0, locals := 0 } : Room) s m #[(.long q1), (.long q2)] below meth c s₁ [] 0 0 := Stand.of_body Bd
  have e0 : s₁.heap = h0 := by rw [← hh, Bd.state]; rfl
  have N0 := Fr.nil n0
  have pre0 : ∀ t, Steps p.tables e below (s₁.setTop (mkF m 0 #[.val (.long q1), .second, .val (.long q2), .second, .unset, .unset] [])) t → Steps p.tables e below (s₁.setTop (entryFrame m #[(.long q1), (.long q2)] 6)) t := fun t k => castTop (ef_1 m q1 q2) k
  obtain ⟨fs, hr, hrun, hended, hW, hsame⟩ := X0.leave (v := none) (fun _ => rfl)
  refine ⟨_, _, pre0 _ ?_, hrun, hended, _, _, rfl, ?_, ⟨_, rfl⟩, hW, hsame.mono (by decide) (by decide)⟩
  · show Steps p.tables e below (s₁.setTop (mkF m 0 #[.val (.long q1), .second, .val (.long q2), .second, .unset, .unset] [])) _
    refine X0.ldc2Long hx hown (mvT hZ (hw _ (List.mem_of_getElem? (i := 5) rfl))) (g := (mkF m 0 #[.val (.long q1), .second, .val (.long q2), .second, .unset, .unset] [])) rfl (hb hby d1_0) _ ?_
    show Steps p.tables e below (s₁.setTop (mkF m 3 #[.val (.long q1), .second, .val (.long q2), .second, .unset, .unset] [(.long (9223372036854775807 : Int64))])) _
    refine XS.lloadN X0.here hx rfl (hb hby d1_3) rfl ?_
    show Steps p.tables e below (s₁.setTop (mkF m 4 #[.val (.long q1), .second, .val (.long q2), .second, .unset, .unset] [(.long q2), (.long (9223372036854775807 : Int64))])) _
    refine XS.ldiv X0.here hx rfl (hb hby d1_4) rfl hp0 ?_
    show Steps p.tables e below (s₁.setTop (mkF m 5 #[.val (.long q1), .second, .val (.long q2), .second, .unset, .unset] [(.long ((9223372036854775807 : Int64) / q2))])) _
    refine XS.lstore X0.here hx rfl (hb hby d1_5) rfl (l' := #[.val (.long q1), .second, .val (.long q2), .second, .val (.long ((9223372036854775807 : Int64) / q2)), .second]) rfl ?_
    show Steps p.tables e below (s₁.setTop (mkF m 7 #[.val (.long q1), .second, .val (.long q2), .second, .val (.long ((9223372036854775807 : Int64) / q2)), .second] [])) _
    refine XS.lloadN X0.here hx rfl (hb hby d1_7) rfl ?_
    show Steps p.tables e below (s₁.setTop (mkF m 8 #[.val (.long q1), .second, .val (.long q2), .second, .val (.long ((9223372036854775807 : Int64) / q2)), .second] [(.long q1)])) _
    refine XS.lconst X0.here hx rfl (hb hby d1_8) ?_
    show Steps p.tables e below (s₁.setTop (mkF m 9 #[.val (.long q1), .second, .val (.long q2), .second, .val (.long ((9223372036854775807 : Int64) / q2)), .second] [(.long (1 : Int64)), (.long q1)])) _
    refine XS.lcmp X0.here hx rfl (hb hby d1_9) rfl ?_
    show Steps p.tables e below (s₁.setTop (mkF m 10 #[.val (.long q1), .second, .val (.long q2), .second, .val (.long ((9223372036854775807 : Int64) / q2)), .second] [(.int (lcmpW q1 (1 : Int64)))])) _
    refine XS.ifNo X0.here hx rfl (hb hby d1_10) rfl ((if0 _ _).trans (flt (fun q => hp1 ((lw_lt q1 (1 : Int64)).mp q))).1) ?_
    show Steps p.tables e below (s₁.setTop (mkF m 13 #[.val (.long q1), .second, .val (.long q2), .second, .val (.long ((9223372036854775807 : Int64) / q2)), .second] [])) _
    refine XS.lloadN X0.here hx rfl (hb hby d1_13) rfl ?_
    show Steps p.tables e below (s₁.setTop (mkF m 14 #[.val (.long q1), .second, .val (.long q2), .second, .val (.long ((9223372036854775807 : Int64) / q2)), .second] [(.long q1)])) _
    refine XS.lload X0.here hx rfl (hb hby d1_14) rfl ?_
    show Steps p.tables e below (s₁.setTop (mkF m 16 #[.val (.long q1), .second, .val (.long q2), .second, .val (.long ((9223372036854775807 : Int64) / q2)), .second] [(.long ((9223372036854775807 : Int64) / q2)), (.long q1)])) _
    refine XS.lcmp X0.here hx rfl (hb hby d1_16) rfl ?_
    show Steps p.tables e below (s₁.setTop (mkF m 17 #[.val (.long q1), .second, .val (.long q2), .second, .val (.long ((9223372036854775807 : Int64) / q2)), .second] [(.int (lcmpW q1 ((9223372036854775807 : Int64) / q2)))])) _
    refine XS.ifYes X0.here hx rfl (pc0 := 17) (pc' := 36) rfl (hb hby d1_17) rfl ((if0 _ _).trans (flt (fun q => hp2 ((lw_gt q1 ((9223372036854775807 : Int64) / q2)).mp q))).2.2.2) (by decide) (by decide) ?_
    show Steps p.tables e below (s₁.setTop (mkF m 36 #[.val (.long q1), .second, .val (.long q2), .second, .val (.long ((9223372036854775807 : Int64) / q2)), .second] [])) _
    exact X0.returnOut hx Bd.returns (hb hby d1_36) hr
  · show Q1 Z q1 q2 h0 n0 _ s₁.heap _
    rw [e0]
    exact ⟨rfl, N0, rfl⟩
def Q0 (Z : State) (q1 : Int64) (q2 : Int64) (p3 : Int32) (h0 : Heap) (n0 : Nat) (v : Option Value) (h : Heap) (L : List Loc) : Prop := v = some (.int (1 : Int32)) ∧ Fr n0 L
theorem ef_0 (m : MethodId) (q1 : Int64) (q2 : Int64) (p3 : Int32) : entryFrame m #[(.long q1), (.long q2), (.int p3)] maxLocals = mkF m 0 #[.val (.long q1), .second, .val (.long q2), .second, .val (.int p3), .unset, .unset, .unset, .unset, .unset, .unset, .unset, .unset, .unset, .unset] [] := by first | (simp [entryFrame, mkF, argsToLocals, Value.category, maxLocals]; done) | rfl
set_option maxRecDepth 65536 in
set_option maxHeartbeats 40000000 in
theorem rm0 (l : Launch) (Z : State) (a0 : Array Value) (hw : ∀ d ∈ tables_1, d.before a0 Z = true) (ws : List Jvm.Cond) (q1 : Int64) (q2 : Int64) (p3 : Int32) (h0 : Heap) (n0 : Nat) (Zs : n0 ≤ h0.size)  :
    MetFree l x (head1 (Jvm.Cond.code x code maxLocals ret :: ws) room_1) (fun a U => a = #[(.long q1), (.long q2), (.int p3)] ∧ Z.Warmed39 U.vm ∧ U.heap = h0) (fun _ _ _ _ _ => True) (fun _ U o U' => ∃ v L, o = .returned v ∧ Q0 Z q1 q2 p3 h0 n0 v U'.heap L ∧ FrameEnd U o U' L room_1.cells room_1.slots) := by
  refine MetFree.of_bodySF (plainFor_of_name pn_1) hisR ?_
  intro p e s m args below meth c s₁ Bd hml0 hP hK
  obtain ⟨rfl, hZ, hh⟩ := hP
  have hx := Bd.exec
  have hby := Bd.bytes
  have hml : c.maxLocals = 15 := hml0
  have hown : s.vm.findClass "com/example/wachter/wachter/algorithm/StartingStateRequireDelayPinLaw" = some m.cls := findClass_of_methodNamed Bd.named
  have hnm := (name_of_methodNamed Bd.named Bd.method).1
  have X0 : Stand p l e room_1 s m #[(.long q1), (.long q2), (.int p3)] below meth c s₁ [] 0 0 := Stand.of_body Bd
  have e0 : s₁.heap = h0 := by rw [← hh, Bd.state]; rfl
  have N0 := Fr.nil n0
  have pre0 : ∀ t, Steps p.tables e below (s₁.setTop (mkF m 0 #[.val (.long q1), .second, .val (.long q2), .second, .val (.int p3), .unset, .unset, .unset, .unset, .unset, .unset, .unset, .unset, .unset, .unset] [])) t → Steps p.tables e below (s₁.setTop (entryFrame m #[(.long q1), (.long q2), (.int p3)] maxLocals)) t := fun t k => castTop (ef_0 m q1 q2 p3) k
  obtain ⟨v4, hv4⟩ : ∃ z : Int32, z = (p3 &&& (3 : Int32)) := ⟨_, rfl⟩
  have pre1 : ∀ t, Steps p.tables e below (s₁.setTop (mkF m 6 #[.val (.long q1), .second, .val (.long q2), .second, .val (.int p3), .val (.int v4), .unset, .unset, .unset, .unset, .unset, .unset, .unset, .unset, .unset] [])) t → Steps p.tables e below (s₁.setTop (entryFrame m #[(.long q1), (.long q2), (.int p3)] maxLocals)) t := fun t k => pre0 t (by
    show Steps p.tables e below (s₁.setTop (mkF m 0 #[.val (.long q1), .second, .val (.long q2), .second, .val (.int p3), .unset, .unset, .unset, .unset, .unset, .unset, .unset, .unset, .unset, .unset] [])) _
    refine XS.iload X0.here hx rfl (hb hby at_0) rfl ?_
    show Steps p.tables e below (s₁.setTop (mkF m 2 #[.val (.long q1), .second, .val (.long q2), .second, .val (.int p3), .unset, .unset, .unset, .unset, .unset, .unset, .unset, .unset, .unset, .unset] [(.int p3)])) _
    refine XS.iconst X0.here hx rfl (hb hby at_2) ?_
    show Steps p.tables e below (s₁.setTop (mkF m 3 #[.val (.long q1), .second, .val (.long q2), .second, .val (.int p3), .unset, .unset, .unset, .unset, .unset, .unset, .unset, .unset, .unset, .unset] [(.int (3 : Int32)), (.int p3)])) _
    refine XS.iand X0.here hx rfl (hb hby at_3) rfl ?_
    show Steps p.tables e below (s₁.setTop (mkF m 4 #[.val (.long q1), .second, .val (.long q2), .second, .val (.int p3), .unset, .unset, .unset, .unset, .unset, .unset, .unset, .unset, .unset, .unset] [(.int (p3 &&& (3 : Int32)))])) _
    refine XS.istore X0.here hx rfl (hb hby at_4) rfl (l' := #[.val (.long q1), .second, .val (.long q2), .second, .val (.int p3), .val (.int (p3 &&& (3 : Int32))), .unset, .unset, .unset, .unset, .unset, .unset, .unset, .unset, .unset]) rfl ?_
    rw [hv4] at k
    exact k)
  obtain ⟨v12, hv12⟩ : ∃ z : Int32, z = (((p3.toUInt32 >>> ((2 : Int32) &&& 31).toUInt32).toInt32) &&& (3 : Int32)) := ⟨_, rfl⟩
  have pre2 : ∀ t, Steps p.tables e below (s₁.setTop (mkF m 14 #[.val (.long q1), .second, .val (.long q2), .second, .val (.int p3), .val (.int v4), .val (.int v12), .unset, .unset, .unset, .unset, .unset, .unset, .unset, .unset] [])) t → Steps p.tables e below (s₁.setTop (entryFrame m #[(.long q1), (.long q2), (.int p3)] maxLocals)) t := fun t k => pre1 t (by
    show Steps p.tables e below (s₁.setTop (mkF m 6 #[.val (.long q1), .second, .val (.long q2), .second, .val (.int p3), .val (.int v4), .unset, .unset, .unset, .unset, .unset, .unset, .unset, .unset, .unset] [])) _
    refine XS.iload X0.here hx rfl (hb hby at_6) rfl ?_
    show Steps p.tables e below (s₁.setTop (mkF m 8 #[.val (.long q1), .second, .val (.long q2), .second, .val (.int p3), .val (.int v4), .unset, .unset, .unset, .unset, .unset, .unset, .unset, .unset, .unset] [(.int p3)])) _
    refine XS.iconst X0.here hx rfl (hb hby at_8) ?_
    show Steps p.tables e below (s₁.setTop (mkF m 9 #[.val (.long q1), .second, .val (.long q2), .second, .val (.int p3), .val (.int v4), .unset, .unset, .unset, .unset, .unset, .unset, .unset, .unset, .unset] [(.int (2 : Int32)), (.int p3)])) _
    refine XS.iushr X0.here hx rfl (hb hby at_9) rfl ?_
    show Steps p.tables e below (s₁.setTop (mkF m 10 #[.val (.long q1), .second, .val (.long q2), .second, .val (.int p3), .val (.int v4), .unset, .unset, .unset, .unset, .unset, .unset, .unset, .unset, .unset] [(.int ((p3.toUInt32 >>> ((2 : Int32) &&& 31).toUInt32).toInt32))])) _
    refine XS.iconst X0.here hx rfl (hb hby at_10) ?_
    show Steps p.tables e below (s₁.setTop (mkF m 11 #[.val (.long q1), .second, .val (.long q2), .second, .val (.int p3), .val (.int v4), .unset, .unset, .unset, .unset, .unset, .unset, .unset, .unset, .unset] [(.int (3 : Int32)), (.int ((p3.toUInt32 >>> ((2 : Int32) &&& 31).toUInt32).toInt32))])) _
    refine XS.iand X0.here hx rfl (hb hby at_11) rfl ?_
    show Steps p.tables e below (s₁.setTop (mkF m 12 #[.val (.long q1), .second, .val (.long q2), .second, .val (.int p3), .val (.int v4), .unset, .unset, .unset, .unset, .unset, .unset, .unset, .unset, .unset] [(.int (((p3.toUInt32 >>> ((2 : Int32) &&& 31).toUInt32).toInt32) &&& (3 : Int32)))])) _
    refine XS.istore X0.here hx rfl (hb hby at_12) rfl (l' := #[.val (.long q1), .second, .val (.long q2), .second, .val (.int p3), .val (.int v4), .val (.int (((p3.toUInt32 >>> ((2 : Int32) &&& 31).toUInt32).toInt32) &&& (3 : Int32))), .unset, .unset, .unset, .unset, .unset, .unset, .unset, .unset]) rfl ?_
    rw [hv12] at k
    exact k)
  have pre3 : ∀ t, Steps p.tables e below (s₁.setTop (mkF m 16 #[.val (.long q1), .second, .val (.long q2), .second, .val (.int p3), .val (.int v4), .val (.int v12), .unset, .unset, .unset, .unset, .unset, .unset, .unset, .unset] [(.int v4)])) t → Steps p.tables e below (s₁.setTop (entryFrame m #[(.long q1), (.long q2), (.int p3)] maxLocals)) t := fun t k => pre2 t (by
    show Steps p.tables e below (s₁.setTop (mkF m 14 #[.val (.long q1), .second, .val (.long q2), .second, .val (.int p3), .val (.int v4), .val (.int v12), .unset, .unset, .unset, .unset, .unset, .unset, .unset, .unset] [])) _
    refine XS.iload X0.here hx rfl (hb hby at_14) rfl ?_
    exact k)
  obtain ⟨z52_l7, hz52_l7⟩ : ∃ z : Int64, z = (if v4 = (0 : Int32) then (1 : Int64) else (if v4 = (1 : Int32) then (9223372036854775807 : Int64) else ((1 : Int64) + ((q1 &&& (9223372036854775807 : Int64)) - ((q1 &&& (9223372036854775807 : Int64)) / (9223372036854775807 : Int64)) * (9223372036854775807 : Int64))))) := ⟨_, rfl⟩
  obtain ⟨T8, Lc8, X8, e8, N8, pre8⟩ : ∃ (T' : State) (locs' : List Loc), Stand p l e room_1 s m #[(.long q1), (.long q2), (.int p3)] below meth c T' locs' 0 0 ∧ T'.heap = h0 ∧ Fr n0 locs' ∧ ∀ t, Steps p.tables e below (T'.setTop (mkF m 52 #[.val (.long q1), .second, .val (.long q2), .second, .val (.int p3), .val (.int v4), .val (.int v12), .val (.long z52_l7), .second, .unset, .unset, .unset, .unset, .unset, .unset] [])) t → Steps p.tables e below (s₁.setTop (entryFrame m #[(.long q1), (.long q2), (.int p3)] maxLocals)) t := by
    by_cases hc16 : v4 = (0 : Int32)
    ·
      have pre4 : ∀ t, Steps p.tables e below (s₁.setTop (mkF m 52 #[.val (.long q1), .second, .val (.long q2), .second, .val (.int p3), .val (.int v4), .val (.int v12), .val (.long (1 : Int64)), .second, .unset, .unset, .unset, .unset, .unset, .unset] [])) t → Steps p.tables e below (s₁.setTop (entryFrame m #[(.long q1), (.long q2), (.int p3)] maxLocals)) t := fun t k => pre3 t (by
        show Steps p.tables e below (s₁.setTop (mkF m 16 #[.val (.long q1), .second, .val (.long q2), .second, .val (.int p3), .val (.int v4), .val (.int v12), .unset, .unset, .unset, .unset, .unset, .unset, .unset, .unset] [(.int v4)])) _
        refine XS.ifNo X0.here hx rfl (hb hby at_16) rfl ((if0 _ _).trans (teq hc16).2) ?_
        show Steps p.tables e below (s₁.setTop (mkF m 19 #[.val (.long q1), .second, .val (.long q2), .second, .val (.int p3), .val (.int v4), .val (.int v12), .unset, .unset, .unset, .unset, .unset, .unset, .unset, .unset] [])) _
        refine XS.lconst X0.here hx rfl (hb hby at_19) ?_
        show Steps p.tables e below (s₁.setTop (mkF m 20 #[.val (.long q1), .second, .val (.long q2), .second, .val (.int p3), .val (.int v4), .val (.int v12), .unset, .unset, .unset, .unset, .unset, .unset, .unset, .unset] [(.long (1 : Int64))])) _
        refine XS.lstore X0.here hx rfl (hb hby at_20) rfl (l' := #[.val (.long q1), .second, .val (.long q2), .second, .val (.int p3), .val (.int v4), .val (.int v12), .val (.long (1 : Int64)), .second, .unset, .unset, .unset, .unset, .unset, .unset]) rfl ?_
        show Steps p.tables e below (s₁.setTop (mkF m 22 #[.val (.long q1), .second, .val (.long q2), .second, .val (.int p3), .val (.int v4), .val (.int v12), .val (.long (1 : Int64)), .second, .unset, .unset, .unset, .unset, .unset, .unset] [])) _
        refine XS.goto X0.here hx rfl (pc0 := 22) (pc' := 52) rfl (hb hby at_22) (by decide) (by decide) ?_
        exact k)
      have q_z52_l7 : z52_l7 = (1 : Int64) := by rw [hz52_l7, if_pos hc16]
      refine ⟨_, _, X0, e0, N0, fun t k => ?_⟩
      rw [q_z52_l7] at k
      exact pre4 t k
    ·
      have pre5 : ∀ t, Steps p.tables e below (s₁.setTop (mkF m 28 #[.val (.long q1), .second, .val (.long q2), .second, .val (.int p3), .val (.int v4), .val (.int v12), .unset, .unset, .unset, .unset, .unset, .unset, .unset, .unset] [(.int (1 : Int32)), (.int v4)])) t → Steps p.tables e below (s₁.setTop (entryFrame m #[(.long q1), (.long q2), (.int p3)] maxLocals)) t := fun t k => pre3 t (by
        show Steps p.tables e below (s₁.setTop (mkF m 16 #[.val (.long q1), .second, .val (.long q2), .second, .val (.int p3), .val (.int v4), .val (.int v12), .unset, .unset, .unset, .unset, .unset, .unset, .unset, .unset] [(.int v4)])) _
        refine XS.ifYes X0.here hx rfl (pc0 := 16) (pc' := 25) rfl (hb hby at_16) rfl ((if0 _ _).trans (feq hc16).2) (by decide) (by decide) ?_
        show Steps p.tables e below (s₁.setTop (mkF m 25 #[.val (.long q1), .second, .val (.long q2), .second, .val (.int p3), .val (.int v4), .val (.int v12), .unset, .unset, .unset, .unset, .unset, .unset, .unset, .unset] [])) _
        refine XS.iload X0.here hx rfl (hb hby at_25) rfl ?_
        show Steps p.tables e below (s₁.setTop (mkF m 27 #[.val (.long q1), .second, .val (.long q2), .second, .val (.int p3), .val (.int v4), .val (.int v12), .unset, .unset, .unset, .unset, .unset, .unset, .unset, .unset] [(.int v4)])) _
        refine XS.iconst X0.here hx rfl (hb hby at_27) ?_
        exact k)
      by_cases hc28 : v4 = (1 : Int32)
      ·
        have pre6 : ∀ t, Steps p.tables e below (s₁.setTop (mkF m 52 #[.val (.long q1), .second, .val (.long q2), .second, .val (.int p3), .val (.int v4), .val (.int v12), .val (.long (9223372036854775807 : Int64)), .second, .unset, .unset, .unset, .unset, .unset, .unset] [])) t → Steps p.tables e below (s₁.setTop (entryFrame m #[(.long q1), (.long q2), (.int p3)] maxLocals)) t := fun t k => pre5 t (by
          show Steps p.tables e below (s₁.setTop (mkF m 28 #[.val (.long q1), .second, .val (.long q2), .second, .val (.int p3), .val (.int v4), .val (.int v12), .unset, .unset, .unset, .unset, .unset, .unset, .unset, .unset] [(.int (1 : Int32)), (.int v4)])) _
          refine XS.icmpNo X0.here hx rfl (hb hby at_28) rfl (teq hc28).2 ?_
          show Steps p.tables e below (s₁.setTop (mkF m 31 #[.val (.long q1), .second, .val (.long q2), .second, .val (.int p3), .val (.int v4), .val (.int v12), .unset, .unset, .unset, .unset, .unset, .unset, .unset, .unset] [])) _
          refine X0.ldc2Long hx hown (mvT hZ (hw _ (List.mem_of_getElem? (i := 0) rfl))) (g := (mkF m 31 #[.val (.long q1), .second, .val (.long q2), .second, .val (.int p3), .val (.int v4), .val (.int v12), .unset, .unset, .unset, .unset, .unset, .unset, .unset, .unset] [])) rfl (hb hby at_31) _ ?_
          show Steps p.tables e below (s₁.setTop (mkF m 34 #[.val (.long q1), .second, .val (.long q2), .second, .val (.int p3), .val (.int v4), .val (.int v12), .unset, .unset, .unset, .unset, .unset, .unset, .unset, .unset] [(.long (9223372036854775807 : Int64))])) _
          refine XS.lstore X0.here hx rfl (hb hby at_34) rfl (l' := #[.val (.long q1), .second, .val (.long q2), .second, .val (.int p3), .val (.int v4), .val (.int v12), .val (.long (9223372036854775807 : Int64)), .second, .unset, .unset, .unset, .unset, .unset, .unset]) rfl ?_
          show Steps p.tables e below (s₁.setTop (mkF m 36 #[.val (.long q1), .second, .val (.long q2), .second, .val (.int p3), .val (.int v4), .val (.int v12), .val (.long (9223372036854775807 : Int64)), .second, .unset, .unset, .unset, .unset, .unset, .unset] [])) _
          refine XS.goto X0.here hx rfl (pc0 := 36) (pc' := 52) rfl (hb hby at_36) (by decide) (by decide) ?_
          exact k)
        have q_z52_l7 : z52_l7 = (9223372036854775807 : Int64) := by rw [hz52_l7, if_neg hc16, if_pos hc28]
        refine ⟨_, _, X0, e0, N0, fun t k => ?_⟩
        rw [q_z52_l7] at k
        exact pre6 t k
      ·
        have pre7 : ∀ t, Steps p.tables e below (s₁.setTop (mkF m 52 #[.val (.long q1), .second, .val (.long q2), .second, .val (.int p3), .val (.int v4), .val (.int v12), .val (.long ((1 : Int64) + ((q1 &&& (9223372036854775807 : Int64)) - ((q1 &&& (9223372036854775807 : Int64)) / (9223372036854775807 : Int64)) * (9223372036854775807 : Int64)))), .second, .unset, .unset, .unset, .unset, .unset, .unset] [])) t → Steps p.tables e below (s₁.setTop (entryFrame m #[(.long q1), (.long q2), (.int p3)] maxLocals)) t := fun t k => pre5 t (by
          show Steps p.tables e below (s₁.setTop (mkF m 28 #[.val (.long q1), .second, .val (.long q2), .second, .val (.int p3), .val (.int v4), .val (.int v12), .unset, .unset, .unset, .unset, .unset, .unset, .unset, .unset] [(.int (1 : Int32)), (.int v4)])) _
          refine XS.icmpYes X0.here hx rfl (pc0 := 28) (pc' := 39) rfl (hb hby at_28) rfl (feq hc28).2 (by decide) (by decide) ?_
          show Steps p.tables e below (s₁.setTop (mkF m 39 #[.val (.long q1), .second, .val (.long q2), .second, .val (.int p3), .val (.int v4), .val (.int v12), .unset, .unset, .unset, .unset, .unset, .unset, .unset, .unset] [])) _
          refine XS.lconst X0.here hx rfl (hb hby at_39) ?_
          show Steps p.tables e below (s₁.setTop (mkF m 40 #[.val (.long q1), .second, .val (.long q2), .second, .val (.int p3), .val (.int v4), .val (.int v12), .unset, .unset, .unset, .unset, .unset, .unset, .unset, .unset] [(.long (1 : Int64))])) _
          refine XS.lloadN X0.here hx rfl (hb hby at_40) rfl ?_
          show Steps p.tables e below (s₁.setTop (mkF m 41 #[.val (.long q1), .second, .val (.long q2), .second, .val (.int p3), .val (.int v4), .val (.int v12), .unset, .unset, .unset, .unset, .unset, .unset, .unset, .unset] [(.long q1), (.long (1 : Int64))])) _
          refine X0.ldc2Long hx hown (mvT hZ (hw _ (List.mem_of_getElem? (i := 0) rfl))) (g := (mkF m 41 #[.val (.long q1), .second, .val (.long q2), .second, .val (.int p3), .val (.int v4), .val (.int v12), .unset, .unset, .unset, .unset, .unset, .unset, .unset, .unset] [(.long q1), (.long (1 : Int64))])) rfl (hb hby at_41) _ ?_
          show Steps p.tables e below (s₁.setTop (mkF m 44 #[.val (.long q1), .second, .val (.long q2), .second, .val (.int p3), .val (.int v4), .val (.int v12), .unset, .unset, .unset, .unset, .unset, .unset, .unset, .unset] [(.long (9223372036854775807 : Int64)), (.long q1), (.long (1 : Int64))])) _
          refine XS.land X0.here hx rfl (hb hby at_44) rfl ?_
          show Steps p.tables e below (s₁.setTop (mkF m 45 #[.val (.long q1), .second, .val (.long q2), .second, .val (.int p3), .val (.int v4), .val (.int v12), .unset, .unset, .unset, .unset, .unset, .unset, .unset, .unset] [(.long (q1 &&& (9223372036854775807 : Int64))), (.long (1 : Int64))])) _
          refine X0.ldc2Long hx hown (mvT hZ (hw _ (List.mem_of_getElem? (i := 0) rfl))) (g := (mkF m 45 #[.val (.long q1), .second, .val (.long q2), .second, .val (.int p3), .val (.int v4), .val (.int v12), .unset, .unset, .unset, .unset, .unset, .unset, .unset, .unset] [(.long (q1 &&& (9223372036854775807 : Int64))), (.long (1 : Int64))])) rfl (hb hby at_45) _ ?_
          show Steps p.tables e below (s₁.setTop (mkF m 48 #[.val (.long q1), .second, .val (.long q2), .second, .val (.int p3), .val (.int v4), .val (.int v12), .unset, .unset, .unset, .unset, .unset, .unset, .unset, .unset] [(.long (9223372036854775807 : Int64)), (.long (q1 &&& (9223372036854775807 : Int64))), (.long (1 : Int64))])) _
          refine XS.lrem X0.here hx rfl (hb hby at_48) rfl (by decide) ?_
          show Steps p.tables e below (s₁.setTop (mkF m 49 #[.val (.long q1), .second, .val (.long q2), .second, .val (.int p3), .val (.int v4), .val (.int v12), .unset, .unset, .unset, .unset, .unset, .unset, .unset, .unset] [(.long ((q1 &&& (9223372036854775807 : Int64)) - ((q1 &&& (9223372036854775807 : Int64)) / (9223372036854775807 : Int64)) * (9223372036854775807 : Int64))), (.long (1 : Int64))])) _
          refine XS.ladd X0.here hx rfl (hb hby at_49) rfl ?_
          show Steps p.tables e below (s₁.setTop (mkF m 50 #[.val (.long q1), .second, .val (.long q2), .second, .val (.int p3), .val (.int v4), .val (.int v12), .unset, .unset, .unset, .unset, .unset, .unset, .unset, .unset] [(.long ((1 : Int64) + ((q1 &&& (9223372036854775807 : Int64)) - ((q1 &&& (9223372036854775807 : Int64)) / (9223372036854775807 : Int64)) * (9223372036854775807 : Int64))))])) _
          refine XS.lstore X0.here hx rfl (hb hby at_50) rfl (l' := #[.val (.long q1), .second, .val (.long q2), .second, .val (.int p3), .val (.int v4), .val (.int v12), .val (.long ((1 : Int64) + ((q1 &&& (9223372036854775807 : Int64)) - ((q1 &&& (9223372036854775807 : Int64)) / (9223372036854775807 : Int64)) * (9223372036854775807 : Int64)))), .second, .unset, .unset, .unset, .unset, .unset, .unset]) rfl ?_
          exact k)
        have q_z52_l7 : z52_l7 = ((1 : Int64) + ((q1 &&& (9223372036854775807 : Int64)) - ((q1 &&& (9223372036854775807 : Int64)) / (9223372036854775807 : Int64)) * (9223372036854775807 : Int64))) := by rw [hz52_l7, if_neg hc16, if_neg hc28]
        refine ⟨_, _, X0, e0, N0, fun t k => ?_⟩
        rw [q_z52_l7] at k
        exact pre7 t k
  have hw1 := own_w hz52_l7
  obtain ⟨v58, hv58⟩ : ∃ z : Int64, z = ((9223372036854775807 : Int64) / z52_l7) := ⟨_, rfl⟩
  have pre9 : ∀ t, Steps p.tables e below (T8.setTop (mkF m 60 #[.val (.long q1), .second, .val (.long q2), .second, .val (.int p3), .val (.int v4), .val (.int v12), .val (.long z52_l7), .second, .val (.long v58), .second, .unset, .unset, .unset, .unset] [])) t → Steps p.tables e below (s₁.setTop (entryFrame m #[(.long q1), (.long q2), (.int p3)] maxLocals)) t := fun t k => pre8 t (by
    show Steps p.tables e below (T8.setTop (mkF m 52 #[.val (.long q1), .second, .val (.long q2), .second, .val (.int p3), .val (.int v4), .val (.int v12), .val (.long z52_l7), .second, .unset, .unset, .unset, .unset, .unset, .unset] [])) _
    refine X8.ldc2Long hx hown (mvT hZ (hw _ (List.mem_of_getElem? (i := 0) rfl))) (g := (mkF m 52 #[.val (.long q1), .second, .val (.long q2), .second, .val (.int p3), .val (.int v4), .val (.int v12), .val (.long z52_l7), .second, .unset, .unset, .unset, .unset, .unset, .unset] [])) rfl (hb hby at_52) _ ?_
    show Steps p.tables e below (T8.setTop (mkF m 55 #[.val (.long q1), .second, .val (.long q2), .second, .val (.int p3), .val (.int v4), .val (.int v12), .val (.long z52_l7), .second, .unset, .unset, .unset, .unset, .unset, .unset] [(.long (9223372036854775807 : Int64))])) _
    refine XS.lload X8.here hx rfl (hb hby at_55) rfl ?_
    show Steps p.tables e below (T8.setTop (mkF m 57 #[.val (.long q1), .second, .val (.long q2), .second, .val (.int p3), .val (.int v4), .val (.int v12), .val (.long z52_l7), .second, .unset, .unset, .unset, .unset, .unset, .unset] [(.long z52_l7), (.long (9223372036854775807 : Int64))])) _
    refine XS.ldiv X8.here hx rfl (hb hby at_57) rfl (own_ne hw1) ?_
    show Steps p.tables e below (T8.setTop (mkF m 58 #[.val (.long q1), .second, .val (.long q2), .second, .val (.int p3), .val (.int v4), .val (.int v12), .val (.long z52_l7), .second, .unset, .unset, .unset, .unset, .unset, .unset] [(.long ((9223372036854775807 : Int64) / z52_l7))])) _
    refine XS.lstore X8.here hx rfl (hb hby at_58) rfl (l' := #[.val (.long q1), .second, .val (.long q2), .second, .val (.int p3), .val (.int v4), .val (.int v12), .val (.long z52_l7), .second, .val (.long ((9223372036854775807 : Int64) / z52_l7)), .second, .unset, .unset, .unset, .unset]) rfl ?_
    rw [hv58] at k
    exact k)
  have hm1 := own_m hw1 hv58
  have pre10 : ∀ t, Steps p.tables e below (T8.setTop (mkF m 62 #[.val (.long q1), .second, .val (.long q2), .second, .val (.int p3), .val (.int v4), .val (.int v12), .val (.long z52_l7), .second, .val (.long v58), .second, .unset, .unset, .unset, .unset] [(.int v12)])) t → Steps p.tables e below (s₁.setTop (entryFrame m #[(.long q1), (.long q2), (.int p3)] maxLocals)) t := fun t k => pre9 t (by
    show Steps p.tables e below (T8.setTop (mkF m 60 #[.val (.long q1), .second, .val (.long q2), .second, .val (.int p3), .val (.int v4), .val (.int v12), .val (.long z52_l7), .second, .val (.long v58), .second, .unset, .unset, .unset, .unset] [])) _
    refine XS.iload X8.here hx rfl (hb hby at_60) rfl ?_
    exact k)
  obtain ⟨z96_l11, hz96_l11⟩ : ∃ z : Int64, z = (if v12 = (0 : Int32) then (1 : Int64) else (if v12 = (1 : Int32) then v58 else ((1 : Int64) + ((q2 &&& (9223372036854775807 : Int64)) - ((q2 &&& (9223372036854775807 : Int64)) / v58) * v58)))) := ⟨_, rfl⟩
  obtain ⟨T15, Lc15, X15, e15, N15, pre15⟩ : ∃ (T' : State) (locs' : List Loc), Stand p l e room_1 s m #[(.long q1), (.long q2), (.int p3)] below meth c T' locs' 0 0 ∧ T'.heap = h0 ∧ Fr n0 locs' ∧ ∀ t, Steps p.tables e below (T'.setTop (mkF m 96 #[.val (.long q1), .second, .val (.long q2), .second, .val (.int p3), .val (.int v4), .val (.int v12), .val (.long z52_l7), .second, .val (.long v58), .second, .val (.long z96_l11), .second, .unset, .unset] [])) t → Steps p.tables e below (s₁.setTop (entryFrame m #[(.long q1), (.long q2), (.int p3)] maxLocals)) t := by
    by_cases hc62 : v12 = (0 : Int32)
    ·
      have pre11 : ∀ t, Steps p.tables e below (T8.setTop (mkF m 96 #[.val (.long q1), .second, .val (.long q2), .second, .val (.int p3), .val (.int v4), .val (.int v12), .val (.long z52_l7), .second, .val (.long v58), .second, .val (.long (1 : Int64)), .second, .unset, .unset] [])) t → Steps p.tables e below (s₁.setTop (entryFrame m #[(.long q1), (.long q2), (.int p3)] maxLocals)) t := fun t k => pre10 t (by
        show Steps p.tables e below (T8.setTop (mkF m 62 #[.val (.long q1), .second, .val (.long q2), .second, .val (.int p3), .val (.int v4), .val (.int v12), .val (.long z52_l7), .second, .val (.long v58), .second, .unset, .unset, .unset, .unset] [(.int v12)])) _
        refine XS.ifNo X8.here hx rfl (hb hby at_62) rfl ((if0 _ _).trans (teq hc62).2) ?_
        show Steps p.tables e below (T8.setTop (mkF m 65 #[.val (.long q1), .second, .val (.long q2), .second, .val (.int p3), .val (.int v4), .val (.int v12), .val (.long z52_l7), .second, .val (.long v58), .second, .unset, .unset, .unset, .unset] [])) _
        refine XS.lconst X8.here hx rfl (hb hby at_65) ?_
        show Steps p.tables e below (T8.setTop (mkF m 66 #[.val (.long q1), .second, .val (.long q2), .second, .val (.int p3), .val (.int v4), .val (.int v12), .val (.long z52_l7), .second, .val (.long v58), .second, .unset, .unset, .unset, .unset] [(.long (1 : Int64))])) _
        refine XS.lstore X8.here hx rfl (hb hby at_66) rfl (l' := #[.val (.long q1), .second, .val (.long q2), .second, .val (.int p3), .val (.int v4), .val (.int v12), .val (.long z52_l7), .second, .val (.long v58), .second, .val (.long (1 : Int64)), .second, .unset, .unset]) rfl ?_
        show Steps p.tables e below (T8.setTop (mkF m 68 #[.val (.long q1), .second, .val (.long q2), .second, .val (.int p3), .val (.int v4), .val (.int v12), .val (.long z52_l7), .second, .val (.long v58), .second, .val (.long (1 : Int64)), .second, .unset, .unset] [])) _
        refine XS.goto X8.here hx rfl (pc0 := 68) (pc' := 96) rfl (hb hby at_68) (by decide) (by decide) ?_
        exact k)
      have q_z96_l11 : z96_l11 = (1 : Int64) := by rw [hz96_l11, if_pos hc62]
      refine ⟨_, _, X8, e8, N8, fun t k => ?_⟩
      rw [q_z96_l11] at k
      exact pre11 t k
    ·
      have pre12 : ∀ t, Steps p.tables e below (T8.setTop (mkF m 74 #[.val (.long q1), .second, .val (.long q2), .second, .val (.int p3), .val (.int v4), .val (.int v12), .val (.long z52_l7), .second, .val (.long v58), .second, .unset, .unset, .unset, .unset] [(.int (1 : Int32)), (.int v12)])) t → Steps p.tables e below (s₁.setTop (entryFrame m #[(.long q1), (.long q2), (.int p3)] maxLocals)) t := fun t k => pre10 t (by
        show Steps p.tables e below (T8.setTop (mkF m 62 #[.val (.long q1), .second, .val (.long q2), .second, .val (.int p3), .val (.int v4), .val (.int v12), .val (.long z52_l7), .second, .val (.long v58), .second, .unset, .unset, .unset, .unset] [(.int v12)])) _
        refine XS.ifYes X8.here hx rfl (pc0 := 62) (pc' := 71) rfl (hb hby at_62) rfl ((if0 _ _).trans (feq hc62).2) (by decide) (by decide) ?_
        show Steps p.tables e below (T8.setTop (mkF m 71 #[.val (.long q1), .second, .val (.long q2), .second, .val (.int p3), .val (.int v4), .val (.int v12), .val (.long z52_l7), .second, .val (.long v58), .second, .unset, .unset, .unset, .unset] [])) _
        refine XS.iload X8.here hx rfl (hb hby at_71) rfl ?_
        show Steps p.tables e below (T8.setTop (mkF m 73 #[.val (.long q1), .second, .val (.long q2), .second, .val (.int p3), .val (.int v4), .val (.int v12), .val (.long z52_l7), .second, .val (.long v58), .second, .unset, .unset, .unset, .unset] [(.int v12)])) _
        refine XS.iconst X8.here hx rfl (hb hby at_73) ?_
        exact k)
      by_cases hc74 : v12 = (1 : Int32)
      ·
        have pre13 : ∀ t, Steps p.tables e below (T8.setTop (mkF m 96 #[.val (.long q1), .second, .val (.long q2), .second, .val (.int p3), .val (.int v4), .val (.int v12), .val (.long z52_l7), .second, .val (.long v58), .second, .val (.long v58), .second, .unset, .unset] [])) t → Steps p.tables e below (s₁.setTop (entryFrame m #[(.long q1), (.long q2), (.int p3)] maxLocals)) t := fun t k => pre12 t (by
          show Steps p.tables e below (T8.setTop (mkF m 74 #[.val (.long q1), .second, .val (.long q2), .second, .val (.int p3), .val (.int v4), .val (.int v12), .val (.long z52_l7), .second, .val (.long v58), .second, .unset, .unset, .unset, .unset] [(.int (1 : Int32)), (.int v12)])) _
          refine XS.icmpNo X8.here hx rfl (hb hby at_74) rfl (teq hc74).2 ?_
          show Steps p.tables e below (T8.setTop (mkF m 77 #[.val (.long q1), .second, .val (.long q2), .second, .val (.int p3), .val (.int v4), .val (.int v12), .val (.long z52_l7), .second, .val (.long v58), .second, .unset, .unset, .unset, .unset] [])) _
          refine XS.lload X8.here hx rfl (hb hby at_77) rfl ?_
          show Steps p.tables e below (T8.setTop (mkF m 79 #[.val (.long q1), .second, .val (.long q2), .second, .val (.int p3), .val (.int v4), .val (.int v12), .val (.long z52_l7), .second, .val (.long v58), .second, .unset, .unset, .unset, .unset] [(.long v58)])) _
          refine XS.lstore X8.here hx rfl (hb hby at_79) rfl (l' := #[.val (.long q1), .second, .val (.long q2), .second, .val (.int p3), .val (.int v4), .val (.int v12), .val (.long z52_l7), .second, .val (.long v58), .second, .val (.long v58), .second, .unset, .unset]) rfl ?_
          show Steps p.tables e below (T8.setTop (mkF m 81 #[.val (.long q1), .second, .val (.long q2), .second, .val (.int p3), .val (.int v4), .val (.int v12), .val (.long z52_l7), .second, .val (.long v58), .second, .val (.long v58), .second, .unset, .unset] [])) _
          refine XS.goto X8.here hx rfl (pc0 := 81) (pc' := 96) rfl (hb hby at_81) (by decide) (by decide) ?_
          exact k)
        have q_z96_l11 : z96_l11 = v58 := by rw [hz96_l11, if_neg hc62, if_pos hc74]
        refine ⟨_, _, X8, e8, N8, fun t k => ?_⟩
        rw [q_z96_l11] at k
        exact pre13 t k
      ·
        have pre14 : ∀ t, Steps p.tables e below (T8.setTop (mkF m 96 #[.val (.long q1), .second, .val (.long q2), .second, .val (.int p3), .val (.int v4), .val (.int v12), .val (.long z52_l7), .second, .val (.long v58), .second, .val (.long ((1 : Int64) + ((q2 &&& (9223372036854775807 : Int64)) - ((q2 &&& (9223372036854775807 : Int64)) / v58) * v58))), .second, .unset, .unset] [])) t → Steps p.tables e below (s₁.setTop (entryFrame m #[(.long q1), (.long q2), (.int p3)] maxLocals)) t := fun t k => pre12 t (by
          show Steps p.tables e below (T8.setTop (mkF m 74 #[.val (.long q1), .second, .val (.long q2), .second, .val (.int p3), .val (.int v4), .val (.int v12), .val (.long z52_l7), .second, .val (.long v58), .second, .unset, .unset, .unset, .unset] [(.int (1 : Int32)), (.int v12)])) _
          refine XS.icmpYes X8.here hx rfl (pc0 := 74) (pc' := 84) rfl (hb hby at_74) rfl (feq hc74).2 (by decide) (by decide) ?_
          show Steps p.tables e below (T8.setTop (mkF m 84 #[.val (.long q1), .second, .val (.long q2), .second, .val (.int p3), .val (.int v4), .val (.int v12), .val (.long z52_l7), .second, .val (.long v58), .second, .unset, .unset, .unset, .unset] [])) _
          refine XS.lconst X8.here hx rfl (hb hby at_84) ?_
          show Steps p.tables e below (T8.setTop (mkF m 85 #[.val (.long q1), .second, .val (.long q2), .second, .val (.int p3), .val (.int v4), .val (.int v12), .val (.long z52_l7), .second, .val (.long v58), .second, .unset, .unset, .unset, .unset] [(.long (1 : Int64))])) _
          refine XS.lloadN X8.here hx rfl (hb hby at_85) rfl ?_
          show Steps p.tables e below (T8.setTop (mkF m 86 #[.val (.long q1), .second, .val (.long q2), .second, .val (.int p3), .val (.int v4), .val (.int v12), .val (.long z52_l7), .second, .val (.long v58), .second, .unset, .unset, .unset, .unset] [(.long q2), (.long (1 : Int64))])) _
          refine X8.ldc2Long hx hown (mvT hZ (hw _ (List.mem_of_getElem? (i := 0) rfl))) (g := (mkF m 86 #[.val (.long q1), .second, .val (.long q2), .second, .val (.int p3), .val (.int v4), .val (.int v12), .val (.long z52_l7), .second, .val (.long v58), .second, .unset, .unset, .unset, .unset] [(.long q2), (.long (1 : Int64))])) rfl (hb hby at_86) _ ?_
          show Steps p.tables e below (T8.setTop (mkF m 89 #[.val (.long q1), .second, .val (.long q2), .second, .val (.int p3), .val (.int v4), .val (.int v12), .val (.long z52_l7), .second, .val (.long v58), .second, .unset, .unset, .unset, .unset] [(.long (9223372036854775807 : Int64)), (.long q2), (.long (1 : Int64))])) _
          refine XS.land X8.here hx rfl (hb hby at_89) rfl ?_
          show Steps p.tables e below (T8.setTop (mkF m 90 #[.val (.long q1), .second, .val (.long q2), .second, .val (.int p3), .val (.int v4), .val (.int v12), .val (.long z52_l7), .second, .val (.long v58), .second, .unset, .unset, .unset, .unset] [(.long (q2 &&& (9223372036854775807 : Int64))), (.long (1 : Int64))])) _
          refine XS.lload X8.here hx rfl (hb hby at_90) rfl ?_
          show Steps p.tables e below (T8.setTop (mkF m 92 #[.val (.long q1), .second, .val (.long q2), .second, .val (.int p3), .val (.int v4), .val (.int v12), .val (.long z52_l7), .second, .val (.long v58), .second, .unset, .unset, .unset, .unset] [(.long v58), (.long (q2 &&& (9223372036854775807 : Int64))), (.long (1 : Int64))])) _
          refine XS.lrem X8.here hx rfl (hb hby at_92) rfl (own_ne hm1) ?_
          show Steps p.tables e below (T8.setTop (mkF m 93 #[.val (.long q1), .second, .val (.long q2), .second, .val (.int p3), .val (.int v4), .val (.int v12), .val (.long z52_l7), .second, .val (.long v58), .second, .unset, .unset, .unset, .unset] [(.long ((q2 &&& (9223372036854775807 : Int64)) - ((q2 &&& (9223372036854775807 : Int64)) / v58) * v58)), (.long (1 : Int64))])) _
          refine XS.ladd X8.here hx rfl (hb hby at_93) rfl ?_
          show Steps p.tables e below (T8.setTop (mkF m 94 #[.val (.long q1), .second, .val (.long q2), .second, .val (.int p3), .val (.int v4), .val (.int v12), .val (.long z52_l7), .second, .val (.long v58), .second, .unset, .unset, .unset, .unset] [(.long ((1 : Int64) + ((q2 &&& (9223372036854775807 : Int64)) - ((q2 &&& (9223372036854775807 : Int64)) / v58) * v58)))])) _
          refine XS.lstore X8.here hx rfl (hb hby at_94) rfl (l' := #[.val (.long q1), .second, .val (.long q2), .second, .val (.int p3), .val (.int v4), .val (.int v12), .val (.long z52_l7), .second, .val (.long v58), .second, .val (.long ((1 : Int64) + ((q2 &&& (9223372036854775807 : Int64)) - ((q2 &&& (9223372036854775807 : Int64)) / v58) * v58))), .second, .unset, .unset]) rfl ?_
          exact k)
        have q_z96_l11 : z96_l11 = ((1 : Int64) + ((q2 &&& (9223372036854775807 : Int64)) - ((q2 &&& (9223372036854775807 : Int64)) / v58) * v58)) := by rw [hz96_l11, if_neg hc62, if_neg hc74]
        refine ⟨_, _, X8, e8, N8, fun t k => ?_⟩
        rw [q_z96_l11] at k
        exact pre14 t k
  have hd1 := own_d hm1 hz96_l11
  obtain ⟨_, _, ⟨T16, L16, k16, n16⟩, -, X16, ⟨Lc16, hQ16, l16, y16, z16⟩, st16⟩ := Jvm.LawKit.callS X15 hx (y := (⟨"com/example/wachter/wachter/algorithm/StartingState", "requireDelay", "(JJ)V"⟩ : MethodName)) hown (mvT hZ (hw _ (List.mem_of_getElem? (i := 1) rfl))) (mvT hZ (hw _ (List.mem_of_getElem? (i := 2) rfl))) (mvT hZ (hw _ (List.mem_of_getElem? (i := 3) rfl))) (mvT hZ (hw _ (List.mem_of_getElem? (i := 4) rfl))) (by decide) (backOf (W := 0) (rm1 l Z a0 hw [] z96_l11 z52_l7 h0 n0 Zs (own_ne hw1) (own_p1 hd1) (own_p2 hv58 hd1)) hZ (hw _ (List.mem_of_getElem? (i := 4) rfl)) (hw _ (List.mem_of_getElem? (i := 3) rfl)) (by decide) (by decide)) (g := (mkF m 100 #[.val (.long q1), .second, .val (.long q2), .second, .val (.int p3), .val (.int v4), .val (.int v12), .val (.long z52_l7), .second, .val (.long v58), .second, .val (.long z96_l11), .second, .unset, .unset] [(.long z52_l7), (.long z96_l11)])) rfl (by rw [hml]; rfl) (argsL := [(.long z96_l11), (.long z52_l7)]) (rest := []) (lenOf pd_0 rfl) rfl (by show 2 * 0 + _ ≤ _; exact Nat.le_of_eq rfl) (hb hby at_100) (fun _ _ => ⟨rfl, e15, (by decide : 0 + 0 ≤ _), (by decide : 0 + 0 ≤ _)⟩)
  dsimp only [Pt.U, Pt.locs, Pt.cells, Pt.slots] at X16 l16 y16 z16 st16 hQ16
  subst l16 y16 z16
  obtain ⟨rfl, N16q, e16⟩ := hQ16
  have N16 := Fr.app N15 N16q
  obtain ⟨v108, hv108⟩ : ∃ z : Int64, z = (z96_l11 * z52_l7) := ⟨_, rfl⟩
  have pre17 : ∀ t, Steps p.tables e below (T16.setTop (mkF m 110 #[.val (.long q1), .second, .val (.long q2), .second, .val (.int p3), .val (.int v4), .val (.int v12), .val (.long z52_l7), .second, .val (.long v58), .second, .val (.long z96_l11), .second, .val (.long v108), .second] [])) t → Steps p.tables e below (s₁.setTop (entryFrame m #[(.long q1), (.long q2), (.int p3)] maxLocals)) t := fun t k => pre15 t (by
    show Steps p.tables e below (T15.setTop (mkF m 96 #[.val (.long q1), .second, .val (.long q2), .second, .val (.int p3), .val (.int v4), .val (.int v12), .val (.long z52_l7), .second, .val (.long v58), .second, .val (.long z96_l11), .second, .unset, .unset] [])) _
    refine XS.lload X15.here hx rfl (hb hby at_96) rfl ?_
    show Steps p.tables e below (T15.setTop (mkF m 98 #[.val (.long q1), .second, .val (.long q2), .second, .val (.int p3), .val (.int v4), .val (.int v12), .val (.long z52_l7), .second, .val (.long v58), .second, .val (.long z96_l11), .second, .unset, .unset] [(.long z96_l11)])) _
    refine XS.lload X15.here hx rfl (hb hby at_98) rfl ?_
    show Steps p.tables e below (T15.setTop (mkF m 100 #[.val (.long q1), .second, .val (.long q2), .second, .val (.int p3), .val (.int v4), .val (.int v12), .val (.long z52_l7), .second, .val (.long v58), .second, .val (.long z96_l11), .second, .unset, .unset] [(.long z52_l7), (.long z96_l11)])) _
    refine st16 _ ?_
    show Steps p.tables e below (T16.setTop (mkF m 103 #[.val (.long q1), .second, .val (.long q2), .second, .val (.int p3), .val (.int v4), .val (.int v12), .val (.long z52_l7), .second, .val (.long v58), .second, .val (.long z96_l11), .second, .unset, .unset] [])) _
    refine XS.lload X16.here hx rfl (hb hby at_103) rfl ?_
    show Steps p.tables e below (T16.setTop (mkF m 105 #[.val (.long q1), .second, .val (.long q2), .second, .val (.int p3), .val (.int v4), .val (.int v12), .val (.long z52_l7), .second, .val (.long v58), .second, .val (.long z96_l11), .second, .unset, .unset] [(.long z96_l11)])) _
    refine XS.lload X16.here hx rfl (hb hby at_105) rfl ?_
    show Steps p.tables e below (T16.setTop (mkF m 107 #[.val (.long q1), .second, .val (.long q2), .second, .val (.int p3), .val (.int v4), .val (.int v12), .val (.long z52_l7), .second, .val (.long v58), .second, .val (.long z96_l11), .second, .unset, .unset] [(.long z52_l7), (.long z96_l11)])) _
    refine XS.lmul X16.here hx rfl (hb hby at_107) rfl ?_
    show Steps p.tables e below (T16.setTop (mkF m 108 #[.val (.long q1), .second, .val (.long q2), .second, .val (.int p3), .val (.int v4), .val (.int v12), .val (.long z52_l7), .second, .val (.long v58), .second, .val (.long z96_l11), .second, .unset, .unset] [(.long (z96_l11 * z52_l7))])) _
    refine XS.lstore X16.here hx rfl (hb hby at_108) rfl (l' := #[.val (.long q1), .second, .val (.long q2), .second, .val (.int p3), .val (.int v4), .val (.int v12), .val (.long z52_l7), .second, .val (.long v58), .second, .val (.long z96_l11), .second, .val (.long (z96_l11 * z52_l7)), .second]) rfl ?_
    rw [hv108] at k
    exact k)
  have pre18 : ∀ t, Steps p.tables e below (T16.setTop (mkF m 114 #[.val (.long q1), .second, .val (.long q2), .second, .val (.int p3), .val (.int v4), .val (.int v12), .val (.long z52_l7), .second, .val (.long v58), .second, .val (.long z96_l11), .second, .val (.long v108), .second] [(.int (lcmpW z96_l11 (1 : Int64)))])) t → Steps p.tables e below (s₁.setTop (entryFrame m #[(.long q1), (.long q2), (.int p3)] maxLocals)) t := fun t k => pre17 t (by
    show Steps p.tables e below (T16.setTop (mkF m 110 #[.val (.long q1), .second, .val (.long q2), .second, .val (.int p3), .val (.int v4), .val (.int v12), .val (.long z52_l7), .second, .val (.long v58), .second, .val (.long z96_l11), .second, .val (.long v108), .second] [])) _
    refine XS.lload X16.here hx rfl (hb hby at_110) rfl ?_
    show Steps p.tables e below (T16.setTop (mkF m 112 #[.val (.long q1), .second, .val (.long q2), .second, .val (.int p3), .val (.int v4), .val (.int v12), .val (.long z52_l7), .second, .val (.long v58), .second, .val (.long z96_l11), .second, .val (.long v108), .second] [(.long z96_l11)])) _
    refine XS.lconst X16.here hx rfl (hb hby at_112) ?_
    show Steps p.tables e below (T16.setTop (mkF m 113 #[.val (.long q1), .second, .val (.long q2), .second, .val (.int p3), .val (.int v4), .val (.int v12), .val (.long z52_l7), .second, .val (.long v58), .second, .val (.long z96_l11), .second, .val (.long v108), .second] [(.long (1 : Int64)), (.long z96_l11)])) _
    refine XS.lcmp X16.here hx rfl (hb hby at_113) rfl ?_
    exact k)
  obtain ⟨z141_s0, hz141_s0⟩ : ∃ z : Int32, z = (if z96_l11 < (1 : Int64) then (0 : Int32) else (if v108 < z96_l11 then (0 : Int32) else (if (v108 / z52_l7) = z96_l11 then (1 : Int32) else (0 : Int32)))) := ⟨_, rfl⟩
  obtain ⟨T25, Lc25, X25, e25, N25, pre25⟩ : ∃ (T' : State) (locs' : List Loc), Stand p l e room_1 s m #[(.long q1), (.long q2), (.int p3)] below meth c T' locs' 0 0 ∧ T'.heap = h0 ∧ Fr n0 locs' ∧ ∀ t, Steps p.tables e below (T'.setTop (mkF m 141 #[.val (.long q1), .second, .val (.long q2), .second, .val (.int p3), .val (.int v4), .val (.int v12), .val (.long z52_l7), .second, .val (.long v58), .second, .val (.long z96_l11), .second, .val (.long v108), .second] [(.int z141_s0)])) t → Steps p.tables e below (s₁.setTop (entryFrame m #[(.long q1), (.long q2), (.int p3)] maxLocals)) t := by
    by_cases hc114 : z96_l11 < (1 : Int64)
    ·
      have pre19 : ∀ t, Steps p.tables e below (T16.setTop (mkF m 141 #[.val (.long q1), .second, .val (.long q2), .second, .val (.int p3), .val (.int v4), .val (.int v12), .val (.long z52_l7), .second, .val (.long v58), .second, .val (.long z96_l11), .second, .val (.long v108), .second] [(.int (0 : Int32))])) t → Steps p.tables e below (s₁.setTop (entryFrame m #[(.long q1), (.long q2), (.int p3)] maxLocals)) t := fun t k => pre18 t (by
        show Steps p.tables e below (T16.setTop (mkF m 114 #[.val (.long q1), .second, .val (.long q2), .second, .val (.int p3), .val (.int v4), .val (.int v12), .val (.long z52_l7), .second, .val (.long v58), .second, .val (.long z96_l11), .second, .val (.long v108), .second] [(.int (lcmpW z96_l11 (1 : Int64)))])) _
        refine XS.ifYes X16.here hx rfl (pc0 := 114) (pc' := 140) rfl (hb hby at_114) rfl ((if0 _ _).trans (tlt ((lw_lt z96_l11 (1 : Int64)).mpr hc114)).1) (by decide) (by decide) ?_
        show Steps p.tables e below (T16.setTop (mkF m 140 #[.val (.long q1), .second, .val (.long q2), .second, .val (.int p3), .val (.int v4), .val (.int v12), .val (.long z52_l7), .second, .val (.long v58), .second, .val (.long z96_l11), .second, .val (.long v108), .second] [])) _
        refine XS.iconst X16.here hx rfl (hb hby at_140) ?_
        exact k)
      have q_z141_s0 : z141_s0 = (0 : Int32) := by rw [hz141_s0, if_pos hc114]
      refine ⟨_, _, X16, e16, N16, fun t k => ?_⟩
      rw [q_z141_s0] at k
      exact pre19 t k
    ·
      have pre20 : ∀ t, Steps p.tables e below (T16.setTop (mkF m 122 #[.val (.long q1), .second, .val (.long q2), .second, .val (.int p3), .val (.int v4), .val (.int v12), .val (.long z52_l7), .second, .val (.long v58), .second, .val (.long z96_l11), .second, .val (.long v108), .second] [(.int (lcmpW v108 z96_l11))])) t → Steps p.tables e below (s₁.setTop (entryFrame m #[(.long q1), (.long q2), (.int p3)] maxLocals)) t := fun t k => pre18 t (by
        show Steps p.tables e below (T16.setTop (mkF m 114 #[.val (.long q1), .second, .val (.long q2), .second, .val (.int p3), .val (.int v4), .val (.int v12), .val (.long z52_l7), .second, .val (.long v58), .second, .val (.long z96_l11), .second, .val (.long v108), .second] [(.int (lcmpW z96_l11 (1 : Int64)))])) _
        refine XS.ifNo X16.here hx rfl (hb hby at_114) rfl ((if0 _ _).trans (flt (fun q => hc114 ((lw_lt z96_l11 (1 : Int64)).mp q))).1) ?_
        show Steps p.tables e below (T16.setTop (mkF m 117 #[.val (.long q1), .second, .val (.long q2), .second, .val (.int p3), .val (.int v4), .val (.int v12), .val (.long z52_l7), .second, .val (.long v58), .second, .val (.long z96_l11), .second, .val (.long v108), .second] [])) _
        refine XS.lload X16.here hx rfl (hb hby at_117) rfl ?_
        show Steps p.tables e below (T16.setTop (mkF m 119 #[.val (.long q1), .second, .val (.long q2), .second, .val (.int p3), .val (.int v4), .val (.int v12), .val (.long z52_l7), .second, .val (.long v58), .second, .val (.long z96_l11), .second, .val (.long v108), .second] [(.long v108)])) _
        refine XS.lload X16.here hx rfl (hb hby at_119) rfl ?_
        show Steps p.tables e below (T16.setTop (mkF m 121 #[.val (.long q1), .second, .val (.long q2), .second, .val (.int p3), .val (.int v4), .val (.int v12), .val (.long z52_l7), .second, .val (.long v58), .second, .val (.long z96_l11), .second, .val (.long v108), .second] [(.long z96_l11), (.long v108)])) _
        refine XS.lcmp X16.here hx rfl (hb hby at_121) rfl ?_
        exact k)
      by_cases hc122 : v108 < z96_l11
      ·
        have pre21 : ∀ t, Steps p.tables e below (T16.setTop (mkF m 141 #[.val (.long q1), .second, .val (.long q2), .second, .val (.int p3), .val (.int v4), .val (.int v12), .val (.long z52_l7), .second, .val (.long v58), .second, .val (.long z96_l11), .second, .val (.long v108), .second] [(.int (0 : Int32))])) t → Steps p.tables e below (s₁.setTop (entryFrame m #[(.long q1), (.long q2), (.int p3)] maxLocals)) t := fun t k => pre20 t (by
          show Steps p.tables e below (T16.setTop (mkF m 122 #[.val (.long q1), .second, .val (.long q2), .second, .val (.int p3), .val (.int v4), .val (.int v12), .val (.long z52_l7), .second, .val (.long v58), .second, .val (.long z96_l11), .second, .val (.long v108), .second] [(.int (lcmpW v108 z96_l11))])) _
          refine XS.ifYes X16.here hx rfl (pc0 := 122) (pc' := 140) rfl (hb hby at_122) rfl ((if0 _ _).trans (tlt ((lw_lt v108 z96_l11).mpr hc122)).1) (by decide) (by decide) ?_
          show Steps p.tables e below (T16.setTop (mkF m 140 #[.val (.long q1), .second, .val (.long q2), .second, .val (.int p3), .val (.int v4), .val (.int v12), .val (.long z52_l7), .second, .val (.long v58), .second, .val (.long z96_l11), .second, .val (.long v108), .second] [])) _
          refine XS.iconst X16.here hx rfl (hb hby at_140) ?_
          exact k)
        have q_z141_s0 : z141_s0 = (0 : Int32) := by rw [hz141_s0, if_neg hc114, if_pos hc122]
        refine ⟨_, _, X16, e16, N16, fun t k => ?_⟩
        rw [q_z141_s0] at k
        exact pre21 t k
      ·
        have pre22 : ∀ t, Steps p.tables e below (T16.setTop (mkF m 133 #[.val (.long q1), .second, .val (.long q2), .second, .val (.int p3), .val (.int v4), .val (.int v12), .val (.long z52_l7), .second, .val (.long v58), .second, .val (.long z96_l11), .second, .val (.long v108), .second] [(.int (lcmpW (v108 / z52_l7) z96_l11))])) t → Steps p.tables e below (s₁.setTop (entryFrame m #[(.long q1), (.long q2), (.int p3)] maxLocals)) t := fun t k => pre20 t (by
          show Steps p.tables e below (T16.setTop (mkF m 122 #[.val (.long q1), .second, .val (.long q2), .second, .val (.int p3), .val (.int v4), .val (.int v12), .val (.long z52_l7), .second, .val (.long v58), .second, .val (.long z96_l11), .second, .val (.long v108), .second] [(.int (lcmpW v108 z96_l11))])) _
          refine XS.ifNo X16.here hx rfl (hb hby at_122) rfl ((if0 _ _).trans (flt (fun q => hc122 ((lw_lt v108 z96_l11).mp q))).1) ?_
          show Steps p.tables e below (T16.setTop (mkF m 125 #[.val (.long q1), .second, .val (.long q2), .second, .val (.int p3), .val (.int v4), .val (.int v12), .val (.long z52_l7), .second, .val (.long v58), .second, .val (.long z96_l11), .second, .val (.long v108), .second] [])) _
          refine XS.lload X16.here hx rfl (hb hby at_125) rfl ?_
          show Steps p.tables e below (T16.setTop (mkF m 127 #[.val (.long q1), .second, .val (.long q2), .second, .val (.int p3), .val (.int v4), .val (.int v12), .val (.long z52_l7), .second, .val (.long v58), .second, .val (.long z96_l11), .second, .val (.long v108), .second] [(.long v108)])) _
          refine XS.lload X16.here hx rfl (hb hby at_127) rfl ?_
          show Steps p.tables e below (T16.setTop (mkF m 129 #[.val (.long q1), .second, .val (.long q2), .second, .val (.int p3), .val (.int v4), .val (.int v12), .val (.long z52_l7), .second, .val (.long v58), .second, .val (.long z96_l11), .second, .val (.long v108), .second] [(.long z52_l7), (.long v108)])) _
          refine XS.ldiv X16.here hx rfl (hb hby at_129) rfl (own_ne hw1) ?_
          show Steps p.tables e below (T16.setTop (mkF m 130 #[.val (.long q1), .second, .val (.long q2), .second, .val (.int p3), .val (.int v4), .val (.int v12), .val (.long z52_l7), .second, .val (.long v58), .second, .val (.long z96_l11), .second, .val (.long v108), .second] [(.long (v108 / z52_l7))])) _
          refine XS.lload X16.here hx rfl (hb hby at_130) rfl ?_
          show Steps p.tables e below (T16.setTop (mkF m 132 #[.val (.long q1), .second, .val (.long q2), .second, .val (.int p3), .val (.int v4), .val (.int v12), .val (.long z52_l7), .second, .val (.long v58), .second, .val (.long z96_l11), .second, .val (.long v108), .second] [(.long z96_l11), (.long (v108 / z52_l7))])) _
          refine XS.lcmp X16.here hx rfl (hb hby at_132) rfl ?_
          exact k)
        by_cases hc133 : (v108 / z52_l7) = z96_l11
        ·
          have pre23 : ∀ t, Steps p.tables e below (T16.setTop (mkF m 141 #[.val (.long q1), .second, .val (.long q2), .second, .val (.int p3), .val (.int v4), .val (.int v12), .val (.long z52_l7), .second, .val (.long v58), .second, .val (.long z96_l11), .second, .val (.long v108), .second] [(.int (1 : Int32))])) t → Steps p.tables e below (s₁.setTop (entryFrame m #[(.long q1), (.long q2), (.int p3)] maxLocals)) t := fun t k => pre22 t (by
            show Steps p.tables e below (T16.setTop (mkF m 133 #[.val (.long q1), .second, .val (.long q2), .second, .val (.int p3), .val (.int v4), .val (.int v12), .val (.long z52_l7), .second, .val (.long v58), .second, .val (.long z96_l11), .second, .val (.long v108), .second] [(.int (lcmpW (v108 / z52_l7) z96_l11))])) _
            refine XS.ifNo X16.here hx rfl (hb hby at_133) rfl ((if0 _ _).trans (teq ((lw_eq (v108 / z52_l7) z96_l11).mpr hc133)).2) ?_
            show Steps p.tables e below (T16.setTop (mkF m 136 #[.val (.long q1), .second, .val (.long q2), .second, .val (.int p3), .val (.int v4), .val (.int v12), .val (.long z52_l7), .second, .val (.long v58), .second, .val (.long z96_l11), .second, .val (.long v108), .second] [])) _
            refine XS.iconst X16.here hx rfl (hb hby at_136) ?_
            show Steps p.tables e below (T16.setTop (mkF m 137 #[.val (.long q1), .second, .val (.long q2), .second, .val (.int p3), .val (.int v4), .val (.int v12), .val (.long z52_l7), .second, .val (.long v58), .second, .val (.long z96_l11), .second, .val (.long v108), .second] [(.int (1 : Int32))])) _
            refine XS.goto X16.here hx rfl (pc0 := 137) (pc' := 141) rfl (hb hby at_137) (by decide) (by decide) ?_
            exact k)
          have q_z141_s0 : z141_s0 = (1 : Int32) := by rw [hz141_s0, if_neg hc114, if_neg hc122, if_pos hc133]
          refine ⟨_, _, X16, e16, N16, fun t k => ?_⟩
          rw [q_z141_s0] at k
          exact pre23 t k
        ·
          have pre24 : ∀ t, Steps p.tables e below (T16.setTop (mkF m 141 #[.val (.long q1), .second, .val (.long q2), .second, .val (.int p3), .val (.int v4), .val (.int v12), .val (.long z52_l7), .second, .val (.long v58), .second, .val (.long z96_l11), .second, .val (.long v108), .second] [(.int (0 : Int32))])) t → Steps p.tables e below (s₁.setTop (entryFrame m #[(.long q1), (.long q2), (.int p3)] maxLocals)) t := fun t k => pre22 t (by
            show Steps p.tables e below (T16.setTop (mkF m 133 #[.val (.long q1), .second, .val (.long q2), .second, .val (.int p3), .val (.int v4), .val (.int v12), .val (.long z52_l7), .second, .val (.long v58), .second, .val (.long z96_l11), .second, .val (.long v108), .second] [(.int (lcmpW (v108 / z52_l7) z96_l11))])) _
            refine XS.ifYes X16.here hx rfl (pc0 := 133) (pc' := 140) rfl (hb hby at_133) rfl ((if0 _ _).trans (feq (fun q => hc133 ((lw_eq (v108 / z52_l7) z96_l11).mp q))).2) (by decide) (by decide) ?_
            show Steps p.tables e below (T16.setTop (mkF m 140 #[.val (.long q1), .second, .val (.long q2), .second, .val (.int p3), .val (.int v4), .val (.int v12), .val (.long z52_l7), .second, .val (.long v58), .second, .val (.long z96_l11), .second, .val (.long v108), .second] [])) _
            refine XS.iconst X16.here hx rfl (hb hby at_140) ?_
            exact k)
          have q_z141_s0 : z141_s0 = (0 : Int32) := by rw [hz141_s0, if_neg hc114, if_neg hc122, if_neg hc133]
          refine ⟨_, _, X16, e16, N16, fun t k => ?_⟩
          rw [q_z141_s0] at k
          exact pre24 t k
  obtain rfl : z141_s0 = (1 : Int32) := own_law hw1 hv58 hd1 hv108 hz141_s0
  obtain ⟨fs, hr, hrun, hended, hW, hsame⟩ := X25.leave (v := some (.int (1 : Int32))) (fun h => by rw [Bd.returns] at h; cases h)
  refine ⟨_, _, pre25 _ ?_, hrun, hended, _, _, rfl, ?_, ⟨_, rfl⟩, hW, hsame.mono (by decide) (by decide)⟩
  · show Steps p.tables e below (T25.setTop (mkF m 141 #[.val (.long q1), .second, .val (.long q2), .second, .val (.int p3), .val (.int v4), .val (.int v12), .val (.long z52_l7), .second, .val (.long v58), .second, .val (.long z96_l11), .second, .val (.long v108), .second] [(.int (1 : Int32))])) _
    exact retN X25 hx (t := .boolean) Bd.returns (by simp) (hb hby at_141) hr
  · show Q0 Z q1 q2 p3 h0 n0 _ T25.heap _
    rw [e25]
    exact ⟨rfl, N25⟩
set_option maxRecDepth 65536 in
set_option maxHeartbeats 40000000 in
theorem comes_1 {Post : Tables → Env → Array Value → State → Outcome → State → Prop} (hpost : ∀ tb e args s v u, (limb_1_1.after args s (.returned v) u = true ∧ limb_1_2.after args s (.returned v) u = true ∧ True) → FrameEnd s (.returned v) u (Jvm.fieldLocs frame_1_writes args s ++ Jvm.arrayLocs frame_1_arrays args s ++ Jvm.staticLocs frame_1_statics s) 0 0 → Post tb e args s (.returned v) u) :
    ArmFor flags0 classFile x code maxLocals ret World_1 tables_1 room_1 Calls_1 rest_1 Pre_1 Post := by
  intro l hfl _ _ p e ha hc hk s m args below hf hA hF happ hP
  obtain ⟨hcalls, hrest, hpre⟩ := hP
  obtain ⟨-, -, -, hnamed, -, -, -, hat⟩ := (Spec.applies_iff hf).mp happ
  obtain ⟨hg, hn⟩ := and_e (Cond.before_iff.mp (show (Jvm.Cond.and given_1 narrow_1).before args s = true from hpre))
  obtain ⟨hcount, ha0⟩ := and_e hg
  obtain ⟨ga0, gb0⟩ := and_e ha0
  obtain ⟨ga1, gb1⟩ := and_e gb0
  obtain ⟨w0, w1, w2, rfl⟩ : ∃ w0 w1 w2 : Value, args = #[w0, w1, w2] := by
    have hs : args.size = 3 := by simpa [Cond.value, given_1] using hcount
    obtain ⟨L⟩ := args
    match L, hs with
    | [w0, w1, w2], _ => exact ⟨w0, w1, w2, rfl⟩
  have hw := fun d (hd : d ∈ tables_1) => atoms_spec (ws := Jvm.Cond.code x code maxLocals ret :: tables_1) hat d (List.mem_cons_of_mem _ hd)
  have hfit : Fit s := fun {y c} hc i hi => by
    obtain ⟨ha, rfl⟩ := Array.getElem?_eq_some_iff.mp hc
    have q := List.all_eq_true.mp ((Array.all_eq_true_iff_forall_mem.mp hF) _ (Array.getElem_mem ha)) i (List.mem_range.mpr hi)
    simpa [Array.getElem?_eq_getElem hi] using q
  obtain ⟨i0, ei0⟩ := isL_v ga0
  obtain rfl : w0 = (.long i0) := Option.some.inj ei0
  obtain ⟨i1, ei1⟩ := isL_v ga1
  obtain rfl : w1 = (.long i1) := Option.some.inj ei1
  obtain ⟨i2, ei2⟩ := is_v gb1
  obtain rfl : w2 = (.int i2) := Option.some.inj ei2
  obtain ⟨n, o, h1, h2, h3, _, L, rfl, ⟨rfl, N⟩, hq⟩ := rm0 l s _ hw tables_1 i0 i1 i2 s.heap s.heap.size (Nat.le_refl _)  p e ha hc hk s m _ below hf ((Spec.applies_iff_loose hf).mp happ).1 ⟨rfl, State.Warmed39.refl s, rfl⟩ trivial
  refine ⟨n, _, h1, h2, h3, hpost _ _ _ _ _ _ ⟨Cond.after_iff.mpr rfl, Cond.after_iff.mpr (eq_i res_at (Term.int_eval (1)) rfl), trivial⟩ ⟨hq.1, hq.2.1, (hq.2.2.sift fun y hy => Or.inr (N y hy)).mono (by decide) (by decide)⟩⟩
theorem main_1_1 : Claimed_1_1 := comes_1 fun _ _ _ _ _ _ h hF => ⟨h.1, hF⟩
theorem main_1_2 : Claimed_1_2 := comes_1 fun _ _ _ _ _ _ h hF => ⟨h.2.1, hF⟩
end Jvm.Pilot.@@N@@
namespace Jvm.Pilot.@@N@@
open Jvm Jvm.ClassFile Sem Op Lib Jvm.Free Jvm.Stand Jvm.Pilot.@@N@@.Jvm.D
/-! MADE BY PROGRAM (witnessworld.py) out of the Statement's table words and the real class files: 7 classes; the members and pool entries that the words name. The judged class is class 1, her method 1. -/
namespace start1
open Jvm.ClassFile
def u (s : String) : CpInfo := .utf8 (stringToUtf16 s)
/-- a pool by its gaps: so many unusable entries, then the entry; so many at the end -/
def gap : Nat → List CpInfo → List CpInfo
  | 0, r => r
  | n + 1, r => .unusable :: gap n r
def poolList (es : List (Nat × CpInfo)) (last : Nat) : List CpInfo := es.foldr (fun e r => gap e.1 (e.2 :: r)) (gap last [])
def pool (es : List (Nat × CpInfo)) (last : Nat) : Array CpInfo := ⟨poolList es last⟩
def fileOf (pool : Array CpInfo) (this : Nat) (attrs : Array Attribute := #[]) (ms : Array MethodInfo := #[]) (fl : Nat := 33) (sup : Nat := 0) (ifs : Array Nat := #[]) (fds : Array FieldInfo := #[]) : ClassFile where
  minorVersion := 0
  majorVersion := 65
  constantPool := pool
  accessFlags := fl
  thisClass := this
  superClass := sup
  interfaces := ifs
  fields := fds
  methods := ms
  attributes := attrs
def plain (name : String) (sup : Option ClassId) : Class where
  name := name
  kind := .ordinary
  loader := none
  accessFlags := 33
  super := sup
  interfaces := #[]
  cf := none
  fields := #[]
  methods := #[]
  instanceTypes := #[]
  staticTypes := #[]
  resolved := #[]
  callSites := []
  init := .initialized
  statics := none
  mirror := none

def pool0 : Array CpInfo := pool [(5, u "<init>"), (0, u "()V"), (1, .class_ 10), (1, u "java/lang/Object")] 113

def k0m0 : Method := { name := "<init>", desc := "()V", sig := { parameters := [], returnType := none }, accessFlags := 1, code := none }
/-- java/lang/Object -/
def k0 : Class := { plain "java/lang/Object" none with
  accessFlags := 33
  interfaces := #[]
  cf := some (fileOf pool0 8 #[] #[{ accessFlags := 1, nameIndex := 5, descriptorIndex := 6, attributes := #[] }] 33 0 #[] #[])
  fields := #[]
  methods := #[k0m0]
  instanceTypes := #[]
  staticTypes := #[]
  resolved := Array.replicate 124 none
  statics := none }

def pool1 : Array CpInfo := pool [(2, .class_ 4), (1, u "java/lang/Object"), (0, u "<init>"), (0, u "()V"), (2, .long 9223372036854775807), (1, .methodref 12 13), (0, .class_ 14), (0, .nameAndType 15 16), (0, u "com/example/wachter/wachter/algorithm/StartingState"), (0, u "requireDelay"), (0, u "(JJ)V"), (0, .class_ 18), (0, u "com/example/wachter/wachter/algorithm/StartingStateRequireDelayPinLaw"), (2, u "law"), (0, u "(JJI)Z")] 3

def k1m0 : Method := { name := "<init>", desc := "()V", sig := { parameters := [], returnType := none }, accessFlags := 2, code := none }
def k1c1 : Code := { maxStack := 6, maxLocals := 15, code := code, exceptionTable := #[], attributes := #[] }
def k1m1 : Method := { name := "law", desc := "(JJI)Z", sig := { parameters := [.long, .long, .int], returnType := some .boolean }, accessFlags := 9, code := some k1c1 }
/-- com/example/wachter/wachter/algorithm/StartingStateRequireDelayPinLaw -/
def k1 : Class := { plain "com/example/wachter/wachter/algorithm/StartingStateRequireDelayPinLaw" (some 0) with
  accessFlags := 49
  interfaces := #[]
  cf := some (fileOf pool1 17 #[] #[{ accessFlags := 2, nameIndex := 5, descriptorIndex := 6, attributes := #[] }, { accessFlags := 9, nameIndex := 21, descriptorIndex := 22, attributes := #[] }] 49 2 #[] #[])
  fields := #[]
  methods := #[k1m0, k1m1]
  instanceTypes := #[]
  staticTypes := #[]
  resolved := Array.replicate 26 none
  statics := none }

def pool2 : Array CpInfo := pool [(2, .class_ 4), (1, u "java/lang/Object"), (0, u "<init>"), (0, u "()V"), (11, .long 9223372036854775807), (9, .class_ 29), (0, u "com/example/wachter/wachter/algorithm/StartingState"), (5, u "requireDelay"), (0, u "(JJ)V")] 23

def k2m0 : Method := { name := "<init>", desc := "()V", sig := { parameters := [], returnType := none }, accessFlags := 2, code := none }
def k2c1 : Code := { maxStack := 6, maxLocals := 6, code := prog_9_method_3_code, exceptionTable := #[], attributes := #[] }
def k2m1 : Method := { name := "requireDelay", desc := "(JJ)V", sig := { parameters := [.long, .long], returnType := none }, accessFlags := 8, code := some k2c1 }
/-- com/example/wachter/wachter/algorithm/StartingState -/
def k2 : Class := { plain "com/example/wachter/wachter/algorithm/StartingState" (some 0) with
  accessFlags := 32
  interfaces := #[]
  cf := some (fileOf pool2 28 #[] #[{ accessFlags := 2, nameIndex := 5, descriptorIndex := 6, attributes := #[] }, { accessFlags := 8, nameIndex := 35, descriptorIndex := 36, attributes := #[] }] 32 2 #[] #[])
  fields := #[]
  methods := #[k2m0, k2m1]
  instanceTypes := #[]
  staticTypes := #[]
  resolved := Array.replicate 60 none
  statics := none }

def pool3 : Array CpInfo := pool [(1, u "java/lang/Cloneable"), (0, .class_ 1), (0, u "java/lang/Object"), (0, .class_ 3)] 3

/-- java/lang/Cloneable -/
def k3 : Class := { plain "java/lang/Cloneable" (some 0) with
  accessFlags := 1537
  interfaces := #[]
  cf := some (fileOf pool3 2 #[] #[] 1537 4 #[] #[])
  fields := #[]
  methods := #[]
  instanceTypes := #[]
  staticTypes := #[]
  resolved := Array.replicate 8 none
  statics := none }

def pool4 : Array CpInfo := pool [(1, u "java/io/Serializable"), (0, .class_ 1), (0, u "java/lang/Object"), (0, .class_ 3)] 3

/-- java/io/Serializable -/
def k4 : Class := { plain "java/io/Serializable" (some 0) with
  accessFlags := 1537
  interfaces := #[]
  cf := some (fileOf pool4 2 #[] #[] 1537 4 #[] #[])
  fields := #[]
  methods := #[]
  instanceTypes := #[]
  staticTypes := #[]
  resolved := Array.replicate 8 none
  statics := none }

/-- the primitive byte -/
def k5 : Class := { plain "byte" none with kind := .primitive 'B', accessFlags := 0x411 }
/-- [B -/
def k6 : Class := { plain "[B" (some 0) with kind := .array 5 .byte, interfaces := #[3, 4], accessFlags := 1041 }

def heap : Heap := #[]
def classes : Array Class := #[k0, k1, k2, k3, k4, k5, k6]
def interned : List (Array UInt16 × Addr) := []
def slotsUsed : Nat := 0
def theMethod : MethodId := ⟨1, 1⟩
def args0 : Array Value := #[.long 5, .long 300, .int 1]
def aboutOver (below : List Frame) : State where
  vm := { classes := classes, interned := interned.toArray }
  heap := heap
  slotsUsed := slotsUsed
  threads := #[{ frames := .invoking theMethod args0 :: below }]
def below0 : List Frame := [.native { method := ⟨0, 0⟩, args := #[] }]
def about1 : State := aboutOver below0
def p0 : Program := .bare "" "" ""
def e0 : Env := launch0.env 0 0 0
theorem w_frames : about1.frames = Frame.invoking theMethod args0 :: below0 := rfl
set_option maxRecDepth 65536 in
theorem w_args : argsFit about1.vm theMethod args0 = true := by decide +kernel
set_option maxRecDepth 65536 in
theorem w_heap : heapFits about1 = true := by decide +kernel
set_option maxRecDepth 65536 in
theorem w_runnable : about1.curStatus? = some .runnable := by decide +kernel
set_option maxRecDepth 65536 in
theorem w_alone : about1.alone = true := by decide +kernel
set_option maxRecDepth 65536 in
theorem w_named : about1.methodNamed? x = some theMethod := by decide +kernel
set_option maxRecDepth 65536 in
theorem w_hears : about1.hears theMethod below0 = true := by decide +kernel
set_option maxRecDepth 65536 in
theorem w_ripe : about1.ripe theMethod args0 below0 = true := by decide +kernel
theorem w_running : about1.status = .running := rfl
set_option maxRecDepth 65536 in
theorem w_room : about1.hasRoom e0.platform room_1 = true :=
  launch0.hasRoom_least _ room_1 (by decide +kernel) (by decide +kernel) (by decide +kernel) (by decide +kernel) (by decide +kernel) (by decide +kernel)
theorem allAtoms_all (ts : List Jvm.Cond) (a : Array Jvm.Value) (st : Jvm.State) : (allAtoms ts).before a st = ts.all (fun c => c.before a st) := by
  induction ts with
  | nil => rfl
  | cons c t ih =>
    show (Jvm.Cond.and c (allAtoms t)).before a st = _
    rw [Jvm.Cond.before_and, ih, List.all_cons]
def words1 : List Jvm.Cond := Jvm.Cond.code x code maxLocals ret :: tables_1
/-- a 'code' word, met by the world's own term for the bytes: nothing is compared byte by byte -/
theorem code_word {y : MethodName} {bytes : ByteArray} {mx : Nat} {rt : Option FieldType} {a : Array Value} {s : State} {m : MethodId} {meth : Method} {c : Code} (h1 : s.methodNamed? y = some m) (h2 : s.vm.method? m = some meth) (h3 : meth.code = some c) (h4 : c.code = bytes)
    (h5 : (c.maxLocals == mx && c.exceptionTable.isEmpty && decide (c.maxStack ≤ mostOperands) && decide (meth.sig.returnType = rt) && !meth.locks && decide (parseMethodDescriptor y.desc = some meth.sig)) = true) : (Jvm.Cond.code y bytes mx rt).before a s = true := by
  simp only [Bool.and_eq_true, beq_iff_eq, Bool.not_eq_true', decide_eq_true_eq] at h5
  obtain ⟨⟨⟨⟨⟨g1, g2⟩, g3⟩, g4⟩, g5⟩, g6⟩ := h5
  simp [Cond.before, Cond.holds, Cond.value, h1, h2, h3, h4, g1, g2, g3, g4, g5, g6]
def isCode : Jvm.Cond → Bool
  | .code _ _ _ _ => true
  | _ => false
theorem all_split {L : List Jvm.Cond} {P : Jvm.Cond → Bool} (h1 : L.all (fun c => isCode c || P c) = true) (h2 : ∀ c ∈ L.filter isCode, P c = true) : L.all P = true := by
  refine List.all_eq_true.mpr fun c hc => ?_
  have h := List.all_eq_true.mp h1 c hc
  rcases Bool.eq_false_or_eq_true (isCode c) with hi | hi
  · exact h2 c (List.mem_filter.mpr ⟨hc, hi⟩)
  · simpa [hi] using h
set_option maxRecDepth 65536 in
theorem w_c0 : (Jvm.Cond.code x code maxLocals ret).before args0 about1 = true := code_word (m := ⟨1, 1⟩) (meth := k1m1) (c := k1c1) (by decide +kernel) rfl rfl rfl (by decide +kernel)
set_option maxRecDepth 65536 in
theorem w_c1 : (Jvm.Cond.code ({ cls := "com/example/wachter/wachter/algorithm/StartingState", name := "requireDelay", desc := "(JJ)V" } : Jvm.MethodName) prog_9_method_3_code (6 : Nat) (Option.none : Option Jvm.ClassFile.FieldType)).before args0 about1 = true := code_word (m := ⟨2, 1⟩) (meth := k2m1) (c := k2c1) (by decide +kernel) rfl rfl rfl (by decide +kernel)
def codes1 : List Jvm.Cond := [Jvm.Cond.code x code maxLocals ret, Jvm.Cond.code ({ cls := "com/example/wachter/wachter/algorithm/StartingState", name := "requireDelay", desc := "(JJ)V" } : Jvm.MethodName) prog_9_method_3_code (6 : Nat) (Option.none : Option Jvm.ClassFile.FieldType)]
set_option maxRecDepth 65536 in
theorem codes_eq : words1.filter isCode = codes1 := rfl
theorem w_codes : ∀ c ∈ words1.filter isCode, c.before args0 about1 = true := by
  rw [codes_eq]
  intro c hc
  simp only [codes1, List.mem_cons, List.not_mem_nil, or_false] at hc
  rcases hc with rfl | rfl
  · exact w_c0
  · exact w_c1
set_option maxRecDepth 65536 in
theorem w_t1 : words1.all (fun c => isCode c || c.before args0 about1) = true := by decide +kernel
theorem w_tables : (allAtoms (Jvm.Cond.code x code maxLocals ret :: tables_1)).before args0 about1 = true := by
  rw [allAtoms_all]
  show words1.all (fun c => c.before args0 about1) = true
  refine all_split ?_ w_codes
  rw [w_t1]
set_option maxRecDepth 65536 in
theorem w_case : (Jvm.Cond.and given_1 narrow_1).before args0 about1 = true := by decide +kernel
theorem w_applies : (headSpec (Jvm.Cond.code x code maxLocals ret :: tables_1) room_1).applies x e0.platform about1 = true :=
  (Spec.applies_iff w_frames).mpr ⟨w_running, w_runnable, w_alone, w_named, w_hears, w_ripe, w_room, w_tables⟩
theorem atStart : AtStart classFile x code maxLocals ret World_1 tables_1 room_1 Calls_1 rest_1 Pre_1 launch0 p0 e0 about1 theMethod args0 below0 :=
  ⟨lists_1, trivial, launch0.admits_env _ _ _, launch0.least_env, fairChoices_fair.cas, fairChoices_fair.clock, w_frames, w_args, w_heap, w_applies, trivial, trivial, w_case⟩
end start1
theorem witness_1 : WitnessClaimed_1 := ⟨start1.p0, start1.e0, start1.about1, start1.theMethod, start1.args0, start1.below0, start1.atStart⟩
end Jvm.Pilot.@@N@@
