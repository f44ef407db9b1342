import JvmDerived
import JvmDerived.Pilot.@@N@@Statement
import JvmDerived.Pilot.@@N@@Code
set_option linter.unusedVariables false
set_option linter.unusedSimpArgs false
namespace Jvm.RoadKit
open Sem ClassFile Op Lib Jvm.Stand Jvm.Free Jvm.LawKit
section New
variable {p : Program} {l : Launch} {e : Env} {R : Room} {s : State} {m : MethodId} {args : Array Value} {below : List Frame} {meth : Method} {c : Code} {T : State} {locs : List Loc} {cells slots : Nat}
theorem retI (X : Stand p l e R s m args below meth c T locs cells slots) (hx : p.tables.exec = Jvm.exec) {pc : Nat} {Ls : Array Slot} {z : Int32} {rest : List Value} (hret : meth.sig.returnType = some .int) (hd : decode c.code pc = .ok (.ireturn, 1)) {fs : List Frame}
    (hl : ∀ (f : JFrame) (acts : List Action), f.method = m → f.locked = none → f.entered = [] → (doReturn e (T.setTop f) acts (some (.int z))).1 = T.setFrames fs) : Steps p.tables e below (T.setTop (mkF m pc Ls (.int z :: rest))) (T.setFrames fs) := by
  have hm' : T.vm.method? m = some meth := X.method'
  have hn : narrow .int (.int z) = .int z := rfl
  show Steps p.tables e below (T.setTop { method := m, pc := pc, locals := Ls, stack := _ :: rest, locked := none }) _
  jvm_step X.here [X.here.top, hx, hd, hm', hret, hn]
  first | (intro acts; rw [hl _ acts rfl rfl rfl]) | rw [hl _ _ rfl rfl rfl]
  exact Steps.refl _
end New
end Jvm.RoadKit
namespace Jvm.Pilot.@@N@@
open Jvm Jvm.ClassFile Sem Op Lib Jvm.Free Jvm.Stand Jvm.LawKit Jvm.RoadKit Bundle Jvm.Pilot.@@N@@.Jvm.D


theorem own_fld {args : Array Value} {s : State} {t : Term} {a : Addr} {C n d : String} {k : Int32} (ev : t.eval args s none [] s = some (.ref a)) (h : (Jvm.Cond.eq (.field t C n d) (.int k)).value args s none s [] = some true) : s.fieldOf? a C n d = some (.int k) := by
  have e1 : (Term.field t C n d).eval args s none [] s = s.fieldOf? a C n d := fld_at ev
  have e2 : (Term.int k).eval args s none [] s = some (.int k) := Term.int_eval k
  cases hv : s.fieldOf? a C n d with
  | none => rw [hv] at e1; simp [Cond.value, e1] at h
  | some v =>
    rw [hv] at e1
    cases v <;> simp [Cond.value, e1, e2] at h
    rw [h]

theorem d1_0 : decode method_2_code 0 = .ok (.iload_n 0, 1) := by decide +kernel
theorem d1_1 : decode method_2_code 1 = .ok (.ifCond .ne 7, 3) := by decide +kernel
theorem d1_4 : decode method_2_code 4 = .ok (.getstatic 7, 3) := by decide +kernel
theorem d1_7 : decode method_2_code 7 = .ok (.areturn, 1) := by decide +kernel
theorem d1_8 : decode method_2_code 8 = .ok (.iload_n 0, 1) := by decide +kernel
theorem d1_9 : decode method_2_code 9 = .ok (.iconst 1, 1) := by decide +kernel
theorem d1_10 : decode method_2_code 10 = .ok (.if_icmp .ne 7, 3) := by decide +kernel
theorem d1_13 : decode method_2_code 13 = .ok (.getstatic 13, 3) := by decide +kernel
theorem d1_16 : decode method_2_code 16 = .ok (.areturn, 1) := by decide +kernel
theorem d1_17 : decode method_2_code 17 = .ok (.iload_n 0, 1) := by decide +kernel
theorem d1_18 : decode method_2_code 18 = .ok (.iconst 2, 1) := by decide +kernel
theorem d1_19 : decode method_2_code 19 = .ok (.if_icmp .ne 7, 3) := by decide +kernel
theorem d1_22 : decode method_2_code 22 = .ok (.getstatic 16, 3) := by decide +kernel
theorem d1_25 : decode method_2_code 25 = .ok (.areturn, 1) := by decide +kernel
theorem d1_26 : decode method_2_code 26 = .ok (.iload_n 0, 1) := by decide +kernel
theorem d1_27 : decode method_2_code 27 = .ok (.iconst 3, 1) := by decide +kernel
theorem d1_28 : decode method_2_code 28 = .ok (.if_icmp .ne 7, 3) := by decide +kernel
theorem d1_31 : decode method_2_code 31 = .ok (.getstatic 19, 3) := by decide +kernel
theorem d1_34 : decode method_2_code 34 = .ok (.areturn, 1) := by decide +kernel
theorem d1_35 : decode method_2_code 35 = .ok (.iload_n 0, 1) := by decide +kernel
theorem d1_36 : decode method_2_code 36 = .ok (.iconst 4, 1) := by decide +kernel
theorem d1_37 : decode method_2_code 37 = .ok (.if_icmp .ne 7, 3) := by decide +kernel
theorem d1_40 : decode method_2_code 40 = .ok (.getstatic 22, 3) := by decide +kernel
theorem d1_43 : decode method_2_code 43 = .ok (.areturn, 1) := by decide +kernel
theorem d1_44 : decode method_2_code 44 = .ok (.iload_n 0, 1) := by decide +kernel
theorem d1_45 : decode method_2_code 45 = .ok (.iconst 5, 1) := by decide +kernel
theorem d1_46 : decode method_2_code 46 = .ok (.if_icmp .ne 7, 3) := by decide +kernel
theorem d1_49 : decode method_2_code 49 = .ok (.getstatic 25, 3) := by decide +kernel
theorem d1_52 : decode method_2_code 52 = .ok (.areturn, 1) := by decide +kernel
theorem d1_53 : decode method_2_code 53 = .ok (.iload_n 0, 1) := by decide +kernel
theorem d1_54 : decode method_2_code 54 = .ok (.bipush 6, 2) := by decide +kernel
theorem d1_56 : decode method_2_code 56 = .ok (.if_icmp .ne 7, 3) := by decide +kernel
theorem d1_59 : decode method_2_code 59 = .ok (.getstatic 28, 3) := by decide +kernel
theorem d1_62 : decode method_2_code 62 = .ok (.areturn, 1) := by decide +kernel
theorem d1_63 : decode method_2_code 63 = .ok (.getstatic 31, 3) := by decide +kernel
theorem d1_66 : decode method_2_code 66 = .ok (.areturn, 1) := by decide +kernel
theorem d2_0 : decode prog_42_method_10_code 0 = .ok (.aload_n 0, 1) := by decide +kernel
theorem d2_1 : decode prog_42_method_10_code 1 = .ok (.getstatic 10, 3) := by decide +kernel
theorem d2_4 : decode prog_42_method_10_code 4 = .ok (.if_acmp .eq 10, 3) := by decide +kernel
theorem d2_14 : decode prog_42_method_10_code 14 = .ok (.iconst 1, 1) := by decide +kernel
theorem d2_15 : decode prog_42_method_10_code 15 = .ok (.goto 4, 3) := by decide +kernel
theorem d2_19 : decode prog_42_method_10_code 19 = .ok (.ireturn, 1) := by decide +kernel
theorem d2_7 : decode prog_42_method_10_code 7 = .ok (.aload_n 0, 1) := by decide +kernel
theorem d2_8 : decode prog_42_method_10_code 8 = .ok (.getstatic 13, 3) := by decide +kernel
theorem d2_11 : decode prog_42_method_10_code 11 = .ok (.if_acmp .ne 7, 3) := by decide +kernel
theorem d2_18 : decode prog_42_method_10_code 18 = .ok (.iconst 0, 1) := by decide +kernel
theorem pn_0 : plainName "com/example/serialis/serialis/KindEndsTransactionPinLaw" = true := by first | (simp [plainName, overriddenIn]; done) | decide +kernel
theorem pn_1 : plainName "com/example/serialis/serialis/LogRecord$Kind" = true := by first | (simp [plainName, overriddenIn]; done) | decide +kernel
theorem pd_0 : parseMethodDescriptor "(I)Lcom/example/serialis/serialis/LogRecord$Kind;" = some ⟨[.int], some (.object "com/example/serialis/serialis/LogRecord$Kind")⟩ := by decide +kernel
theorem pd_1 : parseMethodDescriptor "()Z" = some ⟨[], some .boolean⟩ := by decide +kernel
def QP0 (Z : State) (p1 : Int32) (k0 : Addr) (h0 : Heap) (n0 : Nat) (v : Option Value) (h : Heap) (L : List Loc) : Prop := v = some (.ref k0) ∧ Fr n0 L ∧ h = h0
theorem ef_P0 (m : MethodId) (p1 : Int32) : entryFrame m #[(.int p1)] 1 = mkF m 0 #[.val (.int p1)] [] := by first | (simp [entryFrame, mkF, argsToLocals, Value.category]; done) | rfl
set_option maxRecDepth 65536 in
set_option maxHeartbeats 40000000 in
theorem rmP0 (l : Launch) (Z : State) (a0 : Array Value) (hw : ∀ d ∈ tables_1, d.before a0 Z = true) (ws : List Jvm.Cond) (p1 : Int32) (k0 : Addr) (h0 : Heap) (n0 : Nat) (Zs : n0 ≤ h0.size) (hp0 : p1 = (0 : Int32)) (S_DUMP : Sta Z h0 "com/example/serialis/serialis/LogRecord$Kind" "DUMP" "Lcom/example/serialis/serialis/LogRecord$Kind;" (.ref k0)) :
    MetFree l (⟨"com/example/serialis/serialis/KindEndsTransactionPinLaw", "pick", "(I)Lcom/example/serialis/serialis/LogRecord$Kind;"⟩ : MethodName) (head1 (Jvm.Cond.code (⟨"com/example/serialis/serialis/KindEndsTransactionPinLaw", "pick", "(I)Lcom/example/serialis/serialis/LogRecord$Kind;"⟩ : MethodName) method_2_code 1 (some (.object "com/example/serialis/serialis/LogRecord$Kind")) :: ws) ({ frames := 0, cells := 0, slots := 0, locals := 0 } : Room)) (fun a U => a = #[(.int p1)] ∧ Z.Warmed39 U.vm ∧ U.heap = h0) (fun _ _ _ _ _ => True) (fun _ U o U' => ∃ v L, o = .returned v ∧ QP0 Z p1 k0 h0 n0 v U'.heap L ∧ FrameEnd U o U' L ({ frames := 0, cells := 0, slots := 0, locals := 0 } : Room).cells ({ frames := 0, cells := 0, slots := 0, locals := 0 } : Room).slots) := by
  refine MetFree.of_bodySF (plainFor_of_name pn_0) hisR ?_
  intro p e s m args below meth c s₁ Bd hml0 hP hK
  obtain ⟨rfl, hZ, hh⟩ := hP
  have hx := Bd.exec
  have hby := Bd.bytes
  have hml : c.maxLocals = 1 := hml0
  have hown : s.vm.findClass "com/example/serialis/serialis/KindEndsTransactionPinLaw" = some m.cls := findClass_of_methodNamed Bd.named
  have hnm := (name_of_methodNamed Bd.named Bd.method).1
  have X0 : Stand p l e ({ frames := 0, cells := 0, slots := 0, locals := 0 } : Room) s m #[(.int p1)] below meth c s₁ [] 0 0 := Stand.of_body Bd
  have e0 : s₁.heap = h0 := by rw [← hh, Bd.state]; rfl
  have N0 := Fr.nil n0
  have pre0 : ∀ t, Steps p.tables e below (s₁.setTop (mkF m 0 #[.val (.int p1)] [])) t → Steps p.tables e below (s₁.setTop (entryFrame m #[(.int p1)] 1)) t := fun t k => castTop (ef_P0 m p1) k
  obtain ⟨T1, X1, e1, st1⟩ := getS2 X0 hx hZ hown (host := "") (Or.inl (hw _ (List.mem_of_getElem? (i := 4) rfl))) Via.refl e0 S_DUMP (g := (mkF m 4 #[.val (.int p1)] [])) rfl (hb hby d1_4)
  obtain ⟨fs, hr, hrun, hended, hW, hsame⟩ := X1.leave (v := some (.ref k0)) (fun h => by rw [Bd.returns] at h; cases h)
  refine ⟨_, _, pre0 _ ?_, hrun, hended, _, _, rfl, ?_, ⟨_, rfl⟩, hW, hsame.mono (by decide) (by decide)⟩
  · show Steps p.tables e below (s₁.setTop (mkF m 0 #[.val (.int p1)] [])) _
    refine XS.iloadN X0.here hx rfl (hb hby d1_0) rfl ?_
    show Steps p.tables e below (s₁.setTop (mkF m 1 #[.val (.int p1)] [(.int p1)])) _
    refine XS.ifNo X0.here hx rfl (hb hby d1_1) rfl ((if0 _ _).trans (teq hp0).2) ?_
    show Steps p.tables e below (s₁.setTop (mkF m 4 #[.val (.int p1)] [])) _
    refine st1 _ ?_
    show Steps p.tables e below (T1.setTop (mkF m 7 #[.val (.int p1)] [(.ref k0)])) _
    exact retOut X1 hx Bd.returns rfl (Or.inr (Or.inr (Or.inr (Or.inr ⟨rfl, rfl, rfl⟩)))) (hb hby d1_7) hr
  · show QP0 Z p1 k0 h0 n0 _ T1.heap _
    rw [e1]
    exact ⟨rfl, N0, rfl⟩
def QP1 (Z : State) (p1 : Int32) (k1 : Addr) (h0 : Heap) (n0 : Nat) (v : Option Value) (h : Heap) (L : List Loc) : Prop := v = some (.ref k1) ∧ Fr n0 L ∧ h = h0
theorem ef_P1 (m : MethodId) (p1 : Int32) : entryFrame m #[(.int p1)] 1 = mkF m 0 #[.val (.int p1)] [] := by first | (simp [entryFrame, mkF, argsToLocals, Value.category]; done) | rfl
set_option maxRecDepth 65536 in
set_option maxHeartbeats 40000000 in
theorem rmP1 (l : Launch) (Z : State) (a0 : Array Value) (hw : ∀ d ∈ tables_1, d.before a0 Z = true) (ws : List Jvm.Cond) (p1 : Int32) (k1 : Addr) (h0 : Heap) (n0 : Nat) (Zs : n0 ≤ h0.size) (hp0 : ¬ p1 = (0 : Int32)) (hp1 : p1 = (1 : Int32)) (S_BEGIN : Sta Z h0 "com/example/serialis/serialis/LogRecord$Kind" "BEGIN" "Lcom/example/serialis/serialis/LogRecord$Kind;" (.ref k1)) :
    MetFree l (⟨"com/example/serialis/serialis/KindEndsTransactionPinLaw", "pick", "(I)Lcom/example/serialis/serialis/LogRecord$Kind;"⟩ : MethodName) (head1 (Jvm.Cond.code (⟨"com/example/serialis/serialis/KindEndsTransactionPinLaw", "pick", "(I)Lcom/example/serialis/serialis/LogRecord$Kind;"⟩ : MethodName) method_2_code 1 (some (.object "com/example/serialis/serialis/LogRecord$Kind")) :: ws) ({ frames := 0, cells := 0, slots := 0, locals := 0 } : Room)) (fun a U => a = #[(.int p1)] ∧ Z.Warmed39 U.vm ∧ U.heap = h0) (fun _ _ _ _ _ => True) (fun _ U o U' => ∃ v L, o = .returned v ∧ QP1 Z p1 k1 h0 n0 v U'.heap L ∧ FrameEnd U o U' L ({ frames := 0, cells := 0, slots := 0, locals := 0 } : Room).cells ({ frames := 0, cells := 0, slots := 0, locals := 0 } : Room).slots) := by
  refine MetFree.of_bodySF (plainFor_of_name pn_0) hisR ?_
  intro p e s m args below meth c s₁ Bd hml0 hP hK
  obtain ⟨rfl, hZ, hh⟩ := hP
  have hx := Bd.exec
  have hby := Bd.bytes
  have hml : c.maxLocals = 1 := hml0
  have hown : s.vm.findClass "com/example/serialis/serialis/KindEndsTransactionPinLaw" = some m.cls := findClass_of_methodNamed Bd.named
  have hnm := (name_of_methodNamed Bd.named Bd.method).1
  have X0 : Stand p l e ({ frames := 0, cells := 0, slots := 0, locals := 0 } : Room) s m #[(.int p1)] below meth c s₁ [] 0 0 := Stand.of_body Bd
  have e0 : s₁.heap = h0 := by rw [← hh, Bd.state]; rfl
  have N0 := Fr.nil n0
  have pre0 : ∀ t, Steps p.tables e below (s₁.setTop (mkF m 0 #[.val (.int p1)] [])) t → Steps p.tables e below (s₁.setTop (entryFrame m #[(.int p1)] 1)) t := fun t k => castTop (ef_P1 m p1) k
  obtain ⟨T2, X2, e2, st2⟩ := getS2 X0 hx hZ hown (host := "") (Or.inl (hw _ (List.mem_of_getElem? (i := 22) rfl))) Via.refl e0 S_BEGIN (g := (mkF m 13 #[.val (.int p1)] [])) rfl (hb hby d1_13)
  obtain ⟨fs, hr, hrun, hended, hW, hsame⟩ := X2.leave (v := some (.ref k1)) (fun h => by rw [Bd.returns] at h; cases h)
  refine ⟨_, _, pre0 _ ?_, hrun, hended, _, _, rfl, ?_, ⟨_, rfl⟩, hW, hsame.mono (by decide) (by decide)⟩
  · show Steps p.tables e below (s₁.setTop (mkF m 0 #[.val (.int p1)] [])) _
    refine XS.iloadN X0.here hx rfl (hb hby d1_0) rfl ?_
    show Steps p.tables e below (s₁.setTop (mkF m 1 #[.val (.int p1)] [(.int p1)])) _
    refine XS.ifYes X0.here hx rfl (pc0 := 1) (pc' := 8) rfl (hb hby d1_1) rfl ((if0 _ _).trans (feq hp0).2) (by decide) (by decide) ?_
    show Steps p.tables e below (s₁.setTop (mkF m 8 #[.val (.int p1)] [])) _
    refine XS.iloadN X0.here hx rfl (hb hby d1_8) rfl ?_
    show Steps p.tables e below (s₁.setTop (mkF m 9 #[.val (.int p1)] [(.int p1)])) _
    refine XS.iconst X0.here hx rfl (hb hby d1_9) ?_
    show Steps p.tables e below (s₁.setTop (mkF m 10 #[.val (.int p1)] [(.int (1 : Int32)), (.int p1)])) _
    refine XS.icmpNo X0.here hx rfl (hb hby d1_10) rfl (teq hp1).2 ?_
    show Steps p.tables e below (s₁.setTop (mkF m 13 #[.val (.int p1)] [])) _
    refine st2 _ ?_
    show Steps p.tables e below (T2.setTop (mkF m 16 #[.val (.int p1)] [(.ref k1)])) _
    exact retOut X2 hx Bd.returns rfl (Or.inr (Or.inr (Or.inr (Or.inr ⟨rfl, rfl, rfl⟩)))) (hb hby d1_16) hr
  · show QP1 Z p1 k1 h0 n0 _ T2.heap _
    rw [e2]
    exact ⟨rfl, N0, rfl⟩
def QP2 (Z : State) (p1 : Int32) (k2 : Addr) (h0 : Heap) (n0 : Nat) (v : Option Value) (h : Heap) (L : List Loc) : Prop := v = some (.ref k2) ∧ Fr n0 L ∧ h = h0
theorem ef_P2 (m : MethodId) (p1 : Int32) : entryFrame m #[(.int p1)] 1 = mkF m 0 #[.val (.int p1)] [] := by first | (simp [entryFrame, mkF, argsToLocals, Value.category]; done) | rfl
set_option maxRecDepth 65536 in
set_option maxHeartbeats 40000000 in
theorem rmP2 (l : Launch) (Z : State) (a0 : Array Value) (hw : ∀ d ∈ tables_1, d.before a0 Z = true) (ws : List Jvm.Cond) (p1 : Int32) (k2 : Addr) (h0 : Heap) (n0 : Nat) (Zs : n0 ≤ h0.size) (hp0 : ¬ p1 = (0 : Int32)) (hp1 : ¬ p1 = (1 : Int32)) (hp2 : p1 = (2 : Int32)) (S_COMMIT : Sta Z h0 "com/example/serialis/serialis/LogRecord$Kind" "COMMIT" "Lcom/example/serialis/serialis/LogRecord$Kind;" (.ref k2)) :
    MetFree l (⟨"com/example/serialis/serialis/KindEndsTransactionPinLaw", "pick", "(I)Lcom/example/serialis/serialis/LogRecord$Kind;"⟩ : MethodName) (head1 (Jvm.Cond.code (⟨"com/example/serialis/serialis/KindEndsTransactionPinLaw", "pick", "(I)Lcom/example/serialis/serialis/LogRecord$Kind;"⟩ : MethodName) method_2_code 1 (some (.object "com/example/serialis/serialis/LogRecord$Kind")) :: ws) ({ frames := 0, cells := 0, slots := 0, locals := 0 } : Room)) (fun a U => a = #[(.int p1)] ∧ Z.Warmed39 U.vm ∧ U.heap = h0) (fun _ _ _ _ _ => True) (fun _ U o U' => ∃ v L, o = .returned v ∧ QP2 Z p1 k2 h0 n0 v U'.heap L ∧ FrameEnd U o U' L ({ frames := 0, cells := 0, slots := 0, locals := 0 } : Room).cells ({ frames := 0, cells := 0, slots := 0, locals := 0 } : Room).slots) := by
  refine MetFree.of_bodySF (plainFor_of_name pn_0) hisR ?_
  intro p e s m args below meth c s₁ Bd hml0 hP hK
  obtain ⟨rfl, hZ, hh⟩ := hP
  have hx := Bd.exec
  have hby := Bd.bytes
  have hml : c.maxLocals = 1 := hml0
  have hown : s.vm.findClass "com/example/serialis/serialis/KindEndsTransactionPinLaw" = some m.cls := findClass_of_methodNamed Bd.named
  have hnm := (name_of_methodNamed Bd.named Bd.method).1
  have X0 : Stand p l e ({ frames := 0, cells := 0, slots := 0, locals := 0 } : Room) s m #[(.int p1)] below meth c s₁ [] 0 0 := Stand.of_body Bd
  have e0 : s₁.heap = h0 := by rw [← hh, Bd.state]; rfl
  have N0 := Fr.nil n0
  have pre0 : ∀ t, Steps p.tables e below (s₁.setTop (mkF m 0 #[.val (.int p1)] [])) t → Steps p.tables e below (s₁.setTop (entryFrame m #[(.int p1)] 1)) t := fun t k => castTop (ef_P2 m p1) k
  obtain ⟨T3, X3, e3, st3⟩ := getS2 X0 hx hZ hown (host := "") (Or.inl (hw _ (List.mem_of_getElem? (i := 21) rfl))) Via.refl e0 S_COMMIT (g := (mkF m 22 #[.val (.int p1)] [])) rfl (hb hby d1_22)
  obtain ⟨fs, hr, hrun, hended, hW, hsame⟩ := X3.leave (v := some (.ref k2)) (fun h => by rw [Bd.returns] at h; cases h)
  refine ⟨_, _, pre0 _ ?_, hrun, hended, _, _, rfl, ?_, ⟨_, rfl⟩, hW, hsame.mono (by decide) (by decide)⟩
  · show Steps p.tables e below (s₁.setTop (mkF m 0 #[.val (.int p1)] [])) _
    refine XS.iloadN X0.here hx rfl (hb hby d1_0) rfl ?_
    show Steps p.tables e below (s₁.setTop (mkF m 1 #[.val (.int p1)] [(.int p1)])) _
    refine XS.ifYes X0.here hx rfl (pc0 := 1) (pc' := 8) rfl (hb hby d1_1) rfl ((if0 _ _).trans (feq hp0).2) (by decide) (by decide) ?_
    show Steps p.tables e below (s₁.setTop (mkF m 8 #[.val (.int p1)] [])) _
    refine XS.iloadN X0.here hx rfl (hb hby d1_8) rfl ?_
    show Steps p.tables e below (s₁.setTop (mkF m 9 #[.val (.int p1)] [(.int p1)])) _
    refine XS.iconst X0.here hx rfl (hb hby d1_9) ?_
    show Steps p.tables e below (s₁.setTop (mkF m 10 #[.val (.int p1)] [(.int (1 : Int32)), (.int p1)])) _
    refine XS.icmpYes X0.here hx rfl (pc0 := 10) (pc' := 17) rfl (hb hby d1_10) rfl (feq hp1).2 (by decide) (by decide) ?_
    show Steps p.tables e below (s₁.setTop (mkF m 17 #[.val (.int p1)] [])) _
    refine XS.iloadN X0.here hx rfl (hb hby d1_17) rfl ?_
    show Steps p.tables e below (s₁.setTop (mkF m 18 #[.val (.int p1)] [(.int p1)])) _
    refine XS.iconst X0.here hx rfl (hb hby d1_18) ?_
    show Steps p.tables e below (s₁.setTop (mkF m 19 #[.val (.int p1)] [(.int (2 : Int32)), (.int p1)])) _
    refine XS.icmpNo X0.here hx rfl (hb hby d1_19) rfl (teq hp2).2 ?_
    show Steps p.tables e below (s₁.setTop (mkF m 22 #[.val (.int p1)] [])) _
    refine st3 _ ?_
    show Steps p.tables e below (T3.setTop (mkF m 25 #[.val (.int p1)] [(.ref k2)])) _
    exact retOut X3 hx Bd.returns rfl (Or.inr (Or.inr (Or.inr (Or.inr ⟨rfl, rfl, rfl⟩)))) (hb hby d1_25) hr
  · show QP2 Z p1 k2 h0 n0 _ T3.heap _
    rw [e3]
    exact ⟨rfl, N0, rfl⟩
def QP3 (Z : State) (p1 : Int32) (k3 : Addr) (h0 : Heap) (n0 : Nat) (v : Option Value) (h : Heap) (L : List Loc) : Prop := v = some (.ref k3) ∧ Fr n0 L ∧ h = h0
theorem ef_P3 (m : MethodId) (p1 : Int32) : entryFrame m #[(.int p1)] 1 = mkF m 0 #[.val (.int p1)] [] := by first | (simp [entryFrame, mkF, argsToLocals, Value.category]; done) | rfl
set_option maxRecDepth 65536 in
set_option maxHeartbeats 40000000 in
theorem rmP3 (l : Launch) (Z : State) (a0 : Array Value) (hw : ∀ d ∈ tables_1, d.before a0 Z = true) (ws : List Jvm.Cond) (p1 : Int32) (k3 : Addr) (h0 : Heap) (n0 : Nat) (Zs : n0 ≤ h0.size) (hp0 : ¬ p1 = (0 : Int32)) (hp1 : ¬ p1 = (1 : Int32)) (hp2 : ¬ p1 = (2 : Int32)) (hp3 : p1 = (3 : Int32)) (S_ABORT : Sta Z h0 "com/example/serialis/serialis/LogRecord$Kind" "ABORT" "Lcom/example/serialis/serialis/LogRecord$Kind;" (.ref k3)) :
    MetFree l (⟨"com/example/serialis/serialis/KindEndsTransactionPinLaw", "pick", "(I)Lcom/example/serialis/serialis/LogRecord$Kind;"⟩ : MethodName) (head1 (Jvm.Cond.code (⟨"com/example/serialis/serialis/KindEndsTransactionPinLaw", "pick", "(I)Lcom/example/serialis/serialis/LogRecord$Kind;"⟩ : MethodName) method_2_code 1 (some (.object "com/example/serialis/serialis/LogRecord$Kind")) :: ws) ({ frames := 0, cells := 0, slots := 0, locals := 0 } : Room)) (fun a U => a = #[(.int p1)] ∧ Z.Warmed39 U.vm ∧ U.heap = h0) (fun _ _ _ _ _ => True) (fun _ U o U' => ∃ v L, o = .returned v ∧ QP3 Z p1 k3 h0 n0 v U'.heap L ∧ FrameEnd U o U' L ({ frames := 0, cells := 0, slots := 0, locals := 0 } : Room).cells ({ frames := 0, cells := 0, slots := 0, locals := 0 } : Room).slots) := by
  refine MetFree.of_bodySF (plainFor_of_name pn_0) hisR ?_
  intro p e s m args below meth c s₁ Bd hml0 hP hK
  obtain ⟨rfl, hZ, hh⟩ := hP
  have hx := Bd.exec
  have hby := Bd.bytes
  have hml : c.maxLocals = 1 := hml0
  have hown : s.vm.findClass "com/example/serialis/serialis/KindEndsTransactionPinLaw" = some m.cls := findClass_of_methodNamed Bd.named
  have hnm := (name_of_methodNamed Bd.named Bd.method).1
  have X0 : Stand p l e ({ frames := 0, cells := 0, slots := 0, locals := 0 } : Room) s m #[(.int p1)] below meth c s₁ [] 0 0 := Stand.of_body Bd
  have e0 : s₁.heap = h0 := by rw [← hh, Bd.state]; rfl
  have N0 := Fr.nil n0
  have pre0 : ∀ t, Steps p.tables e below (s₁.setTop (mkF m 0 #[.val (.int p1)] [])) t → Steps p.tables e below (s₁.setTop (entryFrame m #[(.int p1)] 1)) t := fun t k => castTop (ef_P3 m p1) k
  obtain ⟨T4, X4, e4, st4⟩ := getS2 X0 hx hZ hown (host := "") (Or.inl (hw _ (List.mem_of_getElem? (i := 16) rfl))) Via.refl e0 S_ABORT (g := (mkF m 31 #[.val (.int p1)] [])) rfl (hb hby d1_31)
  obtain ⟨fs, hr, hrun, hended, hW, hsame⟩ := X4.leave (v := some (.ref k3)) (fun h => by rw [Bd.returns] at h; cases h)
  refine ⟨_, _, pre0 _ ?_, hrun, hended, _, _, rfl, ?_, ⟨_, rfl⟩, hW, hsame.mono (by decide) (by decide)⟩
  · show Steps p.tables e below (s₁.setTop (mkF m 0 #[.val (.int p1)] [])) _
    refine XS.iloadN X0.here hx rfl (hb hby d1_0) rfl ?_
    show Steps p.tables e below (s₁.setTop (mkF m 1 #[.val (.int p1)] [(.int p1)])) _
    refine XS.ifYes X0.here hx rfl (pc0 := 1) (pc' := 8) rfl (hb hby d1_1) rfl ((if0 _ _).trans (feq hp0).2) (by decide) (by decide) ?_
    show Steps p.tables e below (s₁.setTop (mkF m 8 #[.val (.int p1)] [])) _
    refine XS.iloadN X0.here hx rfl (hb hby d1_8) rfl ?_
    show Steps p.tables e below (s₁.setTop (mkF m 9 #[.val (.int p1)] [(.int p1)])) _
    refine XS.iconst X0.here hx rfl (hb hby d1_9) ?_
    show Steps p.tables e below (s₁.setTop (mkF m 10 #[.val (.int p1)] [(.int (1 : Int32)), (.int p1)])) _
    refine XS.icmpYes X0.here hx rfl (pc0 := 10) (pc' := 17) rfl (hb hby d1_10) rfl (feq hp1).2 (by decide) (by decide) ?_
    show Steps p.tables e below (s₁.setTop (mkF m 17 #[.val (.int p1)] [])) _
    refine XS.iloadN X0.here hx rfl (hb hby d1_17) rfl ?_
    show Steps p.tables e below (s₁.setTop (mkF m 18 #[.val (.int p1)] [(.int p1)])) _
    refine XS.iconst X0.here hx rfl (hb hby d1_18) ?_
    show Steps p.tables e below (s₁.setTop (mkF m 19 #[.val (.int p1)] [(.int (2 : Int32)), (.int p1)])) _
    refine XS.icmpYes X0.here hx rfl (pc0 := 19) (pc' := 26) rfl (hb hby d1_19) rfl (feq hp2).2 (by decide) (by decide) ?_
    show Steps p.tables e below (s₁.setTop (mkF m 26 #[.val (.int p1)] [])) _
    refine XS.iloadN X0.here hx rfl (hb hby d1_26) rfl ?_
    show Steps p.tables e below (s₁.setTop (mkF m 27 #[.val (.int p1)] [(.int p1)])) _
    refine XS.iconst X0.here hx rfl (hb hby d1_27) ?_
    show Steps p.tables e below (s₁.setTop (mkF m 28 #[.val (.int p1)] [(.int (3 : Int32)), (.int p1)])) _
    refine XS.icmpNo X0.here hx rfl (hb hby d1_28) rfl (teq hp3).2 ?_
    show Steps p.tables e below (s₁.setTop (mkF m 31 #[.val (.int p1)] [])) _
    refine st4 _ ?_
    show Steps p.tables e below (T4.setTop (mkF m 34 #[.val (.int p1)] [(.ref k3)])) _
    exact retOut X4 hx Bd.returns rfl (Or.inr (Or.inr (Or.inr (Or.inr ⟨rfl, rfl, rfl⟩)))) (hb hby d1_34) hr
  · show QP3 Z p1 k3 h0 n0 _ T4.heap _
    rw [e4]
    exact ⟨rfl, N0, rfl⟩
def QP4 (Z : State) (p1 : Int32) (k4 : Addr) (h0 : Heap) (n0 : Nat) (v : Option Value) (h : Heap) (L : List Loc) : Prop := v = some (.ref k4) ∧ Fr n0 L ∧ h = h0
theorem ef_P4 (m : MethodId) (p1 : Int32) : entryFrame m #[(.int p1)] 1 = mkF m 0 #[.val (.int p1)] [] := by first | (simp [entryFrame, mkF, argsToLocals, Value.category]; done) | rfl
set_option maxRecDepth 65536 in
set_option maxHeartbeats 40000000 in
theorem rmP4 (l : Launch) (Z : State) (a0 : Array Value) (hw : ∀ d ∈ tables_1, d.before a0 Z = true) (ws : List Jvm.Cond) (p1 : Int32) (k4 : Addr) (h0 : Heap) (n0 : Nat) (Zs : n0 ≤ h0.size) (hp0 : ¬ p1 = (0 : Int32)) (hp1 : ¬ p1 = (1 : Int32)) (hp2 : ¬ p1 = (2 : Int32)) (hp3 : ¬ p1 = (3 : Int32)) (hp4 : p1 = (4 : Int32)) (S_INSERT : Sta Z h0 "com/example/serialis/serialis/LogRecord$Kind" "INSERT" "Lcom/example/serialis/serialis/LogRecord$Kind;" (.ref k4)) :
    MetFree l (⟨"com/example/serialis/serialis/KindEndsTransactionPinLaw", "pick", "(I)Lcom/example/serialis/serialis/LogRecord$Kind;"⟩ : MethodName) (head1 (Jvm.Cond.code (⟨"com/example/serialis/serialis/KindEndsTransactionPinLaw", "pick", "(I)Lcom/example/serialis/serialis/LogRecord$Kind;"⟩ : MethodName) method_2_code 1 (some (.object "com/example/serialis/serialis/LogRecord$Kind")) :: ws) ({ frames := 0, cells := 0, slots := 0, locals := 0 } : Room)) (fun a U => a = #[(.int p1)] ∧ Z.Warmed39 U.vm ∧ U.heap = h0) (fun _ _ _ _ _ => True) (fun _ U o U' => ∃ v L, o = .returned v ∧ QP4 Z p1 k4 h0 n0 v U'.heap L ∧ FrameEnd U o U' L ({ frames := 0, cells := 0, slots := 0, locals := 0 } : Room).cells ({ frames := 0, cells := 0, slots := 0, locals := 0 } : Room).slots) := by
  refine MetFree.of_bodySF (plainFor_of_name pn_0) hisR ?_
  intro p e s m args below meth c s₁ Bd hml0 hP hK
  obtain ⟨rfl, hZ, hh⟩ := hP
  have hx := Bd.exec
  have hby := Bd.bytes
  have hml : c.maxLocals = 1 := hml0
  have hown : s.vm.findClass "com/example/serialis/serialis/KindEndsTransactionPinLaw" = some m.cls := findClass_of_methodNamed Bd.named
  have hnm := (name_of_methodNamed Bd.named Bd.method).1
  have X0 : Stand p l e ({ frames := 0, cells := 0, slots := 0, locals := 0 } : Room) s m #[(.int p1)] below meth c s₁ [] 0 0 := Stand.of_body Bd
  have e0 : s₁.heap = h0 := by rw [← hh, Bd.state]; rfl
  have N0 := Fr.nil n0
  have pre0 : ∀ t, Steps p.tables e below (s₁.setTop (mkF m 0 #[.val (.int p1)] [])) t → Steps p.tables e below (s₁.setTop (entryFrame m #[(.int p1)] 1)) t := fun t k => castTop (ef_P4 m p1) k
  obtain ⟨T5, X5, e5, st5⟩ := getS2 X0 hx hZ hown (host := "") (Or.inl (hw _ (List.mem_of_getElem? (i := 24) rfl))) Via.refl e0 S_INSERT (g := (mkF m 40 #[.val (.int p1)] [])) rfl (hb hby d1_40)
  obtain ⟨fs, hr, hrun, hended, hW, hsame⟩ := X5.leave (v := some (.ref k4)) (fun h => by rw [Bd.returns] at h; cases h)
  refine ⟨_, _, pre0 _ ?_, hrun, hended, _, _, rfl, ?_, ⟨_, rfl⟩, hW, hsame.mono (by decide) (by decide)⟩
  · show Steps p.tables e below (s₁.setTop (mkF m 0 #[.val (.int p1)] [])) _
    refine XS.iloadN X0.here hx rfl (hb hby d1_0) rfl ?_
    show Steps p.tables e below (s₁.setTop (mkF m 1 #[.val (.int p1)] [(.int p1)])) _
    refine XS.ifYes X0.here hx rfl (pc0 := 1) (pc' := 8) rfl (hb hby d1_1) rfl ((if0 _ _).trans (feq hp0).2) (by decide) (by decide) ?_
    show Steps p.tables e below (s₁.setTop (mkF m 8 #[.val (.int p1)] [])) _
    refine XS.iloadN X0.here hx rfl (hb hby d1_8) rfl ?_
    show Steps p.tables e below (s₁.setTop (mkF m 9 #[.val (.int p1)] [(.int p1)])) _
    refine XS.iconst X0.here hx rfl (hb hby d1_9) ?_
    show Steps p.tables e below (s₁.setTop (mkF m 10 #[.val (.int p1)] [(.int (1 : Int32)), (.int p1)])) _
    refine XS.icmpYes X0.here hx rfl (pc0 := 10) (pc' := 17) rfl (hb hby d1_10) rfl (feq hp1).2 (by decide) (by decide) ?_
    show Steps p.tables e below (s₁.setTop (mkF m 17 #[.val (.int p1)] [])) _
    refine XS.iloadN X0.here hx rfl (hb hby d1_17) rfl ?_
    show Steps p.tables e below (s₁.setTop (mkF m 18 #[.val (.int p1)] [(.int p1)])) _
    refine XS.iconst X0.here hx rfl (hb hby d1_18) ?_
    show Steps p.tables e below (s₁.setTop (mkF m 19 #[.val (.int p1)] [(.int (2 : Int32)), (.int p1)])) _
    refine XS.icmpYes X0.here hx rfl (pc0 := 19) (pc' := 26) rfl (hb hby d1_19) rfl (feq hp2).2 (by decide) (by decide) ?_
    show Steps p.tables e below (s₁.setTop (mkF m 26 #[.val (.int p1)] [])) _
    refine XS.iloadN X0.here hx rfl (hb hby d1_26) rfl ?_
    show Steps p.tables e below (s₁.setTop (mkF m 27 #[.val (.int p1)] [(.int p1)])) _
    refine XS.iconst X0.here hx rfl (hb hby d1_27) ?_
    show Steps p.tables e below (s₁.setTop (mkF m 28 #[.val (.int p1)] [(.int (3 : Int32)), (.int p1)])) _
    refine XS.icmpYes X0.here hx rfl (pc0 := 28) (pc' := 35) rfl (hb hby d1_28) rfl (feq hp3).2 (by decide) (by decide) ?_
    show Steps p.tables e below (s₁.setTop (mkF m 35 #[.val (.int p1)] [])) _
    refine XS.iloadN X0.here hx rfl (hb hby d1_35) rfl ?_
    show Steps p.tables e below (s₁.setTop (mkF m 36 #[.val (.int p1)] [(.int p1)])) _
    refine XS.iconst X0.here hx rfl (hb hby d1_36) ?_
    show Steps p.tables e below (s₁.setTop (mkF m 37 #[.val (.int p1)] [(.int (4 : Int32)), (.int p1)])) _
    refine XS.icmpNo X0.here hx rfl (hb hby d1_37) rfl (teq hp4).2 ?_
    show Steps p.tables e below (s₁.setTop (mkF m 40 #[.val (.int p1)] [])) _
    refine st5 _ ?_
    show Steps p.tables e below (T5.setTop (mkF m 43 #[.val (.int p1)] [(.ref k4)])) _
    exact retOut X5 hx Bd.returns rfl (Or.inr (Or.inr (Or.inr (Or.inr ⟨rfl, rfl, rfl⟩)))) (hb hby d1_43) hr
  · show QP4 Z p1 k4 h0 n0 _ T5.heap _
    rw [e5]
    exact ⟨rfl, N0, rfl⟩
def QP5 (Z : State) (p1 : Int32) (k5 : Addr) (h0 : Heap) (n0 : Nat) (v : Option Value) (h : Heap) (L : List Loc) : Prop := v = some (.ref k5) ∧ Fr n0 L ∧ h = h0
theorem ef_P5 (m : MethodId) (p1 : Int32) : entryFrame m #[(.int p1)] 1 = mkF m 0 #[.val (.int p1)] [] := by first | (simp [entryFrame, mkF, argsToLocals, Value.category]; done) | rfl
set_option maxRecDepth 65536 in
set_option maxHeartbeats 40000000 in
theorem rmP5 (l : Launch) (Z : State) (a0 : Array Value) (hw : ∀ d ∈ tables_1, d.before a0 Z = true) (ws : List Jvm.Cond) (p1 : Int32) (k5 : Addr) (h0 : Heap) (n0 : Nat) (Zs : n0 ≤ h0.size) (hp0 : ¬ p1 = (0 : Int32)) (hp1 : ¬ p1 = (1 : Int32)) (hp2 : ¬ p1 = (2 : Int32)) (hp3 : ¬ p1 = (3 : Int32)) (hp4 : ¬ p1 = (4 : Int32)) (hp5 : p1 = (5 : Int32)) (S_DELETE : Sta Z h0 "com/example/serialis/serialis/LogRecord$Kind" "DELETE" "Lcom/example/serialis/serialis/LogRecord$Kind;" (.ref k5)) :
    MetFree l (⟨"com/example/serialis/serialis/KindEndsTransactionPinLaw", "pick", "(I)Lcom/example/serialis/serialis/LogRecord$Kind;"⟩ : MethodName) (head1 (Jvm.Cond.code (⟨"com/example/serialis/serialis/KindEndsTransactionPinLaw", "pick", "(I)Lcom/example/serialis/serialis/LogRecord$Kind;"⟩ : MethodName) method_2_code 1 (some (.object "com/example/serialis/serialis/LogRecord$Kind")) :: ws) ({ frames := 0, cells := 0, slots := 0, locals := 0 } : Room)) (fun a U => a = #[(.int p1)] ∧ Z.Warmed39 U.vm ∧ U.heap = h0) (fun _ _ _ _ _ => True) (fun _ U o U' => ∃ v L, o = .returned v ∧ QP5 Z p1 k5 h0 n0 v U'.heap L ∧ FrameEnd U o U' L ({ frames := 0, cells := 0, slots := 0, locals := 0 } : Room).cells ({ frames := 0, cells := 0, slots := 0, locals := 0 } : Room).slots) := by
  refine MetFree.of_bodySF (plainFor_of_name pn_0) hisR ?_
  intro p e s m args below meth c s₁ Bd hml0 hP hK
  obtain ⟨rfl, hZ, hh⟩ := hP
  have hx := Bd.exec
  have hby := Bd.bytes
  have hml : c.maxLocals = 1 := hml0
  have hown : s.vm.findClass "com/example/serialis/serialis/KindEndsTransactionPinLaw" = some m.cls := findClass_of_methodNamed Bd.named
  have hnm := (name_of_methodNamed Bd.named Bd.method).1
  have X0 : Stand p l e ({ frames := 0, cells := 0, slots := 0, locals := 0 } : Room) s m #[(.int p1)] below meth c s₁ [] 0 0 := Stand.of_body Bd
  have e0 : s₁.heap = h0 := by rw [← hh, Bd.state]; rfl
  have N0 := Fr.nil n0
  have pre0 : ∀ t, Steps p.tables e below (s₁.setTop (mkF m 0 #[.val (.int p1)] [])) t → Steps p.tables e below (s₁.setTop (entryFrame m #[(.int p1)] 1)) t := fun t k => castTop (ef_P5 m p1) k
  obtain ⟨T6, X6, e6, st6⟩ := getS2 X0 hx hZ hown (host := "") (Or.inl (hw _ (List.mem_of_getElem? (i := 26) rfl))) Via.refl e0 S_DELETE (g := (mkF m 49 #[.val (.int p1)] [])) rfl (hb hby d1_49)
  obtain ⟨fs, hr, hrun, hended, hW, hsame⟩ := X6.leave (v := some (.ref k5)) (fun h => by rw [Bd.returns] at h; cases h)
  refine ⟨_, _, pre0 _ ?_, hrun, hended, _, _, rfl, ?_, ⟨_, rfl⟩, hW, hsame.mono (by decide) (by decide)⟩
  · show Steps p.tables e below (s₁.setTop (mkF m 0 #[.val (.int p1)] [])) _
    refine XS.iloadN X0.here hx rfl (hb hby d1_0) rfl ?_
    show Steps p.tables e below (s₁.setTop (mkF m 1 #[.val (.int p1)] [(.int p1)])) _
    refine XS.ifYes X0.here hx rfl (pc0 := 1) (pc' := 8) rfl (hb hby d1_1) rfl ((if0 _ _).trans (feq hp0).2) (by decide) (by decide) ?_
    show Steps p.tables e below (s₁.setTop (mkF m 8 #[.val (.int p1)] [])) _
    refine XS.iloadN X0.here hx rfl (hb hby d1_8) rfl ?_
    show Steps p.tables e below (s₁.setTop (mkF m 9 #[.val (.int p1)] [(.int p1)])) _
    refine XS.iconst X0.here hx rfl (hb hby d1_9) ?_
    show Steps p.tables e below (s₁.setTop (mkF m 10 #[.val (.int p1)] [(.int (1 : Int32)), (.int p1)])) _
    refine XS.icmpYes X0.here hx rfl (pc0 := 10) (pc' := 17) rfl (hb hby d1_10) rfl (feq hp1).2 (by decide) (by decide) ?_
    show Steps p.tables e below (s₁.setTop (mkF m 17 #[.val (.int p1)] [])) _
    refine XS.iloadN X0.here hx rfl (hb hby d1_17) rfl ?_
    show Steps p.tables e below (s₁.setTop (mkF m 18 #[.val (.int p1)] [(.int p1)])) _
    refine XS.iconst X0.here hx rfl (hb hby d1_18) ?_
    show Steps p.tables e below (s₁.setTop (mkF m 19 #[.val (.int p1)] [(.int (2 : Int32)), (.int p1)])) _
    refine XS.icmpYes X0.here hx rfl (pc0 := 19) (pc' := 26) rfl (hb hby d1_19) rfl (feq hp2).2 (by decide) (by decide) ?_
    show Steps p.tables e below (s₁.setTop (mkF m 26 #[.val (.int p1)] [])) _
    refine XS.iloadN X0.here hx rfl (hb hby d1_26) rfl ?_
    show Steps p.tables e below (s₁.setTop (mkF m 27 #[.val (.int p1)] [(.int p1)])) _
    refine XS.iconst X0.here hx rfl (hb hby d1_27) ?_
    show Steps p.tables e below (s₁.setTop (mkF m 28 #[.val (.int p1)] [(.int (3 : Int32)), (.int p1)])) _
    refine XS.icmpYes X0.here hx rfl (pc0 := 28) (pc' := 35) rfl (hb hby d1_28) rfl (feq hp3).2 (by decide) (by decide) ?_
    show Steps p.tables e below (s₁.setTop (mkF m 35 #[.val (.int p1)] [])) _
    refine XS.iloadN X0.here hx rfl (hb hby d1_35) rfl ?_
    show Steps p.tables e below (s₁.setTop (mkF m 36 #[.val (.int p1)] [(.int p1)])) _
    refine XS.iconst X0.here hx rfl (hb hby d1_36) ?_
    show Steps p.tables e below (s₁.setTop (mkF m 37 #[.val (.int p1)] [(.int (4 : Int32)), (.int p1)])) _
    refine XS.icmpYes X0.here hx rfl (pc0 := 37) (pc' := 44) rfl (hb hby d1_37) rfl (feq hp4).2 (by decide) (by decide) ?_
    show Steps p.tables e below (s₁.setTop (mkF m 44 #[.val (.int p1)] [])) _
    refine XS.iloadN X0.here hx rfl (hb hby d1_44) rfl ?_
    show Steps p.tables e below (s₁.setTop (mkF m 45 #[.val (.int p1)] [(.int p1)])) _
    refine XS.iconst X0.here hx rfl (hb hby d1_45) ?_
    show Steps p.tables e below (s₁.setTop (mkF m 46 #[.val (.int p1)] [(.int (5 : Int32)), (.int p1)])) _
    refine XS.icmpNo X0.here hx rfl (hb hby d1_46) rfl (teq hp5).2 ?_
    show Steps p.tables e below (s₁.setTop (mkF m 49 #[.val (.int p1)] [])) _
    refine st6 _ ?_
    show Steps p.tables e below (T6.setTop (mkF m 52 #[.val (.int p1)] [(.ref k5)])) _
    exact retOut X6 hx Bd.returns rfl (Or.inr (Or.inr (Or.inr (Or.inr ⟨rfl, rfl, rfl⟩)))) (hb hby d1_52) hr
  · show QP5 Z p1 k5 h0 n0 _ T6.heap _
    rw [e6]
    exact ⟨rfl, N0, rfl⟩
def QP6 (Z : State) (p1 : Int32) (k6 : Addr) (h0 : Heap) (n0 : Nat) (v : Option Value) (h : Heap) (L : List Loc) : Prop := v = some (.ref k6) ∧ Fr n0 L ∧ h = h0
theorem ef_P6 (m : MethodId) (p1 : Int32) : entryFrame m #[(.int p1)] 1 = mkF m 0 #[.val (.int p1)] [] := by first | (simp [entryFrame, mkF, argsToLocals, Value.category]; done) | rfl
set_option maxRecDepth 65536 in
set_option maxHeartbeats 40000000 in
theorem rmP6 (l : Launch) (Z : State) (a0 : Array Value) (hw : ∀ d ∈ tables_1, d.before a0 Z = true) (ws : List Jvm.Cond) (p1 : Int32) (k6 : Addr) (h0 : Heap) (n0 : Nat) (Zs : n0 ≤ h0.size) (hp0 : ¬ p1 = (0 : Int32)) (hp1 : ¬ p1 = (1 : Int32)) (hp2 : ¬ p1 = (2 : Int32)) (hp3 : ¬ p1 = (3 : Int32)) (hp4 : ¬ p1 = (4 : Int32)) (hp5 : ¬ p1 = (5 : Int32)) (hp6 : p1 = (6 : Int32)) (S_UPDATE : Sta Z h0 "com/example/serialis/serialis/LogRecord$Kind" "UPDATE" "Lcom/example/serialis/serialis/LogRecord$Kind;" (.ref k6)) :
    MetFree l (⟨"com/example/serialis/serialis/KindEndsTransactionPinLaw", "pick", "(I)Lcom/example/serialis/serialis/LogRecord$Kind;"⟩ : MethodName) (head1 (Jvm.Cond.code (⟨"com/example/serialis/serialis/KindEndsTransactionPinLaw", "pick", "(I)Lcom/example/serialis/serialis/LogRecord$Kind;"⟩ : MethodName) method_2_code 1 (some (.object "com/example/serialis/serialis/LogRecord$Kind")) :: ws) ({ frames := 0, cells := 0, slots := 0, locals := 0 } : Room)) (fun a U => a = #[(.int p1)] ∧ Z.Warmed39 U.vm ∧ U.heap = h0) (fun _ _ _ _ _ => True) (fun _ U o U' => ∃ v L, o = .returned v ∧ QP6 Z p1 k6 h0 n0 v U'.heap L ∧ FrameEnd U o U' L ({ frames := 0, cells := 0, slots := 0, locals := 0 } : Room).cells ({ frames := 0, cells := 0, slots := 0, locals := 0 } : Room).slots) := by
  refine MetFree.of_bodySF (plainFor_of_name pn_0) hisR ?_
  intro p e s m args below meth c s₁ Bd hml0 hP hK
  obtain ⟨rfl, hZ, hh⟩ := hP
  have hx := Bd.exec
  have hby := Bd.bytes
  have hml : c.maxLocals = 1 := hml0
  have hown : s.vm.findClass "com/example/serialis/serialis/KindEndsTransactionPinLaw" = some m.cls := findClass_of_methodNamed Bd.named
  have hnm := (name_of_methodNamed Bd.named Bd.method).1
  have X0 : Stand p l e ({ frames := 0, cells := 0, slots := 0, locals := 0 } : Room) s m #[(.int p1)] below meth c s₁ [] 0 0 := Stand.of_body Bd
  have e0 : s₁.heap = h0 := by rw [← hh, Bd.state]; rfl
  have N0 := Fr.nil n0
  have pre0 : ∀ t, Steps p.tables e below (s₁.setTop (mkF m 0 #[.val (.int p1)] [])) t → Steps p.tables e below (s₁.setTop (entryFrame m #[(.int p1)] 1)) t := fun t k => castTop (ef_P6 m p1) k
  obtain ⟨T7, X7, e7, st7⟩ := getS2 X0 hx hZ hown (host := "") (Or.inl (hw _ (List.mem_of_getElem? (i := 17) rfl))) Via.refl e0 S_UPDATE (g := (mkF m 59 #[.val (.int p1)] [])) rfl (hb hby d1_59)
  obtain ⟨fs, hr, hrun, hended, hW, hsame⟩ := X7.leave (v := some (.ref k6)) (fun h => by rw [Bd.returns] at h; cases h)
  refine ⟨_, _, pre0 _ ?_, hrun, hended, _, _, rfl, ?_, ⟨_, rfl⟩, hW, hsame.mono (by decide) (by decide)⟩
  · show Steps p.tables e below (s₁.setTop (mkF m 0 #[.val (.int p1)] [])) _
    refine XS.iloadN X0.here hx rfl (hb hby d1_0) rfl ?_
    show Steps p.tables e below (s₁.setTop (mkF m 1 #[.val (.int p1)] [(.int p1)])) _
    refine XS.ifYes X0.here hx rfl (pc0 := 1) (pc' := 8) rfl (hb hby d1_1) rfl ((if0 _ _).trans (feq hp0).2) (by decide) (by decide) ?_
    show Steps p.tables e below (s₁.setTop (mkF m 8 #[.val (.int p1)] [])) _
    refine XS.iloadN X0.here hx rfl (hb hby d1_8) rfl ?_
    show Steps p.tables e below (s₁.setTop (mkF m 9 #[.val (.int p1)] [(.int p1)])) _
    refine XS.iconst X0.here hx rfl (hb hby d1_9) ?_
    show Steps p.tables e below (s₁.setTop (mkF m 10 #[.val (.int p1)] [(.int (1 : Int32)), (.int p1)])) _
    refine XS.icmpYes X0.here hx rfl (pc0 := 10) (pc' := 17) rfl (hb hby d1_10) rfl (feq hp1).2 (by decide) (by decide) ?_
    show Steps p.tables e below (s₁.setTop (mkF m 17 #[.val (.int p1)] [])) _
    refine XS.iloadN X0.here hx rfl (hb hby d1_17) rfl ?_
    show Steps p.tables e below (s₁.setTop (mkF m 18 #[.val (.int p1)] [(.int p1)])) _
    refine XS.iconst X0.here hx rfl (hb hby d1_18) ?_
    show Steps p.tables e below (s₁.setTop (mkF m 19 #[.val (.int p1)] [(.int (2 : Int32)), (.int p1)])) _
    refine XS.icmpYes X0.here hx rfl (pc0 := 19) (pc' := 26) rfl (hb hby d1_19) rfl (feq hp2).2 (by decide) (by decide) ?_
    show Steps p.tables e below (s₁.setTop (mkF m 26 #[.val (.int p1)] [])) _
    refine XS.iloadN X0.here hx rfl (hb hby d1_26) rfl ?_
    show Steps p.tables e below (s₁.setTop (mkF m 27 #[.val (.int p1)] [(.int p1)])) _
    refine XS.iconst X0.here hx rfl (hb hby d1_27) ?_
    show Steps p.tables e below (s₁.setTop (mkF m 28 #[.val (.int p1)] [(.int (3 : Int32)), (.int p1)])) _
    refine XS.icmpYes X0.here hx rfl (pc0 := 28) (pc' := 35) rfl (hb hby d1_28) rfl (feq hp3).2 (by decide) (by decide) ?_
    show Steps p.tables e below (s₁.setTop (mkF m 35 #[.val (.int p1)] [])) _
    refine XS.iloadN X0.here hx rfl (hb hby d1_35) rfl ?_
    show Steps p.tables e below (s₁.setTop (mkF m 36 #[.val (.int p1)] [(.int p1)])) _
    refine XS.iconst X0.here hx rfl (hb hby d1_36) ?_
    show Steps p.tables e below (s₁.setTop (mkF m 37 #[.val (.int p1)] [(.int (4 : Int32)), (.int p1)])) _
    refine XS.icmpYes X0.here hx rfl (pc0 := 37) (pc' := 44) rfl (hb hby d1_37) rfl (feq hp4).2 (by decide) (by decide) ?_
    show Steps p.tables e below (s₁.setTop (mkF m 44 #[.val (.int p1)] [])) _
    refine XS.iloadN X0.here hx rfl (hb hby d1_44) rfl ?_
    show Steps p.tables e below (s₁.setTop (mkF m 45 #[.val (.int p1)] [(.int p1)])) _
    refine XS.iconst X0.here hx rfl (hb hby d1_45) ?_
    show Steps p.tables e below (s₁.setTop (mkF m 46 #[.val (.int p1)] [(.int (5 : Int32)), (.int p1)])) _
    refine XS.icmpYes X0.here hx rfl (pc0 := 46) (pc' := 53) rfl (hb hby d1_46) rfl (feq hp5).2 (by decide) (by decide) ?_
    show Steps p.tables e below (s₁.setTop (mkF m 53 #[.val (.int p1)] [])) _
    refine XS.iloadN X0.here hx rfl (hb hby d1_53) rfl ?_
    show Steps p.tables e below (s₁.setTop (mkF m 54 #[.val (.int p1)] [(.int p1)])) _
    refine XS.bipush X0.here hx rfl (hb hby d1_54) ?_
    show Steps p.tables e below (s₁.setTop (mkF m 56 #[.val (.int p1)] [(.int (6 : Int32)), (.int p1)])) _
    refine XS.icmpNo X0.here hx rfl (hb hby d1_56) rfl (teq hp6).2 ?_
    show Steps p.tables e below (s₁.setTop (mkF m 59 #[.val (.int p1)] [])) _
    refine st7 _ ?_
    show Steps p.tables e below (T7.setTop (mkF m 62 #[.val (.int p1)] [(.ref k6)])) _
    exact retOut X7 hx Bd.returns rfl (Or.inr (Or.inr (Or.inr (Or.inr ⟨rfl, rfl, rfl⟩)))) (hb hby d1_62) hr
  · show QP6 Z p1 k6 h0 n0 _ T7.heap _
    rw [e7]
    exact ⟨rfl, N0, rfl⟩
def QP7 (Z : State) (p1 : Int32) (k7 : Addr) (h0 : Heap) (n0 : Nat) (v : Option Value) (h : Heap) (L : List Loc) : Prop := v = some (.ref k7) ∧ Fr n0 L ∧ h = h0
theorem ef_P7 (m : MethodId) (p1 : Int32) : entryFrame m #[(.int p1)] 1 = mkF m 0 #[.val (.int p1)] [] := by first | (simp [entryFrame, mkF, argsToLocals, Value.category]; done) | rfl
set_option maxRecDepth 65536 in
set_option maxHeartbeats 40000000 in
theorem rmP7 (l : Launch) (Z : State) (a0 : Array Value) (hw : ∀ d ∈ tables_1, d.before a0 Z = true) (ws : List Jvm.Cond) (p1 : Int32) (k7 : Addr) (h0 : Heap) (n0 : Nat) (Zs : n0 ≤ h0.size) (hp0 : ¬ p1 = (0 : Int32)) (hp1 : ¬ p1 = (1 : Int32)) (hp2 : ¬ p1 = (2 : Int32)) (hp3 : ¬ p1 = (3 : Int32)) (hp4 : ¬ p1 = (4 : Int32)) (hp5 : ¬ p1 = (5 : Int32)) (hp6 : ¬ p1 = (6 : Int32)) (S_CHECKPOINT : Sta Z h0 "com/example/serialis/serialis/LogRecord$Kind" "CHECKPOINT" "Lcom/example/serialis/serialis/LogRecord$Kind;" (.ref k7)) :
    MetFree l (⟨"com/example/serialis/serialis/KindEndsTransactionPinLaw", "pick", "(I)Lcom/example/serialis/serialis/LogRecord$Kind;"⟩ : MethodName) (head1 (Jvm.Cond.code (⟨"com/example/serialis/serialis/KindEndsTransactionPinLaw", "pick", "(I)Lcom/example/serialis/serialis/LogRecord$Kind;"⟩ : MethodName) method_2_code 1 (some (.object "com/example/serialis/serialis/LogRecord$Kind")) :: ws) ({ frames := 0, cells := 0, slots := 0, locals := 0 } : Room)) (fun a U => a = #[(.int p1)] ∧ Z.Warmed39 U.vm ∧ U.heap = h0) (fun _ _ _ _ _ => True) (fun _ U o U' => ∃ v L, o = .returned v ∧ QP7 Z p1 k7 h0 n0 v U'.heap L ∧ FrameEnd U o U' L ({ frames := 0, cells := 0, slots := 0, locals := 0 } : Room).cells ({ frames := 0, cells := 0, slots := 0, locals := 0 } : Room).slots) := by
  refine MetFree.of_bodySF (plainFor_of_name pn_0) hisR ?_
  intro p e s m args below meth c s₁ Bd hml0 hP hK
  obtain ⟨rfl, hZ, hh⟩ := hP
  have hx := Bd.exec
  have hby := Bd.bytes
  have hml : c.maxLocals = 1 := hml0
  have hown : s.vm.findClass "com/example/serialis/serialis/KindEndsTransactionPinLaw" = some m.cls := findClass_of_methodNamed Bd.named
  have hnm := (name_of_methodNamed Bd.named Bd.method).1
  have X0 : Stand p l e ({ frames := 0, cells := 0, slots := 0, locals := 0 } : Room) s m #[(.int p1)] below meth c s₁ [] 0 0 := Stand.of_body Bd
  have e0 : s₁.heap = h0 := by rw [← hh, Bd.state]; rfl
  have N0 := Fr.nil n0
  have pre0 : ∀ t, Steps p.tables e below (s₁.setTop (mkF m 0 #[.val (.int p1)] [])) t → Steps p.tables e below (s₁.setTop (entryFrame m #[(.int p1)] 1)) t := fun t k => castTop (ef_P7 m p1) k
  obtain ⟨T8, X8, e8, st8⟩ := getS2 X0 hx hZ hown (host := "") (Or.inl (hw _ (List.mem_of_getElem? (i := 19) rfl))) Via.refl e0 S_CHECKPOINT (g := (mkF m 63 #[.val (.int p1)] [])) rfl (hb hby d1_63)
  obtain ⟨fs, hr, hrun, hended, hW, hsame⟩ := X8.leave (v := some (.ref k7)) (fun h => by rw [Bd.returns] at h; cases h)
  refine ⟨_, _, pre0 _ ?_, hrun, hended, _, _, rfl, ?_, ⟨_, rfl⟩, hW, hsame.mono (by decide) (by decide)⟩
  · show Steps p.tables e below (s₁.setTop (mkF m 0 #[.val (.int p1)] [])) _
    refine XS.iloadN X0.here hx rfl (hb hby d1_0) rfl ?_
    show Steps p.tables e below (s₁.setTop (mkF m 1 #[.val (.int p1)] [(.int p1)])) _
    refine XS.ifYes X0.here hx rfl (pc0 := 1) (pc' := 8) rfl (hb hby d1_1) rfl ((if0 _ _).trans (feq hp0).2) (by decide) (by decide) ?_
    show Steps p.tables e below (s₁.setTop (mkF m 8 #[.val (.int p1)] [])) _
    refine XS.iloadN X0.here hx rfl (hb hby d1_8) rfl ?_
    show Steps p.tables e below (s₁.setTop (mkF m 9 #[.val (.int p1)] [(.int p1)])) _
    refine XS.iconst X0.here hx rfl (hb hby d1_9) ?_
    show Steps p.tables e below (s₁.setTop (mkF m 10 #[.val (.int p1)] [(.int (1 : Int32)), (.int p1)])) _
    refine XS.icmpYes X0.here hx rfl (pc0 := 10) (pc' := 17) rfl (hb hby d1_10) rfl (feq hp1).2 (by decide) (by decide) ?_
    show Steps p.tables e below (s₁.setTop (mkF m 17 #[.val (.int p1)] [])) _
    refine XS.iloadN X0.here hx rfl (hb hby d1_17) rfl ?_
    show Steps p.tables e below (s₁.setTop (mkF m 18 #[.val (.int p1)] [(.int p1)])) _
    refine XS.iconst X0.here hx rfl (hb hby d1_18) ?_
    show Steps p.tables e below (s₁.setTop (mkF m 19 #[.val (.int p1)] [(.int (2 : Int32)), (.int p1)])) _
    refine XS.icmpYes X0.here hx rfl (pc0 := 19) (pc' := 26) rfl (hb hby d1_19) rfl (feq hp2).2 (by decide) (by decide) ?_
    show Steps p.tables e below (s₁.setTop (mkF m 26 #[.val (.int p1)] [])) _
    refine XS.iloadN X0.here hx rfl (hb hby d1_26) rfl ?_
    show Steps p.tables e below (s₁.setTop (mkF m 27 #[.val (.int p1)] [(.int p1)])) _
    refine XS.iconst X0.here hx rfl (hb hby d1_27) ?_
    show Steps p.tables e below (s₁.setTop (mkF m 28 #[.val (.int p1)] [(.int (3 : Int32)), (.int p1)])) _
    refine XS.icmpYes X0.here hx rfl (pc0 := 28) (pc' := 35) rfl (hb hby d1_28) rfl (feq hp3).2 (by decide) (by decide) ?_
    show Steps p.tables e below (s₁.setTop (mkF m 35 #[.val (.int p1)] [])) _
    refine XS.iloadN X0.here hx rfl (hb hby d1_35) rfl ?_
    show Steps p.tables e below (s₁.setTop (mkF m 36 #[.val (.int p1)] [(.int p1)])) _
    refine XS.iconst X0.here hx rfl (hb hby d1_36) ?_
    show Steps p.tables e below (s₁.setTop (mkF m 37 #[.val (.int p1)] [(.int (4 : Int32)), (.int p1)])) _
    refine XS.icmpYes X0.here hx rfl (pc0 := 37) (pc' := 44) rfl (hb hby d1_37) rfl (feq hp4).2 (by decide) (by decide) ?_
    show Steps p.tables e below (s₁.setTop (mkF m 44 #[.val (.int p1)] [])) _
    refine XS.iloadN X0.here hx rfl (hb hby d1_44) rfl ?_
    show Steps p.tables e below (s₁.setTop (mkF m 45 #[.val (.int p1)] [(.int p1)])) _
    refine XS.iconst X0.here hx rfl (hb hby d1_45) ?_
    show Steps p.tables e below (s₁.setTop (mkF m 46 #[.val (.int p1)] [(.int (5 : Int32)), (.int p1)])) _
    refine XS.icmpYes X0.here hx rfl (pc0 := 46) (pc' := 53) rfl (hb hby d1_46) rfl (feq hp5).2 (by decide) (by decide) ?_
    show Steps p.tables e below (s₁.setTop (mkF m 53 #[.val (.int p1)] [])) _
    refine XS.iloadN X0.here hx rfl (hb hby d1_53) rfl ?_
    show Steps p.tables e below (s₁.setTop (mkF m 54 #[.val (.int p1)] [(.int p1)])) _
    refine XS.bipush X0.here hx rfl (hb hby d1_54) ?_
    show Steps p.tables e below (s₁.setTop (mkF m 56 #[.val (.int p1)] [(.int (6 : Int32)), (.int p1)])) _
    refine XS.icmpYes X0.here hx rfl (pc0 := 56) (pc' := 63) rfl (hb hby d1_56) rfl (feq hp6).2 (by decide) (by decide) ?_
    show Steps p.tables e below (s₁.setTop (mkF m 63 #[.val (.int p1)] [])) _
    refine st8 _ ?_
    show Steps p.tables e below (T8.setTop (mkF m 66 #[.val (.int p1)] [(.ref k7)])) _
    exact retOut X8 hx Bd.returns rfl (Or.inr (Or.inr (Or.inr (Or.inr ⟨rfl, rfl, rfl⟩)))) (hb hby d1_66) hr
  · show QP7 Z p1 k7 h0 n0 _ T8.heap _
    rw [e8]
    exact ⟨rfl, N0, rfl⟩
def QT2 (Z : State) (k2 : Addr) (h0 : Heap) (n0 : Nat) (v : Option Value) (h : Heap) (L : List Loc) : Prop := v = some (.int (1 : Int32)) ∧ Fr n0 L ∧ h = h0
theorem ef_T2 (m : MethodId) (k2 : Addr) : entryFrame m #[(.ref k2)] 1 = mkF m 0 #[.val (.ref k2)] [] := by first | (simp [entryFrame, mkF, argsToLocals, Value.category]; done) | rfl
set_option maxRecDepth 65536 in
set_option maxHeartbeats 40000000 in
theorem rmT2 (l : Launch) (Z : State) (a0 : Array Value) (hw : ∀ d ∈ tables_1, d.before a0 Z = true) (ws : List Jvm.Cond) (k2 : Addr) (h0 : Heap) (n0 : Nat) (Zs : n0 ≤ h0.size) (S_COMMIT : Sta Z h0 "com/example/serialis/serialis/LogRecord$Kind" "COMMIT" "Lcom/example/serialis/serialis/LogRecord$Kind;" (.ref k2)) :
    MetFree l (⟨"com/example/serialis/serialis/LogRecord$Kind", "endsTransaction", "()Z"⟩ : MethodName) (head1 (Jvm.Cond.code (⟨"com/example/serialis/serialis/LogRecord$Kind", "endsTransaction", "()Z"⟩ : MethodName) prog_42_method_10_code 1 (some .boolean) :: ws) ({ frames := 0, cells := 0, slots := 0, locals := 0 } : Room)) (fun a U => a = #[(.ref k2)] ∧ Z.Warmed39 U.vm ∧ U.heap = h0) (fun _ _ _ _ _ => True) (fun _ U o U' => ∃ v L, o = .returned v ∧ QT2 Z k2 h0 n0 v U'.heap L ∧ FrameEnd U o U' L ({ frames := 0, cells := 0, slots := 0, locals := 0 } : Room).cells ({ frames := 0, cells := 0, slots := 0, locals := 0 } : Room).slots) := by
  refine MetFree.of_bodySF (plainFor_of_name pn_1) hisR ?_
  intro p e s m args below meth c s₁ Bd hml0 hP hK
  obtain ⟨rfl, hZ, hh⟩ := hP
  have hx := Bd.exec
  have hby := Bd.bytes
  have hml : c.maxLocals = 1 := hml0
  have hown : s.vm.findClass "com/example/serialis/serialis/LogRecord$Kind" = some m.cls := findClass_of_methodNamed Bd.named
  have hnm := (name_of_methodNamed Bd.named Bd.method).1
  have X0 : Stand p l e ({ frames := 0, cells := 0, slots := 0, locals := 0 } : Room) s m #[(.ref k2)] below meth c s₁ [] 0 0 := Stand.of_body Bd
  have e0 : s₁.heap = h0 := by rw [← hh, Bd.state]; rfl
  have N0 := Fr.nil n0
  have pre0 : ∀ t, Steps p.tables e below (s₁.setTop (mkF m 0 #[.val (.ref k2)] [])) t → Steps p.tables e below (s₁.setTop (entryFrame m #[(.ref k2)] 1)) t := fun t k => castTop (ef_T2 m k2) k
  obtain ⟨T9, X9, e9, st9⟩ := getS2 X0 hx hZ hown (host := "") (Or.inl (hw _ (List.mem_of_getElem? (i := 12) rfl))) Via.refl e0 S_COMMIT (g := (mkF m 1 #[.val (.ref k2)] [(.ref k2)])) rfl (hb hby d2_1)
  obtain ⟨fs, hr, hrun, hended, hW, hsame⟩ := X9.leave (v := some (.int (1 : Int32))) (fun h => by rw [Bd.returns] at h; cases h)
  refine ⟨_, _, pre0 _ ?_, hrun, hended, _, _, rfl, ?_, ⟨_, rfl⟩, hW, hsame.mono (by decide) (by decide)⟩
  · show Steps p.tables e below (s₁.setTop (mkF m 0 #[.val (.ref k2)] [])) _
    refine XS.aloadN X0.here hx rfl (hb hby d2_0) rfl rfl ?_
    show Steps p.tables e below (s₁.setTop (mkF m 1 #[.val (.ref k2)] [(.ref k2)])) _
    refine st9 _ ?_
    show Steps p.tables e below (T9.setTop (mkF m 4 #[.val (.ref k2)] [(.ref k2), (.ref k2)])) _
    refine Jvm.RoadKit.acmp (g := (mkF m 4 #[.val (.ref k2)] [(.ref k2), (.ref k2)])) X9 hx rfl rfl rfl (pc0 := 4) (pc' := 14) (same := true) rfl (hb hby d2_4) rfl (decide_eq_true rfl) (by decide) (by decide) ?_
    show Steps p.tables e below (T9.setTop (mkF m 14 #[.val (.ref k2)] [])) _
    refine XS.iconst X9.here hx rfl (hb hby d2_14) ?_
    show Steps p.tables e below (T9.setTop (mkF m 15 #[.val (.ref k2)] [(.int (1 : Int32))])) _
    refine XS.goto X9.here hx rfl (pc0 := 15) (pc' := 19) rfl (hb hby d2_15) (by decide) (by decide) ?_
    show Steps p.tables e below (T9.setTop (mkF m 19 #[.val (.ref k2)] [(.int (1 : Int32))])) _
    exact retN X9 hx (t := .boolean) Bd.returns (by simp) (hb hby d2_19) hr
  · show QT2 Z k2 h0 n0 _ T9.heap _
    rw [e9]
    exact ⟨rfl, N0, rfl⟩
def QT3 (Z : State) (k3 : Addr) (k2 : Addr) (h0 : Heap) (n0 : Nat) (v : Option Value) (h : Heap) (L : List Loc) : Prop := v = some (.int (1 : Int32)) ∧ Fr n0 L ∧ h = h0
theorem ef_T3 (m : MethodId) (k3 : Addr) : entryFrame m #[(.ref k3)] 1 = mkF m 0 #[.val (.ref k3)] [] := by first | (simp [entryFrame, mkF, argsToLocals, Value.category]; done) | rfl
set_option maxRecDepth 65536 in
set_option maxHeartbeats 40000000 in
theorem rmT3 (l : Launch) (Z : State) (a0 : Array Value) (hw : ∀ d ∈ tables_1, d.before a0 Z = true) (ws : List Jvm.Cond) (k3 : Addr) (k2 : Addr) (h0 : Heap) (n0 : Nat) (Zs : n0 ≤ h0.size) (S_COMMIT : Sta Z h0 "com/example/serialis/serialis/LogRecord$Kind" "COMMIT" "Lcom/example/serialis/serialis/LogRecord$Kind;" (.ref k2)) (S_ABORT : Sta Z h0 "com/example/serialis/serialis/LogRecord$Kind" "ABORT" "Lcom/example/serialis/serialis/LogRecord$Kind;" (.ref k3)) (ne_k3_k2 : k3 ≠ k2) :
    MetFree l (⟨"com/example/serialis/serialis/LogRecord$Kind", "endsTransaction", "()Z"⟩ : MethodName) (head1 (Jvm.Cond.code (⟨"com/example/serialis/serialis/LogRecord$Kind", "endsTransaction", "()Z"⟩ : MethodName) prog_42_method_10_code 1 (some .boolean) :: ws) ({ frames := 0, cells := 0, slots := 0, locals := 0 } : Room)) (fun a U => a = #[(.ref k3)] ∧ Z.Warmed39 U.vm ∧ U.heap = h0) (fun _ _ _ _ _ => True) (fun _ U o U' => ∃ v L, o = .returned v ∧ QT3 Z k3 k2 h0 n0 v U'.heap L ∧ FrameEnd U o U' L ({ frames := 0, cells := 0, slots := 0, locals := 0 } : Room).cells ({ frames := 0, cells := 0, slots := 0, locals := 0 } : Room).slots) := by
  refine MetFree.of_bodySF (plainFor_of_name pn_1) hisR ?_
  intro p e s m args below meth c s₁ Bd hml0 hP hK
  obtain ⟨rfl, hZ, hh⟩ := hP
  have hx := Bd.exec
  have hby := Bd.bytes
  have hml : c.maxLocals = 1 := hml0
  have hown : s.vm.findClass "com/example/serialis/serialis/LogRecord$Kind" = some m.cls := findClass_of_methodNamed Bd.named
  have hnm := (name_of_methodNamed Bd.named Bd.method).1
  have X0 : Stand p l e ({ frames := 0, cells := 0, slots := 0, locals := 0 } : Room) s m #[(.ref k3)] below meth c s₁ [] 0 0 := Stand.of_body Bd
  have e0 : s₁.heap = h0 := by rw [← hh, Bd.state]; rfl
  have N0 := Fr.nil n0
  have pre0 : ∀ t, Steps p.tables e below (s₁.setTop (mkF m 0 #[.val (.ref k3)] [])) t → Steps p.tables e below (s₁.setTop (entryFrame m #[(.ref k3)] 1)) t := fun t k => castTop (ef_T3 m k3) k
  obtain ⟨T10, X10, e10, st10⟩ := getS2 X0 hx hZ hown (host := "") (Or.inl (hw _ (List.mem_of_getElem? (i := 12) rfl))) Via.refl e0 S_COMMIT (g := (mkF m 1 #[.val (.ref k3)] [(.ref k3)])) rfl (hb hby d2_1)
  obtain ⟨T11, X11, e11, st11⟩ := getS2 X10 hx hZ hown (host := "") (Or.inl (hw _ (List.mem_of_getElem? (i := 14) rfl))) Via.refl e10 S_ABORT (g := (mkF m 8 #[.val (.ref k3)] [(.ref k3)])) rfl (hb hby d2_8)
  obtain ⟨fs, hr, hrun, hended, hW, hsame⟩ := X11.leave (v := some (.int (1 : Int32))) (fun h => by rw [Bd.returns] at h; cases h)
  refine ⟨_, _, pre0 _ ?_, hrun, hended, _, _, rfl, ?_, ⟨_, rfl⟩, hW, hsame.mono (by decide) (by decide)⟩
  · show Steps p.tables e below (s₁.setTop (mkF m 0 #[.val (.ref k3)] [])) _
    refine XS.aloadN X0.here hx rfl (hb hby d2_0) rfl rfl ?_
    show Steps p.tables e below (s₁.setTop (mkF m 1 #[.val (.ref k3)] [(.ref k3)])) _
    refine st10 _ ?_
    show Steps p.tables e below (T10.setTop (mkF m 4 #[.val (.ref k3)] [(.ref k2), (.ref k3)])) _
    refine Jvm.RoadKit.acmp (g := (mkF m 4 #[.val (.ref k3)] [(.ref k2), (.ref k3)])) X10 hx rfl rfl rfl (pc0 := 4) (pc' := 7) (same := false) rfl (hb hby d2_4) rfl (decide_eq_false fun q => ne_k3_k2 (Value.ref.inj q)) (by decide) (by decide) ?_
    show Steps p.tables e below (T10.setTop (mkF m 7 #[.val (.ref k3)] [])) _
    refine XS.aloadN X10.here hx rfl (hb hby d2_7) rfl rfl ?_
    show Steps p.tables e below (T10.setTop (mkF m 8 #[.val (.ref k3)] [(.ref k3)])) _
    refine st11 _ ?_
    show Steps p.tables e below (T11.setTop (mkF m 11 #[.val (.ref k3)] [(.ref k3), (.ref k3)])) _
    refine Jvm.RoadKit.acmp (g := (mkF m 11 #[.val (.ref k3)] [(.ref k3), (.ref k3)])) X11 hx rfl rfl rfl (pc0 := 11) (pc' := 14) (same := true) rfl (hb hby d2_11) rfl (decide_eq_true rfl) (by decide) (by decide) ?_
    show Steps p.tables e below (T11.setTop (mkF m 14 #[.val (.ref k3)] [])) _
    refine XS.iconst X11.here hx rfl (hb hby d2_14) ?_
    show Steps p.tables e below (T11.setTop (mkF m 15 #[.val (.ref k3)] [(.int (1 : Int32))])) _
    refine XS.goto X11.here hx rfl (pc0 := 15) (pc' := 19) rfl (hb hby d2_15) (by decide) (by decide) ?_
    show Steps p.tables e below (T11.setTop (mkF m 19 #[.val (.ref k3)] [(.int (1 : Int32))])) _
    exact retN X11 hx (t := .boolean) Bd.returns (by simp) (hb hby d2_19) hr
  · show QT3 Z k3 k2 h0 n0 _ T11.heap _
    rw [e11]
    exact ⟨rfl, N0, rfl⟩
def QT0 (Z : State) (a1 : Addr) (k2 : Addr) (k3 : Addr) (h0 : Heap) (n0 : Nat) (v : Option Value) (h : Heap) (L : List Loc) : Prop := v = some (.int (0 : Int32)) ∧ Fr n0 L ∧ h = h0
theorem ef_T0 (m : MethodId) (a1 : Addr) : entryFrame m #[(.ref a1)] 1 = mkF m 0 #[.val (.ref a1)] [] := by first | (simp [entryFrame, mkF, argsToLocals, Value.category]; done) | rfl
set_option maxRecDepth 65536 in
set_option maxHeartbeats 40000000 in
theorem rmT0 (l : Launch) (Z : State) (a0 : Array Value) (hw : ∀ d ∈ tables_1, d.before a0 Z = true) (ws : List Jvm.Cond) (a1 : Addr) (k2 : Addr) (k3 : Addr) (h0 : Heap) (n0 : Nat) (Zs : n0 ≤ h0.size) (S_COMMIT : Sta Z h0 "com/example/serialis/serialis/LogRecord$Kind" "COMMIT" "Lcom/example/serialis/serialis/LogRecord$Kind;" (.ref k2)) (S_ABORT : Sta Z h0 "com/example/serialis/serialis/LogRecord$Kind" "ABORT" "Lcom/example/serialis/serialis/LogRecord$Kind;" (.ref k3)) (ne_a1_k2 : a1 ≠ k2) (ne_a1_k3 : a1 ≠ k3) :
    MetFree l (⟨"com/example/serialis/serialis/LogRecord$Kind", "endsTransaction", "()Z"⟩ : MethodName) (head1 (Jvm.Cond.code (⟨"com/example/serialis/serialis/LogRecord$Kind", "endsTransaction", "()Z"⟩ : MethodName) prog_42_method_10_code 1 (some .boolean) :: ws) ({ frames := 0, cells := 0, slots := 0, locals := 0 } : Room)) (fun a U => a = #[(.ref a1)] ∧ Z.Warmed39 U.vm ∧ U.heap = h0) (fun _ _ _ _ _ => True) (fun _ U o U' => ∃ v L, o = .returned v ∧ QT0 Z a1 k2 k3 h0 n0 v U'.heap L ∧ FrameEnd U o U' L ({ frames := 0, cells := 0, slots := 0, locals := 0 } : Room).cells ({ frames := 0, cells := 0, slots := 0, locals := 0 } : Room).slots) := by
  refine MetFree.of_bodySF (plainFor_of_name pn_1) hisR ?_
  intro p e s m args below meth c s₁ Bd hml0 hP hK
  obtain ⟨rfl, hZ, hh⟩ := hP
  have hx := Bd.exec
  have hby := Bd.bytes
  have hml : c.maxLocals = 1 := hml0
  have hown : s.vm.findClass "com/example/serialis/serialis/LogRecord$Kind" = some m.cls := findClass_of_methodNamed Bd.named
  have hnm := (name_of_methodNamed Bd.named Bd.method).1
  have X0 : Stand p l e ({ frames := 0, cells := 0, slots := 0, locals := 0 } : Room) s m #[(.ref a1)] below meth c s₁ [] 0 0 := Stand.of_body Bd
  have e0 : s₁.heap = h0 := by rw [← hh, Bd.state]; rfl
  have N0 := Fr.nil n0
  have pre0 : ∀ t, Steps p.tables e below (s₁.setTop (mkF m 0 #[.val (.ref a1)] [])) t → Steps p.tables e below (s₁.setTop (entryFrame m #[(.ref a1)] 1)) t := fun t k => castTop (ef_T0 m a1) k
  obtain ⟨T12, X12, e12, st12⟩ := getS2 X0 hx hZ hown (host := "") (Or.inl (hw _ (List.mem_of_getElem? (i := 12) rfl))) Via.refl e0 S_COMMIT (g := (mkF m 1 #[.val (.ref a1)] [(.ref a1)])) rfl (hb hby d2_1)
  obtain ⟨T13, X13, e13, st13⟩ := getS2 X12 hx hZ hown (host := "") (Or.inl (hw _ (List.mem_of_getElem? (i := 14) rfl))) Via.refl e12 S_ABORT (g := (mkF m 8 #[.val (.ref a1)] [(.ref a1)])) rfl (hb hby d2_8)
  obtain ⟨fs, hr, hrun, hended, hW, hsame⟩ := X13.leave (v := some (.int (0 : Int32))) (fun h => by rw [Bd.returns] at h; cases h)
  refine ⟨_, _, pre0 _ ?_, hrun, hended, _, _, rfl, ?_, ⟨_, rfl⟩, hW, hsame.mono (by decide) (by decide)⟩
  · show Steps p.tables e below (s₁.setTop (mkF m 0 #[.val (.ref a1)] [])) _
    refine XS.aloadN X0.here hx rfl (hb hby d2_0) rfl rfl ?_
    show Steps p.tables e below (s₁.setTop (mkF m 1 #[.val (.ref a1)] [(.ref a1)])) _
    refine st12 _ ?_
    show Steps p.tables e below (T12.setTop (mkF m 4 #[.val (.ref a1)] [(.ref k2), (.ref a1)])) _
    refine Jvm.RoadKit.acmp (g := (mkF m 4 #[.val (.ref a1)] [(.ref k2), (.ref a1)])) X12 hx rfl rfl rfl (pc0 := 4) (pc' := 7) (same := false) rfl (hb hby d2_4) rfl (decide_eq_false fun q => ne_a1_k2 (Value.ref.inj q)) (by decide) (by decide) ?_
    show Steps p.tables e below (T12.setTop (mkF m 7 #[.val (.ref a1)] [])) _
    refine XS.aloadN X12.here hx rfl (hb hby d2_7) rfl rfl ?_
    show Steps p.tables e below (T12.setTop (mkF m 8 #[.val (.ref a1)] [(.ref a1)])) _
    refine st13 _ ?_
    show Steps p.tables e below (T13.setTop (mkF m 11 #[.val (.ref a1)] [(.ref k3), (.ref a1)])) _
    refine Jvm.RoadKit.acmp (g := (mkF m 11 #[.val (.ref a1)] [(.ref k3), (.ref a1)])) X13 hx rfl rfl rfl (pc0 := 11) (pc' := 18) (same := false) rfl (hb hby d2_11) rfl (decide_eq_false fun q => ne_a1_k3 (Value.ref.inj q)) (by decide) (by decide) ?_
    show Steps p.tables e below (T13.setTop (mkF m 18 #[.val (.ref a1)] [])) _
    refine XS.iconst X13.here hx rfl (hb hby d2_18) ?_
    show Steps p.tables e below (T13.setTop (mkF m 19 #[.val (.ref a1)] [(.int (0 : Int32))])) _
    exact retN X13 hx (t := .boolean) Bd.returns (by simp) (hb hby d2_19) hr
  · show QT0 Z a1 k2 k3 h0 n0 _ T13.heap _
    rw [e13]
    exact ⟨rfl, N0, rfl⟩
def Q0 (Z : State) (p1 : Int32) (k0 : Addr) (k1 : Addr) (k2 : Addr) (k3 : Addr) (k4 : Addr) (k5 : Addr) (k6 : Addr) (k7 : Addr) (h0 : Heap) (n0 : Nat) (v : Option Value) (h : Heap) (L : List Loc) : Prop := v = some (.int (1 : Int32)) ∧ Fr n0 L
theorem ef_0 (m : MethodId) (p1 : Int32) : entryFrame m #[(.int p1)] maxLocals = mkF m 0 #[.val (.int p1), .unset, .unset, .unset] [] := by first | (simp [entryFrame, mkF, argsToLocals, Value.category, maxLocals]; done) | rfl
set_option maxRecDepth 65536 in
set_option maxHeartbeats 40000000 in
theorem rm0 (l : Launch) (Z : State) (a0 : Array Value) (hw : ∀ d ∈ tables_1, d.before a0 Z = true) (ws : List Jvm.Cond) (p1 : Int32) (k0 : Addr) (k1 : Addr) (k2 : Addr) (k3 : Addr) (k4 : Addr) (k5 : Addr) (k6 : Addr) (k7 : Addr) (h0 : Heap) (n0 : Nat) (Zs : n0 ≤ h0.size) (S_DUMP : Sta Z h0 "com/example/serialis/serialis/LogRecord$Kind" "DUMP" "Lcom/example/serialis/serialis/LogRecord$Kind;" (.ref k0)) (S_BEGIN : Sta Z h0 "com/example/serialis/serialis/LogRecord$Kind" "BEGIN" "Lcom/example/serialis/serialis/LogRecord$Kind;" (.ref k1)) (S_COMMIT : Sta Z h0 "com/example/serialis/serialis/LogRecord$Kind" "COMMIT" "Lcom/example/serialis/serialis/LogRecord$Kind;" (.ref k2)) (S_ABORT : Sta Z h0 "com/example/serialis/serialis/LogRecord$Kind" "ABORT" "Lcom/example/serialis/serialis/LogRecord$Kind;" (.ref k3)) (S_INSERT : Sta Z h0 "com/example/serialis/serialis/LogRecord$Kind" "INSERT" "Lcom/example/serialis/serialis/LogRecord$Kind;" (.ref k4)) (S_DELETE : Sta Z h0 "com/example/serialis/serialis/LogRecord$Kind" "DELETE" "Lcom/example/serialis/serialis/LogRecord$Kind;" (.ref k5)) (S_UPDATE : Sta Z h0 "com/example/serialis/serialis/LogRecord$Kind" "UPDATE" "Lcom/example/serialis/serialis/LogRecord$Kind;" (.ref k6)) (S_CHECKPOINT : Sta Z h0 "com/example/serialis/serialis/LogRecord$Kind" "CHECKPOINT" "Lcom/example/serialis/serialis/LogRecord$Kind;" (.ref k7)) (E_k0 : Exa Z h0 k0 "com/example/serialis/serialis/LogRecord$Kind") (E_k1 : Exa Z h0 k1 "com/example/serialis/serialis/LogRecord$Kind") (E_k2 : Exa Z h0 k2 "com/example/serialis/serialis/LogRecord$Kind") (E_k3 : Exa Z h0 k3 "com/example/serialis/serialis/LogRecord$Kind") (E_k4 : Exa Z h0 k4 "com/example/serialis/serialis/LogRecord$Kind") (E_k5 : Exa Z h0 k5 "com/example/serialis/serialis/LogRecord$Kind") (E_k6 : Exa Z h0 k6 "com/example/serialis/serialis/LogRecord$Kind") (E_k7 : Exa Z h0 k7 "com/example/serialis/serialis/LogRecord$Kind") (ne_k0_k2 : k0 ≠ k2) (ne_k1_k2 : k1 ≠ k2) (ne_k3_k2 : k3 ≠ k2) (ne_k4_k2 : k4 ≠ k2) (ne_k5_k2 : k5 ≠ k2) (ne_k6_k2 : k6 ≠ k2) (ne_k7_k2 : k7 ≠ k2) (ne_k0_k3 : k0 ≠ k3) (ne_k1_k3 : k1 ≠ k3) (ne_k4_k3 : k4 ≠ k3) (ne_k5_k3 : k5 ≠ k3) (ne_k6_k3 : k6 ≠ k3) (ne_k7_k3 : k7 ≠ k3) :
    MetFree l x (head1 (Jvm.Cond.code x code maxLocals ret :: ws) room_1) (fun a U => a = #[(.int p1)] ∧ Z.Warmed39 U.vm ∧ U.heap = h0) (fun _ _ _ _ _ => True) (fun _ U o U' => ∃ v L, o = .returned v ∧ Q0 Z p1 k0 k1 k2 k3 k4 k5 k6 k7 h0 n0 v U'.heap L ∧ FrameEnd U o U' L room_1.cells room_1.slots) := by
  refine MetFree.of_bodySF (plainFor_of_name pn_0) hisR ?_
  intro p e s m args below meth c s₁ Bd hml0 hP hK
  obtain ⟨rfl, hZ, hh⟩ := hP
  have hx := Bd.exec
  have hby := Bd.bytes
  have hml : c.maxLocals = 4 := hml0
  have hown : s.vm.findClass "com/example/serialis/serialis/KindEndsTransactionPinLaw" = some m.cls := findClass_of_methodNamed Bd.named
  have hnm := (name_of_methodNamed Bd.named Bd.method).1
  have X0 : Stand p l e room_1 s m #[(.int p1)] below meth c s₁ [] 0 0 := Stand.of_body Bd
  have e0 : s₁.heap = h0 := by rw [← hh, Bd.state]; rfl
  have N0 := Fr.nil n0
  have pre0 : ∀ t, Steps p.tables e below (s₁.setTop (mkF m 0 #[.val (.int p1), .unset, .unset, .unset] [])) t → Steps p.tables e below (s₁.setTop (entryFrame m #[(.int p1)] maxLocals)) t := fun t k => castTop (ef_0 m p1) k
  obtain ⟨v4, hv4⟩ : ∃ z : Int32, z = (p1 &&& (7 : Int32)) := ⟨_, rfl⟩
  have pre14 : ∀ t, Steps p.tables e below (s₁.setTop (mkF m 5 #[.val (.int p1), .val (.int v4), .unset, .unset] [])) t → Steps p.tables e below (s₁.setTop (entryFrame m #[(.int p1)] maxLocals)) t := fun t k => pre0 t (by
    show Steps p.tables e below (s₁.setTop (mkF m 0 #[.val (.int p1), .unset, .unset, .unset] [])) _
    refine XS.iloadN X0.here hx rfl (hb hby at_0) rfl ?_
    show Steps p.tables e below (s₁.setTop (mkF m 1 #[.val (.int p1), .unset, .unset, .unset] [(.int p1)])) _
    refine XS.bipush X0.here hx rfl (hb hby at_1) ?_
    show Steps p.tables e below (s₁.setTop (mkF m 3 #[.val (.int p1), .unset, .unset, .unset] [(.int (7 : Int32)), (.int p1)])) _
    refine XS.iand X0.here hx rfl (hb hby at_3) rfl ?_
    show Steps p.tables e below (s₁.setTop (mkF m 4 #[.val (.int p1), .unset, .unset, .unset] [(.int (p1 &&& (7 : Int32)))])) _
    refine XS.istoreN X0.here hx rfl (hb hby at_4) rfl (l' := #[.val (.int p1), .val (.int (p1 &&& (7 : Int32))), .unset, .unset]) rfl ?_
    rw [hv4] at k
    exact k)
  by_cases hk0 : v4 = (0 : Int32)
  ·
    obtain ⟨_, _, ⟨T15, L15, k15, n15⟩, -, X15, ⟨Lc15, hQ15, l15, y15, z15⟩, st15⟩ := Jvm.LawKit.callS X0 hx (y := (⟨"com/example/serialis/serialis/KindEndsTransactionPinLaw", "pick", "(I)Lcom/example/serialis/serialis/LogRecord$Kind;"⟩ : MethodName)) hown (mvT hZ (hw _ (List.mem_of_getElem? (i := 0) rfl))) (mvT hZ (hw _ (List.mem_of_getElem? (i := 1) rfl))) (mvT hZ (hw _ (List.mem_of_getElem? (i := 2) rfl))) (mvT hZ (hw _ (List.mem_of_getElem? (i := 3) rfl))) (by decide) (backOf (W := 0) (rmP0 l Z a0 hw [] v4 k0 h0 n0 Zs hk0 S_DUMP) hZ (hw _ (List.mem_of_getElem? (i := 3) rfl)) (hw _ (List.mem_of_getElem? (i := 2) rfl)) (by decide) (by decide)) (g := (mkF m 6 #[.val (.int p1), .val (.int v4), .unset, .unset] [(.int v4)])) rfl (by rw [hml]; rfl) (argsL := [(.int v4)]) (rest := []) (lenOf pd_0 rfl) rfl (by show 2 * 0 + _ ≤ _; exact Nat.le_of_eq rfl) (hb hby at_6) (fun _ _ => ⟨rfl, e0, (by decide : 0 + 0 ≤ _), (by decide : 0 + 0 ≤ _)⟩)
    dsimp only [Pt.U, Pt.locs, Pt.cells, Pt.slots] at X15 l15 y15 z15 st15 hQ15
    subst l15 y15 z15
    obtain ⟨rfl, N15q, e15⟩ := hQ15
    have N15 := Fr.app N0 N15q
    have pre16 : ∀ t, Steps p.tables e below (T15.setTop (mkF m 12 #[.val (.int p1), .val (.int v4), .val (.ref k0), .unset] [(.int (2 : Int32)), (.int v4)])) t → Steps p.tables e below (s₁.setTop (entryFrame m #[(.int p1)] maxLocals)) t := fun t k => pre14 t (by
      show Steps p.tables e below (s₁.setTop (mkF m 5 #[.val (.int p1), .val (.int v4), .unset, .unset] [])) _
      refine XS.iloadN X0.here hx rfl (hb hby at_5) rfl ?_
      show Steps p.tables e below (s₁.setTop (mkF m 6 #[.val (.int p1), .val (.int v4), .unset, .unset] [(.int v4)])) _
      refine st15 _ ?_
      show Steps p.tables e below (T15.setTop (mkF m 9 #[.val (.int p1), .val (.int v4), .unset, .unset] [(.ref k0)])) _
      refine XS.astoreN X15.here hx rfl (hb hby at_9) rfl rfl (l' := #[.val (.int p1), .val (.int v4), .val (.ref k0), .unset]) rfl ?_
      show Steps p.tables e below (T15.setTop (mkF m 10 #[.val (.int p1), .val (.int v4), .val (.ref k0), .unset] [])) _
      refine XS.iloadN X15.here hx rfl (hb hby at_10) rfl ?_
      show Steps p.tables e below (T15.setTop (mkF m 11 #[.val (.int p1), .val (.int v4), .val (.ref k0), .unset] [(.int v4)])) _
      refine XS.iconst X15.here hx rfl (hb hby at_11) ?_
      exact k)
    obtain ⟨z25_s0, hz25_s0⟩ : ∃ z : Int32, z = (if v4 = (2 : Int32) then (1 : Int32) else (if v4 = (3 : Int32) then (1 : Int32) else (0 : Int32))) := ⟨_, rfl⟩
    obtain ⟨T21, Lc21, X21, e21, N21, pre21⟩ : ∃ (T' : State) (locs' : List Loc), Stand p l e room_1 s m #[(.int p1)] below meth c T' locs' 0 0 ∧ T'.heap = h0 ∧ Fr n0 locs' ∧ ∀ t, Steps p.tables e below (T'.setTop (mkF m 25 #[.val (.int p1), .val (.int v4), .val (.ref k0), .unset] [(.int z25_s0)])) t → Steps p.tables e below (s₁.setTop (entryFrame m #[(.int p1)] maxLocals)) t := by
      by_cases hc12 : v4 = (2 : Int32)
      ·
        have pre17 : ∀ t, Steps p.tables e below (T15.setTop (mkF m 25 #[.val (.int p1), .val (.int v4), .val (.ref k0), .unset] [(.int (1 : Int32))])) t → Steps p.tables e below (s₁.setTop (entryFrame m #[(.int p1)] maxLocals)) t := fun t k => pre16 t (by
          show Steps p.tables e below (T15.setTop (mkF m 12 #[.val (.int p1), .val (.int v4), .val (.ref k0), .unset] [(.int (2 : Int32)), (.int v4)])) _
          refine XS.icmpYes X15.here hx rfl (pc0 := 12) (pc' := 20) rfl (hb hby at_12) rfl (teq hc12).1 (by decide) (by decide) ?_
          show Steps p.tables e below (T15.setTop (mkF m 20 #[.val (.int p1), .val (.int v4), .val (.ref k0), .unset] [])) _
          refine XS.iconst X15.here hx rfl (hb hby at_20) ?_
          show Steps p.tables e below (T15.setTop (mkF m 21 #[.val (.int p1), .val (.int v4), .val (.ref k0), .unset] [(.int (1 : Int32))])) _
          refine XS.goto X15.here hx rfl (pc0 := 21) (pc' := 25) rfl (hb hby at_21) (by decide) (by decide) ?_
          exact k)
        have q_z25_s0 : z25_s0 = (1 : Int32) := by rw [hz25_s0, if_pos hc12]
        refine ⟨_, _, X15, e15, N15, fun t k => ?_⟩
        rw [q_z25_s0] at k
        exact pre17 t k
      ·
        have pre18 : ∀ t, Steps p.tables e below (T15.setTop (mkF m 17 #[.val (.int p1), .val (.int v4), .val (.ref k0), .unset] [(.int (3 : Int32)), (.int v4)])) t → Steps p.tables e below (s₁.setTop (entryFrame m #[(.int p1)] maxLocals)) t := fun t k => pre16 t (by
          show Steps p.tables e below (T15.setTop (mkF m 12 #[.val (.int p1), .val (.int v4), .val (.ref k0), .unset] [(.int (2 : Int32)), (.int v4)])) _
          refine XS.icmpNo X15.here hx rfl (hb hby at_12) rfl (feq hc12).1 ?_
          show Steps p.tables e below (T15.setTop (mkF m 15 #[.val (.int p1), .val (.int v4), .val (.ref k0), .unset] [])) _
          refine XS.iloadN X15.here hx rfl (hb hby at_15) rfl ?_
          show Steps p.tables e below (T15.setTop (mkF m 16 #[.val (.int p1), .val (.int v4), .val (.ref k0), .unset] [(.int v4)])) _
          refine XS.iconst X15.here hx rfl (hb hby at_16) ?_
          exact k)
        by_cases hc17 : v4 = (3 : Int32)
        ·
          have pre19 : ∀ t, Steps p.tables e below (T15.setTop (mkF m 25 #[.val (.int p1), .val (.int v4), .val (.ref k0), .unset] [(.int (1 : Int32))])) t → Steps p.tables e below (s₁.setTop (entryFrame m #[(.int p1)] maxLocals)) t := fun t k => pre18 t (by
            show Steps p.tables e below (T15.setTop (mkF m 17 #[.val (.int p1), .val (.int v4), .val (.ref k0), .unset] [(.int (3 : Int32)), (.int v4)])) _
            refine XS.icmpNo X15.here hx rfl (hb hby at_17) rfl (teq hc17).2 ?_
            show Steps p.tables e below (T15.setTop (mkF m 20 #[.val (.int p1), .val (.int v4), .val (.ref k0), .unset] [])) _
            refine XS.iconst X15.here hx rfl (hb hby at_20) ?_
            show Steps p.tables e below (T15.setTop (mkF m 21 #[.val (.int p1), .val (.int v4), .val (.ref k0), .unset] [(.int (1 : Int32))])) _
            refine XS.goto X15.here hx rfl (pc0 := 21) (pc' := 25) rfl (hb hby at_21) (by decide) (by decide) ?_
            exact k)
          have q_z25_s0 : z25_s0 = (1 : Int32) := by rw [hz25_s0, if_neg hc12, if_pos hc17]
          refine ⟨_, _, X15, e15, N15, fun t k => ?_⟩
          rw [q_z25_s0] at k
          exact pre19 t k
        ·
          have pre20 : ∀ t, Steps p.tables e below (T15.setTop (mkF m 25 #[.val (.int p1), .val (.int v4), .val (.ref k0), .unset] [(.int (0 : Int32))])) t → Steps p.tables e below (s₁.setTop (entryFrame m #[(.int p1)] maxLocals)) t := fun t k => pre18 t (by
            show Steps p.tables e below (T15.setTop (mkF m 17 #[.val (.int p1), .val (.int v4), .val (.ref k0), .unset] [(.int (3 : Int32)), (.int v4)])) _
            refine XS.icmpYes X15.here hx rfl (pc0 := 17) (pc' := 24) rfl (hb hby at_17) rfl (feq hc17).2 (by decide) (by decide) ?_
            show Steps p.tables e below (T15.setTop (mkF m 24 #[.val (.int p1), .val (.int v4), .val (.ref k0), .unset] [])) _
            refine XS.iconst X15.here hx rfl (hb hby at_24) ?_
            exact k)
          have q_z25_s0 : z25_s0 = (0 : Int32) := by rw [hz25_s0, if_neg hc12, if_neg hc17]
          refine ⟨_, _, X15, e15, N15, fun t k => ?_⟩
          rw [q_z25_s0] at k
          exact pre20 t k
    obtain ⟨cq22, kq22, q22a, q22b, q22c⟩ := isOf hZ e21 E_k0
    obtain ⟨_, _, ⟨T22, L22, k22, n22⟩, -, X22, ⟨Lc22, hQ22, l22, y22, z22⟩, st22⟩ := X21.virtualBack hx (y := (⟨"com/example/serialis/serialis/LogRecord$Kind", "endsTransaction", "()Z"⟩ : MethodName)) (z := (⟨"com/example/serialis/serialis/LogRecord$Kind", "endsTransaction", "()Z"⟩ : MethodName)) hown (mvT hZ (hw _ (List.mem_of_getElem? (i := 7) rfl))) (mvT hZ (hw _ (List.mem_of_getElem? (i := 8) rfl))) (notFace_of_selects (args := #[]) (mvT hZ (hw _ (List.mem_of_getElem? (i := 10) rfl)))) (mvT hZ (hw _ (List.mem_of_getElem? (i := 10) rfl))) (mvT hZ (hw _ (List.mem_of_getElem? (i := 9) rfl))) (by decide) (backOf (W := 0) (rmT0 l Z a0 hw [] k0 k2 k3 h0 n0 Zs S_COMMIT S_ABORT ne_k0_k2 ne_k0_k3) hZ (hw _ (List.mem_of_getElem? (i := 11) rfl)) (hw _ (List.mem_of_getElem? (i := 5) rfl)) (by decide) (by decide)) q22a q22c (g := (mkF m 27 #[.val (.int p1), .val (.int v4), .val (.ref k0), .val (.int z25_s0)] [(.ref k0)])) rfl (by rw [hml]; rfl) (Steps.refl _) (argsL := []) (rest := []) (lenOf pd_1 rfl) rfl (by show 2 * 0 + _ ≤ _; exact Nat.le_of_eq rfl) (hb hby at_27) (fun _ _ => ⟨rfl, e21, (by decide : 0 + 0 ≤ _), (by decide : 0 + 0 ≤ _)⟩)
    dsimp only [Pt.U, Pt.locs, Pt.cells, Pt.slots] at X22 l22 y22 z22 st22 hQ22
    subst l22 y22 z22
    obtain ⟨rfl, N22q, e22⟩ := hQ22
    have N22 := Fr.app N21 N22q
    have pre23 : ∀ t, Steps p.tables e below (T22.setTop (mkF m 31 #[.val (.int p1), .val (.int v4), .val (.ref k0), .val (.int z25_s0)] [(.int z25_s0), (.int (0 : Int32))])) t → Steps p.tables e below (s₁.setTop (entryFrame m #[(.int p1)] maxLocals)) t := fun t k => pre21 t (by
      show Steps p.tables e below (T21.setTop (mkF m 25 #[.val (.int p1), .val (.int v4), .val (.ref k0), .unset] [(.int z25_s0)])) _
      refine XS.istoreN X21.here hx rfl (hb hby at_25) rfl (l' := #[.val (.int p1), .val (.int v4), .val (.ref k0), .val (.int z25_s0)]) rfl ?_
      show Steps p.tables e below (T21.setTop (mkF m 26 #[.val (.int p1), .val (.int v4), .val (.ref k0), .val (.int z25_s0)] [])) _
      refine XS.aloadN X21.here hx rfl (hb hby at_26) rfl rfl ?_
      show Steps p.tables e below (T21.setTop (mkF m 27 #[.val (.int p1), .val (.int v4), .val (.ref k0), .val (.int z25_s0)] [(.ref k0)])) _
      refine st22.trans ?_
      show Steps p.tables e below (T22.setTop (mkF m 30 #[.val (.int p1), .val (.int v4), .val (.ref k0), .val (.int z25_s0)] [(.int (0 : Int32))])) _
      refine XS.iloadN X22.here hx rfl (hb hby at_30) rfl ?_
      exact k)
    obtain ⟨z39_s0, hz39_s0⟩ : ∃ z : Int32, z = (if (0 : Int32) = z25_s0 then (1 : Int32) else (0 : Int32)) := ⟨_, rfl⟩
    obtain ⟨T26, Lc26, X26, e26, N26, pre26⟩ : ∃ (T' : State) (locs' : List Loc), Stand p l e room_1 s m #[(.int p1)] below meth c T' locs' 0 0 ∧ T'.heap = h0 ∧ Fr n0 locs' ∧ ∀ t, Steps p.tables e below (T'.setTop (mkF m 39 #[.val (.int p1), .val (.int v4), .val (.ref k0), .val (.int z25_s0)] [(.int z39_s0)])) t → Steps p.tables e below (s₁.setTop (entryFrame m #[(.int p1)] maxLocals)) t := by
      by_cases hc31 : (0 : Int32) = z25_s0
      ·
        have pre24 : ∀ t, Steps p.tables e below (T22.setTop (mkF m 39 #[.val (.int p1), .val (.int v4), .val (.ref k0), .val (.int z25_s0)] [(.int (1 : Int32))])) t → Steps p.tables e below (s₁.setTop (entryFrame m #[(.int p1)] maxLocals)) t := fun t k => pre23 t (by
          show Steps p.tables e below (T22.setTop (mkF m 31 #[.val (.int p1), .val (.int v4), .val (.ref k0), .val (.int z25_s0)] [(.int z25_s0), (.int (0 : Int32))])) _
          refine XS.icmpNo X22.here hx rfl (hb hby at_31) rfl (teq hc31).2 ?_
          show Steps p.tables e below (T22.setTop (mkF m 34 #[.val (.int p1), .val (.int v4), .val (.ref k0), .val (.int z25_s0)] [])) _
          refine XS.iconst X22.here hx rfl (hb hby at_34) ?_
          show Steps p.tables e below (T22.setTop (mkF m 35 #[.val (.int p1), .val (.int v4), .val (.ref k0), .val (.int z25_s0)] [(.int (1 : Int32))])) _
          refine XS.goto X22.here hx rfl (pc0 := 35) (pc' := 39) rfl (hb hby at_35) (by decide) (by decide) ?_
          exact k)
        have q_z39_s0 : z39_s0 = (1 : Int32) := by rw [hz39_s0, if_pos hc31]
        refine ⟨_, _, X22, e22, N22, fun t k => ?_⟩
        rw [q_z39_s0] at k
        exact pre24 t k
      ·
        have pre25 : ∀ t, Steps p.tables e below (T22.setTop (mkF m 39 #[.val (.int p1), .val (.int v4), .val (.ref k0), .val (.int z25_s0)] [(.int (0 : Int32))])) t → Steps p.tables e below (s₁.setTop (entryFrame m #[(.int p1)] maxLocals)) t := fun t k => pre23 t (by
          show Steps p.tables e below (T22.setTop (mkF m 31 #[.val (.int p1), .val (.int v4), .val (.ref k0), .val (.int z25_s0)] [(.int z25_s0), (.int (0 : Int32))])) _
          refine XS.icmpYes X22.here hx rfl (pc0 := 31) (pc' := 38) rfl (hb hby at_31) rfl (feq hc31).2 (by decide) (by decide) ?_
          show Steps p.tables e below (T22.setTop (mkF m 38 #[.val (.int p1), .val (.int v4), .val (.ref k0), .val (.int z25_s0)] [])) _
          refine XS.iconst X22.here hx rfl (hb hby at_38) ?_
          exact k)
        have q_z39_s0 : z39_s0 = (0 : Int32) := by rw [hz39_s0, if_neg hc31]
        refine ⟨_, _, X22, e22, N22, fun t k => ?_⟩
        rw [q_z39_s0] at k
        exact pre25 t k
    obtain rfl : z39_s0 = (1 : Int32) := by rw [hz39_s0, hz25_s0, hk0]; decide
    obtain ⟨fs, hr, hrun, hended, hW, hsame⟩ := X26.leave (v := some (.int (1 : Int32))) (fun h => by rw [Bd.returns] at h; cases h)
    refine ⟨_, _, pre26 _ ?_, hrun, hended, _, _, rfl, ?_, ⟨_, rfl⟩, hW, hsame.mono (by decide) (by decide)⟩
    · show Steps p.tables e below (T26.setTop (mkF m 39 #[.val (.int p1), .val (.int v4), .val (.ref k0), .val (.int z25_s0)] [(.int (1 : Int32))])) _
      exact retN X26 hx (t := .boolean) Bd.returns (by simp) (hb hby at_39) hr
    · show Q0 Z p1 k0 k1 k2 k3 k4 k5 k6 k7 h0 n0 _ T26.heap _
      rw [e26]
      exact ⟨rfl, N26⟩
  ·
    by_cases hk1 : v4 = (1 : Int32)
    ·
      obtain ⟨_, _, ⟨T27, L27, k27, n27⟩, -, X27, ⟨Lc27, hQ27, l27, y27, z27⟩, st27⟩ := Jvm.LawKit.callS X0 hx (y := (⟨"com/example/serialis/serialis/KindEndsTransactionPinLaw", "pick", "(I)Lcom/example/serialis/serialis/LogRecord$Kind;"⟩ : MethodName)) hown (mvT hZ (hw _ (List.mem_of_getElem? (i := 0) rfl))) (mvT hZ (hw _ (List.mem_of_getElem? (i := 1) rfl))) (mvT hZ (hw _ (List.mem_of_getElem? (i := 2) rfl))) (mvT hZ (hw _ (List.mem_of_getElem? (i := 3) rfl))) (by decide) (backOf (W := 0) (rmP1 l Z a0 hw [] v4 k1 h0 n0 Zs hk0 hk1 S_BEGIN) hZ (hw _ (List.mem_of_getElem? (i := 3) rfl)) (hw _ (List.mem_of_getElem? (i := 2) rfl)) (by decide) (by decide)) (g := (mkF m 6 #[.val (.int p1), .val (.int v4), .unset, .unset] [(.int v4)])) rfl (by rw [hml]; rfl) (argsL := [(.int v4)]) (rest := []) (lenOf pd_0 rfl) rfl (by show 2 * 0 + _ ≤ _; exact Nat.le_of_eq rfl) (hb hby at_6) (fun _ _ => ⟨rfl, e0, (by decide : 0 + 0 ≤ _), (by decide : 0 + 0 ≤ _)⟩)
      dsimp only [Pt.U, Pt.locs, Pt.cells, Pt.slots] at X27 l27 y27 z27 st27 hQ27
      subst l27 y27 z27
      obtain ⟨rfl, N27q, e27⟩ := hQ27
      have N27 := Fr.app N0 N27q
      have pre28 : ∀ t, Steps p.tables e below (T27.setTop (mkF m 12 #[.val (.int p1), .val (.int v4), .val (.ref k1), .unset] [(.int (2 : Int32)), (.int v4)])) t → Steps p.tables e below (s₁.setTop (entryFrame m #[(.int p1)] maxLocals)) t := fun t k => pre14 t (by
        show Steps p.tables e below (s₁.setTop (mkF m 5 #[.val (.int p1), .val (.int v4), .unset, .unset] [])) _
        refine XS.iloadN X0.here hx rfl (hb hby at_5) rfl ?_
        show Steps p.tables e below (s₁.setTop (mkF m 6 #[.val (.int p1), .val (.int v4), .unset, .unset] [(.int v4)])) _
        refine st27 _ ?_
        show Steps p.tables e below (T27.setTop (mkF m 9 #[.val (.int p1), .val (.int v4), .unset, .unset] [(.ref k1)])) _
        refine XS.astoreN X27.here hx rfl (hb hby at_9) rfl rfl (l' := #[.val (.int p1), .val (.int v4), .val (.ref k1), .unset]) rfl ?_
        show Steps p.tables e below (T27.setTop (mkF m 10 #[.val (.int p1), .val (.int v4), .val (.ref k1), .unset] [])) _
        refine XS.iloadN X27.here hx rfl (hb hby at_10) rfl ?_
        show Steps p.tables e below (T27.setTop (mkF m 11 #[.val (.int p1), .val (.int v4), .val (.ref k1), .unset] [(.int v4)])) _
        refine XS.iconst X27.here hx rfl (hb hby at_11) ?_
        exact k)
      obtain ⟨z25_s0, hz25_s0⟩ : ∃ z : Int32, z = (if v4 = (2 : Int32) then (1 : Int32) else (if v4 = (3 : Int32) then (1 : Int32) else (0 : Int32))) := ⟨_, rfl⟩
      obtain ⟨T33, Lc33, X33, e33, N33, pre33⟩ : ∃ (T' : State) (locs' : List Loc), Stand p l e room_1 s m #[(.int p1)] below meth c T' locs' 0 0 ∧ T'.heap = h0 ∧ Fr n0 locs' ∧ ∀ t, Steps p.tables e below (T'.setTop (mkF m 25 #[.val (.int p1), .val (.int v4), .val (.ref k1), .unset] [(.int z25_s0)])) t → Steps p.tables e below (s₁.setTop (entryFrame m #[(.int p1)] maxLocals)) t := by
        by_cases hc12 : v4 = (2 : Int32)
        ·
          have pre29 : ∀ t, Steps p.tables e below (T27.setTop (mkF m 25 #[.val (.int p1), .val (.int v4), .val (.ref k1), .unset] [(.int (1 : Int32))])) t → Steps p.tables e below (s₁.setTop (entryFrame m #[(.int p1)] maxLocals)) t := fun t k => pre28 t (by
            show Steps p.tables e below (T27.setTop (mkF m 12 #[.val (.int p1), .val (.int v4), .val (.ref k1), .unset] [(.int (2 : Int32)), (.int v4)])) _
            refine XS.icmpYes X27.here hx rfl (pc0 := 12) (pc' := 20) rfl (hb hby at_12) rfl (teq hc12).1 (by decide) (by decide) ?_
            show Steps p.tables e below (T27.setTop (mkF m 20 #[.val (.int p1), .val (.int v4), .val (.ref k1), .unset] [])) _
            refine XS.iconst X27.here hx rfl (hb hby at_20) ?_
            show Steps p.tables e below (T27.setTop (mkF m 21 #[.val (.int p1), .val (.int v4), .val (.ref k1), .unset] [(.int (1 : Int32))])) _
            refine XS.goto X27.here hx rfl (pc0 := 21) (pc' := 25) rfl (hb hby at_21) (by decide) (by decide) ?_
            exact k)
          have q_z25_s0 : z25_s0 = (1 : Int32) := by rw [hz25_s0, if_pos hc12]
          refine ⟨_, _, X27, e27, N27, fun t k => ?_⟩
          rw [q_z25_s0] at k
          exact pre29 t k
        ·
          have pre30 : ∀ t, Steps p.tables e below (T27.setTop (mkF m 17 #[.val (.int p1), .val (.int v4), .val (.ref k1), .unset] [(.int (3 : Int32)), (.int v4)])) t → Steps p.tables e below (s₁.setTop (entryFrame m #[(.int p1)] maxLocals)) t := fun t k => pre28 t (by
            show Steps p.tables e below (T27.setTop (mkF m 12 #[.val (.int p1), .val (.int v4), .val (.ref k1), .unset] [(.int (2 : Int32)), (.int v4)])) _
            refine XS.icmpNo X27.here hx rfl (hb hby at_12) rfl (feq hc12).1 ?_
            show Steps p.tables e below (T27.setTop (mkF m 15 #[.val (.int p1), .val (.int v4), .val (.ref k1), .unset] [])) _
            refine XS.iloadN X27.here hx rfl (hb hby at_15) rfl ?_
            show Steps p.tables e below (T27.setTop (mkF m 16 #[.val (.int p1), .val (.int v4), .val (.ref k1), .unset] [(.int v4)])) _
            refine XS.iconst X27.here hx rfl (hb hby at_16) ?_
            exact k)
          by_cases hc17 : v4 = (3 : Int32)
          ·
            have pre31 : ∀ t, Steps p.tables e below (T27.setTop (mkF m 25 #[.val (.int p1), .val (.int v4), .val (.ref k1), .unset] [(.int (1 : Int32))])) t → Steps p.tables e below (s₁.setTop (entryFrame m #[(.int p1)] maxLocals)) t := fun t k => pre30 t (by
              show Steps p.tables e below (T27.setTop (mkF m 17 #[.val (.int p1), .val (.int v4), .val (.ref k1), .unset] [(.int (3 : Int32)), (.int v4)])) _
              refine XS.icmpNo X27.here hx rfl (hb hby at_17) rfl (teq hc17).2 ?_
              show Steps p.tables e below (T27.setTop (mkF m 20 #[.val (.int p1), .val (.int v4), .val (.ref k1), .unset] [])) _
              refine XS.iconst X27.here hx rfl (hb hby at_20) ?_
              show Steps p.tables e below (T27.setTop (mkF m 21 #[.val (.int p1), .val (.int v4), .val (.ref k1), .unset] [(.int (1 : Int32))])) _
              refine XS.goto X27.here hx rfl (pc0 := 21) (pc' := 25) rfl (hb hby at_21) (by decide) (by decide) ?_
              exact k)
            have q_z25_s0 : z25_s0 = (1 : Int32) := by rw [hz25_s0, if_neg hc12, if_pos hc17]
            refine ⟨_, _, X27, e27, N27, fun t k => ?_⟩
            rw [q_z25_s0] at k
            exact pre31 t k
          ·
            have pre32 : ∀ t, Steps p.tables e below (T27.setTop (mkF m 25 #[.val (.int p1), .val (.int v4), .val (.ref k1), .unset] [(.int (0 : Int32))])) t → Steps p.tables e below (s₁.setTop (entryFrame m #[(.int p1)] maxLocals)) t := fun t k => pre30 t (by
              show Steps p.tables e below (T27.setTop (mkF m 17 #[.val (.int p1), .val (.int v4), .val (.ref k1), .unset] [(.int (3 : Int32)), (.int v4)])) _
              refine XS.icmpYes X27.here hx rfl (pc0 := 17) (pc' := 24) rfl (hb hby at_17) rfl (feq hc17).2 (by decide) (by decide) ?_
              show Steps p.tables e below (T27.setTop (mkF m 24 #[.val (.int p1), .val (.int v4), .val (.ref k1), .unset] [])) _
              refine XS.iconst X27.here hx rfl (hb hby at_24) ?_
              exact k)
            have q_z25_s0 : z25_s0 = (0 : Int32) := by rw [hz25_s0, if_neg hc12, if_neg hc17]
            refine ⟨_, _, X27, e27, N27, fun t k => ?_⟩
            rw [q_z25_s0] at k
            exact pre32 t k
      obtain ⟨cq34, kq34, q34a, q34b, q34c⟩ := isOf hZ e33 E_k1
      obtain ⟨_, _, ⟨T34, L34, k34, n34⟩, -, X34, ⟨Lc34, hQ34, l34, y34, z34⟩, st34⟩ := X33.virtualBack hx (y := (⟨"com/example/serialis/serialis/LogRecord$Kind", "endsTransaction", "()Z"⟩ : MethodName)) (z := (⟨"com/example/serialis/serialis/LogRecord$Kind", "endsTransaction", "()Z"⟩ : MethodName)) hown (mvT hZ (hw _ (List.mem_of_getElem? (i := 7) rfl))) (mvT hZ (hw _ (List.mem_of_getElem? (i := 8) rfl))) (notFace_of_selects (args := #[]) (mvT hZ (hw _ (List.mem_of_getElem? (i := 10) rfl)))) (mvT hZ (hw _ (List.mem_of_getElem? (i := 10) rfl))) (mvT hZ (hw _ (List.mem_of_getElem? (i := 9) rfl))) (by decide) (backOf (W := 0) (rmT0 l Z a0 hw [] k1 k2 k3 h0 n0 Zs S_COMMIT S_ABORT ne_k1_k2 ne_k1_k3) hZ (hw _ (List.mem_of_getElem? (i := 11) rfl)) (hw _ (List.mem_of_getElem? (i := 5) rfl)) (by decide) (by decide)) q34a q34c (g := (mkF m 27 #[.val (.int p1), .val (.int v4), .val (.ref k1), .val (.int z25_s0)] [(.ref k1)])) rfl (by rw [hml]; rfl) (Steps.refl _) (argsL := []) (rest := []) (lenOf pd_1 rfl) rfl (by show 2 * 0 + _ ≤ _; exact Nat.le_of_eq rfl) (hb hby at_27) (fun _ _ => ⟨rfl, e33, (by decide : 0 + 0 ≤ _), (by decide : 0 + 0 ≤ _)⟩)
      dsimp only [Pt.U, Pt.locs, Pt.cells, Pt.slots] at X34 l34 y34 z34 st34 hQ34
      subst l34 y34 z34
      obtain ⟨rfl, N34q, e34⟩ := hQ34
      have N34 := Fr.app N33 N34q
      have pre35 : ∀ t, Steps p.tables e below (T34.setTop (mkF m 31 #[.val (.int p1), .val (.int v4), .val (.ref k1), .val (.int z25_s0)] [(.int z25_s0), (.int (0 : Int32))])) t → Steps p.tables e below (s₁.setTop (entryFrame m #[(.int p1)] maxLocals)) t := fun t k => pre33 t (by
        show Steps p.tables e below (T33.setTop (mkF m 25 #[.val (.int p1), .val (.int v4), .val (.ref k1), .unset] [(.int z25_s0)])) _
        refine XS.istoreN X33.here hx rfl (hb hby at_25) rfl (l' := #[.val (.int p1), .val (.int v4), .val (.ref k1), .val (.int z25_s0)]) rfl ?_
        show Steps p.tables e below (T33.setTop (mkF m 26 #[.val (.int p1), .val (.int v4), .val (.ref k1), .val (.int z25_s0)] [])) _
        refine XS.aloadN X33.here hx rfl (hb hby at_26) rfl rfl ?_
        show Steps p.tables e below (T33.setTop (mkF m 27 #[.val (.int p1), .val (.int v4), .val (.ref k1), .val (.int z25_s0)] [(.ref k1)])) _
        refine st34.trans ?_
        show Steps p.tables e below (T34.setTop (mkF m 30 #[.val (.int p1), .val (.int v4), .val (.ref k1), .val (.int z25_s0)] [(.int (0 : Int32))])) _
        refine XS.iloadN X34.here hx rfl (hb hby at_30) rfl ?_
        exact k)
      obtain ⟨z39_s0, hz39_s0⟩ : ∃ z : Int32, z = (if (0 : Int32) = z25_s0 then (1 : Int32) else (0 : Int32)) := ⟨_, rfl⟩
      obtain ⟨T38, Lc38, X38, e38, N38, pre38⟩ : ∃ (T' : State) (locs' : List Loc), Stand p l e room_1 s m #[(.int p1)] below meth c T' locs' 0 0 ∧ T'.heap = h0 ∧ Fr n0 locs' ∧ ∀ t, Steps p.tables e below (T'.setTop (mkF m 39 #[.val (.int p1), .val (.int v4), .val (.ref k1), .val (.int z25_s0)] [(.int z39_s0)])) t → Steps p.tables e below (s₁.setTop (entryFrame m #[(.int p1)] maxLocals)) t := by
        by_cases hc31 : (0 : Int32) = z25_s0
        ·
          have pre36 : ∀ t, Steps p.tables e below (T34.setTop (mkF m 39 #[.val (.int p1), .val (.int v4), .val (.ref k1), .val (.int z25_s0)] [(.int (1 : Int32))])) t → Steps p.tables e below (s₁.setTop (entryFrame m #[(.int p1)] maxLocals)) t := fun t k => pre35 t (by
            show Steps p.tables e below (T34.setTop (mkF m 31 #[.val (.int p1), .val (.int v4), .val (.ref k1), .val (.int z25_s0)] [(.int z25_s0), (.int (0 : Int32))])) _
            refine XS.icmpNo X34.here hx rfl (hb hby at_31) rfl (teq hc31).2 ?_
            show Steps p.tables e below (T34.setTop (mkF m 34 #[.val (.int p1), .val (.int v4), .val (.ref k1), .val (.int z25_s0)] [])) _
            refine XS.iconst X34.here hx rfl (hb hby at_34) ?_
            show Steps p.tables e below (T34.setTop (mkF m 35 #[.val (.int p1), .val (.int v4), .val (.ref k1), .val (.int z25_s0)] [(.int (1 : Int32))])) _
            refine XS.goto X34.here hx rfl (pc0 := 35) (pc' := 39) rfl (hb hby at_35) (by decide) (by decide) ?_
            exact k)
          have q_z39_s0 : z39_s0 = (1 : Int32) := by rw [hz39_s0, if_pos hc31]
          refine ⟨_, _, X34, e34, N34, fun t k => ?_⟩
          rw [q_z39_s0] at k
          exact pre36 t k
        ·
          have pre37 : ∀ t, Steps p.tables e below (T34.setTop (mkF m 39 #[.val (.int p1), .val (.int v4), .val (.ref k1), .val (.int z25_s0)] [(.int (0 : Int32))])) t → Steps p.tables e below (s₁.setTop (entryFrame m #[(.int p1)] maxLocals)) t := fun t k => pre35 t (by
            show Steps p.tables e below (T34.setTop (mkF m 31 #[.val (.int p1), .val (.int v4), .val (.ref k1), .val (.int z25_s0)] [(.int z25_s0), (.int (0 : Int32))])) _
            refine XS.icmpYes X34.here hx rfl (pc0 := 31) (pc' := 38) rfl (hb hby at_31) rfl (feq hc31).2 (by decide) (by decide) ?_
            show Steps p.tables e below (T34.setTop (mkF m 38 #[.val (.int p1), .val (.int v4), .val (.ref k1), .val (.int z25_s0)] [])) _
            refine XS.iconst X34.here hx rfl (hb hby at_38) ?_
            exact k)
          have q_z39_s0 : z39_s0 = (0 : Int32) := by rw [hz39_s0, if_neg hc31]
          refine ⟨_, _, X34, e34, N34, fun t k => ?_⟩
          rw [q_z39_s0] at k
          exact pre37 t k
      obtain rfl : z39_s0 = (1 : Int32) := by rw [hz39_s0, hz25_s0, hk1]; decide
      obtain ⟨fs, hr, hrun, hended, hW, hsame⟩ := X38.leave (v := some (.int (1 : Int32))) (fun h => by rw [Bd.returns] at h; cases h)
      refine ⟨_, _, pre38 _ ?_, hrun, hended, _, _, rfl, ?_, ⟨_, rfl⟩, hW, hsame.mono (by decide) (by decide)⟩
      · show Steps p.tables e below (T38.setTop (mkF m 39 #[.val (.int p1), .val (.int v4), .val (.ref k1), .val (.int z25_s0)] [(.int (1 : Int32))])) _
        exact retN X38 hx (t := .boolean) Bd.returns (by simp) (hb hby at_39) hr
      · show Q0 Z p1 k0 k1 k2 k3 k4 k5 k6 k7 h0 n0 _ T38.heap _
        rw [e38]
        exact ⟨rfl, N38⟩
    ·
      by_cases hk2 : v4 = (2 : Int32)
      ·
        obtain ⟨_, _, ⟨T39, L39, k39, n39⟩, -, X39, ⟨Lc39, hQ39, l39, y39, z39⟩, st39⟩ := Jvm.LawKit.callS X0 hx (y := (⟨"com/example/serialis/serialis/KindEndsTransactionPinLaw", "pick", "(I)Lcom/example/serialis/serialis/LogRecord$Kind;"⟩ : MethodName)) hown (mvT hZ (hw _ (List.mem_of_getElem? (i := 0) rfl))) (mvT hZ (hw _ (List.mem_of_getElem? (i := 1) rfl))) (mvT hZ (hw _ (List.mem_of_getElem? (i := 2) rfl))) (mvT hZ (hw _ (List.mem_of_getElem? (i := 3) rfl))) (by decide) (backOf (W := 0) (rmP2 l Z a0 hw [] v4 k2 h0 n0 Zs hk0 hk1 hk2 S_COMMIT) hZ (hw _ (List.mem_of_getElem? (i := 3) rfl)) (hw _ (List.mem_of_getElem? (i := 2) rfl)) (by decide) (by decide)) (g := (mkF m 6 #[.val (.int p1), .val (.int v4), .unset, .unset] [(.int v4)])) rfl (by rw [hml]; rfl) (argsL := [(.int v4)]) (rest := []) (lenOf pd_0 rfl) rfl (by show 2 * 0 + _ ≤ _; exact Nat.le_of_eq rfl) (hb hby at_6) (fun _ _ => ⟨rfl, e0, (by decide : 0 + 0 ≤ _), (by decide : 0 + 0 ≤ _)⟩)
        dsimp only [Pt.U, Pt.locs, Pt.cells, Pt.slots] at X39 l39 y39 z39 st39 hQ39
        subst l39 y39 z39
        obtain ⟨rfl, N39q, e39⟩ := hQ39
        have N39 := Fr.app N0 N39q
        have pre40 : ∀ t, Steps p.tables e below (T39.setTop (mkF m 12 #[.val (.int p1), .val (.int v4), .val (.ref k2), .unset] [(.int (2 : Int32)), (.int v4)])) t → Steps p.tables e below (s₁.setTop (entryFrame m #[(.int p1)] maxLocals)) t := fun t k => pre14 t (by
          show Steps p.tables e below (s₁.setTop (mkF m 5 #[.val (.int p1), .val (.int v4), .unset, .unset] [])) _
          refine XS.iloadN X0.here hx rfl (hb hby at_5) rfl ?_
          show Steps p.tables e below (s₁.setTop (mkF m 6 #[.val (.int p1), .val (.int v4), .unset, .unset] [(.int v4)])) _
          refine st39 _ ?_
          show Steps p.tables e below (T39.setTop (mkF m 9 #[.val (.int p1), .val (.int v4), .unset, .unset] [(.ref k2)])) _
          refine XS.astoreN X39.here hx rfl (hb hby at_9) rfl rfl (l' := #[.val (.int p1), .val (.int v4), .val (.ref k2), .unset]) rfl ?_
          show Steps p.tables e below (T39.setTop (mkF m 10 #[.val (.int p1), .val (.int v4), .val (.ref k2), .unset] [])) _
          refine XS.iloadN X39.here hx rfl (hb hby at_10) rfl ?_
          show Steps p.tables e below (T39.setTop (mkF m 11 #[.val (.int p1), .val (.int v4), .val (.ref k2), .unset] [(.int v4)])) _
          refine XS.iconst X39.here hx rfl (hb hby at_11) ?_
          exact k)
        obtain ⟨z25_s0, hz25_s0⟩ : ∃ z : Int32, z = (if v4 = (2 : Int32) then (1 : Int32) else (if v4 = (3 : Int32) then (1 : Int32) else (0 : Int32))) := ⟨_, rfl⟩
        obtain ⟨T45, Lc45, X45, e45, N45, pre45⟩ : ∃ (T' : State) (locs' : List Loc), Stand p l e room_1 s m #[(.int p1)] below meth c T' locs' 0 0 ∧ T'.heap = h0 ∧ Fr n0 locs' ∧ ∀ t, Steps p.tables e below (T'.setTop (mkF m 25 #[.val (.int p1), .val (.int v4), .val (.ref k2), .unset] [(.int z25_s0)])) t → Steps p.tables e below (s₁.setTop (entryFrame m #[(.int p1)] maxLocals)) t := by
          by_cases hc12 : v4 = (2 : Int32)
          ·
            have pre41 : ∀ t, Steps p.tables e below (T39.setTop (mkF m 25 #[.val (.int p1), .val (.int v4), .val (.ref k2), .unset] [(.int (1 : Int32))])) t → Steps p.tables e below (s₁.setTop (entryFrame m #[(.int p1)] maxLocals)) t := fun t k => pre40 t (by
              show Steps p.tables e below (T39.setTop (mkF m 12 #[.val (.int p1), .val (.int v4), .val (.ref k2), .unset] [(.int (2 : Int32)), (.int v4)])) _
              refine XS.icmpYes X39.here hx rfl (pc0 := 12) (pc' := 20) rfl (hb hby at_12) rfl (teq hc12).1 (by decide) (by decide) ?_
              show Steps p.tables e below (T39.setTop (mkF m 20 #[.val (.int p1), .val (.int v4), .val (.ref k2), .unset] [])) _
              refine XS.iconst X39.here hx rfl (hb hby at_20) ?_
              show Steps p.tables e below (T39.setTop (mkF m 21 #[.val (.int p1), .val (.int v4), .val (.ref k2), .unset] [(.int (1 : Int32))])) _
              refine XS.goto X39.here hx rfl (pc0 := 21) (pc' := 25) rfl (hb hby at_21) (by decide) (by decide) ?_
              exact k)
            have q_z25_s0 : z25_s0 = (1 : Int32) := by rw [hz25_s0, if_pos hc12]
            refine ⟨_, _, X39, e39, N39, fun t k => ?_⟩
            rw [q_z25_s0] at k
            exact pre41 t k
          ·
            have pre42 : ∀ t, Steps p.tables e below (T39.setTop (mkF m 17 #[.val (.int p1), .val (.int v4), .val (.ref k2), .unset] [(.int (3 : Int32)), (.int v4)])) t → Steps p.tables e below (s₁.setTop (entryFrame m #[(.int p1)] maxLocals)) t := fun t k => pre40 t (by
              show Steps p.tables e below (T39.setTop (mkF m 12 #[.val (.int p1), .val (.int v4), .val (.ref k2), .unset] [(.int (2 : Int32)), (.int v4)])) _
              refine XS.icmpNo X39.here hx rfl (hb hby at_12) rfl (feq hc12).1 ?_
              show Steps p.tables e below (T39.setTop (mkF m 15 #[.val (.int p1), .val (.int v4), .val (.ref k2), .unset] [])) _
              refine XS.iloadN X39.here hx rfl (hb hby at_15) rfl ?_
              show Steps p.tables e below (T39.setTop (mkF m 16 #[.val (.int p1), .val (.int v4), .val (.ref k2), .unset] [(.int v4)])) _
              refine XS.iconst X39.here hx rfl (hb hby at_16) ?_
              exact k)
            by_cases hc17 : v4 = (3 : Int32)
            ·
              have pre43 : ∀ t, Steps p.tables e below (T39.setTop (mkF m 25 #[.val (.int p1), .val (.int v4), .val (.ref k2), .unset] [(.int (1 : Int32))])) t → Steps p.tables e below (s₁.setTop (entryFrame m #[(.int p1)] maxLocals)) t := fun t k => pre42 t (by
                show Steps p.tables e below (T39.setTop (mkF m 17 #[.val (.int p1), .val (.int v4), .val (.ref k2), .unset] [(.int (3 : Int32)), (.int v4)])) _
                refine XS.icmpNo X39.here hx rfl (hb hby at_17) rfl (teq hc17).2 ?_
                show Steps p.tables e below (T39.setTop (mkF m 20 #[.val (.int p1), .val (.int v4), .val (.ref k2), .unset] [])) _
                refine XS.iconst X39.here hx rfl (hb hby at_20) ?_
                show Steps p.tables e below (T39.setTop (mkF m 21 #[.val (.int p1), .val (.int v4), .val (.ref k2), .unset] [(.int (1 : Int32))])) _
                refine XS.goto X39.here hx rfl (pc0 := 21) (pc' := 25) rfl (hb hby at_21) (by decide) (by decide) ?_
                exact k)
              have q_z25_s0 : z25_s0 = (1 : Int32) := by rw [hz25_s0, if_neg hc12, if_pos hc17]
              refine ⟨_, _, X39, e39, N39, fun t k => ?_⟩
              rw [q_z25_s0] at k
              exact pre43 t k
            ·
              have pre44 : ∀ t, Steps p.tables e below (T39.setTop (mkF m 25 #[.val (.int p1), .val (.int v4), .val (.ref k2), .unset] [(.int (0 : Int32))])) t → Steps p.tables e below (s₁.setTop (entryFrame m #[(.int p1)] maxLocals)) t := fun t k => pre42 t (by
                show Steps p.tables e below (T39.setTop (mkF m 17 #[.val (.int p1), .val (.int v4), .val (.ref k2), .unset] [(.int (3 : Int32)), (.int v4)])) _
                refine XS.icmpYes X39.here hx rfl (pc0 := 17) (pc' := 24) rfl (hb hby at_17) rfl (feq hc17).2 (by decide) (by decide) ?_
                show Steps p.tables e below (T39.setTop (mkF m 24 #[.val (.int p1), .val (.int v4), .val (.ref k2), .unset] [])) _
                refine XS.iconst X39.here hx rfl (hb hby at_24) ?_
                exact k)
              have q_z25_s0 : z25_s0 = (0 : Int32) := by rw [hz25_s0, if_neg hc12, if_neg hc17]
              refine ⟨_, _, X39, e39, N39, fun t k => ?_⟩
              rw [q_z25_s0] at k
              exact pre44 t k
        obtain ⟨cq46, kq46, q46a, q46b, q46c⟩ := isOf hZ e45 E_k2
        obtain ⟨_, _, ⟨T46, L46, k46, n46⟩, -, X46, ⟨Lc46, hQ46, l46, y46, z46⟩, st46⟩ := X45.virtualBack hx (y := (⟨"com/example/serialis/serialis/LogRecord$Kind", "endsTransaction", "()Z"⟩ : MethodName)) (z := (⟨"com/example/serialis/serialis/LogRecord$Kind", "endsTransaction", "()Z"⟩ : MethodName)) hown (mvT hZ (hw _ (List.mem_of_getElem? (i := 7) rfl))) (mvT hZ (hw _ (List.mem_of_getElem? (i := 8) rfl))) (notFace_of_selects (args := #[]) (mvT hZ (hw _ (List.mem_of_getElem? (i := 10) rfl)))) (mvT hZ (hw _ (List.mem_of_getElem? (i := 10) rfl))) (mvT hZ (hw _ (List.mem_of_getElem? (i := 9) rfl))) (by decide) (backOf (W := 0) (rmT2 l Z a0 hw [] k2 h0 n0 Zs S_COMMIT) hZ (hw _ (List.mem_of_getElem? (i := 11) rfl)) (hw _ (List.mem_of_getElem? (i := 5) rfl)) (by decide) (by decide)) q46a q46c (g := (mkF m 27 #[.val (.int p1), .val (.int v4), .val (.ref k2), .val (.int z25_s0)] [(.ref k2)])) rfl (by rw [hml]; rfl) (Steps.refl _) (argsL := []) (rest := []) (lenOf pd_1 rfl) rfl (by show 2 * 0 + _ ≤ _; exact Nat.le_of_eq rfl) (hb hby at_27) (fun _ _ => ⟨rfl, e45, (by decide : 0 + 0 ≤ _), (by decide : 0 + 0 ≤ _)⟩)
        dsimp only [Pt.U, Pt.locs, Pt.cells, Pt.slots] at X46 l46 y46 z46 st46 hQ46
        subst l46 y46 z46
        obtain ⟨rfl, N46q, e46⟩ := hQ46
        have N46 := Fr.app N45 N46q
        have pre47 : ∀ t, Steps p.tables e below (T46.setTop (mkF m 31 #[.val (.int p1), .val (.int v4), .val (.ref k2), .val (.int z25_s0)] [(.int z25_s0), (.int (1 : Int32))])) t → Steps p.tables e below (s₁.setTop (entryFrame m #[(.int p1)] maxLocals)) t := fun t k => pre45 t (by
          show Steps p.tables e below (T45.setTop (mkF m 25 #[.val (.int p1), .val (.int v4), .val (.ref k2), .unset] [(.int z25_s0)])) _
          refine XS.istoreN X45.here hx rfl (hb hby at_25) rfl (l' := #[.val (.int p1), .val (.int v4), .val (.ref k2), .val (.int z25_s0)]) rfl ?_
          show Steps p.tables e below (T45.setTop (mkF m 26 #[.val (.int p1), .val (.int v4), .val (.ref k2), .val (.int z25_s0)] [])) _
          refine XS.aloadN X45.here hx rfl (hb hby at_26) rfl rfl ?_
          show Steps p.tables e below (T45.setTop (mkF m 27 #[.val (.int p1), .val (.int v4), .val (.ref k2), .val (.int z25_s0)] [(.ref k2)])) _
          refine st46.trans ?_
          show Steps p.tables e below (T46.setTop (mkF m 30 #[.val (.int p1), .val (.int v4), .val (.ref k2), .val (.int z25_s0)] [(.int (1 : Int32))])) _
          refine XS.iloadN X46.here hx rfl (hb hby at_30) rfl ?_
          exact k)
        obtain ⟨z39_s0, hz39_s0⟩ : ∃ z : Int32, z = (if (1 : Int32) = z25_s0 then (1 : Int32) else (0 : Int32)) := ⟨_, rfl⟩
        obtain ⟨T50, Lc50, X50, e50, N50, pre50⟩ : ∃ (T' : State) (locs' : List Loc), Stand p l e room_1 s m #[(.int p1)] below meth c T' locs' 0 0 ∧ T'.heap = h0 ∧ Fr n0 locs' ∧ ∀ t, Steps p.tables e below (T'.setTop (mkF m 39 #[.val (.int p1), .val (.int v4), .val (.ref k2), .val (.int z25_s0)] [(.int z39_s0)])) t → Steps p.tables e below (s₁.setTop (entryFrame m #[(.int p1)] maxLocals)) t := by
          by_cases hc31 : (1 : Int32) = z25_s0
          ·
            have pre48 : ∀ t, Steps p.tables e below (T46.setTop (mkF m 39 #[.val (.int p1), .val (.int v4), .val (.ref k2), .val (.int z25_s0)] [(.int (1 : Int32))])) t → Steps p.tables e below (s₁.setTop (entryFrame m #[(.int p1)] maxLocals)) t := fun t k => pre47 t (by
              show Steps p.tables e below (T46.setTop (mkF m 31 #[.val (.int p1), .val (.int v4), .val (.ref k2), .val (.int z25_s0)] [(.int z25_s0), (.int (1 : Int32))])) _
              refine XS.icmpNo X46.here hx rfl (hb hby at_31) rfl (teq hc31).2 ?_
              show Steps p.tables e below (T46.setTop (mkF m 34 #[.val (.int p1), .val (.int v4), .val (.ref k2), .val (.int z25_s0)] [])) _
              refine XS.iconst X46.here hx rfl (hb hby at_34) ?_
              show Steps p.tables e below (T46.setTop (mkF m 35 #[.val (.int p1), .val (.int v4), .val (.ref k2), .val (.int z25_s0)] [(.int (1 : Int32))])) _
              refine XS.goto X46.here hx rfl (pc0 := 35) (pc' := 39) rfl (hb hby at_35) (by decide) (by decide) ?_
              exact k)
            have q_z39_s0 : z39_s0 = (1 : Int32) := by rw [hz39_s0, if_pos hc31]
            refine ⟨_, _, X46, e46, N46, fun t k => ?_⟩
            rw [q_z39_s0] at k
            exact pre48 t k
          ·
            have pre49 : ∀ t, Steps p.tables e below (T46.setTop (mkF m 39 #[.val (.int p1), .val (.int v4), .val (.ref k2), .val (.int z25_s0)] [(.int (0 : Int32))])) t → Steps p.tables e below (s₁.setTop (entryFrame m #[(.int p1)] maxLocals)) t := fun t k => pre47 t (by
              show Steps p.tables e below (T46.setTop (mkF m 31 #[.val (.int p1), .val (.int v4), .val (.ref k2), .val (.int z25_s0)] [(.int z25_s0), (.int (1 : Int32))])) _
              refine XS.icmpYes X46.here hx rfl (pc0 := 31) (pc' := 38) rfl (hb hby at_31) rfl (feq hc31).2 (by decide) (by decide) ?_
              show Steps p.tables e below (T46.setTop (mkF m 38 #[.val (.int p1), .val (.int v4), .val (.ref k2), .val (.int z25_s0)] [])) _
              refine XS.iconst X46.here hx rfl (hb hby at_38) ?_
              exact k)
            have q_z39_s0 : z39_s0 = (0 : Int32) := by rw [hz39_s0, if_neg hc31]
            refine ⟨_, _, X46, e46, N46, fun t k => ?_⟩
            rw [q_z39_s0] at k
            exact pre49 t k
        obtain rfl : z39_s0 = (1 : Int32) := by rw [hz39_s0, hz25_s0, hk2]; decide
        obtain ⟨fs, hr, hrun, hended, hW, hsame⟩ := X50.leave (v := some (.int (1 : Int32))) (fun h => by rw [Bd.returns] at h; cases h)
        refine ⟨_, _, pre50 _ ?_, hrun, hended, _, _, rfl, ?_, ⟨_, rfl⟩, hW, hsame.mono (by decide) (by decide)⟩
        · show Steps p.tables e below (T50.setTop (mkF m 39 #[.val (.int p1), .val (.int v4), .val (.ref k2), .val (.int z25_s0)] [(.int (1 : Int32))])) _
          exact retN X50 hx (t := .boolean) Bd.returns (by simp) (hb hby at_39) hr
        · show Q0 Z p1 k0 k1 k2 k3 k4 k5 k6 k7 h0 n0 _ T50.heap _
          rw [e50]
          exact ⟨rfl, N50⟩
      ·
        by_cases hk3 : v4 = (3 : Int32)
        ·
          obtain ⟨_, _, ⟨T51, L51, k51, n51⟩, -, X51, ⟨Lc51, hQ51, l51, y51, z51⟩, st51⟩ := Jvm.LawKit.callS X0 hx (y := (⟨"com/example/serialis/serialis/KindEndsTransactionPinLaw", "pick", "(I)Lcom/example/serialis/serialis/LogRecord$Kind;"⟩ : MethodName)) hown (mvT hZ (hw _ (List.mem_of_getElem? (i := 0) rfl))) (mvT hZ (hw _ (List.mem_of_getElem? (i := 1) rfl))) (mvT hZ (hw _ (List.mem_of_getElem? (i := 2) rfl))) (mvT hZ (hw _ (List.mem_of_getElem? (i := 3) rfl))) (by decide) (backOf (W := 0) (rmP3 l Z a0 hw [] v4 k3 h0 n0 Zs hk0 hk1 hk2 hk3 S_ABORT) hZ (hw _ (List.mem_of_getElem? (i := 3) rfl)) (hw _ (List.mem_of_getElem? (i := 2) rfl)) (by decide) (by decide)) (g := (mkF m 6 #[.val (.int p1), .val (.int v4), .unset, .unset] [(.int v4)])) rfl (by rw [hml]; rfl) (argsL := [(.int v4)]) (rest := []) (lenOf pd_0 rfl) rfl (by show 2 * 0 + _ ≤ _; exact Nat.le_of_eq rfl) (hb hby at_6) (fun _ _ => ⟨rfl, e0, (by decide : 0 + 0 ≤ _), (by decide : 0 + 0 ≤ _)⟩)
          dsimp only [Pt.U, Pt.locs, Pt.cells, Pt.slots] at X51 l51 y51 z51 st51 hQ51
          subst l51 y51 z51
          obtain ⟨rfl, N51q, e51⟩ := hQ51
          have N51 := Fr.app N0 N51q
          have pre52 : ∀ t, Steps p.tables e below (T51.setTop (mkF m 12 #[.val (.int p1), .val (.int v4), .val (.ref k3), .unset] [(.int (2 : Int32)), (.int v4)])) t → Steps p.tables e below (s₁.setTop (entryFrame m #[(.int p1)] maxLocals)) t := fun t k => pre14 t (by
            show Steps p.tables e below (s₁.setTop (mkF m 5 #[.val (.int p1), .val (.int v4), .unset, .unset] [])) _
            refine XS.iloadN X0.here hx rfl (hb hby at_5) rfl ?_
            show Steps p.tables e below (s₁.setTop (mkF m 6 #[.val (.int p1), .val (.int v4), .unset, .unset] [(.int v4)])) _
            refine st51 _ ?_
            show Steps p.tables e below (T51.setTop (mkF m 9 #[.val (.int p1), .val (.int v4), .unset, .unset] [(.ref k3)])) _
            refine XS.astoreN X51.here hx rfl (hb hby at_9) rfl rfl (l' := #[.val (.int p1), .val (.int v4), .val (.ref k3), .unset]) rfl ?_
            show Steps p.tables e below (T51.setTop (mkF m 10 #[.val (.int p1), .val (.int v4), .val (.ref k3), .unset] [])) _
            refine XS.iloadN X51.here hx rfl (hb hby at_10) rfl ?_
            show Steps p.tables e below (T51.setTop (mkF m 11 #[.val (.int p1), .val (.int v4), .val (.ref k3), .unset] [(.int v4)])) _
            refine XS.iconst X51.here hx rfl (hb hby at_11) ?_
            exact k)
          obtain ⟨z25_s0, hz25_s0⟩ : ∃ z : Int32, z = (if v4 = (2 : Int32) then (1 : Int32) else (if v4 = (3 : Int32) then (1 : Int32) else (0 : Int32))) := ⟨_, rfl⟩
          obtain ⟨T57, Lc57, X57, e57, N57, pre57⟩ : ∃ (T' : State) (locs' : List Loc), Stand p l e room_1 s m #[(.int p1)] below meth c T' locs' 0 0 ∧ T'.heap = h0 ∧ Fr n0 locs' ∧ ∀ t, Steps p.tables e below (T'.setTop (mkF m 25 #[.val (.int p1), .val (.int v4), .val (.ref k3), .unset] [(.int z25_s0)])) t → Steps p.tables e below (s₁.setTop (entryFrame m #[(.int p1)] maxLocals)) t := by
            by_cases hc12 : v4 = (2 : Int32)
            ·
              have pre53 : ∀ t, Steps p.tables e below (T51.setTop (mkF m 25 #[.val (.int p1), .val (.int v4), .val (.ref k3), .unset] [(.int (1 : Int32))])) t → Steps p.tables e below (s₁.setTop (entryFrame m #[(.int p1)] maxLocals)) t := fun t k => pre52 t (by
                show Steps p.tables e below (T51.setTop (mkF m 12 #[.val (.int p1), .val (.int v4), .val (.ref k3), .unset] [(.int (2 : Int32)), (.int v4)])) _
                refine XS.icmpYes X51.here hx rfl (pc0 := 12) (pc' := 20) rfl (hb hby at_12) rfl (teq hc12).1 (by decide) (by decide) ?_
                show Steps p.tables e below (T51.setTop (mkF m 20 #[.val (.int p1), .val (.int v4), .val (.ref k3), .unset] [])) _
                refine XS.iconst X51.here hx rfl (hb hby at_20) ?_
                show Steps p.tables e below (T51.setTop (mkF m 21 #[.val (.int p1), .val (.int v4), .val (.ref k3), .unset] [(.int (1 : Int32))])) _
                refine XS.goto X51.here hx rfl (pc0 := 21) (pc' := 25) rfl (hb hby at_21) (by decide) (by decide) ?_
                exact k)
              have q_z25_s0 : z25_s0 = (1 : Int32) := by rw [hz25_s0, if_pos hc12]
              refine ⟨_, _, X51, e51, N51, fun t k => ?_⟩
              rw [q_z25_s0] at k
              exact pre53 t k
            ·
              have pre54 : ∀ t, Steps p.tables e below (T51.setTop (mkF m 17 #[.val (.int p1), .val (.int v4), .val (.ref k3), .unset] [(.int (3 : Int32)), (.int v4)])) t → Steps p.tables e below (s₁.setTop (entryFrame m #[(.int p1)] maxLocals)) t := fun t k => pre52 t (by
                show Steps p.tables e below (T51.setTop (mkF m 12 #[.val (.int p1), .val (.int v4), .val (.ref k3), .unset] [(.int (2 : Int32)), (.int v4)])) _
                refine XS.icmpNo X51.here hx rfl (hb hby at_12) rfl (feq hc12).1 ?_
                show Steps p.tables e below (T51.setTop (mkF m 15 #[.val (.int p1), .val (.int v4), .val (.ref k3), .unset] [])) _
                refine XS.iloadN X51.here hx rfl (hb hby at_15) rfl ?_
                show Steps p.tables e below (T51.setTop (mkF m 16 #[.val (.int p1), .val (.int v4), .val (.ref k3), .unset] [(.int v4)])) _
                refine XS.iconst X51.here hx rfl (hb hby at_16) ?_
                exact k)
              by_cases hc17 : v4 = (3 : Int32)
              ·
                have pre55 : ∀ t, Steps p.tables e below (T51.setTop (mkF m 25 #[.val (.int p1), .val (.int v4), .val (.ref k3), .unset] [(.int (1 : Int32))])) t → Steps p.tables e below (s₁.setTop (entryFrame m #[(.int p1)] maxLocals)) t := fun t k => pre54 t (by
                  show Steps p.tables e below (T51.setTop (mkF m 17 #[.val (.int p1), .val (.int v4), .val (.ref k3), .unset] [(.int (3 : Int32)), (.int v4)])) _
                  refine XS.icmpNo X51.here hx rfl (hb hby at_17) rfl (teq hc17).2 ?_
                  show Steps p.tables e below (T51.setTop (mkF m 20 #[.val (.int p1), .val (.int v4), .val (.ref k3), .unset] [])) _
                  refine XS.iconst X51.here hx rfl (hb hby at_20) ?_
                  show Steps p.tables e below (T51.setTop (mkF m 21 #[.val (.int p1), .val (.int v4), .val (.ref k3), .unset] [(.int (1 : Int32))])) _
                  refine XS.goto X51.here hx rfl (pc0 := 21) (pc' := 25) rfl (hb hby at_21) (by decide) (by decide) ?_
                  exact k)
                have q_z25_s0 : z25_s0 = (1 : Int32) := by rw [hz25_s0, if_neg hc12, if_pos hc17]
                refine ⟨_, _, X51, e51, N51, fun t k => ?_⟩
                rw [q_z25_s0] at k
                exact pre55 t k
              ·
                have pre56 : ∀ t, Steps p.tables e below (T51.setTop (mkF m 25 #[.val (.int p1), .val (.int v4), .val (.ref k3), .unset] [(.int (0 : Int32))])) t → Steps p.tables e below (s₁.setTop (entryFrame m #[(.int p1)] maxLocals)) t := fun t k => pre54 t (by
                  show Steps p.tables e below (T51.setTop (mkF m 17 #[.val (.int p1), .val (.int v4), .val (.ref k3), .unset] [(.int (3 : Int32)), (.int v4)])) _
                  refine XS.icmpYes X51.here hx rfl (pc0 := 17) (pc' := 24) rfl (hb hby at_17) rfl (feq hc17).2 (by decide) (by decide) ?_
                  show Steps p.tables e below (T51.setTop (mkF m 24 #[.val (.int p1), .val (.int v4), .val (.ref k3), .unset] [])) _
                  refine XS.iconst X51.here hx rfl (hb hby at_24) ?_
                  exact k)
                have q_z25_s0 : z25_s0 = (0 : Int32) := by rw [hz25_s0, if_neg hc12, if_neg hc17]
                refine ⟨_, _, X51, e51, N51, fun t k => ?_⟩
                rw [q_z25_s0] at k
                exact pre56 t k
          obtain ⟨cq58, kq58, q58a, q58b, q58c⟩ := isOf hZ e57 E_k3
          obtain ⟨_, _, ⟨T58, L58, k58, n58⟩, -, X58, ⟨Lc58, hQ58, l58, y58, z58⟩, st58⟩ := X57.virtualBack hx (y := (⟨"com/example/serialis/serialis/LogRecord$Kind", "endsTransaction", "()Z"⟩ : MethodName)) (z := (⟨"com/example/serialis/serialis/LogRecord$Kind", "endsTransaction", "()Z"⟩ : MethodName)) hown (mvT hZ (hw _ (List.mem_of_getElem? (i := 7) rfl))) (mvT hZ (hw _ (List.mem_of_getElem? (i := 8) rfl))) (notFace_of_selects (args := #[]) (mvT hZ (hw _ (List.mem_of_getElem? (i := 10) rfl)))) (mvT hZ (hw _ (List.mem_of_getElem? (i := 10) rfl))) (mvT hZ (hw _ (List.mem_of_getElem? (i := 9) rfl))) (by decide) (backOf (W := 0) (rmT3 l Z a0 hw [] k3 k2 h0 n0 Zs S_COMMIT S_ABORT ne_k3_k2) hZ (hw _ (List.mem_of_getElem? (i := 11) rfl)) (hw _ (List.mem_of_getElem? (i := 5) rfl)) (by decide) (by decide)) q58a q58c (g := (mkF m 27 #[.val (.int p1), .val (.int v4), .val (.ref k3), .val (.int z25_s0)] [(.ref k3)])) rfl (by rw [hml]; rfl) (Steps.refl _) (argsL := []) (rest := []) (lenOf pd_1 rfl) rfl (by show 2 * 0 + _ ≤ _; exact Nat.le_of_eq rfl) (hb hby at_27) (fun _ _ => ⟨rfl, e57, (by decide : 0 + 0 ≤ _), (by decide : 0 + 0 ≤ _)⟩)
          dsimp only [Pt.U, Pt.locs, Pt.cells, Pt.slots] at X58 l58 y58 z58 st58 hQ58
          subst l58 y58 z58
          obtain ⟨rfl, N58q, e58⟩ := hQ58
          have N58 := Fr.app N57 N58q
          have pre59 : ∀ t, Steps p.tables e below (T58.setTop (mkF m 31 #[.val (.int p1), .val (.int v4), .val (.ref k3), .val (.int z25_s0)] [(.int z25_s0), (.int (1 : Int32))])) t → Steps p.tables e below (s₁.setTop (entryFrame m #[(.int p1)] maxLocals)) t := fun t k => pre57 t (by
            show Steps p.tables e below (T57.setTop (mkF m 25 #[.val (.int p1), .val (.int v4), .val (.ref k3), .unset] [(.int z25_s0)])) _
            refine XS.istoreN X57.here hx rfl (hb hby at_25) rfl (l' := #[.val (.int p1), .val (.int v4), .val (.ref k3), .val (.int z25_s0)]) rfl ?_
            show Steps p.tables e below (T57.setTop (mkF m 26 #[.val (.int p1), .val (.int v4), .val (.ref k3), .val (.int z25_s0)] [])) _
            refine XS.aloadN X57.here hx rfl (hb hby at_26) rfl rfl ?_
            show Steps p.tables e below (T57.setTop (mkF m 27 #[.val (.int p1), .val (.int v4), .val (.ref k3), .val (.int z25_s0)] [(.ref k3)])) _
            refine st58.trans ?_
            show Steps p.tables e below (T58.setTop (mkF m 30 #[.val (.int p1), .val (.int v4), .val (.ref k3), .val (.int z25_s0)] [(.int (1 : Int32))])) _
            refine XS.iloadN X58.here hx rfl (hb hby at_30) rfl ?_
            exact k)
          obtain ⟨z39_s0, hz39_s0⟩ : ∃ z : Int32, z = (if (1 : Int32) = z25_s0 then (1 : Int32) else (0 : Int32)) := ⟨_, rfl⟩
          obtain ⟨T62, Lc62, X62, e62, N62, pre62⟩ : ∃ (T' : State) (locs' : List Loc), Stand p l e room_1 s m #[(.int p1)] below meth c T' locs' 0 0 ∧ T'.heap = h0 ∧ Fr n0 locs' ∧ ∀ t, Steps p.tables e below (T'.setTop (mkF m 39 #[.val (.int p1), .val (.int v4), .val (.ref k3), .val (.int z25_s0)] [(.int z39_s0)])) t → Steps p.tables e below (s₁.setTop (entryFrame m #[(.int p1)] maxLocals)) t := by
            by_cases hc31 : (1 : Int32) = z25_s0
            ·
              have pre60 : ∀ t, Steps p.tables e below (T58.setTop (mkF m 39 #[.val (.int p1), .val (.int v4), .val (.ref k3), .val (.int z25_s0)] [(.int (1 : Int32))])) t → Steps p.tables e below (s₁.setTop (entryFrame m #[(.int p1)] maxLocals)) t := fun t k => pre59 t (by
                show Steps p.tables e below (T58.setTop (mkF m 31 #[.val (.int p1), .val (.int v4), .val (.ref k3), .val (.int z25_s0)] [(.int z25_s0), (.int (1 : Int32))])) _
                refine XS.icmpNo X58.here hx rfl (hb hby at_31) rfl (teq hc31).2 ?_
                show Steps p.tables e below (T58.setTop (mkF m 34 #[.val (.int p1), .val (.int v4), .val (.ref k3), .val (.int z25_s0)] [])) _
                refine XS.iconst X58.here hx rfl (hb hby at_34) ?_
                show Steps p.tables e below (T58.setTop (mkF m 35 #[.val (.int p1), .val (.int v4), .val (.ref k3), .val (.int z25_s0)] [(.int (1 : Int32))])) _
                refine XS.goto X58.here hx rfl (pc0 := 35) (pc' := 39) rfl (hb hby at_35) (by decide) (by decide) ?_
                exact k)
              have q_z39_s0 : z39_s0 = (1 : Int32) := by rw [hz39_s0, if_pos hc31]
              refine ⟨_, _, X58, e58, N58, fun t k => ?_⟩
              rw [q_z39_s0] at k
              exact pre60 t k
            ·
              have pre61 : ∀ t, Steps p.tables e below (T58.setTop (mkF m 39 #[.val (.int p1), .val (.int v4), .val (.ref k3), .val (.int z25_s0)] [(.int (0 : Int32))])) t → Steps p.tables e below (s₁.setTop (entryFrame m #[(.int p1)] maxLocals)) t := fun t k => pre59 t (by
                show Steps p.tables e below (T58.setTop (mkF m 31 #[.val (.int p1), .val (.int v4), .val (.ref k3), .val (.int z25_s0)] [(.int z25_s0), (.int (1 : Int32))])) _
                refine XS.icmpYes X58.here hx rfl (pc0 := 31) (pc' := 38) rfl (hb hby at_31) rfl (feq hc31).2 (by decide) (by decide) ?_
                show Steps p.tables e below (T58.setTop (mkF m 38 #[.val (.int p1), .val (.int v4), .val (.ref k3), .val (.int z25_s0)] [])) _
                refine XS.iconst X58.here hx rfl (hb hby at_38) ?_
                exact k)
              have q_z39_s0 : z39_s0 = (0 : Int32) := by rw [hz39_s0, if_neg hc31]
              refine ⟨_, _, X58, e58, N58, fun t k => ?_⟩
              rw [q_z39_s0] at k
              exact pre61 t k
          obtain rfl : z39_s0 = (1 : Int32) := by rw [hz39_s0, hz25_s0, hk3]; decide
          obtain ⟨fs, hr, hrun, hended, hW, hsame⟩ := X62.leave (v := some (.int (1 : Int32))) (fun h => by rw [Bd.returns] at h; cases h)
          refine ⟨_, _, pre62 _ ?_, hrun, hended, _, _, rfl, ?_, ⟨_, rfl⟩, hW, hsame.mono (by decide) (by decide)⟩
          · show Steps p.tables e below (T62.setTop (mkF m 39 #[.val (.int p1), .val (.int v4), .val (.ref k3), .val (.int z25_s0)] [(.int (1 : Int32))])) _
            exact retN X62 hx (t := .boolean) Bd.returns (by simp) (hb hby at_39) hr
          · show Q0 Z p1 k0 k1 k2 k3 k4 k5 k6 k7 h0 n0 _ T62.heap _
            rw [e62]
            exact ⟨rfl, N62⟩
        ·
          by_cases hk4 : v4 = (4 : Int32)
          ·
            obtain ⟨_, _, ⟨T63, L63, k63, n63⟩, -, X63, ⟨Lc63, hQ63, l63, y63, z63⟩, st63⟩ := Jvm.LawKit.callS X0 hx (y := (⟨"com/example/serialis/serialis/KindEndsTransactionPinLaw", "pick", "(I)Lcom/example/serialis/serialis/LogRecord$Kind;"⟩ : MethodName)) hown (mvT hZ (hw _ (List.mem_of_getElem? (i := 0) rfl))) (mvT hZ (hw _ (List.mem_of_getElem? (i := 1) rfl))) (mvT hZ (hw _ (List.mem_of_getElem? (i := 2) rfl))) (mvT hZ (hw _ (List.mem_of_getElem? (i := 3) rfl))) (by decide) (backOf (W := 0) (rmP4 l Z a0 hw [] v4 k4 h0 n0 Zs hk0 hk1 hk2 hk3 hk4 S_INSERT) hZ (hw _ (List.mem_of_getElem? (i := 3) rfl)) (hw _ (List.mem_of_getElem? (i := 2) rfl)) (by decide) (by decide)) (g := (mkF m 6 #[.val (.int p1), .val (.int v4), .unset, .unset] [(.int v4)])) rfl (by rw [hml]; rfl) (argsL := [(.int v4)]) (rest := []) (lenOf pd_0 rfl) rfl (by show 2 * 0 + _ ≤ _; exact Nat.le_of_eq rfl) (hb hby at_6) (fun _ _ => ⟨rfl, e0, (by decide : 0 + 0 ≤ _), (by decide : 0 + 0 ≤ _)⟩)
            dsimp only [Pt.U, Pt.locs, Pt.cells, Pt.slots] at X63 l63 y63 z63 st63 hQ63
            subst l63 y63 z63
            obtain ⟨rfl, N63q, e63⟩ := hQ63
            have N63 := Fr.app N0 N63q
            have pre64 : ∀ t, Steps p.tables e below (T63.setTop (mkF m 12 #[.val (.int p1), .val (.int v4), .val (.ref k4), .unset] [(.int (2 : Int32)), (.int v4)])) t → Steps p.tables e below (s₁.setTop (entryFrame m #[(.int p1)] maxLocals)) t := fun t k => pre14 t (by
              show Steps p.tables e below (s₁.setTop (mkF m 5 #[.val (.int p1), .val (.int v4), .unset, .unset] [])) _
              refine XS.iloadN X0.here hx rfl (hb hby at_5) rfl ?_
              show Steps p.tables e below (s₁.setTop (mkF m 6 #[.val (.int p1), .val (.int v4), .unset, .unset] [(.int v4)])) _
              refine st63 _ ?_
              show Steps p.tables e below (T63.setTop (mkF m 9 #[.val (.int p1), .val (.int v4), .unset, .unset] [(.ref k4)])) _
              refine XS.astoreN X63.here hx rfl (hb hby at_9) rfl rfl (l' := #[.val (.int p1), .val (.int v4), .val (.ref k4), .unset]) rfl ?_
              show Steps p.tables e below (T63.setTop (mkF m 10 #[.val (.int p1), .val (.int v4), .val (.ref k4), .unset] [])) _
              refine XS.iloadN X63.here hx rfl (hb hby at_10) rfl ?_
              show Steps p.tables e below (T63.setTop (mkF m 11 #[.val (.int p1), .val (.int v4), .val (.ref k4), .unset] [(.int v4)])) _
              refine XS.iconst X63.here hx rfl (hb hby at_11) ?_
              exact k)
            obtain ⟨z25_s0, hz25_s0⟩ : ∃ z : Int32, z = (if v4 = (2 : Int32) then (1 : Int32) else (if v4 = (3 : Int32) then (1 : Int32) else (0 : Int32))) := ⟨_, rfl⟩
            obtain ⟨T69, Lc69, X69, e69, N69, pre69⟩ : ∃ (T' : State) (locs' : List Loc), Stand p l e room_1 s m #[(.int p1)] below meth c T' locs' 0 0 ∧ T'.heap = h0 ∧ Fr n0 locs' ∧ ∀ t, Steps p.tables e below (T'.setTop (mkF m 25 #[.val (.int p1), .val (.int v4), .val (.ref k4), .unset] [(.int z25_s0)])) t → Steps p.tables e below (s₁.setTop (entryFrame m #[(.int p1)] maxLocals)) t := by
              by_cases hc12 : v4 = (2 : Int32)
              ·
                have pre65 : ∀ t, Steps p.tables e below (T63.setTop (mkF m 25 #[.val (.int p1), .val (.int v4), .val (.ref k4), .unset] [(.int (1 : Int32))])) t → Steps p.tables e below (s₁.setTop (entryFrame m #[(.int p1)] maxLocals)) t := fun t k => pre64 t (by
                  show Steps p.tables e below (T63.setTop (mkF m 12 #[.val (.int p1), .val (.int v4), .val (.ref k4), .unset] [(.int (2 : Int32)), (.int v4)])) _
                  refine XS.icmpYes X63.here hx rfl (pc0 := 12) (pc' := 20) rfl (hb hby at_12) rfl (teq hc12).1 (by decide) (by decide) ?_
                  show Steps p.tables e below (T63.setTop (mkF m 20 #[.val (.int p1), .val (.int v4), .val (.ref k4), .unset] [])) _
                  refine XS.iconst X63.here hx rfl (hb hby at_20) ?_
                  show Steps p.tables e below (T63.setTop (mkF m 21 #[.val (.int p1), .val (.int v4), .val (.ref k4), .unset] [(.int (1 : Int32))])) _
                  refine XS.goto X63.here hx rfl (pc0 := 21) (pc' := 25) rfl (hb hby at_21) (by decide) (by decide) ?_
                  exact k)
                have q_z25_s0 : z25_s0 = (1 : Int32) := by rw [hz25_s0, if_pos hc12]
                refine ⟨_, _, X63, e63, N63, fun t k => ?_⟩
                rw [q_z25_s0] at k
                exact pre65 t k
              ·
                have pre66 : ∀ t, Steps p.tables e below (T63.setTop (mkF m 17 #[.val (.int p1), .val (.int v4), .val (.ref k4), .unset] [(.int (3 : Int32)), (.int v4)])) t → Steps p.tables e below (s₁.setTop (entryFrame m #[(.int p1)] maxLocals)) t := fun t k => pre64 t (by
                  show Steps p.tables e below (T63.setTop (mkF m 12 #[.val (.int p1), .val (.int v4), .val (.ref k4), .unset] [(.int (2 : Int32)), (.int v4)])) _
                  refine XS.icmpNo X63.here hx rfl (hb hby at_12) rfl (feq hc12).1 ?_
                  show Steps p.tables e below (T63.setTop (mkF m 15 #[.val (.int p1), .val (.int v4), .val (.ref k4), .unset] [])) _
                  refine XS.iloadN X63.here hx rfl (hb hby at_15) rfl ?_
                  show Steps p.tables e below (T63.setTop (mkF m 16 #[.val (.int p1), .val (.int v4), .val (.ref k4), .unset] [(.int v4)])) _
                  refine XS.iconst X63.here hx rfl (hb hby at_16) ?_
                  exact k)
                by_cases hc17 : v4 = (3 : Int32)
                ·
                  have pre67 : ∀ t, Steps p.tables e below (T63.setTop (mkF m 25 #[.val (.int p1), .val (.int v4), .val (.ref k4), .unset] [(.int (1 : Int32))])) t → Steps p.tables e below (s₁.setTop (entryFrame m #[(.int p1)] maxLocals)) t := fun t k => pre66 t (by
                    show Steps p.tables e below (T63.setTop (mkF m 17 #[.val (.int p1), .val (.int v4), .val (.ref k4), .unset] [(.int (3 : Int32)), (.int v4)])) _
                    refine XS.icmpNo X63.here hx rfl (hb hby at_17) rfl (teq hc17).2 ?_
                    show Steps p.tables e below (T63.setTop (mkF m 20 #[.val (.int p1), .val (.int v4), .val (.ref k4), .unset] [])) _
                    refine XS.iconst X63.here hx rfl (hb hby at_20) ?_
                    show Steps p.tables e below (T63.setTop (mkF m 21 #[.val (.int p1), .val (.int v4), .val (.ref k4), .unset] [(.int (1 : Int32))])) _
                    refine XS.goto X63.here hx rfl (pc0 := 21) (pc' := 25) rfl (hb hby at_21) (by decide) (by decide) ?_
                    exact k)
                  have q_z25_s0 : z25_s0 = (1 : Int32) := by rw [hz25_s0, if_neg hc12, if_pos hc17]
                  refine ⟨_, _, X63, e63, N63, fun t k => ?_⟩
                  rw [q_z25_s0] at k
                  exact pre67 t k
                ·
                  have pre68 : ∀ t, Steps p.tables e below (T63.setTop (mkF m 25 #[.val (.int p1), .val (.int v4), .val (.ref k4), .unset] [(.int (0 : Int32))])) t → Steps p.tables e below (s₁.setTop (entryFrame m #[(.int p1)] maxLocals)) t := fun t k => pre66 t (by
                    show Steps p.tables e below (T63.setTop (mkF m 17 #[.val (.int p1), .val (.int v4), .val (.ref k4), .unset] [(.int (3 : Int32)), (.int v4)])) _
                    refine XS.icmpYes X63.here hx rfl (pc0 := 17) (pc' := 24) rfl (hb hby at_17) rfl (feq hc17).2 (by decide) (by decide) ?_
                    show Steps p.tables e below (T63.setTop (mkF m 24 #[.val (.int p1), .val (.int v4), .val (.ref k4), .unset] [])) _
                    refine XS.iconst X63.here hx rfl (hb hby at_24) ?_
                    exact k)
                  have q_z25_s0 : z25_s0 = (0 : Int32) := by rw [hz25_s0, if_neg hc12, if_neg hc17]
                  refine ⟨_, _, X63, e63, N63, fun t k => ?_⟩
                  rw [q_z25_s0] at k
                  exact pre68 t k
            obtain ⟨cq70, kq70, q70a, q70b, q70c⟩ := isOf hZ e69 E_k4
            obtain ⟨_, _, ⟨T70, L70, k70, n70⟩, -, X70, ⟨Lc70, hQ70, l70, y70, z70⟩, st70⟩ := X69.virtualBack hx (y := (⟨"com/example/serialis/serialis/LogRecord$Kind", "endsTransaction", "()Z"⟩ : MethodName)) (z := (⟨"com/example/serialis/serialis/LogRecord$Kind", "endsTransaction", "()Z"⟩ : MethodName)) hown (mvT hZ (hw _ (List.mem_of_getElem? (i := 7) rfl))) (mvT hZ (hw _ (List.mem_of_getElem? (i := 8) rfl))) (notFace_of_selects (args := #[]) (mvT hZ (hw _ (List.mem_of_getElem? (i := 10) rfl)))) (mvT hZ (hw _ (List.mem_of_getElem? (i := 10) rfl))) (mvT hZ (hw _ (List.mem_of_getElem? (i := 9) rfl))) (by decide) (backOf (W := 0) (rmT0 l Z a0 hw [] k4 k2 k3 h0 n0 Zs S_COMMIT S_ABORT ne_k4_k2 ne_k4_k3) hZ (hw _ (List.mem_of_getElem? (i := 11) rfl)) (hw _ (List.mem_of_getElem? (i := 5) rfl)) (by decide) (by decide)) q70a q70c (g := (mkF m 27 #[.val (.int p1), .val (.int v4), .val (.ref k4), .val (.int z25_s0)] [(.ref k4)])) rfl (by rw [hml]; rfl) (Steps.refl _) (argsL := []) (rest := []) (lenOf pd_1 rfl) rfl (by show 2 * 0 + _ ≤ _; exact Nat.le_of_eq rfl) (hb hby at_27) (fun _ _ => ⟨rfl, e69, (by decide : 0 + 0 ≤ _), (by decide : 0 + 0 ≤ _)⟩)
            dsimp only [Pt.U, Pt.locs, Pt.cells, Pt.slots] at X70 l70 y70 z70 st70 hQ70
            subst l70 y70 z70
            obtain ⟨rfl, N70q, e70⟩ := hQ70
            have N70 := Fr.app N69 N70q
            have pre71 : ∀ t, Steps p.tables e below (T70.setTop (mkF m 31 #[.val (.int p1), .val (.int v4), .val (.ref k4), .val (.int z25_s0)] [(.int z25_s0), (.int (0 : Int32))])) t → Steps p.tables e below (s₁.setTop (entryFrame m #[(.int p1)] maxLocals)) t := fun t k => pre69 t (by
              show Steps p.tables e below (T69.setTop (mkF m 25 #[.val (.int p1), .val (.int v4), .val (.ref k4), .unset] [(.int z25_s0)])) _
              refine XS.istoreN X69.here hx rfl (hb hby at_25) rfl (l' := #[.val (.int p1), .val (.int v4), .val (.ref k4), .val (.int z25_s0)]) rfl ?_
              show Steps p.tables e below (T69.setTop (mkF m 26 #[.val (.int p1), .val (.int v4), .val (.ref k4), .val (.int z25_s0)] [])) _
              refine XS.aloadN X69.here hx rfl (hb hby at_26) rfl rfl ?_
              show Steps p.tables e below (T69.setTop (mkF m 27 #[.val (.int p1), .val (.int v4), .val (.ref k4), .val (.int z25_s0)] [(.ref k4)])) _
              refine st70.trans ?_
              show Steps p.tables e below (T70.setTop (mkF m 30 #[.val (.int p1), .val (.int v4), .val (.ref k4), .val (.int z25_s0)] [(.int (0 : Int32))])) _
              refine XS.iloadN X70.here hx rfl (hb hby at_30) rfl ?_
              exact k)
            obtain ⟨z39_s0, hz39_s0⟩ : ∃ z : Int32, z = (if (0 : Int32) = z25_s0 then (1 : Int32) else (0 : Int32)) := ⟨_, rfl⟩
            obtain ⟨T74, Lc74, X74, e74, N74, pre74⟩ : ∃ (T' : State) (locs' : List Loc), Stand p l e room_1 s m #[(.int p1)] below meth c T' locs' 0 0 ∧ T'.heap = h0 ∧ Fr n0 locs' ∧ ∀ t, Steps p.tables e below (T'.setTop (mkF m 39 #[.val (.int p1), .val (.int v4), .val (.ref k4), .val (.int z25_s0)] [(.int z39_s0)])) t → Steps p.tables e below (s₁.setTop (entryFrame m #[(.int p1)] maxLocals)) t := by
              by_cases hc31 : (0 : Int32) = z25_s0
              ·
                have pre72 : ∀ t, Steps p.tables e below (T70.setTop (mkF m 39 #[.val (.int p1), .val (.int v4), .val (.ref k4), .val (.int z25_s0)] [(.int (1 : Int32))])) t → Steps p.tables e below (s₁.setTop (entryFrame m #[(.int p1)] maxLocals)) t := fun t k => pre71 t (by
                  show Steps p.tables e below (T70.setTop (mkF m 31 #[.val (.int p1), .val (.int v4), .val (.ref k4), .val (.int z25_s0)] [(.int z25_s0), (.int (0 : Int32))])) _
                  refine XS.icmpNo X70.here hx rfl (hb hby at_31) rfl (teq hc31).2 ?_
                  show Steps p.tables e below (T70.setTop (mkF m 34 #[.val (.int p1), .val (.int v4), .val (.ref k4), .val (.int z25_s0)] [])) _
                  refine XS.iconst X70.here hx rfl (hb hby at_34) ?_
                  show Steps p.tables e below (T70.setTop (mkF m 35 #[.val (.int p1), .val (.int v4), .val (.ref k4), .val (.int z25_s0)] [(.int (1 : Int32))])) _
                  refine XS.goto X70.here hx rfl (pc0 := 35) (pc' := 39) rfl (hb hby at_35) (by decide) (by decide) ?_
                  exact k)
                have q_z39_s0 : z39_s0 = (1 : Int32) := by rw [hz39_s0, if_pos hc31]
                refine ⟨_, _, X70, e70, N70, fun t k => ?_⟩
                rw [q_z39_s0] at k
                exact pre72 t k
              ·
                have pre73 : ∀ t, Steps p.tables e below (T70.setTop (mkF m 39 #[.val (.int p1), .val (.int v4), .val (.ref k4), .val (.int z25_s0)] [(.int (0 : Int32))])) t → Steps p.tables e below (s₁.setTop (entryFrame m #[(.int p1)] maxLocals)) t := fun t k => pre71 t (by
                  show Steps p.tables e below (T70.setTop (mkF m 31 #[.val (.int p1), .val (.int v4), .val (.ref k4), .val (.int z25_s0)] [(.int z25_s0), (.int (0 : Int32))])) _
                  refine XS.icmpYes X70.here hx rfl (pc0 := 31) (pc' := 38) rfl (hb hby at_31) rfl (feq hc31).2 (by decide) (by decide) ?_
                  show Steps p.tables e below (T70.setTop (mkF m 38 #[.val (.int p1), .val (.int v4), .val (.ref k4), .val (.int z25_s0)] [])) _
                  refine XS.iconst X70.here hx rfl (hb hby at_38) ?_
                  exact k)
                have q_z39_s0 : z39_s0 = (0 : Int32) := by rw [hz39_s0, if_neg hc31]
                refine ⟨_, _, X70, e70, N70, fun t k => ?_⟩
                rw [q_z39_s0] at k
                exact pre73 t k
            obtain rfl : z39_s0 = (1 : Int32) := by rw [hz39_s0, hz25_s0, hk4]; decide
            obtain ⟨fs, hr, hrun, hended, hW, hsame⟩ := X74.leave (v := some (.int (1 : Int32))) (fun h => by rw [Bd.returns] at h; cases h)
            refine ⟨_, _, pre74 _ ?_, hrun, hended, _, _, rfl, ?_, ⟨_, rfl⟩, hW, hsame.mono (by decide) (by decide)⟩
            · show Steps p.tables e below (T74.setTop (mkF m 39 #[.val (.int p1), .val (.int v4), .val (.ref k4), .val (.int z25_s0)] [(.int (1 : Int32))])) _
              exact retN X74 hx (t := .boolean) Bd.returns (by simp) (hb hby at_39) hr
            · show Q0 Z p1 k0 k1 k2 k3 k4 k5 k6 k7 h0 n0 _ T74.heap _
              rw [e74]
              exact ⟨rfl, N74⟩
          ·
            by_cases hk5 : v4 = (5 : Int32)
            ·
              obtain ⟨_, _, ⟨T75, L75, k75, n75⟩, -, X75, ⟨Lc75, hQ75, l75, y75, z75⟩, st75⟩ := Jvm.LawKit.callS X0 hx (y := (⟨"com/example/serialis/serialis/KindEndsTransactionPinLaw", "pick", "(I)Lcom/example/serialis/serialis/LogRecord$Kind;"⟩ : MethodName)) hown (mvT hZ (hw _ (List.mem_of_getElem? (i := 0) rfl))) (mvT hZ (hw _ (List.mem_of_getElem? (i := 1) rfl))) (mvT hZ (hw _ (List.mem_of_getElem? (i := 2) rfl))) (mvT hZ (hw _ (List.mem_of_getElem? (i := 3) rfl))) (by decide) (backOf (W := 0) (rmP5 l Z a0 hw [] v4 k5 h0 n0 Zs hk0 hk1 hk2 hk3 hk4 hk5 S_DELETE) hZ (hw _ (List.mem_of_getElem? (i := 3) rfl)) (hw _ (List.mem_of_getElem? (i := 2) rfl)) (by decide) (by decide)) (g := (mkF m 6 #[.val (.int p1), .val (.int v4), .unset, .unset] [(.int v4)])) rfl (by rw [hml]; rfl) (argsL := [(.int v4)]) (rest := []) (lenOf pd_0 rfl) rfl (by show 2 * 0 + _ ≤ _; exact Nat.le_of_eq rfl) (hb hby at_6) (fun _ _ => ⟨rfl, e0, (by decide : 0 + 0 ≤ _), (by decide : 0 + 0 ≤ _)⟩)
              dsimp only [Pt.U, Pt.locs, Pt.cells, Pt.slots] at X75 l75 y75 z75 st75 hQ75
              subst l75 y75 z75
              obtain ⟨rfl, N75q, e75⟩ := hQ75
              have N75 := Fr.app N0 N75q
              have pre76 : ∀ t, Steps p.tables e below (T75.setTop (mkF m 12 #[.val (.int p1), .val (.int v4), .val (.ref k5), .unset] [(.int (2 : Int32)), (.int v4)])) t → Steps p.tables e below (s₁.setTop (entryFrame m #[(.int p1)] maxLocals)) t := fun t k => pre14 t (by
                show Steps p.tables e below (s₁.setTop (mkF m 5 #[.val (.int p1), .val (.int v4), .unset, .unset] [])) _
                refine XS.iloadN X0.here hx rfl (hb hby at_5) rfl ?_
                show Steps p.tables e below (s₁.setTop (mkF m 6 #[.val (.int p1), .val (.int v4), .unset, .unset] [(.int v4)])) _
                refine st75 _ ?_
                show Steps p.tables e below (T75.setTop (mkF m 9 #[.val (.int p1), .val (.int v4), .unset, .unset] [(.ref k5)])) _
                refine XS.astoreN X75.here hx rfl (hb hby at_9) rfl rfl (l' := #[.val (.int p1), .val (.int v4), .val (.ref k5), .unset]) rfl ?_
                show Steps p.tables e below (T75.setTop (mkF m 10 #[.val (.int p1), .val (.int v4), .val (.ref k5), .unset] [])) _
                refine XS.iloadN X75.here hx rfl (hb hby at_10) rfl ?_
                show Steps p.tables e below (T75.setTop (mkF m 11 #[.val (.int p1), .val (.int v4), .val (.ref k5), .unset] [(.int v4)])) _
                refine XS.iconst X75.here hx rfl (hb hby at_11) ?_
                exact k)
              obtain ⟨z25_s0, hz25_s0⟩ : ∃ z : Int32, z = (if v4 = (2 : Int32) then (1 : Int32) else (if v4 = (3 : Int32) then (1 : Int32) else (0 : Int32))) := ⟨_, rfl⟩
              obtain ⟨T81, Lc81, X81, e81, N81, pre81⟩ : ∃ (T' : State) (locs' : List Loc), Stand p l e room_1 s m #[(.int p1)] below meth c T' locs' 0 0 ∧ T'.heap = h0 ∧ Fr n0 locs' ∧ ∀ t, Steps p.tables e below (T'.setTop (mkF m 25 #[.val (.int p1), .val (.int v4), .val (.ref k5), .unset] [(.int z25_s0)])) t → Steps p.tables e below (s₁.setTop (entryFrame m #[(.int p1)] maxLocals)) t := by
                by_cases hc12 : v4 = (2 : Int32)
                ·
                  have pre77 : ∀ t, Steps p.tables e below (T75.setTop (mkF m 25 #[.val (.int p1), .val (.int v4), .val (.ref k5), .unset] [(.int (1 : Int32))])) t → Steps p.tables e below (s₁.setTop (entryFrame m #[(.int p1)] maxLocals)) t := fun t k => pre76 t (by
                    show Steps p.tables e below (T75.setTop (mkF m 12 #[.val (.int p1), .val (.int v4), .val (.ref k5), .unset] [(.int (2 : Int32)), (.int v4)])) _
                    refine XS.icmpYes X75.here hx rfl (pc0 := 12) (pc' := 20) rfl (hb hby at_12) rfl (teq hc12).1 (by decide) (by decide) ?_
                    show Steps p.tables e below (T75.setTop (mkF m 20 #[.val (.int p1), .val (.int v4), .val (.ref k5), .unset] [])) _
                    refine XS.iconst X75.here hx rfl (hb hby at_20) ?_
                    show Steps p.tables e below (T75.setTop (mkF m 21 #[.val (.int p1), .val (.int v4), .val (.ref k5), .unset] [(.int (1 : Int32))])) _
                    refine XS.goto X75.here hx rfl (pc0 := 21) (pc' := 25) rfl (hb hby at_21) (by decide) (by decide) ?_
                    exact k)
                  have q_z25_s0 : z25_s0 = (1 : Int32) := by rw [hz25_s0, if_pos hc12]
                  refine ⟨_, _, X75, e75, N75, fun t k => ?_⟩
                  rw [q_z25_s0] at k
                  exact pre77 t k
                ·
                  have pre78 : ∀ t, Steps p.tables e below (T75.setTop (mkF m 17 #[.val (.int p1), .val (.int v4), .val (.ref k5), .unset] [(.int (3 : Int32)), (.int v4)])) t → Steps p.tables e below (s₁.setTop (entryFrame m #[(.int p1)] maxLocals)) t := fun t k => pre76 t (by
                    show Steps p.tables e below (T75.setTop (mkF m 12 #[.val (.int p1), .val (.int v4), .val (.ref k5), .unset] [(.int (2 : Int32)), (.int v4)])) _
                    refine XS.icmpNo X75.here hx rfl (hb hby at_12) rfl (feq hc12).1 ?_
                    show Steps p.tables e below (T75.setTop (mkF m 15 #[.val (.int p1), .val (.int v4), .val (.ref k5), .unset] [])) _
                    refine XS.iloadN X75.here hx rfl (hb hby at_15) rfl ?_
                    show Steps p.tables e below (T75.setTop (mkF m 16 #[.val (.int p1), .val (.int v4), .val (.ref k5), .unset] [(.int v4)])) _
                    refine XS.iconst X75.here hx rfl (hb hby at_16) ?_
                    exact k)
                  by_cases hc17 : v4 = (3 : Int32)
                  ·
                    have pre79 : ∀ t, Steps p.tables e below (T75.setTop (mkF m 25 #[.val (.int p1), .val (.int v4), .val (.ref k5), .unset] [(.int (1 : Int32))])) t → Steps p.tables e below (s₁.setTop (entryFrame m #[(.int p1)] maxLocals)) t := fun t k => pre78 t (by
                      show Steps p.tables e below (T75.setTop (mkF m 17 #[.val (.int p1), .val (.int v4), .val (.ref k5), .unset] [(.int (3 : Int32)), (.int v4)])) _
                      refine XS.icmpNo X75.here hx rfl (hb hby at_17) rfl (teq hc17).2 ?_
                      show Steps p.tables e below (T75.setTop (mkF m 20 #[.val (.int p1), .val (.int v4), .val (.ref k5), .unset] [])) _
                      refine XS.iconst X75.here hx rfl (hb hby at_20) ?_
                      show Steps p.tables e below (T75.setTop (mkF m 21 #[.val (.int p1), .val (.int v4), .val (.ref k5), .unset] [(.int (1 : Int32))])) _
                      refine XS.goto X75.here hx rfl (pc0 := 21) (pc' := 25) rfl (hb hby at_21) (by decide) (by decide) ?_
                      exact k)
                    have q_z25_s0 : z25_s0 = (1 : Int32) := by rw [hz25_s0, if_neg hc12, if_pos hc17]
                    refine ⟨_, _, X75, e75, N75, fun t k => ?_⟩
                    rw [q_z25_s0] at k
                    exact pre79 t k
                  ·
                    have pre80 : ∀ t, Steps p.tables e below (T75.setTop (mkF m 25 #[.val (.int p1), .val (.int v4), .val (.ref k5), .unset] [(.int (0 : Int32))])) t → Steps p.tables e below (s₁.setTop (entryFrame m #[(.int p1)] maxLocals)) t := fun t k => pre78 t (by
                      show Steps p.tables e below (T75.setTop (mkF m 17 #[.val (.int p1), .val (.int v4), .val (.ref k5), .unset] [(.int (3 : Int32)), (.int v4)])) _
                      refine XS.icmpYes X75.here hx rfl (pc0 := 17) (pc' := 24) rfl (hb hby at_17) rfl (feq hc17).2 (by decide) (by decide) ?_
                      show Steps p.tables e below (T75.setTop (mkF m 24 #[.val (.int p1), .val (.int v4), .val (.ref k5), .unset] [])) _
                      refine XS.iconst X75.here hx rfl (hb hby at_24) ?_
                      exact k)
                    have q_z25_s0 : z25_s0 = (0 : Int32) := by rw [hz25_s0, if_neg hc12, if_neg hc17]
                    refine ⟨_, _, X75, e75, N75, fun t k => ?_⟩
                    rw [q_z25_s0] at k
                    exact pre80 t k
              obtain ⟨cq82, kq82, q82a, q82b, q82c⟩ := isOf hZ e81 E_k5
              obtain ⟨_, _, ⟨T82, L82, k82, n82⟩, -, X82, ⟨Lc82, hQ82, l82, y82, z82⟩, st82⟩ := X81.virtualBack hx (y := (⟨"com/example/serialis/serialis/LogRecord$Kind", "endsTransaction", "()Z"⟩ : MethodName)) (z := (⟨"com/example/serialis/serialis/LogRecord$Kind", "endsTransaction", "()Z"⟩ : MethodName)) hown (mvT hZ (hw _ (List.mem_of_getElem? (i := 7) rfl))) (mvT hZ (hw _ (List.mem_of_getElem? (i := 8) rfl))) (notFace_of_selects (args := #[]) (mvT hZ (hw _ (List.mem_of_getElem? (i := 10) rfl)))) (mvT hZ (hw _ (List.mem_of_getElem? (i := 10) rfl))) (mvT hZ (hw _ (List.mem_of_getElem? (i := 9) rfl))) (by decide) (backOf (W := 0) (rmT0 l Z a0 hw [] k5 k2 k3 h0 n0 Zs S_COMMIT S_ABORT ne_k5_k2 ne_k5_k3) hZ (hw _ (List.mem_of_getElem? (i := 11) rfl)) (hw _ (List.mem_of_getElem? (i := 5) rfl)) (by decide) (by decide)) q82a q82c (g := (mkF m 27 #[.val (.int p1), .val (.int v4), .val (.ref k5), .val (.int z25_s0)] [(.ref k5)])) rfl (by rw [hml]; rfl) (Steps.refl _) (argsL := []) (rest := []) (lenOf pd_1 rfl) rfl (by show 2 * 0 + _ ≤ _; exact Nat.le_of_eq rfl) (hb hby at_27) (fun _ _ => ⟨rfl, e81, (by decide : 0 + 0 ≤ _), (by decide : 0 + 0 ≤ _)⟩)
              dsimp only [Pt.U, Pt.locs, Pt.cells, Pt.slots] at X82 l82 y82 z82 st82 hQ82
              subst l82 y82 z82
              obtain ⟨rfl, N82q, e82⟩ := hQ82
              have N82 := Fr.app N81 N82q
              have pre83 : ∀ t, Steps p.tables e below (T82.setTop (mkF m 31 #[.val (.int p1), .val (.int v4), .val (.ref k5), .val (.int z25_s0)] [(.int z25_s0), (.int (0 : Int32))])) t → Steps p.tables e below (s₁.setTop (entryFrame m #[(.int p1)] maxLocals)) t := fun t k => pre81 t (by
                show Steps p.tables e below (T81.setTop (mkF m 25 #[.val (.int p1), .val (.int v4), .val (.ref k5), .unset] [(.int z25_s0)])) _
                refine XS.istoreN X81.here hx rfl (hb hby at_25) rfl (l' := #[.val (.int p1), .val (.int v4), .val (.ref k5), .val (.int z25_s0)]) rfl ?_
                show Steps p.tables e below (T81.setTop (mkF m 26 #[.val (.int p1), .val (.int v4), .val (.ref k5), .val (.int z25_s0)] [])) _
                refine XS.aloadN X81.here hx rfl (hb hby at_26) rfl rfl ?_
                show Steps p.tables e below (T81.setTop (mkF m 27 #[.val (.int p1), .val (.int v4), .val (.ref k5), .val (.int z25_s0)] [(.ref k5)])) _
                refine st82.trans ?_
                show Steps p.tables e below (T82.setTop (mkF m 30 #[.val (.int p1), .val (.int v4), .val (.ref k5), .val (.int z25_s0)] [(.int (0 : Int32))])) _
                refine XS.iloadN X82.here hx rfl (hb hby at_30) rfl ?_
                exact k)
              obtain ⟨z39_s0, hz39_s0⟩ : ∃ z : Int32, z = (if (0 : Int32) = z25_s0 then (1 : Int32) else (0 : Int32)) := ⟨_, rfl⟩
              obtain ⟨T86, Lc86, X86, e86, N86, pre86⟩ : ∃ (T' : State) (locs' : List Loc), Stand p l e room_1 s m #[(.int p1)] below meth c T' locs' 0 0 ∧ T'.heap = h0 ∧ Fr n0 locs' ∧ ∀ t, Steps p.tables e below (T'.setTop (mkF m 39 #[.val (.int p1), .val (.int v4), .val (.ref k5), .val (.int z25_s0)] [(.int z39_s0)])) t → Steps p.tables e below (s₁.setTop (entryFrame m #[(.int p1)] maxLocals)) t := by
                by_cases hc31 : (0 : Int32) = z25_s0
                ·
                  have pre84 : ∀ t, Steps p.tables e below (T82.setTop (mkF m 39 #[.val (.int p1), .val (.int v4), .val (.ref k5), .val (.int z25_s0)] [(.int (1 : Int32))])) t → Steps p.tables e below (s₁.setTop (entryFrame m #[(.int p1)] maxLocals)) t := fun t k => pre83 t (by
                    show Steps p.tables e below (T82.setTop (mkF m 31 #[.val (.int p1), .val (.int v4), .val (.ref k5), .val (.int z25_s0)] [(.int z25_s0), (.int (0 : Int32))])) _
                    refine XS.icmpNo X82.here hx rfl (hb hby at_31) rfl (teq hc31).2 ?_
                    show Steps p.tables e below (T82.setTop (mkF m 34 #[.val (.int p1), .val (.int v4), .val (.ref k5), .val (.int z25_s0)] [])) _
                    refine XS.iconst X82.here hx rfl (hb hby at_34) ?_
                    show Steps p.tables e below (T82.setTop (mkF m 35 #[.val (.int p1), .val (.int v4), .val (.ref k5), .val (.int z25_s0)] [(.int (1 : Int32))])) _
                    refine XS.goto X82.here hx rfl (pc0 := 35) (pc' := 39) rfl (hb hby at_35) (by decide) (by decide) ?_
                    exact k)
                  have q_z39_s0 : z39_s0 = (1 : Int32) := by rw [hz39_s0, if_pos hc31]
                  refine ⟨_, _, X82, e82, N82, fun t k => ?_⟩
                  rw [q_z39_s0] at k
                  exact pre84 t k
                ·
                  have pre85 : ∀ t, Steps p.tables e below (T82.setTop (mkF m 39 #[.val (.int p1), .val (.int v4), .val (.ref k5), .val (.int z25_s0)] [(.int (0 : Int32))])) t → Steps p.tables e below (s₁.setTop (entryFrame m #[(.int p1)] maxLocals)) t := fun t k => pre83 t (by
                    show Steps p.tables e below (T82.setTop (mkF m 31 #[.val (.int p1), .val (.int v4), .val (.ref k5), .val (.int z25_s0)] [(.int z25_s0), (.int (0 : Int32))])) _
                    refine XS.icmpYes X82.here hx rfl (pc0 := 31) (pc' := 38) rfl (hb hby at_31) rfl (feq hc31).2 (by decide) (by decide) ?_
                    show Steps p.tables e below (T82.setTop (mkF m 38 #[.val (.int p1), .val (.int v4), .val (.ref k5), .val (.int z25_s0)] [])) _
                    refine XS.iconst X82.here hx rfl (hb hby at_38) ?_
                    exact k)
                  have q_z39_s0 : z39_s0 = (0 : Int32) := by rw [hz39_s0, if_neg hc31]
                  refine ⟨_, _, X82, e82, N82, fun t k => ?_⟩
                  rw [q_z39_s0] at k
                  exact pre85 t k
              obtain rfl : z39_s0 = (1 : Int32) := by rw [hz39_s0, hz25_s0, hk5]; decide
              obtain ⟨fs, hr, hrun, hended, hW, hsame⟩ := X86.leave (v := some (.int (1 : Int32))) (fun h => by rw [Bd.returns] at h; cases h)
              refine ⟨_, _, pre86 _ ?_, hrun, hended, _, _, rfl, ?_, ⟨_, rfl⟩, hW, hsame.mono (by decide) (by decide)⟩
              · show Steps p.tables e below (T86.setTop (mkF m 39 #[.val (.int p1), .val (.int v4), .val (.ref k5), .val (.int z25_s0)] [(.int (1 : Int32))])) _
                exact retN X86 hx (t := .boolean) Bd.returns (by simp) (hb hby at_39) hr
              · show Q0 Z p1 k0 k1 k2 k3 k4 k5 k6 k7 h0 n0 _ T86.heap _
                rw [e86]
                exact ⟨rfl, N86⟩
            ·
              by_cases hk6 : v4 = (6 : Int32)
              ·
                obtain ⟨_, _, ⟨T87, L87, k87, n87⟩, -, X87, ⟨Lc87, hQ87, l87, y87, z87⟩, st87⟩ := Jvm.LawKit.callS X0 hx (y := (⟨"com/example/serialis/serialis/KindEndsTransactionPinLaw", "pick", "(I)Lcom/example/serialis/serialis/LogRecord$Kind;"⟩ : MethodName)) hown (mvT hZ (hw _ (List.mem_of_getElem? (i := 0) rfl))) (mvT hZ (hw _ (List.mem_of_getElem? (i := 1) rfl))) (mvT hZ (hw _ (List.mem_of_getElem? (i := 2) rfl))) (mvT hZ (hw _ (List.mem_of_getElem? (i := 3) rfl))) (by decide) (backOf (W := 0) (rmP6 l Z a0 hw [] v4 k6 h0 n0 Zs hk0 hk1 hk2 hk3 hk4 hk5 hk6 S_UPDATE) hZ (hw _ (List.mem_of_getElem? (i := 3) rfl)) (hw _ (List.mem_of_getElem? (i := 2) rfl)) (by decide) (by decide)) (g := (mkF m 6 #[.val (.int p1), .val (.int v4), .unset, .unset] [(.int v4)])) rfl (by rw [hml]; rfl) (argsL := [(.int v4)]) (rest := []) (lenOf pd_0 rfl) rfl (by show 2 * 0 + _ ≤ _; exact Nat.le_of_eq rfl) (hb hby at_6) (fun _ _ => ⟨rfl, e0, (by decide : 0 + 0 ≤ _), (by decide : 0 + 0 ≤ _)⟩)
                dsimp only [Pt.U, Pt.locs, Pt.cells, Pt.slots] at X87 l87 y87 z87 st87 hQ87
                subst l87 y87 z87
                obtain ⟨rfl, N87q, e87⟩ := hQ87
                have N87 := Fr.app N0 N87q
                have pre88 : ∀ t, Steps p.tables e below (T87.setTop (mkF m 12 #[.val (.int p1), .val (.int v4), .val (.ref k6), .unset] [(.int (2 : Int32)), (.int v4)])) t → Steps p.tables e below (s₁.setTop (entryFrame m #[(.int p1)] maxLocals)) t := fun t k => pre14 t (by
                  show Steps p.tables e below (s₁.setTop (mkF m 5 #[.val (.int p1), .val (.int v4), .unset, .unset] [])) _
                  refine XS.iloadN X0.here hx rfl (hb hby at_5) rfl ?_
                  show Steps p.tables e below (s₁.setTop (mkF m 6 #[.val (.int p1), .val (.int v4), .unset, .unset] [(.int v4)])) _
                  refine st87 _ ?_
                  show Steps p.tables e below (T87.setTop (mkF m 9 #[.val (.int p1), .val (.int v4), .unset, .unset] [(.ref k6)])) _
                  refine XS.astoreN X87.here hx rfl (hb hby at_9) rfl rfl (l' := #[.val (.int p1), .val (.int v4), .val (.ref k6), .unset]) rfl ?_
                  show Steps p.tables e below (T87.setTop (mkF m 10 #[.val (.int p1), .val (.int v4), .val (.ref k6), .unset] [])) _
                  refine XS.iloadN X87.here hx rfl (hb hby at_10) rfl ?_
                  show Steps p.tables e below (T87.setTop (mkF m 11 #[.val (.int p1), .val (.int v4), .val (.ref k6), .unset] [(.int v4)])) _
                  refine XS.iconst X87.here hx rfl (hb hby at_11) ?_
                  exact k)
                obtain ⟨z25_s0, hz25_s0⟩ : ∃ z : Int32, z = (if v4 = (2 : Int32) then (1 : Int32) else (if v4 = (3 : Int32) then (1 : Int32) else (0 : Int32))) := ⟨_, rfl⟩
                obtain ⟨T93, Lc93, X93, e93, N93, pre93⟩ : ∃ (T' : State) (locs' : List Loc), Stand p l e room_1 s m #[(.int p1)] below meth c T' locs' 0 0 ∧ T'.heap = h0 ∧ Fr n0 locs' ∧ ∀ t, Steps p.tables e below (T'.setTop (mkF m 25 #[.val (.int p1), .val (.int v4), .val (.ref k6), .unset] [(.int z25_s0)])) t → Steps p.tables e below (s₁.setTop (entryFrame m #[(.int p1)] maxLocals)) t := by
                  by_cases hc12 : v4 = (2 : Int32)
                  ·
                    have pre89 : ∀ t, Steps p.tables e below (T87.setTop (mkF m 25 #[.val (.int p1), .val (.int v4), .val (.ref k6), .unset] [(.int (1 : Int32))])) t → Steps p.tables e below (s₁.setTop (entryFrame m #[(.int p1)] maxLocals)) t := fun t k => pre88 t (by
                      show Steps p.tables e below (T87.setTop (mkF m 12 #[.val (.int p1), .val (.int v4), .val (.ref k6), .unset] [(.int (2 : Int32)), (.int v4)])) _
                      refine XS.icmpYes X87.here hx rfl (pc0 := 12) (pc' := 20) rfl (hb hby at_12) rfl (teq hc12).1 (by decide) (by decide) ?_
                      show Steps p.tables e below (T87.setTop (mkF m 20 #[.val (.int p1), .val (.int v4), .val (.ref k6), .unset] [])) _
                      refine XS.iconst X87.here hx rfl (hb hby at_20) ?_
                      show Steps p.tables e below (T87.setTop (mkF m 21 #[.val (.int p1), .val (.int v4), .val (.ref k6), .unset] [(.int (1 : Int32))])) _
                      refine XS.goto X87.here hx rfl (pc0 := 21) (pc' := 25) rfl (hb hby at_21) (by decide) (by decide) ?_
                      exact k)
                    have q_z25_s0 : z25_s0 = (1 : Int32) := by rw [hz25_s0, if_pos hc12]
                    refine ⟨_, _, X87, e87, N87, fun t k => ?_⟩
                    rw [q_z25_s0] at k
                    exact pre89 t k
                  ·
                    have pre90 : ∀ t, Steps p.tables e below (T87.setTop (mkF m 17 #[.val (.int p1), .val (.int v4), .val (.ref k6), .unset] [(.int (3 : Int32)), (.int v4)])) t → Steps p.tables e below (s₁.setTop (entryFrame m #[(.int p1)] maxLocals)) t := fun t k => pre88 t (by
                      show Steps p.tables e below (T87.setTop (mkF m 12 #[.val (.int p1), .val (.int v4), .val (.ref k6), .unset] [(.int (2 : Int32)), (.int v4)])) _
                      refine XS.icmpNo X87.here hx rfl (hb hby at_12) rfl (feq hc12).1 ?_
                      show Steps p.tables e below (T87.setTop (mkF m 15 #[.val (.int p1), .val (.int v4), .val (.ref k6), .unset] [])) _
                      refine XS.iloadN X87.here hx rfl (hb hby at_15) rfl ?_
                      show Steps p.tables e below (T87.setTop (mkF m 16 #[.val (.int p1), .val (.int v4), .val (.ref k6), .unset] [(.int v4)])) _
                      refine XS.iconst X87.here hx rfl (hb hby at_16) ?_
                      exact k)
                    by_cases hc17 : v4 = (3 : Int32)
                    ·
                      have pre91 : ∀ t, Steps p.tables e below (T87.setTop (mkF m 25 #[.val (.int p1), .val (.int v4), .val (.ref k6), .unset] [(.int (1 : Int32))])) t → Steps p.tables e below (s₁.setTop (entryFrame m #[(.int p1)] maxLocals)) t := fun t k => pre90 t (by
                        show Steps p.tables e below (T87.setTop (mkF m 17 #[.val (.int p1), .val (.int v4), .val (.ref k6), .unset] [(.int (3 : Int32)), (.int v4)])) _
                        refine XS.icmpNo X87.here hx rfl (hb hby at_17) rfl (teq hc17).2 ?_
                        show Steps p.tables e below (T87.setTop (mkF m 20 #[.val (.int p1), .val (.int v4), .val (.ref k6), .unset] [])) _
                        refine XS.iconst X87.here hx rfl (hb hby at_20) ?_
                        show Steps p.tables e below (T87.setTop (mkF m 21 #[.val (.int p1), .val (.int v4), .val (.ref k6), .unset] [(.int (1 : Int32))])) _
                        refine XS.goto X87.here hx rfl (pc0 := 21) (pc' := 25) rfl (hb hby at_21) (by decide) (by decide) ?_
                        exact k)
                      have q_z25_s0 : z25_s0 = (1 : Int32) := by rw [hz25_s0, if_neg hc12, if_pos hc17]
                      refine ⟨_, _, X87, e87, N87, fun t k => ?_⟩
                      rw [q_z25_s0] at k
                      exact pre91 t k
                    ·
                      have pre92 : ∀ t, Steps p.tables e below (T87.setTop (mkF m 25 #[.val (.int p1), .val (.int v4), .val (.ref k6), .unset] [(.int (0 : Int32))])) t → Steps p.tables e below (s₁.setTop (entryFrame m #[(.int p1)] maxLocals)) t := fun t k => pre90 t (by
                        show Steps p.tables e below (T87.setTop (mkF m 17 #[.val (.int p1), .val (.int v4), .val (.ref k6), .unset] [(.int (3 : Int32)), (.int v4)])) _
                        refine XS.icmpYes X87.here hx rfl (pc0 := 17) (pc' := 24) rfl (hb hby at_17) rfl (feq hc17).2 (by decide) (by decide) ?_
                        show Steps p.tables e below (T87.setTop (mkF m 24 #[.val (.int p1), .val (.int v4), .val (.ref k6), .unset] [])) _
                        refine XS.iconst X87.here hx rfl (hb hby at_24) ?_
                        exact k)
                      have q_z25_s0 : z25_s0 = (0 : Int32) := by rw [hz25_s0, if_neg hc12, if_neg hc17]
                      refine ⟨_, _, X87, e87, N87, fun t k => ?_⟩
                      rw [q_z25_s0] at k
                      exact pre92 t k
                obtain ⟨cq94, kq94, q94a, q94b, q94c⟩ := isOf hZ e93 E_k6
                obtain ⟨_, _, ⟨T94, L94, k94, n94⟩, -, X94, ⟨Lc94, hQ94, l94, y94, z94⟩, st94⟩ := X93.virtualBack hx (y := (⟨"com/example/serialis/serialis/LogRecord$Kind", "endsTransaction", "()Z"⟩ : MethodName)) (z := (⟨"com/example/serialis/serialis/LogRecord$Kind", "endsTransaction", "()Z"⟩ : MethodName)) hown (mvT hZ (hw _ (List.mem_of_getElem? (i := 7) rfl))) (mvT hZ (hw _ (List.mem_of_getElem? (i := 8) rfl))) (notFace_of_selects (args := #[]) (mvT hZ (hw _ (List.mem_of_getElem? (i := 10) rfl)))) (mvT hZ (hw _ (List.mem_of_getElem? (i := 10) rfl))) (mvT hZ (hw _ (List.mem_of_getElem? (i := 9) rfl))) (by decide) (backOf (W := 0) (rmT0 l Z a0 hw [] k6 k2 k3 h0 n0 Zs S_COMMIT S_ABORT ne_k6_k2 ne_k6_k3) hZ (hw _ (List.mem_of_getElem? (i := 11) rfl)) (hw _ (List.mem_of_getElem? (i := 5) rfl)) (by decide) (by decide)) q94a q94c (g := (mkF m 27 #[.val (.int p1), .val (.int v4), .val (.ref k6), .val (.int z25_s0)] [(.ref k6)])) rfl (by rw [hml]; rfl) (Steps.refl _) (argsL := []) (rest := []) (lenOf pd_1 rfl) rfl (by show 2 * 0 + _ ≤ _; exact Nat.le_of_eq rfl) (hb hby at_27) (fun _ _ => ⟨rfl, e93, (by decide : 0 + 0 ≤ _), (by decide : 0 + 0 ≤ _)⟩)
                dsimp only [Pt.U, Pt.locs, Pt.cells, Pt.slots] at X94 l94 y94 z94 st94 hQ94
                subst l94 y94 z94
                obtain ⟨rfl, N94q, e94⟩ := hQ94
                have N94 := Fr.app N93 N94q
                have pre95 : ∀ t, Steps p.tables e below (T94.setTop (mkF m 31 #[.val (.int p1), .val (.int v4), .val (.ref k6), .val (.int z25_s0)] [(.int z25_s0), (.int (0 : Int32))])) t → Steps p.tables e below (s₁.setTop (entryFrame m #[(.int p1)] maxLocals)) t := fun t k => pre93 t (by
                  show Steps p.tables e below (T93.setTop (mkF m 25 #[.val (.int p1), .val (.int v4), .val (.ref k6), .unset] [(.int z25_s0)])) _
                  refine XS.istoreN X93.here hx rfl (hb hby at_25) rfl (l' := #[.val (.int p1), .val (.int v4), .val (.ref k6), .val (.int z25_s0)]) rfl ?_
                  show Steps p.tables e below (T93.setTop (mkF m 26 #[.val (.int p1), .val (.int v4), .val (.ref k6), .val (.int z25_s0)] [])) _
                  refine XS.aloadN X93.here hx rfl (hb hby at_26) rfl rfl ?_
                  show Steps p.tables e below (T93.setTop (mkF m 27 #[.val (.int p1), .val (.int v4), .val (.ref k6), .val (.int z25_s0)] [(.ref k6)])) _
                  refine st94.trans ?_
                  show Steps p.tables e below (T94.setTop (mkF m 30 #[.val (.int p1), .val (.int v4), .val (.ref k6), .val (.int z25_s0)] [(.int (0 : Int32))])) _
                  refine XS.iloadN X94.here hx rfl (hb hby at_30) rfl ?_
                  exact k)
                obtain ⟨z39_s0, hz39_s0⟩ : ∃ z : Int32, z = (if (0 : Int32) = z25_s0 then (1 : Int32) else (0 : Int32)) := ⟨_, rfl⟩
                obtain ⟨T98, Lc98, X98, e98, N98, pre98⟩ : ∃ (T' : State) (locs' : List Loc), Stand p l e room_1 s m #[(.int p1)] below meth c T' locs' 0 0 ∧ T'.heap = h0 ∧ Fr n0 locs' ∧ ∀ t, Steps p.tables e below (T'.setTop (mkF m 39 #[.val (.int p1), .val (.int v4), .val (.ref k6), .val (.int z25_s0)] [(.int z39_s0)])) t → Steps p.tables e below (s₁.setTop (entryFrame m #[(.int p1)] maxLocals)) t := by
                  by_cases hc31 : (0 : Int32) = z25_s0
                  ·
                    have pre96 : ∀ t, Steps p.tables e below (T94.setTop (mkF m 39 #[.val (.int p1), .val (.int v4), .val (.ref k6), .val (.int z25_s0)] [(.int (1 : Int32))])) t → Steps p.tables e below (s₁.setTop (entryFrame m #[(.int p1)] maxLocals)) t := fun t k => pre95 t (by
                      show Steps p.tables e below (T94.setTop (mkF m 31 #[.val (.int p1), .val (.int v4), .val (.ref k6), .val (.int z25_s0)] [(.int z25_s0), (.int (0 : Int32))])) _
                      refine XS.icmpNo X94.here hx rfl (hb hby at_31) rfl (teq hc31).2 ?_
                      show Steps p.tables e below (T94.setTop (mkF m 34 #[.val (.int p1), .val (.int v4), .val (.ref k6), .val (.int z25_s0)] [])) _
                      refine XS.iconst X94.here hx rfl (hb hby at_34) ?_
                      show Steps p.tables e below (T94.setTop (mkF m 35 #[.val (.int p1), .val (.int v4), .val (.ref k6), .val (.int z25_s0)] [(.int (1 : Int32))])) _
                      refine XS.goto X94.here hx rfl (pc0 := 35) (pc' := 39) rfl (hb hby at_35) (by decide) (by decide) ?_
                      exact k)
                    have q_z39_s0 : z39_s0 = (1 : Int32) := by rw [hz39_s0, if_pos hc31]
                    refine ⟨_, _, X94, e94, N94, fun t k => ?_⟩
                    rw [q_z39_s0] at k
                    exact pre96 t k
                  ·
                    have pre97 : ∀ t, Steps p.tables e below (T94.setTop (mkF m 39 #[.val (.int p1), .val (.int v4), .val (.ref k6), .val (.int z25_s0)] [(.int (0 : Int32))])) t → Steps p.tables e below (s₁.setTop (entryFrame m #[(.int p1)] maxLocals)) t := fun t k => pre95 t (by
                      show Steps p.tables e below (T94.setTop (mkF m 31 #[.val (.int p1), .val (.int v4), .val (.ref k6), .val (.int z25_s0)] [(.int z25_s0), (.int (0 : Int32))])) _
                      refine XS.icmpYes X94.here hx rfl (pc0 := 31) (pc' := 38) rfl (hb hby at_31) rfl (feq hc31).2 (by decide) (by decide) ?_
                      show Steps p.tables e below (T94.setTop (mkF m 38 #[.val (.int p1), .val (.int v4), .val (.ref k6), .val (.int z25_s0)] [])) _
                      refine XS.iconst X94.here hx rfl (hb hby at_38) ?_
                      exact k)
                    have q_z39_s0 : z39_s0 = (0 : Int32) := by rw [hz39_s0, if_neg hc31]
                    refine ⟨_, _, X94, e94, N94, fun t k => ?_⟩
                    rw [q_z39_s0] at k
                    exact pre97 t k
                obtain rfl : z39_s0 = (1 : Int32) := by rw [hz39_s0, hz25_s0, hk6]; decide
                obtain ⟨fs, hr, hrun, hended, hW, hsame⟩ := X98.leave (v := some (.int (1 : Int32))) (fun h => by rw [Bd.returns] at h; cases h)
                refine ⟨_, _, pre98 _ ?_, hrun, hended, _, _, rfl, ?_, ⟨_, rfl⟩, hW, hsame.mono (by decide) (by decide)⟩
                · show Steps p.tables e below (T98.setTop (mkF m 39 #[.val (.int p1), .val (.int v4), .val (.ref k6), .val (.int z25_s0)] [(.int (1 : Int32))])) _
                  exact retN X98 hx (t := .boolean) Bd.returns (by simp) (hb hby at_39) hr
                · show Q0 Z p1 k0 k1 k2 k3 k4 k5 k6 k7 h0 n0 _ T98.heap _
                  rw [e98]
                  exact ⟨rfl, N98⟩
              ·
                obtain ⟨_, _, ⟨T99, L99, k99, n99⟩, -, X99, ⟨Lc99, hQ99, l99, y99, z99⟩, st99⟩ := Jvm.LawKit.callS X0 hx (y := (⟨"com/example/serialis/serialis/KindEndsTransactionPinLaw", "pick", "(I)Lcom/example/serialis/serialis/LogRecord$Kind;"⟩ : MethodName)) hown (mvT hZ (hw _ (List.mem_of_getElem? (i := 0) rfl))) (mvT hZ (hw _ (List.mem_of_getElem? (i := 1) rfl))) (mvT hZ (hw _ (List.mem_of_getElem? (i := 2) rfl))) (mvT hZ (hw _ (List.mem_of_getElem? (i := 3) rfl))) (by decide) (backOf (W := 0) (rmP7 l Z a0 hw [] v4 k7 h0 n0 Zs hk0 hk1 hk2 hk3 hk4 hk5 hk6 S_CHECKPOINT) hZ (hw _ (List.mem_of_getElem? (i := 3) rfl)) (hw _ (List.mem_of_getElem? (i := 2) rfl)) (by decide) (by decide)) (g := (mkF m 6 #[.val (.int p1), .val (.int v4), .unset, .unset] [(.int v4)])) rfl (by rw [hml]; rfl) (argsL := [(.int v4)]) (rest := []) (lenOf pd_0 rfl) rfl (by show 2 * 0 + _ ≤ _; exact Nat.le_of_eq rfl) (hb hby at_6) (fun _ _ => ⟨rfl, e0, (by decide : 0 + 0 ≤ _), (by decide : 0 + 0 ≤ _)⟩)
                dsimp only [Pt.U, Pt.locs, Pt.cells, Pt.slots] at X99 l99 y99 z99 st99 hQ99
                subst l99 y99 z99
                obtain ⟨rfl, N99q, e99⟩ := hQ99
                have N99 := Fr.app N0 N99q
                have pre100 : ∀ t, Steps p.tables e below (T99.setTop (mkF m 12 #[.val (.int p1), .val (.int v4), .val (.ref k7), .unset] [(.int (2 : Int32)), (.int v4)])) t → Steps p.tables e below (s₁.setTop (entryFrame m #[(.int p1)] maxLocals)) t := fun t k => pre14 t (by
                  show Steps p.tables e below (s₁.setTop (mkF m 5 #[.val (.int p1), .val (.int v4), .unset, .unset] [])) _
                  refine XS.iloadN X0.here hx rfl (hb hby at_5) rfl ?_
                  show Steps p.tables e below (s₁.setTop (mkF m 6 #[.val (.int p1), .val (.int v4), .unset, .unset] [(.int v4)])) _
                  refine st99 _ ?_
                  show Steps p.tables e below (T99.setTop (mkF m 9 #[.val (.int p1), .val (.int v4), .unset, .unset] [(.ref k7)])) _
                  refine XS.astoreN X99.here hx rfl (hb hby at_9) rfl rfl (l' := #[.val (.int p1), .val (.int v4), .val (.ref k7), .unset]) rfl ?_
                  show Steps p.tables e below (T99.setTop (mkF m 10 #[.val (.int p1), .val (.int v4), .val (.ref k7), .unset] [])) _
                  refine XS.iloadN X99.here hx rfl (hb hby at_10) rfl ?_
                  show Steps p.tables e below (T99.setTop (mkF m 11 #[.val (.int p1), .val (.int v4), .val (.ref k7), .unset] [(.int v4)])) _
                  refine XS.iconst X99.here hx rfl (hb hby at_11) ?_
                  exact k)
                obtain ⟨z25_s0, hz25_s0⟩ : ∃ z : Int32, z = (if v4 = (2 : Int32) then (1 : Int32) else (if v4 = (3 : Int32) then (1 : Int32) else (0 : Int32))) := ⟨_, rfl⟩
                obtain ⟨T105, Lc105, X105, e105, N105, pre105⟩ : ∃ (T' : State) (locs' : List Loc), Stand p l e room_1 s m #[(.int p1)] below meth c T' locs' 0 0 ∧ T'.heap = h0 ∧ Fr n0 locs' ∧ ∀ t, Steps p.tables e below (T'.setTop (mkF m 25 #[.val (.int p1), .val (.int v4), .val (.ref k7), .unset] [(.int z25_s0)])) t → Steps p.tables e below (s₁.setTop (entryFrame m #[(.int p1)] maxLocals)) t := by
                  by_cases hc12 : v4 = (2 : Int32)
                  ·
                    have pre101 : ∀ t, Steps p.tables e below (T99.setTop (mkF m 25 #[.val (.int p1), .val (.int v4), .val (.ref k7), .unset] [(.int (1 : Int32))])) t → Steps p.tables e below (s₁.setTop (entryFrame m #[(.int p1)] maxLocals)) t := fun t k => pre100 t (by
                      show Steps p.tables e below (T99.setTop (mkF m 12 #[.val (.int p1), .val (.int v4), .val (.ref k7), .unset] [(.int (2 : Int32)), (.int v4)])) _
                      refine XS.icmpYes X99.here hx rfl (pc0 := 12) (pc' := 20) rfl (hb hby at_12) rfl (teq hc12).1 (by decide) (by decide) ?_
                      show Steps p.tables e below (T99.setTop (mkF m 20 #[.val (.int p1), .val (.int v4), .val (.ref k7), .unset] [])) _
                      refine XS.iconst X99.here hx rfl (hb hby at_20) ?_
                      show Steps p.tables e below (T99.setTop (mkF m 21 #[.val (.int p1), .val (.int v4), .val (.ref k7), .unset] [(.int (1 : Int32))])) _
                      refine XS.goto X99.here hx rfl (pc0 := 21) (pc' := 25) rfl (hb hby at_21) (by decide) (by decide) ?_
                      exact k)
                    have q_z25_s0 : z25_s0 = (1 : Int32) := by rw [hz25_s0, if_pos hc12]
                    refine ⟨_, _, X99, e99, N99, fun t k => ?_⟩
                    rw [q_z25_s0] at k
                    exact pre101 t k
                  ·
                    have pre102 : ∀ t, Steps p.tables e below (T99.setTop (mkF m 17 #[.val (.int p1), .val (.int v4), .val (.ref k7), .unset] [(.int (3 : Int32)), (.int v4)])) t → Steps p.tables e below (s₁.setTop (entryFrame m #[(.int p1)] maxLocals)) t := fun t k => pre100 t (by
                      show Steps p.tables e below (T99.setTop (mkF m 12 #[.val (.int p1), .val (.int v4), .val (.ref k7), .unset] [(.int (2 : Int32)), (.int v4)])) _
                      refine XS.icmpNo X99.here hx rfl (hb hby at_12) rfl (feq hc12).1 ?_
                      show Steps p.tables e below (T99.setTop (mkF m 15 #[.val (.int p1), .val (.int v4), .val (.ref k7), .unset] [])) _
                      refine XS.iloadN X99.here hx rfl (hb hby at_15) rfl ?_
                      show Steps p.tables e below (T99.setTop (mkF m 16 #[.val (.int p1), .val (.int v4), .val (.ref k7), .unset] [(.int v4)])) _
                      refine XS.iconst X99.here hx rfl (hb hby at_16) ?_
                      exact k)
                    by_cases hc17 : v4 = (3 : Int32)
                    ·
                      have pre103 : ∀ t, Steps p.tables e below (T99.setTop (mkF m 25 #[.val (.int p1), .val (.int v4), .val (.ref k7), .unset] [(.int (1 : Int32))])) t → Steps p.tables e below (s₁.setTop (entryFrame m #[(.int p1)] maxLocals)) t := fun t k => pre102 t (by
                        show Steps p.tables e below (T99.setTop (mkF m 17 #[.val (.int p1), .val (.int v4), .val (.ref k7), .unset] [(.int (3 : Int32)), (.int v4)])) _
                        refine XS.icmpNo X99.here hx rfl (hb hby at_17) rfl (teq hc17).2 ?_
                        show Steps p.tables e below (T99.setTop (mkF m 20 #[.val (.int p1), .val (.int v4), .val (.ref k7), .unset] [])) _
                        refine XS.iconst X99.here hx rfl (hb hby at_20) ?_
                        show Steps p.tables e below (T99.setTop (mkF m 21 #[.val (.int p1), .val (.int v4), .val (.ref k7), .unset] [(.int (1 : Int32))])) _
                        refine XS.goto X99.here hx rfl (pc0 := 21) (pc' := 25) rfl (hb hby at_21) (by decide) (by decide) ?_
                        exact k)
                      have q_z25_s0 : z25_s0 = (1 : Int32) := by rw [hz25_s0, if_neg hc12, if_pos hc17]
                      refine ⟨_, _, X99, e99, N99, fun t k => ?_⟩
                      rw [q_z25_s0] at k
                      exact pre103 t k
                    ·
                      have pre104 : ∀ t, Steps p.tables e below (T99.setTop (mkF m 25 #[.val (.int p1), .val (.int v4), .val (.ref k7), .unset] [(.int (0 : Int32))])) t → Steps p.tables e below (s₁.setTop (entryFrame m #[(.int p1)] maxLocals)) t := fun t k => pre102 t (by
                        show Steps p.tables e below (T99.setTop (mkF m 17 #[.val (.int p1), .val (.int v4), .val (.ref k7), .unset] [(.int (3 : Int32)), (.int v4)])) _
                        refine XS.icmpYes X99.here hx rfl (pc0 := 17) (pc' := 24) rfl (hb hby at_17) rfl (feq hc17).2 (by decide) (by decide) ?_
                        show Steps p.tables e below (T99.setTop (mkF m 24 #[.val (.int p1), .val (.int v4), .val (.ref k7), .unset] [])) _
                        refine XS.iconst X99.here hx rfl (hb hby at_24) ?_
                        exact k)
                      have q_z25_s0 : z25_s0 = (0 : Int32) := by rw [hz25_s0, if_neg hc12, if_neg hc17]
                      refine ⟨_, _, X99, e99, N99, fun t k => ?_⟩
                      rw [q_z25_s0] at k
                      exact pre104 t k
                obtain ⟨cq106, kq106, q106a, q106b, q106c⟩ := isOf hZ e105 E_k7
                obtain ⟨_, _, ⟨T106, L106, k106, n106⟩, -, X106, ⟨Lc106, hQ106, l106, y106, z106⟩, st106⟩ := X105.virtualBack hx (y := (⟨"com/example/serialis/serialis/LogRecord$Kind", "endsTransaction", "()Z"⟩ : MethodName)) (z := (⟨"com/example/serialis/serialis/LogRecord$Kind", "endsTransaction", "()Z"⟩ : MethodName)) hown (mvT hZ (hw _ (List.mem_of_getElem? (i := 7) rfl))) (mvT hZ (hw _ (List.mem_of_getElem? (i := 8) rfl))) (notFace_of_selects (args := #[]) (mvT hZ (hw _ (List.mem_of_getElem? (i := 10) rfl)))) (mvT hZ (hw _ (List.mem_of_getElem? (i := 10) rfl))) (mvT hZ (hw _ (List.mem_of_getElem? (i := 9) rfl))) (by decide) (backOf (W := 0) (rmT0 l Z a0 hw [] k7 k2 k3 h0 n0 Zs S_COMMIT S_ABORT ne_k7_k2 ne_k7_k3) hZ (hw _ (List.mem_of_getElem? (i := 11) rfl)) (hw _ (List.mem_of_getElem? (i := 5) rfl)) (by decide) (by decide)) q106a q106c (g := (mkF m 27 #[.val (.int p1), .val (.int v4), .val (.ref k7), .val (.int z25_s0)] [(.ref k7)])) rfl (by rw [hml]; rfl) (Steps.refl _) (argsL := []) (rest := []) (lenOf pd_1 rfl) rfl (by show 2 * 0 + _ ≤ _; exact Nat.le_of_eq rfl) (hb hby at_27) (fun _ _ => ⟨rfl, e105, (by decide : 0 + 0 ≤ _), (by decide : 0 + 0 ≤ _)⟩)
                dsimp only [Pt.U, Pt.locs, Pt.cells, Pt.slots] at X106 l106 y106 z106 st106 hQ106
                subst l106 y106 z106
                obtain ⟨rfl, N106q, e106⟩ := hQ106
                have N106 := Fr.app N105 N106q
                have pre107 : ∀ t, Steps p.tables e below (T106.setTop (mkF m 31 #[.val (.int p1), .val (.int v4), .val (.ref k7), .val (.int z25_s0)] [(.int z25_s0), (.int (0 : Int32))])) t → Steps p.tables e below (s₁.setTop (entryFrame m #[(.int p1)] maxLocals)) t := fun t k => pre105 t (by
                  show Steps p.tables e below (T105.setTop (mkF m 25 #[.val (.int p1), .val (.int v4), .val (.ref k7), .unset] [(.int z25_s0)])) _
                  refine XS.istoreN X105.here hx rfl (hb hby at_25) rfl (l' := #[.val (.int p1), .val (.int v4), .val (.ref k7), .val (.int z25_s0)]) rfl ?_
                  show Steps p.tables e below (T105.setTop (mkF m 26 #[.val (.int p1), .val (.int v4), .val (.ref k7), .val (.int z25_s0)] [])) _
                  refine XS.aloadN X105.here hx rfl (hb hby at_26) rfl rfl ?_
                  show Steps p.tables e below (T105.setTop (mkF m 27 #[.val (.int p1), .val (.int v4), .val (.ref k7), .val (.int z25_s0)] [(.ref k7)])) _
                  refine st106.trans ?_
                  show Steps p.tables e below (T106.setTop (mkF m 30 #[.val (.int p1), .val (.int v4), .val (.ref k7), .val (.int z25_s0)] [(.int (0 : Int32))])) _
                  refine XS.iloadN X106.here hx rfl (hb hby at_30) rfl ?_
                  exact k)
                obtain ⟨z39_s0, hz39_s0⟩ : ∃ z : Int32, z = (if (0 : Int32) = z25_s0 then (1 : Int32) else (0 : Int32)) := ⟨_, rfl⟩
                obtain ⟨T110, Lc110, X110, e110, N110, pre110⟩ : ∃ (T' : State) (locs' : List Loc), Stand p l e room_1 s m #[(.int p1)] below meth c T' locs' 0 0 ∧ T'.heap = h0 ∧ Fr n0 locs' ∧ ∀ t, Steps p.tables e below (T'.setTop (mkF m 39 #[.val (.int p1), .val (.int v4), .val (.ref k7), .val (.int z25_s0)] [(.int z39_s0)])) t → Steps p.tables e below (s₁.setTop (entryFrame m #[(.int p1)] maxLocals)) t := by
                  by_cases hc31 : (0 : Int32) = z25_s0
                  ·
                    have pre108 : ∀ t, Steps p.tables e below (T106.setTop (mkF m 39 #[.val (.int p1), .val (.int v4), .val (.ref k7), .val (.int z25_s0)] [(.int (1 : Int32))])) t → Steps p.tables e below (s₁.setTop (entryFrame m #[(.int p1)] maxLocals)) t := fun t k => pre107 t (by
                      show Steps p.tables e below (T106.setTop (mkF m 31 #[.val (.int p1), .val (.int v4), .val (.ref k7), .val (.int z25_s0)] [(.int z25_s0), (.int (0 : Int32))])) _
                      refine XS.icmpNo X106.here hx rfl (hb hby at_31) rfl (teq hc31).2 ?_
                      show Steps p.tables e below (T106.setTop (mkF m 34 #[.val (.int p1), .val (.int v4), .val (.ref k7), .val (.int z25_s0)] [])) _
                      refine XS.iconst X106.here hx rfl (hb hby at_34) ?_
                      show Steps p.tables e below (T106.setTop (mkF m 35 #[.val (.int p1), .val (.int v4), .val (.ref k7), .val (.int z25_s0)] [(.int (1 : Int32))])) _
                      refine XS.goto X106.here hx rfl (pc0 := 35) (pc' := 39) rfl (hb hby at_35) (by decide) (by decide) ?_
                      exact k)
                    have q_z39_s0 : z39_s0 = (1 : Int32) := by rw [hz39_s0, if_pos hc31]
                    refine ⟨_, _, X106, e106, N106, fun t k => ?_⟩
                    rw [q_z39_s0] at k
                    exact pre108 t k
                  ·
                    have pre109 : ∀ t, Steps p.tables e below (T106.setTop (mkF m 39 #[.val (.int p1), .val (.int v4), .val (.ref k7), .val (.int z25_s0)] [(.int (0 : Int32))])) t → Steps p.tables e below (s₁.setTop (entryFrame m #[(.int p1)] maxLocals)) t := fun t k => pre107 t (by
                      show Steps p.tables e below (T106.setTop (mkF m 31 #[.val (.int p1), .val (.int v4), .val (.ref k7), .val (.int z25_s0)] [(.int z25_s0), (.int (0 : Int32))])) _
                      refine XS.icmpYes X106.here hx rfl (pc0 := 31) (pc' := 38) rfl (hb hby at_31) rfl (feq hc31).2 (by decide) (by decide) ?_
                      show Steps p.tables e below (T106.setTop (mkF m 38 #[.val (.int p1), .val (.int v4), .val (.ref k7), .val (.int z25_s0)] [])) _
                      refine XS.iconst X106.here hx rfl (hb hby at_38) ?_
                      exact k)
                    have q_z39_s0 : z39_s0 = (0 : Int32) := by rw [hz39_s0, if_neg hc31]
                    refine ⟨_, _, X106, e106, N106, fun t k => ?_⟩
                    rw [q_z39_s0] at k
                    exact pre109 t k
                obtain rfl : z39_s0 = (1 : Int32) := by rw [hz39_s0, hz25_s0, if_neg hk2, if_neg hk3]; decide
                obtain ⟨fs, hr, hrun, hended, hW, hsame⟩ := X110.leave (v := some (.int (1 : Int32))) (fun h => by rw [Bd.returns] at h; cases h)
                refine ⟨_, _, pre110 _ ?_, hrun, hended, _, _, rfl, ?_, ⟨_, rfl⟩, hW, hsame.mono (by decide) (by decide)⟩
                · show Steps p.tables e below (T110.setTop (mkF m 39 #[.val (.int p1), .val (.int v4), .val (.ref k7), .val (.int z25_s0)] [(.int (1 : Int32))])) _
                  exact retN X110 hx (t := .boolean) Bd.returns (by simp) (hb hby at_39) hr
                · show Q0 Z p1 k0 k1 k2 k3 k4 k5 k6 k7 h0 n0 _ T110.heap _
                  rw [e110]
                  exact ⟨rfl, N110⟩
set_option maxRecDepth 65536 in
set_option maxHeartbeats 40000000 in
theorem comes_1 {Post : Tables → Env → Array Value → State → Outcome → State → Prop} (hpost : ∀ tb e args s v u, (limb_1_1.after args s (.returned v) u = true ∧ limb_1_2.after args s (.returned v) u = true ∧ True) → FrameEnd s (.returned v) u (Jvm.fieldLocs frame_1_writes args s ++ Jvm.arrayLocs frame_1_arrays args s ++ Jvm.staticLocs frame_1_statics s) 0 0 → Post tb e args s (.returned v) u) :
    ArmFor flags0 classFile x code maxLocals ret World_1 tables_1 room_1 Calls_1 rest_1 Pre_1 Post := by
  intro l hfl _ _ p e ha hc hk s m args below hf hA hF happ hP
  obtain ⟨hcalls, hrest, hpre⟩ := hP
  obtain ⟨-, -, -, hnamed, -, -, -, hat⟩ := (Spec.applies_iff hf).mp happ
  obtain ⟨hg, hn⟩ := and_e (Cond.before_iff.mp (show (Jvm.Cond.and given_1 narrow_1).before args s = true from hpre))
  obtain ⟨hcount, ha0⟩ := and_e hg
  obtain ⟨w0, rfl⟩ : ∃ w0 : Value, args = #[w0] := by
    have hs : args.size = 1 := by simpa [Cond.value, given_1] using hcount
    obtain ⟨L⟩ := args
    match L, hs with
    | [w0], _ => exact ⟨w0, rfl⟩
  have hw := fun d (hd : d ∈ tables_1) => atoms_spec (ws := Jvm.Cond.code x code maxLocals ret :: tables_1) hat d (List.mem_cons_of_mem _ hd)
  have hfit : Fit s := fun {y c} hc i hi => by
    obtain ⟨ha, rfl⟩ := Array.getElem?_eq_some_iff.mp hc
    have q := List.all_eq_true.mp ((Array.all_eq_true_iff_forall_mem.mp hF) _ (Array.getElem_mem ha)) i (List.mem_range.mpr hi)
    simpa [Array.getElem?_eq_getElem hi] using q
  obtain ⟨i0, ei0⟩ := is_v ha0
  obtain rfl : w0 = (.int i0) := Option.some.inj ei0
  obtain ⟨h_xDUMP, r0⟩ := and_e hn
  obtain ⟨h_xCOMMIT, r1⟩ := and_e r0
  obtain ⟨h_oDUMP, r2⟩ := and_e r1
  obtain ⟨h_oCOMMIT, r3⟩ := and_e r2
  obtain ⟨h_xABORT, r4⟩ := and_e r3
  obtain ⟨h_oABORT, r5⟩ := and_e r4
  obtain ⟨h_xUPDATE, r6⟩ := and_e r5
  obtain ⟨h_oUPDATE, r7⟩ := and_e r6
  obtain ⟨h_xCHECKPOINT, r8⟩ := and_e r7
  obtain ⟨h_oCHECKPOINT, r9⟩ := and_e r8
  obtain ⟨h_xBEGIN, r10⟩ := and_e r9
  obtain ⟨h_oBEGIN, r11⟩ := and_e r10
  obtain ⟨h_xINSERT, r12⟩ := and_e r11
  obtain ⟨h_oINSERT, r13⟩ := and_e r12
  obtain ⟨h_xDELETE, r14⟩ := and_e r13
  have h_oDELETE := r14
  obtain ⟨k0, ev_DUMP⟩ := exa_v h_xDUMP
  have E_k0 := Exa.start ev_DUMP h_xDUMP
  have S_DUMP := Sta.start ev_DUMP (Or.inr ⟨(hw _ (List.mem_of_getElem? (i := 5) rfl)), (hw _ (List.mem_of_getElem? (i := 6) rfl))⟩)
  have O_DUMP := Fld.start (own_fld ev_DUMP h_oDUMP)
  obtain ⟨k1, ev_BEGIN⟩ := exa_v h_xBEGIN
  have E_k1 := Exa.start ev_BEGIN h_xBEGIN
  have S_BEGIN := Sta.start ev_BEGIN (Or.inr ⟨(hw _ (List.mem_of_getElem? (i := 5) rfl)), (hw _ (List.mem_of_getElem? (i := 23) rfl))⟩)
  have O_BEGIN := Fld.start (own_fld ev_BEGIN h_oBEGIN)
  obtain ⟨k2, ev_COMMIT⟩ := exa_v h_xCOMMIT
  have E_k2 := Exa.start ev_COMMIT h_xCOMMIT
  have S_COMMIT := Sta.start ev_COMMIT (Or.inr ⟨(hw _ (List.mem_of_getElem? (i := 5) rfl)), (hw _ (List.mem_of_getElem? (i := 13) rfl))⟩)
  have O_COMMIT := Fld.start (own_fld ev_COMMIT h_oCOMMIT)
  obtain ⟨k3, ev_ABORT⟩ := exa_v h_xABORT
  have E_k3 := Exa.start ev_ABORT h_xABORT
  have S_ABORT := Sta.start ev_ABORT (Or.inr ⟨(hw _ (List.mem_of_getElem? (i := 5) rfl)), (hw _ (List.mem_of_getElem? (i := 15) rfl))⟩)
  have O_ABORT := Fld.start (own_fld ev_ABORT h_oABORT)
  obtain ⟨k4, ev_INSERT⟩ := exa_v h_xINSERT
  have E_k4 := Exa.start ev_INSERT h_xINSERT
  have S_INSERT := Sta.start ev_INSERT (Or.inr ⟨(hw _ (List.mem_of_getElem? (i := 5) rfl)), (hw _ (List.mem_of_getElem? (i := 25) rfl))⟩)
  have O_INSERT := Fld.start (own_fld ev_INSERT h_oINSERT)
  obtain ⟨k5, ev_DELETE⟩ := exa_v h_xDELETE
  have E_k5 := Exa.start ev_DELETE h_xDELETE
  have S_DELETE := Sta.start ev_DELETE (Or.inr ⟨(hw _ (List.mem_of_getElem? (i := 5) rfl)), (hw _ (List.mem_of_getElem? (i := 27) rfl))⟩)
  have O_DELETE := Fld.start (own_fld ev_DELETE h_oDELETE)
  obtain ⟨k6, ev_UPDATE⟩ := exa_v h_xUPDATE
  have E_k6 := Exa.start ev_UPDATE h_xUPDATE
  have S_UPDATE := Sta.start ev_UPDATE (Or.inr ⟨(hw _ (List.mem_of_getElem? (i := 5) rfl)), (hw _ (List.mem_of_getElem? (i := 18) rfl))⟩)
  have O_UPDATE := Fld.start (own_fld ev_UPDATE h_oUPDATE)
  obtain ⟨k7, ev_CHECKPOINT⟩ := exa_v h_xCHECKPOINT
  have E_k7 := Exa.start ev_CHECKPOINT h_xCHECKPOINT
  have S_CHECKPOINT := Sta.start ev_CHECKPOINT (Or.inr ⟨(hw _ (List.mem_of_getElem? (i := 5) rfl)), (hw _ (List.mem_of_getElem? (i := 20) rfl))⟩)
  have O_CHECKPOINT := Fld.start (own_fld ev_CHECKPOINT h_oCHECKPOINT)
  obtain ⟨n, o, h1, h2, h3, _, L, rfl, ⟨rfl, N⟩, hq⟩ := rm0 l s _ hw tables_1 i0 k0 k1 k2 k3 k4 k5 k6 k7 s.heap s.heap.size (Nat.le_refl _) S_DUMP S_BEGIN S_COMMIT S_ABORT S_INSERT S_DELETE S_UPDATE S_CHECKPOINT E_k0 E_k1 E_k2 E_k3 E_k4 E_k5 E_k6 E_k7 (Fld.ne O_DUMP O_COMMIT (by decide)) (Fld.ne O_BEGIN O_COMMIT (by decide)) (Fld.ne O_ABORT O_COMMIT (by decide)) (Fld.ne O_INSERT O_COMMIT (by decide)) (Fld.ne O_DELETE O_COMMIT (by decide)) (Fld.ne O_UPDATE O_COMMIT (by decide)) (Fld.ne O_CHECKPOINT O_COMMIT (by decide)) (Fld.ne O_DUMP O_ABORT (by decide)) (Fld.ne O_BEGIN O_ABORT (by decide)) (Fld.ne O_INSERT O_ABORT (by decide)) (Fld.ne O_DELETE O_ABORT (by decide)) (Fld.ne O_UPDATE O_ABORT (by decide)) (Fld.ne O_CHECKPOINT O_ABORT (by decide)) p e ha hc hk s m _ below hf ((Spec.applies_iff_loose hf).mp happ).1 ⟨rfl, State.Warmed39.refl s, rfl⟩ trivial
  refine ⟨n, _, h1, h2, h3, hpost _ _ _ _ _ _ ⟨Cond.after_iff.mpr rfl, Cond.after_iff.mpr (eq_i res_at (Term.int_eval (1)) rfl), trivial⟩ ⟨hq.1, hq.2.1, (hq.2.2.sift fun y hy => Or.inr (N y hy)).mono (by decide) (by decide)⟩⟩
theorem main_1_1 : Claimed_1_1 := comes_1 fun _ _ _ _ _ _ h hF => ⟨h.1, hF⟩
theorem main_1_2 : Claimed_1_2 := comes_1 fun _ _ _ _ _ _ h hF => ⟨h.2.1, hF⟩
end Jvm.Pilot.@@N@@
namespace Jvm.Pilot.@@N@@
open Jvm Jvm.ClassFile Sem Op Lib Jvm.Free Jvm.Stand Jvm.Pilot.@@N@@.Jvm.D
/-! MADE BY PROGRAM (witnessworld.py) out of the Statement's table words and the real class files: 12 classes; the members and pool entries that the words name. The judged class is class 1, her method 2. -/
namespace start1
open Jvm.ClassFile
def u (s : String) : CpInfo := .utf8 (stringToUtf16 s)
/-- a pool by its gaps: so many unusable entries, then the entry; so many at the end -/
def gap : Nat → List CpInfo → List CpInfo
  | 0, r => r
  | n + 1, r => .unusable :: gap n r
def poolList (es : List (Nat × CpInfo)) (last : Nat) : List CpInfo := es.foldr (fun e r => gap e.1 (e.2 :: r)) (gap last [])
def pool (es : List (Nat × CpInfo)) (last : Nat) : Array CpInfo := ⟨poolList es last⟩
def fileOf (pool : Array CpInfo) (this : Nat) (attrs : Array Attribute := #[]) (ms : Array MethodInfo := #[]) (fl : Nat := 33) (sup : Nat := 0) (ifs : Array Nat := #[]) (fds : Array FieldInfo := #[]) : ClassFile where
  minorVersion := 0
  majorVersion := 65
  constantPool := pool
  accessFlags := fl
  thisClass := this
  superClass := sup
  interfaces := ifs
  fields := fds
  methods := ms
  attributes := attrs
def plain (name : String) (sup : Option ClassId) : Class where
  name := name
  kind := .ordinary
  loader := none
  accessFlags := 33
  super := sup
  interfaces := #[]
  cf := none
  fields := #[]
  methods := #[]
  instanceTypes := #[]
  staticTypes := #[]
  resolved := #[]
  callSites := []
  init := .initialized
  statics := none
  mirror := none

def pool0 : Array CpInfo := pool [(5, u "<init>"), (0, u "()V"), (1, .class_ 10), (1, u "java/lang/Object")] 113

def k0m0 : Method := { name := "<init>", desc := "()V", sig := { parameters := [], returnType := none }, accessFlags := 1, code := none }
/-- java/lang/Object -/
def k0 : Class := { plain "java/lang/Object" none with
  accessFlags := 33
  interfaces := #[]
  cf := some (fileOf pool0 8 #[] #[{ accessFlags := 1, nameIndex := 5, descriptorIndex := 6, attributes := #[] }] 33 0 #[] #[])
  fields := #[]
  methods := #[k0m0]
  instanceTypes := #[]
  staticTypes := #[]
  resolved := Array.replicate 124 none
  statics := none }

def pool1 : Array CpInfo := pool [(2, .class_ 4), (1, u "java/lang/Object"), (0, u "<init>"), (0, u "()V"), (0, .fieldref 8 9), (0, .class_ 10), (0, .nameAndType 11 12), (0, u "com/example/serialis/serialis/LogRecord$Kind"), (0, u "DUMP"), (0, u "Lcom/example/serialis/serialis/LogRecord$Kind;"), (0, .fieldref 8 14), (0, .nameAndType 15 12), (0, u "BEGIN"), (0, .fieldref 8 17), (0, .nameAndType 18 12), (0, u "COMMIT"), (0, .fieldref 8 20), (0, .nameAndType 21 12), (0, u "ABORT"), (0, .fieldref 8 23), (0, .nameAndType 24 12), (0, u "INSERT"), (0, .fieldref 8 26), (0, .nameAndType 27 12), (0, u "DELETE"), (0, .fieldref 8 29), (0, .nameAndType 30 12), (0, u "UPDATE"), (0, .fieldref 8 32), (0, .nameAndType 33 12), (0, u "CHECKPOINT"), (0, .methodref 35 36), (0, .class_ 37), (0, .nameAndType 38 39), (0, u "com/example/serialis/serialis/KindEndsTransactionPinLaw"), (0, u "pick"), (0, u "(I)Lcom/example/serialis/serialis/LogRecord$Kind;"), (0, .methodref 8 41), (0, .nameAndType 42 43), (0, u "endsTransaction"), (0, u "()Z"), (3, u "law"), (0, u "(I)Z")] 6

def k1m0 : Method := { name := "<init>", desc := "()V", sig := { parameters := [], returnType := none }, accessFlags := 2, code := none }
def k1c1 : Code := { maxStack := 2, maxLocals := 1, code := method_2_code, exceptionTable := #[], attributes := #[] }
def k1m1 : Method := { name := "pick", desc := "(I)Lcom/example/serialis/serialis/LogRecord$Kind;", sig := { parameters := [.int], returnType := some (.object "com/example/serialis/serialis/LogRecord$Kind") }, accessFlags := 10, code := some k1c1 }
def k1c2 : Code := { maxStack := 2, maxLocals := 4, code := code, exceptionTable := #[], attributes := #[] }
def k1m2 : Method := { name := "law", desc := "(I)Z", sig := { parameters := [.int], returnType := some .boolean }, accessFlags := 9, code := some k1c2 }
/-- com/example/serialis/serialis/KindEndsTransactionPinLaw -/
def k1 : Class := { plain "com/example/serialis/serialis/KindEndsTransactionPinLaw" (some 0) with
  accessFlags := 49
  interfaces := #[]
  cf := some (fileOf pool1 35 #[] #[{ accessFlags := 2, nameIndex := 5, descriptorIndex := 6, attributes := #[] }, { accessFlags := 10, nameIndex := 38, descriptorIndex := 39, attributes := #[] }, { accessFlags := 9, nameIndex := 47, descriptorIndex := 48, attributes := #[] }] 49 2 #[] #[])
  fields := #[]
  methods := #[k1m0, k1m1, k1m2]
  instanceTypes := #[]
  staticTypes := #[]
  resolved := Array.replicate 55 none
  statics := none }

def pool2 : Array CpInfo := pool [(1, .class_ 2), (0, u "java/lang/constant/Constable"), (0, .class_ 4), (0, u "java/lang/Object")] 6

/-- java/lang/constant/Constable -/
def k2 : Class := { plain "java/lang/constant/Constable" (some 0) with
  accessFlags := 1537
  interfaces := #[]
  cf := some (fileOf pool2 1 #[] #[] 1537 3 #[] #[])
  fields := #[]
  methods := #[]
  instanceTypes := #[]
  staticTypes := #[]
  resolved := Array.replicate 11 none
  statics := none }

def pool3 : Array CpInfo := pool [(1, .class_ 2), (0, u "java/lang/Comparable"), (0, .class_ 4), (0, u "java/lang/Object")] 7

/-- java/lang/Comparable -/
def k3 : Class := { plain "java/lang/Comparable" (some 0) with
  accessFlags := 1537
  interfaces := #[]
  cf := some (fileOf pool3 1 #[] #[] 1537 3 #[] #[])
  fields := #[]
  methods := #[]
  instanceTypes := #[]
  staticTypes := #[]
  resolved := Array.replicate 12 none
  statics := none }

def pool4 : Array CpInfo := pool [(1, .class_ 2), (0, u "java/io/Serializable"), (0, .class_ 4), (0, u "java/lang/Object")] 2

/-- java/io/Serializable -/
def k4 : Class := { plain "java/io/Serializable" (some 0) with
  accessFlags := 1537
  interfaces := #[]
  cf := some (fileOf pool4 1 #[] #[] 1537 3 #[] #[])
  fields := #[]
  methods := #[]
  instanceTypes := #[]
  staticTypes := #[]
  resolved := Array.replicate 7 none
  statics := none }

def pool5 : Array CpInfo := pool [(2, .class_ 4), (1, u "java/lang/Enum"), (0, u "name"), (0, u "Ljava/lang/String;"), (2, u "ordinal"), (0, u "I"), (1, .class_ 14), (1, u "java/lang/Object"), (4, u "hash"), (86, .class_ 108), (1, u "java/lang/Enum$EnumDesc"), (2, .class_ 112), (0, u "java/lang/constant/Constable"), (0, .class_ 114), (0, u "java/lang/Comparable"), (0, .class_ 116), (0, u "java/io/Serializable")] 87

/-- java/lang/Enum -/
def k5 : Class := { plain "java/lang/Enum" (some 0) with
  accessFlags := 1057
  interfaces := #[2, 3, 4]
  cf := some (fileOf pool5 2 #[.nestMembers #[106]] #[] 1057 12 #[111, 113, 115] #[{ accessFlags := 18, nameIndex := 5, descriptorIndex := 6, attributes := #[] }, { accessFlags := 18, nameIndex := 9, descriptorIndex := 10, attributes := #[] }, { accessFlags := 2, nameIndex := 19, descriptorIndex := 10, attributes := #[] }])
  fields := #[{ name := "name", type := (.object "java/lang/String"), accessFlags := 18, slot := 0, constantValue := 0 }, { name := "ordinal", type := .int, accessFlags := 18, slot := 1, constantValue := 0 }, { name := "hash", type := .int, accessFlags := 2, slot := 2, constantValue := 0 }]
  methods := #[]
  instanceTypes := #[(.object "java/lang/String"), .int, .int]
  staticTypes := #[]
  resolved := Array.replicate 204 none
  statics := none }

def pool6 : Array CpInfo := pool [(1, .class_ 2), (0, u "com/example/serialis/serialis/LogRecord$Kind"), (2, u "DUMP"), (0, u "Lcom/example/serialis/serialis/LogRecord$Kind;"), (2, u "BEGIN"), (0, .fieldref 1 11), (0, .nameAndType 12 6), (0, u "COMMIT"), (0, .fieldref 1 14), (0, .nameAndType 15 6), (0, u "ABORT"), (2, u "INSERT"), (2, u "DELETE"), (2, u "UPDATE"), (2, u "CHECKPOINT"), (2, u "$VALUES"), (0, u "[Lcom/example/serialis/serialis/LogRecord$Kind;"), (6, .class_ 40), (1, u "java/lang/Enum"), (8, u "name"), (0, u "Ljava/lang/String;"), (2, u "hasBefore"), (0, u "Z"), (2, u "hasAfter"), (2, u "ALL"), (9, u "()Z"), (66, u "endsTransaction"), (12, .class_ 151), (0, u "com/example/serialis/serialis/LogRecord")] 24

def k6c0 : Code := { maxStack := 2, maxLocals := 1, code := prog_42_method_10_code, exceptionTable := #[], attributes := #[] }
def k6m0 : Method := { name := "endsTransaction", desc := "()Z", sig := { parameters := [], returnType := some .boolean }, accessFlags := 1, code := some k6c0 }
/-- com/example/serialis/serialis/LogRecord$Kind -/
def k6 : Class := { plain "com/example/serialis/serialis/LogRecord$Kind" (some 5) with
  accessFlags := 16433
  interfaces := #[]
  cf := some (fileOf pool6 1 #[.nestHost 150] #[{ accessFlags := 1, nameIndex := 137, descriptorIndex := 70, attributes := #[] }] 16433 38 #[] #[{ accessFlags := 16409, nameIndex := 5, descriptorIndex := 6, attributes := #[] }, { accessFlags := 16409, nameIndex := 9, descriptorIndex := 6, attributes := #[] }, { accessFlags := 16409, nameIndex := 12, descriptorIndex := 6, attributes := #[] }, { accessFlags := 16409, nameIndex := 15, descriptorIndex := 6, attributes := #[] }, { accessFlags := 16409, nameIndex := 18, descriptorIndex := 6, attributes := #[] }, { accessFlags := 16409, nameIndex := 21, descriptorIndex := 6, attributes := #[] }, { accessFlags := 16409, nameIndex := 24, descriptorIndex := 6, attributes := #[] }, { accessFlags := 16409, nameIndex := 27, descriptorIndex := 6, attributes := #[] }, { accessFlags := 26, nameIndex := 60, descriptorIndex := 31, attributes := #[] }, { accessFlags := 18, nameIndex := 49, descriptorIndex := 50, attributes := #[] }, { accessFlags := 18, nameIndex := 53, descriptorIndex := 54, attributes := #[] }, { accessFlags := 18, nameIndex := 57, descriptorIndex := 54, attributes := #[] }, { accessFlags := 4122, nameIndex := 30, descriptorIndex := 31, attributes := #[] }])
  fields := #[{ name := "DUMP", type := (.object "com/example/serialis/serialis/LogRecord$Kind"), accessFlags := 16409, slot := 0, constantValue := 0 }, { name := "BEGIN", type := (.object "com/example/serialis/serialis/LogRecord$Kind"), accessFlags := 16409, slot := 1, constantValue := 0 }, { name := "COMMIT", type := (.object "com/example/serialis/serialis/LogRecord$Kind"), accessFlags := 16409, slot := 2, constantValue := 0 }, { name := "ABORT", type := (.object "com/example/serialis/serialis/LogRecord$Kind"), accessFlags := 16409, slot := 3, constantValue := 0 }, { name := "INSERT", type := (.object "com/example/serialis/serialis/LogRecord$Kind"), accessFlags := 16409, slot := 4, constantValue := 0 }, { name := "DELETE", type := (.object "com/example/serialis/serialis/LogRecord$Kind"), accessFlags := 16409, slot := 5, constantValue := 0 }, { name := "UPDATE", type := (.object "com/example/serialis/serialis/LogRecord$Kind"), accessFlags := 16409, slot := 6, constantValue := 0 }, { name := "CHECKPOINT", type := (.object "com/example/serialis/serialis/LogRecord$Kind"), accessFlags := 16409, slot := 7, constantValue := 0 }, { name := "ALL", type := (.array (.object "com/example/serialis/serialis/LogRecord$Kind")), accessFlags := 26, slot := 8, constantValue := 0 }, { name := "name", type := (.object "java/lang/String"), accessFlags := 18, slot := 3, constantValue := 0 }, { name := "hasBefore", type := .boolean, accessFlags := 18, slot := 4, constantValue := 0 }, { name := "hasAfter", type := .boolean, accessFlags := 18, slot := 5, constantValue := 0 }, { name := "$VALUES", type := (.array (.object "com/example/serialis/serialis/LogRecord$Kind")), accessFlags := 4122, slot := 9, constantValue := 0 }]
  methods := #[k6m0]
  instanceTypes := #[(.object "java/lang/String"), .int, .int, (.object "java/lang/String"), .boolean, .boolean]
  staticTypes := #[(.object "com/example/serialis/serialis/LogRecord$Kind"), (.object "com/example/serialis/serialis/LogRecord$Kind"), (.object "com/example/serialis/serialis/LogRecord$Kind"), (.object "com/example/serialis/serialis/LogRecord$Kind"), (.object "com/example/serialis/serialis/LogRecord$Kind"), (.object "com/example/serialis/serialis/LogRecord$Kind"), (.object "com/example/serialis/serialis/LogRecord$Kind"), (.object "com/example/serialis/serialis/LogRecord$Kind"), (.array (.object "com/example/serialis/serialis/LogRecord$Kind")), (.array (.object "com/example/serialis/serialis/LogRecord$Kind"))]
  resolved := Array.replicate 176 none
  statics := some 0 }

def pool7 : Array CpInfo := pool [(1, u "java/lang/Cloneable"), (0, .class_ 1), (0, u "java/lang/Object"), (0, .class_ 3)] 3

/-- java/lang/Cloneable -/
def k7 : Class := { plain "java/lang/Cloneable" (some 0) with
  accessFlags := 1537
  interfaces := #[]
  cf := some (fileOf pool7 2 #[] #[] 1537 4 #[] #[])
  fields := #[]
  methods := #[]
  instanceTypes := #[]
  staticTypes := #[]
  resolved := Array.replicate 8 none
  statics := none }

/-- the primitive byte -/
def k8 : Class := { plain "byte" none with kind := .primitive 'B', accessFlags := 0x411 }
/-- [B -/
def k9 : Class := { plain "[B" (some 0) with kind := .array 8 .byte, interfaces := #[7, 4], accessFlags := 1041 }

/-- the primitive int -/
def k10 : Class := { plain "int" none with kind := .primitive 'I', accessFlags := 0x411 }
/-- [I -/
def k11 : Class := { plain "[I" (some 0) with kind := .array 10 .int, interfaces := #[7, 4], accessFlags := 1041 }

def heap : Heap := #[{ cls := 6, slots := #[.ref 1, .ref 2, .ref 3, .ref 4, .ref 5, .ref 6, .ref 7, .ref 8, .null, .null], vm := .statics 6 },
  { cls := 6, slots := #[.null, .int 0, .int 0, .null, .int 0, .int 0], vm := .none },
  { cls := 6, slots := #[.null, .int 1, .int 0, .null, .int 0, .int 0], vm := .none },
  { cls := 6, slots := #[.null, .int 2, .int 0, .null, .int 0, .int 0], vm := .none },
  { cls := 6, slots := #[.null, .int 3, .int 0, .null, .int 0, .int 0], vm := .none },
  { cls := 6, slots := #[.null, .int 4, .int 0, .null, .int 0, .int 0], vm := .none },
  { cls := 6, slots := #[.null, .int 5, .int 0, .null, .int 0, .int 0], vm := .none },
  { cls := 6, slots := #[.null, .int 6, .int 0, .null, .int 0, .int 0], vm := .none },
  { cls := 6, slots := #[.null, .int 7, .int 0, .null, .int 0, .int 0], vm := .none }]
def classes : Array Class := #[k0, k1, k2, k3, k4, k5, k6, k7, k8, k9, k10, k11]
def interned : List (Array UInt16 × Addr) := []
def slotsUsed : Nat := 58
def theMethod : MethodId := ⟨1, 2⟩
def args0 : Array Value := #[.int 5]
def aboutOver (below : List Frame) : State where
  vm := { classes := classes, interned := interned.toArray }
  heap := heap
  slotsUsed := slotsUsed
  threads := #[{ frames := .invoking theMethod args0 :: below }]
def below0 : List Frame := [.native { method := ⟨0, 0⟩, args := #[] }]
def about1 : State := aboutOver below0
def p0 : Program := .bare "" "" ""
def e0 : Env := launch0.env 0 0 0
theorem w_frames : about1.frames = Frame.invoking theMethod args0 :: below0 := rfl
set_option maxRecDepth 65536 in
theorem w_args : argsFit about1.vm theMethod args0 = true := by decide +kernel
set_option maxRecDepth 65536 in
theorem w_heap : heapFits about1 = true := by decide +kernel
set_option maxRecDepth 65536 in
theorem w_runnable : about1.curStatus? = some .runnable := by decide +kernel
set_option maxRecDepth 65536 in
theorem w_alone : about1.alone = true := by decide +kernel
set_option maxRecDepth 65536 in
theorem w_named : about1.methodNamed? x = some theMethod := by decide +kernel
set_option maxRecDepth 65536 in
theorem w_hears : about1.hears theMethod below0 = true := by decide +kernel
set_option maxRecDepth 65536 in
theorem w_ripe : about1.ripe theMethod args0 below0 = true := by decide +kernel
theorem w_running : about1.status = .running := rfl
set_option maxRecDepth 65536 in
theorem w_room : about1.hasRoom e0.platform room_1 = true :=
  launch0.hasRoom_least _ room_1 (by decide +kernel) (by decide +kernel) (by decide +kernel) (by decide +kernel) (by decide +kernel) (by decide +kernel)
theorem allAtoms_all (ts : List Jvm.Cond) (a : Array Jvm.Value) (st : Jvm.State) : (allAtoms ts).before a st = ts.all (fun c => c.before a st) := by
  induction ts with
  | nil => rfl
  | cons c t ih =>
    show (Jvm.Cond.and c (allAtoms t)).before a st = _
    rw [Jvm.Cond.before_and, ih, List.all_cons]
def words1 : List Jvm.Cond := Jvm.Cond.code x code maxLocals ret :: tables_1
/-- a 'code' word, met by the world's own term for the bytes: nothing is compared byte by byte -/
theorem code_word {y : MethodName} {bytes : ByteArray} {mx : Nat} {rt : Option FieldType} {a : Array Value} {s : State} {m : MethodId} {meth : Method} {c : Code} (h1 : s.methodNamed? y = some m) (h2 : s.vm.method? m = some meth) (h3 : meth.code = some c) (h4 : c.code = bytes)
    (h5 : (c.maxLocals == mx && c.exceptionTable.isEmpty && decide (c.maxStack ≤ mostOperands) && decide (meth.sig.returnType = rt) && !meth.locks && decide (parseMethodDescriptor y.desc = some meth.sig)) = true) : (Jvm.Cond.code y bytes mx rt).before a s = true := by
  simp only [Bool.and_eq_true, beq_iff_eq, Bool.not_eq_true', decide_eq_true_eq] at h5
  obtain ⟨⟨⟨⟨⟨g1, g2⟩, g3⟩, g4⟩, g5⟩, g6⟩ := h5
  simp [Cond.before, Cond.holds, Cond.value, h1, h2, h3, h4, g1, g2, g3, g4, g5, g6]
def isCode : Jvm.Cond → Bool
  | .code _ _ _ _ => true
  | _ => false
theorem all_split {L : List Jvm.Cond} {P : Jvm.Cond → Bool} (h1 : L.all (fun c => isCode c || P c) = true) (h2 : ∀ c ∈ L.filter isCode, P c = true) : L.all P = true := by
  refine List.all_eq_true.mpr fun c hc => ?_
  have h := List.all_eq_true.mp h1 c hc
  rcases Bool.eq_false_or_eq_true (isCode c) with hi | hi
  · exact h2 c (List.mem_filter.mpr ⟨hc, hi⟩)
  · simpa [hi] using h
set_option maxRecDepth 65536 in
theorem w_c0 : (Jvm.Cond.code x code maxLocals ret).before args0 about1 = true := code_word (m := ⟨1, 2⟩) (meth := k1m2) (c := k1c2) (by decide +kernel) rfl rfl rfl (by decide +kernel)
set_option maxRecDepth 65536 in
theorem w_c1 : (Jvm.Cond.code ({ cls := "com/example/serialis/serialis/KindEndsTransactionPinLaw", name := "pick", desc := "(I)Lcom/example/serialis/serialis/LogRecord$Kind;" } : Jvm.MethodName) method_2_code (1 : Nat) (Option.some (Jvm.ClassFile.FieldType.object "com/example/serialis/serialis/LogRecord$Kind"))).before args0 about1 = true := code_word (m := ⟨1, 1⟩) (meth := k1m1) (c := k1c1) (by decide +kernel) rfl rfl rfl (by decide +kernel)
set_option maxRecDepth 65536 in
theorem w_c2 : (Jvm.Cond.code ({ cls := "com/example/serialis/serialis/LogRecord$Kind", name := "endsTransaction", desc := "()Z" } : Jvm.MethodName) prog_42_method_10_code (1 : Nat) (Option.some Jvm.ClassFile.FieldType.boolean)).before args0 about1 = true := code_word (m := ⟨6, 0⟩) (meth := k6m0) (c := k6c0) (by decide +kernel) rfl rfl rfl (by decide +kernel)
def codes1 : List Jvm.Cond := [Jvm.Cond.code x code maxLocals ret, Jvm.Cond.code ({ cls := "com/example/serialis/serialis/KindEndsTransactionPinLaw", name := "pick", desc := "(I)Lcom/example/serialis/serialis/LogRecord$Kind;" } : Jvm.MethodName) method_2_code (1 : Nat) (Option.some (Jvm.ClassFile.FieldType.object "com/example/serialis/serialis/LogRecord$Kind")), Jvm.Cond.code ({ cls := "com/example/serialis/serialis/LogRecord$Kind", name := "endsTransaction", desc := "()Z" } : Jvm.MethodName) prog_42_method_10_code (1 : Nat) (Option.some Jvm.ClassFile.FieldType.boolean)]
set_option maxRecDepth 65536 in
theorem codes_eq : words1.filter isCode = codes1 := rfl
theorem w_codes : ∀ c ∈ words1.filter isCode, c.before args0 about1 = true := by
  rw [codes_eq]
  intro c hc
  simp only [codes1, List.mem_cons, List.not_mem_nil, or_false] at hc
  rcases hc with rfl | rfl | rfl
  · exact w_c0
  · exact w_c1
  · exact w_c2
set_option maxRecDepth 65536 in
theorem w_t1 : (words1.take 24).all (fun c => isCode c || c.before args0 about1) = true := by decide +kernel
set_option maxRecDepth 65536 in
theorem w_t2 : (words1.drop 24).all (fun c => isCode c || c.before args0 about1) = true := by decide +kernel
theorem w_tables : (allAtoms (Jvm.Cond.code x code maxLocals ret :: tables_1)).before args0 about1 = true := by
  rw [allAtoms_all]
  show words1.all (fun c => c.before args0 about1) = true
  refine all_split ?_ w_codes
  rw [← List.take_append_drop 24 words1, List.all_append, w_t1, w_t2]
  rfl
set_option maxRecDepth 65536 in
theorem w_case : (Jvm.Cond.and given_1 narrow_1).before args0 about1 = true := by decide +kernel
theorem w_applies : (headSpec (Jvm.Cond.code x code maxLocals ret :: tables_1) room_1).applies x e0.platform about1 = true :=
  (Spec.applies_iff w_frames).mpr ⟨w_running, w_runnable, w_alone, w_named, w_hears, w_ripe, w_room, w_tables⟩
theorem atStart : AtStart classFile x code maxLocals ret World_1 tables_1 room_1 Calls_1 rest_1 Pre_1 launch0 p0 e0 about1 theMethod args0 below0 :=
  ⟨lists_1, trivial, launch0.admits_env _ _ _, launch0.least_env, fairChoices_fair.cas, fairChoices_fair.clock, w_frames, w_args, w_heap, w_applies, trivial, trivial, w_case⟩
end start1
theorem witness_1 : WitnessClaimed_1 := ⟨start1.p0, start1.e0, start1.about1, start1.theMethod, start1.args0, start1.below0, start1.atStart⟩
end Jvm.Pilot.@@N@@
