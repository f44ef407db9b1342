import JvmDerived
import JvmDerived.Pilot.@@N@@Statement
import JvmDerived.Pilot.@@N@@Code
set_option linter.unusedVariables false
set_option linter.unusedSimpArgs false
@@BLOCK:NumsL.lean.txt@@
namespace Jvm.RoadKit
open Sem ClassFile Op Lib Jvm.Stand Jvm.Free Jvm.LawKit
section New
variable {p : Program} {l : Launch} {e : Env} {R : Room} {s : State} {m : MethodId} {args : Array Value} {below : List Frame} {meth : Method} {c : Code} {T : State} {locs : List Loc} {cells slots : Nat}
theorem retI (X : Stand p l e R s m args below meth c T locs cells slots) (hx : p.tables.exec = Jvm.exec) {pc : Nat} {Ls : Array Slot} {z : Int32} {rest : List Value} (hret : meth.sig.returnType = some .int) (hd : decode c.code pc = .ok (.ireturn, 1)) {fs : List Frame}
    (hl : ∀ (f : JFrame) (acts : List Action), f.method = m → f.locked = none → f.entered = [] → (doReturn e (T.setTop f) acts (some (.int z))).1 = T.setFrames fs) : Steps p.tables e below (T.setTop (mkF m pc Ls (.int z :: rest))) (T.setFrames fs) := by
  have hm' : T.vm.method? m = some meth := X.method'
  have hn : narrow .int (.int z) = .int z := rfl
  show Steps p.tables e below (T.setTop { method := m, pc := pc, locals := Ls, stack := _ :: rest, locked := none }) _
  jvm_step X.here [X.here.top, hx, hd, hm', hret, hn]
  first | (intro acts; rw [hl _ acts rfl rfl rfl]) | rw [hl _ _ rfl rfl rfl]
  exact Steps.refl _
end New
end Jvm.RoadKit
namespace Jvm.Pilot.@@N@@
open Jvm Jvm.ClassFile Sem Op Lib Jvm.Free Jvm.Stand Jvm.LawKit Jvm.RoadKit Bundle Jvm.Pilot.@@N@@.Jvm.D

def fT0 (w1 : Int64) : Int32 := (if (0 : Int64) < w1 then (0 : Int32) else (1 : Int32))
def fT1 (w1 : Int64) (w3 : Int64) : Int32 := (if (0 : Int64) < w1 then (if (fT0 w3) = (0 : Int32) then (0 : Int32) else (1 : Int32)) else (1 : Int32))
def fT2 (w1 : Int64) (w3 : Int64) (w4 : Int64) : Int32 := (if (0 : Int64) < w1 then (if (fT1 w3 w4) = (0 : Int32) then (0 : Int32) else (1 : Int32)) else (1 : Int32))
def fM (p1 : Int32) (p2 : Int32) : Int32 := (if p2 < p1 then p2 else p1)

theorem own_b {x v : Int64} (h : v = (x >>> ((1 : Int32) &&& 0x3f).toInt64)) : -4611686018427387904 ≤ v.toInt ∧ v.toInt < 4611686018427387904 := by
  have e : v.toInt = x.toInt / 2 ^ 1 := by rw [h]; exact Jvm.Kit.i64_shr (k := 1) _ _ (by decide)
  have b1 := Int64.toInt_lt x
  have b2 := Int64.le_toInt x
  omega
theorem own_s {p : Int32} {v : Int64} (h : v = ((p.toInt64) &&& (2147483647 : Int64))) : 0 ≤ v.toInt ∧ v.toInt < 2147483648 := by
  have e : v.toInt = p.toInt64.toInt % 2 ^ 31 := by rw [h]; exact Jvm.Kit.i64_mask _ 2147483647 (k := 31) (by decide) (by decide)
  omega
theorem own_t {p v : Int32} (h : v = (fM (p &&& (3 : Int32)) (2 : Int32))) : 0 ≤ v.toInt ∧ v.toInt ≤ 2 := by
  have e : (p &&& (3 : Int32)).toInt = p.toInt % 2 ^ 2 := Jvm.Kit.i32_mask p 3 (k := 2) (by decide) (by decide)
  have e2 : (2 : Int32).toInt = 2 := by decide
  rw [h, fM]
  split
  · decide
  · rename_i q; rw [Int32.lt_iff_toInt_lt] at q; omega
theorem own_lt1 {t : Int32} (h : 0 ≤ t.toInt ∧ t.toInt ≤ 2) : t < (1 : Int32) ↔ t = (0 : Int32) := by
  rw [Int32.lt_iff_toInt_lt, ← Int32.toInt_inj, show (1 : Int32).toInt = 1 from by decide, show (0 : Int32).toInt = 0 from by decide]; omega
theorem own_lt2 {t : Int32} (h : 0 ≤ t.toInt ∧ t.toInt ≤ 2) : t < (2 : Int32) ↔ (t = (0 : Int32) ∨ t = (1 : Int32)) := by
  rw [Int32.lt_iff_toInt_lt, ← Int32.toInt_inj, ← Int32.toInt_inj, show (2 : Int32).toInt = 2 from by decide, show (1 : Int32).toInt = 1 from by decide, show (0 : Int32).toInt = 0 from by decide]; omega
theorem own_or {α : Type} {A B : Prop} [Decidable A] [Decidable B] [Decidable (A ∨ B)] (a b : α) : (if A ∨ B then a else b) = (if A then a else (if B then a else b)) := by
  by_cases h : A <;> by_cases k : B <;> simp [h, k]
theorem own_pos {r p q s : Int64} (hr : -4611686018427387904 ≤ r.toInt ∧ r.toInt < 4611686018427387904) (hp : 0 ≤ p.toInt ∧ p.toInt < 2147483648) (hq : 0 ≤ q.toInt ∧ q.toInt < 2147483648) (hs : s = (r - p) - q) : ((0 : Int64) < s) ↔ (p + q) < r := by
  have e1 : (r - p).toInt = r.toInt - p.toInt := Jvm.Kit.i64_sub (by omega) (by omega)
  have e2 : s.toInt = r.toInt - p.toInt - q.toInt := by rw [hs, Jvm.Kit.i64_sub (by omega) (by omega), e1]
  have e3 : (p + q).toInt = p.toInt + q.toInt := Jvm.Kit.i64_add (by omega) (by omega)
  rw [Int64.lt_iff_toInt_lt, Int64.lt_iff_toInt_lt, e2, e3, show (0 : Int64).toInt = 0 from by decide]; omega
theorem own_ite0 {P : Prop} [Decidable P] {x : Int64} (h : 0 ≤ x.toInt ∧ x.toInt < 2147483648) : 0 ≤ (if P then (0 : Int64) else x).toInt ∧ (if P then (0 : Int64) else x).toInt < 2147483648 := by
  split
  · decide
  · exact h
theorem own_sub {P : Prop} [Decidable P] (r x : Int64) : (if P then r else r - x) = r - (if P then (0 : Int64) else x) := by
  split
  · rw [Int64.sub_zero]
  · rfl
theorem own_law {q1 q2 q3 ra rb rc x y lp lg lp2 lg2 on zx zy op gx gy og : Int64} {p4 p5 m6 m7 t u v90 z118 z226 z246 z266 v273 v280 v287 z : Int32}
    (h3 : ra = (q1 >>> ((1 : Int32) &&& 0x3f).toInt64)) (h8 : rb = (q2 >>> ((1 : Int32) &&& 0x3f).toInt64)) (h14 : rc = (q3 >>> ((1 : Int32) &&& 0x3f).toInt64)) (h23 : x = ((p4.toInt64) &&& (2147483647 : Int64))) (h32 : y = ((p5.toInt64) &&& (2147483647 : Int64)))
    (h42 : t = (fM (m6 &&& (3 : Int32)) (2 : Int32))) (h54 : u = (fM (m7 &&& (3 : Int32)) (2 : Int32))) (h90 : v90 = (fT2 rc rb ra))
    (h118 : z118 = (if (0 : Int64) < rc then (if (0 : Int64) < rb then (if (0 : Int64) < ra then (0 : Int32) else (1 : Int32)) else (1 : Int32)) else (1 : Int32)))
    (hlp : lp = (if t = (0 : Int32) then rb else (rb - x))) (hlg : lg = (if t = (0 : Int32) then rc else (if t = (1 : Int32) then rc else (rc - x))))
    (hlp2 : lp2 = (if u = (0 : Int32) then lp else (lp - y))) (hlg2 : lg2 = (if u = (0 : Int32) then lg else (if u = (1 : Int32) then lg else (lg - y))))
    (hon : on = (x + y)) (hzx : zx = (if t < (1 : Int32) then (0 : Int64) else x)) (hzy : zy = (if u < (1 : Int32) then (0 : Int64) else y)) (hop : op = (zx + zy))
    (hgx : gx = (if t < (2 : Int32) then (0 : Int64) else x)) (hgy : gy = (if u < (2 : Int32) then (0 : Int64) else y)) (hog : og = (gx + gy))
    (h226 : z226 = (if on < ra then (0 : Int32) else (1 : Int32))) (h246 : z246 = (if op < rb then (if z226 = (0 : Int32) then (0 : Int32) else (1 : Int32)) else (1 : Int32)))
    (h266 : z266 = (if og < rc then (if z246 = (0 : Int32) then (0 : Int32) else (1 : Int32)) else (1 : Int32)))
    (h273 : v273 = (fT0 ((ra - x) - y))) (h280 : v280 = (fT1 lp2 ((ra - x) - y))) (h287 : v287 = (fT2 lg2 lp2 ((ra - x) - y)))
    (hz : z = (if v90 = z118 then (if v273 = z226 then (if v280 = z246 then (if v287 = z266 then (1 : Int32) else (0 : Int32)) else (0 : Int32)) else (0 : Int32)) else (0 : Int32))) : z = 1 := by
  have bx := own_s h23
  have by' := own_s h32
  have bt := own_t h42
  have bu := own_t h54
  simp only [own_lt1 bt] at hzx
  simp only [own_lt1 bu] at hzy
  simp only [own_lt2 bt] at hgx
  simp only [own_lt2 bu] at hgy
  have elp : lp2 = (rb - zx) - zy := by rw [hlp2, own_sub, hlp, own_sub, ← hzx, ← hzy]
  have elg : lg2 = (rc - gx) - gy := by rw [hlg2, ← own_or, own_sub, hlg, ← own_or, own_sub, ← hgx, ← hgy]
  have bzx : 0 ≤ zx.toInt ∧ zx.toInt < 2147483648 := by rw [hzx]; exact own_ite0 bx
  have bzy : 0 ≤ zy.toInt ∧ zy.toInt < 2147483648 := by rw [hzy]; exact own_ite0 by'
  have bgx : 0 ≤ gx.toInt ∧ gx.toInt < 2147483648 := by rw [hgx]; exact own_ite0 bx
  have bgy : 0 ≤ gy.toInt ∧ gy.toInt < 2147483648 := by rw [hgy]; exact own_ite0 by'
  have c1 := own_pos (own_b h3) bx by' (rfl : (ra - x) - y = _)
  have c2 := own_pos (own_b h8) bzx bzy elp
  have c3 := own_pos (own_b h14) bgx bgy elg
  rw [← hon] at c1
  rw [← hop] at c2
  rw [← hog] at c3
  have r1 : v90 = z118 := by
    rw [h90, h118, fT2, fT1, fT0]
    by_cases k1 : (0 : Int64) < rc <;> by_cases k2 : (0 : Int64) < rb <;> by_cases k3 : (0 : Int64) < ra <;> simp only [k1, k2, k3, if_true, if_false] <;> decide
  have r2 : v273 = z226 := by rw [h273, h226, fT0]; simp only [c1]
  have r3 : v280 = z246 := by rw [h280, h246, fT1, ← h273, r2]; simp only [c2]
  have r4 : v287 = z266 := by rw [h287, h266, fT2, ← h280, r3]; simp only [c3]
  rw [hz, if_pos r1, if_pos r2, if_pos r3, if_pos r4]

theorem d3_0 : decode prog_77_method_2_code 0 = .ok (.aload_n 0, 1) := by decide +kernel
theorem d3_1 : decode prog_77_method_2_code 1 = .ok (.invokespecial 7, 3) := by decide +kernel
theorem d3_4 : decode prog_77_method_2_code 4 = .ok (.aload_n 0, 1) := by decide +kernel
theorem d3_5 : decode prog_77_method_2_code 5 = .ok (.lload_n 1, 1) := by decide +kernel
theorem d3_6 : decode prog_77_method_2_code 6 = .ok (.putfield 12, 3) := by decide +kernel
theorem d3_9 : decode prog_77_method_2_code 9 = .ok (.aload_n 0, 1) := by decide +kernel
theorem d3_10 : decode prog_77_method_2_code 10 = .ok (.aload_n 3, 1) := by decide +kernel
theorem d3_11 : decode prog_77_method_2_code 11 = .ok (.putfield 16, 3) := by decide +kernel
theorem d3_14 : decode prog_77_method_2_code 14 = .ok (.return_, 1) := by decide +kernel
theorem d2_0 : decode prog_77_method_1_code 0 = .ok (.aload_n 0, 1) := by decide +kernel
theorem d2_1 : decode prog_77_method_1_code 1 = .ok (.lload_n 1, 1) := by decide +kernel
theorem d2_2 : decode prog_77_method_1_code 2 = .ok (.aconst_null, 1) := by decide +kernel
theorem d2_3 : decode prog_77_method_1_code 3 = .ok (.invokespecial 1, 3) := by decide +kernel
theorem d2_6 : decode prog_77_method_1_code 6 = .ok (.return_, 1) := by decide +kernel
theorem d5_0 : decode prog_77_method_3_code 0 = .ok (.new 2, 3) := by decide +kernel
theorem d5_3 : decode prog_77_method_3_code 3 = .ok (.dup, 1) := by decide +kernel
theorem d5_4 : decode prog_77_method_3_code 4 = .ok (.lload_n 1, 1) := by decide +kernel
theorem d5_5 : decode prog_77_method_3_code 5 = .ok (.aload_n 0, 1) := by decide +kernel
theorem d5_6 : decode prog_77_method_3_code 6 = .ok (.invokespecial 1, 3) := by decide +kernel
theorem d5_9 : decode prog_77_method_3_code 9 = .ok (.areturn, 1) := by decide +kernel
theorem d8_0 : decode prog_77_method_4_code 0 = .ok (.aload_n 0, 1) := by decide +kernel
theorem d8_1 : decode prog_77_method_4_code 1 = .ok (.dup, 1) := by decide +kernel
theorem d8_2 : decode prog_77_method_4_code 2 = .ok (.getfield 12, 3) := by decide +kernel
theorem d8_5 : decode prog_77_method_4_code 5 = .ok (.lload_n 1, 1) := by decide +kernel
theorem d8_6 : decode prog_77_method_4_code 6 = .ok (.lsub, 1) := by decide +kernel
theorem d8_7 : decode prog_77_method_4_code 7 = .ok (.putfield 12, 3) := by decide +kernel
theorem d8_10 : decode prog_77_method_4_code 10 = .ok (.aload_n 0, 1) := by decide +kernel
theorem d8_11 : decode prog_77_method_4_code 11 = .ok (.getfield 16, 3) := by decide +kernel
theorem d8_14 : decode prog_77_method_4_code 14 = .ok (.ifnull 11, 3) := by decide +kernel
theorem d8_25 : decode prog_77_method_4_code 25 = .ok (.return_, 1) := by decide +kernel
theorem d8_17 : decode prog_77_method_4_code 17 = .ok (.aload_n 0, 1) := by decide +kernel
theorem d8_18 : decode prog_77_method_4_code 18 = .ok (.getfield 16, 3) := by decide +kernel
theorem d8_21 : decode prog_77_method_4_code 21 = .ok (.lload_n 1, 1) := by decide +kernel
theorem d8_22 : decode prog_77_method_4_code 22 = .ok (.invokevirtual 20, 3) := by decide +kernel
theorem d6_0 : decode prog_77_method_5_code 0 = .ok (.aload_n 0, 1) := by decide +kernel
theorem d6_1 : decode prog_77_method_5_code 1 = .ok (.getfield 12, 3) := by decide +kernel
theorem d6_4 : decode prog_77_method_5_code 4 = .ok (.lconst 0, 1) := by decide +kernel
theorem d6_5 : decode prog_77_method_5_code 5 = .ok (.lcmp, 1) := by decide +kernel
theorem d6_6 : decode prog_77_method_5_code 6 = .ok (.ifCond .le 20, 3) := by decide +kernel
theorem d6_9 : decode prog_77_method_5_code 9 = .ok (.aload_n 0, 1) := by decide +kernel
theorem d6_10 : decode prog_77_method_5_code 10 = .ok (.getfield 16, 3) := by decide +kernel
theorem d6_13 : decode prog_77_method_5_code 13 = .ok (.ifnull 17, 3) := by decide +kernel
theorem d6_30 : decode prog_77_method_5_code 30 = .ok (.iconst 0, 1) := by decide +kernel
theorem d6_31 : decode prog_77_method_5_code 31 = .ok (.ireturn, 1) := by decide +kernel
theorem d6_26 : decode prog_77_method_5_code 26 = .ok (.iconst 1, 1) := by decide +kernel
theorem d6_27 : decode prog_77_method_5_code 27 = .ok (.goto 4, 3) := by decide +kernel
theorem d6_16 : decode prog_77_method_5_code 16 = .ok (.aload_n 0, 1) := by decide +kernel
theorem d6_17 : decode prog_77_method_5_code 17 = .ok (.getfield 16, 3) := by decide +kernel
theorem d6_20 : decode prog_77_method_5_code 20 = .ok (.invokevirtual 24, 3) := by decide +kernel
theorem d6_23 : decode prog_77_method_5_code 23 = .ok (.ifCond .eq 7, 3) := by decide +kernel
theorem d1_0 : decode jdk_29_method_69_code 0 = .ok (.iload_n 0, 1) := by decide +kernel
theorem d1_1 : decode jdk_29_method_69_code 1 = .ok (.iload_n 1, 1) := by decide +kernel
theorem d1_2 : decode jdk_29_method_69_code 2 = .ok (.if_icmp .gt 7, 3) := by decide +kernel
theorem d1_9 : decode jdk_29_method_69_code 9 = .ok (.iload_n 1, 1) := by decide +kernel
theorem d1_10 : decode jdk_29_method_69_code 10 = .ok (.ireturn, 1) := by decide +kernel
theorem d1_5 : decode jdk_29_method_69_code 5 = .ok (.iload_n 0, 1) := by decide +kernel
theorem d1_6 : decode jdk_29_method_69_code 6 = .ok (.goto 4, 3) := by decide +kernel
theorem d7_0 : decode method_2_code 0 = .ok (.iload_n 0, 1) := by decide +kernel
theorem d7_1 : decode method_2_code 1 = .ok (.ifCond .ne 5, 3) := by decide +kernel
theorem d7_4 : decode method_2_code 4 = .ok (.aload_n 1, 1) := by decide +kernel
theorem d7_5 : decode method_2_code 5 = .ok (.areturn, 1) := by decide +kernel
theorem d7_6 : decode method_2_code 6 = .ok (.iload_n 0, 1) := by decide +kernel
theorem d7_7 : decode method_2_code 7 = .ok (.iconst 1, 1) := by decide +kernel
theorem d7_8 : decode method_2_code 8 = .ok (.if_icmp .ne 5, 3) := by decide +kernel
theorem d7_11 : decode method_2_code 11 = .ok (.aload_n 2, 1) := by decide +kernel
theorem d7_12 : decode method_2_code 12 = .ok (.areturn, 1) := by decide +kernel
theorem d7_13 : decode method_2_code 13 = .ok (.aload_n 3, 1) := by decide +kernel
theorem d7_14 : decode method_2_code 14 = .ok (.areturn, 1) := by decide +kernel
theorem pn_0 : plainName "com/example/regolo/regolo/engine/Work" = true := by first | (simp [plainName, overriddenIn]; done) | decide +kernel
theorem pn_1 : plainName "com/example/regolo/regolo/engine/WorkSpentPinLaw" = true := by first | (simp [plainName, overriddenIn]; done) | decide +kernel
theorem pd_0 : parseMethodDescriptor "(JLcom/example/regolo/regolo/engine/Work;)V" = some ⟨[.long, (.object "com/example/regolo/regolo/engine/Work")], none⟩ := by decide +kernel
theorem pd_1 : parseMethodDescriptor "(J)V" = some ⟨[.long], none⟩ := by decide +kernel
theorem pd_2 : parseMethodDescriptor "()Z" = some ⟨[], some .boolean⟩ := by decide +kernel
theorem pd_3 : parseMethodDescriptor "(II)I" = some ⟨[.int, .int], some .int⟩ := by decide +kernel
theorem pd_4 : parseMethodDescriptor "(J)Lcom/example/regolo/regolo/engine/Work;" = some ⟨[.long], some (.object "com/example/regolo/regolo/engine/Work")⟩ := by decide +kernel
theorem pd_5 : parseMethodDescriptor "(ILcom/example/regolo/regolo/engine/Work;Lcom/example/regolo/regolo/engine/Work;Lcom/example/regolo/regolo/engine/Work;)Lcom/example/regolo/regolo/engine/Work;" = some ⟨[.int, (.object "com/example/regolo/regolo/engine/Work"), (.object "com/example/regolo/regolo/engine/Work"), (.object "com/example/regolo/regolo/engine/Work")], some (.object "com/example/regolo/regolo/engine/Work")⟩ := by decide +kernel
def QI0 (Z : State) (a1 : Addr) (q2 : Int64) (u1 : Int64) (h0 : Heap) (n0 : Nat) (v : Option Value) (h : Heap) (L : List Loc) : Prop := v = none ∧ Fr n0 L ∧ (Keep h0 h [a1]) ∧ (Fld Z h a1 "com/example/regolo/regolo/engine/Work" "left" "J" (.long q2)) ∧ (Fld Z h a1 "com/example/regolo/regolo/engine/Work" "whole" "Lcom/example/regolo/regolo/engine/Work;" .null)
theorem ef_I0 (m : MethodId) (a1 : Addr) (q2 : Int64) : entryFrame m #[(.ref a1), (.long q2), .null] 4 = mkF m 0 #[.val (.ref a1), .val (.long q2), .second, .val .null] [] := by first | (simp [entryFrame, mkF, argsToLocals, Value.category]; done) | rfl
set_option maxRecDepth 65536 in
set_option maxHeartbeats 40000000 in
theorem rmI0 (l : Launch) (Z : State) (a0 : Array Value) (hw : ∀ d ∈ tables_1, d.before a0 Z = true) (ws : List Jvm.Cond) (a1 : Addr) (q2 : Int64) (u1 : Int64) (h0 : Heap) (n0 : Nat) (Zs : n0 ≤ h0.size) (E_a1 : Exa Z h0 a1 "com/example/regolo/regolo/engine/Work") (F_left_a1 : Fld Z h0 a1 "com/example/regolo/regolo/engine/Work" "left" "J" (.long u1)) (F_whole_a1 : Fld Z h0 a1 "com/example/regolo/regolo/engine/Work" "whole" "Lcom/example/regolo/regolo/engine/Work;" .null) (g_a1 : n0 ≤ a1) :
    MetFree l (⟨"com/example/regolo/regolo/engine/Work", "<init>", "(JLcom/example/regolo/regolo/engine/Work;)V"⟩ : MethodName) (head1 (Jvm.Cond.code (⟨"com/example/regolo/regolo/engine/Work", "<init>", "(JLcom/example/regolo/regolo/engine/Work;)V"⟩ : MethodName) prog_77_method_2_code 4 none :: ws) ({ frames := 1, cells := 0, slots := 0, locals := 12 } : Room)) (fun a U => a = #[(.ref a1), (.long q2), .null] ∧ Z.Warmed39 U.vm ∧ U.heap = h0) (fun _ _ _ _ _ => True) (fun _ U o U' => ∃ v L, o = .returned v ∧ QI0 Z a1 q2 u1 h0 n0 v U'.heap L ∧ FrameEnd U o U' L ({ frames := 1, cells := 0, slots := 0, locals := 12 } : Room).cells ({ frames := 1, cells := 0, slots := 0, locals := 12 } : Room).slots) := by
  refine MetFree.of_bodySF (plainFor_of_name pn_0) hisR ?_
  intro p e s m args below meth c s₁ Bd hml0 hP hK
  obtain ⟨rfl, hZ, hh⟩ := hP
  have hx := Bd.exec
  have hby := Bd.bytes
  have hml : c.maxLocals = 4 := hml0
  have hown : s.vm.findClass "com/example/regolo/regolo/engine/Work" = some m.cls := findClass_of_methodNamed Bd.named
  have hnm := (name_of_methodNamed Bd.named Bd.method).1
  have X0 : Stand p l e ({ frames := 1, cells := 0, slots := 0, locals := 12 } : Room) s m #[(.ref a1), (.long q2), .null] below meth c s₁ [] 0 0 := Stand.of_body Bd
  have e0 : s₁.heap = h0 := by rw [← hh, Bd.state]; rfl
  have N0 := Fr.nil n0
  have pre0 : ∀ t, Steps p.tables e below (s₁.setTop (mkF m 0 #[.val (.ref a1), .val (.long q2), .second, .val .null] [])) t → Steps p.tables e below (s₁.setTop (entryFrame m #[(.ref a1), (.long q2), .null] 4)) t := fun t k => castTop (ef_I0 m a1 q2) k
  have Kp : Keep h0 h0 [a1] := Keep.refl h0 [a1]
  obtain ⟨T1, X1, e1, st1⟩ := initO X0 hx hZ hown (hw _ (List.mem_of_getElem? (i := 14) rfl)) (hw _ (List.mem_of_getElem? (i := 15) rfl)) (hw _ (List.mem_of_getElem? (i := 16) rfl)) e0 (g := (mkF m 1 #[.val (.ref a1), .val (.long q2), .second, .val .null] [(.ref a1)])) rfl (by rw [hml]; rfl) rfl (hb hby d3_1) (by decide) (W := 0) (by show 2 * 0 + _ ≤ _; exact Nat.le_of_eq rfl) (by decide)
  obtain ⟨T2, h2, X2, e2, W2, st2⟩ := putF X1 hx hZ hown (host := "") (Or.inl (hw _ (List.mem_of_getElem? (i := 17) rfl))) Via.refl e1 F_left_a1 E_a1 (Or.inl (hw _ (List.mem_of_getElem? (i := 18) rfl))) (hw _ (List.mem_of_getElem? (i := 6) rfl)) (ty := .long) (by decide) rfl rfl (g := (mkF m 6 #[.val (.ref a1), .val (.long q2), .second, .val .null] [(.long q2), (.ref a1)])) rfl rfl (hb hby d3_6)
  have N2 := Fr.snoc X2 N0 g_a1
  have Zs : n0 ≤ h2.size := Nat.le_trans Zs (Keep.of_wr W2).1
  have E_a1 : Exa Z h2 a1 "com/example/regolo/regolo/engine/Work" := E_a1.wr W2
  have F_left_a1 : Fld Z h2 a1 "com/example/regolo/regolo/engine/Work" "left" "J" (.long q2) := F_left_a1.same W2
  have F_whole_a1 : Fld Z h2 a1 "com/example/regolo/regolo/engine/Work" "whole" "Lcom/example/regolo/regolo/engine/Work;" .null := F_whole_a1.other W2 (Or.inr (slot_ne (Or.inr (hw _ (List.mem_of_getElem? (i := 20) rfl))) (Or.inl (hw _ (List.mem_of_getElem? (i := 18) rfl))) (by decide) (t := (.object "com/example/regolo/regolo/engine/Work")) (t' := .long) (by decide) (by decide)))
  have Kp : Keep h0 h2 [a1] := Kp.wr W2 (Or.inl (List.mem_of_getElem? (i := 0) rfl))
  obtain ⟨T3, h3, X3, e3, W3, st3⟩ := putF X2 hx hZ hown (host := "") (Or.inl (hw _ (List.mem_of_getElem? (i := 19) rfl))) Via.refl e2 F_whole_a1 E_a1 (Or.inr ⟨(hw _ (List.mem_of_getElem? (i := 20) rfl)), rfl, hnm⟩) (hw _ (List.mem_of_getElem? (i := 6) rfl)) (ty := (.object "com/example/regolo/regolo/engine/Work")) (by decide) rfl rfl (g := (mkF m 11 #[.val (.ref a1), .val (.long q2), .second, .val .null] [.null, (.ref a1)])) rfl rfl (hb hby d3_11)
  have N3 := Fr.snoc X3 N2 g_a1
  have Zs : n0 ≤ h3.size := Nat.le_trans Zs (Keep.of_wr W3).1
  have E_a1 : Exa Z h3 a1 "com/example/regolo/regolo/engine/Work" := E_a1.wr W3
  have F_left_a1 : Fld Z h3 a1 "com/example/regolo/regolo/engine/Work" "left" "J" (.long q2) := F_left_a1.other W3 (Or.inr (slot_ne (Or.inl (hw _ (List.mem_of_getElem? (i := 18) rfl))) (Or.inr (hw _ (List.mem_of_getElem? (i := 20) rfl))) (by decide) (t := .long) (t' := (.object "com/example/regolo/regolo/engine/Work")) (by decide) (by decide)))
  have F_whole_a1 : Fld Z h3 a1 "com/example/regolo/regolo/engine/Work" "whole" "Lcom/example/regolo/regolo/engine/Work;" .null := F_whole_a1.same W3
  have Kp : Keep h0 h3 [a1] := Kp.wr W3 (Or.inl (List.mem_of_getElem? (i := 0) rfl))
  obtain ⟨fs, hr, hrun, hended, hW, hsame⟩ := X3.leave (v := none) (fun _ => rfl)
  refine ⟨_, _, pre0 _ ?_, hrun, hended, _, _, rfl, ?_, ⟨_, rfl⟩, hW, hsame.mono (by decide) (by decide)⟩
  · show Steps p.tables e below (s₁.setTop (mkF m 0 #[.val (.ref a1), .val (.long q2), .second, .val .null] [])) _
    refine XS.aloadN X0.here hx rfl (hb hby d3_0) rfl rfl ?_
    show Steps p.tables e below (s₁.setTop (mkF m 1 #[.val (.ref a1), .val (.long q2), .second, .val .null] [(.ref a1)])) _
    refine st1 _ ?_
    show Steps p.tables e below (T1.setTop (mkF m 4 #[.val (.ref a1), .val (.long q2), .second, .val .null] [])) _
    refine XS.aloadN X1.here hx rfl (hb hby d3_4) rfl rfl ?_
    show Steps p.tables e below (T1.setTop (mkF m 5 #[.val (.ref a1), .val (.long q2), .second, .val .null] [(.ref a1)])) _
    refine XS.lloadN X1.here hx rfl (hb hby d3_5) rfl ?_
    show Steps p.tables e below (T1.setTop (mkF m 6 #[.val (.ref a1), .val (.long q2), .second, .val .null] [(.long q2), (.ref a1)])) _
    refine st2 _ ?_
    show Steps p.tables e below (T2.setTop (mkF m 9 #[.val (.ref a1), .val (.long q2), .second, .val .null] [])) _
    refine XS.aloadN X2.here hx rfl (hb hby d3_9) rfl rfl ?_
    show Steps p.tables e below (T2.setTop (mkF m 10 #[.val (.ref a1), .val (.long q2), .second, .val .null] [(.ref a1)])) _
    refine XS.aloadN X2.here hx rfl (hb hby d3_10) rfl rfl ?_
    show Steps p.tables e below (T2.setTop (mkF m 11 #[.val (.ref a1), .val (.long q2), .second, .val .null] [.null, (.ref a1)])) _
    refine st3 _ ?_
    show Steps p.tables e below (T3.setTop (mkF m 14 #[.val (.ref a1), .val (.long q2), .second, .val .null] [])) _
    exact X3.returnOut hx Bd.returns (hb hby d3_14) hr
  · show QI0 Z a1 q2 u1 h0 n0 _ T3.heap _
    rw [e3]
    exact ⟨rfl, N3, Kp, F_left_a1, F_whole_a1⟩
def QI1 (Z : State) (a1 : Addr) (q2 : Int64) (a3 : Addr) (u1 : Int64) (h0 : Heap) (n0 : Nat) (v : Option Value) (h : Heap) (L : List Loc) : Prop := v = none ∧ Fr n0 L ∧ (Keep h0 h [a1]) ∧ (Fld Z h a1 "com/example/regolo/regolo/engine/Work" "left" "J" (.long q2)) ∧ (Fld Z h a1 "com/example/regolo/regolo/engine/Work" "whole" "Lcom/example/regolo/regolo/engine/Work;" (.ref a3))
theorem ef_I1 (m : MethodId) (a1 : Addr) (q2 : Int64) (a3 : Addr) : entryFrame m #[(.ref a1), (.long q2), (.ref a3)] 4 = mkF m 0 #[.val (.ref a1), .val (.long q2), .second, .val (.ref a3)] [] := by first | (simp [entryFrame, mkF, argsToLocals, Value.category]; done) | rfl
set_option maxRecDepth 65536 in
set_option maxHeartbeats 40000000 in
theorem rmI1 (l : Launch) (Z : State) (a0 : Array Value) (hw : ∀ d ∈ tables_1, d.before a0 Z = true) (ws : List Jvm.Cond) (a1 : Addr) (q2 : Int64) (a3 : Addr) (u1 : Int64) (h0 : Heap) (n0 : Nat) (Zs : n0 ≤ h0.size) (E_a1 : Exa Z h0 a1 "com/example/regolo/regolo/engine/Work") (F_left_a1 : Fld Z h0 a1 "com/example/regolo/regolo/engine/Work" "left" "J" (.long u1)) (F_whole_a1 : Fld Z h0 a1 "com/example/regolo/regolo/engine/Work" "whole" "Lcom/example/regolo/regolo/engine/Work;" .null) (g_a1 : n0 ≤ a1) :
    MetFree l (⟨"com/example/regolo/regolo/engine/Work", "<init>", "(JLcom/example/regolo/regolo/engine/Work;)V"⟩ : MethodName) (head1 (Jvm.Cond.code (⟨"com/example/regolo/regolo/engine/Work", "<init>", "(JLcom/example/regolo/regolo/engine/Work;)V"⟩ : MethodName) prog_77_method_2_code 4 none :: ws) ({ frames := 1, cells := 0, slots := 0, locals := 12 } : Room)) (fun a U => a = #[(.ref a1), (.long q2), (.ref a3)] ∧ Z.Warmed39 U.vm ∧ U.heap = h0) (fun _ _ _ _ _ => True) (fun _ U o U' => ∃ v L, o = .returned v ∧ QI1 Z a1 q2 a3 u1 h0 n0 v U'.heap L ∧ FrameEnd U o U' L ({ frames := 1, cells := 0, slots := 0, locals := 12 } : Room).cells ({ frames := 1, cells := 0, slots := 0, locals := 12 } : Room).slots) := by
  refine MetFree.of_bodySF (plainFor_of_name pn_0) hisR ?_
  intro p e s m args below meth c s₁ Bd hml0 hP hK
  obtain ⟨rfl, hZ, hh⟩ := hP
  have hx := Bd.exec
  have hby := Bd.bytes
  have hml : c.maxLocals = 4 := hml0
  have hown : s.vm.findClass "com/example/regolo/regolo/engine/Work" = some m.cls := findClass_of_methodNamed Bd.named
  have hnm := (name_of_methodNamed Bd.named Bd.method).1
  have X0 : Stand p l e ({ frames := 1, cells := 0, slots := 0, locals := 12 } : Room) s m #[(.ref a1), (.long q2), (.ref a3)] below meth c s₁ [] 0 0 := Stand.of_body Bd
  have e0 : s₁.heap = h0 := by rw [← hh, Bd.state]; rfl
  have N0 := Fr.nil n0
  have pre0 : ∀ t, Steps p.tables e below (s₁.setTop (mkF m 0 #[.val (.ref a1), .val (.long q2), .second, .val (.ref a3)] [])) t → Steps p.tables e below (s₁.setTop (entryFrame m #[(.ref a1), (.long q2), (.ref a3)] 4)) t := fun t k => castTop (ef_I1 m a1 q2 a3) k
  have Kp : Keep h0 h0 [a1] := Keep.refl h0 [a1]
  obtain ⟨T4, X4, e4, st4⟩ := initO X0 hx hZ hown (hw _ (List.mem_of_getElem? (i := 14) rfl)) (hw _ (List.mem_of_getElem? (i := 15) rfl)) (hw _ (List.mem_of_getElem? (i := 16) rfl)) e0 (g := (mkF m 1 #[.val (.ref a1), .val (.long q2), .second, .val (.ref a3)] [(.ref a1)])) rfl (by rw [hml]; rfl) rfl (hb hby d3_1) (by decide) (W := 0) (by show 2 * 0 + _ ≤ _; exact Nat.le_of_eq rfl) (by decide)
  obtain ⟨T5, h5, X5, e5, W5, st5⟩ := putF X4 hx hZ hown (host := "") (Or.inl (hw _ (List.mem_of_getElem? (i := 17) rfl))) Via.refl e4 F_left_a1 E_a1 (Or.inl (hw _ (List.mem_of_getElem? (i := 18) rfl))) (hw _ (List.mem_of_getElem? (i := 6) rfl)) (ty := .long) (by decide) rfl rfl (g := (mkF m 6 #[.val (.ref a1), .val (.long q2), .second, .val (.ref a3)] [(.long q2), (.ref a1)])) rfl rfl (hb hby d3_6)
  have N5 := Fr.snoc X5 N0 g_a1
  have Zs : n0 ≤ h5.size := Nat.le_trans Zs (Keep.of_wr W5).1
  have E_a1 : Exa Z h5 a1 "com/example/regolo/regolo/engine/Work" := E_a1.wr W5
  have F_left_a1 : Fld Z h5 a1 "com/example/regolo/regolo/engine/Work" "left" "J" (.long q2) := F_left_a1.same W5
  have F_whole_a1 : Fld Z h5 a1 "com/example/regolo/regolo/engine/Work" "whole" "Lcom/example/regolo/regolo/engine/Work;" .null := F_whole_a1.other W5 (Or.inr (slot_ne (Or.inr (hw _ (List.mem_of_getElem? (i := 20) rfl))) (Or.inl (hw _ (List.mem_of_getElem? (i := 18) rfl))) (by decide) (t := (.object "com/example/regolo/regolo/engine/Work")) (t' := .long) (by decide) (by decide)))
  have Kp : Keep h0 h5 [a1] := Kp.wr W5 (Or.inl (List.mem_of_getElem? (i := 0) rfl))
  obtain ⟨T6, h6, X6, e6, W6, st6⟩ := putF X5 hx hZ hown (host := "") (Or.inl (hw _ (List.mem_of_getElem? (i := 19) rfl))) Via.refl e5 F_whole_a1 E_a1 (Or.inr ⟨(hw _ (List.mem_of_getElem? (i := 20) rfl)), rfl, hnm⟩) (hw _ (List.mem_of_getElem? (i := 6) rfl)) (ty := (.object "com/example/regolo/regolo/engine/Work")) (by decide) rfl rfl (g := (mkF m 11 #[.val (.ref a1), .val (.long q2), .second, .val (.ref a3)] [(.ref a3), (.ref a1)])) rfl rfl (hb hby d3_11)
  have N6 := Fr.snoc X6 N5 g_a1
  have Zs : n0 ≤ h6.size := Nat.le_trans Zs (Keep.of_wr W6).1
  have E_a1 : Exa Z h6 a1 "com/example/regolo/regolo/engine/Work" := E_a1.wr W6
  have F_left_a1 : Fld Z h6 a1 "com/example/regolo/regolo/engine/Work" "left" "J" (.long q2) := F_left_a1.other W6 (Or.inr (slot_ne (Or.inl (hw _ (List.mem_of_getElem? (i := 18) rfl))) (Or.inr (hw _ (List.mem_of_getElem? (i := 20) rfl))) (by decide) (t := .long) (t' := (.object "com/example/regolo/regolo/engine/Work")) (by decide) (by decide)))
  have F_whole_a1 : Fld Z h6 a1 "com/example/regolo/regolo/engine/Work" "whole" "Lcom/example/regolo/regolo/engine/Work;" (.ref a3) := F_whole_a1.same W6
  have Kp : Keep h0 h6 [a1] := Kp.wr W6 (Or.inl (List.mem_of_getElem? (i := 0) rfl))
  obtain ⟨fs, hr, hrun, hended, hW, hsame⟩ := X6.leave (v := none) (fun _ => rfl)
  refine ⟨_, _, pre0 _ ?_, hrun, hended, _, _, rfl, ?_, ⟨_, rfl⟩, hW, hsame.mono (by decide) (by decide)⟩
  · show Steps p.tables e below (s₁.setTop (mkF m 0 #[.val (.ref a1), .val (.long q2), .second, .val (.ref a3)] [])) _
    refine XS.aloadN X0.here hx rfl (hb hby d3_0) rfl rfl ?_
    show Steps p.tables e below (s₁.setTop (mkF m 1 #[.val (.ref a1), .val (.long q2), .second, .val (.ref a3)] [(.ref a1)])) _
    refine st4 _ ?_
    show Steps p.tables e below (T4.setTop (mkF m 4 #[.val (.ref a1), .val (.long q2), .second, .val (.ref a3)] [])) _
    refine XS.aloadN X4.here hx rfl (hb hby d3_4) rfl rfl ?_
    show Steps p.tables e below (T4.setTop (mkF m 5 #[.val (.ref a1), .val (.long q2), .second, .val (.ref a3)] [(.ref a1)])) _
    refine XS.lloadN X4.here hx rfl (hb hby d3_5) rfl ?_
    show Steps p.tables e below (T4.setTop (mkF m 6 #[.val (.ref a1), .val (.long q2), .second, .val (.ref a3)] [(.long q2), (.ref a1)])) _
    refine st5 _ ?_
    show Steps p.tables e below (T5.setTop (mkF m 9 #[.val (.ref a1), .val (.long q2), .second, .val (.ref a3)] [])) _
    refine XS.aloadN X5.here hx rfl (hb hby d3_9) rfl rfl ?_
    show Steps p.tables e below (T5.setTop (mkF m 10 #[.val (.ref a1), .val (.long q2), .second, .val (.ref a3)] [(.ref a1)])) _
    refine XS.aloadN X5.here hx rfl (hb hby d3_10) rfl rfl ?_
    show Steps p.tables e below (T5.setTop (mkF m 11 #[.val (.ref a1), .val (.long q2), .second, .val (.ref a3)] [(.ref a3), (.ref a1)])) _
    refine st6 _ ?_
    show Steps p.tables e below (T6.setTop (mkF m 14 #[.val (.ref a1), .val (.long q2), .second, .val (.ref a3)] [])) _
    exact X6.returnOut hx Bd.returns (hb hby d3_14) hr
  · show QI1 Z a1 q2 a3 u1 h0 n0 _ T6.heap _
    rw [e6]
    exact ⟨rfl, N6, Kp, F_left_a1, F_whole_a1⟩
def QC (Z : State) (a1 : Addr) (q2 : Int64) (u1 : Int64) (h0 : Heap) (n0 : Nat) (v : Option Value) (h : Heap) (L : List Loc) : Prop := v = none ∧ Fr n0 L ∧ (Keep h0 h [a1]) ∧ (Fld Z h a1 "com/example/regolo/regolo/engine/Work" "left" "J" (.long q2)) ∧ (Fld Z h a1 "com/example/regolo/regolo/engine/Work" "whole" "Lcom/example/regolo/regolo/engine/Work;" .null)
theorem ef_C (m : MethodId) (a1 : Addr) (q2 : Int64) : entryFrame m #[(.ref a1), (.long q2)] 3 = mkF m 0 #[.val (.ref a1), .val (.long q2), .second] [] := by first | (simp [entryFrame, mkF, argsToLocals, Value.category]; done) | rfl
set_option maxRecDepth 65536 in
set_option maxHeartbeats 40000000 in
theorem rmC (l : Launch) (Z : State) (a0 : Array Value) (hw : ∀ d ∈ tables_1, d.before a0 Z = true) (ws : List Jvm.Cond) (a1 : Addr) (q2 : Int64) (u1 : Int64) (h0 : Heap) (n0 : Nat) (Zs : n0 ≤ h0.size) (E_a1 : Exa Z h0 a1 "com/example/regolo/regolo/engine/Work") (F_left_a1 : Fld Z h0 a1 "com/example/regolo/regolo/engine/Work" "left" "J" (.long u1)) (F_whole_a1 : Fld Z h0 a1 "com/example/regolo/regolo/engine/Work" "whole" "Lcom/example/regolo/regolo/engine/Work;" .null) (g_a1 : n0 ≤ a1) :
    MetFree l (⟨"com/example/regolo/regolo/engine/Work", "<init>", "(J)V"⟩ : MethodName) (head1 (Jvm.Cond.code (⟨"com/example/regolo/regolo/engine/Work", "<init>", "(J)V"⟩ : MethodName) prog_77_method_1_code 3 none :: ws) ({ frames := 2, cells := 0, slots := 0, locals := 27 } : Room)) (fun a U => a = #[(.ref a1), (.long q2)] ∧ Z.Warmed39 U.vm ∧ U.heap = h0) (fun _ _ _ _ _ => True) (fun _ U o U' => ∃ v L, o = .returned v ∧ QC Z a1 q2 u1 h0 n0 v U'.heap L ∧ FrameEnd U o U' L ({ frames := 2, cells := 0, slots := 0, locals := 27 } : Room).cells ({ frames := 2, cells := 0, slots := 0, locals := 27 } : Room).slots) := by
  refine MetFree.of_bodySF (plainFor_of_name pn_0) hisR ?_
  intro p e s m args below meth c s₁ Bd hml0 hP hK
  obtain ⟨rfl, hZ, hh⟩ := hP
  have hx := Bd.exec
  have hby := Bd.bytes
  have hml : c.maxLocals = 3 := hml0
  have hown : s.vm.findClass "com/example/regolo/regolo/engine/Work" = some m.cls := findClass_of_methodNamed Bd.named
  have hnm := (name_of_methodNamed Bd.named Bd.method).1
  have X0 : Stand p l e ({ frames := 2, cells := 0, slots := 0, locals := 27 } : Room) s m #[(.ref a1), (.long q2)] below meth c s₁ [] 0 0 := Stand.of_body Bd
  have e0 : s₁.heap = h0 := by rw [← hh, Bd.state]; rfl
  have N0 := Fr.nil n0
  have pre0 : ∀ t, Steps p.tables e below (s₁.setTop (mkF m 0 #[.val (.ref a1), .val (.long q2), .second] [])) t → Steps p.tables e below (s₁.setTop (entryFrame m #[(.ref a1), (.long q2)] 3)) t := fun t k => castTop (ef_C m a1 q2) k
  have Kp : Keep h0 h0 [a1] := Keep.refl h0 [a1]
  obtain ⟨_, _, ⟨T7, L7, k7, n7⟩, -, X7, ⟨Lc7, hQ7, l7, y7, z7⟩, st7⟩ := X0.specialBack hx (y := (⟨"com/example/regolo/regolo/engine/Work", "<init>", "(JLcom/example/regolo/regolo/engine/Work;)V"⟩ : MethodName)) rfl hown (mvT hZ (hw _ (List.mem_of_getElem? (i := 11) rfl))) (mvT hZ (hw _ (List.mem_of_getElem? (i := 12) rfl))) (mvT hZ (hw _ (List.mem_of_getElem? (i := 13) rfl))) (by decide) (backOf (W := 0) (rmI0 l Z a0 hw [] a1 q2 u1 h0 n0 Zs E_a1 F_left_a1 F_whole_a1 g_a1) hZ (hw _ (List.mem_of_getElem? (i := 13) rfl)) (hw _ (List.mem_of_getElem? (i := 7) rfl)) (by decide) (by decide)) (g := (mkF m 3 #[.val (.ref a1), .val (.long q2), .second] [.null, (.long q2), (.ref a1)])) rfl (by rw [hml]; rfl) (Steps.refl _) (a := a1) (argsL := [(.long q2), .null]) (rest := []) (lenOf pd_0 rfl) rfl (by show 2 * 0 + _ ≤ _; exact Nat.le_of_eq rfl) (hb hby d2_3) (fun _ _ => ⟨rfl, e0, (by decide : 0 + 0 ≤ _), (by decide : 0 + 0 ≤ _)⟩)
  dsimp only [Pt.U, Pt.locs, Pt.cells, Pt.slots] at X7 l7 y7 z7 st7 hQ7
  subst l7 y7 z7
  obtain ⟨rfl, N7q, K7, P7_1, P7_2⟩ := hQ7
  have Zs : n0 ≤ T7.heap.size := Nat.le_trans Zs K7.1
  have E_a1 : Exa Z T7.heap a1 "com/example/regolo/regolo/engine/Work" := E_a1.keep K7
  have Kp : Keep h0 T7.heap [a1] := Kp.trans K7 (allS (Or.inl (List.mem_of_getElem? (i := 0) rfl)) all0)
  have F_left_a1 : Fld Z T7.heap a1 "com/example/regolo/regolo/engine/Work" "left" "J" (.long q2) := P7_1
  have F_whole_a1 : Fld Z T7.heap a1 "com/example/regolo/regolo/engine/Work" "whole" "Lcom/example/regolo/regolo/engine/Work;" .null := P7_2
  have N7 := Fr.app N0 N7q
  obtain ⟨fs, hr, hrun, hended, hW, hsame⟩ := X7.leave (v := none) (fun _ => rfl)
  refine ⟨_, _, pre0 _ ?_, hrun, hended, _, _, rfl, ?_, ⟨_, rfl⟩, hW, hsame.mono (by decide) (by decide)⟩
  · show Steps p.tables e below (s₁.setTop (mkF m 0 #[.val (.ref a1), .val (.long q2), .second] [])) _
    refine XS.aloadN X0.here hx rfl (hb hby d2_0) rfl rfl ?_
    show Steps p.tables e below (s₁.setTop (mkF m 1 #[.val (.ref a1), .val (.long q2), .second] [(.ref a1)])) _
    refine XS.lloadN X0.here hx rfl (hb hby d2_1) rfl ?_
    show Steps p.tables e below (s₁.setTop (mkF m 2 #[.val (.ref a1), .val (.long q2), .second] [(.long q2), (.ref a1)])) _
    refine XS.aconstNull X0.here hx rfl (hb hby d2_2) ?_
    show Steps p.tables e below (s₁.setTop (mkF m 3 #[.val (.ref a1), .val (.long q2), .second] [.null, (.long q2), (.ref a1)])) _
    refine st7.trans ?_
    show Steps p.tables e below (T7.setTop (mkF m 6 #[.val (.ref a1), .val (.long q2), .second] [])) _
    exact X7.returnOut hx Bd.returns (hb hby d2_6) hr
  · show QC Z a1 q2 u1 h0 n0 _ T7.heap _
    exact ⟨rfl, N7, Kp, F_left_a1, F_whole_a1⟩
def QP (Z : State) (a1 : Addr) (q2 : Int64) (h0 : Heap) (n0 : Nat) (v : Option Value) (h : Heap) (L : List Loc) : Prop := ∃ b : Addr, v = some (.ref b) ∧ Fr n0 L ∧ (Keep h0 h []) ∧ (h0.size ≤ b) ∧ (n0 ≤ b) ∧ (Exa Z h b "com/example/regolo/regolo/engine/Work") ∧ (Fld Z h b "com/example/regolo/regolo/engine/Work" "left" "J" (.long q2)) ∧ (Fld Z h b "com/example/regolo/regolo/engine/Work" "whole" "Lcom/example/regolo/regolo/engine/Work;" (.ref a1))
theorem ef_P (m : MethodId) (a1 : Addr) (q2 : Int64) : entryFrame m #[(.ref a1), (.long q2)] 3 = mkF m 0 #[.val (.ref a1), .val (.long q2), .second] [] := by first | (simp [entryFrame, mkF, argsToLocals, Value.category]; done) | rfl
set_option maxRecDepth 65536 in
set_option maxHeartbeats 40000000 in
theorem rmP (l : Launch) (Z : State) (a0 : Array Value) (hw : ∀ d ∈ tables_1, d.before a0 Z = true) (ws : List Jvm.Cond) (a1 : Addr) (q2 : Int64) (h0 : Heap) (n0 : Nat) (Zs : n0 ≤ h0.size)  :
    MetFree l (⟨"com/example/regolo/regolo/engine/Work", "part", "(J)Lcom/example/regolo/regolo/engine/Work;"⟩ : MethodName) (head1 (Jvm.Cond.code (⟨"com/example/regolo/regolo/engine/Work", "part", "(J)Lcom/example/regolo/regolo/engine/Work;"⟩ : MethodName) prog_77_method_3_code 3 (some (.object "com/example/regolo/regolo/engine/Work")) :: ws) ({ frames := 2, cells := 1, slots := 2, locals := 28 } : Room)) (fun a U => a = #[(.ref a1), (.long q2)] ∧ Z.Warmed39 U.vm ∧ U.heap = h0) (fun _ _ _ _ _ => True) (fun _ U o U' => ∃ v L, o = .returned v ∧ QP Z a1 q2 h0 n0 v U'.heap L ∧ FrameEnd U o U' L ({ frames := 2, cells := 1, slots := 2, locals := 28 } : Room).cells ({ frames := 2, cells := 1, slots := 2, locals := 28 } : Room).slots) := by
  refine MetFree.of_bodySF (plainFor_of_name pn_0) hisR ?_
  intro p e s m args below meth c s₁ Bd hml0 hP hK
  obtain ⟨rfl, hZ, hh⟩ := hP
  have hx := Bd.exec
  have hby := Bd.bytes
  have hml : c.maxLocals = 3 := hml0
  have hown : s.vm.findClass "com/example/regolo/regolo/engine/Work" = some m.cls := findClass_of_methodNamed Bd.named
  have hnm := (name_of_methodNamed Bd.named Bd.method).1
  have X0 : Stand p l e ({ frames := 2, cells := 1, slots := 2, locals := 28 } : Room) s m #[(.ref a1), (.long q2)] below meth c s₁ [] 0 0 := Stand.of_body Bd
  have e0 : s₁.heap = h0 := by rw [← hh, Bd.state]; rfl
  have N0 := Fr.nil n0
  have pre0 : ∀ t, Steps p.tables e below (s₁.setTop (mkF m 0 #[.val (.ref a1), .val (.long q2), .second] [])) t → Steps p.tables e below (s₁.setTop (entryFrame m #[(.ref a1), (.long q2)] 3)) t := fun t k => castTop (ef_P m a1 q2) k
  have Kp : Keep h0 h0 [] := Keep.refl h0 []
  obtain ⟨T8, h8, X8, e8, E8, A8, D8, -, st8⟩ := newO X0 hx hZ hown (hw _ (List.mem_of_getElem? (i := 26) rfl)) (hw _ (List.mem_of_getElem? (i := 6) rfl)) (hw _ (List.mem_of_getElem? (i := 7) rfl)) e0 (g := (mkF m 0 #[.val (.ref a1), .val (.long q2), .second] [])) rfl (hb hby d5_0) (by decide) (by decide)
  obtain ⟨b8, g8⟩ : ∃ z, z = h0.size := ⟨_, rfl⟩
  rw [← g8] at A8 D8 st8
  have g_b8 : n0 ≤ b8 := Nat.le_trans Zs (Nat.le_of_eq g8.symm)
  have sz_b8 : h0.size ≤ b8 := Nat.le_trans Kp.1 (Nat.le_of_eq g8.symm)
  have Zs : n0 ≤ h8.size := Nat.le_trans Zs E8.1
  have Kp : Keep h0 h8 [] := Kp.ext E8
  have E_b8 : Exa Z h8 b8 "com/example/regolo/regolo/engine/Work" := A8
  have F_left_b8 : Fld Z h8 b8 "com/example/regolo/regolo/engine/Work" "left" "J" (.long (0 : Int64)) := D8 (Or.inl (hw _ (List.mem_of_getElem? (i := 18) rfl))) (ty := .long) (by decide)
  have F_whole_b8 : Fld Z h8 b8 "com/example/regolo/regolo/engine/Work" "whole" "Lcom/example/regolo/regolo/engine/Work;" .null := D8 (Or.inr (hw _ (List.mem_of_getElem? (i := 20) rfl))) (ty := (.object "com/example/regolo/regolo/engine/Work")) (by decide)
  obtain ⟨_, _, ⟨T9, L9, k9, n9⟩, -, X9, ⟨Lc9, hQ9, l9, y9, z9⟩, st9⟩ := X8.specialBack hx (y := (⟨"com/example/regolo/regolo/engine/Work", "<init>", "(JLcom/example/regolo/regolo/engine/Work;)V"⟩ : MethodName)) rfl hown (mvT hZ (hw _ (List.mem_of_getElem? (i := 11) rfl))) (mvT hZ (hw _ (List.mem_of_getElem? (i := 12) rfl))) (mvT hZ (hw _ (List.mem_of_getElem? (i := 13) rfl))) (by decide) (backOf (W := 1) (rmI1 l Z a0 hw [] b8 q2 a1 (0 : Int64) h8 n0 Zs E_b8 F_left_b8 F_whole_b8 g_b8) hZ (hw _ (List.mem_of_getElem? (i := 13) rfl)) (hw _ (List.mem_of_getElem? (i := 7) rfl)) (by decide) (by decide)) (g := (mkF m 6 #[.val (.ref a1), .val (.long q2), .second] [(.ref a1), (.long q2), (.ref b8), (.ref b8)])) rfl (by rw [hml]; rfl) (Steps.refl _) (a := b8) (argsL := [(.long q2), (.ref a1)]) (rest := [(.ref b8)]) (lenOf pd_0 rfl) rfl (by show 2 * 0 + _ ≤ _; exact Nat.le_of_eq rfl) (hb hby d5_6) (fun _ _ => ⟨rfl, e8, (by decide : 1 + 0 ≤ _), (by decide : 2 + 0 ≤ _)⟩)
  dsimp only [Pt.U, Pt.locs, Pt.cells, Pt.slots] at X9 l9 y9 z9 st9 hQ9
  subst l9 y9 z9
  obtain ⟨rfl, N9q, K9, P9_1, P9_2⟩ := hQ9
  have Zs : n0 ≤ T9.heap.size := Nat.le_trans Zs K9.1
  have Kp : Keep h0 T9.heap [] := Kp.trans K9 (allS (Or.inr sz_b8) all0)
  have E_b8 : Exa Z T9.heap b8 "com/example/regolo/regolo/engine/Work" := E_b8.keep K9
  have F_left_b8 : Fld Z T9.heap b8 "com/example/regolo/regolo/engine/Work" "left" "J" (.long q2) := P9_1
  have F_whole_b8 : Fld Z T9.heap b8 "com/example/regolo/regolo/engine/Work" "whole" "Lcom/example/regolo/regolo/engine/Work;" (.ref a1) := P9_2
  have N9 := Fr.app N0 N9q
  obtain ⟨fs, hr, hrun, hended, hW, hsame⟩ := X9.leave (v := some (.ref b8)) (fun h => by rw [Bd.returns] at h; cases h)
  refine ⟨_, _, pre0 _ ?_, hrun, hended, _, _, rfl, ?_, ⟨_, rfl⟩, hW, hsame.mono (by decide) (by decide)⟩
  · show Steps p.tables e below (s₁.setTop (mkF m 0 #[.val (.ref a1), .val (.long q2), .second] [])) _
    refine st8 _ ?_
    show Steps p.tables e below (T8.setTop (mkF m 3 #[.val (.ref a1), .val (.long q2), .second] [(.ref b8)])) _
    refine XS.dup X8.here hx rfl (hb hby d5_3) rfl rfl ?_
    show Steps p.tables e below (T8.setTop (mkF m 4 #[.val (.ref a1), .val (.long q2), .second] [(.ref b8), (.ref b8)])) _
    refine XS.lloadN X8.here hx rfl (hb hby d5_4) rfl ?_
    show Steps p.tables e below (T8.setTop (mkF m 5 #[.val (.ref a1), .val (.long q2), .second] [(.long q2), (.ref b8), (.ref b8)])) _
    refine XS.aloadN X8.here hx rfl (hb hby d5_5) rfl rfl ?_
    show Steps p.tables e below (T8.setTop (mkF m 6 #[.val (.ref a1), .val (.long q2), .second] [(.ref a1), (.long q2), (.ref b8), (.ref b8)])) _
    refine st9.trans ?_
    show Steps p.tables e below (T9.setTop (mkF m 9 #[.val (.ref a1), .val (.long q2), .second] [(.ref b8)])) _
    exact retOut X9 hx Bd.returns rfl (Or.inr (Or.inr (Or.inr (Or.inr ⟨rfl, rfl, rfl⟩)))) (hb hby d5_9) hr
  · show QP Z a1 q2 h0 n0 _ T9.heap _
    exact ⟨b8, rfl, N9, Kp, sz_b8, g_b8, E_b8, F_left_b8, F_whole_b8⟩
def QS0 (Z : State) (a1 : Addr) (q2 : Int64) (w1 : Int64) (h0 : Heap) (n0 : Nat) (v : Option Value) (h : Heap) (L : List Loc) : Prop := v = none ∧ Fr n0 L ∧ (Keep h0 h [a1]) ∧ (Fld Z h a1 "com/example/regolo/regolo/engine/Work" "left" "J" (.long (w1 - q2))) ∧ (Fld Z h a1 "com/example/regolo/regolo/engine/Work" "whole" "Lcom/example/regolo/regolo/engine/Work;" .null)
theorem ef_S0 (m : MethodId) (a1 : Addr) (q2 : Int64) : entryFrame m #[(.ref a1), (.long q2)] 3 = mkF m 0 #[.val (.ref a1), .val (.long q2), .second] [] := by first | (simp [entryFrame, mkF, argsToLocals, Value.category]; done) | rfl
set_option maxRecDepth 65536 in
set_option maxHeartbeats 40000000 in
theorem rmS0 (l : Launch) (Z : State) (a0 : Array Value) (hw : ∀ d ∈ tables_1, d.before a0 Z = true) (ws : List Jvm.Cond) (a1 : Addr) (q2 : Int64) (w1 : Int64) (h0 : Heap) (n0 : Nat) (Zs : n0 ≤ h0.size) (E_a1 : Exa Z h0 a1 "com/example/regolo/regolo/engine/Work") (F_left_a1 : Fld Z h0 a1 "com/example/regolo/regolo/engine/Work" "left" "J" (.long w1)) (F_whole_a1 : Fld Z h0 a1 "com/example/regolo/regolo/engine/Work" "whole" "Lcom/example/regolo/regolo/engine/Work;" .null) (g_a1 : n0 ≤ a1) :
    MetFree l (⟨"com/example/regolo/regolo/engine/Work", "spend", "(J)V"⟩ : MethodName) (head1 (Jvm.Cond.code (⟨"com/example/regolo/regolo/engine/Work", "spend", "(J)V"⟩ : MethodName) prog_77_method_4_code 3 none :: ws) ({ frames := 0, cells := 0, slots := 0, locals := 0 } : Room)) (fun a U => a = #[(.ref a1), (.long q2)] ∧ Z.Warmed39 U.vm ∧ U.heap = h0) (fun _ _ _ _ _ => True) (fun _ U o U' => ∃ v L, o = .returned v ∧ QS0 Z a1 q2 w1 h0 n0 v U'.heap L ∧ FrameEnd U o U' L ({ frames := 0, cells := 0, slots := 0, locals := 0 } : Room).cells ({ frames := 0, cells := 0, slots := 0, locals := 0 } : Room).slots) := by
  refine MetFree.of_bodySF (plainFor_of_name pn_0) hisR ?_
  intro p e s m args below meth c s₁ Bd hml0 hP hK
  obtain ⟨rfl, hZ, hh⟩ := hP
  have hx := Bd.exec
  have hby := Bd.bytes
  have hml : c.maxLocals = 3 := hml0
  have hown : s.vm.findClass "com/example/regolo/regolo/engine/Work" = some m.cls := findClass_of_methodNamed Bd.named
  have hnm := (name_of_methodNamed Bd.named Bd.method).1
  have X0 : Stand p l e ({ frames := 0, cells := 0, slots := 0, locals := 0 } : Room) s m #[(.ref a1), (.long q2)] below meth c s₁ [] 0 0 := Stand.of_body Bd
  have e0 : s₁.heap = h0 := by rw [← hh, Bd.state]; rfl
  have N0 := Fr.nil n0
  have pre0 : ∀ t, Steps p.tables e below (s₁.setTop (mkF m 0 #[.val (.ref a1), .val (.long q2), .second] [])) t → Steps p.tables e below (s₁.setTop (entryFrame m #[(.ref a1), (.long q2)] 3)) t := fun t k => castTop (ef_S0 m a1 q2) k
  have Kp : Keep h0 h0 [a1] := Keep.refl h0 [a1]
  obtain ⟨T10, X10, e10, st10⟩ := getF X0 hx hZ hown (host := "") (Or.inl (hw _ (List.mem_of_getElem? (i := 17) rfl))) Via.refl e0 F_left_a1 (g := (mkF m 2 #[.val (.ref a1), .val (.long q2), .second] [(.ref a1), (.ref a1)])) rfl rfl (hb hby d8_2)
  obtain ⟨T11, h11, X11, e11, W11, st11⟩ := putF X10 hx hZ hown (host := "") (Or.inl (hw _ (List.mem_of_getElem? (i := 17) rfl))) Via.refl e10 F_left_a1 E_a1 (Or.inl (hw _ (List.mem_of_getElem? (i := 18) rfl))) (hw _ (List.mem_of_getElem? (i := 6) rfl)) (ty := .long) (by decide) rfl rfl (g := (mkF m 7 #[.val (.ref a1), .val (.long q2), .second] [(.long (w1 - q2)), (.ref a1)])) rfl rfl (hb hby d8_7)
  have N11 := Fr.snoc X11 N0 g_a1
  have Zs : n0 ≤ h11.size := Nat.le_trans Zs (Keep.of_wr W11).1
  have E_a1 : Exa Z h11 a1 "com/example/regolo/regolo/engine/Work" := E_a1.wr W11
  have F_left_a1 : Fld Z h11 a1 "com/example/regolo/regolo/engine/Work" "left" "J" (.long (w1 - q2)) := F_left_a1.same W11
  have F_whole_a1 : Fld Z h11 a1 "com/example/regolo/regolo/engine/Work" "whole" "Lcom/example/regolo/regolo/engine/Work;" .null := F_whole_a1.other W11 (Or.inr (slot_ne (Or.inr (hw _ (List.mem_of_getElem? (i := 20) rfl))) (Or.inl (hw _ (List.mem_of_getElem? (i := 18) rfl))) (by decide) (t := (.object "com/example/regolo/regolo/engine/Work")) (t' := .long) (by decide) (by decide)))
  have Kp : Keep h0 h11 [a1] := Kp.wr W11 (Or.inl (List.mem_of_getElem? (i := 0) rfl))
  obtain ⟨T12, X12, e12, st12⟩ := getF X11 hx hZ hown (host := "") (Or.inl (hw _ (List.mem_of_getElem? (i := 19) rfl))) Via.refl e11 F_whole_a1 (g := (mkF m 11 #[.val (.ref a1), .val (.long q2), .second] [(.ref a1)])) rfl rfl (hb hby d8_11)
  obtain ⟨fs, hr, hrun, hended, hW, hsame⟩ := X12.leave (v := none) (fun _ => rfl)
  refine ⟨_, _, pre0 _ ?_, hrun, hended, _, _, rfl, ?_, ⟨_, rfl⟩, hW, hsame.mono (by decide) (by decide)⟩
  · show Steps p.tables e below (s₁.setTop (mkF m 0 #[.val (.ref a1), .val (.long q2), .second] [])) _
    refine XS.aloadN X0.here hx rfl (hb hby d8_0) rfl rfl ?_
    show Steps p.tables e below (s₁.setTop (mkF m 1 #[.val (.ref a1), .val (.long q2), .second] [(.ref a1)])) _
    refine XS.dup X0.here hx rfl (hb hby d8_1) rfl rfl ?_
    show Steps p.tables e below (s₁.setTop (mkF m 2 #[.val (.ref a1), .val (.long q2), .second] [(.ref a1), (.ref a1)])) _
    refine st10 _ ?_
    show Steps p.tables e below (T10.setTop (mkF m 5 #[.val (.ref a1), .val (.long q2), .second] [(.long w1), (.ref a1)])) _
    refine XS.lloadN X10.here hx rfl (hb hby d8_5) rfl ?_
    show Steps p.tables e below (T10.setTop (mkF m 6 #[.val (.ref a1), .val (.long q2), .second] [(.long q2), (.long w1), (.ref a1)])) _
    refine XS.lsub X10.here hx rfl (hb hby d8_6) rfl ?_
    show Steps p.tables e below (T10.setTop (mkF m 7 #[.val (.ref a1), .val (.long q2), .second] [(.long (w1 - q2)), (.ref a1)])) _
    refine st11 _ ?_
    show Steps p.tables e below (T11.setTop (mkF m 10 #[.val (.ref a1), .val (.long q2), .second] [])) _
    refine XS.aloadN X11.here hx rfl (hb hby d8_10) rfl rfl ?_
    show Steps p.tables e below (T11.setTop (mkF m 11 #[.val (.ref a1), .val (.long q2), .second] [(.ref a1)])) _
    refine st12 _ ?_
    show Steps p.tables e below (T12.setTop (mkF m 14 #[.val (.ref a1), .val (.long q2), .second] [.null])) _
    refine XS.ifnullYes X12.here hx rfl (pc0 := 14) (pc' := 25) rfl (hb hby d8_14) rfl (by decide) (by decide) ?_
    show Steps p.tables e below (T12.setTop (mkF m 25 #[.val (.ref a1), .val (.long q2), .second] [])) _
    exact X12.returnOut hx Bd.returns (hb hby d8_25) hr
  · show QS0 Z a1 q2 w1 h0 n0 _ T12.heap _
    rw [e12]
    exact ⟨rfl, N11, Kp, F_left_a1, F_whole_a1⟩
def QS1 (Z : State) (a1 : Addr) (q2 : Int64) (w1 : Int64) (a3 : Addr) (w3 : Int64) (h0 : Heap) (n0 : Nat) (v : Option Value) (h : Heap) (L : List Loc) : Prop := v = none ∧ Fr n0 L ∧ (Keep h0 h [a1, a3]) ∧ (Fld Z h a1 "com/example/regolo/regolo/engine/Work" "left" "J" (.long (w1 - q2))) ∧ (Fld Z h a1 "com/example/regolo/regolo/engine/Work" "whole" "Lcom/example/regolo/regolo/engine/Work;" (.ref a3)) ∧ (Fld Z h a3 "com/example/regolo/regolo/engine/Work" "left" "J" (.long (w3 - q2))) ∧ (Fld Z h a3 "com/example/regolo/regolo/engine/Work" "whole" "Lcom/example/regolo/regolo/engine/Work;" .null)
theorem ef_S1 (m : MethodId) (a1 : Addr) (q2 : Int64) : entryFrame m #[(.ref a1), (.long q2)] 3 = mkF m 0 #[.val (.ref a1), .val (.long q2), .second] [] := by first | (simp [entryFrame, mkF, argsToLocals, Value.category]; done) | rfl
set_option maxRecDepth 65536 in
set_option maxHeartbeats 40000000 in
theorem rmS1 (l : Launch) (Z : State) (a0 : Array Value) (hw : ∀ d ∈ tables_1, d.before a0 Z = true) (ws : List Jvm.Cond) (a1 : Addr) (q2 : Int64) (w1 : Int64) (a3 : Addr) (w3 : Int64) (h0 : Heap) (n0 : Nat) (Zs : n0 ≤ h0.size) (E_a1 : Exa Z h0 a1 "com/example/regolo/regolo/engine/Work") (F_left_a1 : Fld Z h0 a1 "com/example/regolo/regolo/engine/Work" "left" "J" (.long w1)) (F_whole_a1 : Fld Z h0 a1 "com/example/regolo/regolo/engine/Work" "whole" "Lcom/example/regolo/regolo/engine/Work;" (.ref a3)) (g_a1 : n0 ≤ a1) (E_a3 : Exa Z h0 a3 "com/example/regolo/regolo/engine/Work") (F_left_a3 : Fld Z h0 a3 "com/example/regolo/regolo/engine/Work" "left" "J" (.long w3)) (F_whole_a3 : Fld Z h0 a3 "com/example/regolo/regolo/engine/Work" "whole" "Lcom/example/regolo/regolo/engine/Work;" .null) (g_a3 : n0 ≤ a3) (ne_a1_a3 : a1 ≠ a3) :
    MetFree l (⟨"com/example/regolo/regolo/engine/Work", "spend", "(J)V"⟩ : MethodName) (head1 (Jvm.Cond.code (⟨"com/example/regolo/regolo/engine/Work", "spend", "(J)V"⟩ : MethodName) prog_77_method_4_code 3 none :: ws) ({ frames := 1, cells := 0, slots := 0, locals := 14 } : Room)) (fun a U => a = #[(.ref a1), (.long q2)] ∧ Z.Warmed39 U.vm ∧ U.heap = h0) (fun _ _ _ _ _ => True) (fun _ U o U' => ∃ v L, o = .returned v ∧ QS1 Z a1 q2 w1 a3 w3 h0 n0 v U'.heap L ∧ FrameEnd U o U' L ({ frames := 1, cells := 0, slots := 0, locals := 14 } : Room).cells ({ frames := 1, cells := 0, slots := 0, locals := 14 } : Room).slots) := by
  refine MetFree.of_bodySF (plainFor_of_name pn_0) hisR ?_
  intro p e s m args below meth c s₁ Bd hml0 hP hK
  obtain ⟨rfl, hZ, hh⟩ := hP
  have hx := Bd.exec
  have hby := Bd.bytes
  have hml : c.maxLocals = 3 := hml0
  have hown : s.vm.findClass "com/example/regolo/regolo/engine/Work" = some m.cls := findClass_of_methodNamed Bd.named
  have hnm := (name_of_methodNamed Bd.named Bd.method).1
  have X0 : Stand p l e ({ frames := 1, cells := 0, slots := 0, locals := 14 } : Room) s m #[(.ref a1), (.long q2)] below meth c s₁ [] 0 0 := Stand.of_body Bd
  have e0 : s₁.heap = h0 := by rw [← hh, Bd.state]; rfl
  have N0 := Fr.nil n0
  have pre0 : ∀ t, Steps p.tables e below (s₁.setTop (mkF m 0 #[.val (.ref a1), .val (.long q2), .second] [])) t → Steps p.tables e below (s₁.setTop (entryFrame m #[(.ref a1), (.long q2)] 3)) t := fun t k => castTop (ef_S1 m a1 q2) k
  have Kp : Keep h0 h0 [a1, a3] := Keep.refl h0 [a1, a3]
  obtain ⟨T13, X13, e13, st13⟩ := getF X0 hx hZ hown (host := "") (Or.inl (hw _ (List.mem_of_getElem? (i := 17) rfl))) Via.refl e0 F_left_a1 (g := (mkF m 2 #[.val (.ref a1), .val (.long q2), .second] [(.ref a1), (.ref a1)])) rfl rfl (hb hby d8_2)
  obtain ⟨T14, h14, X14, e14, W14, st14⟩ := putF X13 hx hZ hown (host := "") (Or.inl (hw _ (List.mem_of_getElem? (i := 17) rfl))) Via.refl e13 F_left_a1 E_a1 (Or.inl (hw _ (List.mem_of_getElem? (i := 18) rfl))) (hw _ (List.mem_of_getElem? (i := 6) rfl)) (ty := .long) (by decide) rfl rfl (g := (mkF m 7 #[.val (.ref a1), .val (.long q2), .second] [(.long (w1 - q2)), (.ref a1)])) rfl rfl (hb hby d8_7)
  have N14 := Fr.snoc X14 N0 g_a1
  have Zs : n0 ≤ h14.size := Nat.le_trans Zs (Keep.of_wr W14).1
  have E_a1 : Exa Z h14 a1 "com/example/regolo/regolo/engine/Work" := E_a1.wr W14
  have F_left_a1 : Fld Z h14 a1 "com/example/regolo/regolo/engine/Work" "left" "J" (.long (w1 - q2)) := F_left_a1.same W14
  have F_whole_a1 : Fld Z h14 a1 "com/example/regolo/regolo/engine/Work" "whole" "Lcom/example/regolo/regolo/engine/Work;" (.ref a3) := F_whole_a1.other W14 (Or.inr (slot_ne (Or.inr (hw _ (List.mem_of_getElem? (i := 20) rfl))) (Or.inl (hw _ (List.mem_of_getElem? (i := 18) rfl))) (by decide) (t := (.object "com/example/regolo/regolo/engine/Work")) (t' := .long) (by decide) (by decide)))
  have E_a3 : Exa Z h14 a3 "com/example/regolo/regolo/engine/Work" := E_a3.wr W14
  have F_left_a3 : Fld Z h14 a3 "com/example/regolo/regolo/engine/Work" "left" "J" (.long w3) := F_left_a3.other W14 (Or.inl (Ne.symm ne_a1_a3))
  have F_whole_a3 : Fld Z h14 a3 "com/example/regolo/regolo/engine/Work" "whole" "Lcom/example/regolo/regolo/engine/Work;" .null := F_whole_a3.other W14 (Or.inl (Ne.symm ne_a1_a3))
  have Kp : Keep h0 h14 [a1, a3] := Kp.wr W14 (Or.inl (List.mem_of_getElem? (i := 0) rfl))
  obtain ⟨T15, X15, e15, st15⟩ := getF X14 hx hZ hown (host := "") (Or.inl (hw _ (List.mem_of_getElem? (i := 19) rfl))) Via.refl e14 F_whole_a1 (g := (mkF m 11 #[.val (.ref a1), .val (.long q2), .second] [(.ref a1)])) rfl rfl (hb hby d8_11)
  obtain ⟨T16, X16, e16, st16⟩ := getF X15 hx hZ hown (host := "") (Or.inl (hw _ (List.mem_of_getElem? (i := 19) rfl))) Via.refl e15 F_whole_a1 (g := (mkF m 18 #[.val (.ref a1), .val (.long q2), .second] [(.ref a1)])) rfl rfl (hb hby d8_18)
  obtain ⟨cq17, kq17, q17a, q17b, q17c⟩ := isOf hZ e16 E_a3
  obtain ⟨_, _, ⟨T17, L17, k17, n17⟩, -, X17, ⟨Lc17, hQ17, l17, y17, z17⟩, st17⟩ := X16.virtualBack hx (y := (⟨"com/example/regolo/regolo/engine/Work", "spend", "(J)V"⟩ : MethodName)) (z := (⟨"com/example/regolo/regolo/engine/Work", "spend", "(J)V"⟩ : MethodName)) hown (mvT hZ (hw _ (List.mem_of_getElem? (i := 41) rfl))) (mvT hZ (hw _ (List.mem_of_getElem? (i := 37) rfl))) (notFace_of_selects (args := #[]) (mvT hZ (hw _ (List.mem_of_getElem? (i := 39) rfl)))) (mvT hZ (hw _ (List.mem_of_getElem? (i := 39) rfl))) (mvT hZ (hw _ (List.mem_of_getElem? (i := 38) rfl))) (by decide) (backOf (W := 0) (rmS0 l Z a0 hw [] a3 q2 w3 h14 n0 Zs E_a3 F_left_a3 F_whole_a3 g_a3) hZ (hw _ (List.mem_of_getElem? (i := 40) rfl)) (hw _ (List.mem_of_getElem? (i := 7) rfl)) (by decide) (by decide)) q17a q17c (g := (mkF m 22 #[.val (.ref a1), .val (.long q2), .second] [(.long q2), (.ref a3)])) rfl (by rw [hml]; rfl) (Steps.refl _) (argsL := [(.long q2)]) (rest := []) (lenOf pd_1 rfl) rfl (by show 2 * 0 + _ ≤ _; exact Nat.le_of_eq rfl) (hb hby d8_22) (fun _ _ => ⟨rfl, e16, (by decide : 0 + 0 ≤ _), (by decide : 0 + 0 ≤ _)⟩)
  dsimp only [Pt.U, Pt.locs, Pt.cells, Pt.slots] at X17 l17 y17 z17 st17 hQ17
  subst l17 y17 z17
  obtain ⟨rfl, N17q, K17, P17_1, P17_2⟩ := hQ17
  have Zs : n0 ≤ T17.heap.size := Nat.le_trans Zs K17.1
  have E_a1 : Exa Z T17.heap a1 "com/example/regolo/regolo/engine/Work" := E_a1.keep K17
  have F_left_a1 : Fld Z T17.heap a1 "com/example/regolo/regolo/engine/Work" "left" "J" (.long (w1 - q2)) := F_left_a1.keep K17 (ninS ne_a1_a3 nin0)
  have F_whole_a1 : Fld Z T17.heap a1 "com/example/regolo/regolo/engine/Work" "whole" "Lcom/example/regolo/regolo/engine/Work;" (.ref a3) := F_whole_a1.keep K17 (ninS ne_a1_a3 nin0)
  have E_a3 : Exa Z T17.heap a3 "com/example/regolo/regolo/engine/Work" := E_a3.keep K17
  have Kp : Keep h0 T17.heap [a1, a3] := Kp.trans K17 (allS (Or.inl (List.mem_of_getElem? (i := 1) rfl)) all0)
  have F_left_a3 : Fld Z T17.heap a3 "com/example/regolo/regolo/engine/Work" "left" "J" (.long (w3 - q2)) := P17_1
  have F_whole_a3 : Fld Z T17.heap a3 "com/example/regolo/regolo/engine/Work" "whole" "Lcom/example/regolo/regolo/engine/Work;" .null := P17_2
  have N17 := Fr.app N14 N17q
  obtain ⟨fs, hr, hrun, hended, hW, hsame⟩ := X17.leave (v := none) (fun _ => rfl)
  refine ⟨_, _, pre0 _ ?_, hrun, hended, _, _, rfl, ?_, ⟨_, rfl⟩, hW, hsame.mono (by decide) (by decide)⟩
  · show Steps p.tables e below (s₁.setTop (mkF m 0 #[.val (.ref a1), .val (.long q2), .second] [])) _
    refine XS.aloadN X0.here hx rfl (hb hby d8_0) rfl rfl ?_
    show Steps p.tables e below (s₁.setTop (mkF m 1 #[.val (.ref a1), .val (.long q2), .second] [(.ref a1)])) _
    refine XS.dup X0.here hx rfl (hb hby d8_1) rfl rfl ?_
    show Steps p.tables e below (s₁.setTop (mkF m 2 #[.val (.ref a1), .val (.long q2), .second] [(.ref a1), (.ref a1)])) _
    refine st13 _ ?_
    show Steps p.tables e below (T13.setTop (mkF m 5 #[.val (.ref a1), .val (.long q2), .second] [(.long w1), (.ref a1)])) _
    refine XS.lloadN X13.here hx rfl (hb hby d8_5) rfl ?_
    show Steps p.tables e below (T13.setTop (mkF m 6 #[.val (.ref a1), .val (.long q2), .second] [(.long q2), (.long w1), (.ref a1)])) _
    refine XS.lsub X13.here hx rfl (hb hby d8_6) rfl ?_
    show Steps p.tables e below (T13.setTop (mkF m 7 #[.val (.ref a1), .val (.long q2), .second] [(.long (w1 - q2)), (.ref a1)])) _
    refine st14 _ ?_
    show Steps p.tables e below (T14.setTop (mkF m 10 #[.val (.ref a1), .val (.long q2), .second] [])) _
    refine XS.aloadN X14.here hx rfl (hb hby d8_10) rfl rfl ?_
    show Steps p.tables e below (T14.setTop (mkF m 11 #[.val (.ref a1), .val (.long q2), .second] [(.ref a1)])) _
    refine st15 _ ?_
    show Steps p.tables e below (T15.setTop (mkF m 14 #[.val (.ref a1), .val (.long q2), .second] [(.ref a3)])) _
    refine XS.ifnullNo X15.here hx rfl (hb hby d8_14) rfl ?_
    show Steps p.tables e below (T15.setTop (mkF m 17 #[.val (.ref a1), .val (.long q2), .second] [])) _
    refine XS.aloadN X15.here hx rfl (hb hby d8_17) rfl rfl ?_
    show Steps p.tables e below (T15.setTop (mkF m 18 #[.val (.ref a1), .val (.long q2), .second] [(.ref a1)])) _
    refine st16 _ ?_
    show Steps p.tables e below (T16.setTop (mkF m 21 #[.val (.ref a1), .val (.long q2), .second] [(.ref a3)])) _
    refine XS.lloadN X16.here hx rfl (hb hby d8_21) rfl ?_
    show Steps p.tables e below (T16.setTop (mkF m 22 #[.val (.ref a1), .val (.long q2), .second] [(.long q2), (.ref a3)])) _
    refine st17.trans ?_
    show Steps p.tables e below (T17.setTop (mkF m 25 #[.val (.ref a1), .val (.long q2), .second] [])) _
    exact X17.returnOut hx Bd.returns (hb hby d8_25) hr
  · show QS1 Z a1 q2 w1 a3 w3 h0 n0 _ T17.heap _
    exact ⟨rfl, N17, Kp, F_left_a1, F_whole_a1, F_left_a3, F_whole_a3⟩
def QT0 (Z : State) (a1 : Addr) (w1 : Int64) (h0 : Heap) (n0 : Nat) (v : Option Value) (h : Heap) (L : List Loc) : Prop := v = some (.int (fT0 w1)) ∧ Fr n0 L ∧ h = h0
theorem ef_T0 (m : MethodId) (a1 : Addr) : entryFrame m #[(.ref a1)] 1 = mkF m 0 #[.val (.ref a1)] [] := by first | (simp [entryFrame, mkF, argsToLocals, Value.category]; done) | rfl
set_option maxRecDepth 65536 in
set_option maxHeartbeats 40000000 in
theorem rmT0 (l : Launch) (Z : State) (a0 : Array Value) (hw : ∀ d ∈ tables_1, d.before a0 Z = true) (ws : List Jvm.Cond) (a1 : Addr) (w1 : Int64) (h0 : Heap) (n0 : Nat) (Zs : n0 ≤ h0.size) (F_left_a1 : Fld Z h0 a1 "com/example/regolo/regolo/engine/Work" "left" "J" (.long w1)) (F_whole_a1 : Fld Z h0 a1 "com/example/regolo/regolo/engine/Work" "whole" "Lcom/example/regolo/regolo/engine/Work;" .null) :
    MetFree l (⟨"com/example/regolo/regolo/engine/Work", "spent", "()Z"⟩ : MethodName) (head1 (Jvm.Cond.code (⟨"com/example/regolo/regolo/engine/Work", "spent", "()Z"⟩ : MethodName) prog_77_method_5_code 1 (some .boolean) :: ws) ({ frames := 0, cells := 0, slots := 0, locals := 0 } : Room)) (fun a U => a = #[(.ref a1)] ∧ Z.Warmed39 U.vm ∧ U.heap = h0) (fun _ _ _ _ _ => True) (fun _ U o U' => ∃ v L, o = .returned v ∧ QT0 Z a1 w1 h0 n0 v U'.heap L ∧ FrameEnd U o U' L ({ frames := 0, cells := 0, slots := 0, locals := 0 } : Room).cells ({ frames := 0, cells := 0, slots := 0, locals := 0 } : Room).slots) := by
  refine MetFree.of_bodySF (plainFor_of_name pn_0) hisR ?_
  intro p e s m args below meth c s₁ Bd hml0 hP hK
  obtain ⟨rfl, hZ, hh⟩ := hP
  have hx := Bd.exec
  have hby := Bd.bytes
  have hml : c.maxLocals = 1 := hml0
  have hown : s.vm.findClass "com/example/regolo/regolo/engine/Work" = some m.cls := findClass_of_methodNamed Bd.named
  have hnm := (name_of_methodNamed Bd.named Bd.method).1
  have X0 : Stand p l e ({ frames := 0, cells := 0, slots := 0, locals := 0 } : Room) s m #[(.ref a1)] below meth c s₁ [] 0 0 := Stand.of_body Bd
  have e0 : s₁.heap = h0 := by rw [← hh, Bd.state]; rfl
  have N0 := Fr.nil n0
  have pre0 : ∀ t, Steps p.tables e below (s₁.setTop (mkF m 0 #[.val (.ref a1)] [])) t → Steps p.tables e below (s₁.setTop (entryFrame m #[(.ref a1)] 1)) t := fun t k => castTop (ef_T0 m a1) k
  obtain ⟨T18, X18, e18, st18⟩ := getF X0 hx hZ hown (host := "") (Or.inl (hw _ (List.mem_of_getElem? (i := 17) rfl))) Via.refl e0 F_left_a1 (g := (mkF m 1 #[.val (.ref a1)] [(.ref a1)])) rfl rfl (hb hby d6_1)
  have pre19 : ∀ t, Steps p.tables e below (T18.setTop (mkF m 6 #[.val (.ref a1)] [(.int (lcmpW w1 (0 : Int64)))])) t → Steps p.tables e below (s₁.setTop (entryFrame m #[(.ref a1)] 1)) t := fun t k => pre0 t (by
    show Steps p.tables e below (s₁.setTop (mkF m 0 #[.val (.ref a1)] [])) _
    refine XS.aloadN X0.here hx rfl (hb hby d6_0) rfl rfl ?_
    show Steps p.tables e below (s₁.setTop (mkF m 1 #[.val (.ref a1)] [(.ref a1)])) _
    refine st18 _ ?_
    show Steps p.tables e below (T18.setTop (mkF m 4 #[.val (.ref a1)] [(.long w1)])) _
    refine XS.lconst X18.here hx rfl (hb hby d6_4) ?_
    show Steps p.tables e below (T18.setTop (mkF m 5 #[.val (.ref a1)] [(.long (0 : Int64)), (.long w1)])) _
    refine XS.lcmp X18.here hx rfl (hb hby d6_5) rfl ?_
    exact k)
  by_cases hc6 : (0 : Int64) < w1
  ·
    obtain ⟨T20, X20, e20, st20⟩ := getF X18 hx hZ hown (host := "") (Or.inl (hw _ (List.mem_of_getElem? (i := 19) rfl))) Via.refl e18 F_whole_a1 (g := (mkF m 10 #[.val (.ref a1)] [(.ref a1)])) rfl rfl (hb hby d6_10)
    obtain ⟨fs, hr, hrun, hended, hW, hsame⟩ := X20.leave (v := some (.int (0 : Int32))) (fun h => by rw [Bd.returns] at h; cases h)
    refine ⟨_, _, pre19 _ ?_, hrun, hended, _, _, rfl, ?_, ⟨_, rfl⟩, hW, hsame.mono (by decide) (by decide)⟩
    · show Steps p.tables e below (T18.setTop (mkF m 6 #[.val (.ref a1)] [(.int (lcmpW w1 (0 : Int64)))])) _
      refine XS.ifNo X18.here hx rfl (hb hby d6_6) rfl ((if0 _ _).trans (tlt ((lw_gt w1 (0 : Int64)).mpr hc6)).2.2.2) ?_
      show Steps p.tables e below (T18.setTop (mkF m 9 #[.val (.ref a1)] [])) _
      refine XS.aloadN X18.here hx rfl (hb hby d6_9) rfl rfl ?_
      show Steps p.tables e below (T18.setTop (mkF m 10 #[.val (.ref a1)] [(.ref a1)])) _
      refine st20 _ ?_
      show Steps p.tables e below (T20.setTop (mkF m 13 #[.val (.ref a1)] [.null])) _
      refine XS.ifnullYes X20.here hx rfl (pc0 := 13) (pc' := 30) rfl (hb hby d6_13) rfl (by decide) (by decide) ?_
      show Steps p.tables e below (T20.setTop (mkF m 30 #[.val (.ref a1)] [])) _
      refine XS.iconst X20.here hx rfl (hb hby d6_30) ?_
      show Steps p.tables e below (T20.setTop (mkF m 31 #[.val (.ref a1)] [(.int (0 : Int32))])) _
      exact retN X20 hx (t := .boolean) Bd.returns (by simp) (hb hby d6_31) hr
    · show QT0 Z a1 w1 h0 n0 _ T20.heap _
      rw [e20]
      exact ⟨congrArg some (congrArg Value.int (show (0 : Int32) = (fT0 w1) from by rw [fT0, if_pos hc6])), N0, rfl⟩
  ·
    obtain ⟨fs, hr, hrun, hended, hW, hsame⟩ := X18.leave (v := some (.int (1 : Int32))) (fun h => by rw [Bd.returns] at h; cases h)
    refine ⟨_, _, pre19 _ ?_, hrun, hended, _, _, rfl, ?_, ⟨_, rfl⟩, hW, hsame.mono (by decide) (by decide)⟩
    · show Steps p.tables e below (T18.setTop (mkF m 6 #[.val (.ref a1)] [(.int (lcmpW w1 (0 : Int64)))])) _
      refine XS.ifYes X18.here hx rfl (pc0 := 6) (pc' := 26) rfl (hb hby d6_6) rfl ((if0 _ _).trans (flt (fun q => hc6 ((lw_gt w1 (0 : Int64)).mp q))).2.2.2) (by decide) (by decide) ?_
      show Steps p.tables e below (T18.setTop (mkF m 26 #[.val (.ref a1)] [])) _
      refine XS.iconst X18.here hx rfl (hb hby d6_26) ?_
      show Steps p.tables e below (T18.setTop (mkF m 27 #[.val (.ref a1)] [(.int (1 : Int32))])) _
      refine XS.goto X18.here hx rfl (pc0 := 27) (pc' := 31) rfl (hb hby d6_27) (by decide) (by decide) ?_
      show Steps p.tables e below (T18.setTop (mkF m 31 #[.val (.ref a1)] [(.int (1 : Int32))])) _
      exact retN X18 hx (t := .boolean) Bd.returns (by simp) (hb hby d6_31) hr
    · show QT0 Z a1 w1 h0 n0 _ T18.heap _
      rw [e18]
      exact ⟨congrArg some (congrArg Value.int (show (1 : Int32) = (fT0 w1) from by rw [fT0, if_neg hc6])), N0, rfl⟩
def QT1 (Z : State) (a1 : Addr) (w1 : Int64) (a3 : Addr) (w3 : Int64) (h0 : Heap) (n0 : Nat) (v : Option Value) (h : Heap) (L : List Loc) : Prop := v = some (.int (fT1 w1 w3)) ∧ Fr n0 L ∧ h = h0
theorem ef_T1 (m : MethodId) (a1 : Addr) : entryFrame m #[(.ref a1)] 1 = mkF m 0 #[.val (.ref a1)] [] := by first | (simp [entryFrame, mkF, argsToLocals, Value.category]; done) | rfl
set_option maxRecDepth 65536 in
set_option maxHeartbeats 40000000 in
theorem rmT1 (l : Launch) (Z : State) (a0 : Array Value) (hw : ∀ d ∈ tables_1, d.before a0 Z = true) (ws : List Jvm.Cond) (a1 : Addr) (w1 : Int64) (a3 : Addr) (w3 : Int64) (h0 : Heap) (n0 : Nat) (Zs : n0 ≤ h0.size) (F_left_a1 : Fld Z h0 a1 "com/example/regolo/regolo/engine/Work" "left" "J" (.long w1)) (F_whole_a1 : Fld Z h0 a1 "com/example/regolo/regolo/engine/Work" "whole" "Lcom/example/regolo/regolo/engine/Work;" (.ref a3)) (E_a3 : Exa Z h0 a3 "com/example/regolo/regolo/engine/Work") (F_left_a3 : Fld Z h0 a3 "com/example/regolo/regolo/engine/Work" "left" "J" (.long w3)) (F_whole_a3 : Fld Z h0 a3 "com/example/regolo/regolo/engine/Work" "whole" "Lcom/example/regolo/regolo/engine/Work;" .null) :
    MetFree l (⟨"com/example/regolo/regolo/engine/Work", "spent", "()Z"⟩ : MethodName) (head1 (Jvm.Cond.code (⟨"com/example/regolo/regolo/engine/Work", "spent", "()Z"⟩ : MethodName) prog_77_method_5_code 1 (some .boolean) :: ws) ({ frames := 1, cells := 0, slots := 0, locals := 12 } : Room)) (fun a U => a = #[(.ref a1)] ∧ Z.Warmed39 U.vm ∧ U.heap = h0) (fun _ _ _ _ _ => True) (fun _ U o U' => ∃ v L, o = .returned v ∧ QT1 Z a1 w1 a3 w3 h0 n0 v U'.heap L ∧ FrameEnd U o U' L ({ frames := 1, cells := 0, slots := 0, locals := 12 } : Room).cells ({ frames := 1, cells := 0, slots := 0, locals := 12 } : Room).slots) := by
  refine MetFree.of_bodySF (plainFor_of_name pn_0) hisR ?_
  intro p e s m args below meth c s₁ Bd hml0 hP hK
  obtain ⟨rfl, hZ, hh⟩ := hP
  have hx := Bd.exec
  have hby := Bd.bytes
  have hml : c.maxLocals = 1 := hml0
  have hown : s.vm.findClass "com/example/regolo/regolo/engine/Work" = some m.cls := findClass_of_methodNamed Bd.named
  have hnm := (name_of_methodNamed Bd.named Bd.method).1
  have X0 : Stand p l e ({ frames := 1, cells := 0, slots := 0, locals := 12 } : Room) s m #[(.ref a1)] below meth c s₁ [] 0 0 := Stand.of_body Bd
  have e0 : s₁.heap = h0 := by rw [← hh, Bd.state]; rfl
  have N0 := Fr.nil n0
  have pre0 : ∀ t, Steps p.tables e below (s₁.setTop (mkF m 0 #[.val (.ref a1)] [])) t → Steps p.tables e below (s₁.setTop (entryFrame m #[(.ref a1)] 1)) t := fun t k => castTop (ef_T1 m a1) k
  obtain ⟨T21, X21, e21, st21⟩ := getF X0 hx hZ hown (host := "") (Or.inl (hw _ (List.mem_of_getElem? (i := 17) rfl))) Via.refl e0 F_left_a1 (g := (mkF m 1 #[.val (.ref a1)] [(.ref a1)])) rfl rfl (hb hby d6_1)
  have pre22 : ∀ t, Steps p.tables e below (T21.setTop (mkF m 6 #[.val (.ref a1)] [(.int (lcmpW w1 (0 : Int64)))])) t → Steps p.tables e below (s₁.setTop (entryFrame m #[(.ref a1)] 1)) t := fun t k => pre0 t (by
    show Steps p.tables e below (s₁.setTop (mkF m 0 #[.val (.ref a1)] [])) _
    refine XS.aloadN X0.here hx rfl (hb hby d6_0) rfl rfl ?_
    show Steps p.tables e below (s₁.setTop (mkF m 1 #[.val (.ref a1)] [(.ref a1)])) _
    refine st21 _ ?_
    show Steps p.tables e below (T21.setTop (mkF m 4 #[.val (.ref a1)] [(.long w1)])) _
    refine XS.lconst X21.here hx rfl (hb hby d6_4) ?_
    show Steps p.tables e below (T21.setTop (mkF m 5 #[.val (.ref a1)] [(.long (0 : Int64)), (.long w1)])) _
    refine XS.lcmp X21.here hx rfl (hb hby d6_5) rfl ?_
    exact k)
  by_cases hc6 : (0 : Int64) < w1
  ·
    obtain ⟨T23, X23, e23, st23⟩ := getF X21 hx hZ hown (host := "") (Or.inl (hw _ (List.mem_of_getElem? (i := 19) rfl))) Via.refl e21 F_whole_a1 (g := (mkF m 10 #[.val (.ref a1)] [(.ref a1)])) rfl rfl (hb hby d6_10)
    obtain ⟨T24, X24, e24, st24⟩ := getF X23 hx hZ hown (host := "") (Or.inl (hw _ (List.mem_of_getElem? (i := 19) rfl))) Via.refl e23 F_whole_a1 (g := (mkF m 17 #[.val (.ref a1)] [(.ref a1)])) rfl rfl (hb hby d6_17)
    obtain ⟨cq25, kq25, q25a, q25b, q25c⟩ := isOf hZ e24 E_a3
    obtain ⟨_, _, ⟨T25, L25, k25, n25⟩, -, X25, ⟨Lc25, hQ25, l25, y25, z25⟩, st25⟩ := X24.virtualBack hx (y := (⟨"com/example/regolo/regolo/engine/Work", "spent", "()Z"⟩ : MethodName)) (z := (⟨"com/example/regolo/regolo/engine/Work", "spent", "()Z"⟩ : MethodName)) hown (mvT hZ (hw _ (List.mem_of_getElem? (i := 42) rfl))) (mvT hZ (hw _ (List.mem_of_getElem? (i := 28) rfl))) (notFace_of_selects (args := #[]) (mvT hZ (hw _ (List.mem_of_getElem? (i := 30) rfl)))) (mvT hZ (hw _ (List.mem_of_getElem? (i := 30) rfl))) (mvT hZ (hw _ (List.mem_of_getElem? (i := 29) rfl))) (by decide) (backOf (W := 0) (rmT0 l Z a0 hw [] a3 w3 h0 n0 Zs F_left_a3 F_whole_a3) hZ (hw _ (List.mem_of_getElem? (i := 31) rfl)) (hw _ (List.mem_of_getElem? (i := 7) rfl)) (by decide) (by decide)) q25a q25c (g := (mkF m 20 #[.val (.ref a1)] [(.ref a3)])) rfl (by rw [hml]; rfl) (Steps.refl _) (argsL := []) (rest := []) (lenOf pd_2 rfl) rfl (by show 2 * 0 + _ ≤ _; exact Nat.le_of_eq rfl) (hb hby d6_20) (fun _ _ => ⟨rfl, e24, (by decide : 0 + 0 ≤ _), (by decide : 0 + 0 ≤ _)⟩)
    dsimp only [Pt.U, Pt.locs, Pt.cells, Pt.slots] at X25 l25 y25 z25 st25 hQ25
    subst l25 y25 z25
    obtain ⟨rfl, N25q, e25⟩ := hQ25
    have N25 := Fr.app N0 N25q
    have pre26 : ∀ t, Steps p.tables e below (T25.setTop (mkF m 23 #[.val (.ref a1)] [(.int (fT0 w3))])) t → Steps p.tables e below (s₁.setTop (entryFrame m #[(.ref a1)] 1)) t := fun t k => pre22 t (by
      show Steps p.tables e below (T21.setTop (mkF m 6 #[.val (.ref a1)] [(.int (lcmpW w1 (0 : Int64)))])) _
      refine XS.ifNo X21.here hx rfl (hb hby d6_6) rfl ((if0 _ _).trans (tlt ((lw_gt w1 (0 : Int64)).mpr hc6)).2.2.2) ?_
      show Steps p.tables e below (T21.setTop (mkF m 9 #[.val (.ref a1)] [])) _
      refine XS.aloadN X21.here hx rfl (hb hby d6_9) rfl rfl ?_
      show Steps p.tables e below (T21.setTop (mkF m 10 #[.val (.ref a1)] [(.ref a1)])) _
      refine st23 _ ?_
      show Steps p.tables e below (T23.setTop (mkF m 13 #[.val (.ref a1)] [(.ref a3)])) _
      refine XS.ifnullNo X23.here hx rfl (hb hby d6_13) rfl ?_
      show Steps p.tables e below (T23.setTop (mkF m 16 #[.val (.ref a1)] [])) _
      refine XS.aloadN X23.here hx rfl (hb hby d6_16) rfl rfl ?_
      show Steps p.tables e below (T23.setTop (mkF m 17 #[.val (.ref a1)] [(.ref a1)])) _
      refine st24 _ ?_
      show Steps p.tables e below (T24.setTop (mkF m 20 #[.val (.ref a1)] [(.ref a3)])) _
      refine st25.trans ?_
      exact k)
    by_cases hc23 : (fT0 w3) = (0 : Int32)
    ·
      obtain ⟨fs, hr, hrun, hended, hW, hsame⟩ := X25.leave (v := some (.int (0 : Int32))) (fun h => by rw [Bd.returns] at h; cases h)
      refine ⟨_, _, pre26 _ ?_, hrun, hended, _, _, rfl, ?_, ⟨_, rfl⟩, hW, hsame.mono (by decide) (by decide)⟩
      · show Steps p.tables e below (T25.setTop (mkF m 23 #[.val (.ref a1)] [(.int (fT0 w3))])) _
        refine XS.ifYes X25.here hx rfl (pc0 := 23) (pc' := 30) rfl (hb hby d6_23) rfl ((if0 _ _).trans (teq hc23).1) (by decide) (by decide) ?_
        show Steps p.tables e below (T25.setTop (mkF m 30 #[.val (.ref a1)] [])) _
        refine XS.iconst X25.here hx rfl (hb hby d6_30) ?_
        show Steps p.tables e below (T25.setTop (mkF m 31 #[.val (.ref a1)] [(.int (0 : Int32))])) _
        exact retN X25 hx (t := .boolean) Bd.returns (by simp) (hb hby d6_31) hr
      · show QT1 Z a1 w1 a3 w3 h0 n0 _ T25.heap _
        rw [e25]
        exact ⟨congrArg some (congrArg Value.int (show (0 : Int32) = (fT1 w1 w3) from by rw [fT1, if_pos hc6, if_pos hc23])), N25, rfl⟩
    ·
      obtain ⟨fs, hr, hrun, hended, hW, hsame⟩ := X25.leave (v := some (.int (1 : Int32))) (fun h => by rw [Bd.returns] at h; cases h)
      refine ⟨_, _, pre26 _ ?_, hrun, hended, _, _, rfl, ?_, ⟨_, rfl⟩, hW, hsame.mono (by decide) (by decide)⟩
      · show Steps p.tables e below (T25.setTop (mkF m 23 #[.val (.ref a1)] [(.int (fT0 w3))])) _
        refine XS.ifNo X25.here hx rfl (hb hby d6_23) rfl ((if0 _ _).trans (feq hc23).1) ?_
        show Steps p.tables e below (T25.setTop (mkF m 26 #[.val (.ref a1)] [])) _
        refine XS.iconst X25.here hx rfl (hb hby d6_26) ?_
        show Steps p.tables e below (T25.setTop (mkF m 27 #[.val (.ref a1)] [(.int (1 : Int32))])) _
        refine XS.goto X25.here hx rfl (pc0 := 27) (pc' := 31) rfl (hb hby d6_27) (by decide) (by decide) ?_
        show Steps p.tables e below (T25.setTop (mkF m 31 #[.val (.ref a1)] [(.int (1 : Int32))])) _
        exact retN X25 hx (t := .boolean) Bd.returns (by simp) (hb hby d6_31) hr
      · show QT1 Z a1 w1 a3 w3 h0 n0 _ T25.heap _
        rw [e25]
        exact ⟨congrArg some (congrArg Value.int (show (1 : Int32) = (fT1 w1 w3) from by rw [fT1, if_pos hc6, if_neg hc23])), N25, rfl⟩
  ·
    obtain ⟨fs, hr, hrun, hended, hW, hsame⟩ := X21.leave (v := some (.int (1 : Int32))) (fun h => by rw [Bd.returns] at h; cases h)
    refine ⟨_, _, pre22 _ ?_, hrun, hended, _, _, rfl, ?_, ⟨_, rfl⟩, hW, hsame.mono (by decide) (by decide)⟩
    · show Steps p.tables e below (T21.setTop (mkF m 6 #[.val (.ref a1)] [(.int (lcmpW w1 (0 : Int64)))])) _
      refine XS.ifYes X21.here hx rfl (pc0 := 6) (pc' := 26) rfl (hb hby d6_6) rfl ((if0 _ _).trans (flt (fun q => hc6 ((lw_gt w1 (0 : Int64)).mp q))).2.2.2) (by decide) (by decide) ?_
      show Steps p.tables e below (T21.setTop (mkF m 26 #[.val (.ref a1)] [])) _
      refine XS.iconst X21.here hx rfl (hb hby d6_26) ?_
      show Steps p.tables e below (T21.setTop (mkF m 27 #[.val (.ref a1)] [(.int (1 : Int32))])) _
      refine XS.goto X21.here hx rfl (pc0 := 27) (pc' := 31) rfl (hb hby d6_27) (by decide) (by decide) ?_
      show Steps p.tables e below (T21.setTop (mkF m 31 #[.val (.ref a1)] [(.int (1 : Int32))])) _
      exact retN X21 hx (t := .boolean) Bd.returns (by simp) (hb hby d6_31) hr
    · show QT1 Z a1 w1 a3 w3 h0 n0 _ T21.heap _
      rw [e21]
      exact ⟨congrArg some (congrArg Value.int (show (1 : Int32) = (fT1 w1 w3) from by rw [fT1, if_neg hc6])), N0, rfl⟩
def QS2 (Z : State) (a1 : Addr) (q2 : Int64) (w1 : Int64) (a3 : Addr) (w3 : Int64) (a4 : Addr) (w4 : Int64) (h0 : Heap) (n0 : Nat) (v : Option Value) (h : Heap) (L : List Loc) : Prop := v = none ∧ Fr n0 L ∧ (Keep h0 h [a1, a3, a4]) ∧ (Fld Z h a1 "com/example/regolo/regolo/engine/Work" "left" "J" (.long (w1 - q2))) ∧ (Fld Z h a1 "com/example/regolo/regolo/engine/Work" "whole" "Lcom/example/regolo/regolo/engine/Work;" (.ref a3)) ∧ (Fld Z h a3 "com/example/regolo/regolo/engine/Work" "left" "J" (.long (w3 - q2))) ∧ (Fld Z h a3 "com/example/regolo/regolo/engine/Work" "whole" "Lcom/example/regolo/regolo/engine/Work;" (.ref a4)) ∧ (Fld Z h a4 "com/example/regolo/regolo/engine/Work" "left" "J" (.long (w4 - q2))) ∧ (Fld Z h a4 "com/example/regolo/regolo/engine/Work" "whole" "Lcom/example/regolo/regolo/engine/Work;" .null)
theorem ef_S2 (m : MethodId) (a1 : Addr) (q2 : Int64) : entryFrame m #[(.ref a1), (.long q2)] 3 = mkF m 0 #[.val (.ref a1), .val (.long q2), .second] [] := by first | (simp [entryFrame, mkF, argsToLocals, Value.category]; done) | rfl
set_option maxRecDepth 65536 in
set_option maxHeartbeats 40000000 in
theorem rmS2 (l : Launch) (Z : State) (a0 : Array Value) (hw : ∀ d ∈ tables_1, d.before a0 Z = true) (ws : List Jvm.Cond) (a1 : Addr) (q2 : Int64) (w1 : Int64) (a3 : Addr) (w3 : Int64) (a4 : Addr) (w4 : Int64) (h0 : Heap) (n0 : Nat) (Zs : n0 ≤ h0.size) (E_a1 : Exa Z h0 a1 "com/example/regolo/regolo/engine/Work") (F_left_a1 : Fld Z h0 a1 "com/example/regolo/regolo/engine/Work" "left" "J" (.long w1)) (F_whole_a1 : Fld Z h0 a1 "com/example/regolo/regolo/engine/Work" "whole" "Lcom/example/regolo/regolo/engine/Work;" (.ref a3)) (g_a1 : n0 ≤ a1) (E_a3 : Exa Z h0 a3 "com/example/regolo/regolo/engine/Work") (F_left_a3 : Fld Z h0 a3 "com/example/regolo/regolo/engine/Work" "left" "J" (.long w3)) (F_whole_a3 : Fld Z h0 a3 "com/example/regolo/regolo/engine/Work" "whole" "Lcom/example/regolo/regolo/engine/Work;" (.ref a4)) (g_a3 : n0 ≤ a3) (E_a4 : Exa Z h0 a4 "com/example/regolo/regolo/engine/Work") (F_left_a4 : Fld Z h0 a4 "com/example/regolo/regolo/engine/Work" "left" "J" (.long w4)) (F_whole_a4 : Fld Z h0 a4 "com/example/regolo/regolo/engine/Work" "whole" "Lcom/example/regolo/regolo/engine/Work;" .null) (g_a4 : n0 ≤ a4) (ne_a1_a3 : a1 ≠ a3) (ne_a1_a4 : a1 ≠ a4) (ne_a3_a4 : a3 ≠ a4) :
    MetFree l (⟨"com/example/regolo/regolo/engine/Work", "spend", "(J)V"⟩ : MethodName) (head1 (Jvm.Cond.code (⟨"com/example/regolo/regolo/engine/Work", "spend", "(J)V"⟩ : MethodName) prog_77_method_4_code 3 none :: ws) ({ frames := 2, cells := 0, slots := 0, locals := 28 } : Room)) (fun a U => a = #[(.ref a1), (.long q2)] ∧ Z.Warmed39 U.vm ∧ U.heap = h0) (fun _ _ _ _ _ => True) (fun _ U o U' => ∃ v L, o = .returned v ∧ QS2 Z a1 q2 w1 a3 w3 a4 w4 h0 n0 v U'.heap L ∧ FrameEnd U o U' L ({ frames := 2, cells := 0, slots := 0, locals := 28 } : Room).cells ({ frames := 2, cells := 0, slots := 0, locals := 28 } : Room).slots) := by
  refine MetFree.of_bodySF (plainFor_of_name pn_0) hisR ?_
  intro p e s m args below meth c s₁ Bd hml0 hP hK
  obtain ⟨rfl, hZ, hh⟩ := hP
  have hx := Bd.exec
  have hby := Bd.bytes
  have hml : c.maxLocals = 3 := hml0
  have hown : s.vm.findClass "com/example/regolo/regolo/engine/Work" = some m.cls := findClass_of_methodNamed Bd.named
  have hnm := (name_of_methodNamed Bd.named Bd.method).1
  have X0 : Stand p l e ({ frames := 2, cells := 0, slots := 0, locals := 28 } : Room) s m #[(.ref a1), (.long q2)] below meth c s₁ [] 0 0 := Stand.of_body Bd
  have e0 : s₁.heap = h0 := by rw [← hh, Bd.state]; rfl
  have N0 := Fr.nil n0
  have pre0 : ∀ t, Steps p.tables e below (s₁.setTop (mkF m 0 #[.val (.ref a1), .val (.long q2), .second] [])) t → Steps p.tables e below (s₁.setTop (entryFrame m #[(.ref a1), (.long q2)] 3)) t := fun t k => castTop (ef_S2 m a1 q2) k
  have Kp : Keep h0 h0 [a1, a3, a4] := Keep.refl h0 [a1, a3, a4]
  obtain ⟨T27, X27, e27, st27⟩ := getF X0 hx hZ hown (host := "") (Or.inl (hw _ (List.mem_of_getElem? (i := 17) rfl))) Via.refl e0 F_left_a1 (g := (mkF m 2 #[.val (.ref a1), .val (.long q2), .second] [(.ref a1), (.ref a1)])) rfl rfl (hb hby d8_2)
  obtain ⟨T28, h28, X28, e28, W28, st28⟩ := putF X27 hx hZ hown (host := "") (Or.inl (hw _ (List.mem_of_getElem? (i := 17) rfl))) Via.refl e27 F_left_a1 E_a1 (Or.inl (hw _ (List.mem_of_getElem? (i := 18) rfl))) (hw _ (List.mem_of_getElem? (i := 6) rfl)) (ty := .long) (by decide) rfl rfl (g := (mkF m 7 #[.val (.ref a1), .val (.long q2), .second] [(.long (w1 - q2)), (.ref a1)])) rfl rfl (hb hby d8_7)
  have N28 := Fr.snoc X28 N0 g_a1
  have Zs : n0 ≤ h28.size := Nat.le_trans Zs (Keep.of_wr W28).1
  have E_a1 : Exa Z h28 a1 "com/example/regolo/regolo/engine/Work" := E_a1.wr W28
  have F_left_a1 : Fld Z h28 a1 "com/example/regolo/regolo/engine/Work" "left" "J" (.long (w1 - q2)) := F_left_a1.same W28
  have F_whole_a1 : Fld Z h28 a1 "com/example/regolo/regolo/engine/Work" "whole" "Lcom/example/regolo/regolo/engine/Work;" (.ref a3) := F_whole_a1.other W28 (Or.inr (slot_ne (Or.inr (hw _ (List.mem_of_getElem? (i := 20) rfl))) (Or.inl (hw _ (List.mem_of_getElem? (i := 18) rfl))) (by decide) (t := (.object "com/example/regolo/regolo/engine/Work")) (t' := .long) (by decide) (by decide)))
  have E_a3 : Exa Z h28 a3 "com/example/regolo/regolo/engine/Work" := E_a3.wr W28
  have F_left_a3 : Fld Z h28 a3 "com/example/regolo/regolo/engine/Work" "left" "J" (.long w3) := F_left_a3.other W28 (Or.inl (Ne.symm ne_a1_a3))
  have F_whole_a3 : Fld Z h28 a3 "com/example/regolo/regolo/engine/Work" "whole" "Lcom/example/regolo/regolo/engine/Work;" (.ref a4) := F_whole_a3.other W28 (Or.inl (Ne.symm ne_a1_a3))
  have E_a4 : Exa Z h28 a4 "com/example/regolo/regolo/engine/Work" := E_a4.wr W28
  have F_left_a4 : Fld Z h28 a4 "com/example/regolo/regolo/engine/Work" "left" "J" (.long w4) := F_left_a4.other W28 (Or.inl (Ne.symm ne_a1_a4))
  have F_whole_a4 : Fld Z h28 a4 "com/example/regolo/regolo/engine/Work" "whole" "Lcom/example/regolo/regolo/engine/Work;" .null := F_whole_a4.other W28 (Or.inl (Ne.symm ne_a1_a4))
  have Kp : Keep h0 h28 [a1, a3, a4] := Kp.wr W28 (Or.inl (List.mem_of_getElem? (i := 0) rfl))
  obtain ⟨T29, X29, e29, st29⟩ := getF X28 hx hZ hown (host := "") (Or.inl (hw _ (List.mem_of_getElem? (i := 19) rfl))) Via.refl e28 F_whole_a1 (g := (mkF m 11 #[.val (.ref a1), .val (.long q2), .second] [(.ref a1)])) rfl rfl (hb hby d8_11)
  obtain ⟨T30, X30, e30, st30⟩ := getF X29 hx hZ hown (host := "") (Or.inl (hw _ (List.mem_of_getElem? (i := 19) rfl))) Via.refl e29 F_whole_a1 (g := (mkF m 18 #[.val (.ref a1), .val (.long q2), .second] [(.ref a1)])) rfl rfl (hb hby d8_18)
  obtain ⟨cq31, kq31, q31a, q31b, q31c⟩ := isOf hZ e30 E_a3
  obtain ⟨_, _, ⟨T31, L31, k31, n31⟩, -, X31, ⟨Lc31, hQ31, l31, y31, z31⟩, st31⟩ := X30.virtualBack hx (y := (⟨"com/example/regolo/regolo/engine/Work", "spend", "(J)V"⟩ : MethodName)) (z := (⟨"com/example/regolo/regolo/engine/Work", "spend", "(J)V"⟩ : MethodName)) hown (mvT hZ (hw _ (List.mem_of_getElem? (i := 41) rfl))) (mvT hZ (hw _ (List.mem_of_getElem? (i := 37) rfl))) (notFace_of_selects (args := #[]) (mvT hZ (hw _ (List.mem_of_getElem? (i := 39) rfl)))) (mvT hZ (hw _ (List.mem_of_getElem? (i := 39) rfl))) (mvT hZ (hw _ (List.mem_of_getElem? (i := 38) rfl))) (by decide) (backOf (W := 0) (rmS1 l Z a0 hw [] a3 q2 w3 a4 w4 h28 n0 Zs E_a3 F_left_a3 F_whole_a3 g_a3 E_a4 F_left_a4 F_whole_a4 g_a4 ne_a3_a4) hZ (hw _ (List.mem_of_getElem? (i := 40) rfl)) (hw _ (List.mem_of_getElem? (i := 7) rfl)) (by decide) (by decide)) q31a q31c (g := (mkF m 22 #[.val (.ref a1), .val (.long q2), .second] [(.long q2), (.ref a3)])) rfl (by rw [hml]; rfl) (Steps.refl _) (argsL := [(.long q2)]) (rest := []) (lenOf pd_1 rfl) rfl (by show 2 * 0 + _ ≤ _; exact Nat.le_of_eq rfl) (hb hby d8_22) (fun _ _ => ⟨rfl, e30, (by decide : 0 + 0 ≤ _), (by decide : 0 + 0 ≤ _)⟩)
  dsimp only [Pt.U, Pt.locs, Pt.cells, Pt.slots] at X31 l31 y31 z31 st31 hQ31
  subst l31 y31 z31
  obtain ⟨rfl, N31q, K31, P31_1, P31_2, P31_3, P31_4⟩ := hQ31
  have Zs : n0 ≤ T31.heap.size := Nat.le_trans Zs K31.1
  have E_a1 : Exa Z T31.heap a1 "com/example/regolo/regolo/engine/Work" := E_a1.keep K31
  have F_left_a1 : Fld Z T31.heap a1 "com/example/regolo/regolo/engine/Work" "left" "J" (.long (w1 - q2)) := F_left_a1.keep K31 (ninS ne_a1_a3 (ninS ne_a1_a4 nin0))
  have F_whole_a1 : Fld Z T31.heap a1 "com/example/regolo/regolo/engine/Work" "whole" "Lcom/example/regolo/regolo/engine/Work;" (.ref a3) := F_whole_a1.keep K31 (ninS ne_a1_a3 (ninS ne_a1_a4 nin0))
  have E_a3 : Exa Z T31.heap a3 "com/example/regolo/regolo/engine/Work" := E_a3.keep K31
  have E_a4 : Exa Z T31.heap a4 "com/example/regolo/regolo/engine/Work" := E_a4.keep K31
  have Kp : Keep h0 T31.heap [a1, a3, a4] := Kp.trans K31 (allS (Or.inl (List.mem_of_getElem? (i := 1) rfl)) (allS (Or.inl (List.mem_of_getElem? (i := 2) rfl)) all0))
  have F_left_a3 : Fld Z T31.heap a3 "com/example/regolo/regolo/engine/Work" "left" "J" (.long (w3 - q2)) := P31_1
  have F_whole_a3 : Fld Z T31.heap a3 "com/example/regolo/regolo/engine/Work" "whole" "Lcom/example/regolo/regolo/engine/Work;" (.ref a4) := P31_2
  have F_left_a4 : Fld Z T31.heap a4 "com/example/regolo/regolo/engine/Work" "left" "J" (.long (w4 - q2)) := P31_3
  have F_whole_a4 : Fld Z T31.heap a4 "com/example/regolo/regolo/engine/Work" "whole" "Lcom/example/regolo/regolo/engine/Work;" .null := P31_4
  have N31 := Fr.app N28 N31q
  obtain ⟨fs, hr, hrun, hended, hW, hsame⟩ := X31.leave (v := none) (fun _ => rfl)
  refine ⟨_, _, pre0 _ ?_, hrun, hended, _, _, rfl, ?_, ⟨_, rfl⟩, hW, hsame.mono (by decide) (by decide)⟩
  · show Steps p.tables e below (s₁.setTop (mkF m 0 #[.val (.ref a1), .val (.long q2), .second] [])) _
    refine XS.aloadN X0.here hx rfl (hb hby d8_0) rfl rfl ?_
    show Steps p.tables e below (s₁.setTop (mkF m 1 #[.val (.ref a1), .val (.long q2), .second] [(.ref a1)])) _
    refine XS.dup X0.here hx rfl (hb hby d8_1) rfl rfl ?_
    show Steps p.tables e below (s₁.setTop (mkF m 2 #[.val (.ref a1), .val (.long q2), .second] [(.ref a1), (.ref a1)])) _
    refine st27 _ ?_
    show Steps p.tables e below (T27.setTop (mkF m 5 #[.val (.ref a1), .val (.long q2), .second] [(.long w1), (.ref a1)])) _
    refine XS.lloadN X27.here hx rfl (hb hby d8_5) rfl ?_
    show Steps p.tables e below (T27.setTop (mkF m 6 #[.val (.ref a1), .val (.long q2), .second] [(.long q2), (.long w1), (.ref a1)])) _
    refine XS.lsub X27.here hx rfl (hb hby d8_6) rfl ?_
    show Steps p.tables e below (T27.setTop (mkF m 7 #[.val (.ref a1), .val (.long q2), .second] [(.long (w1 - q2)), (.ref a1)])) _
    refine st28 _ ?_
    show Steps p.tables e below (T28.setTop (mkF m 10 #[.val (.ref a1), .val (.long q2), .second] [])) _
    refine XS.aloadN X28.here hx rfl (hb hby d8_10) rfl rfl ?_
    show Steps p.tables e below (T28.setTop (mkF m 11 #[.val (.ref a1), .val (.long q2), .second] [(.ref a1)])) _
    refine st29 _ ?_
    show Steps p.tables e below (T29.setTop (mkF m 14 #[.val (.ref a1), .val (.long q2), .second] [(.ref a3)])) _
    refine XS.ifnullNo X29.here hx rfl (hb hby d8_14) rfl ?_
    show Steps p.tables e below (T29.setTop (mkF m 17 #[.val (.ref a1), .val (.long q2), .second] [])) _
    refine XS.aloadN X29.here hx rfl (hb hby d8_17) rfl rfl ?_
    show Steps p.tables e below (T29.setTop (mkF m 18 #[.val (.ref a1), .val (.long q2), .second] [(.ref a1)])) _
    refine st30 _ ?_
    show Steps p.tables e below (T30.setTop (mkF m 21 #[.val (.ref a1), .val (.long q2), .second] [(.ref a3)])) _
    refine XS.lloadN X30.here hx rfl (hb hby d8_21) rfl ?_
    show Steps p.tables e below (T30.setTop (mkF m 22 #[.val (.ref a1), .val (.long q2), .second] [(.long q2), (.ref a3)])) _
    refine st31.trans ?_
    show Steps p.tables e below (T31.setTop (mkF m 25 #[.val (.ref a1), .val (.long q2), .second] [])) _
    exact X31.returnOut hx Bd.returns (hb hby d8_25) hr
  · show QS2 Z a1 q2 w1 a3 w3 a4 w4 h0 n0 _ T31.heap _
    exact ⟨rfl, N31, Kp, F_left_a1, F_whole_a1, F_left_a3, F_whole_a3, F_left_a4, F_whole_a4⟩
def QT2 (Z : State) (a1 : Addr) (w1 : Int64) (a3 : Addr) (w3 : Int64) (a4 : Addr) (w4 : Int64) (h0 : Heap) (n0 : Nat) (v : Option Value) (h : Heap) (L : List Loc) : Prop := v = some (.int (fT2 w1 w3 w4)) ∧ Fr n0 L ∧ h = h0
theorem ef_T2 (m : MethodId) (a1 : Addr) : entryFrame m #[(.ref a1)] 1 = mkF m 0 #[.val (.ref a1)] [] := by first | (simp [entryFrame, mkF, argsToLocals, Value.category]; done) | rfl
set_option maxRecDepth 65536 in
set_option maxHeartbeats 40000000 in
theorem rmT2 (l : Launch) (Z : State) (a0 : Array Value) (hw : ∀ d ∈ tables_1, d.before a0 Z = true) (ws : List Jvm.Cond) (a1 : Addr) (w1 : Int64) (a3 : Addr) (w3 : Int64) (a4 : Addr) (w4 : Int64) (h0 : Heap) (n0 : Nat) (Zs : n0 ≤ h0.size) (F_left_a1 : Fld Z h0 a1 "com/example/regolo/regolo/engine/Work" "left" "J" (.long w1)) (F_whole_a1 : Fld Z h0 a1 "com/example/regolo/regolo/engine/Work" "whole" "Lcom/example/regolo/regolo/engine/Work;" (.ref a3)) (E_a3 : Exa Z h0 a3 "com/example/regolo/regolo/engine/Work") (F_left_a3 : Fld Z h0 a3 "com/example/regolo/regolo/engine/Work" "left" "J" (.long w3)) (F_whole_a3 : Fld Z h0 a3 "com/example/regolo/regolo/engine/Work" "whole" "Lcom/example/regolo/regolo/engine/Work;" (.ref a4)) (E_a4 : Exa Z h0 a4 "com/example/regolo/regolo/engine/Work") (F_left_a4 : Fld Z h0 a4 "com/example/regolo/regolo/engine/Work" "left" "J" (.long w4)) (F_whole_a4 : Fld Z h0 a4 "com/example/regolo/regolo/engine/Work" "whole" "Lcom/example/regolo/regolo/engine/Work;" .null) :
    MetFree l (⟨"com/example/regolo/regolo/engine/Work", "spent", "()Z"⟩ : MethodName) (head1 (Jvm.Cond.code (⟨"com/example/regolo/regolo/engine/Work", "spent", "()Z"⟩ : MethodName) prog_77_method_5_code 1 (some .boolean) :: ws) ({ frames := 2, cells := 0, slots := 0, locals := 24 } : Room)) (fun a U => a = #[(.ref a1)] ∧ Z.Warmed39 U.vm ∧ U.heap = h0) (fun _ _ _ _ _ => True) (fun _ U o U' => ∃ v L, o = .returned v ∧ QT2 Z a1 w1 a3 w3 a4 w4 h0 n0 v U'.heap L ∧ FrameEnd U o U' L ({ frames := 2, cells := 0, slots := 0, locals := 24 } : Room).cells ({ frames := 2, cells := 0, slots := 0, locals := 24 } : Room).slots) := by
  refine MetFree.of_bodySF (plainFor_of_name pn_0) hisR ?_
  intro p e s m args below meth c s₁ Bd hml0 hP hK
  obtain ⟨rfl, hZ, hh⟩ := hP
  have hx := Bd.exec
  have hby := Bd.bytes
  have hml : c.maxLocals = 1 := hml0
  have hown : s.vm.findClass "com/example/regolo/regolo/engine/Work" = some m.cls := findClass_of_methodNamed Bd.named
  have hnm := (name_of_methodNamed Bd.named Bd.method).1
  have X0 : Stand p l e ({ frames := 2, cells := 0, slots := 0, locals := 24 } : Room) s m #[(.ref a1)] below meth c s₁ [] 0 0 := Stand.of_body Bd
  have e0 : s₁.heap = h0 := by rw [← hh, Bd.state]; rfl
  have N0 := Fr.nil n0
  have pre0 : ∀ t, Steps p.tables e below (s₁.setTop (mkF m 0 #[.val (.ref a1)] [])) t → Steps p.tables e below (s₁.setTop (entryFrame m #[(.ref a1)] 1)) t := fun t k => castTop (ef_T2 m a1) k
  obtain ⟨T32, X32, e32, st32⟩ := getF X0 hx hZ hown (host := "") (Or.inl (hw _ (List.mem_of_getElem? (i := 17) rfl))) Via.refl e0 F_left_a1 (g := (mkF m 1 #[.val (.ref a1)] [(.ref a1)])) rfl rfl (hb hby d6_1)
  have pre33 : ∀ t, Steps p.tables e below (T32.setTop (mkF m 6 #[.val (.ref a1)] [(.int (lcmpW w1 (0 : Int64)))])) t → Steps p.tables e below (s₁.setTop (entryFrame m #[(.ref a1)] 1)) t := fun t k => pre0 t (by
    show Steps p.tables e below (s₁.setTop (mkF m 0 #[.val (.ref a1)] [])) _
    refine XS.aloadN X0.here hx rfl (hb hby d6_0) rfl rfl ?_
    show Steps p.tables e below (s₁.setTop (mkF m 1 #[.val (.ref a1)] [(.ref a1)])) _
    refine st32 _ ?_
    show Steps p.tables e below (T32.setTop (mkF m 4 #[.val (.ref a1)] [(.long w1)])) _
    refine XS.lconst X32.here hx rfl (hb hby d6_4) ?_
    show Steps p.tables e below (T32.setTop (mkF m 5 #[.val (.ref a1)] [(.long (0 : Int64)), (.long w1)])) _
    refine XS.lcmp X32.here hx rfl (hb hby d6_5) rfl ?_
    exact k)
  by_cases hc6 : (0 : Int64) < w1
  ·
    obtain ⟨T34, X34, e34, st34⟩ := getF X32 hx hZ hown (host := "") (Or.inl (hw _ (List.mem_of_getElem? (i := 19) rfl))) Via.refl e32 F_whole_a1 (g := (mkF m 10 #[.val (.ref a1)] [(.ref a1)])) rfl rfl (hb hby d6_10)
    obtain ⟨T35, X35, e35, st35⟩ := getF X34 hx hZ hown (host := "") (Or.inl (hw _ (List.mem_of_getElem? (i := 19) rfl))) Via.refl e34 F_whole_a1 (g := (mkF m 17 #[.val (.ref a1)] [(.ref a1)])) rfl rfl (hb hby d6_17)
    obtain ⟨cq36, kq36, q36a, q36b, q36c⟩ := isOf hZ e35 E_a3
    obtain ⟨_, _, ⟨T36, L36, k36, n36⟩, -, X36, ⟨Lc36, hQ36, l36, y36, z36⟩, st36⟩ := X35.virtualBack hx (y := (⟨"com/example/regolo/regolo/engine/Work", "spent", "()Z"⟩ : MethodName)) (z := (⟨"com/example/regolo/regolo/engine/Work", "spent", "()Z"⟩ : MethodName)) hown (mvT hZ (hw _ (List.mem_of_getElem? (i := 42) rfl))) (mvT hZ (hw _ (List.mem_of_getElem? (i := 28) rfl))) (notFace_of_selects (args := #[]) (mvT hZ (hw _ (List.mem_of_getElem? (i := 30) rfl)))) (mvT hZ (hw _ (List.mem_of_getElem? (i := 30) rfl))) (mvT hZ (hw _ (List.mem_of_getElem? (i := 29) rfl))) (by decide) (backOf (W := 0) (rmT1 l Z a0 hw [] a3 w3 a4 w4 h0 n0 Zs F_left_a3 F_whole_a3 E_a4 F_left_a4 F_whole_a4) hZ (hw _ (List.mem_of_getElem? (i := 31) rfl)) (hw _ (List.mem_of_getElem? (i := 7) rfl)) (by decide) (by decide)) q36a q36c (g := (mkF m 20 #[.val (.ref a1)] [(.ref a3)])) rfl (by rw [hml]; rfl) (Steps.refl _) (argsL := []) (rest := []) (lenOf pd_2 rfl) rfl (by show 2 * 0 + _ ≤ _; exact Nat.le_of_eq rfl) (hb hby d6_20) (fun _ _ => ⟨rfl, e35, (by decide : 0 + 0 ≤ _), (by decide : 0 + 0 ≤ _)⟩)
    dsimp only [Pt.U, Pt.locs, Pt.cells, Pt.slots] at X36 l36 y36 z36 st36 hQ36
    subst l36 y36 z36
    obtain ⟨rfl, N36q, e36⟩ := hQ36
    have N36 := Fr.app N0 N36q
    have pre37 : ∀ t, Steps p.tables e below (T36.setTop (mkF m 23 #[.val (.ref a1)] [(.int (fT1 w3 w4))])) t → Steps p.tables e below (s₁.setTop (entryFrame m #[(.ref a1)] 1)) t := fun t k => pre33 t (by
      show Steps p.tables e below (T32.setTop (mkF m 6 #[.val (.ref a1)] [(.int (lcmpW w1 (0 : Int64)))])) _
      refine XS.ifNo X32.here hx rfl (hb hby d6_6) rfl ((if0 _ _).trans (tlt ((lw_gt w1 (0 : Int64)).mpr hc6)).2.2.2) ?_
      show Steps p.tables e below (T32.setTop (mkF m 9 #[.val (.ref a1)] [])) _
      refine XS.aloadN X32.here hx rfl (hb hby d6_9) rfl rfl ?_
      show Steps p.tables e below (T32.setTop (mkF m 10 #[.val (.ref a1)] [(.ref a1)])) _
      refine st34 _ ?_
      show Steps p.tables e below (T34.setTop (mkF m 13 #[.val (.ref a1)] [(.ref a3)])) _
      refine XS.ifnullNo X34.here hx rfl (hb hby d6_13) rfl ?_
      show Steps p.tables e below (T34.setTop (mkF m 16 #[.val (.ref a1)] [])) _
      refine XS.aloadN X34.here hx rfl (hb hby d6_16) rfl rfl ?_
      show Steps p.tables e below (T34.setTop (mkF m 17 #[.val (.ref a1)] [(.ref a1)])) _
      refine st35 _ ?_
      show Steps p.tables e below (T35.setTop (mkF m 20 #[.val (.ref a1)] [(.ref a3)])) _
      refine st36.trans ?_
      exact k)
    by_cases hc23 : (fT1 w3 w4) = (0 : Int32)
    ·
      obtain ⟨fs, hr, hrun, hended, hW, hsame⟩ := X36.leave (v := some (.int (0 : Int32))) (fun h => by rw [Bd.returns] at h; cases h)
      refine ⟨_, _, pre37 _ ?_, hrun, hended, _, _, rfl, ?_, ⟨_, rfl⟩, hW, hsame.mono (by decide) (by decide)⟩
      · show Steps p.tables e below (T36.setTop (mkF m 23 #[.val (.ref a1)] [(.int (fT1 w3 w4))])) _
        refine XS.ifYes X36.here hx rfl (pc0 := 23) (pc' := 30) rfl (hb hby d6_23) rfl ((if0 _ _).trans (teq hc23).1) (by decide) (by decide) ?_
        show Steps p.tables e below (T36.setTop (mkF m 30 #[.val (.ref a1)] [])) _
        refine XS.iconst X36.here hx rfl (hb hby d6_30) ?_
        show Steps p.tables e below (T36.setTop (mkF m 31 #[.val (.ref a1)] [(.int (0 : Int32))])) _
        exact retN X36 hx (t := .boolean) Bd.returns (by simp) (hb hby d6_31) hr
      · show QT2 Z a1 w1 a3 w3 a4 w4 h0 n0 _ T36.heap _
        rw [e36]
        exact ⟨congrArg some (congrArg Value.int (show (0 : Int32) = (fT2 w1 w3 w4) from by rw [fT2, if_pos hc6, if_pos hc23])), N36, rfl⟩
    ·
      obtain ⟨fs, hr, hrun, hended, hW, hsame⟩ := X36.leave (v := some (.int (1 : Int32))) (fun h => by rw [Bd.returns] at h; cases h)
      refine ⟨_, _, pre37 _ ?_, hrun, hended, _, _, rfl, ?_, ⟨_, rfl⟩, hW, hsame.mono (by decide) (by decide)⟩
      · show Steps p.tables e below (T36.setTop (mkF m 23 #[.val (.ref a1)] [(.int (fT1 w3 w4))])) _
        refine XS.ifNo X36.here hx rfl (hb hby d6_23) rfl ((if0 _ _).trans (feq hc23).1) ?_
        show Steps p.tables e below (T36.setTop (mkF m 26 #[.val (.ref a1)] [])) _
        refine XS.iconst X36.here hx rfl (hb hby d6_26) ?_
        show Steps p.tables e below (T36.setTop (mkF m 27 #[.val (.ref a1)] [(.int (1 : Int32))])) _
        refine XS.goto X36.here hx rfl (pc0 := 27) (pc' := 31) rfl (hb hby d6_27) (by decide) (by decide) ?_
        show Steps p.tables e below (T36.setTop (mkF m 31 #[.val (.ref a1)] [(.int (1 : Int32))])) _
        exact retN X36 hx (t := .boolean) Bd.returns (by simp) (hb hby d6_31) hr
      · show QT2 Z a1 w1 a3 w3 a4 w4 h0 n0 _ T36.heap _
        rw [e36]
        exact ⟨congrArg some (congrArg Value.int (show (1 : Int32) = (fT2 w1 w3 w4) from by rw [fT2, if_pos hc6, if_neg hc23])), N36, rfl⟩
  ·
    obtain ⟨fs, hr, hrun, hended, hW, hsame⟩ := X32.leave (v := some (.int (1 : Int32))) (fun h => by rw [Bd.returns] at h; cases h)
    refine ⟨_, _, pre33 _ ?_, hrun, hended, _, _, rfl, ?_, ⟨_, rfl⟩, hW, hsame.mono (by decide) (by decide)⟩
    · show Steps p.tables e below (T32.setTop (mkF m 6 #[.val (.ref a1)] [(.int (lcmpW w1 (0 : Int64)))])) _
      refine XS.ifYes X32.here hx rfl (pc0 := 6) (pc' := 26) rfl (hb hby d6_6) rfl ((if0 _ _).trans (flt (fun q => hc6 ((lw_gt w1 (0 : Int64)).mp q))).2.2.2) (by decide) (by decide) ?_
      show Steps p.tables e below (T32.setTop (mkF m 26 #[.val (.ref a1)] [])) _
      refine XS.iconst X32.here hx rfl (hb hby d6_26) ?_
      show Steps p.tables e below (T32.setTop (mkF m 27 #[.val (.ref a1)] [(.int (1 : Int32))])) _
      refine XS.goto X32.here hx rfl (pc0 := 27) (pc' := 31) rfl (hb hby d6_27) (by decide) (by decide) ?_
      show Steps p.tables e below (T32.setTop (mkF m 31 #[.val (.ref a1)] [(.int (1 : Int32))])) _
      exact retN X32 hx (t := .boolean) Bd.returns (by simp) (hb hby d6_31) hr
    · show QT2 Z a1 w1 a3 w3 a4 w4 h0 n0 _ T32.heap _
      rw [e32]
      exact ⟨congrArg some (congrArg Value.int (show (1 : Int32) = (fT2 w1 w3 w4) from by rw [fT2, if_neg hc6])), N0, rfl⟩
def QM (Z : State) (p1 : Int32) (p2 : Int32) (h0 : Heap) (n0 : Nat) (v : Option Value) (h : Heap) (L : List Loc) : Prop := v = some (.int (fM p1 p2)) ∧ Fr n0 L ∧ h = h0
theorem ef_M (m : MethodId) (p1 : Int32) (p2 : Int32) : entryFrame m #[(.int p1), (.int p2)] 2 = mkF m 0 #[.val (.int p1), .val (.int p2)] [] := by first | (simp [entryFrame, mkF, argsToLocals, Value.category]; done) | rfl
set_option maxRecDepth 65536 in
set_option maxHeartbeats 40000000 in
theorem rmM (l : Launch) (Z : State) (a0 : Array Value) (hw : ∀ d ∈ tables_1, d.before a0 Z = true) (ws : List Jvm.Cond) (p1 : Int32) (p2 : Int32) (h0 : Heap) (n0 : Nat) (Zs : n0 ≤ h0.size)  :
    MetFree l (⟨"java/lang/Math", "min", "(II)I"⟩ : MethodName) (head1 (Jvm.Cond.code (⟨"java/lang/Math", "min", "(II)I"⟩ : MethodName) jdk_29_method_69_code 2 (some .int) :: ws) ({ frames := 0, cells := 0, slots := 0, locals := 0 } : Room)) (fun a U => a = #[(.int p1), (.int p2)] ∧ Z.Warmed39 U.vm ∧ U.heap = h0) (fun _ _ _ _ _ => True) (fun _ U o U' => ∃ v L, o = .returned v ∧ QM Z p1 p2 h0 n0 v U'.heap L ∧ FrameEnd U o U' L ({ frames := 0, cells := 0, slots := 0, locals := 0 } : Room).cells ({ frames := 0, cells := 0, slots := 0, locals := 0 } : Room).slots) := by
  refine MetFree.of_bodySF (Jvm.Free.JP.mathPlain rfl (by decide +kernel)) hisR ?_
  intro p e s m args below meth c s₁ Bd hml0 hP hK
  obtain ⟨rfl, hZ, hh⟩ := hP
  have hx := Bd.exec
  have hby := Bd.bytes
  have hml : c.maxLocals = 2 := hml0
  have hown : s.vm.findClass "java/lang/Math" = some m.cls := findClass_of_methodNamed Bd.named
  have hnm := (name_of_methodNamed Bd.named Bd.method).1
  have X0 : Stand p l e ({ frames := 0, cells := 0, slots := 0, locals := 0 } : Room) s m #[(.int p1), (.int p2)] below meth c s₁ [] 0 0 := Stand.of_body Bd
  have e0 : s₁.heap = h0 := by rw [← hh, Bd.state]; rfl
  have N0 := Fr.nil n0
  have pre0 : ∀ t, Steps p.tables e below (s₁.setTop (mkF m 0 #[.val (.int p1), .val (.int p2)] [])) t → Steps p.tables e below (s₁.setTop (entryFrame m #[(.int p1), (.int p2)] 2)) t := fun t k => castTop (ef_M m p1 p2) k
  have pre38 : ∀ t, Steps p.tables e below (s₁.setTop (mkF m 2 #[.val (.int p1), .val (.int p2)] [(.int p2), (.int p1)])) t → Steps p.tables e below (s₁.setTop (entryFrame m #[(.int p1), (.int p2)] 2)) t := fun t k => pre0 t (by
    show Steps p.tables e below (s₁.setTop (mkF m 0 #[.val (.int p1), .val (.int p2)] [])) _
    refine XS.iloadN X0.here hx rfl (hb hby d1_0) rfl ?_
    show Steps p.tables e below (s₁.setTop (mkF m 1 #[.val (.int p1), .val (.int p2)] [(.int p1)])) _
    refine XS.iloadN X0.here hx rfl (hb hby d1_1) rfl ?_
    exact k)
  by_cases hc2 : p2 < p1
  ·
    obtain ⟨fs, hr, hrun, hended, hW, hsame⟩ := X0.leave (v := some (.int p2)) (fun h => by rw [Bd.returns] at h; cases h)
    refine ⟨_, _, pre38 _ ?_, hrun, hended, _, _, rfl, ?_, ⟨_, rfl⟩, hW, hsame.mono (by decide) (by decide)⟩
    · show Steps p.tables e below (s₁.setTop (mkF m 2 #[.val (.int p1), .val (.int p2)] [(.int p2), (.int p1)])) _
      refine XS.icmpYes X0.here hx rfl (pc0 := 2) (pc' := 9) rfl (hb hby d1_2) rfl (tlt hc2).2.2.1 (by decide) (by decide) ?_
      show Steps p.tables e below (s₁.setTop (mkF m 9 #[.val (.int p1), .val (.int p2)] [])) _
      refine XS.iloadN X0.here hx rfl (hb hby d1_9) rfl ?_
      show Steps p.tables e below (s₁.setTop (mkF m 10 #[.val (.int p1), .val (.int p2)] [(.int p2)])) _
      exact retI X0 hx Bd.returns (hb hby d1_10) hr
    · show QM Z p1 p2 h0 n0 _ s₁.heap _
      rw [e0]
      exact ⟨congrArg some (congrArg Value.int (show p2 = (fM p1 p2) from by rw [fM, if_pos hc2])), N0, rfl⟩
  ·
    obtain ⟨fs, hr, hrun, hended, hW, hsame⟩ := X0.leave (v := some (.int p1)) (fun h => by rw [Bd.returns] at h; cases h)
    refine ⟨_, _, pre38 _ ?_, hrun, hended, _, _, rfl, ?_, ⟨_, rfl⟩, hW, hsame.mono (by decide) (by decide)⟩
    · show Steps p.tables e below (s₁.setTop (mkF m 2 #[.val (.int p1), .val (.int p2)] [(.int p2), (.int p1)])) _
      refine XS.icmpNo X0.here hx rfl (hb hby d1_2) rfl (flt hc2).2.2.1 ?_
      show Steps p.tables e below (s₁.setTop (mkF m 5 #[.val (.int p1), .val (.int p2)] [])) _
      refine XS.iloadN X0.here hx rfl (hb hby d1_5) rfl ?_
      show Steps p.tables e below (s₁.setTop (mkF m 6 #[.val (.int p1), .val (.int p2)] [(.int p1)])) _
      refine XS.goto X0.here hx rfl (pc0 := 6) (pc' := 10) rfl (hb hby d1_6) (by decide) (by decide) ?_
      show Steps p.tables e below (s₁.setTop (mkF m 10 #[.val (.int p1), .val (.int p2)] [(.int p1)])) _
      exact retI X0 hx Bd.returns (hb hby d1_10) hr
    · show QM Z p1 p2 h0 n0 _ s₁.heap _
      rw [e0]
      exact ⟨congrArg some (congrArg Value.int (show p1 = (fM p1 p2) from by rw [fM, if_neg hc2])), N0, rfl⟩
def QK0 (Z : State) (p1 : Int32) (a2 : Addr) (a3 : Addr) (a4 : Addr) (h0 : Heap) (n0 : Nat) (v : Option Value) (h : Heap) (L : List Loc) : Prop := v = some (.ref a2) ∧ Fr n0 L ∧ h = h0
theorem ef_K0 (m : MethodId) (p1 : Int32) (a2 : Addr) (a3 : Addr) (a4 : Addr) : entryFrame m #[(.int p1), (.ref a2), (.ref a3), (.ref a4)] 4 = mkF m 0 #[.val (.int p1), .val (.ref a2), .val (.ref a3), .val (.ref a4)] [] := by first | (simp [entryFrame, mkF, argsToLocals, Value.category]; done) | rfl
set_option maxRecDepth 65536 in
set_option maxHeartbeats 40000000 in
theorem rmK0 (l : Launch) (Z : State) (a0 : Array Value) (hw : ∀ d ∈ tables_1, d.before a0 Z = true) (ws : List Jvm.Cond) (p1 : Int32) (a2 : Addr) (a3 : Addr) (a4 : Addr) (h0 : Heap) (n0 : Nat) (Zs : n0 ≤ h0.size) (hp0 : p1 = (0 : Int32)) :
    MetFree l (⟨"com/example/regolo/regolo/engine/WorkSpentPinLaw", "pick", "(ILcom/example/regolo/regolo/engine/Work;Lcom/example/regolo/regolo/engine/Work;Lcom/example/regolo/regolo/engine/Work;)Lcom/example/regolo/regolo/engine/Work;"⟩ : MethodName) (head1 (Jvm.Cond.code (⟨"com/example/regolo/regolo/engine/WorkSpentPinLaw", "pick", "(ILcom/example/regolo/regolo/engine/Work;Lcom/example/regolo/regolo/engine/Work;Lcom/example/regolo/regolo/engine/Work;)Lcom/example/regolo/regolo/engine/Work;"⟩ : MethodName) method_2_code 4 (some (.object "com/example/regolo/regolo/engine/Work")) :: ws) ({ frames := 0, cells := 0, slots := 0, locals := 0 } : Room)) (fun a U => a = #[(.int p1), (.ref a2), (.ref a3), (.ref a4)] ∧ Z.Warmed39 U.vm ∧ U.heap = h0) (fun _ _ _ _ _ => True) (fun _ U o U' => ∃ v L, o = .returned v ∧ QK0 Z p1 a2 a3 a4 h0 n0 v U'.heap L ∧ FrameEnd U o U' L ({ frames := 0, cells := 0, slots := 0, locals := 0 } : Room).cells ({ frames := 0, cells := 0, slots := 0, locals := 0 } : Room).slots) := by
  refine MetFree.of_bodySF (plainFor_of_name pn_1) hisR ?_
  intro p e s m args below meth c s₁ Bd hml0 hP hK
  obtain ⟨rfl, hZ, hh⟩ := hP
  have hx := Bd.exec
  have hby := Bd.bytes
  have hml : c.maxLocals = 4 := hml0
  have hown : s.vm.findClass "com/example/regolo/regolo/engine/WorkSpentPinLaw" = some m.cls := findClass_of_methodNamed Bd.named
  have hnm := (name_of_methodNamed Bd.named Bd.method).1
  have X0 : Stand p l e ({ frames := 0, cells := 0, slots := 0, locals := 0 } : Room) s m #[(.int p1), (.ref a2), (.ref a3), (.ref a4)] below meth c s₁ [] 0 0 := Stand.of_body Bd
  have e0 : s₁.heap = h0 := by rw [← hh, Bd.state]; rfl
  have N0 := Fr.nil n0
  have pre0 : ∀ t, Steps p.tables e below (s₁.setTop (mkF m 0 #[.val (.int p1), .val (.ref a2), .val (.ref a3), .val (.ref a4)] [])) t → Steps p.tables e below (s₁.setTop (entryFrame m #[(.int p1), (.ref a2), (.ref a3), (.ref a4)] 4)) t := fun t k => castTop (ef_K0 m p1 a2 a3 a4) k
  obtain ⟨fs, hr, hrun, hended, hW, hsame⟩ := X0.leave (v := some (.ref a2)) (fun h => by rw [Bd.returns] at h; cases h)
  refine ⟨_, _, pre0 _ ?_, hrun, hended, _, _, rfl, ?_, ⟨_, rfl⟩, hW, hsame.mono (by decide) (by decide)⟩
  · show Steps p.tables e below (s₁.setTop (mkF m 0 #[.val (.int p1), .val (.ref a2), .val (.ref a3), .val (.ref a4)] [])) _
    refine XS.iloadN X0.here hx rfl (hb hby d7_0) rfl ?_
    show Steps p.tables e below (s₁.setTop (mkF m 1 #[.val (.int p1), .val (.ref a2), .val (.ref a3), .val (.ref a4)] [(.int p1)])) _
    refine XS.ifNo X0.here hx rfl (hb hby d7_1) rfl ((if0 _ _).trans (teq hp0).2) ?_
    show Steps p.tables e below (s₁.setTop (mkF m 4 #[.val (.int p1), .val (.ref a2), .val (.ref a3), .val (.ref a4)] [])) _
    refine XS.aloadN X0.here hx rfl (hb hby d7_4) rfl rfl ?_
    show Steps p.tables e below (s₁.setTop (mkF m 5 #[.val (.int p1), .val (.ref a2), .val (.ref a3), .val (.ref a4)] [(.ref a2)])) _
    exact retOut X0 hx Bd.returns rfl (Or.inr (Or.inr (Or.inr (Or.inr ⟨rfl, rfl, rfl⟩)))) (hb hby d7_5) hr
  · show QK0 Z p1 a2 a3 a4 h0 n0 _ s₁.heap _
    rw [e0]
    exact ⟨rfl, N0, rfl⟩
def QK1 (Z : State) (p1 : Int32) (a2 : Addr) (a3 : Addr) (a4 : Addr) (h0 : Heap) (n0 : Nat) (v : Option Value) (h : Heap) (L : List Loc) : Prop := v = some (.ref a3) ∧ Fr n0 L ∧ h = h0
theorem ef_K1 (m : MethodId) (p1 : Int32) (a2 : Addr) (a3 : Addr) (a4 : Addr) : entryFrame m #[(.int p1), (.ref a2), (.ref a3), (.ref a4)] 4 = mkF m 0 #[.val (.int p1), .val (.ref a2), .val (.ref a3), .val (.ref a4)] [] := by first | (simp [entryFrame, mkF, argsToLocals, Value.category]; done) | rfl
set_option maxRecDepth 65536 in
set_option maxHeartbeats 40000000 in
theorem rmK1 (l : Launch) (Z : State) (a0 : Array Value) (hw : ∀ d ∈ tables_1, d.before a0 Z = true) (ws : List Jvm.Cond) (p1 : Int32) (a2 : Addr) (a3 : Addr) (a4 : Addr) (h0 : Heap) (n0 : Nat) (Zs : n0 ≤ h0.size) (hp0 : ¬ p1 = (0 : Int32)) (hp1 : p1 = (1 : Int32)) :
    MetFree l (⟨"com/example/regolo/regolo/engine/WorkSpentPinLaw", "pick", "(ILcom/example/regolo/regolo/engine/Work;Lcom/example/regolo/regolo/engine/Work;Lcom/example/regolo/regolo/engine/Work;)Lcom/example/regolo/regolo/engine/Work;"⟩ : MethodName) (head1 (Jvm.Cond.code (⟨"com/example/regolo/regolo/engine/WorkSpentPinLaw", "pick", "(ILcom/example/regolo/regolo/engine/Work;Lcom/example/regolo/regolo/engine/Work;Lcom/example/regolo/regolo/engine/Work;)Lcom/example/regolo/regolo/engine/Work;"⟩ : MethodName) method_2_code 4 (some (.object "com/example/regolo/regolo/engine/Work")) :: ws) ({ frames := 0, cells := 0, slots := 0, locals := 0 } : Room)) (fun a U => a = #[(.int p1), (.ref a2), (.ref a3), (.ref a4)] ∧ Z.Warmed39 U.vm ∧ U.heap = h0) (fun _ _ _ _ _ => True) (fun _ U o U' => ∃ v L, o = .returned v ∧ QK1 Z p1 a2 a3 a4 h0 n0 v U'.heap L ∧ FrameEnd U o U' L ({ frames := 0, cells := 0, slots := 0, locals := 0 } : Room).cells ({ frames := 0, cells := 0, slots := 0, locals := 0 } : Room).slots) := by
  refine MetFree.of_bodySF (plainFor_of_name pn_1) hisR ?_
  intro p e s m args below meth c s₁ Bd hml0 hP hK
  obtain ⟨rfl, hZ, hh⟩ := hP
  have hx := Bd.exec
  have hby := Bd.bytes
  have hml : c.maxLocals = 4 := hml0
  have hown : s.vm.findClass "com/example/regolo/regolo/engine/WorkSpentPinLaw" = some m.cls := findClass_of_methodNamed Bd.named
  have hnm := (name_of_methodNamed Bd.named Bd.method).1
  have X0 : Stand p l e ({ frames := 0, cells := 0, slots := 0, locals := 0 } : Room) s m #[(.int p1), (.ref a2), (.ref a3), (.ref a4)] below meth c s₁ [] 0 0 := Stand.of_body Bd
  have e0 : s₁.heap = h0 := by rw [← hh, Bd.state]; rfl
  have N0 := Fr.nil n0
  have pre0 : ∀ t, Steps p.tables e below (s₁.setTop (mkF m 0 #[.val (.int p1), .val (.ref a2), .val (.ref a3), .val (.ref a4)] [])) t → Steps p.tables e below (s₁.setTop (entryFrame m #[(.int p1), (.ref a2), (.ref a3), (.ref a4)] 4)) t := fun t k => castTop (ef_K1 m p1 a2 a3 a4) k
  obtain ⟨fs, hr, hrun, hended, hW, hsame⟩ := X0.leave (v := some (.ref a3)) (fun h => by rw [Bd.returns] at h; cases h)
  refine ⟨_, _, pre0 _ ?_, hrun, hended, _, _, rfl, ?_, ⟨_, rfl⟩, hW, hsame.mono (by decide) (by decide)⟩
  · show Steps p.tables e below (s₁.setTop (mkF m 0 #[.val (.int p1), .val (.ref a2), .val (.ref a3), .val (.ref a4)] [])) _
    refine XS.iloadN X0.here hx rfl (hb hby d7_0) rfl ?_
    show Steps p.tables e below (s₁.setTop (mkF m 1 #[.val (.int p1), .val (.ref a2), .val (.ref a3), .val (.ref a4)] [(.int p1)])) _
    refine XS.ifYes X0.here hx rfl (pc0 := 1) (pc' := 6) rfl (hb hby d7_1) rfl ((if0 _ _).trans (feq hp0).2) (by decide) (by decide) ?_
    show Steps p.tables e below (s₁.setTop (mkF m 6 #[.val (.int p1), .val (.ref a2), .val (.ref a3), .val (.ref a4)] [])) _
    refine XS.iloadN X0.here hx rfl (hb hby d7_6) rfl ?_
    show Steps p.tables e below (s₁.setTop (mkF m 7 #[.val (.int p1), .val (.ref a2), .val (.ref a3), .val (.ref a4)] [(.int p1)])) _
    refine XS.iconst X0.here hx rfl (hb hby d7_7) ?_
    show Steps p.tables e below (s₁.setTop (mkF m 8 #[.val (.int p1), .val (.ref a2), .val (.ref a3), .val (.ref a4)] [(.int (1 : Int32)), (.int p1)])) _
    refine XS.icmpNo X0.here hx rfl (hb hby d7_8) rfl (teq hp1).2 ?_
    show Steps p.tables e below (s₁.setTop (mkF m 11 #[.val (.int p1), .val (.ref a2), .val (.ref a3), .val (.ref a4)] [])) _
    refine XS.aloadN X0.here hx rfl (hb hby d7_11) rfl rfl ?_
    show Steps p.tables e below (s₁.setTop (mkF m 12 #[.val (.int p1), .val (.ref a2), .val (.ref a3), .val (.ref a4)] [(.ref a3)])) _
    exact retOut X0 hx Bd.returns rfl (Or.inr (Or.inr (Or.inr (Or.inr ⟨rfl, rfl, rfl⟩)))) (hb hby d7_12) hr
  · show QK1 Z p1 a2 a3 a4 h0 n0 _ s₁.heap _
    rw [e0]
    exact ⟨rfl, N0, rfl⟩
def QK2 (Z : State) (p1 : Int32) (a2 : Addr) (a3 : Addr) (a4 : Addr) (h0 : Heap) (n0 : Nat) (v : Option Value) (h : Heap) (L : List Loc) : Prop := v = some (.ref a4) ∧ Fr n0 L ∧ h = h0
theorem ef_K2 (m : MethodId) (p1 : Int32) (a2 : Addr) (a3 : Addr) (a4 : Addr) : entryFrame m #[(.int p1), (.ref a2), (.ref a3), (.ref a4)] 4 = mkF m 0 #[.val (.int p1), .val (.ref a2), .val (.ref a3), .val (.ref a4)] [] := by first | (simp [entryFrame, mkF, argsToLocals, Value.category]; done) | rfl
set_option maxRecDepth 65536 in
set_option maxHeartbeats 40000000 in
theorem rmK2 (l : Launch) (Z : State) (a0 : Array Value) (hw : ∀ d ∈ tables_1, d.before a0 Z = true) (ws : List Jvm.Cond) (p1 : Int32) (a2 : Addr) (a3 : Addr) (a4 : Addr) (h0 : Heap) (n0 : Nat) (Zs : n0 ≤ h0.size) (hp0 : ¬ p1 = (0 : Int32)) (hp1 : ¬ p1 = (1 : Int32)) :
    MetFree l (⟨"com/example/regolo/regolo/engine/WorkSpentPinLaw", "pick", "(ILcom/example/regolo/regolo/engine/Work;Lcom/example/regolo/regolo/engine/Work;Lcom/example/regolo/regolo/engine/Work;)Lcom/example/regolo/regolo/engine/Work;"⟩ : MethodName) (head1 (Jvm.Cond.code (⟨"com/example/regolo/regolo/engine/WorkSpentPinLaw", "pick", "(ILcom/example/regolo/regolo/engine/Work;Lcom/example/regolo/regolo/engine/Work;Lcom/example/regolo/regolo/engine/Work;)Lcom/example/regolo/regolo/engine/Work;"⟩ : MethodName) method_2_code 4 (some (.object "com/example/regolo/regolo/engine/Work")) :: ws) ({ frames := 0, cells := 0, slots := 0, locals := 0 } : Room)) (fun a U => a = #[(.int p1), (.ref a2), (.ref a3), (.ref a4)] ∧ Z.Warmed39 U.vm ∧ U.heap = h0) (fun _ _ _ _ _ => True) (fun _ U o U' => ∃ v L, o = .returned v ∧ QK2 Z p1 a2 a3 a4 h0 n0 v U'.heap L ∧ FrameEnd U o U' L ({ frames := 0, cells := 0, slots := 0, locals := 0 } : Room).cells ({ frames := 0, cells := 0, slots := 0, locals := 0 } : Room).slots) := by
  refine MetFree.of_bodySF (plainFor_of_name pn_1) hisR ?_
  intro p e s m args below meth c s₁ Bd hml0 hP hK
  obtain ⟨rfl, hZ, hh⟩ := hP
  have hx := Bd.exec
  have hby := Bd.bytes
  have hml : c.maxLocals = 4 := hml0
  have hown : s.vm.findClass "com/example/regolo/regolo/engine/WorkSpentPinLaw" = some m.cls := findClass_of_methodNamed Bd.named
  have hnm := (name_of_methodNamed Bd.named Bd.method).1
  have X0 : Stand p l e ({ frames := 0, cells := 0, slots := 0, locals := 0 } : Room) s m #[(.int p1), (.ref a2), (.ref a3), (.ref a4)] below meth c s₁ [] 0 0 := Stand.of_body Bd
  have e0 : s₁.heap = h0 := by rw [← hh, Bd.state]; rfl
  have N0 := Fr.nil n0
  have pre0 : ∀ t, Steps p.tables e below (s₁.setTop (mkF m 0 #[.val (.int p1), .val (.ref a2), .val (.ref a3), .val (.ref a4)] [])) t → Steps p.tables e below (s₁.setTop (entryFrame m #[(.int p1), (.ref a2), (.ref a3), (.ref a4)] 4)) t := fun t k => castTop (ef_K2 m p1 a2 a3 a4) k
  obtain ⟨fs, hr, hrun, hended, hW, hsame⟩ := X0.leave (v := some (.ref a4)) (fun h => by rw [Bd.returns] at h; cases h)
  refine ⟨_, _, pre0 _ ?_, hrun, hended, _, _, rfl, ?_, ⟨_, rfl⟩, hW, hsame.mono (by decide) (by decide)⟩
  · show Steps p.tables e below (s₁.setTop (mkF m 0 #[.val (.int p1), .val (.ref a2), .val (.ref a3), .val (.ref a4)] [])) _
    refine XS.iloadN X0.here hx rfl (hb hby d7_0) rfl ?_
    show Steps p.tables e below (s₁.setTop (mkF m 1 #[.val (.int p1), .val (.ref a2), .val (.ref a3), .val (.ref a4)] [(.int p1)])) _
    refine XS.ifYes X0.here hx rfl (pc0 := 1) (pc' := 6) rfl (hb hby d7_1) rfl ((if0 _ _).trans (feq hp0).2) (by decide) (by decide) ?_
    show Steps p.tables e below (s₁.setTop (mkF m 6 #[.val (.int p1), .val (.ref a2), .val (.ref a3), .val (.ref a4)] [])) _
    refine XS.iloadN X0.here hx rfl (hb hby d7_6) rfl ?_
    show Steps p.tables e below (s₁.setTop (mkF m 7 #[.val (.int p1), .val (.ref a2), .val (.ref a3), .val (.ref a4)] [(.int p1)])) _
    refine XS.iconst X0.here hx rfl (hb hby d7_7) ?_
    show Steps p.tables e below (s₁.setTop (mkF m 8 #[.val (.int p1), .val (.ref a2), .val (.ref a3), .val (.ref a4)] [(.int (1 : Int32)), (.int p1)])) _
    refine XS.icmpYes X0.here hx rfl (pc0 := 8) (pc' := 13) rfl (hb hby d7_8) rfl (feq hp1).2 (by decide) (by decide) ?_
    show Steps p.tables e below (s₁.setTop (mkF m 13 #[.val (.int p1), .val (.ref a2), .val (.ref a3), .val (.ref a4)] [])) _
    refine XS.aloadN X0.here hx rfl (hb hby d7_13) rfl rfl ?_
    show Steps p.tables e below (s₁.setTop (mkF m 14 #[.val (.int p1), .val (.ref a2), .val (.ref a3), .val (.ref a4)] [(.ref a4)])) _
    exact retOut X0 hx Bd.returns rfl (Or.inr (Or.inr (Or.inr (Or.inr ⟨rfl, rfl, rfl⟩)))) (hb hby d7_14) hr
  · show QK2 Z p1 a2 a3 a4 h0 n0 _ s₁.heap _
    rw [e0]
    exact ⟨rfl, N0, rfl⟩
def Q0 (Z : State) (q1 : Int64) (q2 : Int64) (q3 : Int64) (p4 : Int32) (p5 : Int32) (p6 : Int32) (h0 : Heap) (n0 : Nat) (v : Option Value) (h : Heap) (L : List Loc) : Prop := v = some (.int (1 : Int32)) ∧ Fr n0 L
theorem ef_0 (m : MethodId) (q1 : Int64) (q2 : Int64) (q3 : Int64) (p4 : Int32) (p5 : Int32) (p6 : Int32) : entryFrame m #[(.long q1), (.long q2), (.long q3), (.int p4), (.int p5), (.int p6)] maxLocals = mkF m 0 #[.val (.long q1), .second, .val (.long q2), .second, .val (.long q3), .second, .val (.int p4), .val (.int p5), .val (.int p6), .unset, .unset, .unset, .unset, .unset, .unset, .unset, .unset, .unset, .unset, .unset, .unset, .unset, .unset, .unset, .unset, .unset, .unset, .unset, .unset, .unset, .unset, .unset, .unset, .unset, .unset, .unset, .unset, .unset] [] := by first | (simp [entryFrame, mkF, argsToLocals, Value.category, maxLocals]; done) | rfl
set_option maxRecDepth 65536 in
set_option maxHeartbeats 40000000 in
theorem rm0 (l : Launch) (Z : State) (a0 : Array Value) (hw : ∀ d ∈ tables_1, d.before a0 Z = true) (ws : List Jvm.Cond) (q1 : Int64) (q2 : Int64) (q3 : Int64) (p4 : Int32) (p5 : Int32) (p6 : Int32) (h0 : Heap) (n0 : Nat) (Zs : n0 ≤ h0.size)  :
    MetFree l x (head1 (Jvm.Cond.code x code maxLocals ret :: ws) room_1) (fun a U => a = #[(.long q1), (.long q2), (.long q3), (.int p4), (.int p5), (.int p6)] ∧ Z.Warmed39 U.vm ∧ U.heap = h0) (fun _ _ _ _ _ => True) (fun _ U o U' => ∃ v L, o = .returned v ∧ Q0 Z q1 q2 q3 p4 p5 p6 h0 n0 v U'.heap L ∧ FrameEnd U o U' L room_1.cells room_1.slots) := by
  refine MetFree.of_bodySF (plainFor_of_name pn_1) hisR ?_
  intro p e s m args below meth c s₁ Bd hml0 hP hK
  obtain ⟨rfl, hZ, hh⟩ := hP
  have hx := Bd.exec
  have hby := Bd.bytes
  have hml : c.maxLocals = 38 := hml0
  have hown : s.vm.findClass "com/example/regolo/regolo/engine/WorkSpentPinLaw" = some m.cls := findClass_of_methodNamed Bd.named
  have hnm := (name_of_methodNamed Bd.named Bd.method).1
  have X0 : Stand p l e room_1 s m #[(.long q1), (.long q2), (.long q3), (.int p4), (.int p5), (.int p6)] below meth c s₁ [] 0 0 := Stand.of_body Bd
  have e0 : s₁.heap = h0 := by rw [← hh, Bd.state]; rfl
  have N0 := Fr.nil n0
  have pre0 : ∀ t, Steps p.tables e below (s₁.setTop (mkF m 0 #[.val (.long q1), .second, .val (.long q2), .second, .val (.long q3), .second, .val (.int p4), .val (.int p5), .val (.int p6), .unset, .unset, .unset, .unset, .unset, .unset, .unset, .unset, .unset, .unset, .unset, .unset, .unset, .unset, .unset, .unset, .unset, .unset, .unset, .unset, .unset, .unset, .unset, .unset, .unset, .unset, .unset, .unset, .unset] [])) t → Steps p.tables e below (s₁.setTop (entryFrame m #[(.long q1), (.long q2), (.long q3), (.int p4), (.int p5), (.int p6)] maxLocals)) t := fun t k => castTop (ef_0 m q1 q2 q3 p4 p5 p6) k
  obtain ⟨v3, hv3⟩ : ∃ z : Int64, z = (q1 >>> ((1 : Int32) &&& 0x3f).toInt64) := ⟨_, rfl⟩
  have pre39 : ∀ t, Steps p.tables e below (s₁.setTop (mkF m 5 #[.val (.long q1), .second, .val (.long q2), .second, .val (.long q3), .second, .val (.int p4), .val (.int p5), .val (.int p6), .val (.long v3), .second, .unset, .unset, .unset, .unset, .unset, .unset, .unset, .unset, .unset, .unset, .unset, .unset, .unset, .unset, .unset, .unset, .unset, .unset, .unset, .unset, .unset, .unset, .unset, .unset, .unset, .unset, .unset] [])) t → Steps p.tables e below (s₁.setTop (entryFrame m #[(.long q1), (.long q2), (.long q3), (.int p4), (.int p5), (.int p6)] maxLocals)) t := fun t k => pre0 t (by
    show Steps p.tables e below (s₁.setTop (mkF m 0 #[.val (.long q1), .second, .val (.long q2), .second, .val (.long q3), .second, .val (.int p4), .val (.int p5), .val (.int p6), .unset, .unset, .unset, .unset, .unset, .unset, .unset, .unset, .unset, .unset, .unset, .unset, .unset, .unset, .unset, .unset, .unset, .unset, .unset, .unset, .unset, .unset, .unset, .unset, .unset, .unset, .unset, .unset, .unset] [])) _
    refine XS.lloadN X0.here hx rfl (hb hby at_0) rfl ?_
    show Steps p.tables e below (s₁.setTop (mkF m 1 #[.val (.long q1), .second, .val (.long q2), .second, .val (.long q3), .second, .val (.int p4), .val (.int p5), .val (.int p6), .unset, .unset, .unset, .unset, .unset, .unset, .unset, .unset, .unset, .unset, .unset, .unset, .unset, .unset, .unset, .unset, .unset, .unset, .unset, .unset, .unset, .unset, .unset, .unset, .unset, .unset, .unset, .unset, .unset] [(.long q1)])) _
    refine XS.iconst X0.here hx rfl (hb hby at_1) ?_
    show Steps p.tables e below (s₁.setTop (mkF m 2 #[.val (.long q1), .second, .val (.long q2), .second, .val (.long q3), .second, .val (.int p4), .val (.int p5), .val (.int p6), .unset, .unset, .unset, .unset, .unset, .unset, .unset, .unset, .unset, .unset, .unset, .unset, .unset, .unset, .unset, .unset, .unset, .unset, .unset, .unset, .unset, .unset, .unset, .unset, .unset, .unset, .unset, .unset, .unset] [(.int (1 : Int32)), (.long q1)])) _
    refine XS.lshr X0.here hx rfl (hb hby at_2) rfl ?_
    show Steps p.tables e below (s₁.setTop (mkF m 3 #[.val (.long q1), .second, .val (.long q2), .second, .val (.long q3), .second, .val (.int p4), .val (.int p5), .val (.int p6), .unset, .unset, .unset, .unset, .unset, .unset, .unset, .unset, .unset, .unset, .unset, .unset, .unset, .unset, .unset, .unset, .unset, .unset, .unset, .unset, .unset, .unset, .unset, .unset, .unset, .unset, .unset, .unset, .unset] [(.long (q1 >>> ((1 : Int32) &&& 0x3f).toInt64))])) _
    refine XS.lstore X0.here hx rfl (hb hby at_3) rfl (l' := #[.val (.long q1), .second, .val (.long q2), .second, .val (.long q3), .second, .val (.int p4), .val (.int p5), .val (.int p6), .val (.long (q1 >>> ((1 : Int32) &&& 0x3f).toInt64)), .second, .unset, .unset, .unset, .unset, .unset, .unset, .unset, .unset, .unset, .unset, .unset, .unset, .unset, .unset, .unset, .unset, .unset, .unset, .unset, .unset, .unset, .unset, .unset, .unset, .unset, .unset, .unset]) rfl ?_
    rw [hv3] at k
    exact k)
  obtain ⟨v8, hv8⟩ : ∃ z : Int64, z = (q2 >>> ((1 : Int32) &&& 0x3f).toInt64) := ⟨_, rfl⟩
  have pre40 : ∀ t, Steps p.tables e below (s₁.setTop (mkF m 10 #[.val (.long q1), .second, .val (.long q2), .second, .val (.long q3), .second, .val (.int p4), .val (.int p5), .val (.int p6), .val (.long v3), .second, .val (.long v8), .second, .unset, .unset, .unset, .unset, .unset, .unset, .unset, .unset, .unset, .unset, .unset, .unset, .unset, .unset, .unset, .unset, .unset, .unset, .unset, .unset, .unset, .unset, .unset, .unset, .unset] [])) t → Steps p.tables e below (s₁.setTop (entryFrame m #[(.long q1), (.long q2), (.long q3), (.int p4), (.int p5), (.int p6)] maxLocals)) t := fun t k => pre39 t (by
    show Steps p.tables e below (s₁.setTop (mkF m 5 #[.val (.long q1), .second, .val (.long q2), .second, .val (.long q3), .second, .val (.int p4), .val (.int p5), .val (.int p6), .val (.long v3), .second, .unset, .unset, .unset, .unset, .unset, .unset, .unset, .unset, .unset, .unset, .unset, .unset, .unset, .unset, .unset, .unset, .unset, .unset, .unset, .unset, .unset, .unset, .unset, .unset, .unset, .unset, .unset] [])) _
    refine XS.lloadN X0.here hx rfl (hb hby at_5) rfl ?_
    show Steps p.tables e below (s₁.setTop (mkF m 6 #[.val (.long q1), .second, .val (.long q2), .second, .val (.long q3), .second, .val (.int p4), .val (.int p5), .val (.int p6), .val (.long v3), .second, .unset, .unset, .unset, .unset, .unset, .unset, .unset, .unset, .unset, .unset, .unset, .unset, .unset, .unset, .unset, .unset, .unset, .unset, .unset, .unset, .unset, .unset, .unset, .unset, .unset, .unset, .unset] [(.long q2)])) _
    refine XS.iconst X0.here hx rfl (hb hby at_6) ?_
    show Steps p.tables e below (s₁.setTop (mkF m 7 #[.val (.long q1), .second, .val (.long q2), .second, .val (.long q3), .second, .val (.int p4), .val (.int p5), .val (.int p6), .val (.long v3), .second, .unset, .unset, .unset, .unset, .unset, .unset, .unset, .unset, .unset, .unset, .unset, .unset, .unset, .unset, .unset, .unset, .unset, .unset, .unset, .unset, .unset, .unset, .unset, .unset, .unset, .unset, .unset] [(.int (1 : Int32)), (.long q2)])) _
    refine XS.lshr X0.here hx rfl (hb hby at_7) rfl ?_
    show Steps p.tables e below (s₁.setTop (mkF m 8 #[.val (.long q1), .second, .val (.long q2), .second, .val (.long q3), .second, .val (.int p4), .val (.int p5), .val (.int p6), .val (.long v3), .second, .unset, .unset, .unset, .unset, .unset, .unset, .unset, .unset, .unset, .unset, .unset, .unset, .unset, .unset, .unset, .unset, .unset, .unset, .unset, .unset, .unset, .unset, .unset, .unset, .unset, .unset, .unset] [(.long (q2 >>> ((1 : Int32) &&& 0x3f).toInt64))])) _
    refine XS.lstore X0.here hx rfl (hb hby at_8) rfl (l' := #[.val (.long q1), .second, .val (.long q2), .second, .val (.long q3), .second, .val (.int p4), .val (.int p5), .val (.int p6), .val (.long v3), .second, .val (.long (q2 >>> ((1 : Int32) &&& 0x3f).toInt64)), .second, .unset, .unset, .unset, .unset, .unset, .unset, .unset, .unset, .unset, .unset, .unset, .unset, .unset, .unset, .unset, .unset, .unset, .unset, .unset, .unset, .unset, .unset, .unset, .unset, .unset]) rfl ?_
    rw [hv8] at k
    exact k)
  obtain ⟨v14, hv14⟩ : ∃ z : Int64, z = (q3 >>> ((1 : Int32) &&& 0x3f).toInt64) := ⟨_, rfl⟩
  have pre41 : ∀ t, Steps p.tables e below (s₁.setTop (mkF m 16 #[.val (.long q1), .second, .val (.long q2), .second, .val (.long q3), .second, .val (.int p4), .val (.int p5), .val (.int p6), .val (.long v3), .second, .val (.long v8), .second, .val (.long v14), .second, .unset, .unset, .unset, .unset, .unset, .unset, .unset, .unset, .unset, .unset, .unset, .unset, .unset, .unset, .unset, .unset, .unset, .unset, .unset, .unset, .unset, .unset, .unset] [])) t → Steps p.tables e below (s₁.setTop (entryFrame m #[(.long q1), (.long q2), (.long q3), (.int p4), (.int p5), (.int p6)] maxLocals)) t := fun t k => pre40 t (by
    show Steps p.tables e below (s₁.setTop (mkF m 10 #[.val (.long q1), .second, .val (.long q2), .second, .val (.long q3), .second, .val (.int p4), .val (.int p5), .val (.int p6), .val (.long v3), .second, .val (.long v8), .second, .unset, .unset, .unset, .unset, .unset, .unset, .unset, .unset, .unset, .unset, .unset, .unset, .unset, .unset, .unset, .unset, .unset, .unset, .unset, .unset, .unset, .unset, .unset, .unset, .unset] [])) _
    refine XS.lload X0.here hx rfl (hb hby at_10) rfl ?_
    show Steps p.tables e below (s₁.setTop (mkF m 12 #[.val (.long q1), .second, .val (.long q2), .second, .val (.long q3), .second, .val (.int p4), .val (.int p5), .val (.int p6), .val (.long v3), .second, .val (.long v8), .second, .unset, .unset, .unset, .unset, .unset, .unset, .unset, .unset, .unset, .unset, .unset, .unset, .unset, .unset, .unset, .unset, .unset, .unset, .unset, .unset, .unset, .unset, .unset, .unset, .unset] [(.long q3)])) _
    refine XS.iconst X0.here hx rfl (hb hby at_12) ?_
    show Steps p.tables e below (s₁.setTop (mkF m 13 #[.val (.long q1), .second, .val (.long q2), .second, .val (.long q3), .second, .val (.int p4), .val (.int p5), .val (.int p6), .val (.long v3), .second, .val (.long v8), .second, .unset, .unset, .unset, .unset, .unset, .unset, .unset, .unset, .unset, .unset, .unset, .unset, .unset, .unset, .unset, .unset, .unset, .unset, .unset, .unset, .unset, .unset, .unset, .unset, .unset] [(.int (1 : Int32)), (.long q3)])) _
    refine XS.lshr X0.here hx rfl (hb hby at_13) rfl ?_
    show Steps p.tables e below (s₁.setTop (mkF m 14 #[.val (.long q1), .second, .val (.long q2), .second, .val (.long q3), .second, .val (.int p4), .val (.int p5), .val (.int p6), .val (.long v3), .second, .val (.long v8), .second, .unset, .unset, .unset, .unset, .unset, .unset, .unset, .unset, .unset, .unset, .unset, .unset, .unset, .unset, .unset, .unset, .unset, .unset, .unset, .unset, .unset, .unset, .unset, .unset, .unset] [(.long (q3 >>> ((1 : Int32) &&& 0x3f).toInt64))])) _
    refine XS.lstore X0.here hx rfl (hb hby at_14) rfl (l' := #[.val (.long q1), .second, .val (.long q2), .second, .val (.long q3), .second, .val (.int p4), .val (.int p5), .val (.int p6), .val (.long v3), .second, .val (.long v8), .second, .val (.long (q3 >>> ((1 : Int32) &&& 0x3f).toInt64)), .second, .unset, .unset, .unset, .unset, .unset, .unset, .unset, .unset, .unset, .unset, .unset, .unset, .unset, .unset, .unset, .unset, .unset, .unset, .unset, .unset, .unset, .unset, .unset]) rfl ?_
    rw [hv14] at k
    exact k)
  obtain ⟨v23, hv23⟩ : ∃ z : Int64, z = ((p4.toInt64) &&& (2147483647 : Int64)) := ⟨_, rfl⟩
  have pre42 : ∀ t, Steps p.tables e below (s₁.setTop (mkF m 25 #[.val (.long q1), .second, .val (.long q2), .second, .val (.long q3), .second, .val (.int p4), .val (.int p5), .val (.int p6), .val (.long v3), .second, .val (.long v8), .second, .val (.long v14), .second, .val (.long v23), .second, .unset, .unset, .unset, .unset, .unset, .unset, .unset, .unset, .unset, .unset, .unset, .unset, .unset, .unset, .unset, .unset, .unset, .unset, .unset, .unset, .unset] [])) t → Steps p.tables e below (s₁.setTop (entryFrame m #[(.long q1), (.long q2), (.long q3), (.int p4), (.int p5), (.int p6)] maxLocals)) t := fun t k => pre41 t (by
    show Steps p.tables e below (s₁.setTop (mkF m 16 #[.val (.long q1), .second, .val (.long q2), .second, .val (.long q3), .second, .val (.int p4), .val (.int p5), .val (.int p6), .val (.long v3), .second, .val (.long v8), .second, .val (.long v14), .second, .unset, .unset, .unset, .unset, .unset, .unset, .unset, .unset, .unset, .unset, .unset, .unset, .unset, .unset, .unset, .unset, .unset, .unset, .unset, .unset, .unset, .unset, .unset] [])) _
    refine XS.iload X0.here hx rfl (hb hby at_16) rfl ?_
    show Steps p.tables e below (s₁.setTop (mkF m 18 #[.val (.long q1), .second, .val (.long q2), .second, .val (.long q3), .second, .val (.int p4), .val (.int p5), .val (.int p6), .val (.long v3), .second, .val (.long v8), .second, .val (.long v14), .second, .unset, .unset, .unset, .unset, .unset, .unset, .unset, .unset, .unset, .unset, .unset, .unset, .unset, .unset, .unset, .unset, .unset, .unset, .unset, .unset, .unset, .unset, .unset] [(.int p4)])) _
    refine XS.i2l X0.here hx rfl (hb hby at_18) rfl ?_
    show Steps p.tables e below (s₁.setTop (mkF m 19 #[.val (.long q1), .second, .val (.long q2), .second, .val (.long q3), .second, .val (.int p4), .val (.int p5), .val (.int p6), .val (.long v3), .second, .val (.long v8), .second, .val (.long v14), .second, .unset, .unset, .unset, .unset, .unset, .unset, .unset, .unset, .unset, .unset, .unset, .unset, .unset, .unset, .unset, .unset, .unset, .unset, .unset, .unset, .unset, .unset, .unset] [(.long (p4.toInt64))])) _
    refine X0.ldc2Long hx hown (mvT hZ (hw _ (List.mem_of_getElem? (i := 0) rfl))) (g := (mkF m 19 #[.val (.long q1), .second, .val (.long q2), .second, .val (.long q3), .second, .val (.int p4), .val (.int p5), .val (.int p6), .val (.long v3), .second, .val (.long v8), .second, .val (.long v14), .second, .unset, .unset, .unset, .unset, .unset, .unset, .unset, .unset, .unset, .unset, .unset, .unset, .unset, .unset, .unset, .unset, .unset, .unset, .unset, .unset, .unset, .unset, .unset] [(.long (p4.toInt64))])) rfl (hb hby at_19) _ ?_
    show Steps p.tables e below (s₁.setTop (mkF m 22 #[.val (.long q1), .second, .val (.long q2), .second, .val (.long q3), .second, .val (.int p4), .val (.int p5), .val (.int p6), .val (.long v3), .second, .val (.long v8), .second, .val (.long v14), .second, .unset, .unset, .unset, .unset, .unset, .unset, .unset, .unset, .unset, .unset, .unset, .unset, .unset, .unset, .unset, .unset, .unset, .unset, .unset, .unset, .unset, .unset, .unset] [(.long (2147483647 : Int64)), (.long (p4.toInt64))])) _
    refine XS.land X0.here hx rfl (hb hby at_22) rfl ?_
    show Steps p.tables e below (s₁.setTop (mkF m 23 #[.val (.long q1), .second, .val (.long q2), .second, .val (.long q3), .second, .val (.int p4), .val (.int p5), .val (.int p6), .val (.long v3), .second, .val (.long v8), .second, .val (.long v14), .second, .unset, .unset, .unset, .unset, .unset, .unset, .unset, .unset, .unset, .unset, .unset, .unset, .unset, .unset, .unset, .unset, .unset, .unset, .unset, .unset, .unset, .unset, .unset] [(.long ((p4.toInt64) &&& (2147483647 : Int64)))])) _
    refine XS.lstore X0.here hx rfl (hb hby at_23) rfl (l' := #[.val (.long q1), .second, .val (.long q2), .second, .val (.long q3), .second, .val (.int p4), .val (.int p5), .val (.int p6), .val (.long v3), .second, .val (.long v8), .second, .val (.long v14), .second, .val (.long ((p4.toInt64) &&& (2147483647 : Int64))), .second, .unset, .unset, .unset, .unset, .unset, .unset, .unset, .unset, .unset, .unset, .unset, .unset, .unset, .unset, .unset, .unset, .unset, .unset, .unset, .unset, .unset]) rfl ?_
    rw [hv23] at k
    exact k)
  obtain ⟨v32, hv32⟩ : ∃ z : Int64, z = ((p5.toInt64) &&& (2147483647 : Int64)) := ⟨_, rfl⟩
  have pre43 : ∀ t, Steps p.tables e below (s₁.setTop (mkF m 34 #[.val (.long q1), .second, .val (.long q2), .second, .val (.long q3), .second, .val (.int p4), .val (.int p5), .val (.int p6), .val (.long v3), .second, .val (.long v8), .second, .val (.long v14), .second, .val (.long v23), .second, .val (.long v32), .second, .unset, .unset, .unset, .unset, .unset, .unset, .unset, .unset, .unset, .unset, .unset, .unset, .unset, .unset, .unset, .unset, .unset, .unset, .unset] [])) t → Steps p.tables e below (s₁.setTop (entryFrame m #[(.long q1), (.long q2), (.long q3), (.int p4), (.int p5), (.int p6)] maxLocals)) t := fun t k => pre42 t (by
    show Steps p.tables e below (s₁.setTop (mkF m 25 #[.val (.long q1), .second, .val (.long q2), .second, .val (.long q3), .second, .val (.int p4), .val (.int p5), .val (.int p6), .val (.long v3), .second, .val (.long v8), .second, .val (.long v14), .second, .val (.long v23), .second, .unset, .unset, .unset, .unset, .unset, .unset, .unset, .unset, .unset, .unset, .unset, .unset, .unset, .unset, .unset, .unset, .unset, .unset, .unset, .unset, .unset] [])) _
    refine XS.iload X0.here hx rfl (hb hby at_25) rfl ?_
    show Steps p.tables e below (s₁.setTop (mkF m 27 #[.val (.long q1), .second, .val (.long q2), .second, .val (.long q3), .second, .val (.int p4), .val (.int p5), .val (.int p6), .val (.long v3), .second, .val (.long v8), .second, .val (.long v14), .second, .val (.long v23), .second, .unset, .unset, .unset, .unset, .unset, .unset, .unset, .unset, .unset, .unset, .unset, .unset, .unset, .unset, .unset, .unset, .unset, .unset, .unset, .unset, .unset] [(.int p5)])) _
    refine XS.i2l X0.here hx rfl (hb hby at_27) rfl ?_
    show Steps p.tables e below (s₁.setTop (mkF m 28 #[.val (.long q1), .second, .val (.long q2), .second, .val (.long q3), .second, .val (.int p4), .val (.int p5), .val (.int p6), .val (.long v3), .second, .val (.long v8), .second, .val (.long v14), .second, .val (.long v23), .second, .unset, .unset, .unset, .unset, .unset, .unset, .unset, .unset, .unset, .unset, .unset, .unset, .unset, .unset, .unset, .unset, .unset, .unset, .unset, .unset, .unset] [(.long (p5.toInt64))])) _
    refine X0.ldc2Long hx hown (mvT hZ (hw _ (List.mem_of_getElem? (i := 0) rfl))) (g := (mkF m 28 #[.val (.long q1), .second, .val (.long q2), .second, .val (.long q3), .second, .val (.int p4), .val (.int p5), .val (.int p6), .val (.long v3), .second, .val (.long v8), .second, .val (.long v14), .second, .val (.long v23), .second, .unset, .unset, .unset, .unset, .unset, .unset, .unset, .unset, .unset, .unset, .unset, .unset, .unset, .unset, .unset, .unset, .unset, .unset, .unset, .unset, .unset] [(.long (p5.toInt64))])) rfl (hb hby at_28) _ ?_
    show Steps p.tables e below (s₁.setTop (mkF m 31 #[.val (.long q1), .second, .val (.long q2), .second, .val (.long q3), .second, .val (.int p4), .val (.int p5), .val (.int p6), .val (.long v3), .second, .val (.long v8), .second, .val (.long v14), .second, .val (.long v23), .second, .unset, .unset, .unset, .unset, .unset, .unset, .unset, .unset, .unset, .unset, .unset, .unset, .unset, .unset, .unset, .unset, .unset, .unset, .unset, .unset, .unset] [(.long (2147483647 : Int64)), (.long (p5.toInt64))])) _
    refine XS.land X0.here hx rfl (hb hby at_31) rfl ?_
    show Steps p.tables e below (s₁.setTop (mkF m 32 #[.val (.long q1), .second, .val (.long q2), .second, .val (.long q3), .second, .val (.int p4), .val (.int p5), .val (.int p6), .val (.long v3), .second, .val (.long v8), .second, .val (.long v14), .second, .val (.long v23), .second, .unset, .unset, .unset, .unset, .unset, .unset, .unset, .unset, .unset, .unset, .unset, .unset, .unset, .unset, .unset, .unset, .unset, .unset, .unset, .unset, .unset] [(.long ((p5.toInt64) &&& (2147483647 : Int64)))])) _
    refine XS.lstore X0.here hx rfl (hb hby at_32) rfl (l' := #[.val (.long q1), .second, .val (.long q2), .second, .val (.long q3), .second, .val (.int p4), .val (.int p5), .val (.int p6), .val (.long v3), .second, .val (.long v8), .second, .val (.long v14), .second, .val (.long v23), .second, .val (.long ((p5.toInt64) &&& (2147483647 : Int64))), .second, .unset, .unset, .unset, .unset, .unset, .unset, .unset, .unset, .unset, .unset, .unset, .unset, .unset, .unset, .unset, .unset, .unset, .unset, .unset]) rfl ?_
    rw [hv32] at k
    exact k)
  obtain ⟨_, _, ⟨T44, L44, k44, n44⟩, -, X44, ⟨Lc44, hQ44, l44, y44, z44⟩, st44⟩ := Jvm.LawKit.callS X0 hx (y := (⟨"java/lang/Math", "min", "(II)I"⟩ : MethodName)) hown (mvT hZ (hw _ (List.mem_of_getElem? (i := 1) rfl))) (mvT hZ (hw _ (List.mem_of_getElem? (i := 2) rfl))) (mvT hZ (hw _ (List.mem_of_getElem? (i := 3) rfl))) (mvT hZ (hw _ (List.mem_of_getElem? (i := 4) rfl))) (by decide) (backOf (W := 0) (rmM l Z a0 hw [] (p6 &&& (3 : Int32)) (2 : Int32) h0 n0 Zs ) hZ (hw _ (List.mem_of_getElem? (i := 4) rfl)) (hw _ (List.mem_of_getElem? (i := 3) rfl)) (by decide) (by decide)) (g := (mkF m 39 #[.val (.long q1), .second, .val (.long q2), .second, .val (.long q3), .second, .val (.int p4), .val (.int p5), .val (.int p6), .val (.long v3), .second, .val (.long v8), .second, .val (.long v14), .second, .val (.long v23), .second, .val (.long v32), .second, .unset, .unset, .unset, .unset, .unset, .unset, .unset, .unset, .unset, .unset, .unset, .unset, .unset, .unset, .unset, .unset, .unset, .unset, .unset] [(.int (2 : Int32)), (.int (p6 &&& (3 : Int32)))])) rfl (by rw [hml]; rfl) (argsL := [(.int (p6 &&& (3 : Int32))), (.int (2 : Int32))]) (rest := []) (lenOf pd_3 rfl) rfl (by show 2 * 0 + _ ≤ _; exact Nat.le_of_eq rfl) (hb hby at_39) (fun _ _ => ⟨rfl, e0, (by decide : 0 + 0 ≤ _), (by decide : 0 + 0 ≤ _)⟩)
  dsimp only [Pt.U, Pt.locs, Pt.cells, Pt.slots] at X44 l44 y44 z44 st44 hQ44
  subst l44 y44 z44
  obtain ⟨rfl, N44q, e44⟩ := hQ44
  have N44 := Fr.app N0 N44q
  obtain ⟨v42, hv42⟩ : ∃ z : Int32, z = (fM (p6 &&& (3 : Int32)) (2 : Int32)) := ⟨_, rfl⟩
  have pre45 : ∀ t, Steps p.tables e below (T44.setTop (mkF m 44 #[.val (.long q1), .second, .val (.long q2), .second, .val (.long q3), .second, .val (.int p4), .val (.int p5), .val (.int p6), .val (.long v3), .second, .val (.long v8), .second, .val (.long v14), .second, .val (.long v23), .second, .val (.long v32), .second, .val (.int v42), .unset, .unset, .unset, .unset, .unset, .unset, .unset, .unset, .unset, .unset, .unset, .unset, .unset, .unset, .unset, .unset, .unset, .unset] [])) t → Steps p.tables e below (s₁.setTop (entryFrame m #[(.long q1), (.long q2), (.long q3), (.int p4), (.int p5), (.int p6)] maxLocals)) t := fun t k => pre43 t (by
    show Steps p.tables e below (s₁.setTop (mkF m 34 #[.val (.long q1), .second, .val (.long q2), .second, .val (.long q3), .second, .val (.int p4), .val (.int p5), .val (.int p6), .val (.long v3), .second, .val (.long v8), .second, .val (.long v14), .second, .val (.long v23), .second, .val (.long v32), .second, .unset, .unset, .unset, .unset, .unset, .unset, .unset, .unset, .unset, .unset, .unset, .unset, .unset, .unset, .unset, .unset, .unset, .unset, .unset] [])) _
    refine XS.iload X0.here hx rfl (hb hby at_34) rfl ?_
    show Steps p.tables e below (s₁.setTop (mkF m 36 #[.val (.long q1), .second, .val (.long q2), .second, .val (.long q3), .second, .val (.int p4), .val (.int p5), .val (.int p6), .val (.long v3), .second, .val (.long v8), .second, .val (.long v14), .second, .val (.long v23), .second, .val (.long v32), .second, .unset, .unset, .unset, .unset, .unset, .unset, .unset, .unset, .unset, .unset, .unset, .unset, .unset, .unset, .unset, .unset, .unset, .unset, .unset] [(.int p6)])) _
    refine XS.iconst X0.here hx rfl (hb hby at_36) ?_
    show Steps p.tables e below (s₁.setTop (mkF m 37 #[.val (.long q1), .second, .val (.long q2), .second, .val (.long q3), .second, .val (.int p4), .val (.int p5), .val (.int p6), .val (.long v3), .second, .val (.long v8), .second, .val (.long v14), .second, .val (.long v23), .second, .val (.long v32), .second, .unset, .unset, .unset, .unset, .unset, .unset, .unset, .unset, .unset, .unset, .unset, .unset, .unset, .unset, .unset, .unset, .unset, .unset, .unset] [(.int (3 : Int32)), (.int p6)])) _
    refine XS.iand X0.here hx rfl (hb hby at_37) rfl ?_
    show Steps p.tables e below (s₁.setTop (mkF m 38 #[.val (.long q1), .second, .val (.long q2), .second, .val (.long q3), .second, .val (.int p4), .val (.int p5), .val (.int p6), .val (.long v3), .second, .val (.long v8), .second, .val (.long v14), .second, .val (.long v23), .second, .val (.long v32), .second, .unset, .unset, .unset, .unset, .unset, .unset, .unset, .unset, .unset, .unset, .unset, .unset, .unset, .unset, .unset, .unset, .unset, .unset, .unset] [(.int (p6 &&& (3 : Int32)))])) _
    refine XS.iconst X0.here hx rfl (hb hby at_38) ?_
    show Steps p.tables e below (s₁.setTop (mkF m 39 #[.val (.long q1), .second, .val (.long q2), .second, .val (.long q3), .second, .val (.int p4), .val (.int p5), .val (.int p6), .val (.long v3), .second, .val (.long v8), .second, .val (.long v14), .second, .val (.long v23), .second, .val (.long v32), .second, .unset, .unset, .unset, .unset, .unset, .unset, .unset, .unset, .unset, .unset, .unset, .unset, .unset, .unset, .unset, .unset, .unset, .unset, .unset] [(.int (2 : Int32)), (.int (p6 &&& (3 : Int32)))])) _
    refine st44 _ ?_
    show Steps p.tables e below (T44.setTop (mkF m 42 #[.val (.long q1), .second, .val (.long q2), .second, .val (.long q3), .second, .val (.int p4), .val (.int p5), .val (.int p6), .val (.long v3), .second, .val (.long v8), .second, .val (.long v14), .second, .val (.long v23), .second, .val (.long v32), .second, .unset, .unset, .unset, .unset, .unset, .unset, .unset, .unset, .unset, .unset, .unset, .unset, .unset, .unset, .unset, .unset, .unset, .unset, .unset] [(.int (fM (p6 &&& (3 : Int32)) (2 : Int32)))])) _
    refine XS.istore X44.here hx rfl (hb hby at_42) rfl (l' := #[.val (.long q1), .second, .val (.long q2), .second, .val (.long q3), .second, .val (.int p4), .val (.int p5), .val (.int p6), .val (.long v3), .second, .val (.long v8), .second, .val (.long v14), .second, .val (.long v23), .second, .val (.long v32), .second, .val (.int (fM (p6 &&& (3 : Int32)) (2 : Int32))), .unset, .unset, .unset, .unset, .unset, .unset, .unset, .unset, .unset, .unset, .unset, .unset, .unset, .unset, .unset, .unset, .unset, .unset]) rfl ?_
    rw [hv42] at k
    exact k)
  obtain ⟨_, _, ⟨T46, L46, k46, n46⟩, -, X46, ⟨Lc46, hQ46, l46, y46, z46⟩, st46⟩ := Jvm.LawKit.callS X44 hx (y := (⟨"java/lang/Math", "min", "(II)I"⟩ : MethodName)) hown (mvT hZ (hw _ (List.mem_of_getElem? (i := 1) rfl))) (mvT hZ (hw _ (List.mem_of_getElem? (i := 2) rfl))) (mvT hZ (hw _ (List.mem_of_getElem? (i := 3) rfl))) (mvT hZ (hw _ (List.mem_of_getElem? (i := 4) rfl))) (by decide) (backOf (W := 0) (rmM l Z a0 hw [] ((p6 >>> ((2 : Int32) &&& 31)) &&& (3 : Int32)) (2 : Int32) h0 n0 Zs ) hZ (hw _ (List.mem_of_getElem? (i := 4) rfl)) (hw _ (List.mem_of_getElem? (i := 3) rfl)) (by decide) (by decide)) (g := (mkF m 51 #[.val (.long q1), .second, .val (.long q2), .second, .val (.long q3), .second, .val (.int p4), .val (.int p5), .val (.int p6), .val (.long v3), .second, .val (.long v8), .second, .val (.long v14), .second, .val (.long v23), .second, .val (.long v32), .second, .val (.int v42), .unset, .unset, .unset, .unset, .unset, .unset, .unset, .unset, .unset, .unset, .unset, .unset, .unset, .unset, .unset, .unset, .unset, .unset] [(.int (2 : Int32)), (.int ((p6 >>> ((2 : Int32) &&& 31)) &&& (3 : Int32)))])) rfl (by rw [hml]; rfl) (argsL := [(.int ((p6 >>> ((2 : Int32) &&& 31)) &&& (3 : Int32))), (.int (2 : Int32))]) (rest := []) (lenOf pd_3 rfl) rfl (by show 2 * 0 + _ ≤ _; exact Nat.le_of_eq rfl) (hb hby at_51) (fun _ _ => ⟨rfl, e44, (by decide : 0 + 0 ≤ _), (by decide : 0 + 0 ≤ _)⟩)
  dsimp only [Pt.U, Pt.locs, Pt.cells, Pt.slots] at X46 l46 y46 z46 st46 hQ46
  subst l46 y46 z46
  obtain ⟨rfl, N46q, e46⟩ := hQ46
  have N46 := Fr.app N44 N46q
  obtain ⟨v54, hv54⟩ : ∃ z : Int32, z = (fM ((p6 >>> ((2 : Int32) &&& 31)) &&& (3 : Int32)) (2 : Int32)) := ⟨_, rfl⟩
  have pre47 : ∀ t, Steps p.tables e below (T46.setTop (mkF m 56 #[.val (.long q1), .second, .val (.long q2), .second, .val (.long q3), .second, .val (.int p4), .val (.int p5), .val (.int p6), .val (.long v3), .second, .val (.long v8), .second, .val (.long v14), .second, .val (.long v23), .second, .val (.long v32), .second, .val (.int v42), .val (.int v54), .unset, .unset, .unset, .unset, .unset, .unset, .unset, .unset, .unset, .unset, .unset, .unset, .unset, .unset, .unset, .unset, .unset] [])) t → Steps p.tables e below (s₁.setTop (entryFrame m #[(.long q1), (.long q2), (.long q3), (.int p4), (.int p5), (.int p6)] maxLocals)) t := fun t k => pre45 t (by
    show Steps p.tables e below (T44.setTop (mkF m 44 #[.val (.long q1), .second, .val (.long q2), .second, .val (.long q3), .second, .val (.int p4), .val (.int p5), .val (.int p6), .val (.long v3), .second, .val (.long v8), .second, .val (.long v14), .second, .val (.long v23), .second, .val (.long v32), .second, .val (.int v42), .unset, .unset, .unset, .unset, .unset, .unset, .unset, .unset, .unset, .unset, .unset, .unset, .unset, .unset, .unset, .unset, .unset, .unset] [])) _
    refine XS.iload X44.here hx rfl (hb hby at_44) rfl ?_
    show Steps p.tables e below (T44.setTop (mkF m 46 #[.val (.long q1), .second, .val (.long q2), .second, .val (.long q3), .second, .val (.int p4), .val (.int p5), .val (.int p6), .val (.long v3), .second, .val (.long v8), .second, .val (.long v14), .second, .val (.long v23), .second, .val (.long v32), .second, .val (.int v42), .unset, .unset, .unset, .unset, .unset, .unset, .unset, .unset, .unset, .unset, .unset, .unset, .unset, .unset, .unset, .unset, .unset, .unset] [(.int p6)])) _
    refine XS.iconst X44.here hx rfl (hb hby at_46) ?_
    show Steps p.tables e below (T44.setTop (mkF m 47 #[.val (.long q1), .second, .val (.long q2), .second, .val (.long q3), .second, .val (.int p4), .val (.int p5), .val (.int p6), .val (.long v3), .second, .val (.long v8), .second, .val (.long v14), .second, .val (.long v23), .second, .val (.long v32), .second, .val (.int v42), .unset, .unset, .unset, .unset, .unset, .unset, .unset, .unset, .unset, .unset, .unset, .unset, .unset, .unset, .unset, .unset, .unset, .unset] [(.int (2 : Int32)), (.int p6)])) _
    refine XS.ishr X44.here hx rfl (hb hby at_47) rfl ?_
    show Steps p.tables e below (T44.setTop (mkF m 48 #[.val (.long q1), .second, .val (.long q2), .second, .val (.long q3), .second, .val (.int p4), .val (.int p5), .val (.int p6), .val (.long v3), .second, .val (.long v8), .second, .val (.long v14), .second, .val (.long v23), .second, .val (.long v32), .second, .val (.int v42), .unset, .unset, .unset, .unset, .unset, .unset, .unset, .unset, .unset, .unset, .unset, .unset, .unset, .unset, .unset, .unset, .unset, .unset] [(.int (p6 >>> ((2 : Int32) &&& 31)))])) _
    refine XS.iconst X44.here hx rfl (hb hby at_48) ?_
    show Steps p.tables e below (T44.setTop (mkF m 49 #[.val (.long q1), .second, .val (.long q2), .second, .val (.long q3), .second, .val (.int p4), .val (.int p5), .val (.int p6), .val (.long v3), .second, .val (.long v8), .second, .val (.long v14), .second, .val (.long v23), .second, .val (.long v32), .second, .val (.int v42), .unset, .unset, .unset, .unset, .unset, .unset, .unset, .unset, .unset, .unset, .unset, .unset, .unset, .unset, .unset, .unset, .unset, .unset] [(.int (3 : Int32)), (.int (p6 >>> ((2 : Int32) &&& 31)))])) _
    refine XS.iand X44.here hx rfl (hb hby at_49) rfl ?_
    show Steps p.tables e below (T44.setTop (mkF m 50 #[.val (.long q1), .second, .val (.long q2), .second, .val (.long q3), .second, .val (.int p4), .val (.int p5), .val (.int p6), .val (.long v3), .second, .val (.long v8), .second, .val (.long v14), .second, .val (.long v23), .second, .val (.long v32), .second, .val (.int v42), .unset, .unset, .unset, .unset, .unset, .unset, .unset, .unset, .unset, .unset, .unset, .unset, .unset, .unset, .unset, .unset, .unset, .unset] [(.int ((p6 >>> ((2 : Int32) &&& 31)) &&& (3 : Int32)))])) _
    refine XS.iconst X44.here hx rfl (hb hby at_50) ?_
    show Steps p.tables e below (T44.setTop (mkF m 51 #[.val (.long q1), .second, .val (.long q2), .second, .val (.long q3), .second, .val (.int p4), .val (.int p5), .val (.int p6), .val (.long v3), .second, .val (.long v8), .second, .val (.long v14), .second, .val (.long v23), .second, .val (.long v32), .second, .val (.int v42), .unset, .unset, .unset, .unset, .unset, .unset, .unset, .unset, .unset, .unset, .unset, .unset, .unset, .unset, .unset, .unset, .unset, .unset] [(.int (2 : Int32)), (.int ((p6 >>> ((2 : Int32) &&& 31)) &&& (3 : Int32)))])) _
    refine st46 _ ?_
    show Steps p.tables e below (T46.setTop (mkF m 54 #[.val (.long q1), .second, .val (.long q2), .second, .val (.long q3), .second, .val (.int p4), .val (.int p5), .val (.int p6), .val (.long v3), .second, .val (.long v8), .second, .val (.long v14), .second, .val (.long v23), .second, .val (.long v32), .second, .val (.int v42), .unset, .unset, .unset, .unset, .unset, .unset, .unset, .unset, .unset, .unset, .unset, .unset, .unset, .unset, .unset, .unset, .unset, .unset] [(.int (fM ((p6 >>> ((2 : Int32) &&& 31)) &&& (3 : Int32)) (2 : Int32)))])) _
    refine XS.istore X46.here hx rfl (hb hby at_54) rfl (l' := #[.val (.long q1), .second, .val (.long q2), .second, .val (.long q3), .second, .val (.int p4), .val (.int p5), .val (.int p6), .val (.long v3), .second, .val (.long v8), .second, .val (.long v14), .second, .val (.long v23), .second, .val (.long v32), .second, .val (.int v42), .val (.int (fM ((p6 >>> ((2 : Int32) &&& 31)) &&& (3 : Int32)) (2 : Int32))), .unset, .unset, .unset, .unset, .unset, .unset, .unset, .unset, .unset, .unset, .unset, .unset, .unset, .unset, .unset, .unset, .unset]) rfl ?_
    rw [hv54] at k
    exact k)
  obtain ⟨T48, h48, X48, e48, E48, A48, D48, -, st48⟩ := newO X46 hx hZ hown (hw _ (List.mem_of_getElem? (i := 5) rfl)) (hw _ (List.mem_of_getElem? (i := 6) rfl)) (hw _ (List.mem_of_getElem? (i := 7) rfl)) e46 (g := (mkF m 56 #[.val (.long q1), .second, .val (.long q2), .second, .val (.long q3), .second, .val (.int p4), .val (.int p5), .val (.int p6), .val (.long v3), .second, .val (.long v8), .second, .val (.long v14), .second, .val (.long v23), .second, .val (.long v32), .second, .val (.int v42), .val (.int v54), .unset, .unset, .unset, .unset, .unset, .unset, .unset, .unset, .unset, .unset, .unset, .unset, .unset, .unset, .unset, .unset, .unset] [])) rfl (hb hby at_56) (by decide) (by decide)
  obtain ⟨b48, g48⟩ : ∃ z, z = h0.size := ⟨_, rfl⟩
  rw [← g48] at A48 D48 st48
  have g_b48 : n0 ≤ b48 := Nat.le_trans Zs (Nat.le_of_eq g48.symm)
  have Zs : n0 ≤ h48.size := Nat.le_trans Zs E48.1
  have E_b48 : Exa Z h48 b48 "com/example/regolo/regolo/engine/Work" := A48
  have F_left_b48 : Fld Z h48 b48 "com/example/regolo/regolo/engine/Work" "left" "J" (.long (0 : Int64)) := D48 (Or.inl (hw _ (List.mem_of_getElem? (i := 18) rfl))) (ty := .long) (by decide)
  have F_whole_b48 : Fld Z h48 b48 "com/example/regolo/regolo/engine/Work" "whole" "Lcom/example/regolo/regolo/engine/Work;" .null := D48 (Or.inr (hw _ (List.mem_of_getElem? (i := 20) rfl))) (ty := (.object "com/example/regolo/regolo/engine/Work")) (by decide)
  obtain ⟨_, _, ⟨T49, L49, k49, n49⟩, -, X49, ⟨Lc49, hQ49, l49, y49, z49⟩, st49⟩ := X48.specialBack hx (y := (⟨"com/example/regolo/regolo/engine/Work", "<init>", "(J)V"⟩ : MethodName)) rfl hown (mvT hZ (hw _ (List.mem_of_getElem? (i := 8) rfl))) (mvT hZ (hw _ (List.mem_of_getElem? (i := 9) rfl))) (mvT hZ (hw _ (List.mem_of_getElem? (i := 10) rfl))) (by decide) (backOf (W := 1) (rmC l Z a0 hw [] b48 v3 (0 : Int64) h48 n0 Zs E_b48 F_left_b48 F_whole_b48 g_b48) hZ (hw _ (List.mem_of_getElem? (i := 10) rfl)) (hw _ (List.mem_of_getElem? (i := 7) rfl)) (by decide) (by decide)) (g := (mkF m 62 #[.val (.long q1), .second, .val (.long q2), .second, .val (.long q3), .second, .val (.int p4), .val (.int p5), .val (.int p6), .val (.long v3), .second, .val (.long v8), .second, .val (.long v14), .second, .val (.long v23), .second, .val (.long v32), .second, .val (.int v42), .val (.int v54), .unset, .unset, .unset, .unset, .unset, .unset, .unset, .unset, .unset, .unset, .unset, .unset, .unset, .unset, .unset, .unset, .unset] [(.long v3), (.ref b48), (.ref b48)])) rfl (by rw [hml]; rfl) (Steps.refl _) (a := b48) (argsL := [(.long v3)]) (rest := [(.ref b48)]) (lenOf pd_1 rfl) rfl (by show 2 * 0 + _ ≤ _; exact Nat.le_of_eq rfl) (hb hby at_62) (fun _ _ => ⟨rfl, e48, (by decide : 1 + 0 ≤ _), (by decide : 2 + 0 ≤ _)⟩)
  dsimp only [Pt.U, Pt.locs, Pt.cells, Pt.slots] at X49 l49 y49 z49 st49 hQ49
  subst l49 y49 z49
  obtain ⟨rfl, N49q, K49, P49_1, P49_2⟩ := hQ49
  have Zs : n0 ≤ T49.heap.size := Nat.le_trans Zs K49.1
  have E_b48 : Exa Z T49.heap b48 "com/example/regolo/regolo/engine/Work" := E_b48.keep K49
  have F_left_b48 : Fld Z T49.heap b48 "com/example/regolo/regolo/engine/Work" "left" "J" (.long v3) := P49_1
  have F_whole_b48 : Fld Z T49.heap b48 "com/example/regolo/regolo/engine/Work" "whole" "Lcom/example/regolo/regolo/engine/Work;" .null := P49_2
  have N49 := Fr.app N46 N49q
  obtain ⟨cq50, kq50, q50a, q50b, q50c⟩ := isOf hZ rfl E_b48
  obtain ⟨_, _, ⟨T50, L50, k50, n50⟩, -, X50, ⟨Lc50, hQ50, l50, y50, z50⟩, st50⟩ := X49.virtualBack hx (y := (⟨"com/example/regolo/regolo/engine/Work", "part", "(J)Lcom/example/regolo/regolo/engine/Work;"⟩ : MethodName)) (z := (⟨"com/example/regolo/regolo/engine/Work", "part", "(J)Lcom/example/regolo/regolo/engine/Work;"⟩ : MethodName)) hown (mvT hZ (hw _ (List.mem_of_getElem? (i := 21) rfl))) (mvT hZ (hw _ (List.mem_of_getElem? (i := 22) rfl))) (notFace_of_selects (args := #[]) (mvT hZ (hw _ (List.mem_of_getElem? (i := 24) rfl)))) (mvT hZ (hw _ (List.mem_of_getElem? (i := 24) rfl))) (mvT hZ (hw _ (List.mem_of_getElem? (i := 23) rfl))) (by decide) (backOf (W := 0) (rmP l Z a0 hw [] b48 v8 T49.heap n0 Zs ) hZ (hw _ (List.mem_of_getElem? (i := 25) rfl)) (hw _ (List.mem_of_getElem? (i := 7) rfl)) (by decide) (by decide)) q50a q50c (g := (mkF m 71 #[.val (.long q1), .second, .val (.long q2), .second, .val (.long q3), .second, .val (.int p4), .val (.int p5), .val (.int p6), .val (.long v3), .second, .val (.long v8), .second, .val (.long v14), .second, .val (.long v23), .second, .val (.long v32), .second, .val (.int v42), .val (.int v54), .val (.ref b48), .unset, .unset, .unset, .unset, .unset, .unset, .unset, .unset, .unset, .unset, .unset, .unset, .unset, .unset, .unset, .unset] [(.long v8), (.ref b48)])) rfl (by rw [hml]; rfl) (Steps.refl _) (argsL := [(.long v8)]) (rest := []) (lenOf pd_4 rfl) rfl (by show 2 * 0 + _ ≤ _; exact Nat.le_of_eq rfl) (hb hby at_71) (fun _ _ => ⟨rfl, rfl, (by decide : 1 + 1 ≤ _), (by decide : 2 + 2 ≤ _)⟩)
  dsimp only [Pt.U, Pt.locs, Pt.cells, Pt.slots] at X50 l50 y50 z50 st50 hQ50
  subst l50 y50 z50
  obtain ⟨b_50, rfl, N50q, K50, szc_b_50, g_b_50, P50_3, P50_4, P50_5⟩ := hQ50
  have ne_b48_b_50 : b48 ≠ b_50 := Nat.ne_of_lt (Nat.lt_of_lt_of_le E_b48.lt szc_b_50)
  have Zs : n0 ≤ T50.heap.size := Nat.le_trans Zs K50.1
  have E_b48 : Exa Z T50.heap b48 "com/example/regolo/regolo/engine/Work" := E_b48.keep K50
  have F_left_b48 : Fld Z T50.heap b48 "com/example/regolo/regolo/engine/Work" "left" "J" (.long v3) := F_left_b48.keep K50 nin0
  have F_whole_b48 : Fld Z T50.heap b48 "com/example/regolo/regolo/engine/Work" "whole" "Lcom/example/regolo/regolo/engine/Work;" .null := F_whole_b48.keep K50 nin0
  have E_b_50 : Exa Z T50.heap b_50 "com/example/regolo/regolo/engine/Work" := P50_3
  have F_left_b_50 : Fld Z T50.heap b_50 "com/example/regolo/regolo/engine/Work" "left" "J" (.long v8) := P50_4
  have F_whole_b_50 : Fld Z T50.heap b_50 "com/example/regolo/regolo/engine/Work" "whole" "Lcom/example/regolo/regolo/engine/Work;" (.ref b48) := P50_5
  have N50 := Fr.app N49 N50q
  obtain ⟨cq51, kq51, q51a, q51b, q51c⟩ := isOf hZ rfl E_b_50
  obtain ⟨_, _, ⟨T51, L51, k51, n51⟩, -, X51, ⟨Lc51, hQ51, l51, y51, z51⟩, st51⟩ := X50.virtualBack hx (y := (⟨"com/example/regolo/regolo/engine/Work", "part", "(J)Lcom/example/regolo/regolo/engine/Work;"⟩ : MethodName)) (z := (⟨"com/example/regolo/regolo/engine/Work", "part", "(J)Lcom/example/regolo/regolo/engine/Work;"⟩ : MethodName)) hown (mvT hZ (hw _ (List.mem_of_getElem? (i := 21) rfl))) (mvT hZ (hw _ (List.mem_of_getElem? (i := 22) rfl))) (notFace_of_selects (args := #[]) (mvT hZ (hw _ (List.mem_of_getElem? (i := 24) rfl)))) (mvT hZ (hw _ (List.mem_of_getElem? (i := 24) rfl))) (mvT hZ (hw _ (List.mem_of_getElem? (i := 23) rfl))) (by decide) (backOf (W := 0) (rmP l Z a0 hw [] b_50 v14 T50.heap n0 Zs ) hZ (hw _ (List.mem_of_getElem? (i := 25) rfl)) (hw _ (List.mem_of_getElem? (i := 7) rfl)) (by decide) (by decide)) q51a q51c (g := (mkF m 80 #[.val (.long q1), .second, .val (.long q2), .second, .val (.long q3), .second, .val (.int p4), .val (.int p5), .val (.int p6), .val (.long v3), .second, .val (.long v8), .second, .val (.long v14), .second, .val (.long v23), .second, .val (.long v32), .second, .val (.int v42), .val (.int v54), .val (.ref b48), .val (.ref b_50), .unset, .unset, .unset, .unset, .unset, .unset, .unset, .unset, .unset, .unset, .unset, .unset, .unset, .unset, .unset] [(.long v14), (.ref b_50)])) rfl (by rw [hml]; rfl) (Steps.refl _) (argsL := [(.long v14)]) (rest := []) (lenOf pd_4 rfl) rfl (by show 2 * 0 + _ ≤ _; exact Nat.le_of_eq rfl) (hb hby at_80) (fun _ _ => ⟨rfl, rfl, (by decide : 2 + 1 ≤ _), (by decide : 4 + 2 ≤ _)⟩)
  dsimp only [Pt.U, Pt.locs, Pt.cells, Pt.slots] at X51 l51 y51 z51 st51 hQ51
  subst l51 y51 z51
  obtain ⟨b_51, rfl, N51q, K51, szc_b_51, g_b_51, P51_3, P51_4, P51_5⟩ := hQ51
  have ne_b48_b_51 : b48 ≠ b_51 := Nat.ne_of_lt (Nat.lt_of_lt_of_le E_b48.lt szc_b_51)
  have ne_b_50_b_51 : b_50 ≠ b_51 := Nat.ne_of_lt (Nat.lt_of_lt_of_le E_b_50.lt szc_b_51)
  have Zs : n0 ≤ T51.heap.size := Nat.le_trans Zs K51.1
  have E_b48 : Exa Z T51.heap b48 "com/example/regolo/regolo/engine/Work" := E_b48.keep K51
  have F_left_b48 : Fld Z T51.heap b48 "com/example/regolo/regolo/engine/Work" "left" "J" (.long v3) := F_left_b48.keep K51 nin0
  have F_whole_b48 : Fld Z T51.heap b48 "com/example/regolo/regolo/engine/Work" "whole" "Lcom/example/regolo/regolo/engine/Work;" .null := F_whole_b48.keep K51 nin0
  have E_b_50 : Exa Z T51.heap b_50 "com/example/regolo/regolo/engine/Work" := E_b_50.keep K51
  have F_left_b_50 : Fld Z T51.heap b_50 "com/example/regolo/regolo/engine/Work" "left" "J" (.long v8) := F_left_b_50.keep K51 nin0
  have F_whole_b_50 : Fld Z T51.heap b_50 "com/example/regolo/regolo/engine/Work" "whole" "Lcom/example/regolo/regolo/engine/Work;" (.ref b48) := F_whole_b_50.keep K51 nin0
  have E_b_51 : Exa Z T51.heap b_51 "com/example/regolo/regolo/engine/Work" := P51_3
  have F_left_b_51 : Fld Z T51.heap b_51 "com/example/regolo/regolo/engine/Work" "left" "J" (.long v14) := P51_4
  have F_whole_b_51 : Fld Z T51.heap b_51 "com/example/regolo/regolo/engine/Work" "whole" "Lcom/example/regolo/regolo/engine/Work;" (.ref b_50) := P51_5
  have N51 := Fr.app N50 N51q
  obtain ⟨cq52, kq52, q52a, q52b, q52c⟩ := isOf hZ rfl E_b_51
  obtain ⟨_, _, ⟨T52, L52, k52, n52⟩, -, X52, ⟨Lc52, hQ52, l52, y52, z52⟩, st52⟩ := X51.virtualBack hx (y := (⟨"com/example/regolo/regolo/engine/Work", "spent", "()Z"⟩ : MethodName)) (z := (⟨"com/example/regolo/regolo/engine/Work", "spent", "()Z"⟩ : MethodName)) hown (mvT hZ (hw _ (List.mem_of_getElem? (i := 27) rfl))) (mvT hZ (hw _ (List.mem_of_getElem? (i := 28) rfl))) (notFace_of_selects (args := #[]) (mvT hZ (hw _ (List.mem_of_getElem? (i := 30) rfl)))) (mvT hZ (hw _ (List.mem_of_getElem? (i := 30) rfl))) (mvT hZ (hw _ (List.mem_of_getElem? (i := 29) rfl))) (by decide) (backOf (W := 0) (rmT2 l Z a0 hw [] b_51 v14 b_50 v8 b48 v3 T51.heap n0 Zs F_left_b_51 F_whole_b_51 E_b_50 F_left_b_50 F_whole_b_50 E_b48 F_left_b48 F_whole_b48) hZ (hw _ (List.mem_of_getElem? (i := 31) rfl)) (hw _ (List.mem_of_getElem? (i := 7) rfl)) (by decide) (by decide)) q52a q52c (g := (mkF m 87 #[.val (.long q1), .second, .val (.long q2), .second, .val (.long q3), .second, .val (.int p4), .val (.int p5), .val (.int p6), .val (.long v3), .second, .val (.long v8), .second, .val (.long v14), .second, .val (.long v23), .second, .val (.long v32), .second, .val (.int v42), .val (.int v54), .val (.ref b48), .val (.ref b_50), .val (.ref b_51), .unset, .unset, .unset, .unset, .unset, .unset, .unset, .unset, .unset, .unset, .unset, .unset, .unset, .unset] [(.ref b_51)])) rfl (by rw [hml]; rfl) (Steps.refl _) (argsL := []) (rest := []) (lenOf pd_2 rfl) rfl (by show 2 * 0 + _ ≤ _; exact Nat.le_of_eq rfl) (hb hby at_87) (fun _ _ => ⟨rfl, rfl, (by decide : 3 + 0 ≤ _), (by decide : 6 + 0 ≤ _)⟩)
  dsimp only [Pt.U, Pt.locs, Pt.cells, Pt.slots] at X52 l52 y52 z52 st52 hQ52
  subst l52 y52 z52
  obtain ⟨rfl, N52q, e52⟩ := hQ52
  have N52 := Fr.app N51 N52q
  obtain ⟨v90, hv90⟩ : ∃ z : Int32, z = (fT2 v14 v8 v3) := ⟨_, rfl⟩
  have pre53 : ∀ t, Steps p.tables e below (T52.setTop (mkF m 92 #[.val (.long q1), .second, .val (.long q2), .second, .val (.long q3), .second, .val (.int p4), .val (.int p5), .val (.int p6), .val (.long v3), .second, .val (.long v8), .second, .val (.long v14), .second, .val (.long v23), .second, .val (.long v32), .second, .val (.int v42), .val (.int v54), .val (.ref b48), .val (.ref b_50), .val (.ref b_51), .val (.int v90), .unset, .unset, .unset, .unset, .unset, .unset, .unset, .unset, .unset, .unset, .unset, .unset, .unset] [])) t → Steps p.tables e below (s₁.setTop (entryFrame m #[(.long q1), (.long q2), (.long q3), (.int p4), (.int p5), (.int p6)] maxLocals)) t := fun t k => pre47 t (by
    show Steps p.tables e below (T46.setTop (mkF m 56 #[.val (.long q1), .second, .val (.long q2), .second, .val (.long q3), .second, .val (.int p4), .val (.int p5), .val (.int p6), .val (.long v3), .second, .val (.long v8), .second, .val (.long v14), .second, .val (.long v23), .second, .val (.long v32), .second, .val (.int v42), .val (.int v54), .unset, .unset, .unset, .unset, .unset, .unset, .unset, .unset, .unset, .unset, .unset, .unset, .unset, .unset, .unset, .unset, .unset] [])) _
    refine st48 _ ?_
    show Steps p.tables e below (T48.setTop (mkF m 59 #[.val (.long q1), .second, .val (.long q2), .second, .val (.long q3), .second, .val (.int p4), .val (.int p5), .val (.int p6), .val (.long v3), .second, .val (.long v8), .second, .val (.long v14), .second, .val (.long v23), .second, .val (.long v32), .second, .val (.int v42), .val (.int v54), .unset, .unset, .unset, .unset, .unset, .unset, .unset, .unset, .unset, .unset, .unset, .unset, .unset, .unset, .unset, .unset, .unset] [(.ref b48)])) _
    refine XS.dup X48.here hx rfl (hb hby at_59) rfl rfl ?_
    show Steps p.tables e below (T48.setTop (mkF m 60 #[.val (.long q1), .second, .val (.long q2), .second, .val (.long q3), .second, .val (.int p4), .val (.int p5), .val (.int p6), .val (.long v3), .second, .val (.long v8), .second, .val (.long v14), .second, .val (.long v23), .second, .val (.long v32), .second, .val (.int v42), .val (.int v54), .unset, .unset, .unset, .unset, .unset, .unset, .unset, .unset, .unset, .unset, .unset, .unset, .unset, .unset, .unset, .unset, .unset] [(.ref b48), (.ref b48)])) _
    refine XS.lload X48.here hx rfl (hb hby at_60) rfl ?_
    show Steps p.tables e below (T48.setTop (mkF m 62 #[.val (.long q1), .second, .val (.long q2), .second, .val (.long q3), .second, .val (.int p4), .val (.int p5), .val (.int p6), .val (.long v3), .second, .val (.long v8), .second, .val (.long v14), .second, .val (.long v23), .second, .val (.long v32), .second, .val (.int v42), .val (.int v54), .unset, .unset, .unset, .unset, .unset, .unset, .unset, .unset, .unset, .unset, .unset, .unset, .unset, .unset, .unset, .unset, .unset] [(.long v3), (.ref b48), (.ref b48)])) _
    refine st49.trans ?_
    show Steps p.tables e below (T49.setTop (mkF m 65 #[.val (.long q1), .second, .val (.long q2), .second, .val (.long q3), .second, .val (.int p4), .val (.int p5), .val (.int p6), .val (.long v3), .second, .val (.long v8), .second, .val (.long v14), .second, .val (.long v23), .second, .val (.long v32), .second, .val (.int v42), .val (.int v54), .unset, .unset, .unset, .unset, .unset, .unset, .unset, .unset, .unset, .unset, .unset, .unset, .unset, .unset, .unset, .unset, .unset] [(.ref b48)])) _
    refine XS.astore X49.here hx rfl (hb hby at_65) rfl rfl (l' := #[.val (.long q1), .second, .val (.long q2), .second, .val (.long q3), .second, .val (.int p4), .val (.int p5), .val (.int p6), .val (.long v3), .second, .val (.long v8), .second, .val (.long v14), .second, .val (.long v23), .second, .val (.long v32), .second, .val (.int v42), .val (.int v54), .val (.ref b48), .unset, .unset, .unset, .unset, .unset, .unset, .unset, .unset, .unset, .unset, .unset, .unset, .unset, .unset, .unset, .unset]) rfl ?_
    show Steps p.tables e below (T49.setTop (mkF m 67 #[.val (.long q1), .second, .val (.long q2), .second, .val (.long q3), .second, .val (.int p4), .val (.int p5), .val (.int p6), .val (.long v3), .second, .val (.long v8), .second, .val (.long v14), .second, .val (.long v23), .second, .val (.long v32), .second, .val (.int v42), .val (.int v54), .val (.ref b48), .unset, .unset, .unset, .unset, .unset, .unset, .unset, .unset, .unset, .unset, .unset, .unset, .unset, .unset, .unset, .unset] [])) _
    refine XS.aload X49.here hx rfl (hb hby at_67) rfl rfl ?_
    show Steps p.tables e below (T49.setTop (mkF m 69 #[.val (.long q1), .second, .val (.long q2), .second, .val (.long q3), .second, .val (.int p4), .val (.int p5), .val (.int p6), .val (.long v3), .second, .val (.long v8), .second, .val (.long v14), .second, .val (.long v23), .second, .val (.long v32), .second, .val (.int v42), .val (.int v54), .val (.ref b48), .unset, .unset, .unset, .unset, .unset, .unset, .unset, .unset, .unset, .unset, .unset, .unset, .unset, .unset, .unset, .unset] [(.ref b48)])) _
    refine XS.lload X49.here hx rfl (hb hby at_69) rfl ?_
    show Steps p.tables e below (T49.setTop (mkF m 71 #[.val (.long q1), .second, .val (.long q2), .second, .val (.long q3), .second, .val (.int p4), .val (.int p5), .val (.int p6), .val (.long v3), .second, .val (.long v8), .second, .val (.long v14), .second, .val (.long v23), .second, .val (.long v32), .second, .val (.int v42), .val (.int v54), .val (.ref b48), .unset, .unset, .unset, .unset, .unset, .unset, .unset, .unset, .unset, .unset, .unset, .unset, .unset, .unset, .unset, .unset] [(.long v8), (.ref b48)])) _
    refine st50.trans ?_
    show Steps p.tables e below (T50.setTop (mkF m 74 #[.val (.long q1), .second, .val (.long q2), .second, .val (.long q3), .second, .val (.int p4), .val (.int p5), .val (.int p6), .val (.long v3), .second, .val (.long v8), .second, .val (.long v14), .second, .val (.long v23), .second, .val (.long v32), .second, .val (.int v42), .val (.int v54), .val (.ref b48), .unset, .unset, .unset, .unset, .unset, .unset, .unset, .unset, .unset, .unset, .unset, .unset, .unset, .unset, .unset, .unset] [(.ref b_50)])) _
    refine XS.astore X50.here hx rfl (hb hby at_74) rfl rfl (l' := #[.val (.long q1), .second, .val (.long q2), .second, .val (.long q3), .second, .val (.int p4), .val (.int p5), .val (.int p6), .val (.long v3), .second, .val (.long v8), .second, .val (.long v14), .second, .val (.long v23), .second, .val (.long v32), .second, .val (.int v42), .val (.int v54), .val (.ref b48), .val (.ref b_50), .unset, .unset, .unset, .unset, .unset, .unset, .unset, .unset, .unset, .unset, .unset, .unset, .unset, .unset, .unset]) rfl ?_
    show Steps p.tables e below (T50.setTop (mkF m 76 #[.val (.long q1), .second, .val (.long q2), .second, .val (.long q3), .second, .val (.int p4), .val (.int p5), .val (.int p6), .val (.long v3), .second, .val (.long v8), .second, .val (.long v14), .second, .val (.long v23), .second, .val (.long v32), .second, .val (.int v42), .val (.int v54), .val (.ref b48), .val (.ref b_50), .unset, .unset, .unset, .unset, .unset, .unset, .unset, .unset, .unset, .unset, .unset, .unset, .unset, .unset, .unset] [])) _
    refine XS.aload X50.here hx rfl (hb hby at_76) rfl rfl ?_
    show Steps p.tables e below (T50.setTop (mkF m 78 #[.val (.long q1), .second, .val (.long q2), .second, .val (.long q3), .second, .val (.int p4), .val (.int p5), .val (.int p6), .val (.long v3), .second, .val (.long v8), .second, .val (.long v14), .second, .val (.long v23), .second, .val (.long v32), .second, .val (.int v42), .val (.int v54), .val (.ref b48), .val (.ref b_50), .unset, .unset, .unset, .unset, .unset, .unset, .unset, .unset, .unset, .unset, .unset, .unset, .unset, .unset, .unset] [(.ref b_50)])) _
    refine XS.lload X50.here hx rfl (hb hby at_78) rfl ?_
    show Steps p.tables e below (T50.setTop (mkF m 80 #[.val (.long q1), .second, .val (.long q2), .second, .val (.long q3), .second, .val (.int p4), .val (.int p5), .val (.int p6), .val (.long v3), .second, .val (.long v8), .second, .val (.long v14), .second, .val (.long v23), .second, .val (.long v32), .second, .val (.int v42), .val (.int v54), .val (.ref b48), .val (.ref b_50), .unset, .unset, .unset, .unset, .unset, .unset, .unset, .unset, .unset, .unset, .unset, .unset, .unset, .unset, .unset] [(.long v14), (.ref b_50)])) _
    refine st51.trans ?_
    show Steps p.tables e below (T51.setTop (mkF m 83 #[.val (.long q1), .second, .val (.long q2), .second, .val (.long q3), .second, .val (.int p4), .val (.int p5), .val (.int p6), .val (.long v3), .second, .val (.long v8), .second, .val (.long v14), .second, .val (.long v23), .second, .val (.long v32), .second, .val (.int v42), .val (.int v54), .val (.ref b48), .val (.ref b_50), .unset, .unset, .unset, .unset, .unset, .unset, .unset, .unset, .unset, .unset, .unset, .unset, .unset, .unset, .unset] [(.ref b_51)])) _
    refine XS.astore X51.here hx rfl (hb hby at_83) rfl rfl (l' := #[.val (.long q1), .second, .val (.long q2), .second, .val (.long q3), .second, .val (.int p4), .val (.int p5), .val (.int p6), .val (.long v3), .second, .val (.long v8), .second, .val (.long v14), .second, .val (.long v23), .second, .val (.long v32), .second, .val (.int v42), .val (.int v54), .val (.ref b48), .val (.ref b_50), .val (.ref b_51), .unset, .unset, .unset, .unset, .unset, .unset, .unset, .unset, .unset, .unset, .unset, .unset, .unset, .unset]) rfl ?_
    show Steps p.tables e below (T51.setTop (mkF m 85 #[.val (.long q1), .second, .val (.long q2), .second, .val (.long q3), .second, .val (.int p4), .val (.int p5), .val (.int p6), .val (.long v3), .second, .val (.long v8), .second, .val (.long v14), .second, .val (.long v23), .second, .val (.long v32), .second, .val (.int v42), .val (.int v54), .val (.ref b48), .val (.ref b_50), .val (.ref b_51), .unset, .unset, .unset, .unset, .unset, .unset, .unset, .unset, .unset, .unset, .unset, .unset, .unset, .unset] [])) _
    refine XS.aload X51.here hx rfl (hb hby at_85) rfl rfl ?_
    show Steps p.tables e below (T51.setTop (mkF m 87 #[.val (.long q1), .second, .val (.long q2), .second, .val (.long q3), .second, .val (.int p4), .val (.int p5), .val (.int p6), .val (.long v3), .second, .val (.long v8), .second, .val (.long v14), .second, .val (.long v23), .second, .val (.long v32), .second, .val (.int v42), .val (.int v54), .val (.ref b48), .val (.ref b_50), .val (.ref b_51), .unset, .unset, .unset, .unset, .unset, .unset, .unset, .unset, .unset, .unset, .unset, .unset, .unset, .unset] [(.ref b_51)])) _
    refine st52.trans ?_
    show Steps p.tables e below (T52.setTop (mkF m 90 #[.val (.long q1), .second, .val (.long q2), .second, .val (.long q3), .second, .val (.int p4), .val (.int p5), .val (.int p6), .val (.long v3), .second, .val (.long v8), .second, .val (.long v14), .second, .val (.long v23), .second, .val (.long v32), .second, .val (.int v42), .val (.int v54), .val (.ref b48), .val (.ref b_50), .val (.ref b_51), .unset, .unset, .unset, .unset, .unset, .unset, .unset, .unset, .unset, .unset, .unset, .unset, .unset, .unset] [(.int (fT2 v14 v8 v3))])) _
    refine XS.istore X52.here hx rfl (hb hby at_90) rfl (l' := #[.val (.long q1), .second, .val (.long q2), .second, .val (.long q3), .second, .val (.int p4), .val (.int p5), .val (.int p6), .val (.long v3), .second, .val (.long v8), .second, .val (.long v14), .second, .val (.long v23), .second, .val (.long v32), .second, .val (.int v42), .val (.int v54), .val (.ref b48), .val (.ref b_50), .val (.ref b_51), .val (.int (fT2 v14 v8 v3)), .unset, .unset, .unset, .unset, .unset, .unset, .unset, .unset, .unset, .unset, .unset, .unset, .unset]) rfl ?_
    rw [hv90] at k
    exact k)
  have pre54 : ∀ t, Steps p.tables e below (T52.setTop (mkF m 96 #[.val (.long q1), .second, .val (.long q2), .second, .val (.long q3), .second, .val (.int p4), .val (.int p5), .val (.int p6), .val (.long v3), .second, .val (.long v8), .second, .val (.long v14), .second, .val (.long v23), .second, .val (.long v32), .second, .val (.int v42), .val (.int v54), .val (.ref b48), .val (.ref b_50), .val (.ref b_51), .val (.int v90), .unset, .unset, .unset, .unset, .unset, .unset, .unset, .unset, .unset, .unset, .unset, .unset, .unset] [(.int (lcmpW v14 (0 : Int64)))])) t → Steps p.tables e below (s₁.setTop (entryFrame m #[(.long q1), (.long q2), (.long q3), (.int p4), (.int p5), (.int p6)] maxLocals)) t := fun t k => pre53 t (by
    show Steps p.tables e below (T52.setTop (mkF m 92 #[.val (.long q1), .second, .val (.long q2), .second, .val (.long q3), .second, .val (.int p4), .val (.int p5), .val (.int p6), .val (.long v3), .second, .val (.long v8), .second, .val (.long v14), .second, .val (.long v23), .second, .val (.long v32), .second, .val (.int v42), .val (.int v54), .val (.ref b48), .val (.ref b_50), .val (.ref b_51), .val (.int v90), .unset, .unset, .unset, .unset, .unset, .unset, .unset, .unset, .unset, .unset, .unset, .unset, .unset] [])) _
    refine XS.lload X52.here hx rfl (hb hby at_92) rfl ?_
    show Steps p.tables e below (T52.setTop (mkF m 94 #[.val (.long q1), .second, .val (.long q2), .second, .val (.long q3), .second, .val (.int p4), .val (.int p5), .val (.int p6), .val (.long v3), .second, .val (.long v8), .second, .val (.long v14), .second, .val (.long v23), .second, .val (.long v32), .second, .val (.int v42), .val (.int v54), .val (.ref b48), .val (.ref b_50), .val (.ref b_51), .val (.int v90), .unset, .unset, .unset, .unset, .unset, .unset, .unset, .unset, .unset, .unset, .unset, .unset, .unset] [(.long v14)])) _
    refine XS.lconst X52.here hx rfl (hb hby at_94) ?_
    show Steps p.tables e below (T52.setTop (mkF m 95 #[.val (.long q1), .second, .val (.long q2), .second, .val (.long q3), .second, .val (.int p4), .val (.int p5), .val (.int p6), .val (.long v3), .second, .val (.long v8), .second, .val (.long v14), .second, .val (.long v23), .second, .val (.long v32), .second, .val (.int v42), .val (.int v54), .val (.ref b48), .val (.ref b_50), .val (.ref b_51), .val (.int v90), .unset, .unset, .unset, .unset, .unset, .unset, .unset, .unset, .unset, .unset, .unset, .unset, .unset] [(.long (0 : Int64)), (.long v14)])) _
    refine XS.lcmp X52.here hx rfl (hb hby at_95) rfl ?_
    exact k)
  obtain ⟨z118_s0, hz118_s0⟩ : ∃ z : Int32, z = (if (0 : Int64) < v14 then (if (0 : Int64) < v8 then (if (0 : Int64) < v3 then (0 : Int32) else (1 : Int32)) else (1 : Int32)) else (1 : Int32)) := ⟨_, rfl⟩
  obtain ⟨T61, Lc61, X61, e61, N61, pre61⟩ : ∃ (T' : State) (locs' : List Loc), Stand p l e room_1 s m #[(.long q1), (.long q2), (.long q3), (.int p4), (.int p5), (.int p6)] below meth c T' locs' 3 6 ∧ T'.heap = T51.heap ∧ Fr n0 locs' ∧ ∀ t, Steps p.tables e below (T'.setTop (mkF m 118 #[.val (.long q1), .second, .val (.long q2), .second, .val (.long q3), .second, .val (.int p4), .val (.int p5), .val (.int p6), .val (.long v3), .second, .val (.long v8), .second, .val (.long v14), .second, .val (.long v23), .second, .val (.long v32), .second, .val (.int v42), .val (.int v54), .val (.ref b48), .val (.ref b_50), .val (.ref b_51), .val (.int v90), .unset, .unset, .unset, .unset, .unset, .unset, .unset, .unset, .unset, .unset, .unset, .unset, .unset] [(.int z118_s0)])) t → Steps p.tables e below (s₁.setTop (entryFrame m #[(.long q1), (.long q2), (.long q3), (.int p4), (.int p5), (.int p6)] maxLocals)) t := by
    by_cases hc96 : (0 : Int64) < v14
    ·
      have pre55 : ∀ t, Steps p.tables e below (T52.setTop (mkF m 103 #[.val (.long q1), .second, .val (.long q2), .second, .val (.long q3), .second, .val (.int p4), .val (.int p5), .val (.int p6), .val (.long v3), .second, .val (.long v8), .second, .val (.long v14), .second, .val (.long v23), .second, .val (.long v32), .second, .val (.int v42), .val (.int v54), .val (.ref b48), .val (.ref b_50), .val (.ref b_51), .val (.int v90), .unset, .unset, .unset, .unset, .unset, .unset, .unset, .unset, .unset, .unset, .unset, .unset, .unset] [(.int (lcmpW v8 (0 : Int64)))])) t → Steps p.tables e below (s₁.setTop (entryFrame m #[(.long q1), (.long q2), (.long q3), (.int p4), (.int p5), (.int p6)] maxLocals)) t := fun t k => pre54 t (by
        show Steps p.tables e below (T52.setTop (mkF m 96 #[.val (.long q1), .second, .val (.long q2), .second, .val (.long q3), .second, .val (.int p4), .val (.int p5), .val (.int p6), .val (.long v3), .second, .val (.long v8), .second, .val (.long v14), .second, .val (.long v23), .second, .val (.long v32), .second, .val (.int v42), .val (.int v54), .val (.ref b48), .val (.ref b_50), .val (.ref b_51), .val (.int v90), .unset, .unset, .unset, .unset, .unset, .unset, .unset, .unset, .unset, .unset, .unset, .unset, .unset] [(.int (lcmpW v14 (0 : Int64)))])) _
        refine XS.ifNo X52.here hx rfl (hb hby at_96) rfl ((if0 _ _).trans (tlt ((lw_gt v14 (0 : Int64)).mpr hc96)).2.2.2) ?_
        show Steps p.tables e below (T52.setTop (mkF m 99 #[.val (.long q1), .second, .val (.long q2), .second, .val (.long q3), .second, .val (.int p4), .val (.int p5), .val (.int p6), .val (.long v3), .second, .val (.long v8), .second, .val (.long v14), .second, .val (.long v23), .second, .val (.long v32), .second, .val (.int v42), .val (.int v54), .val (.ref b48), .val (.ref b_50), .val (.ref b_51), .val (.int v90), .unset, .unset, .unset, .unset, .unset, .unset, .unset, .unset, .unset, .unset, .unset, .unset, .unset] [])) _
        refine XS.lload X52.here hx rfl (hb hby at_99) rfl ?_
        show Steps p.tables e below (T52.setTop (mkF m 101 #[.val (.long q1), .second, .val (.long q2), .second, .val (.long q3), .second, .val (.int p4), .val (.int p5), .val (.int p6), .val (.long v3), .second, .val (.long v8), .second, .val (.long v14), .second, .val (.long v23), .second, .val (.long v32), .second, .val (.int v42), .val (.int v54), .val (.ref b48), .val (.ref b_50), .val (.ref b_51), .val (.int v90), .unset, .unset, .unset, .unset, .unset, .unset, .unset, .unset, .unset, .unset, .unset, .unset, .unset] [(.long v8)])) _
        refine XS.lconst X52.here hx rfl (hb hby at_101) ?_
        show Steps p.tables e below (T52.setTop (mkF m 102 #[.val (.long q1), .second, .val (.long q2), .second, .val (.long q3), .second, .val (.int p4), .val (.int p5), .val (.int p6), .val (.long v3), .second, .val (.long v8), .second, .val (.long v14), .second, .val (.long v23), .second, .val (.long v32), .second, .val (.int v42), .val (.int v54), .val (.ref b48), .val (.ref b_50), .val (.ref b_51), .val (.int v90), .unset, .unset, .unset, .unset, .unset, .unset, .unset, .unset, .unset, .unset, .unset, .unset, .unset] [(.long (0 : Int64)), (.long v8)])) _
        refine XS.lcmp X52.here hx rfl (hb hby at_102) rfl ?_
        exact k)
      by_cases hc103 : (0 : Int64) < v8
      ·
        have pre56 : ∀ t, Steps p.tables e below (T52.setTop (mkF m 110 #[.val (.long q1), .second, .val (.long q2), .second, .val (.long q3), .second, .val (.int p4), .val (.int p5), .val (.int p6), .val (.long v3), .second, .val (.long v8), .second, .val (.long v14), .second, .val (.long v23), .second, .val (.long v32), .second, .val (.int v42), .val (.int v54), .val (.ref b48), .val (.ref b_50), .val (.ref b_51), .val (.int v90), .unset, .unset, .unset, .unset, .unset, .unset, .unset, .unset, .unset, .unset, .unset, .unset, .unset] [(.int (lcmpW v3 (0 : Int64)))])) t → Steps p.tables e below (s₁.setTop (entryFrame m #[(.long q1), (.long q2), (.long q3), (.int p4), (.int p5), (.int p6)] maxLocals)) t := fun t k => pre55 t (by
          show Steps p.tables e below (T52.setTop (mkF m 103 #[.val (.long q1), .second, .val (.long q2), .second, .val (.long q3), .second, .val (.int p4), .val (.int p5), .val (.int p6), .val (.long v3), .second, .val (.long v8), .second, .val (.long v14), .second, .val (.long v23), .second, .val (.long v32), .second, .val (.int v42), .val (.int v54), .val (.ref b48), .val (.ref b_50), .val (.ref b_51), .val (.int v90), .unset, .unset, .unset, .unset, .unset, .unset, .unset, .unset, .unset, .unset, .unset, .unset, .unset] [(.int (lcmpW v8 (0 : Int64)))])) _
          refine XS.ifNo X52.here hx rfl (hb hby at_103) rfl ((if0 _ _).trans (tlt ((lw_gt v8 (0 : Int64)).mpr hc103)).2.2.2) ?_
          show Steps p.tables e below (T52.setTop (mkF m 106 #[.val (.long q1), .second, .val (.long q2), .second, .val (.long q3), .second, .val (.int p4), .val (.int p5), .val (.int p6), .val (.long v3), .second, .val (.long v8), .second, .val (.long v14), .second, .val (.long v23), .second, .val (.long v32), .second, .val (.int v42), .val (.int v54), .val (.ref b48), .val (.ref b_50), .val (.ref b_51), .val (.int v90), .unset, .unset, .unset, .unset, .unset, .unset, .unset, .unset, .unset, .unset, .unset, .unset, .unset] [])) _
          refine XS.lload X52.here hx rfl (hb hby at_106) rfl ?_
          show Steps p.tables e below (T52.setTop (mkF m 108 #[.val (.long q1), .second, .val (.long q2), .second, .val (.long q3), .second, .val (.int p4), .val (.int p5), .val (.int p6), .val (.long v3), .second, .val (.long v8), .second, .val (.long v14), .second, .val (.long v23), .second, .val (.long v32), .second, .val (.int v42), .val (.int v54), .val (.ref b48), .val (.ref b_50), .val (.ref b_51), .val (.int v90), .unset, .unset, .unset, .unset, .unset, .unset, .unset, .unset, .unset, .unset, .unset, .unset, .unset] [(.long v3)])) _
          refine XS.lconst X52.here hx rfl (hb hby at_108) ?_
          show Steps p.tables e below (T52.setTop (mkF m 109 #[.val (.long q1), .second, .val (.long q2), .second, .val (.long q3), .second, .val (.int p4), .val (.int p5), .val (.int p6), .val (.long v3), .second, .val (.long v8), .second, .val (.long v14), .second, .val (.long v23), .second, .val (.long v32), .second, .val (.int v42), .val (.int v54), .val (.ref b48), .val (.ref b_50), .val (.ref b_51), .val (.int v90), .unset, .unset, .unset, .unset, .unset, .unset, .unset, .unset, .unset, .unset, .unset, .unset, .unset] [(.long (0 : Int64)), (.long v3)])) _
          refine XS.lcmp X52.here hx rfl (hb hby at_109) rfl ?_
          exact k)
        by_cases hc110 : (0 : Int64) < v3
        ·
          have pre57 : ∀ t, Steps p.tables e below (T52.setTop (mkF m 118 #[.val (.long q1), .second, .val (.long q2), .second, .val (.long q3), .second, .val (.int p4), .val (.int p5), .val (.int p6), .val (.long v3), .second, .val (.long v8), .second, .val (.long v14), .second, .val (.long v23), .second, .val (.long v32), .second, .val (.int v42), .val (.int v54), .val (.ref b48), .val (.ref b_50), .val (.ref b_51), .val (.int v90), .unset, .unset, .unset, .unset, .unset, .unset, .unset, .unset, .unset, .unset, .unset, .unset, .unset] [(.int (0 : Int32))])) t → Steps p.tables e below (s₁.setTop (entryFrame m #[(.long q1), (.long q2), (.long q3), (.int p4), (.int p5), (.int p6)] maxLocals)) t := fun t k => pre56 t (by
            show Steps p.tables e below (T52.setTop (mkF m 110 #[.val (.long q1), .second, .val (.long q2), .second, .val (.long q3), .second, .val (.int p4), .val (.int p5), .val (.int p6), .val (.long v3), .second, .val (.long v8), .second, .val (.long v14), .second, .val (.long v23), .second, .val (.long v32), .second, .val (.int v42), .val (.int v54), .val (.ref b48), .val (.ref b_50), .val (.ref b_51), .val (.int v90), .unset, .unset, .unset, .unset, .unset, .unset, .unset, .unset, .unset, .unset, .unset, .unset, .unset] [(.int (lcmpW v3 (0 : Int64)))])) _
            refine XS.ifYes X52.here hx rfl (pc0 := 110) (pc' := 117) rfl (hb hby at_110) rfl ((if0 _ _).trans (tlt ((lw_gt v3 (0 : Int64)).mpr hc110)).2.2.1) (by decide) (by decide) ?_
            show Steps p.tables e below (T52.setTop (mkF m 117 #[.val (.long q1), .second, .val (.long q2), .second, .val (.long q3), .second, .val (.int p4), .val (.int p5), .val (.int p6), .val (.long v3), .second, .val (.long v8), .second, .val (.long v14), .second, .val (.long v23), .second, .val (.long v32), .second, .val (.int v42), .val (.int v54), .val (.ref b48), .val (.ref b_50), .val (.ref b_51), .val (.int v90), .unset, .unset, .unset, .unset, .unset, .unset, .unset, .unset, .unset, .unset, .unset, .unset, .unset] [])) _
            refine XS.iconst X52.here hx rfl (hb hby at_117) ?_
            exact k)
          have q_z118_s0 : z118_s0 = (0 : Int32) := by rw [hz118_s0, if_pos hc96, if_pos hc103, if_pos hc110]
          refine ⟨_, _, X52, e52, N52, fun t k => ?_⟩
          rw [q_z118_s0] at k
          exact pre57 t k
        ·
          have pre58 : ∀ t, Steps p.tables e below (T52.setTop (mkF m 118 #[.val (.long q1), .second, .val (.long q2), .second, .val (.long q3), .second, .val (.int p4), .val (.int p5), .val (.int p6), .val (.long v3), .second, .val (.long v8), .second, .val (.long v14), .second, .val (.long v23), .second, .val (.long v32), .second, .val (.int v42), .val (.int v54), .val (.ref b48), .val (.ref b_50), .val (.ref b_51), .val (.int v90), .unset, .unset, .unset, .unset, .unset, .unset, .unset, .unset, .unset, .unset, .unset, .unset, .unset] [(.int (1 : Int32))])) t → Steps p.tables e below (s₁.setTop (entryFrame m #[(.long q1), (.long q2), (.long q3), (.int p4), (.int p5), (.int p6)] maxLocals)) t := fun t k => pre56 t (by
            show Steps p.tables e below (T52.setTop (mkF m 110 #[.val (.long q1), .second, .val (.long q2), .second, .val (.long q3), .second, .val (.int p4), .val (.int p5), .val (.int p6), .val (.long v3), .second, .val (.long v8), .second, .val (.long v14), .second, .val (.long v23), .second, .val (.long v32), .second, .val (.int v42), .val (.int v54), .val (.ref b48), .val (.ref b_50), .val (.ref b_51), .val (.int v90), .unset, .unset, .unset, .unset, .unset, .unset, .unset, .unset, .unset, .unset, .unset, .unset, .unset] [(.int (lcmpW v3 (0 : Int64)))])) _
            refine XS.ifNo X52.here hx rfl (hb hby at_110) rfl ((if0 _ _).trans (flt (fun q => hc110 ((lw_gt v3 (0 : Int64)).mp q))).2.2.1) ?_
            show Steps p.tables e below (T52.setTop (mkF m 113 #[.val (.long q1), .second, .val (.long q2), .second, .val (.long q3), .second, .val (.int p4), .val (.int p5), .val (.int p6), .val (.long v3), .second, .val (.long v8), .second, .val (.long v14), .second, .val (.long v23), .second, .val (.long v32), .second, .val (.int v42), .val (.int v54), .val (.ref b48), .val (.ref b_50), .val (.ref b_51), .val (.int v90), .unset, .unset, .unset, .unset, .unset, .unset, .unset, .unset, .unset, .unset, .unset, .unset, .unset] [])) _
            refine XS.iconst X52.here hx rfl (hb hby at_113) ?_
            show Steps p.tables e below (T52.setTop (mkF m 114 #[.val (.long q1), .second, .val (.long q2), .second, .val (.long q3), .second, .val (.int p4), .val (.int p5), .val (.int p6), .val (.long v3), .second, .val (.long v8), .second, .val (.long v14), .second, .val (.long v23), .second, .val (.long v32), .second, .val (.int v42), .val (.int v54), .val (.ref b48), .val (.ref b_50), .val (.ref b_51), .val (.int v90), .unset, .unset, .unset, .unset, .unset, .unset, .unset, .unset, .unset, .unset, .unset, .unset, .unset] [(.int (1 : Int32))])) _
            refine XS.goto X52.here hx rfl (pc0 := 114) (pc' := 118) rfl (hb hby at_114) (by decide) (by decide) ?_
            exact k)
          have q_z118_s0 : z118_s0 = (1 : Int32) := by rw [hz118_s0, if_pos hc96, if_pos hc103, if_neg hc110]
          refine ⟨_, _, X52, e52, N52, fun t k => ?_⟩
          rw [q_z118_s0] at k
          exact pre58 t k
      ·
        have pre59 : ∀ t, Steps p.tables e below (T52.setTop (mkF m 118 #[.val (.long q1), .second, .val (.long q2), .second, .val (.long q3), .second, .val (.int p4), .val (.int p5), .val (.int p6), .val (.long v3), .second, .val (.long v8), .second, .val (.long v14), .second, .val (.long v23), .second, .val (.long v32), .second, .val (.int v42), .val (.int v54), .val (.ref b48), .val (.ref b_50), .val (.ref b_51), .val (.int v90), .unset, .unset, .unset, .unset, .unset, .unset, .unset, .unset, .unset, .unset, .unset, .unset, .unset] [(.int (1 : Int32))])) t → Steps p.tables e below (s₁.setTop (entryFrame m #[(.long q1), (.long q2), (.long q3), (.int p4), (.int p5), (.int p6)] maxLocals)) t := fun t k => pre55 t (by
          show Steps p.tables e below (T52.setTop (mkF m 103 #[.val (.long q1), .second, .val (.long q2), .second, .val (.long q3), .second, .val (.int p4), .val (.int p5), .val (.int p6), .val (.long v3), .second, .val (.long v8), .second, .val (.long v14), .second, .val (.long v23), .second, .val (.long v32), .second, .val (.int v42), .val (.int v54), .val (.ref b48), .val (.ref b_50), .val (.ref b_51), .val (.int v90), .unset, .unset, .unset, .unset, .unset, .unset, .unset, .unset, .unset, .unset, .unset, .unset, .unset] [(.int (lcmpW v8 (0 : Int64)))])) _
          refine XS.ifYes X52.here hx rfl (pc0 := 103) (pc' := 113) rfl (hb hby at_103) rfl ((if0 _ _).trans (flt (fun q => hc103 ((lw_gt v8 (0 : Int64)).mp q))).2.2.2) (by decide) (by decide) ?_
          show Steps p.tables e below (T52.setTop (mkF m 113 #[.val (.long q1), .second, .val (.long q2), .second, .val (.long q3), .second, .val (.int p4), .val (.int p5), .val (.int p6), .val (.long v3), .second, .val (.long v8), .second, .val (.long v14), .second, .val (.long v23), .second, .val (.long v32), .second, .val (.int v42), .val (.int v54), .val (.ref b48), .val (.ref b_50), .val (.ref b_51), .val (.int v90), .unset, .unset, .unset, .unset, .unset, .unset, .unset, .unset, .unset, .unset, .unset, .unset, .unset] [])) _
          refine XS.iconst X52.here hx rfl (hb hby at_113) ?_
          show Steps p.tables e below (T52.setTop (mkF m 114 #[.val (.long q1), .second, .val (.long q2), .second, .val (.long q3), .second, .val (.int p4), .val (.int p5), .val (.int p6), .val (.long v3), .second, .val (.long v8), .second, .val (.long v14), .second, .val (.long v23), .second, .val (.long v32), .second, .val (.int v42), .val (.int v54), .val (.ref b48), .val (.ref b_50), .val (.ref b_51), .val (.int v90), .unset, .unset, .unset, .unset, .unset, .unset, .unset, .unset, .unset, .unset, .unset, .unset, .unset] [(.int (1 : Int32))])) _
          refine XS.goto X52.here hx rfl (pc0 := 114) (pc' := 118) rfl (hb hby at_114) (by decide) (by decide) ?_
          exact k)
        have q_z118_s0 : z118_s0 = (1 : Int32) := by rw [hz118_s0, if_pos hc96, if_neg hc103]
        refine ⟨_, _, X52, e52, N52, fun t k => ?_⟩
        rw [q_z118_s0] at k
        exact pre59 t k
    ·
      have pre60 : ∀ t, Steps p.tables e below (T52.setTop (mkF m 118 #[.val (.long q1), .second, .val (.long q2), .second, .val (.long q3), .second, .val (.int p4), .val (.int p5), .val (.int p6), .val (.long v3), .second, .val (.long v8), .second, .val (.long v14), .second, .val (.long v23), .second, .val (.long v32), .second, .val (.int v42), .val (.int v54), .val (.ref b48), .val (.ref b_50), .val (.ref b_51), .val (.int v90), .unset, .unset, .unset, .unset, .unset, .unset, .unset, .unset, .unset, .unset, .unset, .unset, .unset] [(.int (1 : Int32))])) t → Steps p.tables e below (s₁.setTop (entryFrame m #[(.long q1), (.long q2), (.long q3), (.int p4), (.int p5), (.int p6)] maxLocals)) t := fun t k => pre54 t (by
        show Steps p.tables e below (T52.setTop (mkF m 96 #[.val (.long q1), .second, .val (.long q2), .second, .val (.long q3), .second, .val (.int p4), .val (.int p5), .val (.int p6), .val (.long v3), .second, .val (.long v8), .second, .val (.long v14), .second, .val (.long v23), .second, .val (.long v32), .second, .val (.int v42), .val (.int v54), .val (.ref b48), .val (.ref b_50), .val (.ref b_51), .val (.int v90), .unset, .unset, .unset, .unset, .unset, .unset, .unset, .unset, .unset, .unset, .unset, .unset, .unset] [(.int (lcmpW v14 (0 : Int64)))])) _
        refine XS.ifYes X52.here hx rfl (pc0 := 96) (pc' := 113) rfl (hb hby at_96) rfl ((if0 _ _).trans (flt (fun q => hc96 ((lw_gt v14 (0 : Int64)).mp q))).2.2.2) (by decide) (by decide) ?_
        show Steps p.tables e below (T52.setTop (mkF m 113 #[.val (.long q1), .second, .val (.long q2), .second, .val (.long q3), .second, .val (.int p4), .val (.int p5), .val (.int p6), .val (.long v3), .second, .val (.long v8), .second, .val (.long v14), .second, .val (.long v23), .second, .val (.long v32), .second, .val (.int v42), .val (.int v54), .val (.ref b48), .val (.ref b_50), .val (.ref b_51), .val (.int v90), .unset, .unset, .unset, .unset, .unset, .unset, .unset, .unset, .unset, .unset, .unset, .unset, .unset] [])) _
        refine XS.iconst X52.here hx rfl (hb hby at_113) ?_
        show Steps p.tables e below (T52.setTop (mkF m 114 #[.val (.long q1), .second, .val (.long q2), .second, .val (.long q3), .second, .val (.int p4), .val (.int p5), .val (.int p6), .val (.long v3), .second, .val (.long v8), .second, .val (.long v14), .second, .val (.long v23), .second, .val (.long v32), .second, .val (.int v42), .val (.int v54), .val (.ref b48), .val (.ref b_50), .val (.ref b_51), .val (.int v90), .unset, .unset, .unset, .unset, .unset, .unset, .unset, .unset, .unset, .unset, .unset, .unset, .unset] [(.int (1 : Int32))])) _
        refine XS.goto X52.here hx rfl (pc0 := 114) (pc' := 118) rfl (hb hby at_114) (by decide) (by decide) ?_
        exact k)
      have q_z118_s0 : z118_s0 = (1 : Int32) := by rw [hz118_s0, if_neg hc96]
      refine ⟨_, _, X52, e52, N52, fun t k => ?_⟩
      rw [q_z118_s0] at k
      exact pre60 t k
  have pre62 : ∀ t, Steps p.tables e below (T61.setTop (mkF m 128 #[.val (.long q1), .second, .val (.long q2), .second, .val (.long q3), .second, .val (.int p4), .val (.int p5), .val (.int p6), .val (.long v3), .second, .val (.long v8), .second, .val (.long v14), .second, .val (.long v23), .second, .val (.long v32), .second, .val (.int v42), .val (.int v54), .val (.ref b48), .val (.ref b_50), .val (.ref b_51), .val (.int v90), .val (.int z118_s0), .unset, .unset, .unset, .unset, .unset, .unset, .unset, .unset, .unset, .unset, .unset, .unset] [(.ref b_51), (.ref b_50), (.ref b48), (.int v42)])) t → Steps p.tables e below (s₁.setTop (entryFrame m #[(.long q1), (.long q2), (.long q3), (.int p4), (.int p5), (.int p6)] maxLocals)) t := fun t k => pre61 t (by
    show Steps p.tables e below (T61.setTop (mkF m 118 #[.val (.long q1), .second, .val (.long q2), .second, .val (.long q3), .second, .val (.int p4), .val (.int p5), .val (.int p6), .val (.long v3), .second, .val (.long v8), .second, .val (.long v14), .second, .val (.long v23), .second, .val (.long v32), .second, .val (.int v42), .val (.int v54), .val (.ref b48), .val (.ref b_50), .val (.ref b_51), .val (.int v90), .unset, .unset, .unset, .unset, .unset, .unset, .unset, .unset, .unset, .unset, .unset, .unset, .unset] [(.int z118_s0)])) _
    refine XS.istore X61.here hx rfl (hb hby at_118) rfl (l' := #[.val (.long q1), .second, .val (.long q2), .second, .val (.long q3), .second, .val (.int p4), .val (.int p5), .val (.int p6), .val (.long v3), .second, .val (.long v8), .second, .val (.long v14), .second, .val (.long v23), .second, .val (.long v32), .second, .val (.int v42), .val (.int v54), .val (.ref b48), .val (.ref b_50), .val (.ref b_51), .val (.int v90), .val (.int z118_s0), .unset, .unset, .unset, .unset, .unset, .unset, .unset, .unset, .unset, .unset, .unset, .unset]) rfl ?_
    show Steps p.tables e below (T61.setTop (mkF m 120 #[.val (.long q1), .second, .val (.long q2), .second, .val (.long q3), .second, .val (.int p4), .val (.int p5), .val (.int p6), .val (.long v3), .second, .val (.long v8), .second, .val (.long v14), .second, .val (.long v23), .second, .val (.long v32), .second, .val (.int v42), .val (.int v54), .val (.ref b48), .val (.ref b_50), .val (.ref b_51), .val (.int v90), .val (.int z118_s0), .unset, .unset, .unset, .unset, .unset, .unset, .unset, .unset, .unset, .unset, .unset, .unset] [])) _
    refine XS.iload X61.here hx rfl (hb hby at_120) rfl ?_
    show Steps p.tables e below (T61.setTop (mkF m 122 #[.val (.long q1), .second, .val (.long q2), .second, .val (.long q3), .second, .val (.int p4), .val (.int p5), .val (.int p6), .val (.long v3), .second, .val (.long v8), .second, .val (.long v14), .second, .val (.long v23), .second, .val (.long v32), .second, .val (.int v42), .val (.int v54), .val (.ref b48), .val (.ref b_50), .val (.ref b_51), .val (.int v90), .val (.int z118_s0), .unset, .unset, .unset, .unset, .unset, .unset, .unset, .unset, .unset, .unset, .unset, .unset] [(.int v42)])) _
    refine XS.aload X61.here hx rfl (hb hby at_122) rfl rfl ?_
    show Steps p.tables e below (T61.setTop (mkF m 124 #[.val (.long q1), .second, .val (.long q2), .second, .val (.long q3), .second, .val (.int p4), .val (.int p5), .val (.int p6), .val (.long v3), .second, .val (.long v8), .second, .val (.long v14), .second, .val (.long v23), .second, .val (.long v32), .second, .val (.int v42), .val (.int v54), .val (.ref b48), .val (.ref b_50), .val (.ref b_51), .val (.int v90), .val (.int z118_s0), .unset, .unset, .unset, .unset, .unset, .unset, .unset, .unset, .unset, .unset, .unset, .unset] [(.ref b48), (.int v42)])) _
    refine XS.aload X61.here hx rfl (hb hby at_124) rfl rfl ?_
    show Steps p.tables e below (T61.setTop (mkF m 126 #[.val (.long q1), .second, .val (.long q2), .second, .val (.long q3), .second, .val (.int p4), .val (.int p5), .val (.int p6), .val (.long v3), .second, .val (.long v8), .second, .val (.long v14), .second, .val (.long v23), .second, .val (.long v32), .second, .val (.int v42), .val (.int v54), .val (.ref b48), .val (.ref b_50), .val (.ref b_51), .val (.int v90), .val (.int z118_s0), .unset, .unset, .unset, .unset, .unset, .unset, .unset, .unset, .unset, .unset, .unset, .unset] [(.ref b_50), (.ref b48), (.int v42)])) _
    refine XS.aload X61.here hx rfl (hb hby at_126) rfl rfl ?_
    exact k)
  obtain ⟨z136_F_left_b_50, hz136_F_left_b_50⟩ : ∃ z : Int64, z = (if v42 = (0 : Int32) then v8 else (v8 - v23)) := ⟨_, rfl⟩
  obtain ⟨z136_F_left_b_51, hz136_F_left_b_51⟩ : ∃ z : Int64, z = (if v42 = (0 : Int32) then v14 else (if v42 = (1 : Int32) then v14 else (v14 - v23))) := ⟨_, rfl⟩
  obtain ⟨T72, Lc72, h72, X72, e72, N72, Zs, E_b48, F_left_b48, F_whole_b48, E_b_50, F_left_b_50, F_whole_b_50, E_b_51, F_left_b_51, F_whole_b_51, pre72⟩ : ∃ (T' : State) (locs' : List Loc) (h' : Heap), Stand p l e room_1 s m #[(.long q1), (.long q2), (.long q3), (.int p4), (.int p5), (.int p6)] below meth c T' locs' 3 6 ∧ T'.heap = h' ∧ Fr n0 locs' ∧ (n0 ≤ h'.size) ∧ (Exa Z h' b48 "com/example/regolo/regolo/engine/Work") ∧ (Fld Z h' b48 "com/example/regolo/regolo/engine/Work" "left" "J" (.long (v3 - v23))) ∧ (Fld Z h' b48 "com/example/regolo/regolo/engine/Work" "whole" "Lcom/example/regolo/regolo/engine/Work;" .null) ∧ (Exa Z h' b_50 "com/example/regolo/regolo/engine/Work") ∧ (Fld Z h' b_50 "com/example/regolo/regolo/engine/Work" "left" "J" (.long z136_F_left_b_50)) ∧ (Fld Z h' b_50 "com/example/regolo/regolo/engine/Work" "whole" "Lcom/example/regolo/regolo/engine/Work;" (.ref b48)) ∧ (Exa Z h' b_51 "com/example/regolo/regolo/engine/Work") ∧ (Fld Z h' b_51 "com/example/regolo/regolo/engine/Work" "left" "J" (.long z136_F_left_b_51)) ∧ (Fld Z h' b_51 "com/example/regolo/regolo/engine/Work" "whole" "Lcom/example/regolo/regolo/engine/Work;" (.ref b_50)) ∧ ∀ t, Steps p.tables e below (T'.setTop (mkF m 136 #[.val (.long q1), .second, .val (.long q2), .second, .val (.long q3), .second, .val (.int p4), .val (.int p5), .val (.int p6), .val (.long v3), .second, .val (.long v8), .second, .val (.long v14), .second, .val (.long v23), .second, .val (.long v32), .second, .val (.int v42), .val (.int v54), .val (.ref b48), .val (.ref b_50), .val (.ref b_51), .val (.int v90), .val (.int z118_s0), .unset, .unset, .unset, .unset, .unset, .unset, .unset, .unset, .unset, .unset, .unset, .unset] [])) t → Steps p.tables e below (s₁.setTop (entryFrame m #[(.long q1), (.long q2), (.long q3), (.int p4), (.int p5), (.int p6)] maxLocals)) t := by
    by_cases hs0 : v42 = (0 : Int32)
    ·
      obtain ⟨_, _, ⟨T63, L63, k63, n63⟩, -, X63, ⟨Lc63, hQ63, l63, y63, z63⟩, st63⟩ := Jvm.LawKit.callS X61 hx (y := (⟨"com/example/regolo/regolo/engine/WorkSpentPinLaw", "pick", "(ILcom/example/regolo/regolo/engine/Work;Lcom/example/regolo/regolo/engine/Work;Lcom/example/regolo/regolo/engine/Work;)Lcom/example/regolo/regolo/engine/Work;"⟩ : MethodName)) hown (mvT hZ (hw _ (List.mem_of_getElem? (i := 32) rfl))) (mvT hZ (hw _ (List.mem_of_getElem? (i := 33) rfl))) (mvT hZ (hw _ (List.mem_of_getElem? (i := 34) rfl))) (mvT hZ (hw _ (List.mem_of_getElem? (i := 35) rfl))) (by decide) (backOf (W := 0) (rmK0 l Z a0 hw [] v42 b48 b_50 b_51 T51.heap n0 Zs hs0) hZ (hw _ (List.mem_of_getElem? (i := 35) rfl)) (hw _ (List.mem_of_getElem? (i := 34) rfl)) (by decide) (by decide)) (g := (mkF m 128 #[.val (.long q1), .second, .val (.long q2), .second, .val (.long q3), .second, .val (.int p4), .val (.int p5), .val (.int p6), .val (.long v3), .second, .val (.long v8), .second, .val (.long v14), .second, .val (.long v23), .second, .val (.long v32), .second, .val (.int v42), .val (.int v54), .val (.ref b48), .val (.ref b_50), .val (.ref b_51), .val (.int v90), .val (.int z118_s0), .unset, .unset, .unset, .unset, .unset, .unset, .unset, .unset, .unset, .unset, .unset, .unset] [(.ref b_51), (.ref b_50), (.ref b48), (.int v42)])) rfl (by rw [hml]; rfl) (argsL := [(.int v42), (.ref b48), (.ref b_50), (.ref b_51)]) (rest := []) (lenOf pd_5 rfl) rfl (by show 2 * 0 + _ ≤ _; exact Nat.le_of_eq rfl) (hb hby at_128) (fun _ _ => ⟨rfl, e61, (by decide : 3 + 0 ≤ _), (by decide : 6 + 0 ≤ _)⟩)
      dsimp only [Pt.U, Pt.locs, Pt.cells, Pt.slots] at X63 l63 y63 z63 st63 hQ63
      subst l63 y63 z63
      obtain ⟨rfl, N63q, e63⟩ := hQ63
      have N63 := Fr.app N61 N63q
      obtain ⟨cq64, kq64, q64a, q64b, q64c⟩ := isOf hZ e63 E_b48
      obtain ⟨_, _, ⟨T64, L64, k64, n64⟩, -, X64, ⟨Lc64, hQ64, l64, y64, z64⟩, st64⟩ := X63.virtualBack hx (y := (⟨"com/example/regolo/regolo/engine/Work", "spend", "(J)V"⟩ : MethodName)) (z := (⟨"com/example/regolo/regolo/engine/Work", "spend", "(J)V"⟩ : MethodName)) hown (mvT hZ (hw _ (List.mem_of_getElem? (i := 36) rfl))) (mvT hZ (hw _ (List.mem_of_getElem? (i := 37) rfl))) (notFace_of_selects (args := #[]) (mvT hZ (hw _ (List.mem_of_getElem? (i := 39) rfl)))) (mvT hZ (hw _ (List.mem_of_getElem? (i := 39) rfl))) (mvT hZ (hw _ (List.mem_of_getElem? (i := 38) rfl))) (by decide) (backOf (W := 0) (rmS0 l Z a0 hw [] b48 v23 v3 T51.heap n0 Zs E_b48 F_left_b48 F_whole_b48 g_b48) hZ (hw _ (List.mem_of_getElem? (i := 40) rfl)) (hw _ (List.mem_of_getElem? (i := 7) rfl)) (by decide) (by decide)) q64a q64c (g := (mkF m 133 #[.val (.long q1), .second, .val (.long q2), .second, .val (.long q3), .second, .val (.int p4), .val (.int p5), .val (.int p6), .val (.long v3), .second, .val (.long v8), .second, .val (.long v14), .second, .val (.long v23), .second, .val (.long v32), .second, .val (.int v42), .val (.int v54), .val (.ref b48), .val (.ref b_50), .val (.ref b_51), .val (.int v90), .val (.int z118_s0), .unset, .unset, .unset, .unset, .unset, .unset, .unset, .unset, .unset, .unset, .unset, .unset] [(.long v23), (.ref b48)])) rfl (by rw [hml]; rfl) (Steps.refl _) (argsL := [(.long v23)]) (rest := []) (lenOf pd_1 rfl) rfl (by show 2 * 0 + _ ≤ _; exact Nat.le_of_eq rfl) (hb hby at_133) (fun _ _ => ⟨rfl, e63, (by decide : 3 + 0 ≤ _), (by decide : 6 + 0 ≤ _)⟩)
      dsimp only [Pt.U, Pt.locs, Pt.cells, Pt.slots] at X64 l64 y64 z64 st64 hQ64
      subst l64 y64 z64
      obtain ⟨rfl, N64q, K64, P64_1, P64_2⟩ := hQ64
      have Zs : n0 ≤ T64.heap.size := Nat.le_trans Zs K64.1
      have E_b48 : Exa Z T64.heap b48 "com/example/regolo/regolo/engine/Work" := E_b48.keep K64
      have E_b_50 : Exa Z T64.heap b_50 "com/example/regolo/regolo/engine/Work" := E_b_50.keep K64
      have F_left_b_50 : Fld Z T64.heap b_50 "com/example/regolo/regolo/engine/Work" "left" "J" (.long v8) := F_left_b_50.keep K64 (ninS (Ne.symm ne_b48_b_50) nin0)
      have F_whole_b_50 : Fld Z T64.heap b_50 "com/example/regolo/regolo/engine/Work" "whole" "Lcom/example/regolo/regolo/engine/Work;" (.ref b48) := F_whole_b_50.keep K64 (ninS (Ne.symm ne_b48_b_50) nin0)
      have E_b_51 : Exa Z T64.heap b_51 "com/example/regolo/regolo/engine/Work" := E_b_51.keep K64
      have F_left_b_51 : Fld Z T64.heap b_51 "com/example/regolo/regolo/engine/Work" "left" "J" (.long v14) := F_left_b_51.keep K64 (ninS (Ne.symm ne_b48_b_51) nin0)
      have F_whole_b_51 : Fld Z T64.heap b_51 "com/example/regolo/regolo/engine/Work" "whole" "Lcom/example/regolo/regolo/engine/Work;" (.ref b_50) := F_whole_b_51.keep K64 (ninS (Ne.symm ne_b48_b_51) nin0)
      have F_left_b48 : Fld Z T64.heap b48 "com/example/regolo/regolo/engine/Work" "left" "J" (.long (v3 - v23)) := P64_1
      have F_whole_b48 : Fld Z T64.heap b48 "com/example/regolo/regolo/engine/Work" "whole" "Lcom/example/regolo/regolo/engine/Work;" .null := P64_2
      have N64 := Fr.app N63 N64q
      have pre65 : ∀ t, Steps p.tables e below (T64.setTop (mkF m 136 #[.val (.long q1), .second, .val (.long q2), .second, .val (.long q3), .second, .val (.int p4), .val (.int p5), .val (.int p6), .val (.long v3), .second, .val (.long v8), .second, .val (.long v14), .second, .val (.long v23), .second, .val (.long v32), .second, .val (.int v42), .val (.int v54), .val (.ref b48), .val (.ref b_50), .val (.ref b_51), .val (.int v90), .val (.int z118_s0), .unset, .unset, .unset, .unset, .unset, .unset, .unset, .unset, .unset, .unset, .unset, .unset] [])) t → Steps p.tables e below (s₁.setTop (entryFrame m #[(.long q1), (.long q2), (.long q3), (.int p4), (.int p5), (.int p6)] maxLocals)) t := fun t k => pre62 t (by
        show Steps p.tables e below (T61.setTop (mkF m 128 #[.val (.long q1), .second, .val (.long q2), .second, .val (.long q3), .second, .val (.int p4), .val (.int p5), .val (.int p6), .val (.long v3), .second, .val (.long v8), .second, .val (.long v14), .second, .val (.long v23), .second, .val (.long v32), .second, .val (.int v42), .val (.int v54), .val (.ref b48), .val (.ref b_50), .val (.ref b_51), .val (.int v90), .val (.int z118_s0), .unset, .unset, .unset, .unset, .unset, .unset, .unset, .unset, .unset, .unset, .unset, .unset] [(.ref b_51), (.ref b_50), (.ref b48), (.int v42)])) _
        refine st63 _ ?_
        show Steps p.tables e below (T63.setTop (mkF m 131 #[.val (.long q1), .second, .val (.long q2), .second, .val (.long q3), .second, .val (.int p4), .val (.int p5), .val (.int p6), .val (.long v3), .second, .val (.long v8), .second, .val (.long v14), .second, .val (.long v23), .second, .val (.long v32), .second, .val (.int v42), .val (.int v54), .val (.ref b48), .val (.ref b_50), .val (.ref b_51), .val (.int v90), .val (.int z118_s0), .unset, .unset, .unset, .unset, .unset, .unset, .unset, .unset, .unset, .unset, .unset, .unset] [(.ref b48)])) _
        refine XS.lload X63.here hx rfl (hb hby at_131) rfl ?_
        show Steps p.tables e below (T63.setTop (mkF m 133 #[.val (.long q1), .second, .val (.long q2), .second, .val (.long q3), .second, .val (.int p4), .val (.int p5), .val (.int p6), .val (.long v3), .second, .val (.long v8), .second, .val (.long v14), .second, .val (.long v23), .second, .val (.long v32), .second, .val (.int v42), .val (.int v54), .val (.ref b48), .val (.ref b_50), .val (.ref b_51), .val (.int v90), .val (.int z118_s0), .unset, .unset, .unset, .unset, .unset, .unset, .unset, .unset, .unset, .unset, .unset, .unset] [(.long v23), (.ref b48)])) _
        refine st64.trans ?_
        exact k)
      have q_z136_F_left_b_50 : z136_F_left_b_50 = v8 := by rw [hz136_F_left_b_50, if_pos hs0]
      have q_z136_F_left_b_51 : z136_F_left_b_51 = v14 := by rw [hz136_F_left_b_51, if_pos hs0]
      refine ⟨_, _, _, X64, rfl, N64, Zs, E_b48, F_left_b48, F_whole_b48, E_b_50, (by rw [q_z136_F_left_b_50]; exact F_left_b_50), F_whole_b_50, E_b_51, (by rw [q_z136_F_left_b_51]; exact F_left_b_51), F_whole_b_51, fun t k => ?_⟩
      exact pre65 t k
    ·
      by_cases hs1 : v42 = (1 : Int32)
      ·
        obtain ⟨_, _, ⟨T66, L66, k66, n66⟩, -, X66, ⟨Lc66, hQ66, l66, y66, z66⟩, st66⟩ := Jvm.LawKit.callS X61 hx (y := (⟨"com/example/regolo/regolo/engine/WorkSpentPinLaw", "pick", "(ILcom/example/regolo/regolo/engine/Work;Lcom/example/regolo/regolo/engine/Work;Lcom/example/regolo/regolo/engine/Work;)Lcom/example/regolo/regolo/engine/Work;"⟩ : MethodName)) hown (mvT hZ (hw _ (List.mem_of_getElem? (i := 32) rfl))) (mvT hZ (hw _ (List.mem_of_getElem? (i := 33) rfl))) (mvT hZ (hw _ (List.mem_of_getElem? (i := 34) rfl))) (mvT hZ (hw _ (List.mem_of_getElem? (i := 35) rfl))) (by decide) (backOf (W := 0) (rmK1 l Z a0 hw [] v42 b48 b_50 b_51 T51.heap n0 Zs hs0 hs1) hZ (hw _ (List.mem_of_getElem? (i := 35) rfl)) (hw _ (List.mem_of_getElem? (i := 34) rfl)) (by decide) (by decide)) (g := (mkF m 128 #[.val (.long q1), .second, .val (.long q2), .second, .val (.long q3), .second, .val (.int p4), .val (.int p5), .val (.int p6), .val (.long v3), .second, .val (.long v8), .second, .val (.long v14), .second, .val (.long v23), .second, .val (.long v32), .second, .val (.int v42), .val (.int v54), .val (.ref b48), .val (.ref b_50), .val (.ref b_51), .val (.int v90), .val (.int z118_s0), .unset, .unset, .unset, .unset, .unset, .unset, .unset, .unset, .unset, .unset, .unset, .unset] [(.ref b_51), (.ref b_50), (.ref b48), (.int v42)])) rfl (by rw [hml]; rfl) (argsL := [(.int v42), (.ref b48), (.ref b_50), (.ref b_51)]) (rest := []) (lenOf pd_5 rfl) rfl (by show 2 * 0 + _ ≤ _; exact Nat.le_of_eq rfl) (hb hby at_128) (fun _ _ => ⟨rfl, e61, (by decide : 3 + 0 ≤ _), (by decide : 6 + 0 ≤ _)⟩)
        dsimp only [Pt.U, Pt.locs, Pt.cells, Pt.slots] at X66 l66 y66 z66 st66 hQ66
        subst l66 y66 z66
        obtain ⟨rfl, N66q, e66⟩ := hQ66
        have N66 := Fr.app N61 N66q
        obtain ⟨cq67, kq67, q67a, q67b, q67c⟩ := isOf hZ e66 E_b_50
        obtain ⟨_, _, ⟨T67, L67, k67, n67⟩, -, X67, ⟨Lc67, hQ67, l67, y67, z67⟩, st67⟩ := X66.virtualBack hx (y := (⟨"com/example/regolo/regolo/engine/Work", "spend", "(J)V"⟩ : MethodName)) (z := (⟨"com/example/regolo/regolo/engine/Work", "spend", "(J)V"⟩ : MethodName)) hown (mvT hZ (hw _ (List.mem_of_getElem? (i := 36) rfl))) (mvT hZ (hw _ (List.mem_of_getElem? (i := 37) rfl))) (notFace_of_selects (args := #[]) (mvT hZ (hw _ (List.mem_of_getElem? (i := 39) rfl)))) (mvT hZ (hw _ (List.mem_of_getElem? (i := 39) rfl))) (mvT hZ (hw _ (List.mem_of_getElem? (i := 38) rfl))) (by decide) (backOf (W := 0) (rmS1 l Z a0 hw [] b_50 v23 v8 b48 v3 T51.heap n0 Zs E_b_50 F_left_b_50 F_whole_b_50 g_b_50 E_b48 F_left_b48 F_whole_b48 g_b48 (Ne.symm ne_b48_b_50)) hZ (hw _ (List.mem_of_getElem? (i := 40) rfl)) (hw _ (List.mem_of_getElem? (i := 7) rfl)) (by decide) (by decide)) q67a q67c (g := (mkF m 133 #[.val (.long q1), .second, .val (.long q2), .second, .val (.long q3), .second, .val (.int p4), .val (.int p5), .val (.int p6), .val (.long v3), .second, .val (.long v8), .second, .val (.long v14), .second, .val (.long v23), .second, .val (.long v32), .second, .val (.int v42), .val (.int v54), .val (.ref b48), .val (.ref b_50), .val (.ref b_51), .val (.int v90), .val (.int z118_s0), .unset, .unset, .unset, .unset, .unset, .unset, .unset, .unset, .unset, .unset, .unset, .unset] [(.long v23), (.ref b_50)])) rfl (by rw [hml]; rfl) (Steps.refl _) (argsL := [(.long v23)]) (rest := []) (lenOf pd_1 rfl) rfl (by show 2 * 0 + _ ≤ _; exact Nat.le_of_eq rfl) (hb hby at_133) (fun _ _ => ⟨rfl, e66, (by decide : 3 + 0 ≤ _), (by decide : 6 + 0 ≤ _)⟩)
        dsimp only [Pt.U, Pt.locs, Pt.cells, Pt.slots] at X67 l67 y67 z67 st67 hQ67
        subst l67 y67 z67
        obtain ⟨rfl, N67q, K67, P67_1, P67_2, P67_3, P67_4⟩ := hQ67
        have Zs : n0 ≤ T67.heap.size := Nat.le_trans Zs K67.1
        have E_b48 : Exa Z T67.heap b48 "com/example/regolo/regolo/engine/Work" := E_b48.keep K67
        have E_b_50 : Exa Z T67.heap b_50 "com/example/regolo/regolo/engine/Work" := E_b_50.keep K67
        have E_b_51 : Exa Z T67.heap b_51 "com/example/regolo/regolo/engine/Work" := E_b_51.keep K67
        have F_left_b_51 : Fld Z T67.heap b_51 "com/example/regolo/regolo/engine/Work" "left" "J" (.long v14) := F_left_b_51.keep K67 (ninS (Ne.symm ne_b_50_b_51) (ninS (Ne.symm ne_b48_b_51) nin0))
        have F_whole_b_51 : Fld Z T67.heap b_51 "com/example/regolo/regolo/engine/Work" "whole" "Lcom/example/regolo/regolo/engine/Work;" (.ref b_50) := F_whole_b_51.keep K67 (ninS (Ne.symm ne_b_50_b_51) (ninS (Ne.symm ne_b48_b_51) nin0))
        have F_left_b_50 : Fld Z T67.heap b_50 "com/example/regolo/regolo/engine/Work" "left" "J" (.long (v8 - v23)) := P67_1
        have F_whole_b_50 : Fld Z T67.heap b_50 "com/example/regolo/regolo/engine/Work" "whole" "Lcom/example/regolo/regolo/engine/Work;" (.ref b48) := P67_2
        have F_left_b48 : Fld Z T67.heap b48 "com/example/regolo/regolo/engine/Work" "left" "J" (.long (v3 - v23)) := P67_3
        have F_whole_b48 : Fld Z T67.heap b48 "com/example/regolo/regolo/engine/Work" "whole" "Lcom/example/regolo/regolo/engine/Work;" .null := P67_4
        have N67 := Fr.app N66 N67q
        have pre68 : ∀ t, Steps p.tables e below (T67.setTop (mkF m 136 #[.val (.long q1), .second, .val (.long q2), .second, .val (.long q3), .second, .val (.int p4), .val (.int p5), .val (.int p6), .val (.long v3), .second, .val (.long v8), .second, .val (.long v14), .second, .val (.long v23), .second, .val (.long v32), .second, .val (.int v42), .val (.int v54), .val (.ref b48), .val (.ref b_50), .val (.ref b_51), .val (.int v90), .val (.int z118_s0), .unset, .unset, .unset, .unset, .unset, .unset, .unset, .unset, .unset, .unset, .unset, .unset] [])) t → Steps p.tables e below (s₁.setTop (entryFrame m #[(.long q1), (.long q2), (.long q3), (.int p4), (.int p5), (.int p6)] maxLocals)) t := fun t k => pre62 t (by
          show Steps p.tables e below (T61.setTop (mkF m 128 #[.val (.long q1), .second, .val (.long q2), .second, .val (.long q3), .second, .val (.int p4), .val (.int p5), .val (.int p6), .val (.long v3), .second, .val (.long v8), .second, .val (.long v14), .second, .val (.long v23), .second, .val (.long v32), .second, .val (.int v42), .val (.int v54), .val (.ref b48), .val (.ref b_50), .val (.ref b_51), .val (.int v90), .val (.int z118_s0), .unset, .unset, .unset, .unset, .unset, .unset, .unset, .unset, .unset, .unset, .unset, .unset] [(.ref b_51), (.ref b_50), (.ref b48), (.int v42)])) _
          refine st66 _ ?_
          show Steps p.tables e below (T66.setTop (mkF m 131 #[.val (.long q1), .second, .val (.long q2), .second, .val (.long q3), .second, .val (.int p4), .val (.int p5), .val (.int p6), .val (.long v3), .second, .val (.long v8), .second, .val (.long v14), .second, .val (.long v23), .second, .val (.long v32), .second, .val (.int v42), .val (.int v54), .val (.ref b48), .val (.ref b_50), .val (.ref b_51), .val (.int v90), .val (.int z118_s0), .unset, .unset, .unset, .unset, .unset, .unset, .unset, .unset, .unset, .unset, .unset, .unset] [(.ref b_50)])) _
          refine XS.lload X66.here hx rfl (hb hby at_131) rfl ?_
          show Steps p.tables e below (T66.setTop (mkF m 133 #[.val (.long q1), .second, .val (.long q2), .second, .val (.long q3), .second, .val (.int p4), .val (.int p5), .val (.int p6), .val (.long v3), .second, .val (.long v8), .second, .val (.long v14), .second, .val (.long v23), .second, .val (.long v32), .second, .val (.int v42), .val (.int v54), .val (.ref b48), .val (.ref b_50), .val (.ref b_51), .val (.int v90), .val (.int z118_s0), .unset, .unset, .unset, .unset, .unset, .unset, .unset, .unset, .unset, .unset, .unset, .unset] [(.long v23), (.ref b_50)])) _
          refine st67.trans ?_
          exact k)
        have q_z136_F_left_b_50 : z136_F_left_b_50 = (v8 - v23) := by rw [hz136_F_left_b_50, if_neg hs0]
        have q_z136_F_left_b_51 : z136_F_left_b_51 = v14 := by rw [hz136_F_left_b_51, if_neg hs0, if_pos hs1]
        refine ⟨_, _, _, X67, rfl, N67, Zs, E_b48, F_left_b48, F_whole_b48, E_b_50, (by rw [q_z136_F_left_b_50]; exact F_left_b_50), F_whole_b_50, E_b_51, (by rw [q_z136_F_left_b_51]; exact F_left_b_51), F_whole_b_51, fun t k => ?_⟩
        exact pre68 t k
      ·
        obtain ⟨_, _, ⟨T69, L69, k69, n69⟩, -, X69, ⟨Lc69, hQ69, l69, y69, z69⟩, st69⟩ := Jvm.LawKit.callS X61 hx (y := (⟨"com/example/regolo/regolo/engine/WorkSpentPinLaw", "pick", "(ILcom/example/regolo/regolo/engine/Work;Lcom/example/regolo/regolo/engine/Work;Lcom/example/regolo/regolo/engine/Work;)Lcom/example/regolo/regolo/engine/Work;"⟩ : MethodName)) hown (mvT hZ (hw _ (List.mem_of_getElem? (i := 32) rfl))) (mvT hZ (hw _ (List.mem_of_getElem? (i := 33) rfl))) (mvT hZ (hw _ (List.mem_of_getElem? (i := 34) rfl))) (mvT hZ (hw _ (List.mem_of_getElem? (i := 35) rfl))) (by decide) (backOf (W := 0) (rmK2 l Z a0 hw [] v42 b48 b_50 b_51 T51.heap n0 Zs hs0 hs1) hZ (hw _ (List.mem_of_getElem? (i := 35) rfl)) (hw _ (List.mem_of_getElem? (i := 34) rfl)) (by decide) (by decide)) (g := (mkF m 128 #[.val (.long q1), .second, .val (.long q2), .second, .val (.long q3), .second, .val (.int p4), .val (.int p5), .val (.int p6), .val (.long v3), .second, .val (.long v8), .second, .val (.long v14), .second, .val (.long v23), .second, .val (.long v32), .second, .val (.int v42), .val (.int v54), .val (.ref b48), .val (.ref b_50), .val (.ref b_51), .val (.int v90), .val (.int z118_s0), .unset, .unset, .unset, .unset, .unset, .unset, .unset, .unset, .unset, .unset, .unset, .unset] [(.ref b_51), (.ref b_50), (.ref b48), (.int v42)])) rfl (by rw [hml]; rfl) (argsL := [(.int v42), (.ref b48), (.ref b_50), (.ref b_51)]) (rest := []) (lenOf pd_5 rfl) rfl (by show 2 * 0 + _ ≤ _; exact Nat.le_of_eq rfl) (hb hby at_128) (fun _ _ => ⟨rfl, e61, (by decide : 3 + 0 ≤ _), (by decide : 6 + 0 ≤ _)⟩)
        dsimp only [Pt.U, Pt.locs, Pt.cells, Pt.slots] at X69 l69 y69 z69 st69 hQ69
        subst l69 y69 z69
        obtain ⟨rfl, N69q, e69⟩ := hQ69
        have N69 := Fr.app N61 N69q
        obtain ⟨cq70, kq70, q70a, q70b, q70c⟩ := isOf hZ e69 E_b_51
        obtain ⟨_, _, ⟨T70, L70, k70, n70⟩, -, X70, ⟨Lc70, hQ70, l70, y70, z70⟩, st70⟩ := X69.virtualBack hx (y := (⟨"com/example/regolo/regolo/engine/Work", "spend", "(J)V"⟩ : MethodName)) (z := (⟨"com/example/regolo/regolo/engine/Work", "spend", "(J)V"⟩ : MethodName)) hown (mvT hZ (hw _ (List.mem_of_getElem? (i := 36) rfl))) (mvT hZ (hw _ (List.mem_of_getElem? (i := 37) rfl))) (notFace_of_selects (args := #[]) (mvT hZ (hw _ (List.mem_of_getElem? (i := 39) rfl)))) (mvT hZ (hw _ (List.mem_of_getElem? (i := 39) rfl))) (mvT hZ (hw _ (List.mem_of_getElem? (i := 38) rfl))) (by decide) (backOf (W := 0) (rmS2 l Z a0 hw [] b_51 v23 v14 b_50 v8 b48 v3 T51.heap n0 Zs E_b_51 F_left_b_51 F_whole_b_51 g_b_51 E_b_50 F_left_b_50 F_whole_b_50 g_b_50 E_b48 F_left_b48 F_whole_b48 g_b48 (Ne.symm ne_b_50_b_51) (Ne.symm ne_b48_b_51) (Ne.symm ne_b48_b_50)) hZ (hw _ (List.mem_of_getElem? (i := 40) rfl)) (hw _ (List.mem_of_getElem? (i := 7) rfl)) (by decide) (by decide)) q70a q70c (g := (mkF m 133 #[.val (.long q1), .second, .val (.long q2), .second, .val (.long q3), .second, .val (.int p4), .val (.int p5), .val (.int p6), .val (.long v3), .second, .val (.long v8), .second, .val (.long v14), .second, .val (.long v23), .second, .val (.long v32), .second, .val (.int v42), .val (.int v54), .val (.ref b48), .val (.ref b_50), .val (.ref b_51), .val (.int v90), .val (.int z118_s0), .unset, .unset, .unset, .unset, .unset, .unset, .unset, .unset, .unset, .unset, .unset, .unset] [(.long v23), (.ref b_51)])) rfl (by rw [hml]; rfl) (Steps.refl _) (argsL := [(.long v23)]) (rest := []) (lenOf pd_1 rfl) rfl (by show 2 * 0 + _ ≤ _; exact Nat.le_of_eq rfl) (hb hby at_133) (fun _ _ => ⟨rfl, e69, (by decide : 3 + 0 ≤ _), (by decide : 6 + 0 ≤ _)⟩)
        dsimp only [Pt.U, Pt.locs, Pt.cells, Pt.slots] at X70 l70 y70 z70 st70 hQ70
        subst l70 y70 z70
        obtain ⟨rfl, N70q, K70, P70_1, P70_2, P70_3, P70_4, P70_5, P70_6⟩ := hQ70
        have Zs : n0 ≤ T70.heap.size := Nat.le_trans Zs K70.1
        have E_b48 : Exa Z T70.heap b48 "com/example/regolo/regolo/engine/Work" := E_b48.keep K70
        have E_b_50 : Exa Z T70.heap b_50 "com/example/regolo/regolo/engine/Work" := E_b_50.keep K70
        have E_b_51 : Exa Z T70.heap b_51 "com/example/regolo/regolo/engine/Work" := E_b_51.keep K70
        have F_left_b_51 : Fld Z T70.heap b_51 "com/example/regolo/regolo/engine/Work" "left" "J" (.long (v14 - v23)) := P70_1
        have F_whole_b_51 : Fld Z T70.heap b_51 "com/example/regolo/regolo/engine/Work" "whole" "Lcom/example/regolo/regolo/engine/Work;" (.ref b_50) := P70_2
        have F_left_b_50 : Fld Z T70.heap b_50 "com/example/regolo/regolo/engine/Work" "left" "J" (.long (v8 - v23)) := P70_3
        have F_whole_b_50 : Fld Z T70.heap b_50 "com/example/regolo/regolo/engine/Work" "whole" "Lcom/example/regolo/regolo/engine/Work;" (.ref b48) := P70_4
        have F_left_b48 : Fld Z T70.heap b48 "com/example/regolo/regolo/engine/Work" "left" "J" (.long (v3 - v23)) := P70_5
        have F_whole_b48 : Fld Z T70.heap b48 "com/example/regolo/regolo/engine/Work" "whole" "Lcom/example/regolo/regolo/engine/Work;" .null := P70_6
        have N70 := Fr.app N69 N70q
        have pre71 : ∀ t, Steps p.tables e below (T70.setTop (mkF m 136 #[.val (.long q1), .second, .val (.long q2), .second, .val (.long q3), .second, .val (.int p4), .val (.int p5), .val (.int p6), .val (.long v3), .second, .val (.long v8), .second, .val (.long v14), .second, .val (.long v23), .second, .val (.long v32), .second, .val (.int v42), .val (.int v54), .val (.ref b48), .val (.ref b_50), .val (.ref b_51), .val (.int v90), .val (.int z118_s0), .unset, .unset, .unset, .unset, .unset, .unset, .unset, .unset, .unset, .unset, .unset, .unset] [])) t → Steps p.tables e below (s₁.setTop (entryFrame m #[(.long q1), (.long q2), (.long q3), (.int p4), (.int p5), (.int p6)] maxLocals)) t := fun t k => pre62 t (by
          show Steps p.tables e below (T61.setTop (mkF m 128 #[.val (.long q1), .second, .val (.long q2), .second, .val (.long q3), .second, .val (.int p4), .val (.int p5), .val (.int p6), .val (.long v3), .second, .val (.long v8), .second, .val (.long v14), .second, .val (.long v23), .second, .val (.long v32), .second, .val (.int v42), .val (.int v54), .val (.ref b48), .val (.ref b_50), .val (.ref b_51), .val (.int v90), .val (.int z118_s0), .unset, .unset, .unset, .unset, .unset, .unset, .unset, .unset, .unset, .unset, .unset, .unset] [(.ref b_51), (.ref b_50), (.ref b48), (.int v42)])) _
          refine st69 _ ?_
          show Steps p.tables e below (T69.setTop (mkF m 131 #[.val (.long q1), .second, .val (.long q2), .second, .val (.long q3), .second, .val (.int p4), .val (.int p5), .val (.int p6), .val (.long v3), .second, .val (.long v8), .second, .val (.long v14), .second, .val (.long v23), .second, .val (.long v32), .second, .val (.int v42), .val (.int v54), .val (.ref b48), .val (.ref b_50), .val (.ref b_51), .val (.int v90), .val (.int z118_s0), .unset, .unset, .unset, .unset, .unset, .unset, .unset, .unset, .unset, .unset, .unset, .unset] [(.ref b_51)])) _
          refine XS.lload X69.here hx rfl (hb hby at_131) rfl ?_
          show Steps p.tables e below (T69.setTop (mkF m 133 #[.val (.long q1), .second, .val (.long q2), .second, .val (.long q3), .second, .val (.int p4), .val (.int p5), .val (.int p6), .val (.long v3), .second, .val (.long v8), .second, .val (.long v14), .second, .val (.long v23), .second, .val (.long v32), .second, .val (.int v42), .val (.int v54), .val (.ref b48), .val (.ref b_50), .val (.ref b_51), .val (.int v90), .val (.int z118_s0), .unset, .unset, .unset, .unset, .unset, .unset, .unset, .unset, .unset, .unset, .unset, .unset] [(.long v23), (.ref b_51)])) _
          refine st70.trans ?_
          exact k)
        have q_z136_F_left_b_50 : z136_F_left_b_50 = (v8 - v23) := by rw [hz136_F_left_b_50, if_neg hs0]
        have q_z136_F_left_b_51 : z136_F_left_b_51 = (v14 - v23) := by rw [hz136_F_left_b_51, if_neg hs0, if_neg hs1]
        refine ⟨_, _, _, X70, rfl, N70, Zs, E_b48, F_left_b48, F_whole_b48, E_b_50, (by rw [q_z136_F_left_b_50]; exact F_left_b_50), F_whole_b_50, E_b_51, (by rw [q_z136_F_left_b_51]; exact F_left_b_51), F_whole_b_51, fun t k => ?_⟩
        exact pre71 t k
  have pre73 : ∀ t, Steps p.tables e below (T72.setTop (mkF m 144 #[.val (.long q1), .second, .val (.long q2), .second, .val (.long q3), .second, .val (.int p4), .val (.int p5), .val (.int p6), .val (.long v3), .second, .val (.long v8), .second, .val (.long v14), .second, .val (.long v23), .second, .val (.long v32), .second, .val (.int v42), .val (.int v54), .val (.ref b48), .val (.ref b_50), .val (.ref b_51), .val (.int v90), .val (.int z118_s0), .unset, .unset, .unset, .unset, .unset, .unset, .unset, .unset, .unset, .unset, .unset, .unset] [(.ref b_51), (.ref b_50), (.ref b48), (.int v54)])) t → Steps p.tables e below (s₁.setTop (entryFrame m #[(.long q1), (.long q2), (.long q3), (.int p4), (.int p5), (.int p6)] maxLocals)) t := fun t k => pre72 t (by
    show Steps p.tables e below (T72.setTop (mkF m 136 #[.val (.long q1), .second, .val (.long q2), .second, .val (.long q3), .second, .val (.int p4), .val (.int p5), .val (.int p6), .val (.long v3), .second, .val (.long v8), .second, .val (.long v14), .second, .val (.long v23), .second, .val (.long v32), .second, .val (.int v42), .val (.int v54), .val (.ref b48), .val (.ref b_50), .val (.ref b_51), .val (.int v90), .val (.int z118_s0), .unset, .unset, .unset, .unset, .unset, .unset, .unset, .unset, .unset, .unset, .unset, .unset] [])) _
    refine XS.iload X72.here hx rfl (hb hby at_136) rfl ?_
    show Steps p.tables e below (T72.setTop (mkF m 138 #[.val (.long q1), .second, .val (.long q2), .second, .val (.long q3), .second, .val (.int p4), .val (.int p5), .val (.int p6), .val (.long v3), .second, .val (.long v8), .second, .val (.long v14), .second, .val (.long v23), .second, .val (.long v32), .second, .val (.int v42), .val (.int v54), .val (.ref b48), .val (.ref b_50), .val (.ref b_51), .val (.int v90), .val (.int z118_s0), .unset, .unset, .unset, .unset, .unset, .unset, .unset, .unset, .unset, .unset, .unset, .unset] [(.int v54)])) _
    refine XS.aload X72.here hx rfl (hb hby at_138) rfl rfl ?_
    show Steps p.tables e below (T72.setTop (mkF m 140 #[.val (.long q1), .second, .val (.long q2), .second, .val (.long q3), .second, .val (.int p4), .val (.int p5), .val (.int p6), .val (.long v3), .second, .val (.long v8), .second, .val (.long v14), .second, .val (.long v23), .second, .val (.long v32), .second, .val (.int v42), .val (.int v54), .val (.ref b48), .val (.ref b_50), .val (.ref b_51), .val (.int v90), .val (.int z118_s0), .unset, .unset, .unset, .unset, .unset, .unset, .unset, .unset, .unset, .unset, .unset, .unset] [(.ref b48), (.int v54)])) _
    refine XS.aload X72.here hx rfl (hb hby at_140) rfl rfl ?_
    show Steps p.tables e below (T72.setTop (mkF m 142 #[.val (.long q1), .second, .val (.long q2), .second, .val (.long q3), .second, .val (.int p4), .val (.int p5), .val (.int p6), .val (.long v3), .second, .val (.long v8), .second, .val (.long v14), .second, .val (.long v23), .second, .val (.long v32), .second, .val (.int v42), .val (.int v54), .val (.ref b48), .val (.ref b_50), .val (.ref b_51), .val (.int v90), .val (.int z118_s0), .unset, .unset, .unset, .unset, .unset, .unset, .unset, .unset, .unset, .unset, .unset, .unset] [(.ref b_50), (.ref b48), (.int v54)])) _
    refine XS.aload X72.here hx rfl (hb hby at_142) rfl rfl ?_
    exact k)
  obtain ⟨z152_F_left_b_50, hz152_F_left_b_50⟩ : ∃ z : Int64, z = (if v54 = (0 : Int32) then z136_F_left_b_50 else (z136_F_left_b_50 - v32)) := ⟨_, rfl⟩
  obtain ⟨z152_F_left_b_51, hz152_F_left_b_51⟩ : ∃ z : Int64, z = (if v54 = (0 : Int32) then z136_F_left_b_51 else (if v54 = (1 : Int32) then z136_F_left_b_51 else (z136_F_left_b_51 - v32))) := ⟨_, rfl⟩
  obtain ⟨T83, Lc83, h83, X83, e83, N83, Zs, E_b48, F_left_b48, F_whole_b48, E_b_50, F_left_b_50, F_whole_b_50, E_b_51, F_left_b_51, F_whole_b_51, pre83⟩ : ∃ (T' : State) (locs' : List Loc) (h' : Heap), Stand p l e room_1 s m #[(.long q1), (.long q2), (.long q3), (.int p4), (.int p5), (.int p6)] below meth c T' locs' 3 6 ∧ T'.heap = h' ∧ Fr n0 locs' ∧ (n0 ≤ h'.size) ∧ (Exa Z h' b48 "com/example/regolo/regolo/engine/Work") ∧ (Fld Z h' b48 "com/example/regolo/regolo/engine/Work" "left" "J" (.long ((v3 - v23) - v32))) ∧ (Fld Z h' b48 "com/example/regolo/regolo/engine/Work" "whole" "Lcom/example/regolo/regolo/engine/Work;" .null) ∧ (Exa Z h' b_50 "com/example/regolo/regolo/engine/Work") ∧ (Fld Z h' b_50 "com/example/regolo/regolo/engine/Work" "left" "J" (.long z152_F_left_b_50)) ∧ (Fld Z h' b_50 "com/example/regolo/regolo/engine/Work" "whole" "Lcom/example/regolo/regolo/engine/Work;" (.ref b48)) ∧ (Exa Z h' b_51 "com/example/regolo/regolo/engine/Work") ∧ (Fld Z h' b_51 "com/example/regolo/regolo/engine/Work" "left" "J" (.long z152_F_left_b_51)) ∧ (Fld Z h' b_51 "com/example/regolo/regolo/engine/Work" "whole" "Lcom/example/regolo/regolo/engine/Work;" (.ref b_50)) ∧ ∀ t, Steps p.tables e below (T'.setTop (mkF m 152 #[.val (.long q1), .second, .val (.long q2), .second, .val (.long q3), .second, .val (.int p4), .val (.int p5), .val (.int p6), .val (.long v3), .second, .val (.long v8), .second, .val (.long v14), .second, .val (.long v23), .second, .val (.long v32), .second, .val (.int v42), .val (.int v54), .val (.ref b48), .val (.ref b_50), .val (.ref b_51), .val (.int v90), .val (.int z118_s0), .unset, .unset, .unset, .unset, .unset, .unset, .unset, .unset, .unset, .unset, .unset, .unset] [])) t → Steps p.tables e below (s₁.setTop (entryFrame m #[(.long q1), (.long q2), (.long q3), (.int p4), (.int p5), (.int p6)] maxLocals)) t := by
    by_cases ht0 : v54 = (0 : Int32)
    ·
      obtain ⟨_, _, ⟨T74, L74, k74, n74⟩, -, X74, ⟨Lc74, hQ74, l74, y74, z74⟩, st74⟩ := Jvm.LawKit.callS X72 hx (y := (⟨"com/example/regolo/regolo/engine/WorkSpentPinLaw", "pick", "(ILcom/example/regolo/regolo/engine/Work;Lcom/example/regolo/regolo/engine/Work;Lcom/example/regolo/regolo/engine/Work;)Lcom/example/regolo/regolo/engine/Work;"⟩ : MethodName)) hown (mvT hZ (hw _ (List.mem_of_getElem? (i := 32) rfl))) (mvT hZ (hw _ (List.mem_of_getElem? (i := 33) rfl))) (mvT hZ (hw _ (List.mem_of_getElem? (i := 34) rfl))) (mvT hZ (hw _ (List.mem_of_getElem? (i := 35) rfl))) (by decide) (backOf (W := 0) (rmK0 l Z a0 hw [] v54 b48 b_50 b_51 h72 n0 Zs ht0) hZ (hw _ (List.mem_of_getElem? (i := 35) rfl)) (hw _ (List.mem_of_getElem? (i := 34) rfl)) (by decide) (by decide)) (g := (mkF m 144 #[.val (.long q1), .second, .val (.long q2), .second, .val (.long q3), .second, .val (.int p4), .val (.int p5), .val (.int p6), .val (.long v3), .second, .val (.long v8), .second, .val (.long v14), .second, .val (.long v23), .second, .val (.long v32), .second, .val (.int v42), .val (.int v54), .val (.ref b48), .val (.ref b_50), .val (.ref b_51), .val (.int v90), .val (.int z118_s0), .unset, .unset, .unset, .unset, .unset, .unset, .unset, .unset, .unset, .unset, .unset, .unset] [(.ref b_51), (.ref b_50), (.ref b48), (.int v54)])) rfl (by rw [hml]; rfl) (argsL := [(.int v54), (.ref b48), (.ref b_50), (.ref b_51)]) (rest := []) (lenOf pd_5 rfl) rfl (by show 2 * 0 + _ ≤ _; exact Nat.le_of_eq rfl) (hb hby at_144) (fun _ _ => ⟨rfl, e72, (by decide : 3 + 0 ≤ _), (by decide : 6 + 0 ≤ _)⟩)
      dsimp only [Pt.U, Pt.locs, Pt.cells, Pt.slots] at X74 l74 y74 z74 st74 hQ74
      subst l74 y74 z74
      obtain ⟨rfl, N74q, e74⟩ := hQ74
      have N74 := Fr.app N72 N74q
      obtain ⟨cq75, kq75, q75a, q75b, q75c⟩ := isOf hZ e74 E_b48
      obtain ⟨_, _, ⟨T75, L75, k75, n75⟩, -, X75, ⟨Lc75, hQ75, l75, y75, z75⟩, st75⟩ := X74.virtualBack hx (y := (⟨"com/example/regolo/regolo/engine/Work", "spend", "(J)V"⟩ : MethodName)) (z := (⟨"com/example/regolo/regolo/engine/Work", "spend", "(J)V"⟩ : MethodName)) hown (mvT hZ (hw _ (List.mem_of_getElem? (i := 36) rfl))) (mvT hZ (hw _ (List.mem_of_getElem? (i := 37) rfl))) (notFace_of_selects (args := #[]) (mvT hZ (hw _ (List.mem_of_getElem? (i := 39) rfl)))) (mvT hZ (hw _ (List.mem_of_getElem? (i := 39) rfl))) (mvT hZ (hw _ (List.mem_of_getElem? (i := 38) rfl))) (by decide) (backOf (W := 0) (rmS0 l Z a0 hw [] b48 v32 (v3 - v23) h72 n0 Zs E_b48 F_left_b48 F_whole_b48 g_b48) hZ (hw _ (List.mem_of_getElem? (i := 40) rfl)) (hw _ (List.mem_of_getElem? (i := 7) rfl)) (by decide) (by decide)) q75a q75c (g := (mkF m 149 #[.val (.long q1), .second, .val (.long q2), .second, .val (.long q3), .second, .val (.int p4), .val (.int p5), .val (.int p6), .val (.long v3), .second, .val (.long v8), .second, .val (.long v14), .second, .val (.long v23), .second, .val (.long v32), .second, .val (.int v42), .val (.int v54), .val (.ref b48), .val (.ref b_50), .val (.ref b_51), .val (.int v90), .val (.int z118_s0), .unset, .unset, .unset, .unset, .unset, .unset, .unset, .unset, .unset, .unset, .unset, .unset] [(.long v32), (.ref b48)])) rfl (by rw [hml]; rfl) (Steps.refl _) (argsL := [(.long v32)]) (rest := []) (lenOf pd_1 rfl) rfl (by show 2 * 0 + _ ≤ _; exact Nat.le_of_eq rfl) (hb hby at_149) (fun _ _ => ⟨rfl, e74, (by decide : 3 + 0 ≤ _), (by decide : 6 + 0 ≤ _)⟩)
      dsimp only [Pt.U, Pt.locs, Pt.cells, Pt.slots] at X75 l75 y75 z75 st75 hQ75
      subst l75 y75 z75
      obtain ⟨rfl, N75q, K75, P75_1, P75_2⟩ := hQ75
      have Zs : n0 ≤ T75.heap.size := Nat.le_trans Zs K75.1
      have E_b48 : Exa Z T75.heap b48 "com/example/regolo/regolo/engine/Work" := E_b48.keep K75
      have E_b_50 : Exa Z T75.heap b_50 "com/example/regolo/regolo/engine/Work" := E_b_50.keep K75
      have F_left_b_50 : Fld Z T75.heap b_50 "com/example/regolo/regolo/engine/Work" "left" "J" (.long z136_F_left_b_50) := F_left_b_50.keep K75 (ninS (Ne.symm ne_b48_b_50) nin0)
      have F_whole_b_50 : Fld Z T75.heap b_50 "com/example/regolo/regolo/engine/Work" "whole" "Lcom/example/regolo/regolo/engine/Work;" (.ref b48) := F_whole_b_50.keep K75 (ninS (Ne.symm ne_b48_b_50) nin0)
      have E_b_51 : Exa Z T75.heap b_51 "com/example/regolo/regolo/engine/Work" := E_b_51.keep K75
      have F_left_b_51 : Fld Z T75.heap b_51 "com/example/regolo/regolo/engine/Work" "left" "J" (.long z136_F_left_b_51) := F_left_b_51.keep K75 (ninS (Ne.symm ne_b48_b_51) nin0)
      have F_whole_b_51 : Fld Z T75.heap b_51 "com/example/regolo/regolo/engine/Work" "whole" "Lcom/example/regolo/regolo/engine/Work;" (.ref b_50) := F_whole_b_51.keep K75 (ninS (Ne.symm ne_b48_b_51) nin0)
      have F_left_b48 : Fld Z T75.heap b48 "com/example/regolo/regolo/engine/Work" "left" "J" (.long ((v3 - v23) - v32)) := P75_1
      have F_whole_b48 : Fld Z T75.heap b48 "com/example/regolo/regolo/engine/Work" "whole" "Lcom/example/regolo/regolo/engine/Work;" .null := P75_2
      have N75 := Fr.app N74 N75q
      have pre76 : ∀ t, Steps p.tables e below (T75.setTop (mkF m 152 #[.val (.long q1), .second, .val (.long q2), .second, .val (.long q3), .second, .val (.int p4), .val (.int p5), .val (.int p6), .val (.long v3), .second, .val (.long v8), .second, .val (.long v14), .second, .val (.long v23), .second, .val (.long v32), .second, .val (.int v42), .val (.int v54), .val (.ref b48), .val (.ref b_50), .val (.ref b_51), .val (.int v90), .val (.int z118_s0), .unset, .unset, .unset, .unset, .unset, .unset, .unset, .unset, .unset, .unset, .unset, .unset] [])) t → Steps p.tables e below (s₁.setTop (entryFrame m #[(.long q1), (.long q2), (.long q3), (.int p4), (.int p5), (.int p6)] maxLocals)) t := fun t k => pre73 t (by
        show Steps p.tables e below (T72.setTop (mkF m 144 #[.val (.long q1), .second, .val (.long q2), .second, .val (.long q3), .second, .val (.int p4), .val (.int p5), .val (.int p6), .val (.long v3), .second, .val (.long v8), .second, .val (.long v14), .second, .val (.long v23), .second, .val (.long v32), .second, .val (.int v42), .val (.int v54), .val (.ref b48), .val (.ref b_50), .val (.ref b_51), .val (.int v90), .val (.int z118_s0), .unset, .unset, .unset, .unset, .unset, .unset, .unset, .unset, .unset, .unset, .unset, .unset] [(.ref b_51), (.ref b_50), (.ref b48), (.int v54)])) _
        refine st74 _ ?_
        show Steps p.tables e below (T74.setTop (mkF m 147 #[.val (.long q1), .second, .val (.long q2), .second, .val (.long q3), .second, .val (.int p4), .val (.int p5), .val (.int p6), .val (.long v3), .second, .val (.long v8), .second, .val (.long v14), .second, .val (.long v23), .second, .val (.long v32), .second, .val (.int v42), .val (.int v54), .val (.ref b48), .val (.ref b_50), .val (.ref b_51), .val (.int v90), .val (.int z118_s0), .unset, .unset, .unset, .unset, .unset, .unset, .unset, .unset, .unset, .unset, .unset, .unset] [(.ref b48)])) _
        refine XS.lload X74.here hx rfl (hb hby at_147) rfl ?_
        show Steps p.tables e below (T74.setTop (mkF m 149 #[.val (.long q1), .second, .val (.long q2), .second, .val (.long q3), .second, .val (.int p4), .val (.int p5), .val (.int p6), .val (.long v3), .second, .val (.long v8), .second, .val (.long v14), .second, .val (.long v23), .second, .val (.long v32), .second, .val (.int v42), .val (.int v54), .val (.ref b48), .val (.ref b_50), .val (.ref b_51), .val (.int v90), .val (.int z118_s0), .unset, .unset, .unset, .unset, .unset, .unset, .unset, .unset, .unset, .unset, .unset, .unset] [(.long v32), (.ref b48)])) _
        refine st75.trans ?_
        exact k)
      have q_z152_F_left_b_50 : z152_F_left_b_50 = z136_F_left_b_50 := by rw [hz152_F_left_b_50, if_pos ht0]
      have q_z152_F_left_b_51 : z152_F_left_b_51 = z136_F_left_b_51 := by rw [hz152_F_left_b_51, if_pos ht0]
      refine ⟨_, _, _, X75, rfl, N75, Zs, E_b48, F_left_b48, F_whole_b48, E_b_50, (by rw [q_z152_F_left_b_50]; exact F_left_b_50), F_whole_b_50, E_b_51, (by rw [q_z152_F_left_b_51]; exact F_left_b_51), F_whole_b_51, fun t k => ?_⟩
      exact pre76 t k
    ·
      by_cases ht1 : v54 = (1 : Int32)
      ·
        obtain ⟨_, _, ⟨T77, L77, k77, n77⟩, -, X77, ⟨Lc77, hQ77, l77, y77, z77⟩, st77⟩ := Jvm.LawKit.callS X72 hx (y := (⟨"com/example/regolo/regolo/engine/WorkSpentPinLaw", "pick", "(ILcom/example/regolo/regolo/engine/Work;Lcom/example/regolo/regolo/engine/Work;Lcom/example/regolo/regolo/engine/Work;)Lcom/example/regolo/regolo/engine/Work;"⟩ : MethodName)) hown (mvT hZ (hw _ (List.mem_of_getElem? (i := 32) rfl))) (mvT hZ (hw _ (List.mem_of_getElem? (i := 33) rfl))) (mvT hZ (hw _ (List.mem_of_getElem? (i := 34) rfl))) (mvT hZ (hw _ (List.mem_of_getElem? (i := 35) rfl))) (by decide) (backOf (W := 0) (rmK1 l Z a0 hw [] v54 b48 b_50 b_51 h72 n0 Zs ht0 ht1) hZ (hw _ (List.mem_of_getElem? (i := 35) rfl)) (hw _ (List.mem_of_getElem? (i := 34) rfl)) (by decide) (by decide)) (g := (mkF m 144 #[.val (.long q1), .second, .val (.long q2), .second, .val (.long q3), .second, .val (.int p4), .val (.int p5), .val (.int p6), .val (.long v3), .second, .val (.long v8), .second, .val (.long v14), .second, .val (.long v23), .second, .val (.long v32), .second, .val (.int v42), .val (.int v54), .val (.ref b48), .val (.ref b_50), .val (.ref b_51), .val (.int v90), .val (.int z118_s0), .unset, .unset, .unset, .unset, .unset, .unset, .unset, .unset, .unset, .unset, .unset, .unset] [(.ref b_51), (.ref b_50), (.ref b48), (.int v54)])) rfl (by rw [hml]; rfl) (argsL := [(.int v54), (.ref b48), (.ref b_50), (.ref b_51)]) (rest := []) (lenOf pd_5 rfl) rfl (by show 2 * 0 + _ ≤ _; exact Nat.le_of_eq rfl) (hb hby at_144) (fun _ _ => ⟨rfl, e72, (by decide : 3 + 0 ≤ _), (by decide : 6 + 0 ≤ _)⟩)
        dsimp only [Pt.U, Pt.locs, Pt.cells, Pt.slots] at X77 l77 y77 z77 st77 hQ77
        subst l77 y77 z77
        obtain ⟨rfl, N77q, e77⟩ := hQ77
        have N77 := Fr.app N72 N77q
        obtain ⟨cq78, kq78, q78a, q78b, q78c⟩ := isOf hZ e77 E_b_50
        obtain ⟨_, _, ⟨T78, L78, k78, n78⟩, -, X78, ⟨Lc78, hQ78, l78, y78, z78⟩, st78⟩ := X77.virtualBack hx (y := (⟨"com/example/regolo/regolo/engine/Work", "spend", "(J)V"⟩ : MethodName)) (z := (⟨"com/example/regolo/regolo/engine/Work", "spend", "(J)V"⟩ : MethodName)) hown (mvT hZ (hw _ (List.mem_of_getElem? (i := 36) rfl))) (mvT hZ (hw _ (List.mem_of_getElem? (i := 37) rfl))) (notFace_of_selects (args := #[]) (mvT hZ (hw _ (List.mem_of_getElem? (i := 39) rfl)))) (mvT hZ (hw _ (List.mem_of_getElem? (i := 39) rfl))) (mvT hZ (hw _ (List.mem_of_getElem? (i := 38) rfl))) (by decide) (backOf (W := 0) (rmS1 l Z a0 hw [] b_50 v32 z136_F_left_b_50 b48 (v3 - v23) h72 n0 Zs E_b_50 F_left_b_50 F_whole_b_50 g_b_50 E_b48 F_left_b48 F_whole_b48 g_b48 (Ne.symm ne_b48_b_50)) hZ (hw _ (List.mem_of_getElem? (i := 40) rfl)) (hw _ (List.mem_of_getElem? (i := 7) rfl)) (by decide) (by decide)) q78a q78c (g := (mkF m 149 #[.val (.long q1), .second, .val (.long q2), .second, .val (.long q3), .second, .val (.int p4), .val (.int p5), .val (.int p6), .val (.long v3), .second, .val (.long v8), .second, .val (.long v14), .second, .val (.long v23), .second, .val (.long v32), .second, .val (.int v42), .val (.int v54), .val (.ref b48), .val (.ref b_50), .val (.ref b_51), .val (.int v90), .val (.int z118_s0), .unset, .unset, .unset, .unset, .unset, .unset, .unset, .unset, .unset, .unset, .unset, .unset] [(.long v32), (.ref b_50)])) rfl (by rw [hml]; rfl) (Steps.refl _) (argsL := [(.long v32)]) (rest := []) (lenOf pd_1 rfl) rfl (by show 2 * 0 + _ ≤ _; exact Nat.le_of_eq rfl) (hb hby at_149) (fun _ _ => ⟨rfl, e77, (by decide : 3 + 0 ≤ _), (by decide : 6 + 0 ≤ _)⟩)
        dsimp only [Pt.U, Pt.locs, Pt.cells, Pt.slots] at X78 l78 y78 z78 st78 hQ78
        subst l78 y78 z78
        obtain ⟨rfl, N78q, K78, P78_1, P78_2, P78_3, P78_4⟩ := hQ78
        have Zs : n0 ≤ T78.heap.size := Nat.le_trans Zs K78.1
        have E_b48 : Exa Z T78.heap b48 "com/example/regolo/regolo/engine/Work" := E_b48.keep K78
        have E_b_50 : Exa Z T78.heap b_50 "com/example/regolo/regolo/engine/Work" := E_b_50.keep K78
        have E_b_51 : Exa Z T78.heap b_51 "com/example/regolo/regolo/engine/Work" := E_b_51.keep K78
        have F_left_b_51 : Fld Z T78.heap b_51 "com/example/regolo/regolo/engine/Work" "left" "J" (.long z136_F_left_b_51) := F_left_b_51.keep K78 (ninS (Ne.symm ne_b_50_b_51) (ninS (Ne.symm ne_b48_b_51) nin0))
        have F_whole_b_51 : Fld Z T78.heap b_51 "com/example/regolo/regolo/engine/Work" "whole" "Lcom/example/regolo/regolo/engine/Work;" (.ref b_50) := F_whole_b_51.keep K78 (ninS (Ne.symm ne_b_50_b_51) (ninS (Ne.symm ne_b48_b_51) nin0))
        have F_left_b_50 : Fld Z T78.heap b_50 "com/example/regolo/regolo/engine/Work" "left" "J" (.long (z136_F_left_b_50 - v32)) := P78_1
        have F_whole_b_50 : Fld Z T78.heap b_50 "com/example/regolo/regolo/engine/Work" "whole" "Lcom/example/regolo/regolo/engine/Work;" (.ref b48) := P78_2
        have F_left_b48 : Fld Z T78.heap b48 "com/example/regolo/regolo/engine/Work" "left" "J" (.long ((v3 - v23) - v32)) := P78_3
        have F_whole_b48 : Fld Z T78.heap b48 "com/example/regolo/regolo/engine/Work" "whole" "Lcom/example/regolo/regolo/engine/Work;" .null := P78_4
        have N78 := Fr.app N77 N78q
        have pre79 : ∀ t, Steps p.tables e below (T78.setTop (mkF m 152 #[.val (.long q1), .second, .val (.long q2), .second, .val (.long q3), .second, .val (.int p4), .val (.int p5), .val (.int p6), .val (.long v3), .second, .val (.long v8), .second, .val (.long v14), .second, .val (.long v23), .second, .val (.long v32), .second, .val (.int v42), .val (.int v54), .val (.ref b48), .val (.ref b_50), .val (.ref b_51), .val (.int v90), .val (.int z118_s0), .unset, .unset, .unset, .unset, .unset, .unset, .unset, .unset, .unset, .unset, .unset, .unset] [])) t → Steps p.tables e below (s₁.setTop (entryFrame m #[(.long q1), (.long q2), (.long q3), (.int p4), (.int p5), (.int p6)] maxLocals)) t := fun t k => pre73 t (by
          show Steps p.tables e below (T72.setTop (mkF m 144 #[.val (.long q1), .second, .val (.long q2), .second, .val (.long q3), .second, .val (.int p4), .val (.int p5), .val (.int p6), .val (.long v3), .second, .val (.long v8), .second, .val (.long v14), .second, .val (.long v23), .second, .val (.long v32), .second, .val (.int v42), .val (.int v54), .val (.ref b48), .val (.ref b_50), .val (.ref b_51), .val (.int v90), .val (.int z118_s0), .unset, .unset, .unset, .unset, .unset, .unset, .unset, .unset, .unset, .unset, .unset, .unset] [(.ref b_51), (.ref b_50), (.ref b48), (.int v54)])) _
          refine st77 _ ?_
          show Steps p.tables e below (T77.setTop (mkF m 147 #[.val (.long q1), .second, .val (.long q2), .second, .val (.long q3), .second, .val (.int p4), .val (.int p5), .val (.int p6), .val (.long v3), .second, .val (.long v8), .second, .val (.long v14), .second, .val (.long v23), .second, .val (.long v32), .second, .val (.int v42), .val (.int v54), .val (.ref b48), .val (.ref b_50), .val (.ref b_51), .val (.int v90), .val (.int z118_s0), .unset, .unset, .unset, .unset, .unset, .unset, .unset, .unset, .unset, .unset, .unset, .unset] [(.ref b_50)])) _
          refine XS.lload X77.here hx rfl (hb hby at_147) rfl ?_
          show Steps p.tables e below (T77.setTop (mkF m 149 #[.val (.long q1), .second, .val (.long q2), .second, .val (.long q3), .second, .val (.int p4), .val (.int p5), .val (.int p6), .val (.long v3), .second, .val (.long v8), .second, .val (.long v14), .second, .val (.long v23), .second, .val (.long v32), .second, .val (.int v42), .val (.int v54), .val (.ref b48), .val (.ref b_50), .val (.ref b_51), .val (.int v90), .val (.int z118_s0), .unset, .unset, .unset, .unset, .unset, .unset, .unset, .unset, .unset, .unset, .unset, .unset] [(.long v32), (.ref b_50)])) _
          refine st78.trans ?_
          exact k)
        have q_z152_F_left_b_50 : z152_F_left_b_50 = (z136_F_left_b_50 - v32) := by rw [hz152_F_left_b_50, if_neg ht0]
        have q_z152_F_left_b_51 : z152_F_left_b_51 = z136_F_left_b_51 := by rw [hz152_F_left_b_51, if_neg ht0, if_pos ht1]
        refine ⟨_, _, _, X78, rfl, N78, Zs, E_b48, F_left_b48, F_whole_b48, E_b_50, (by rw [q_z152_F_left_b_50]; exact F_left_b_50), F_whole_b_50, E_b_51, (by rw [q_z152_F_left_b_51]; exact F_left_b_51), F_whole_b_51, fun t k => ?_⟩
        exact pre79 t k
      ·
        obtain ⟨_, _, ⟨T80, L80, k80, n80⟩, -, X80, ⟨Lc80, hQ80, l80, y80, z80⟩, st80⟩ := Jvm.LawKit.callS X72 hx (y := (⟨"com/example/regolo/regolo/engine/WorkSpentPinLaw", "pick", "(ILcom/example/regolo/regolo/engine/Work;Lcom/example/regolo/regolo/engine/Work;Lcom/example/regolo/regolo/engine/Work;)Lcom/example/regolo/regolo/engine/Work;"⟩ : MethodName)) hown (mvT hZ (hw _ (List.mem_of_getElem? (i := 32) rfl))) (mvT hZ (hw _ (List.mem_of_getElem? (i := 33) rfl))) (mvT hZ (hw _ (List.mem_of_getElem? (i := 34) rfl))) (mvT hZ (hw _ (List.mem_of_getElem? (i := 35) rfl))) (by decide) (backOf (W := 0) (rmK2 l Z a0 hw [] v54 b48 b_50 b_51 h72 n0 Zs ht0 ht1) hZ (hw _ (List.mem_of_getElem? (i := 35) rfl)) (hw _ (List.mem_of_getElem? (i := 34) rfl)) (by decide) (by decide)) (g := (mkF m 144 #[.val (.long q1), .second, .val (.long q2), .second, .val (.long q3), .second, .val (.int p4), .val (.int p5), .val (.int p6), .val (.long v3), .second, .val (.long v8), .second, .val (.long v14), .second, .val (.long v23), .second, .val (.long v32), .second, .val (.int v42), .val (.int v54), .val (.ref b48), .val (.ref b_50), .val (.ref b_51), .val (.int v90), .val (.int z118_s0), .unset, .unset, .unset, .unset, .unset, .unset, .unset, .unset, .unset, .unset, .unset, .unset] [(.ref b_51), (.ref b_50), (.ref b48), (.int v54)])) rfl (by rw [hml]; rfl) (argsL := [(.int v54), (.ref b48), (.ref b_50), (.ref b_51)]) (rest := []) (lenOf pd_5 rfl) rfl (by show 2 * 0 + _ ≤ _; exact Nat.le_of_eq rfl) (hb hby at_144) (fun _ _ => ⟨rfl, e72, (by decide : 3 + 0 ≤ _), (by decide : 6 + 0 ≤ _)⟩)
        dsimp only [Pt.U, Pt.locs, Pt.cells, Pt.slots] at X80 l80 y80 z80 st80 hQ80
        subst l80 y80 z80
        obtain ⟨rfl, N80q, e80⟩ := hQ80
        have N80 := Fr.app N72 N80q
        obtain ⟨cq81, kq81, q81a, q81b, q81c⟩ := isOf hZ e80 E_b_51
        obtain ⟨_, _, ⟨T81, L81, k81, n81⟩, -, X81, ⟨Lc81, hQ81, l81, y81, z81⟩, st81⟩ := X80.virtualBack hx (y := (⟨"com/example/regolo/regolo/engine/Work", "spend", "(J)V"⟩ : MethodName)) (z := (⟨"com/example/regolo/regolo/engine/Work", "spend", "(J)V"⟩ : MethodName)) hown (mvT hZ (hw _ (List.mem_of_getElem? (i := 36) rfl))) (mvT hZ (hw _ (List.mem_of_getElem? (i := 37) rfl))) (notFace_of_selects (args := #[]) (mvT hZ (hw _ (List.mem_of_getElem? (i := 39) rfl)))) (mvT hZ (hw _ (List.mem_of_getElem? (i := 39) rfl))) (mvT hZ (hw _ (List.mem_of_getElem? (i := 38) rfl))) (by decide) (backOf (W := 0) (rmS2 l Z a0 hw [] b_51 v32 z136_F_left_b_51 b_50 z136_F_left_b_50 b48 (v3 - v23) h72 n0 Zs E_b_51 F_left_b_51 F_whole_b_51 g_b_51 E_b_50 F_left_b_50 F_whole_b_50 g_b_50 E_b48 F_left_b48 F_whole_b48 g_b48 (Ne.symm ne_b_50_b_51) (Ne.symm ne_b48_b_51) (Ne.symm ne_b48_b_50)) hZ (hw _ (List.mem_of_getElem? (i := 40) rfl)) (hw _ (List.mem_of_getElem? (i := 7) rfl)) (by decide) (by decide)) q81a q81c (g := (mkF m 149 #[.val (.long q1), .second, .val (.long q2), .second, .val (.long q3), .second, .val (.int p4), .val (.int p5), .val (.int p6), .val (.long v3), .second, .val (.long v8), .second, .val (.long v14), .second, .val (.long v23), .second, .val (.long v32), .second, .val (.int v42), .val (.int v54), .val (.ref b48), .val (.ref b_50), .val (.ref b_51), .val (.int v90), .val (.int z118_s0), .unset, .unset, .unset, .unset, .unset, .unset, .unset, .unset, .unset, .unset, .unset, .unset] [(.long v32), (.ref b_51)])) rfl (by rw [hml]; rfl) (Steps.refl _) (argsL := [(.long v32)]) (rest := []) (lenOf pd_1 rfl) rfl (by show 2 * 0 + _ ≤ _; exact Nat.le_of_eq rfl) (hb hby at_149) (fun _ _ => ⟨rfl, e80, (by decide : 3 + 0 ≤ _), (by decide : 6 + 0 ≤ _)⟩)
        dsimp only [Pt.U, Pt.locs, Pt.cells, Pt.slots] at X81 l81 y81 z81 st81 hQ81
        subst l81 y81 z81
        obtain ⟨rfl, N81q, K81, P81_1, P81_2, P81_3, P81_4, P81_5, P81_6⟩ := hQ81
        have Zs : n0 ≤ T81.heap.size := Nat.le_trans Zs K81.1
        have E_b48 : Exa Z T81.heap b48 "com/example/regolo/regolo/engine/Work" := E_b48.keep K81
        have E_b_50 : Exa Z T81.heap b_50 "com/example/regolo/regolo/engine/Work" := E_b_50.keep K81
        have E_b_51 : Exa Z T81.heap b_51 "com/example/regolo/regolo/engine/Work" := E_b_51.keep K81
        have F_left_b_51 : Fld Z T81.heap b_51 "com/example/regolo/regolo/engine/Work" "left" "J" (.long (z136_F_left_b_51 - v32)) := P81_1
        have F_whole_b_51 : Fld Z T81.heap b_51 "com/example/regolo/regolo/engine/Work" "whole" "Lcom/example/regolo/regolo/engine/Work;" (.ref b_50) := P81_2
        have F_left_b_50 : Fld Z T81.heap b_50 "com/example/regolo/regolo/engine/Work" "left" "J" (.long (z136_F_left_b_50 - v32)) := P81_3
        have F_whole_b_50 : Fld Z T81.heap b_50 "com/example/regolo/regolo/engine/Work" "whole" "Lcom/example/regolo/regolo/engine/Work;" (.ref b48) := P81_4
        have F_left_b48 : Fld Z T81.heap b48 "com/example/regolo/regolo/engine/Work" "left" "J" (.long ((v3 - v23) - v32)) := P81_5
        have F_whole_b48 : Fld Z T81.heap b48 "com/example/regolo/regolo/engine/Work" "whole" "Lcom/example/regolo/regolo/engine/Work;" .null := P81_6
        have N81 := Fr.app N80 N81q
        have pre82 : ∀ t, Steps p.tables e below (T81.setTop (mkF m 152 #[.val (.long q1), .second, .val (.long q2), .second, .val (.long q3), .second, .val (.int p4), .val (.int p5), .val (.int p6), .val (.long v3), .second, .val (.long v8), .second, .val (.long v14), .second, .val (.long v23), .second, .val (.long v32), .second, .val (.int v42), .val (.int v54), .val (.ref b48), .val (.ref b_50), .val (.ref b_51), .val (.int v90), .val (.int z118_s0), .unset, .unset, .unset, .unset, .unset, .unset, .unset, .unset, .unset, .unset, .unset, .unset] [])) t → Steps p.tables e below (s₁.setTop (entryFrame m #[(.long q1), (.long q2), (.long q3), (.int p4), (.int p5), (.int p6)] maxLocals)) t := fun t k => pre73 t (by
          show Steps p.tables e below (T72.setTop (mkF m 144 #[.val (.long q1), .second, .val (.long q2), .second, .val (.long q3), .second, .val (.int p4), .val (.int p5), .val (.int p6), .val (.long v3), .second, .val (.long v8), .second, .val (.long v14), .second, .val (.long v23), .second, .val (.long v32), .second, .val (.int v42), .val (.int v54), .val (.ref b48), .val (.ref b_50), .val (.ref b_51), .val (.int v90), .val (.int z118_s0), .unset, .unset, .unset, .unset, .unset, .unset, .unset, .unset, .unset, .unset, .unset, .unset] [(.ref b_51), (.ref b_50), (.ref b48), (.int v54)])) _
          refine st80 _ ?_
          show Steps p.tables e below (T80.setTop (mkF m 147 #[.val (.long q1), .second, .val (.long q2), .second, .val (.long q3), .second, .val (.int p4), .val (.int p5), .val (.int p6), .val (.long v3), .second, .val (.long v8), .second, .val (.long v14), .second, .val (.long v23), .second, .val (.long v32), .second, .val (.int v42), .val (.int v54), .val (.ref b48), .val (.ref b_50), .val (.ref b_51), .val (.int v90), .val (.int z118_s0), .unset, .unset, .unset, .unset, .unset, .unset, .unset, .unset, .unset, .unset, .unset, .unset] [(.ref b_51)])) _
          refine XS.lload X80.here hx rfl (hb hby at_147) rfl ?_
          show Steps p.tables e below (T80.setTop (mkF m 149 #[.val (.long q1), .second, .val (.long q2), .second, .val (.long q3), .second, .val (.int p4), .val (.int p5), .val (.int p6), .val (.long v3), .second, .val (.long v8), .second, .val (.long v14), .second, .val (.long v23), .second, .val (.long v32), .second, .val (.int v42), .val (.int v54), .val (.ref b48), .val (.ref b_50), .val (.ref b_51), .val (.int v90), .val (.int z118_s0), .unset, .unset, .unset, .unset, .unset, .unset, .unset, .unset, .unset, .unset, .unset, .unset] [(.long v32), (.ref b_51)])) _
          refine st81.trans ?_
          exact k)
        have q_z152_F_left_b_50 : z152_F_left_b_50 = (z136_F_left_b_50 - v32) := by rw [hz152_F_left_b_50, if_neg ht0]
        have q_z152_F_left_b_51 : z152_F_left_b_51 = (z136_F_left_b_51 - v32) := by rw [hz152_F_left_b_51, if_neg ht0, if_neg ht1]
        refine ⟨_, _, _, X81, rfl, N81, Zs, E_b48, F_left_b48, F_whole_b48, E_b_50, (by rw [q_z152_F_left_b_50]; exact F_left_b_50), F_whole_b_50, E_b_51, (by rw [q_z152_F_left_b_51]; exact F_left_b_51), F_whole_b_51, fun t k => ?_⟩
        exact pre82 t k
  obtain ⟨v157, hv157⟩ : ∃ z : Int64, z = (v23 + v32) := ⟨_, rfl⟩
  have pre84 : ∀ t, Steps p.tables e below (T83.setTop (mkF m 159 #[.val (.long q1), .second, .val (.long q2), .second, .val (.long q3), .second, .val (.int p4), .val (.int p5), .val (.int p6), .val (.long v3), .second, .val (.long v8), .second, .val (.long v14), .second, .val (.long v23), .second, .val (.long v32), .second, .val (.int v42), .val (.int v54), .val (.ref b48), .val (.ref b_50), .val (.ref b_51), .val (.int v90), .val (.int z118_s0), .val (.long v157), .second, .unset, .unset, .unset, .unset, .unset, .unset, .unset, .unset, .unset, .unset] [])) t → Steps p.tables e below (s₁.setTop (entryFrame m #[(.long q1), (.long q2), (.long q3), (.int p4), (.int p5), (.int p6)] maxLocals)) t := fun t k => pre83 t (by
    show Steps p.tables e below (T83.setTop (mkF m 152 #[.val (.long q1), .second, .val (.long q2), .second, .val (.long q3), .second, .val (.int p4), .val (.int p5), .val (.int p6), .val (.long v3), .second, .val (.long v8), .second, .val (.long v14), .second, .val (.long v23), .second, .val (.long v32), .second, .val (.int v42), .val (.int v54), .val (.ref b48), .val (.ref b_50), .val (.ref b_51), .val (.int v90), .val (.int z118_s0), .unset, .unset, .unset, .unset, .unset, .unset, .unset, .unset, .unset, .unset, .unset, .unset] [])) _
    refine XS.lload X83.here hx rfl (hb hby at_152) rfl ?_
    show Steps p.tables e below (T83.setTop (mkF m 154 #[.val (.long q1), .second, .val (.long q2), .second, .val (.long q3), .second, .val (.int p4), .val (.int p5), .val (.int p6), .val (.long v3), .second, .val (.long v8), .second, .val (.long v14), .second, .val (.long v23), .second, .val (.long v32), .second, .val (.int v42), .val (.int v54), .val (.ref b48), .val (.ref b_50), .val (.ref b_51), .val (.int v90), .val (.int z118_s0), .unset, .unset, .unset, .unset, .unset, .unset, .unset, .unset, .unset, .unset, .unset, .unset] [(.long v23)])) _
    refine XS.lload X83.here hx rfl (hb hby at_154) rfl ?_
    show Steps p.tables e below (T83.setTop (mkF m 156 #[.val (.long q1), .second, .val (.long q2), .second, .val (.long q3), .second, .val (.int p4), .val (.int p5), .val (.int p6), .val (.long v3), .second, .val (.long v8), .second, .val (.long v14), .second, .val (.long v23), .second, .val (.long v32), .second, .val (.int v42), .val (.int v54), .val (.ref b48), .val (.ref b_50), .val (.ref b_51), .val (.int v90), .val (.int z118_s0), .unset, .unset, .unset, .unset, .unset, .unset, .unset, .unset, .unset, .unset, .unset, .unset] [(.long v32), (.long v23)])) _
    refine XS.ladd X83.here hx rfl (hb hby at_156) rfl ?_
    show Steps p.tables e below (T83.setTop (mkF m 157 #[.val (.long q1), .second, .val (.long q2), .second, .val (.long q3), .second, .val (.int p4), .val (.int p5), .val (.int p6), .val (.long v3), .second, .val (.long v8), .second, .val (.long v14), .second, .val (.long v23), .second, .val (.long v32), .second, .val (.int v42), .val (.int v54), .val (.ref b48), .val (.ref b_50), .val (.ref b_51), .val (.int v90), .val (.int z118_s0), .unset, .unset, .unset, .unset, .unset, .unset, .unset, .unset, .unset, .unset, .unset, .unset] [(.long (v23 + v32))])) _
    refine XS.lstore X83.here hx rfl (hb hby at_157) rfl (l' := #[.val (.long q1), .second, .val (.long q2), .second, .val (.long q3), .second, .val (.int p4), .val (.int p5), .val (.int p6), .val (.long v3), .second, .val (.long v8), .second, .val (.long v14), .second, .val (.long v23), .second, .val (.long v32), .second, .val (.int v42), .val (.int v54), .val (.ref b48), .val (.ref b_50), .val (.ref b_51), .val (.int v90), .val (.int z118_s0), .val (.long (v23 + v32)), .second, .unset, .unset, .unset, .unset, .unset, .unset, .unset, .unset, .unset, .unset]) rfl ?_
    rw [hv157] at k
    exact k)
  have pre85 : ∀ t, Steps p.tables e below (T83.setTop (mkF m 162 #[.val (.long q1), .second, .val (.long q2), .second, .val (.long q3), .second, .val (.int p4), .val (.int p5), .val (.int p6), .val (.long v3), .second, .val (.long v8), .second, .val (.long v14), .second, .val (.long v23), .second, .val (.long v32), .second, .val (.int v42), .val (.int v54), .val (.ref b48), .val (.ref b_50), .val (.ref b_51), .val (.int v90), .val (.int z118_s0), .val (.long v157), .second, .unset, .unset, .unset, .unset, .unset, .unset, .unset, .unset, .unset, .unset] [(.int (1 : Int32)), (.int v42)])) t → Steps p.tables e below (s₁.setTop (entryFrame m #[(.long q1), (.long q2), (.long q3), (.int p4), (.int p5), (.int p6)] maxLocals)) t := fun t k => pre84 t (by
    show Steps p.tables e below (T83.setTop (mkF m 159 #[.val (.long q1), .second, .val (.long q2), .second, .val (.long q3), .second, .val (.int p4), .val (.int p5), .val (.int p6), .val (.long v3), .second, .val (.long v8), .second, .val (.long v14), .second, .val (.long v23), .second, .val (.long v32), .second, .val (.int v42), .val (.int v54), .val (.ref b48), .val (.ref b_50), .val (.ref b_51), .val (.int v90), .val (.int z118_s0), .val (.long v157), .second, .unset, .unset, .unset, .unset, .unset, .unset, .unset, .unset, .unset, .unset] [])) _
    refine XS.iload X83.here hx rfl (hb hby at_159) rfl ?_
    show Steps p.tables e below (T83.setTop (mkF m 161 #[.val (.long q1), .second, .val (.long q2), .second, .val (.long q3), .second, .val (.int p4), .val (.int p5), .val (.int p6), .val (.long v3), .second, .val (.long v8), .second, .val (.long v14), .second, .val (.long v23), .second, .val (.long v32), .second, .val (.int v42), .val (.int v54), .val (.ref b48), .val (.ref b_50), .val (.ref b_51), .val (.int v90), .val (.int z118_s0), .val (.long v157), .second, .unset, .unset, .unset, .unset, .unset, .unset, .unset, .unset, .unset, .unset] [(.int v42)])) _
    refine XS.iconst X83.here hx rfl (hb hby at_161) ?_
    exact k)
  obtain ⟨z171_s0, hz171_s0⟩ : ∃ z : Int64, z = (if v42 < (1 : Int32) then (0 : Int64) else v23) := ⟨_, rfl⟩
  obtain ⟨T88, Lc88, X88, e88, N88, pre88⟩ : ∃ (T' : State) (locs' : List Loc), Stand p l e room_1 s m #[(.long q1), (.long q2), (.long q3), (.int p4), (.int p5), (.int p6)] below meth c T' locs' 3 6 ∧ T'.heap = h83 ∧ Fr n0 locs' ∧ ∀ t, Steps p.tables e below (T'.setTop (mkF m 171 #[.val (.long q1), .second, .val (.long q2), .second, .val (.long q3), .second, .val (.int p4), .val (.int p5), .val (.int p6), .val (.long v3), .second, .val (.long v8), .second, .val (.long v14), .second, .val (.long v23), .second, .val (.long v32), .second, .val (.int v42), .val (.int v54), .val (.ref b48), .val (.ref b_50), .val (.ref b_51), .val (.int v90), .val (.int z118_s0), .val (.long v157), .second, .unset, .unset, .unset, .unset, .unset, .unset, .unset, .unset, .unset, .unset] [(.long z171_s0)])) t → Steps p.tables e below (s₁.setTop (entryFrame m #[(.long q1), (.long q2), (.long q3), (.int p4), (.int p5), (.int p6)] maxLocals)) t := by
    by_cases hc162 : v42 < (1 : Int32)
    ·
      have pre86 : ∀ t, Steps p.tables e below (T83.setTop (mkF m 171 #[.val (.long q1), .second, .val (.long q2), .second, .val (.long q3), .second, .val (.int p4), .val (.int p5), .val (.int p6), .val (.long v3), .second, .val (.long v8), .second, .val (.long v14), .second, .val (.long v23), .second, .val (.long v32), .second, .val (.int v42), .val (.int v54), .val (.ref b48), .val (.ref b_50), .val (.ref b_51), .val (.int v90), .val (.int z118_s0), .val (.long v157), .second, .unset, .unset, .unset, .unset, .unset, .unset, .unset, .unset, .unset, .unset] [(.long (0 : Int64))])) t → Steps p.tables e below (s₁.setTop (entryFrame m #[(.long q1), (.long q2), (.long q3), (.int p4), (.int p5), (.int p6)] maxLocals)) t := fun t k => pre85 t (by
        show Steps p.tables e below (T83.setTop (mkF m 162 #[.val (.long q1), .second, .val (.long q2), .second, .val (.long q3), .second, .val (.int p4), .val (.int p5), .val (.int p6), .val (.long v3), .second, .val (.long v8), .second, .val (.long v14), .second, .val (.long v23), .second, .val (.long v32), .second, .val (.int v42), .val (.int v54), .val (.ref b48), .val (.ref b_50), .val (.ref b_51), .val (.int v90), .val (.int z118_s0), .val (.long v157), .second, .unset, .unset, .unset, .unset, .unset, .unset, .unset, .unset, .unset, .unset] [(.int (1 : Int32)), (.int v42)])) _
        refine XS.icmpYes X83.here hx rfl (pc0 := 162) (pc' := 170) rfl (hb hby at_162) rfl (tlt hc162).1 (by decide) (by decide) ?_
        show Steps p.tables e below (T83.setTop (mkF m 170 #[.val (.long q1), .second, .val (.long q2), .second, .val (.long q3), .second, .val (.int p4), .val (.int p5), .val (.int p6), .val (.long v3), .second, .val (.long v8), .second, .val (.long v14), .second, .val (.long v23), .second, .val (.long v32), .second, .val (.int v42), .val (.int v54), .val (.ref b48), .val (.ref b_50), .val (.ref b_51), .val (.int v90), .val (.int z118_s0), .val (.long v157), .second, .unset, .unset, .unset, .unset, .unset, .unset, .unset, .unset, .unset, .unset] [])) _
        refine XS.lconst X83.here hx rfl (hb hby at_170) ?_
        exact k)
      have q_z171_s0 : z171_s0 = (0 : Int64) := by rw [hz171_s0, if_pos hc162]
      refine ⟨_, _, X83, e83, N83, fun t k => ?_⟩
      rw [q_z171_s0] at k
      exact pre86 t k
    ·
      have pre87 : ∀ t, Steps p.tables e below (T83.setTop (mkF m 171 #[.val (.long q1), .second, .val (.long q2), .second, .val (.long q3), .second, .val (.int p4), .val (.int p5), .val (.int p6), .val (.long v3), .second, .val (.long v8), .second, .val (.long v14), .second, .val (.long v23), .second, .val (.long v32), .second, .val (.int v42), .val (.int v54), .val (.ref b48), .val (.ref b_50), .val (.ref b_51), .val (.int v90), .val (.int z118_s0), .val (.long v157), .second, .unset, .unset, .unset, .unset, .unset, .unset, .unset, .unset, .unset, .unset] [(.long v23)])) t → Steps p.tables e below (s₁.setTop (entryFrame m #[(.long q1), (.long q2), (.long q3), (.int p4), (.int p5), (.int p6)] maxLocals)) t := fun t k => pre85 t (by
        show Steps p.tables e below (T83.setTop (mkF m 162 #[.val (.long q1), .second, .val (.long q2), .second, .val (.long q3), .second, .val (.int p4), .val (.int p5), .val (.int p6), .val (.long v3), .second, .val (.long v8), .second, .val (.long v14), .second, .val (.long v23), .second, .val (.long v32), .second, .val (.int v42), .val (.int v54), .val (.ref b48), .val (.ref b_50), .val (.ref b_51), .val (.int v90), .val (.int z118_s0), .val (.long v157), .second, .unset, .unset, .unset, .unset, .unset, .unset, .unset, .unset, .unset, .unset] [(.int (1 : Int32)), (.int v42)])) _
        refine XS.icmpNo X83.here hx rfl (hb hby at_162) rfl (flt hc162).1 ?_
        show Steps p.tables e below (T83.setTop (mkF m 165 #[.val (.long q1), .second, .val (.long q2), .second, .val (.long q3), .second, .val (.int p4), .val (.int p5), .val (.int p6), .val (.long v3), .second, .val (.long v8), .second, .val (.long v14), .second, .val (.long v23), .second, .val (.long v32), .second, .val (.int v42), .val (.int v54), .val (.ref b48), .val (.ref b_50), .val (.ref b_51), .val (.int v90), .val (.int z118_s0), .val (.long v157), .second, .unset, .unset, .unset, .unset, .unset, .unset, .unset, .unset, .unset, .unset] [])) _
        refine XS.lload X83.here hx rfl (hb hby at_165) rfl ?_
        show Steps p.tables e below (T83.setTop (mkF m 167 #[.val (.long q1), .second, .val (.long q2), .second, .val (.long q3), .second, .val (.int p4), .val (.int p5), .val (.int p6), .val (.long v3), .second, .val (.long v8), .second, .val (.long v14), .second, .val (.long v23), .second, .val (.long v32), .second, .val (.int v42), .val (.int v54), .val (.ref b48), .val (.ref b_50), .val (.ref b_51), .val (.int v90), .val (.int z118_s0), .val (.long v157), .second, .unset, .unset, .unset, .unset, .unset, .unset, .unset, .unset, .unset, .unset] [(.long v23)])) _
        refine XS.goto X83.here hx rfl (pc0 := 167) (pc' := 171) rfl (hb hby at_167) (by decide) (by decide) ?_
        exact k)
      have q_z171_s0 : z171_s0 = v23 := by rw [hz171_s0, if_neg hc162]
      refine ⟨_, _, X83, e83, N83, fun t k => ?_⟩
      rw [q_z171_s0] at k
      exact pre87 t k
  have pre89 : ∀ t, Steps p.tables e below (T88.setTop (mkF m 174 #[.val (.long q1), .second, .val (.long q2), .second, .val (.long q3), .second, .val (.int p4), .val (.int p5), .val (.int p6), .val (.long v3), .second, .val (.long v8), .second, .val (.long v14), .second, .val (.long v23), .second, .val (.long v32), .second, .val (.int v42), .val (.int v54), .val (.ref b48), .val (.ref b_50), .val (.ref b_51), .val (.int v90), .val (.int z118_s0), .val (.long v157), .second, .unset, .unset, .unset, .unset, .unset, .unset, .unset, .unset, .unset, .unset] [(.int (1 : Int32)), (.int v54), (.long z171_s0)])) t → Steps p.tables e below (s₁.setTop (entryFrame m #[(.long q1), (.long q2), (.long q3), (.int p4), (.int p5), (.int p6)] maxLocals)) t := fun t k => pre88 t (by
    show Steps p.tables e below (T88.setTop (mkF m 171 #[.val (.long q1), .second, .val (.long q2), .second, .val (.long q3), .second, .val (.int p4), .val (.int p5), .val (.int p6), .val (.long v3), .second, .val (.long v8), .second, .val (.long v14), .second, .val (.long v23), .second, .val (.long v32), .second, .val (.int v42), .val (.int v54), .val (.ref b48), .val (.ref b_50), .val (.ref b_51), .val (.int v90), .val (.int z118_s0), .val (.long v157), .second, .unset, .unset, .unset, .unset, .unset, .unset, .unset, .unset, .unset, .unset] [(.long z171_s0)])) _
    refine XS.iload X88.here hx rfl (hb hby at_171) rfl ?_
    show Steps p.tables e below (T88.setTop (mkF m 173 #[.val (.long q1), .second, .val (.long q2), .second, .val (.long q3), .second, .val (.int p4), .val (.int p5), .val (.int p6), .val (.long v3), .second, .val (.long v8), .second, .val (.long v14), .second, .val (.long v23), .second, .val (.long v32), .second, .val (.int v42), .val (.int v54), .val (.ref b48), .val (.ref b_50), .val (.ref b_51), .val (.int v90), .val (.int z118_s0), .val (.long v157), .second, .unset, .unset, .unset, .unset, .unset, .unset, .unset, .unset, .unset, .unset] [(.int v54), (.long z171_s0)])) _
    refine XS.iconst X88.here hx rfl (hb hby at_173) ?_
    exact k)
  obtain ⟨z183_s0, hz183_s0⟩ : ∃ z : Int64, z = (if v54 < (1 : Int32) then (0 : Int64) else v32) := ⟨_, rfl⟩
  obtain ⟨T92, Lc92, X92, e92, N92, pre92⟩ : ∃ (T' : State) (locs' : List Loc), Stand p l e room_1 s m #[(.long q1), (.long q2), (.long q3), (.int p4), (.int p5), (.int p6)] below meth c T' locs' 3 6 ∧ T'.heap = h83 ∧ Fr n0 locs' ∧ ∀ t, Steps p.tables e below (T'.setTop (mkF m 183 #[.val (.long q1), .second, .val (.long q2), .second, .val (.long q3), .second, .val (.int p4), .val (.int p5), .val (.int p6), .val (.long v3), .second, .val (.long v8), .second, .val (.long v14), .second, .val (.long v23), .second, .val (.long v32), .second, .val (.int v42), .val (.int v54), .val (.ref b48), .val (.ref b_50), .val (.ref b_51), .val (.int v90), .val (.int z118_s0), .val (.long v157), .second, .unset, .unset, .unset, .unset, .unset, .unset, .unset, .unset, .unset, .unset] [(.long z183_s0), (.long z171_s0)])) t → Steps p.tables e below (s₁.setTop (entryFrame m #[(.long q1), (.long q2), (.long q3), (.int p4), (.int p5), (.int p6)] maxLocals)) t := by
    by_cases hc174 : v54 < (1 : Int32)
    ·
      have pre90 : ∀ t, Steps p.tables e below (T88.setTop (mkF m 183 #[.val (.long q1), .second, .val (.long q2), .second, .val (.long q3), .second, .val (.int p4), .val (.int p5), .val (.int p6), .val (.long v3), .second, .val (.long v8), .second, .val (.long v14), .second, .val (.long v23), .second, .val (.long v32), .second, .val (.int v42), .val (.int v54), .val (.ref b48), .val (.ref b_50), .val (.ref b_51), .val (.int v90), .val (.int z118_s0), .val (.long v157), .second, .unset, .unset, .unset, .unset, .unset, .unset, .unset, .unset, .unset, .unset] [(.long (0 : Int64)), (.long z171_s0)])) t → Steps p.tables e below (s₁.setTop (entryFrame m #[(.long q1), (.long q2), (.long q3), (.int p4), (.int p5), (.int p6)] maxLocals)) t := fun t k => pre89 t (by
        show Steps p.tables e below (T88.setTop (mkF m 174 #[.val (.long q1), .second, .val (.long q2), .second, .val (.long q3), .second, .val (.int p4), .val (.int p5), .val (.int p6), .val (.long v3), .second, .val (.long v8), .second, .val (.long v14), .second, .val (.long v23), .second, .val (.long v32), .second, .val (.int v42), .val (.int v54), .val (.ref b48), .val (.ref b_50), .val (.ref b_51), .val (.int v90), .val (.int z118_s0), .val (.long v157), .second, .unset, .unset, .unset, .unset, .unset, .unset, .unset, .unset, .unset, .unset] [(.int (1 : Int32)), (.int v54), (.long z171_s0)])) _
        refine XS.icmpYes X88.here hx rfl (pc0 := 174) (pc' := 182) rfl (hb hby at_174) rfl (tlt hc174).1 (by decide) (by decide) ?_
        show Steps p.tables e below (T88.setTop (mkF m 182 #[.val (.long q1), .second, .val (.long q2), .second, .val (.long q3), .second, .val (.int p4), .val (.int p5), .val (.int p6), .val (.long v3), .second, .val (.long v8), .second, .val (.long v14), .second, .val (.long v23), .second, .val (.long v32), .second, .val (.int v42), .val (.int v54), .val (.ref b48), .val (.ref b_50), .val (.ref b_51), .val (.int v90), .val (.int z118_s0), .val (.long v157), .second, .unset, .unset, .unset, .unset, .unset, .unset, .unset, .unset, .unset, .unset] [(.long z171_s0)])) _
        refine XS.lconst X88.here hx rfl (hb hby at_182) ?_
        exact k)
      have q_z183_s0 : z183_s0 = (0 : Int64) := by rw [hz183_s0, if_pos hc174]
      refine ⟨_, _, X88, e88, N88, fun t k => ?_⟩
      rw [q_z183_s0] at k
      exact pre90 t k
    ·
      have pre91 : ∀ t, Steps p.tables e below (T88.setTop (mkF m 183 #[.val (.long q1), .second, .val (.long q2), .second, .val (.long q3), .second, .val (.int p4), .val (.int p5), .val (.int p6), .val (.long v3), .second, .val (.long v8), .second, .val (.long v14), .second, .val (.long v23), .second, .val (.long v32), .second, .val (.int v42), .val (.int v54), .val (.ref b48), .val (.ref b_50), .val (.ref b_51), .val (.int v90), .val (.int z118_s0), .val (.long v157), .second, .unset, .unset, .unset, .unset, .unset, .unset, .unset, .unset, .unset, .unset] [(.long v32), (.long z171_s0)])) t → Steps p.tables e below (s₁.setTop (entryFrame m #[(.long q1), (.long q2), (.long q3), (.int p4), (.int p5), (.int p6)] maxLocals)) t := fun t k => pre89 t (by
        show Steps p.tables e below (T88.setTop (mkF m 174 #[.val (.long q1), .second, .val (.long q2), .second, .val (.long q3), .second, .val (.int p4), .val (.int p5), .val (.int p6), .val (.long v3), .second, .val (.long v8), .second, .val (.long v14), .second, .val (.long v23), .second, .val (.long v32), .second, .val (.int v42), .val (.int v54), .val (.ref b48), .val (.ref b_50), .val (.ref b_51), .val (.int v90), .val (.int z118_s0), .val (.long v157), .second, .unset, .unset, .unset, .unset, .unset, .unset, .unset, .unset, .unset, .unset] [(.int (1 : Int32)), (.int v54), (.long z171_s0)])) _
        refine XS.icmpNo X88.here hx rfl (hb hby at_174) rfl (flt hc174).1 ?_
        show Steps p.tables e below (T88.setTop (mkF m 177 #[.val (.long q1), .second, .val (.long q2), .second, .val (.long q3), .second, .val (.int p4), .val (.int p5), .val (.int p6), .val (.long v3), .second, .val (.long v8), .second, .val (.long v14), .second, .val (.long v23), .second, .val (.long v32), .second, .val (.int v42), .val (.int v54), .val (.ref b48), .val (.ref b_50), .val (.ref b_51), .val (.int v90), .val (.int z118_s0), .val (.long v157), .second, .unset, .unset, .unset, .unset, .unset, .unset, .unset, .unset, .unset, .unset] [(.long z171_s0)])) _
        refine XS.lload X88.here hx rfl (hb hby at_177) rfl ?_
        show Steps p.tables e below (T88.setTop (mkF m 179 #[.val (.long q1), .second, .val (.long q2), .second, .val (.long q3), .second, .val (.int p4), .val (.int p5), .val (.int p6), .val (.long v3), .second, .val (.long v8), .second, .val (.long v14), .second, .val (.long v23), .second, .val (.long v32), .second, .val (.int v42), .val (.int v54), .val (.ref b48), .val (.ref b_50), .val (.ref b_51), .val (.int v90), .val (.int z118_s0), .val (.long v157), .second, .unset, .unset, .unset, .unset, .unset, .unset, .unset, .unset, .unset, .unset] [(.long v32), (.long z171_s0)])) _
        refine XS.goto X88.here hx rfl (pc0 := 179) (pc' := 183) rfl (hb hby at_179) (by decide) (by decide) ?_
        exact k)
      have q_z183_s0 : z183_s0 = v32 := by rw [hz183_s0, if_neg hc174]
      refine ⟨_, _, X88, e88, N88, fun t k => ?_⟩
      rw [q_z183_s0] at k
      exact pre91 t k
  obtain ⟨v184, hv184⟩ : ∃ z : Int64, z = (z171_s0 + z183_s0) := ⟨_, rfl⟩
  have pre93 : ∀ t, Steps p.tables e below (T92.setTop (mkF m 186 #[.val (.long q1), .second, .val (.long q2), .second, .val (.long q3), .second, .val (.int p4), .val (.int p5), .val (.int p6), .val (.long v3), .second, .val (.long v8), .second, .val (.long v14), .second, .val (.long v23), .second, .val (.long v32), .second, .val (.int v42), .val (.int v54), .val (.ref b48), .val (.ref b_50), .val (.ref b_51), .val (.int v90), .val (.int z118_s0), .val (.long v157), .second, .val (.long v184), .second, .unset, .unset, .unset, .unset, .unset, .unset, .unset, .unset] [])) t → Steps p.tables e below (s₁.setTop (entryFrame m #[(.long q1), (.long q2), (.long q3), (.int p4), (.int p5), (.int p6)] maxLocals)) t := fun t k => pre92 t (by
    show Steps p.tables e below (T92.setTop (mkF m 183 #[.val (.long q1), .second, .val (.long q2), .second, .val (.long q3), .second, .val (.int p4), .val (.int p5), .val (.int p6), .val (.long v3), .second, .val (.long v8), .second, .val (.long v14), .second, .val (.long v23), .second, .val (.long v32), .second, .val (.int v42), .val (.int v54), .val (.ref b48), .val (.ref b_50), .val (.ref b_51), .val (.int v90), .val (.int z118_s0), .val (.long v157), .second, .unset, .unset, .unset, .unset, .unset, .unset, .unset, .unset, .unset, .unset] [(.long z183_s0), (.long z171_s0)])) _
    refine XS.ladd X92.here hx rfl (hb hby at_183) rfl ?_
    show Steps p.tables e below (T92.setTop (mkF m 184 #[.val (.long q1), .second, .val (.long q2), .second, .val (.long q3), .second, .val (.int p4), .val (.int p5), .val (.int p6), .val (.long v3), .second, .val (.long v8), .second, .val (.long v14), .second, .val (.long v23), .second, .val (.long v32), .second, .val (.int v42), .val (.int v54), .val (.ref b48), .val (.ref b_50), .val (.ref b_51), .val (.int v90), .val (.int z118_s0), .val (.long v157), .second, .unset, .unset, .unset, .unset, .unset, .unset, .unset, .unset, .unset, .unset] [(.long (z171_s0 + z183_s0))])) _
    refine XS.lstore X92.here hx rfl (hb hby at_184) rfl (l' := #[.val (.long q1), .second, .val (.long q2), .second, .val (.long q3), .second, .val (.int p4), .val (.int p5), .val (.int p6), .val (.long v3), .second, .val (.long v8), .second, .val (.long v14), .second, .val (.long v23), .second, .val (.long v32), .second, .val (.int v42), .val (.int v54), .val (.ref b48), .val (.ref b_50), .val (.ref b_51), .val (.int v90), .val (.int z118_s0), .val (.long v157), .second, .val (.long (z171_s0 + z183_s0)), .second, .unset, .unset, .unset, .unset, .unset, .unset, .unset, .unset]) rfl ?_
    rw [hv184] at k
    exact k)
  have pre94 : ∀ t, Steps p.tables e below (T92.setTop (mkF m 189 #[.val (.long q1), .second, .val (.long q2), .second, .val (.long q3), .second, .val (.int p4), .val (.int p5), .val (.int p6), .val (.long v3), .second, .val (.long v8), .second, .val (.long v14), .second, .val (.long v23), .second, .val (.long v32), .second, .val (.int v42), .val (.int v54), .val (.ref b48), .val (.ref b_50), .val (.ref b_51), .val (.int v90), .val (.int z118_s0), .val (.long v157), .second, .val (.long v184), .second, .unset, .unset, .unset, .unset, .unset, .unset, .unset, .unset] [(.int (2 : Int32)), (.int v42)])) t → Steps p.tables e below (s₁.setTop (entryFrame m #[(.long q1), (.long q2), (.long q3), (.int p4), (.int p5), (.int p6)] maxLocals)) t := fun t k => pre93 t (by
    show Steps p.tables e below (T92.setTop (mkF m 186 #[.val (.long q1), .second, .val (.long q2), .second, .val (.long q3), .second, .val (.int p4), .val (.int p5), .val (.int p6), .val (.long v3), .second, .val (.long v8), .second, .val (.long v14), .second, .val (.long v23), .second, .val (.long v32), .second, .val (.int v42), .val (.int v54), .val (.ref b48), .val (.ref b_50), .val (.ref b_51), .val (.int v90), .val (.int z118_s0), .val (.long v157), .second, .val (.long v184), .second, .unset, .unset, .unset, .unset, .unset, .unset, .unset, .unset] [])) _
    refine XS.iload X92.here hx rfl (hb hby at_186) rfl ?_
    show Steps p.tables e below (T92.setTop (mkF m 188 #[.val (.long q1), .second, .val (.long q2), .second, .val (.long q3), .second, .val (.int p4), .val (.int p5), .val (.int p6), .val (.long v3), .second, .val (.long v8), .second, .val (.long v14), .second, .val (.long v23), .second, .val (.long v32), .second, .val (.int v42), .val (.int v54), .val (.ref b48), .val (.ref b_50), .val (.ref b_51), .val (.int v90), .val (.int z118_s0), .val (.long v157), .second, .val (.long v184), .second, .unset, .unset, .unset, .unset, .unset, .unset, .unset, .unset] [(.int v42)])) _
    refine XS.iconst X92.here hx rfl (hb hby at_188) ?_
    exact k)
  obtain ⟨z198_s0, hz198_s0⟩ : ∃ z : Int64, z = (if v42 < (2 : Int32) then (0 : Int64) else v23) := ⟨_, rfl⟩
  obtain ⟨T97, Lc97, X97, e97, N97, pre97⟩ : ∃ (T' : State) (locs' : List Loc), Stand p l e room_1 s m #[(.long q1), (.long q2), (.long q3), (.int p4), (.int p5), (.int p6)] below meth c T' locs' 3 6 ∧ T'.heap = h83 ∧ Fr n0 locs' ∧ ∀ t, Steps p.tables e below (T'.setTop (mkF m 198 #[.val (.long q1), .second, .val (.long q2), .second, .val (.long q3), .second, .val (.int p4), .val (.int p5), .val (.int p6), .val (.long v3), .second, .val (.long v8), .second, .val (.long v14), .second, .val (.long v23), .second, .val (.long v32), .second, .val (.int v42), .val (.int v54), .val (.ref b48), .val (.ref b_50), .val (.ref b_51), .val (.int v90), .val (.int z118_s0), .val (.long v157), .second, .val (.long v184), .second, .unset, .unset, .unset, .unset, .unset, .unset, .unset, .unset] [(.long z198_s0)])) t → Steps p.tables e below (s₁.setTop (entryFrame m #[(.long q1), (.long q2), (.long q3), (.int p4), (.int p5), (.int p6)] maxLocals)) t := by
    by_cases hc189 : v42 < (2 : Int32)
    ·
      have pre95 : ∀ t, Steps p.tables e below (T92.setTop (mkF m 198 #[.val (.long q1), .second, .val (.long q2), .second, .val (.long q3), .second, .val (.int p4), .val (.int p5), .val (.int p6), .val (.long v3), .second, .val (.long v8), .second, .val (.long v14), .second, .val (.long v23), .second, .val (.long v32), .second, .val (.int v42), .val (.int v54), .val (.ref b48), .val (.ref b_50), .val (.ref b_51), .val (.int v90), .val (.int z118_s0), .val (.long v157), .second, .val (.long v184), .second, .unset, .unset, .unset, .unset, .unset, .unset, .unset, .unset] [(.long (0 : Int64))])) t → Steps p.tables e below (s₁.setTop (entryFrame m #[(.long q1), (.long q2), (.long q3), (.int p4), (.int p5), (.int p6)] maxLocals)) t := fun t k => pre94 t (by
        show Steps p.tables e below (T92.setTop (mkF m 189 #[.val (.long q1), .second, .val (.long q2), .second, .val (.long q3), .second, .val (.int p4), .val (.int p5), .val (.int p6), .val (.long v3), .second, .val (.long v8), .second, .val (.long v14), .second, .val (.long v23), .second, .val (.long v32), .second, .val (.int v42), .val (.int v54), .val (.ref b48), .val (.ref b_50), .val (.ref b_51), .val (.int v90), .val (.int z118_s0), .val (.long v157), .second, .val (.long v184), .second, .unset, .unset, .unset, .unset, .unset, .unset, .unset, .unset] [(.int (2 : Int32)), (.int v42)])) _
        refine XS.icmpYes X92.here hx rfl (pc0 := 189) (pc' := 197) rfl (hb hby at_189) rfl (tlt hc189).1 (by decide) (by decide) ?_
        show Steps p.tables e below (T92.setTop (mkF m 197 #[.val (.long q1), .second, .val (.long q2), .second, .val (.long q3), .second, .val (.int p4), .val (.int p5), .val (.int p6), .val (.long v3), .second, .val (.long v8), .second, .val (.long v14), .second, .val (.long v23), .second, .val (.long v32), .second, .val (.int v42), .val (.int v54), .val (.ref b48), .val (.ref b_50), .val (.ref b_51), .val (.int v90), .val (.int z118_s0), .val (.long v157), .second, .val (.long v184), .second, .unset, .unset, .unset, .unset, .unset, .unset, .unset, .unset] [])) _
        refine XS.lconst X92.here hx rfl (hb hby at_197) ?_
        exact k)
      have q_z198_s0 : z198_s0 = (0 : Int64) := by rw [hz198_s0, if_pos hc189]
      refine ⟨_, _, X92, e92, N92, fun t k => ?_⟩
      rw [q_z198_s0] at k
      exact pre95 t k
    ·
      have pre96 : ∀ t, Steps p.tables e below (T92.setTop (mkF m 198 #[.val (.long q1), .second, .val (.long q2), .second, .val (.long q3), .second, .val (.int p4), .val (.int p5), .val (.int p6), .val (.long v3), .second, .val (.long v8), .second, .val (.long v14), .second, .val (.long v23), .second, .val (.long v32), .second, .val (.int v42), .val (.int v54), .val (.ref b48), .val (.ref b_50), .val (.ref b_51), .val (.int v90), .val (.int z118_s0), .val (.long v157), .second, .val (.long v184), .second, .unset, .unset, .unset, .unset, .unset, .unset, .unset, .unset] [(.long v23)])) t → Steps p.tables e below (s₁.setTop (entryFrame m #[(.long q1), (.long q2), (.long q3), (.int p4), (.int p5), (.int p6)] maxLocals)) t := fun t k => pre94 t (by
        show Steps p.tables e below (T92.setTop (mkF m 189 #[.val (.long q1), .second, .val (.long q2), .second, .val (.long q3), .second, .val (.int p4), .val (.int p5), .val (.int p6), .val (.long v3), .second, .val (.long v8), .second, .val (.long v14), .second, .val (.long v23), .second, .val (.long v32), .second, .val (.int v42), .val (.int v54), .val (.ref b48), .val (.ref b_50), .val (.ref b_51), .val (.int v90), .val (.int z118_s0), .val (.long v157), .second, .val (.long v184), .second, .unset, .unset, .unset, .unset, .unset, .unset, .unset, .unset] [(.int (2 : Int32)), (.int v42)])) _
        refine XS.icmpNo X92.here hx rfl (hb hby at_189) rfl (flt hc189).1 ?_
        show Steps p.tables e below (T92.setTop (mkF m 192 #[.val (.long q1), .second, .val (.long q2), .second, .val (.long q3), .second, .val (.int p4), .val (.int p5), .val (.int p6), .val (.long v3), .second, .val (.long v8), .second, .val (.long v14), .second, .val (.long v23), .second, .val (.long v32), .second, .val (.int v42), .val (.int v54), .val (.ref b48), .val (.ref b_50), .val (.ref b_51), .val (.int v90), .val (.int z118_s0), .val (.long v157), .second, .val (.long v184), .second, .unset, .unset, .unset, .unset, .unset, .unset, .unset, .unset] [])) _
        refine XS.lload X92.here hx rfl (hb hby at_192) rfl ?_
        show Steps p.tables e below (T92.setTop (mkF m 194 #[.val (.long q1), .second, .val (.long q2), .second, .val (.long q3), .second, .val (.int p4), .val (.int p5), .val (.int p6), .val (.long v3), .second, .val (.long v8), .second, .val (.long v14), .second, .val (.long v23), .second, .val (.long v32), .second, .val (.int v42), .val (.int v54), .val (.ref b48), .val (.ref b_50), .val (.ref b_51), .val (.int v90), .val (.int z118_s0), .val (.long v157), .second, .val (.long v184), .second, .unset, .unset, .unset, .unset, .unset, .unset, .unset, .unset] [(.long v23)])) _
        refine XS.goto X92.here hx rfl (pc0 := 194) (pc' := 198) rfl (hb hby at_194) (by decide) (by decide) ?_
        exact k)
      have q_z198_s0 : z198_s0 = v23 := by rw [hz198_s0, if_neg hc189]
      refine ⟨_, _, X92, e92, N92, fun t k => ?_⟩
      rw [q_z198_s0] at k
      exact pre96 t k
  have pre98 : ∀ t, Steps p.tables e below (T97.setTop (mkF m 201 #[.val (.long q1), .second, .val (.long q2), .second, .val (.long q3), .second, .val (.int p4), .val (.int p5), .val (.int p6), .val (.long v3), .second, .val (.long v8), .second, .val (.long v14), .second, .val (.long v23), .second, .val (.long v32), .second, .val (.int v42), .val (.int v54), .val (.ref b48), .val (.ref b_50), .val (.ref b_51), .val (.int v90), .val (.int z118_s0), .val (.long v157), .second, .val (.long v184), .second, .unset, .unset, .unset, .unset, .unset, .unset, .unset, .unset] [(.int (2 : Int32)), (.int v54), (.long z198_s0)])) t → Steps p.tables e below (s₁.setTop (entryFrame m #[(.long q1), (.long q2), (.long q3), (.int p4), (.int p5), (.int p6)] maxLocals)) t := fun t k => pre97 t (by
    show Steps p.tables e below (T97.setTop (mkF m 198 #[.val (.long q1), .second, .val (.long q2), .second, .val (.long q3), .second, .val (.int p4), .val (.int p5), .val (.int p6), .val (.long v3), .second, .val (.long v8), .second, .val (.long v14), .second, .val (.long v23), .second, .val (.long v32), .second, .val (.int v42), .val (.int v54), .val (.ref b48), .val (.ref b_50), .val (.ref b_51), .val (.int v90), .val (.int z118_s0), .val (.long v157), .second, .val (.long v184), .second, .unset, .unset, .unset, .unset, .unset, .unset, .unset, .unset] [(.long z198_s0)])) _
    refine XS.iload X97.here hx rfl (hb hby at_198) rfl ?_
    show Steps p.tables e below (T97.setTop (mkF m 200 #[.val (.long q1), .second, .val (.long q2), .second, .val (.long q3), .second, .val (.int p4), .val (.int p5), .val (.int p6), .val (.long v3), .second, .val (.long v8), .second, .val (.long v14), .second, .val (.long v23), .second, .val (.long v32), .second, .val (.int v42), .val (.int v54), .val (.ref b48), .val (.ref b_50), .val (.ref b_51), .val (.int v90), .val (.int z118_s0), .val (.long v157), .second, .val (.long v184), .second, .unset, .unset, .unset, .unset, .unset, .unset, .unset, .unset] [(.int v54), (.long z198_s0)])) _
    refine XS.iconst X97.here hx rfl (hb hby at_200) ?_
    exact k)
  obtain ⟨z210_s0, hz210_s0⟩ : ∃ z : Int64, z = (if v54 < (2 : Int32) then (0 : Int64) else v32) := ⟨_, rfl⟩
  obtain ⟨T101, Lc101, X101, e101, N101, pre101⟩ : ∃ (T' : State) (locs' : List Loc), Stand p l e room_1 s m #[(.long q1), (.long q2), (.long q3), (.int p4), (.int p5), (.int p6)] below meth c T' locs' 3 6 ∧ T'.heap = h83 ∧ Fr n0 locs' ∧ ∀ t, Steps p.tables e below (T'.setTop (mkF m 210 #[.val (.long q1), .second, .val (.long q2), .second, .val (.long q3), .second, .val (.int p4), .val (.int p5), .val (.int p6), .val (.long v3), .second, .val (.long v8), .second, .val (.long v14), .second, .val (.long v23), .second, .val (.long v32), .second, .val (.int v42), .val (.int v54), .val (.ref b48), .val (.ref b_50), .val (.ref b_51), .val (.int v90), .val (.int z118_s0), .val (.long v157), .second, .val (.long v184), .second, .unset, .unset, .unset, .unset, .unset, .unset, .unset, .unset] [(.long z210_s0), (.long z198_s0)])) t → Steps p.tables e below (s₁.setTop (entryFrame m #[(.long q1), (.long q2), (.long q3), (.int p4), (.int p5), (.int p6)] maxLocals)) t := by
    by_cases hc201 : v54 < (2 : Int32)
    ·
      have pre99 : ∀ t, Steps p.tables e below (T97.setTop (mkF m 210 #[.val (.long q1), .second, .val (.long q2), .second, .val (.long q3), .second, .val (.int p4), .val (.int p5), .val (.int p6), .val (.long v3), .second, .val (.long v8), .second, .val (.long v14), .second, .val (.long v23), .second, .val (.long v32), .second, .val (.int v42), .val (.int v54), .val (.ref b48), .val (.ref b_50), .val (.ref b_51), .val (.int v90), .val (.int z118_s0), .val (.long v157), .second, .val (.long v184), .second, .unset, .unset, .unset, .unset, .unset, .unset, .unset, .unset] [(.long (0 : Int64)), (.long z198_s0)])) t → Steps p.tables e below (s₁.setTop (entryFrame m #[(.long q1), (.long q2), (.long q3), (.int p4), (.int p5), (.int p6)] maxLocals)) t := fun t k => pre98 t (by
        show Steps p.tables e below (T97.setTop (mkF m 201 #[.val (.long q1), .second, .val (.long q2), .second, .val (.long q3), .second, .val (.int p4), .val (.int p5), .val (.int p6), .val (.long v3), .second, .val (.long v8), .second, .val (.long v14), .second, .val (.long v23), .second, .val (.long v32), .second, .val (.int v42), .val (.int v54), .val (.ref b48), .val (.ref b_50), .val (.ref b_51), .val (.int v90), .val (.int z118_s0), .val (.long v157), .second, .val (.long v184), .second, .unset, .unset, .unset, .unset, .unset, .unset, .unset, .unset] [(.int (2 : Int32)), (.int v54), (.long z198_s0)])) _
        refine XS.icmpYes X97.here hx rfl (pc0 := 201) (pc' := 209) rfl (hb hby at_201) rfl (tlt hc201).1 (by decide) (by decide) ?_
        show Steps p.tables e below (T97.setTop (mkF m 209 #[.val (.long q1), .second, .val (.long q2), .second, .val (.long q3), .second, .val (.int p4), .val (.int p5), .val (.int p6), .val (.long v3), .second, .val (.long v8), .second, .val (.long v14), .second, .val (.long v23), .second, .val (.long v32), .second, .val (.int v42), .val (.int v54), .val (.ref b48), .val (.ref b_50), .val (.ref b_51), .val (.int v90), .val (.int z118_s0), .val (.long v157), .second, .val (.long v184), .second, .unset, .unset, .unset, .unset, .unset, .unset, .unset, .unset] [(.long z198_s0)])) _
        refine XS.lconst X97.here hx rfl (hb hby at_209) ?_
        exact k)
      have q_z210_s0 : z210_s0 = (0 : Int64) := by rw [hz210_s0, if_pos hc201]
      refine ⟨_, _, X97, e97, N97, fun t k => ?_⟩
      rw [q_z210_s0] at k
      exact pre99 t k
    ·
      have pre100 : ∀ t, Steps p.tables e below (T97.setTop (mkF m 210 #[.val (.long q1), .second, .val (.long q2), .second, .val (.long q3), .second, .val (.int p4), .val (.int p5), .val (.int p6), .val (.long v3), .second, .val (.long v8), .second, .val (.long v14), .second, .val (.long v23), .second, .val (.long v32), .second, .val (.int v42), .val (.int v54), .val (.ref b48), .val (.ref b_50), .val (.ref b_51), .val (.int v90), .val (.int z118_s0), .val (.long v157), .second, .val (.long v184), .second, .unset, .unset, .unset, .unset, .unset, .unset, .unset, .unset] [(.long v32), (.long z198_s0)])) t → Steps p.tables e below (s₁.setTop (entryFrame m #[(.long q1), (.long q2), (.long q3), (.int p4), (.int p5), (.int p6)] maxLocals)) t := fun t k => pre98 t (by
        show Steps p.tables e below (T97.setTop (mkF m 201 #[.val (.long q1), .second, .val (.long q2), .second, .val (.long q3), .second, .val (.int p4), .val (.int p5), .val (.int p6), .val (.long v3), .second, .val (.long v8), .second, .val (.long v14), .second, .val (.long v23), .second, .val (.long v32), .second, .val (.int v42), .val (.int v54), .val (.ref b48), .val (.ref b_50), .val (.ref b_51), .val (.int v90), .val (.int z118_s0), .val (.long v157), .second, .val (.long v184), .second, .unset, .unset, .unset, .unset, .unset, .unset, .unset, .unset] [(.int (2 : Int32)), (.int v54), (.long z198_s0)])) _
        refine XS.icmpNo X97.here hx rfl (hb hby at_201) rfl (flt hc201).1 ?_
        show Steps p.tables e below (T97.setTop (mkF m 204 #[.val (.long q1), .second, .val (.long q2), .second, .val (.long q3), .second, .val (.int p4), .val (.int p5), .val (.int p6), .val (.long v3), .second, .val (.long v8), .second, .val (.long v14), .second, .val (.long v23), .second, .val (.long v32), .second, .val (.int v42), .val (.int v54), .val (.ref b48), .val (.ref b_50), .val (.ref b_51), .val (.int v90), .val (.int z118_s0), .val (.long v157), .second, .val (.long v184), .second, .unset, .unset, .unset, .unset, .unset, .unset, .unset, .unset] [(.long z198_s0)])) _
        refine XS.lload X97.here hx rfl (hb hby at_204) rfl ?_
        show Steps p.tables e below (T97.setTop (mkF m 206 #[.val (.long q1), .second, .val (.long q2), .second, .val (.long q3), .second, .val (.int p4), .val (.int p5), .val (.int p6), .val (.long v3), .second, .val (.long v8), .second, .val (.long v14), .second, .val (.long v23), .second, .val (.long v32), .second, .val (.int v42), .val (.int v54), .val (.ref b48), .val (.ref b_50), .val (.ref b_51), .val (.int v90), .val (.int z118_s0), .val (.long v157), .second, .val (.long v184), .second, .unset, .unset, .unset, .unset, .unset, .unset, .unset, .unset] [(.long v32), (.long z198_s0)])) _
        refine XS.goto X97.here hx rfl (pc0 := 206) (pc' := 210) rfl (hb hby at_206) (by decide) (by decide) ?_
        exact k)
      have q_z210_s0 : z210_s0 = v32 := by rw [hz210_s0, if_neg hc201]
      refine ⟨_, _, X97, e97, N97, fun t k => ?_⟩
      rw [q_z210_s0] at k
      exact pre100 t k
  obtain ⟨v211, hv211⟩ : ∃ z : Int64, z = (z198_s0 + z210_s0) := ⟨_, rfl⟩
  have pre102 : ∀ t, Steps p.tables e below (T101.setTop (mkF m 213 #[.val (.long q1), .second, .val (.long q2), .second, .val (.long q3), .second, .val (.int p4), .val (.int p5), .val (.int p6), .val (.long v3), .second, .val (.long v8), .second, .val (.long v14), .second, .val (.long v23), .second, .val (.long v32), .second, .val (.int v42), .val (.int v54), .val (.ref b48), .val (.ref b_50), .val (.ref b_51), .val (.int v90), .val (.int z118_s0), .val (.long v157), .second, .val (.long v184), .second, .val (.long v211), .second, .unset, .unset, .unset, .unset, .unset, .unset] [])) t → Steps p.tables e below (s₁.setTop (entryFrame m #[(.long q1), (.long q2), (.long q3), (.int p4), (.int p5), (.int p6)] maxLocals)) t := fun t k => pre101 t (by
    show Steps p.tables e below (T101.setTop (mkF m 210 #[.val (.long q1), .second, .val (.long q2), .second, .val (.long q3), .second, .val (.int p4), .val (.int p5), .val (.int p6), .val (.long v3), .second, .val (.long v8), .second, .val (.long v14), .second, .val (.long v23), .second, .val (.long v32), .second, .val (.int v42), .val (.int v54), .val (.ref b48), .val (.ref b_50), .val (.ref b_51), .val (.int v90), .val (.int z118_s0), .val (.long v157), .second, .val (.long v184), .second, .unset, .unset, .unset, .unset, .unset, .unset, .unset, .unset] [(.long z210_s0), (.long z198_s0)])) _
    refine XS.ladd X101.here hx rfl (hb hby at_210) rfl ?_
    show Steps p.tables e below (T101.setTop (mkF m 211 #[.val (.long q1), .second, .val (.long q2), .second, .val (.long q3), .second, .val (.int p4), .val (.int p5), .val (.int p6), .val (.long v3), .second, .val (.long v8), .second, .val (.long v14), .second, .val (.long v23), .second, .val (.long v32), .second, .val (.int v42), .val (.int v54), .val (.ref b48), .val (.ref b_50), .val (.ref b_51), .val (.int v90), .val (.int z118_s0), .val (.long v157), .second, .val (.long v184), .second, .unset, .unset, .unset, .unset, .unset, .unset, .unset, .unset] [(.long (z198_s0 + z210_s0))])) _
    refine XS.lstore X101.here hx rfl (hb hby at_211) rfl (l' := #[.val (.long q1), .second, .val (.long q2), .second, .val (.long q3), .second, .val (.int p4), .val (.int p5), .val (.int p6), .val (.long v3), .second, .val (.long v8), .second, .val (.long v14), .second, .val (.long v23), .second, .val (.long v32), .second, .val (.int v42), .val (.int v54), .val (.ref b48), .val (.ref b_50), .val (.ref b_51), .val (.int v90), .val (.int z118_s0), .val (.long v157), .second, .val (.long v184), .second, .val (.long (z198_s0 + z210_s0)), .second, .unset, .unset, .unset, .unset, .unset, .unset]) rfl ?_
    rw [hv211] at k
    exact k)
  have pre103 : ∀ t, Steps p.tables e below (T101.setTop (mkF m 218 #[.val (.long q1), .second, .val (.long q2), .second, .val (.long q3), .second, .val (.int p4), .val (.int p5), .val (.int p6), .val (.long v3), .second, .val (.long v8), .second, .val (.long v14), .second, .val (.long v23), .second, .val (.long v32), .second, .val (.int v42), .val (.int v54), .val (.ref b48), .val (.ref b_50), .val (.ref b_51), .val (.int v90), .val (.int z118_s0), .val (.long v157), .second, .val (.long v184), .second, .val (.long v211), .second, .unset, .unset, .unset, .unset, .unset, .unset] [(.int (lcmpW v3 v157))])) t → Steps p.tables e below (s₁.setTop (entryFrame m #[(.long q1), (.long q2), (.long q3), (.int p4), (.int p5), (.int p6)] maxLocals)) t := fun t k => pre102 t (by
    show Steps p.tables e below (T101.setTop (mkF m 213 #[.val (.long q1), .second, .val (.long q2), .second, .val (.long q3), .second, .val (.int p4), .val (.int p5), .val (.int p6), .val (.long v3), .second, .val (.long v8), .second, .val (.long v14), .second, .val (.long v23), .second, .val (.long v32), .second, .val (.int v42), .val (.int v54), .val (.ref b48), .val (.ref b_50), .val (.ref b_51), .val (.int v90), .val (.int z118_s0), .val (.long v157), .second, .val (.long v184), .second, .val (.long v211), .second, .unset, .unset, .unset, .unset, .unset, .unset] [])) _
    refine XS.lload X101.here hx rfl (hb hby at_213) rfl ?_
    show Steps p.tables e below (T101.setTop (mkF m 215 #[.val (.long q1), .second, .val (.long q2), .second, .val (.long q3), .second, .val (.int p4), .val (.int p5), .val (.int p6), .val (.long v3), .second, .val (.long v8), .second, .val (.long v14), .second, .val (.long v23), .second, .val (.long v32), .second, .val (.int v42), .val (.int v54), .val (.ref b48), .val (.ref b_50), .val (.ref b_51), .val (.int v90), .val (.int z118_s0), .val (.long v157), .second, .val (.long v184), .second, .val (.long v211), .second, .unset, .unset, .unset, .unset, .unset, .unset] [(.long v3)])) _
    refine XS.lload X101.here hx rfl (hb hby at_215) rfl ?_
    show Steps p.tables e below (T101.setTop (mkF m 217 #[.val (.long q1), .second, .val (.long q2), .second, .val (.long q3), .second, .val (.int p4), .val (.int p5), .val (.int p6), .val (.long v3), .second, .val (.long v8), .second, .val (.long v14), .second, .val (.long v23), .second, .val (.long v32), .second, .val (.int v42), .val (.int v54), .val (.ref b48), .val (.ref b_50), .val (.ref b_51), .val (.int v90), .val (.int z118_s0), .val (.long v157), .second, .val (.long v184), .second, .val (.long v211), .second, .unset, .unset, .unset, .unset, .unset, .unset] [(.long v157), (.long v3)])) _
    refine XS.lcmp X101.here hx rfl (hb hby at_217) rfl ?_
    exact k)
  obtain ⟨z226_s0, hz226_s0⟩ : ∃ z : Int32, z = (if v157 < v3 then (0 : Int32) else (1 : Int32)) := ⟨_, rfl⟩
  obtain ⟨T106, Lc106, X106, e106, N106, pre106⟩ : ∃ (T' : State) (locs' : List Loc), Stand p l e room_1 s m #[(.long q1), (.long q2), (.long q3), (.int p4), (.int p5), (.int p6)] below meth c T' locs' 3 6 ∧ T'.heap = h83 ∧ Fr n0 locs' ∧ ∀ t, Steps p.tables e below (T'.setTop (mkF m 226 #[.val (.long q1), .second, .val (.long q2), .second, .val (.long q3), .second, .val (.int p4), .val (.int p5), .val (.int p6), .val (.long v3), .second, .val (.long v8), .second, .val (.long v14), .second, .val (.long v23), .second, .val (.long v32), .second, .val (.int v42), .val (.int v54), .val (.ref b48), .val (.ref b_50), .val (.ref b_51), .val (.int v90), .val (.int z118_s0), .val (.long v157), .second, .val (.long v184), .second, .val (.long v211), .second, .unset, .unset, .unset, .unset, .unset, .unset] [(.int z226_s0)])) t → Steps p.tables e below (s₁.setTop (entryFrame m #[(.long q1), (.long q2), (.long q3), (.int p4), (.int p5), (.int p6)] maxLocals)) t := by
    by_cases hc218 : v157 < v3
    ·
      have pre104 : ∀ t, Steps p.tables e below (T101.setTop (mkF m 226 #[.val (.long q1), .second, .val (.long q2), .second, .val (.long q3), .second, .val (.int p4), .val (.int p5), .val (.int p6), .val (.long v3), .second, .val (.long v8), .second, .val (.long v14), .second, .val (.long v23), .second, .val (.long v32), .second, .val (.int v42), .val (.int v54), .val (.ref b48), .val (.ref b_50), .val (.ref b_51), .val (.int v90), .val (.int z118_s0), .val (.long v157), .second, .val (.long v184), .second, .val (.long v211), .second, .unset, .unset, .unset, .unset, .unset, .unset] [(.int (0 : Int32))])) t → Steps p.tables e below (s₁.setTop (entryFrame m #[(.long q1), (.long q2), (.long q3), (.int p4), (.int p5), (.int p6)] maxLocals)) t := fun t k => pre103 t (by
        show Steps p.tables e below (T101.setTop (mkF m 218 #[.val (.long q1), .second, .val (.long q2), .second, .val (.long q3), .second, .val (.int p4), .val (.int p5), .val (.int p6), .val (.long v3), .second, .val (.long v8), .second, .val (.long v14), .second, .val (.long v23), .second, .val (.long v32), .second, .val (.int v42), .val (.int v54), .val (.ref b48), .val (.ref b_50), .val (.ref b_51), .val (.int v90), .val (.int z118_s0), .val (.long v157), .second, .val (.long v184), .second, .val (.long v211), .second, .unset, .unset, .unset, .unset, .unset, .unset] [(.int (lcmpW v3 v157))])) _
        refine XS.ifYes X101.here hx rfl (pc0 := 218) (pc' := 225) rfl (hb hby at_218) rfl ((if0 _ _).trans (tlt ((lw_gt v3 v157).mpr hc218)).2.2.1) (by decide) (by decide) ?_
        show Steps p.tables e below (T101.setTop (mkF m 225 #[.val (.long q1), .second, .val (.long q2), .second, .val (.long q3), .second, .val (.int p4), .val (.int p5), .val (.int p6), .val (.long v3), .second, .val (.long v8), .second, .val (.long v14), .second, .val (.long v23), .second, .val (.long v32), .second, .val (.int v42), .val (.int v54), .val (.ref b48), .val (.ref b_50), .val (.ref b_51), .val (.int v90), .val (.int z118_s0), .val (.long v157), .second, .val (.long v184), .second, .val (.long v211), .second, .unset, .unset, .unset, .unset, .unset, .unset] [])) _
        refine XS.iconst X101.here hx rfl (hb hby at_225) ?_
        exact k)
      have q_z226_s0 : z226_s0 = (0 : Int32) := by rw [hz226_s0, if_pos hc218]
      refine ⟨_, _, X101, e101, N101, fun t k => ?_⟩
      rw [q_z226_s0] at k
      exact pre104 t k
    ·
      have pre105 : ∀ t, Steps p.tables e below (T101.setTop (mkF m 226 #[.val (.long q1), .second, .val (.long q2), .second, .val (.long q3), .second, .val (.int p4), .val (.int p5), .val (.int p6), .val (.long v3), .second, .val (.long v8), .second, .val (.long v14), .second, .val (.long v23), .second, .val (.long v32), .second, .val (.int v42), .val (.int v54), .val (.ref b48), .val (.ref b_50), .val (.ref b_51), .val (.int v90), .val (.int z118_s0), .val (.long v157), .second, .val (.long v184), .second, .val (.long v211), .second, .unset, .unset, .unset, .unset, .unset, .unset] [(.int (1 : Int32))])) t → Steps p.tables e below (s₁.setTop (entryFrame m #[(.long q1), (.long q2), (.long q3), (.int p4), (.int p5), (.int p6)] maxLocals)) t := fun t k => pre103 t (by
        show Steps p.tables e below (T101.setTop (mkF m 218 #[.val (.long q1), .second, .val (.long q2), .second, .val (.long q3), .second, .val (.int p4), .val (.int p5), .val (.int p6), .val (.long v3), .second, .val (.long v8), .second, .val (.long v14), .second, .val (.long v23), .second, .val (.long v32), .second, .val (.int v42), .val (.int v54), .val (.ref b48), .val (.ref b_50), .val (.ref b_51), .val (.int v90), .val (.int z118_s0), .val (.long v157), .second, .val (.long v184), .second, .val (.long v211), .second, .unset, .unset, .unset, .unset, .unset, .unset] [(.int (lcmpW v3 v157))])) _
        refine XS.ifNo X101.here hx rfl (hb hby at_218) rfl ((if0 _ _).trans (flt (fun q => hc218 ((lw_gt v3 v157).mp q))).2.2.1) ?_
        show Steps p.tables e below (T101.setTop (mkF m 221 #[.val (.long q1), .second, .val (.long q2), .second, .val (.long q3), .second, .val (.int p4), .val (.int p5), .val (.int p6), .val (.long v3), .second, .val (.long v8), .second, .val (.long v14), .second, .val (.long v23), .second, .val (.long v32), .second, .val (.int v42), .val (.int v54), .val (.ref b48), .val (.ref b_50), .val (.ref b_51), .val (.int v90), .val (.int z118_s0), .val (.long v157), .second, .val (.long v184), .second, .val (.long v211), .second, .unset, .unset, .unset, .unset, .unset, .unset] [])) _
        refine XS.iconst X101.here hx rfl (hb hby at_221) ?_
        show Steps p.tables e below (T101.setTop (mkF m 222 #[.val (.long q1), .second, .val (.long q2), .second, .val (.long q3), .second, .val (.int p4), .val (.int p5), .val (.int p6), .val (.long v3), .second, .val (.long v8), .second, .val (.long v14), .second, .val (.long v23), .second, .val (.long v32), .second, .val (.int v42), .val (.int v54), .val (.ref b48), .val (.ref b_50), .val (.ref b_51), .val (.int v90), .val (.int z118_s0), .val (.long v157), .second, .val (.long v184), .second, .val (.long v211), .second, .unset, .unset, .unset, .unset, .unset, .unset] [(.int (1 : Int32))])) _
        refine XS.goto X101.here hx rfl (pc0 := 222) (pc' := 226) rfl (hb hby at_222) (by decide) (by decide) ?_
        exact k)
      have q_z226_s0 : z226_s0 = (1 : Int32) := by rw [hz226_s0, if_neg hc218]
      refine ⟨_, _, X101, e101, N101, fun t k => ?_⟩
      rw [q_z226_s0] at k
      exact pre105 t k
  have pre107 : ∀ t, Steps p.tables e below (T106.setTop (mkF m 233 #[.val (.long q1), .second, .val (.long q2), .second, .val (.long q3), .second, .val (.int p4), .val (.int p5), .val (.int p6), .val (.long v3), .second, .val (.long v8), .second, .val (.long v14), .second, .val (.long v23), .second, .val (.long v32), .second, .val (.int v42), .val (.int v54), .val (.ref b48), .val (.ref b_50), .val (.ref b_51), .val (.int v90), .val (.int z118_s0), .val (.long v157), .second, .val (.long v184), .second, .val (.long v211), .second, .val (.int z226_s0), .unset, .unset, .unset, .unset, .unset] [(.int (lcmpW v8 v184))])) t → Steps p.tables e below (s₁.setTop (entryFrame m #[(.long q1), (.long q2), (.long q3), (.int p4), (.int p5), (.int p6)] maxLocals)) t := fun t k => pre106 t (by
    show Steps p.tables e below (T106.setTop (mkF m 226 #[.val (.long q1), .second, .val (.long q2), .second, .val (.long q3), .second, .val (.int p4), .val (.int p5), .val (.int p6), .val (.long v3), .second, .val (.long v8), .second, .val (.long v14), .second, .val (.long v23), .second, .val (.long v32), .second, .val (.int v42), .val (.int v54), .val (.ref b48), .val (.ref b_50), .val (.ref b_51), .val (.int v90), .val (.int z118_s0), .val (.long v157), .second, .val (.long v184), .second, .val (.long v211), .second, .unset, .unset, .unset, .unset, .unset, .unset] [(.int z226_s0)])) _
    refine XS.istore X106.here hx rfl (hb hby at_226) rfl (l' := #[.val (.long q1), .second, .val (.long q2), .second, .val (.long q3), .second, .val (.int p4), .val (.int p5), .val (.int p6), .val (.long v3), .second, .val (.long v8), .second, .val (.long v14), .second, .val (.long v23), .second, .val (.long v32), .second, .val (.int v42), .val (.int v54), .val (.ref b48), .val (.ref b_50), .val (.ref b_51), .val (.int v90), .val (.int z118_s0), .val (.long v157), .second, .val (.long v184), .second, .val (.long v211), .second, .val (.int z226_s0), .unset, .unset, .unset, .unset, .unset]) rfl ?_
    show Steps p.tables e below (T106.setTop (mkF m 228 #[.val (.long q1), .second, .val (.long q2), .second, .val (.long q3), .second, .val (.int p4), .val (.int p5), .val (.int p6), .val (.long v3), .second, .val (.long v8), .second, .val (.long v14), .second, .val (.long v23), .second, .val (.long v32), .second, .val (.int v42), .val (.int v54), .val (.ref b48), .val (.ref b_50), .val (.ref b_51), .val (.int v90), .val (.int z118_s0), .val (.long v157), .second, .val (.long v184), .second, .val (.long v211), .second, .val (.int z226_s0), .unset, .unset, .unset, .unset, .unset] [])) _
    refine XS.lload X106.here hx rfl (hb hby at_228) rfl ?_
    show Steps p.tables e below (T106.setTop (mkF m 230 #[.val (.long q1), .second, .val (.long q2), .second, .val (.long q3), .second, .val (.int p4), .val (.int p5), .val (.int p6), .val (.long v3), .second, .val (.long v8), .second, .val (.long v14), .second, .val (.long v23), .second, .val (.long v32), .second, .val (.int v42), .val (.int v54), .val (.ref b48), .val (.ref b_50), .val (.ref b_51), .val (.int v90), .val (.int z118_s0), .val (.long v157), .second, .val (.long v184), .second, .val (.long v211), .second, .val (.int z226_s0), .unset, .unset, .unset, .unset, .unset] [(.long v8)])) _
    refine XS.lload X106.here hx rfl (hb hby at_230) rfl ?_
    show Steps p.tables e below (T106.setTop (mkF m 232 #[.val (.long q1), .second, .val (.long q2), .second, .val (.long q3), .second, .val (.int p4), .val (.int p5), .val (.int p6), .val (.long v3), .second, .val (.long v8), .second, .val (.long v14), .second, .val (.long v23), .second, .val (.long v32), .second, .val (.int v42), .val (.int v54), .val (.ref b48), .val (.ref b_50), .val (.ref b_51), .val (.int v90), .val (.int z118_s0), .val (.long v157), .second, .val (.long v184), .second, .val (.long v211), .second, .val (.int z226_s0), .unset, .unset, .unset, .unset, .unset] [(.long v184), (.long v8)])) _
    refine XS.lcmp X106.here hx rfl (hb hby at_232) rfl ?_
    exact k)
  obtain ⟨z246_s0, hz246_s0⟩ : ∃ z : Int32, z = (if v184 < v8 then (if z226_s0 = (0 : Int32) then (0 : Int32) else (1 : Int32)) else (1 : Int32)) := ⟨_, rfl⟩
  obtain ⟨T112, Lc112, X112, e112, N112, pre112⟩ : ∃ (T' : State) (locs' : List Loc), Stand p l e room_1 s m #[(.long q1), (.long q2), (.long q3), (.int p4), (.int p5), (.int p6)] below meth c T' locs' 3 6 ∧ T'.heap = h83 ∧ Fr n0 locs' ∧ ∀ t, Steps p.tables e below (T'.setTop (mkF m 246 #[.val (.long q1), .second, .val (.long q2), .second, .val (.long q3), .second, .val (.int p4), .val (.int p5), .val (.int p6), .val (.long v3), .second, .val (.long v8), .second, .val (.long v14), .second, .val (.long v23), .second, .val (.long v32), .second, .val (.int v42), .val (.int v54), .val (.ref b48), .val (.ref b_50), .val (.ref b_51), .val (.int v90), .val (.int z118_s0), .val (.long v157), .second, .val (.long v184), .second, .val (.long v211), .second, .val (.int z226_s0), .unset, .unset, .unset, .unset, .unset] [(.int z246_s0)])) t → Steps p.tables e below (s₁.setTop (entryFrame m #[(.long q1), (.long q2), (.long q3), (.int p4), (.int p5), (.int p6)] maxLocals)) t := by
    by_cases hc233 : v184 < v8
    ·
      have pre108 : ∀ t, Steps p.tables e below (T106.setTop (mkF m 238 #[.val (.long q1), .second, .val (.long q2), .second, .val (.long q3), .second, .val (.int p4), .val (.int p5), .val (.int p6), .val (.long v3), .second, .val (.long v8), .second, .val (.long v14), .second, .val (.long v23), .second, .val (.long v32), .second, .val (.int v42), .val (.int v54), .val (.ref b48), .val (.ref b_50), .val (.ref b_51), .val (.int v90), .val (.int z118_s0), .val (.long v157), .second, .val (.long v184), .second, .val (.long v211), .second, .val (.int z226_s0), .unset, .unset, .unset, .unset, .unset] [(.int z226_s0)])) t → Steps p.tables e below (s₁.setTop (entryFrame m #[(.long q1), (.long q2), (.long q3), (.int p4), (.int p5), (.int p6)] maxLocals)) t := fun t k => pre107 t (by
        show Steps p.tables e below (T106.setTop (mkF m 233 #[.val (.long q1), .second, .val (.long q2), .second, .val (.long q3), .second, .val (.int p4), .val (.int p5), .val (.int p6), .val (.long v3), .second, .val (.long v8), .second, .val (.long v14), .second, .val (.long v23), .second, .val (.long v32), .second, .val (.int v42), .val (.int v54), .val (.ref b48), .val (.ref b_50), .val (.ref b_51), .val (.int v90), .val (.int z118_s0), .val (.long v157), .second, .val (.long v184), .second, .val (.long v211), .second, .val (.int z226_s0), .unset, .unset, .unset, .unset, .unset] [(.int (lcmpW v8 v184))])) _
        refine XS.ifNo X106.here hx rfl (hb hby at_233) rfl ((if0 _ _).trans (tlt ((lw_gt v8 v184).mpr hc233)).2.2.2) ?_
        show Steps p.tables e below (T106.setTop (mkF m 236 #[.val (.long q1), .second, .val (.long q2), .second, .val (.long q3), .second, .val (.int p4), .val (.int p5), .val (.int p6), .val (.long v3), .second, .val (.long v8), .second, .val (.long v14), .second, .val (.long v23), .second, .val (.long v32), .second, .val (.int v42), .val (.int v54), .val (.ref b48), .val (.ref b_50), .val (.ref b_51), .val (.int v90), .val (.int z118_s0), .val (.long v157), .second, .val (.long v184), .second, .val (.long v211), .second, .val (.int z226_s0), .unset, .unset, .unset, .unset, .unset] [])) _
        refine XS.iload X106.here hx rfl (hb hby at_236) rfl ?_
        exact k)
      by_cases hc238 : z226_s0 = (0 : Int32)
      ·
        have pre109 : ∀ t, Steps p.tables e below (T106.setTop (mkF m 246 #[.val (.long q1), .second, .val (.long q2), .second, .val (.long q3), .second, .val (.int p4), .val (.int p5), .val (.int p6), .val (.long v3), .second, .val (.long v8), .second, .val (.long v14), .second, .val (.long v23), .second, .val (.long v32), .second, .val (.int v42), .val (.int v54), .val (.ref b48), .val (.ref b_50), .val (.ref b_51), .val (.int v90), .val (.int z118_s0), .val (.long v157), .second, .val (.long v184), .second, .val (.long v211), .second, .val (.int z226_s0), .unset, .unset, .unset, .unset, .unset] [(.int (0 : Int32))])) t → Steps p.tables e below (s₁.setTop (entryFrame m #[(.long q1), (.long q2), (.long q3), (.int p4), (.int p5), (.int p6)] maxLocals)) t := fun t k => pre108 t (by
          show Steps p.tables e below (T106.setTop (mkF m 238 #[.val (.long q1), .second, .val (.long q2), .second, .val (.long q3), .second, .val (.int p4), .val (.int p5), .val (.int p6), .val (.long v3), .second, .val (.long v8), .second, .val (.long v14), .second, .val (.long v23), .second, .val (.long v32), .second, .val (.int v42), .val (.int v54), .val (.ref b48), .val (.ref b_50), .val (.ref b_51), .val (.int v90), .val (.int z118_s0), .val (.long v157), .second, .val (.long v184), .second, .val (.long v211), .second, .val (.int z226_s0), .unset, .unset, .unset, .unset, .unset] [(.int z226_s0)])) _
          refine XS.ifYes X106.here hx rfl (pc0 := 238) (pc' := 245) rfl (hb hby at_238) rfl ((if0 _ _).trans (teq hc238).1) (by decide) (by decide) ?_
          show Steps p.tables e below (T106.setTop (mkF m 245 #[.val (.long q1), .second, .val (.long q2), .second, .val (.long q3), .second, .val (.int p4), .val (.int p5), .val (.int p6), .val (.long v3), .second, .val (.long v8), .second, .val (.long v14), .second, .val (.long v23), .second, .val (.long v32), .second, .val (.int v42), .val (.int v54), .val (.ref b48), .val (.ref b_50), .val (.ref b_51), .val (.int v90), .val (.int z118_s0), .val (.long v157), .second, .val (.long v184), .second, .val (.long v211), .second, .val (.int z226_s0), .unset, .unset, .unset, .unset, .unset] [])) _
          refine XS.iconst X106.here hx rfl (hb hby at_245) ?_
          exact k)
        have q_z246_s0 : z246_s0 = (0 : Int32) := by rw [hz246_s0, if_pos hc233, if_pos hc238]
        refine ⟨_, _, X106, e106, N106, fun t k => ?_⟩
        rw [q_z246_s0] at k
        exact pre109 t k
      ·
        have pre110 : ∀ t, Steps p.tables e below (T106.setTop (mkF m 246 #[.val (.long q1), .second, .val (.long q2), .second, .val (.long q3), .second, .val (.int p4), .val (.int p5), .val (.int p6), .val (.long v3), .second, .val (.long v8), .second, .val (.long v14), .second, .val (.long v23), .second, .val (.long v32), .second, .val (.int v42), .val (.int v54), .val (.ref b48), .val (.ref b_50), .val (.ref b_51), .val (.int v90), .val (.int z118_s0), .val (.long v157), .second, .val (.long v184), .second, .val (.long v211), .second, .val (.int z226_s0), .unset, .unset, .unset, .unset, .unset] [(.int (1 : Int32))])) t → Steps p.tables e below (s₁.setTop (entryFrame m #[(.long q1), (.long q2), (.long q3), (.int p4), (.int p5), (.int p6)] maxLocals)) t := fun t k => pre108 t (by
          show Steps p.tables e below (T106.setTop (mkF m 238 #[.val (.long q1), .second, .val (.long q2), .second, .val (.long q3), .second, .val (.int p4), .val (.int p5), .val (.int p6), .val (.long v3), .second, .val (.long v8), .second, .val (.long v14), .second, .val (.long v23), .second, .val (.long v32), .second, .val (.int v42), .val (.int v54), .val (.ref b48), .val (.ref b_50), .val (.ref b_51), .val (.int v90), .val (.int z118_s0), .val (.long v157), .second, .val (.long v184), .second, .val (.long v211), .second, .val (.int z226_s0), .unset, .unset, .unset, .unset, .unset] [(.int z226_s0)])) _
          refine XS.ifNo X106.here hx rfl (hb hby at_238) rfl ((if0 _ _).trans (feq hc238).1) ?_
          show Steps p.tables e below (T106.setTop (mkF m 241 #[.val (.long q1), .second, .val (.long q2), .second, .val (.long q3), .second, .val (.int p4), .val (.int p5), .val (.int p6), .val (.long v3), .second, .val (.long v8), .second, .val (.long v14), .second, .val (.long v23), .second, .val (.long v32), .second, .val (.int v42), .val (.int v54), .val (.ref b48), .val (.ref b_50), .val (.ref b_51), .val (.int v90), .val (.int z118_s0), .val (.long v157), .second, .val (.long v184), .second, .val (.long v211), .second, .val (.int z226_s0), .unset, .unset, .unset, .unset, .unset] [])) _
          refine XS.iconst X106.here hx rfl (hb hby at_241) ?_
          show Steps p.tables e below (T106.setTop (mkF m 242 #[.val (.long q1), .second, .val (.long q2), .second, .val (.long q3), .second, .val (.int p4), .val (.int p5), .val (.int p6), .val (.long v3), .second, .val (.long v8), .second, .val (.long v14), .second, .val (.long v23), .second, .val (.long v32), .second, .val (.int v42), .val (.int v54), .val (.ref b48), .val (.ref b_50), .val (.ref b_51), .val (.int v90), .val (.int z118_s0), .val (.long v157), .second, .val (.long v184), .second, .val (.long v211), .second, .val (.int z226_s0), .unset, .unset, .unset, .unset, .unset] [(.int (1 : Int32))])) _
          refine XS.goto X106.here hx rfl (pc0 := 242) (pc' := 246) rfl (hb hby at_242) (by decide) (by decide) ?_
          exact k)
        have q_z246_s0 : z246_s0 = (1 : Int32) := by rw [hz246_s0, if_pos hc233, if_neg hc238]
        refine ⟨_, _, X106, e106, N106, fun t k => ?_⟩
        rw [q_z246_s0] at k
        exact pre110 t k
    ·
      have pre111 : ∀ t, Steps p.tables e below (T106.setTop (mkF m 246 #[.val (.long q1), .second, .val (.long q2), .second, .val (.long q3), .second, .val (.int p4), .val (.int p5), .val (.int p6), .val (.long v3), .second, .val (.long v8), .second, .val (.long v14), .second, .val (.long v23), .second, .val (.long v32), .second, .val (.int v42), .val (.int v54), .val (.ref b48), .val (.ref b_50), .val (.ref b_51), .val (.int v90), .val (.int z118_s0), .val (.long v157), .second, .val (.long v184), .second, .val (.long v211), .second, .val (.int z226_s0), .unset, .unset, .unset, .unset, .unset] [(.int (1 : Int32))])) t → Steps p.tables e below (s₁.setTop (entryFrame m #[(.long q1), (.long q2), (.long q3), (.int p4), (.int p5), (.int p6)] maxLocals)) t := fun t k => pre107 t (by
        show Steps p.tables e below (T106.setTop (mkF m 233 #[.val (.long q1), .second, .val (.long q2), .second, .val (.long q3), .second, .val (.int p4), .val (.int p5), .val (.int p6), .val (.long v3), .second, .val (.long v8), .second, .val (.long v14), .second, .val (.long v23), .second, .val (.long v32), .second, .val (.int v42), .val (.int v54), .val (.ref b48), .val (.ref b_50), .val (.ref b_51), .val (.int v90), .val (.int z118_s0), .val (.long v157), .second, .val (.long v184), .second, .val (.long v211), .second, .val (.int z226_s0), .unset, .unset, .unset, .unset, .unset] [(.int (lcmpW v8 v184))])) _
        refine XS.ifYes X106.here hx rfl (pc0 := 233) (pc' := 241) rfl (hb hby at_233) rfl ((if0 _ _).trans (flt (fun q => hc233 ((lw_gt v8 v184).mp q))).2.2.2) (by decide) (by decide) ?_
        show Steps p.tables e below (T106.setTop (mkF m 241 #[.val (.long q1), .second, .val (.long q2), .second, .val (.long q3), .second, .val (.int p4), .val (.int p5), .val (.int p6), .val (.long v3), .second, .val (.long v8), .second, .val (.long v14), .second, .val (.long v23), .second, .val (.long v32), .second, .val (.int v42), .val (.int v54), .val (.ref b48), .val (.ref b_50), .val (.ref b_51), .val (.int v90), .val (.int z118_s0), .val (.long v157), .second, .val (.long v184), .second, .val (.long v211), .second, .val (.int z226_s0), .unset, .unset, .unset, .unset, .unset] [])) _
        refine XS.iconst X106.here hx rfl (hb hby at_241) ?_
        show Steps p.tables e below (T106.setTop (mkF m 242 #[.val (.long q1), .second, .val (.long q2), .second, .val (.long q3), .second, .val (.int p4), .val (.int p5), .val (.int p6), .val (.long v3), .second, .val (.long v8), .second, .val (.long v14), .second, .val (.long v23), .second, .val (.long v32), .second, .val (.int v42), .val (.int v54), .val (.ref b48), .val (.ref b_50), .val (.ref b_51), .val (.int v90), .val (.int z118_s0), .val (.long v157), .second, .val (.long v184), .second, .val (.long v211), .second, .val (.int z226_s0), .unset, .unset, .unset, .unset, .unset] [(.int (1 : Int32))])) _
        refine XS.goto X106.here hx rfl (pc0 := 242) (pc' := 246) rfl (hb hby at_242) (by decide) (by decide) ?_
        exact k)
      have q_z246_s0 : z246_s0 = (1 : Int32) := by rw [hz246_s0, if_neg hc233]
      refine ⟨_, _, X106, e106, N106, fun t k => ?_⟩
      rw [q_z246_s0] at k
      exact pre111 t k
  have pre113 : ∀ t, Steps p.tables e below (T112.setTop (mkF m 253 #[.val (.long q1), .second, .val (.long q2), .second, .val (.long q3), .second, .val (.int p4), .val (.int p5), .val (.int p6), .val (.long v3), .second, .val (.long v8), .second, .val (.long v14), .second, .val (.long v23), .second, .val (.long v32), .second, .val (.int v42), .val (.int v54), .val (.ref b48), .val (.ref b_50), .val (.ref b_51), .val (.int v90), .val (.int z118_s0), .val (.long v157), .second, .val (.long v184), .second, .val (.long v211), .second, .val (.int z226_s0), .val (.int z246_s0), .unset, .unset, .unset, .unset] [(.int (lcmpW v14 v211))])) t → Steps p.tables e below (s₁.setTop (entryFrame m #[(.long q1), (.long q2), (.long q3), (.int p4), (.int p5), (.int p6)] maxLocals)) t := fun t k => pre112 t (by
    show Steps p.tables e below (T112.setTop (mkF m 246 #[.val (.long q1), .second, .val (.long q2), .second, .val (.long q3), .second, .val (.int p4), .val (.int p5), .val (.int p6), .val (.long v3), .second, .val (.long v8), .second, .val (.long v14), .second, .val (.long v23), .second, .val (.long v32), .second, .val (.int v42), .val (.int v54), .val (.ref b48), .val (.ref b_50), .val (.ref b_51), .val (.int v90), .val (.int z118_s0), .val (.long v157), .second, .val (.long v184), .second, .val (.long v211), .second, .val (.int z226_s0), .unset, .unset, .unset, .unset, .unset] [(.int z246_s0)])) _
    refine XS.istore X112.here hx rfl (hb hby at_246) rfl (l' := #[.val (.long q1), .second, .val (.long q2), .second, .val (.long q3), .second, .val (.int p4), .val (.int p5), .val (.int p6), .val (.long v3), .second, .val (.long v8), .second, .val (.long v14), .second, .val (.long v23), .second, .val (.long v32), .second, .val (.int v42), .val (.int v54), .val (.ref b48), .val (.ref b_50), .val (.ref b_51), .val (.int v90), .val (.int z118_s0), .val (.long v157), .second, .val (.long v184), .second, .val (.long v211), .second, .val (.int z226_s0), .val (.int z246_s0), .unset, .unset, .unset, .unset]) rfl ?_
    show Steps p.tables e below (T112.setTop (mkF m 248 #[.val (.long q1), .second, .val (.long q2), .second, .val (.long q3), .second, .val (.int p4), .val (.int p5), .val (.int p6), .val (.long v3), .second, .val (.long v8), .second, .val (.long v14), .second, .val (.long v23), .second, .val (.long v32), .second, .val (.int v42), .val (.int v54), .val (.ref b48), .val (.ref b_50), .val (.ref b_51), .val (.int v90), .val (.int z118_s0), .val (.long v157), .second, .val (.long v184), .second, .val (.long v211), .second, .val (.int z226_s0), .val (.int z246_s0), .unset, .unset, .unset, .unset] [])) _
    refine XS.lload X112.here hx rfl (hb hby at_248) rfl ?_
    show Steps p.tables e below (T112.setTop (mkF m 250 #[.val (.long q1), .second, .val (.long q2), .second, .val (.long q3), .second, .val (.int p4), .val (.int p5), .val (.int p6), .val (.long v3), .second, .val (.long v8), .second, .val (.long v14), .second, .val (.long v23), .second, .val (.long v32), .second, .val (.int v42), .val (.int v54), .val (.ref b48), .val (.ref b_50), .val (.ref b_51), .val (.int v90), .val (.int z118_s0), .val (.long v157), .second, .val (.long v184), .second, .val (.long v211), .second, .val (.int z226_s0), .val (.int z246_s0), .unset, .unset, .unset, .unset] [(.long v14)])) _
    refine XS.lload X112.here hx rfl (hb hby at_250) rfl ?_
    show Steps p.tables e below (T112.setTop (mkF m 252 #[.val (.long q1), .second, .val (.long q2), .second, .val (.long q3), .second, .val (.int p4), .val (.int p5), .val (.int p6), .val (.long v3), .second, .val (.long v8), .second, .val (.long v14), .second, .val (.long v23), .second, .val (.long v32), .second, .val (.int v42), .val (.int v54), .val (.ref b48), .val (.ref b_50), .val (.ref b_51), .val (.int v90), .val (.int z118_s0), .val (.long v157), .second, .val (.long v184), .second, .val (.long v211), .second, .val (.int z226_s0), .val (.int z246_s0), .unset, .unset, .unset, .unset] [(.long v211), (.long v14)])) _
    refine XS.lcmp X112.here hx rfl (hb hby at_252) rfl ?_
    exact k)
  obtain ⟨z266_s0, hz266_s0⟩ : ∃ z : Int32, z = (if v211 < v14 then (if z246_s0 = (0 : Int32) then (0 : Int32) else (1 : Int32)) else (1 : Int32)) := ⟨_, rfl⟩
  obtain ⟨T118, Lc118, X118, e118, N118, pre118⟩ : ∃ (T' : State) (locs' : List Loc), Stand p l e room_1 s m #[(.long q1), (.long q2), (.long q3), (.int p4), (.int p5), (.int p6)] below meth c T' locs' 3 6 ∧ T'.heap = h83 ∧ Fr n0 locs' ∧ ∀ t, Steps p.tables e below (T'.setTop (mkF m 266 #[.val (.long q1), .second, .val (.long q2), .second, .val (.long q3), .second, .val (.int p4), .val (.int p5), .val (.int p6), .val (.long v3), .second, .val (.long v8), .second, .val (.long v14), .second, .val (.long v23), .second, .val (.long v32), .second, .val (.int v42), .val (.int v54), .val (.ref b48), .val (.ref b_50), .val (.ref b_51), .val (.int v90), .val (.int z118_s0), .val (.long v157), .second, .val (.long v184), .second, .val (.long v211), .second, .val (.int z226_s0), .val (.int z246_s0), .unset, .unset, .unset, .unset] [(.int z266_s0)])) t → Steps p.tables e below (s₁.setTop (entryFrame m #[(.long q1), (.long q2), (.long q3), (.int p4), (.int p5), (.int p6)] maxLocals)) t := by
    by_cases hc253 : v211 < v14
    ·
      have pre114 : ∀ t, Steps p.tables e below (T112.setTop (mkF m 258 #[.val (.long q1), .second, .val (.long q2), .second, .val (.long q3), .second, .val (.int p4), .val (.int p5), .val (.int p6), .val (.long v3), .second, .val (.long v8), .second, .val (.long v14), .second, .val (.long v23), .second, .val (.long v32), .second, .val (.int v42), .val (.int v54), .val (.ref b48), .val (.ref b_50), .val (.ref b_51), .val (.int v90), .val (.int z118_s0), .val (.long v157), .second, .val (.long v184), .second, .val (.long v211), .second, .val (.int z226_s0), .val (.int z246_s0), .unset, .unset, .unset, .unset] [(.int z246_s0)])) t → Steps p.tables e below (s₁.setTop (entryFrame m #[(.long q1), (.long q2), (.long q3), (.int p4), (.int p5), (.int p6)] maxLocals)) t := fun t k => pre113 t (by
        show Steps p.tables e below (T112.setTop (mkF m 253 #[.val (.long q1), .second, .val (.long q2), .second, .val (.long q3), .second, .val (.int p4), .val (.int p5), .val (.int p6), .val (.long v3), .second, .val (.long v8), .second, .val (.long v14), .second, .val (.long v23), .second, .val (.long v32), .second, .val (.int v42), .val (.int v54), .val (.ref b48), .val (.ref b_50), .val (.ref b_51), .val (.int v90), .val (.int z118_s0), .val (.long v157), .second, .val (.long v184), .second, .val (.long v211), .second, .val (.int z226_s0), .val (.int z246_s0), .unset, .unset, .unset, .unset] [(.int (lcmpW v14 v211))])) _
        refine XS.ifNo X112.here hx rfl (hb hby at_253) rfl ((if0 _ _).trans (tlt ((lw_gt v14 v211).mpr hc253)).2.2.2) ?_
        show Steps p.tables e below (T112.setTop (mkF m 256 #[.val (.long q1), .second, .val (.long q2), .second, .val (.long q3), .second, .val (.int p4), .val (.int p5), .val (.int p6), .val (.long v3), .second, .val (.long v8), .second, .val (.long v14), .second, .val (.long v23), .second, .val (.long v32), .second, .val (.int v42), .val (.int v54), .val (.ref b48), .val (.ref b_50), .val (.ref b_51), .val (.int v90), .val (.int z118_s0), .val (.long v157), .second, .val (.long v184), .second, .val (.long v211), .second, .val (.int z226_s0), .val (.int z246_s0), .unset, .unset, .unset, .unset] [])) _
        refine XS.iload X112.here hx rfl (hb hby at_256) rfl ?_
        exact k)
      by_cases hc258 : z246_s0 = (0 : Int32)
      ·
        have pre115 : ∀ t, Steps p.tables e below (T112.setTop (mkF m 266 #[.val (.long q1), .second, .val (.long q2), .second, .val (.long q3), .second, .val (.int p4), .val (.int p5), .val (.int p6), .val (.long v3), .second, .val (.long v8), .second, .val (.long v14), .second, .val (.long v23), .second, .val (.long v32), .second, .val (.int v42), .val (.int v54), .val (.ref b48), .val (.ref b_50), .val (.ref b_51), .val (.int v90), .val (.int z118_s0), .val (.long v157), .second, .val (.long v184), .second, .val (.long v211), .second, .val (.int z226_s0), .val (.int z246_s0), .unset, .unset, .unset, .unset] [(.int (0 : Int32))])) t → Steps p.tables e below (s₁.setTop (entryFrame m #[(.long q1), (.long q2), (.long q3), (.int p4), (.int p5), (.int p6)] maxLocals)) t := fun t k => pre114 t (by
          show Steps p.tables e below (T112.setTop (mkF m 258 #[.val (.long q1), .second, .val (.long q2), .second, .val (.long q3), .second, .val (.int p4), .val (.int p5), .val (.int p6), .val (.long v3), .second, .val (.long v8), .second, .val (.long v14), .second, .val (.long v23), .second, .val (.long v32), .second, .val (.int v42), .val (.int v54), .val (.ref b48), .val (.ref b_50), .val (.ref b_51), .val (.int v90), .val (.int z118_s0), .val (.long v157), .second, .val (.long v184), .second, .val (.long v211), .second, .val (.int z226_s0), .val (.int z246_s0), .unset, .unset, .unset, .unset] [(.int z246_s0)])) _
          refine XS.ifYes X112.here hx rfl (pc0 := 258) (pc' := 265) rfl (hb hby at_258) rfl ((if0 _ _).trans (teq hc258).1) (by decide) (by decide) ?_
          show Steps p.tables e below (T112.setTop (mkF m 265 #[.val (.long q1), .second, .val (.long q2), .second, .val (.long q3), .second, .val (.int p4), .val (.int p5), .val (.int p6), .val (.long v3), .second, .val (.long v8), .second, .val (.long v14), .second, .val (.long v23), .second, .val (.long v32), .second, .val (.int v42), .val (.int v54), .val (.ref b48), .val (.ref b_50), .val (.ref b_51), .val (.int v90), .val (.int z118_s0), .val (.long v157), .second, .val (.long v184), .second, .val (.long v211), .second, .val (.int z226_s0), .val (.int z246_s0), .unset, .unset, .unset, .unset] [])) _
          refine XS.iconst X112.here hx rfl (hb hby at_265) ?_
          exact k)
        have q_z266_s0 : z266_s0 = (0 : Int32) := by rw [hz266_s0, if_pos hc253, if_pos hc258]
        refine ⟨_, _, X112, e112, N112, fun t k => ?_⟩
        rw [q_z266_s0] at k
        exact pre115 t k
      ·
        have pre116 : ∀ t, Steps p.tables e below (T112.setTop (mkF m 266 #[.val (.long q1), .second, .val (.long q2), .second, .val (.long q3), .second, .val (.int p4), .val (.int p5), .val (.int p6), .val (.long v3), .second, .val (.long v8), .second, .val (.long v14), .second, .val (.long v23), .second, .val (.long v32), .second, .val (.int v42), .val (.int v54), .val (.ref b48), .val (.ref b_50), .val (.ref b_51), .val (.int v90), .val (.int z118_s0), .val (.long v157), .second, .val (.long v184), .second, .val (.long v211), .second, .val (.int z226_s0), .val (.int z246_s0), .unset, .unset, .unset, .unset] [(.int (1 : Int32))])) t → Steps p.tables e below (s₁.setTop (entryFrame m #[(.long q1), (.long q2), (.long q3), (.int p4), (.int p5), (.int p6)] maxLocals)) t := fun t k => pre114 t (by
          show Steps p.tables e below (T112.setTop (mkF m 258 #[.val (.long q1), .second, .val (.long q2), .second, .val (.long q3), .second, .val (.int p4), .val (.int p5), .val (.int p6), .val (.long v3), .second, .val (.long v8), .second, .val (.long v14), .second, .val (.long v23), .second, .val (.long v32), .second, .val (.int v42), .val (.int v54), .val (.ref b48), .val (.ref b_50), .val (.ref b_51), .val (.int v90), .val (.int z118_s0), .val (.long v157), .second, .val (.long v184), .second, .val (.long v211), .second, .val (.int z226_s0), .val (.int z246_s0), .unset, .unset, .unset, .unset] [(.int z246_s0)])) _
          refine XS.ifNo X112.here hx rfl (hb hby at_258) rfl ((if0 _ _).trans (feq hc258).1) ?_
          show Steps p.tables e below (T112.setTop (mkF m 261 #[.val (.long q1), .second, .val (.long q2), .second, .val (.long q3), .second, .val (.int p4), .val (.int p5), .val (.int p6), .val (.long v3), .second, .val (.long v8), .second, .val (.long v14), .second, .val (.long v23), .second, .val (.long v32), .second, .val (.int v42), .val (.int v54), .val (.ref b48), .val (.ref b_50), .val (.ref b_51), .val (.int v90), .val (.int z118_s0), .val (.long v157), .second, .val (.long v184), .second, .val (.long v211), .second, .val (.int z226_s0), .val (.int z246_s0), .unset, .unset, .unset, .unset] [])) _
          refine XS.iconst X112.here hx rfl (hb hby at_261) ?_
          show Steps p.tables e below (T112.setTop (mkF m 262 #[.val (.long q1), .second, .val (.long q2), .second, .val (.long q3), .second, .val (.int p4), .val (.int p5), .val (.int p6), .val (.long v3), .second, .val (.long v8), .second, .val (.long v14), .second, .val (.long v23), .second, .val (.long v32), .second, .val (.int v42), .val (.int v54), .val (.ref b48), .val (.ref b_50), .val (.ref b_51), .val (.int v90), .val (.int z118_s0), .val (.long v157), .second, .val (.long v184), .second, .val (.long v211), .second, .val (.int z226_s0), .val (.int z246_s0), .unset, .unset, .unset, .unset] [(.int (1 : Int32))])) _
          refine XS.goto X112.here hx rfl (pc0 := 262) (pc' := 266) rfl (hb hby at_262) (by decide) (by decide) ?_
          exact k)
        have q_z266_s0 : z266_s0 = (1 : Int32) := by rw [hz266_s0, if_pos hc253, if_neg hc258]
        refine ⟨_, _, X112, e112, N112, fun t k => ?_⟩
        rw [q_z266_s0] at k
        exact pre116 t k
    ·
      have pre117 : ∀ t, Steps p.tables e below (T112.setTop (mkF m 266 #[.val (.long q1), .second, .val (.long q2), .second, .val (.long q3), .second, .val (.int p4), .val (.int p5), .val (.int p6), .val (.long v3), .second, .val (.long v8), .second, .val (.long v14), .second, .val (.long v23), .second, .val (.long v32), .second, .val (.int v42), .val (.int v54), .val (.ref b48), .val (.ref b_50), .val (.ref b_51), .val (.int v90), .val (.int z118_s0), .val (.long v157), .second, .val (.long v184), .second, .val (.long v211), .second, .val (.int z226_s0), .val (.int z246_s0), .unset, .unset, .unset, .unset] [(.int (1 : Int32))])) t → Steps p.tables e below (s₁.setTop (entryFrame m #[(.long q1), (.long q2), (.long q3), (.int p4), (.int p5), (.int p6)] maxLocals)) t := fun t k => pre113 t (by
        show Steps p.tables e below (T112.setTop (mkF m 253 #[.val (.long q1), .second, .val (.long q2), .second, .val (.long q3), .second, .val (.int p4), .val (.int p5), .val (.int p6), .val (.long v3), .second, .val (.long v8), .second, .val (.long v14), .second, .val (.long v23), .second, .val (.long v32), .second, .val (.int v42), .val (.int v54), .val (.ref b48), .val (.ref b_50), .val (.ref b_51), .val (.int v90), .val (.int z118_s0), .val (.long v157), .second, .val (.long v184), .second, .val (.long v211), .second, .val (.int z226_s0), .val (.int z246_s0), .unset, .unset, .unset, .unset] [(.int (lcmpW v14 v211))])) _
        refine XS.ifYes X112.here hx rfl (pc0 := 253) (pc' := 261) rfl (hb hby at_253) rfl ((if0 _ _).trans (flt (fun q => hc253 ((lw_gt v14 v211).mp q))).2.2.2) (by decide) (by decide) ?_
        show Steps p.tables e below (T112.setTop (mkF m 261 #[.val (.long q1), .second, .val (.long q2), .second, .val (.long q3), .second, .val (.int p4), .val (.int p5), .val (.int p6), .val (.long v3), .second, .val (.long v8), .second, .val (.long v14), .second, .val (.long v23), .second, .val (.long v32), .second, .val (.int v42), .val (.int v54), .val (.ref b48), .val (.ref b_50), .val (.ref b_51), .val (.int v90), .val (.int z118_s0), .val (.long v157), .second, .val (.long v184), .second, .val (.long v211), .second, .val (.int z226_s0), .val (.int z246_s0), .unset, .unset, .unset, .unset] [])) _
        refine XS.iconst X112.here hx rfl (hb hby at_261) ?_
        show Steps p.tables e below (T112.setTop (mkF m 262 #[.val (.long q1), .second, .val (.long q2), .second, .val (.long q3), .second, .val (.int p4), .val (.int p5), .val (.int p6), .val (.long v3), .second, .val (.long v8), .second, .val (.long v14), .second, .val (.long v23), .second, .val (.long v32), .second, .val (.int v42), .val (.int v54), .val (.ref b48), .val (.ref b_50), .val (.ref b_51), .val (.int v90), .val (.int z118_s0), .val (.long v157), .second, .val (.long v184), .second, .val (.long v211), .second, .val (.int z226_s0), .val (.int z246_s0), .unset, .unset, .unset, .unset] [(.int (1 : Int32))])) _
        refine XS.goto X112.here hx rfl (pc0 := 262) (pc' := 266) rfl (hb hby at_262) (by decide) (by decide) ?_
        exact k)
      have q_z266_s0 : z266_s0 = (1 : Int32) := by rw [hz266_s0, if_neg hc253]
      refine ⟨_, _, X112, e112, N112, fun t k => ?_⟩
      rw [q_z266_s0] at k
      exact pre117 t k
  obtain ⟨cq119, kq119, q119a, q119b, q119c⟩ := isOf hZ e118 E_b48
  obtain ⟨_, _, ⟨T119, L119, k119, n119⟩, -, X119, ⟨Lc119, hQ119, l119, y119, z119⟩, st119⟩ := X118.virtualBack hx (y := (⟨"com/example/regolo/regolo/engine/Work", "spent", "()Z"⟩ : MethodName)) (z := (⟨"com/example/regolo/regolo/engine/Work", "spent", "()Z"⟩ : MethodName)) hown (mvT hZ (hw _ (List.mem_of_getElem? (i := 27) rfl))) (mvT hZ (hw _ (List.mem_of_getElem? (i := 28) rfl))) (notFace_of_selects (args := #[]) (mvT hZ (hw _ (List.mem_of_getElem? (i := 30) rfl)))) (mvT hZ (hw _ (List.mem_of_getElem? (i := 30) rfl))) (mvT hZ (hw _ (List.mem_of_getElem? (i := 29) rfl))) (by decide) (backOf (W := 0) (rmT0 l Z a0 hw [] b48 ((v3 - v23) - v32) h83 n0 Zs F_left_b48 F_whole_b48) hZ (hw _ (List.mem_of_getElem? (i := 31) rfl)) (hw _ (List.mem_of_getElem? (i := 7) rfl)) (by decide) (by decide)) q119a q119c (g := (mkF m 270 #[.val (.long q1), .second, .val (.long q2), .second, .val (.long q3), .second, .val (.int p4), .val (.int p5), .val (.int p6), .val (.long v3), .second, .val (.long v8), .second, .val (.long v14), .second, .val (.long v23), .second, .val (.long v32), .second, .val (.int v42), .val (.int v54), .val (.ref b48), .val (.ref b_50), .val (.ref b_51), .val (.int v90), .val (.int z118_s0), .val (.long v157), .second, .val (.long v184), .second, .val (.long v211), .second, .val (.int z226_s0), .val (.int z246_s0), .val (.int z266_s0), .unset, .unset, .unset] [(.ref b48)])) rfl (by rw [hml]; rfl) (Steps.refl _) (argsL := []) (rest := []) (lenOf pd_2 rfl) rfl (by show 2 * 0 + _ ≤ _; exact Nat.le_of_eq rfl) (hb hby at_270) (fun _ _ => ⟨rfl, e118, (by decide : 3 + 0 ≤ _), (by decide : 6 + 0 ≤ _)⟩)
  dsimp only [Pt.U, Pt.locs, Pt.cells, Pt.slots] at X119 l119 y119 z119 st119 hQ119
  subst l119 y119 z119
  obtain ⟨rfl, N119q, e119⟩ := hQ119
  have N119 := Fr.app N118 N119q
  obtain ⟨v273, hv273⟩ : ∃ z : Int32, z = (fT0 ((v3 - v23) - v32)) := ⟨_, rfl⟩
  have pre120 : ∀ t, Steps p.tables e below (T119.setTop (mkF m 275 #[.val (.long q1), .second, .val (.long q2), .second, .val (.long q3), .second, .val (.int p4), .val (.int p5), .val (.int p6), .val (.long v3), .second, .val (.long v8), .second, .val (.long v14), .second, .val (.long v23), .second, .val (.long v32), .second, .val (.int v42), .val (.int v54), .val (.ref b48), .val (.ref b_50), .val (.ref b_51), .val (.int v90), .val (.int z118_s0), .val (.long v157), .second, .val (.long v184), .second, .val (.long v211), .second, .val (.int z226_s0), .val (.int z246_s0), .val (.int z266_s0), .val (.int v273), .unset, .unset] [])) t → Steps p.tables e below (s₁.setTop (entryFrame m #[(.long q1), (.long q2), (.long q3), (.int p4), (.int p5), (.int p6)] maxLocals)) t := fun t k => pre118 t (by
    show Steps p.tables e below (T118.setTop (mkF m 266 #[.val (.long q1), .second, .val (.long q2), .second, .val (.long q3), .second, .val (.int p4), .val (.int p5), .val (.int p6), .val (.long v3), .second, .val (.long v8), .second, .val (.long v14), .second, .val (.long v23), .second, .val (.long v32), .second, .val (.int v42), .val (.int v54), .val (.ref b48), .val (.ref b_50), .val (.ref b_51), .val (.int v90), .val (.int z118_s0), .val (.long v157), .second, .val (.long v184), .second, .val (.long v211), .second, .val (.int z226_s0), .val (.int z246_s0), .unset, .unset, .unset, .unset] [(.int z266_s0)])) _
    refine XS.istore X118.here hx rfl (hb hby at_266) rfl (l' := #[.val (.long q1), .second, .val (.long q2), .second, .val (.long q3), .second, .val (.int p4), .val (.int p5), .val (.int p6), .val (.long v3), .second, .val (.long v8), .second, .val (.long v14), .second, .val (.long v23), .second, .val (.long v32), .second, .val (.int v42), .val (.int v54), .val (.ref b48), .val (.ref b_50), .val (.ref b_51), .val (.int v90), .val (.int z118_s0), .val (.long v157), .second, .val (.long v184), .second, .val (.long v211), .second, .val (.int z226_s0), .val (.int z246_s0), .val (.int z266_s0), .unset, .unset, .unset]) rfl ?_
    show Steps p.tables e below (T118.setTop (mkF m 268 #[.val (.long q1), .second, .val (.long q2), .second, .val (.long q3), .second, .val (.int p4), .val (.int p5), .val (.int p6), .val (.long v3), .second, .val (.long v8), .second, .val (.long v14), .second, .val (.long v23), .second, .val (.long v32), .second, .val (.int v42), .val (.int v54), .val (.ref b48), .val (.ref b_50), .val (.ref b_51), .val (.int v90), .val (.int z118_s0), .val (.long v157), .second, .val (.long v184), .second, .val (.long v211), .second, .val (.int z226_s0), .val (.int z246_s0), .val (.int z266_s0), .unset, .unset, .unset] [])) _
    refine XS.aload X118.here hx rfl (hb hby at_268) rfl rfl ?_
    show Steps p.tables e below (T118.setTop (mkF m 270 #[.val (.long q1), .second, .val (.long q2), .second, .val (.long q3), .second, .val (.int p4), .val (.int p5), .val (.int p6), .val (.long v3), .second, .val (.long v8), .second, .val (.long v14), .second, .val (.long v23), .second, .val (.long v32), .second, .val (.int v42), .val (.int v54), .val (.ref b48), .val (.ref b_50), .val (.ref b_51), .val (.int v90), .val (.int z118_s0), .val (.long v157), .second, .val (.long v184), .second, .val (.long v211), .second, .val (.int z226_s0), .val (.int z246_s0), .val (.int z266_s0), .unset, .unset, .unset] [(.ref b48)])) _
    refine st119.trans ?_
    show Steps p.tables e below (T119.setTop (mkF m 273 #[.val (.long q1), .second, .val (.long q2), .second, .val (.long q3), .second, .val (.int p4), .val (.int p5), .val (.int p6), .val (.long v3), .second, .val (.long v8), .second, .val (.long v14), .second, .val (.long v23), .second, .val (.long v32), .second, .val (.int v42), .val (.int v54), .val (.ref b48), .val (.ref b_50), .val (.ref b_51), .val (.int v90), .val (.int z118_s0), .val (.long v157), .second, .val (.long v184), .second, .val (.long v211), .second, .val (.int z226_s0), .val (.int z246_s0), .val (.int z266_s0), .unset, .unset, .unset] [(.int (fT0 ((v3 - v23) - v32)))])) _
    refine XS.istore X119.here hx rfl (hb hby at_273) rfl (l' := #[.val (.long q1), .second, .val (.long q2), .second, .val (.long q3), .second, .val (.int p4), .val (.int p5), .val (.int p6), .val (.long v3), .second, .val (.long v8), .second, .val (.long v14), .second, .val (.long v23), .second, .val (.long v32), .second, .val (.int v42), .val (.int v54), .val (.ref b48), .val (.ref b_50), .val (.ref b_51), .val (.int v90), .val (.int z118_s0), .val (.long v157), .second, .val (.long v184), .second, .val (.long v211), .second, .val (.int z226_s0), .val (.int z246_s0), .val (.int z266_s0), .val (.int (fT0 ((v3 - v23) - v32))), .unset, .unset]) rfl ?_
    rw [hv273] at k
    exact k)
  obtain ⟨cq121, kq121, q121a, q121b, q121c⟩ := isOf hZ e119 E_b_50
  obtain ⟨_, _, ⟨T121, L121, k121, n121⟩, -, X121, ⟨Lc121, hQ121, l121, y121, z121⟩, st121⟩ := X119.virtualBack hx (y := (⟨"com/example/regolo/regolo/engine/Work", "spent", "()Z"⟩ : MethodName)) (z := (⟨"com/example/regolo/regolo/engine/Work", "spent", "()Z"⟩ : MethodName)) hown (mvT hZ (hw _ (List.mem_of_getElem? (i := 27) rfl))) (mvT hZ (hw _ (List.mem_of_getElem? (i := 28) rfl))) (notFace_of_selects (args := #[]) (mvT hZ (hw _ (List.mem_of_getElem? (i := 30) rfl)))) (mvT hZ (hw _ (List.mem_of_getElem? (i := 30) rfl))) (mvT hZ (hw _ (List.mem_of_getElem? (i := 29) rfl))) (by decide) (backOf (W := 0) (rmT1 l Z a0 hw [] b_50 z152_F_left_b_50 b48 ((v3 - v23) - v32) h83 n0 Zs F_left_b_50 F_whole_b_50 E_b48 F_left_b48 F_whole_b48) hZ (hw _ (List.mem_of_getElem? (i := 31) rfl)) (hw _ (List.mem_of_getElem? (i := 7) rfl)) (by decide) (by decide)) q121a q121c (g := (mkF m 277 #[.val (.long q1), .second, .val (.long q2), .second, .val (.long q3), .second, .val (.int p4), .val (.int p5), .val (.int p6), .val (.long v3), .second, .val (.long v8), .second, .val (.long v14), .second, .val (.long v23), .second, .val (.long v32), .second, .val (.int v42), .val (.int v54), .val (.ref b48), .val (.ref b_50), .val (.ref b_51), .val (.int v90), .val (.int z118_s0), .val (.long v157), .second, .val (.long v184), .second, .val (.long v211), .second, .val (.int z226_s0), .val (.int z246_s0), .val (.int z266_s0), .val (.int v273), .unset, .unset] [(.ref b_50)])) rfl (by rw [hml]; rfl) (Steps.refl _) (argsL := []) (rest := []) (lenOf pd_2 rfl) rfl (by show 2 * 0 + _ ≤ _; exact Nat.le_of_eq rfl) (hb hby at_277) (fun _ _ => ⟨rfl, e119, (by decide : 3 + 0 ≤ _), (by decide : 6 + 0 ≤ _)⟩)
  dsimp only [Pt.U, Pt.locs, Pt.cells, Pt.slots] at X121 l121 y121 z121 st121 hQ121
  subst l121 y121 z121
  obtain ⟨rfl, N121q, e121⟩ := hQ121
  have N121 := Fr.app N119 N121q
  obtain ⟨v280, hv280⟩ : ∃ z : Int32, z = (fT1 z152_F_left_b_50 ((v3 - v23) - v32)) := ⟨_, rfl⟩
  have pre122 : ∀ t, Steps p.tables e below (T121.setTop (mkF m 282 #[.val (.long q1), .second, .val (.long q2), .second, .val (.long q3), .second, .val (.int p4), .val (.int p5), .val (.int p6), .val (.long v3), .second, .val (.long v8), .second, .val (.long v14), .second, .val (.long v23), .second, .val (.long v32), .second, .val (.int v42), .val (.int v54), .val (.ref b48), .val (.ref b_50), .val (.ref b_51), .val (.int v90), .val (.int z118_s0), .val (.long v157), .second, .val (.long v184), .second, .val (.long v211), .second, .val (.int z226_s0), .val (.int z246_s0), .val (.int z266_s0), .val (.int v273), .val (.int v280), .unset] [])) t → Steps p.tables e below (s₁.setTop (entryFrame m #[(.long q1), (.long q2), (.long q3), (.int p4), (.int p5), (.int p6)] maxLocals)) t := fun t k => pre120 t (by
    show Steps p.tables e below (T119.setTop (mkF m 275 #[.val (.long q1), .second, .val (.long q2), .second, .val (.long q3), .second, .val (.int p4), .val (.int p5), .val (.int p6), .val (.long v3), .second, .val (.long v8), .second, .val (.long v14), .second, .val (.long v23), .second, .val (.long v32), .second, .val (.int v42), .val (.int v54), .val (.ref b48), .val (.ref b_50), .val (.ref b_51), .val (.int v90), .val (.int z118_s0), .val (.long v157), .second, .val (.long v184), .second, .val (.long v211), .second, .val (.int z226_s0), .val (.int z246_s0), .val (.int z266_s0), .val (.int v273), .unset, .unset] [])) _
    refine XS.aload X119.here hx rfl (hb hby at_275) rfl rfl ?_
    show Steps p.tables e below (T119.setTop (mkF m 277 #[.val (.long q1), .second, .val (.long q2), .second, .val (.long q3), .second, .val (.int p4), .val (.int p5), .val (.int p6), .val (.long v3), .second, .val (.long v8), .second, .val (.long v14), .second, .val (.long v23), .second, .val (.long v32), .second, .val (.int v42), .val (.int v54), .val (.ref b48), .val (.ref b_50), .val (.ref b_51), .val (.int v90), .val (.int z118_s0), .val (.long v157), .second, .val (.long v184), .second, .val (.long v211), .second, .val (.int z226_s0), .val (.int z246_s0), .val (.int z266_s0), .val (.int v273), .unset, .unset] [(.ref b_50)])) _
    refine st121.trans ?_
    show Steps p.tables e below (T121.setTop (mkF m 280 #[.val (.long q1), .second, .val (.long q2), .second, .val (.long q3), .second, .val (.int p4), .val (.int p5), .val (.int p6), .val (.long v3), .second, .val (.long v8), .second, .val (.long v14), .second, .val (.long v23), .second, .val (.long v32), .second, .val (.int v42), .val (.int v54), .val (.ref b48), .val (.ref b_50), .val (.ref b_51), .val (.int v90), .val (.int z118_s0), .val (.long v157), .second, .val (.long v184), .second, .val (.long v211), .second, .val (.int z226_s0), .val (.int z246_s0), .val (.int z266_s0), .val (.int v273), .unset, .unset] [(.int (fT1 z152_F_left_b_50 ((v3 - v23) - v32)))])) _
    refine XS.istore X121.here hx rfl (hb hby at_280) rfl (l' := #[.val (.long q1), .second, .val (.long q2), .second, .val (.long q3), .second, .val (.int p4), .val (.int p5), .val (.int p6), .val (.long v3), .second, .val (.long v8), .second, .val (.long v14), .second, .val (.long v23), .second, .val (.long v32), .second, .val (.int v42), .val (.int v54), .val (.ref b48), .val (.ref b_50), .val (.ref b_51), .val (.int v90), .val (.int z118_s0), .val (.long v157), .second, .val (.long v184), .second, .val (.long v211), .second, .val (.int z226_s0), .val (.int z246_s0), .val (.int z266_s0), .val (.int v273), .val (.int (fT1 z152_F_left_b_50 ((v3 - v23) - v32))), .unset]) rfl ?_
    rw [hv280] at k
    exact k)
  obtain ⟨cq123, kq123, q123a, q123b, q123c⟩ := isOf hZ e121 E_b_51
  obtain ⟨_, _, ⟨T123, L123, k123, n123⟩, -, X123, ⟨Lc123, hQ123, l123, y123, z123⟩, st123⟩ := X121.virtualBack hx (y := (⟨"com/example/regolo/regolo/engine/Work", "spent", "()Z"⟩ : MethodName)) (z := (⟨"com/example/regolo/regolo/engine/Work", "spent", "()Z"⟩ : MethodName)) hown (mvT hZ (hw _ (List.mem_of_getElem? (i := 27) rfl))) (mvT hZ (hw _ (List.mem_of_getElem? (i := 28) rfl))) (notFace_of_selects (args := #[]) (mvT hZ (hw _ (List.mem_of_getElem? (i := 30) rfl)))) (mvT hZ (hw _ (List.mem_of_getElem? (i := 30) rfl))) (mvT hZ (hw _ (List.mem_of_getElem? (i := 29) rfl))) (by decide) (backOf (W := 0) (rmT2 l Z a0 hw [] b_51 z152_F_left_b_51 b_50 z152_F_left_b_50 b48 ((v3 - v23) - v32) h83 n0 Zs F_left_b_51 F_whole_b_51 E_b_50 F_left_b_50 F_whole_b_50 E_b48 F_left_b48 F_whole_b48) hZ (hw _ (List.mem_of_getElem? (i := 31) rfl)) (hw _ (List.mem_of_getElem? (i := 7) rfl)) (by decide) (by decide)) q123a q123c (g := (mkF m 284 #[.val (.long q1), .second, .val (.long q2), .second, .val (.long q3), .second, .val (.int p4), .val (.int p5), .val (.int p6), .val (.long v3), .second, .val (.long v8), .second, .val (.long v14), .second, .val (.long v23), .second, .val (.long v32), .second, .val (.int v42), .val (.int v54), .val (.ref b48), .val (.ref b_50), .val (.ref b_51), .val (.int v90), .val (.int z118_s0), .val (.long v157), .second, .val (.long v184), .second, .val (.long v211), .second, .val (.int z226_s0), .val (.int z246_s0), .val (.int z266_s0), .val (.int v273), .val (.int v280), .unset] [(.ref b_51)])) rfl (by rw [hml]; rfl) (Steps.refl _) (argsL := []) (rest := []) (lenOf pd_2 rfl) rfl (by show 2 * 0 + _ ≤ _; exact Nat.le_of_eq rfl) (hb hby at_284) (fun _ _ => ⟨rfl, e121, (by decide : 3 + 0 ≤ _), (by decide : 6 + 0 ≤ _)⟩)
  dsimp only [Pt.U, Pt.locs, Pt.cells, Pt.slots] at X123 l123 y123 z123 st123 hQ123
  subst l123 y123 z123
  obtain ⟨rfl, N123q, e123⟩ := hQ123
  have N123 := Fr.app N121 N123q
  obtain ⟨v287, hv287⟩ : ∃ z : Int32, z = (fT2 z152_F_left_b_51 z152_F_left_b_50 ((v3 - v23) - v32)) := ⟨_, rfl⟩
  have pre124 : ∀ t, Steps p.tables e below (T123.setTop (mkF m 289 #[.val (.long q1), .second, .val (.long q2), .second, .val (.long q3), .second, .val (.int p4), .val (.int p5), .val (.int p6), .val (.long v3), .second, .val (.long v8), .second, .val (.long v14), .second, .val (.long v23), .second, .val (.long v32), .second, .val (.int v42), .val (.int v54), .val (.ref b48), .val (.ref b_50), .val (.ref b_51), .val (.int v90), .val (.int z118_s0), .val (.long v157), .second, .val (.long v184), .second, .val (.long v211), .second, .val (.int z226_s0), .val (.int z246_s0), .val (.int z266_s0), .val (.int v273), .val (.int v280), .val (.int v287)] [])) t → Steps p.tables e below (s₁.setTop (entryFrame m #[(.long q1), (.long q2), (.long q3), (.int p4), (.int p5), (.int p6)] maxLocals)) t := fun t k => pre122 t (by
    show Steps p.tables e below (T121.setTop (mkF m 282 #[.val (.long q1), .second, .val (.long q2), .second, .val (.long q3), .second, .val (.int p4), .val (.int p5), .val (.int p6), .val (.long v3), .second, .val (.long v8), .second, .val (.long v14), .second, .val (.long v23), .second, .val (.long v32), .second, .val (.int v42), .val (.int v54), .val (.ref b48), .val (.ref b_50), .val (.ref b_51), .val (.int v90), .val (.int z118_s0), .val (.long v157), .second, .val (.long v184), .second, .val (.long v211), .second, .val (.int z226_s0), .val (.int z246_s0), .val (.int z266_s0), .val (.int v273), .val (.int v280), .unset] [])) _
    refine XS.aload X121.here hx rfl (hb hby at_282) rfl rfl ?_
    show Steps p.tables e below (T121.setTop (mkF m 284 #[.val (.long q1), .second, .val (.long q2), .second, .val (.long q3), .second, .val (.int p4), .val (.int p5), .val (.int p6), .val (.long v3), .second, .val (.long v8), .second, .val (.long v14), .second, .val (.long v23), .second, .val (.long v32), .second, .val (.int v42), .val (.int v54), .val (.ref b48), .val (.ref b_50), .val (.ref b_51), .val (.int v90), .val (.int z118_s0), .val (.long v157), .second, .val (.long v184), .second, .val (.long v211), .second, .val (.int z226_s0), .val (.int z246_s0), .val (.int z266_s0), .val (.int v273), .val (.int v280), .unset] [(.ref b_51)])) _
    refine st123.trans ?_
    show Steps p.tables e below (T123.setTop (mkF m 287 #[.val (.long q1), .second, .val (.long q2), .second, .val (.long q3), .second, .val (.int p4), .val (.int p5), .val (.int p6), .val (.long v3), .second, .val (.long v8), .second, .val (.long v14), .second, .val (.long v23), .second, .val (.long v32), .second, .val (.int v42), .val (.int v54), .val (.ref b48), .val (.ref b_50), .val (.ref b_51), .val (.int v90), .val (.int z118_s0), .val (.long v157), .second, .val (.long v184), .second, .val (.long v211), .second, .val (.int z226_s0), .val (.int z246_s0), .val (.int z266_s0), .val (.int v273), .val (.int v280), .unset] [(.int (fT2 z152_F_left_b_51 z152_F_left_b_50 ((v3 - v23) - v32)))])) _
    refine XS.istore X123.here hx rfl (hb hby at_287) rfl (l' := #[.val (.long q1), .second, .val (.long q2), .second, .val (.long q3), .second, .val (.int p4), .val (.int p5), .val (.int p6), .val (.long v3), .second, .val (.long v8), .second, .val (.long v14), .second, .val (.long v23), .second, .val (.long v32), .second, .val (.int v42), .val (.int v54), .val (.ref b48), .val (.ref b_50), .val (.ref b_51), .val (.int v90), .val (.int z118_s0), .val (.long v157), .second, .val (.long v184), .second, .val (.long v211), .second, .val (.int z226_s0), .val (.int z246_s0), .val (.int z266_s0), .val (.int v273), .val (.int v280), .val (.int (fT2 z152_F_left_b_51 z152_F_left_b_50 ((v3 - v23) - v32)))]) rfl ?_
    rw [hv287] at k
    exact k)
  have pre125 : ∀ t, Steps p.tables e below (T123.setTop (mkF m 293 #[.val (.long q1), .second, .val (.long q2), .second, .val (.long q3), .second, .val (.int p4), .val (.int p5), .val (.int p6), .val (.long v3), .second, .val (.long v8), .second, .val (.long v14), .second, .val (.long v23), .second, .val (.long v32), .second, .val (.int v42), .val (.int v54), .val (.ref b48), .val (.ref b_50), .val (.ref b_51), .val (.int v90), .val (.int z118_s0), .val (.long v157), .second, .val (.long v184), .second, .val (.long v211), .second, .val (.int z226_s0), .val (.int z246_s0), .val (.int z266_s0), .val (.int v273), .val (.int v280), .val (.int v287)] [(.int z118_s0), (.int v90)])) t → Steps p.tables e below (s₁.setTop (entryFrame m #[(.long q1), (.long q2), (.long q3), (.int p4), (.int p5), (.int p6)] maxLocals)) t := fun t k => pre124 t (by
    show Steps p.tables e below (T123.setTop (mkF m 289 #[.val (.long q1), .second, .val (.long q2), .second, .val (.long q3), .second, .val (.int p4), .val (.int p5), .val (.int p6), .val (.long v3), .second, .val (.long v8), .second, .val (.long v14), .second, .val (.long v23), .second, .val (.long v32), .second, .val (.int v42), .val (.int v54), .val (.ref b48), .val (.ref b_50), .val (.ref b_51), .val (.int v90), .val (.int z118_s0), .val (.long v157), .second, .val (.long v184), .second, .val (.long v211), .second, .val (.int z226_s0), .val (.int z246_s0), .val (.int z266_s0), .val (.int v273), .val (.int v280), .val (.int v287)] [])) _
    refine XS.iload X123.here hx rfl (hb hby at_289) rfl ?_
    show Steps p.tables e below (T123.setTop (mkF m 291 #[.val (.long q1), .second, .val (.long q2), .second, .val (.long q3), .second, .val (.int p4), .val (.int p5), .val (.int p6), .val (.long v3), .second, .val (.long v8), .second, .val (.long v14), .second, .val (.long v23), .second, .val (.long v32), .second, .val (.int v42), .val (.int v54), .val (.ref b48), .val (.ref b_50), .val (.ref b_51), .val (.int v90), .val (.int z118_s0), .val (.long v157), .second, .val (.long v184), .second, .val (.long v211), .second, .val (.int z226_s0), .val (.int z246_s0), .val (.int z266_s0), .val (.int v273), .val (.int v280), .val (.int v287)] [(.int v90)])) _
    refine XS.iload X123.here hx rfl (hb hby at_291) rfl ?_
    exact k)
  obtain ⟨z322_s0, hz322_s0⟩ : ∃ z : Int32, z = (if v90 = z118_s0 then (if v273 = z226_s0 then (if v280 = z246_s0 then (if v287 = z266_s0 then (1 : Int32) else (0 : Int32)) else (0 : Int32)) else (0 : Int32)) else (0 : Int32)) := ⟨_, rfl⟩
  obtain ⟨T134, Lc134, X134, e134, N134, pre134⟩ : ∃ (T' : State) (locs' : List Loc), Stand p l e room_1 s m #[(.long q1), (.long q2), (.long q3), (.int p4), (.int p5), (.int p6)] below meth c T' locs' 3 6 ∧ T'.heap = h83 ∧ Fr n0 locs' ∧ ∀ t, Steps p.tables e below (T'.setTop (mkF m 322 #[.val (.long q1), .second, .val (.long q2), .second, .val (.long q3), .second, .val (.int p4), .val (.int p5), .val (.int p6), .val (.long v3), .second, .val (.long v8), .second, .val (.long v14), .second, .val (.long v23), .second, .val (.long v32), .second, .val (.int v42), .val (.int v54), .val (.ref b48), .val (.ref b_50), .val (.ref b_51), .val (.int v90), .val (.int z118_s0), .val (.long v157), .second, .val (.long v184), .second, .val (.long v211), .second, .val (.int z226_s0), .val (.int z246_s0), .val (.int z266_s0), .val (.int v273), .val (.int v280), .val (.int v287)] [(.int z322_s0)])) t → Steps p.tables e below (s₁.setTop (entryFrame m #[(.long q1), (.long q2), (.long q3), (.int p4), (.int p5), (.int p6)] maxLocals)) t := by
    by_cases hc293 : v90 = z118_s0
    ·
      have pre126 : ∀ t, Steps p.tables e below (T123.setTop (mkF m 300 #[.val (.long q1), .second, .val (.long q2), .second, .val (.long q3), .second, .val (.int p4), .val (.int p5), .val (.int p6), .val (.long v3), .second, .val (.long v8), .second, .val (.long v14), .second, .val (.long v23), .second, .val (.long v32), .second, .val (.int v42), .val (.int v54), .val (.ref b48), .val (.ref b_50), .val (.ref b_51), .val (.int v90), .val (.int z118_s0), .val (.long v157), .second, .val (.long v184), .second, .val (.long v211), .second, .val (.int z226_s0), .val (.int z246_s0), .val (.int z266_s0), .val (.int v273), .val (.int v280), .val (.int v287)] [(.int z226_s0), (.int v273)])) t → Steps p.tables e below (s₁.setTop (entryFrame m #[(.long q1), (.long q2), (.long q3), (.int p4), (.int p5), (.int p6)] maxLocals)) t := fun t k => pre125 t (by
        show Steps p.tables e below (T123.setTop (mkF m 293 #[.val (.long q1), .second, .val (.long q2), .second, .val (.long q3), .second, .val (.int p4), .val (.int p5), .val (.int p6), .val (.long v3), .second, .val (.long v8), .second, .val (.long v14), .second, .val (.long v23), .second, .val (.long v32), .second, .val (.int v42), .val (.int v54), .val (.ref b48), .val (.ref b_50), .val (.ref b_51), .val (.int v90), .val (.int z118_s0), .val (.long v157), .second, .val (.long v184), .second, .val (.long v211), .second, .val (.int z226_s0), .val (.int z246_s0), .val (.int z266_s0), .val (.int v273), .val (.int v280), .val (.int v287)] [(.int z118_s0), (.int v90)])) _
        refine XS.icmpNo X123.here hx rfl (hb hby at_293) rfl (teq hc293).2 ?_
        show Steps p.tables e below (T123.setTop (mkF m 296 #[.val (.long q1), .second, .val (.long q2), .second, .val (.long q3), .second, .val (.int p4), .val (.int p5), .val (.int p6), .val (.long v3), .second, .val (.long v8), .second, .val (.long v14), .second, .val (.long v23), .second, .val (.long v32), .second, .val (.int v42), .val (.int v54), .val (.ref b48), .val (.ref b_50), .val (.ref b_51), .val (.int v90), .val (.int z118_s0), .val (.long v157), .second, .val (.long v184), .second, .val (.long v211), .second, .val (.int z226_s0), .val (.int z246_s0), .val (.int z266_s0), .val (.int v273), .val (.int v280), .val (.int v287)] [])) _
        refine XS.iload X123.here hx rfl (hb hby at_296) rfl ?_
        show Steps p.tables e below (T123.setTop (mkF m 298 #[.val (.long q1), .second, .val (.long q2), .second, .val (.long q3), .second, .val (.int p4), .val (.int p5), .val (.int p6), .val (.long v3), .second, .val (.long v8), .second, .val (.long v14), .second, .val (.long v23), .second, .val (.long v32), .second, .val (.int v42), .val (.int v54), .val (.ref b48), .val (.ref b_50), .val (.ref b_51), .val (.int v90), .val (.int z118_s0), .val (.long v157), .second, .val (.long v184), .second, .val (.long v211), .second, .val (.int z226_s0), .val (.int z246_s0), .val (.int z266_s0), .val (.int v273), .val (.int v280), .val (.int v287)] [(.int v273)])) _
        refine XS.iload X123.here hx rfl (hb hby at_298) rfl ?_
        exact k)
      by_cases hc300 : v273 = z226_s0
      ·
        have pre127 : ∀ t, Steps p.tables e below (T123.setTop (mkF m 307 #[.val (.long q1), .second, .val (.long q2), .second, .val (.long q3), .second, .val (.int p4), .val (.int p5), .val (.int p6), .val (.long v3), .second, .val (.long v8), .second, .val (.long v14), .second, .val (.long v23), .second, .val (.long v32), .second, .val (.int v42), .val (.int v54), .val (.ref b48), .val (.ref b_50), .val (.ref b_51), .val (.int v90), .val (.int z118_s0), .val (.long v157), .second, .val (.long v184), .second, .val (.long v211), .second, .val (.int z226_s0), .val (.int z246_s0), .val (.int z266_s0), .val (.int v273), .val (.int v280), .val (.int v287)] [(.int z246_s0), (.int v280)])) t → Steps p.tables e below (s₁.setTop (entryFrame m #[(.long q1), (.long q2), (.long q3), (.int p4), (.int p5), (.int p6)] maxLocals)) t := fun t k => pre126 t (by
          show Steps p.tables e below (T123.setTop (mkF m 300 #[.val (.long q1), .second, .val (.long q2), .second, .val (.long q3), .second, .val (.int p4), .val (.int p5), .val (.int p6), .val (.long v3), .second, .val (.long v8), .second, .val (.long v14), .second, .val (.long v23), .second, .val (.long v32), .second, .val (.int v42), .val (.int v54), .val (.ref b48), .val (.ref b_50), .val (.ref b_51), .val (.int v90), .val (.int z118_s0), .val (.long v157), .second, .val (.long v184), .second, .val (.long v211), .second, .val (.int z226_s0), .val (.int z246_s0), .val (.int z266_s0), .val (.int v273), .val (.int v280), .val (.int v287)] [(.int z226_s0), (.int v273)])) _
          refine XS.icmpNo X123.here hx rfl (hb hby at_300) rfl (teq hc300).2 ?_
          show Steps p.tables e below (T123.setTop (mkF m 303 #[.val (.long q1), .second, .val (.long q2), .second, .val (.long q3), .second, .val (.int p4), .val (.int p5), .val (.int p6), .val (.long v3), .second, .val (.long v8), .second, .val (.long v14), .second, .val (.long v23), .second, .val (.long v32), .second, .val (.int v42), .val (.int v54), .val (.ref b48), .val (.ref b_50), .val (.ref b_51), .val (.int v90), .val (.int z118_s0), .val (.long v157), .second, .val (.long v184), .second, .val (.long v211), .second, .val (.int z226_s0), .val (.int z246_s0), .val (.int z266_s0), .val (.int v273), .val (.int v280), .val (.int v287)] [])) _
          refine XS.iload X123.here hx rfl (hb hby at_303) rfl ?_
          show Steps p.tables e below (T123.setTop (mkF m 305 #[.val (.long q1), .second, .val (.long q2), .second, .val (.long q3), .second, .val (.int p4), .val (.int p5), .val (.int p6), .val (.long v3), .second, .val (.long v8), .second, .val (.long v14), .second, .val (.long v23), .second, .val (.long v32), .second, .val (.int v42), .val (.int v54), .val (.ref b48), .val (.ref b_50), .val (.ref b_51), .val (.int v90), .val (.int z118_s0), .val (.long v157), .second, .val (.long v184), .second, .val (.long v211), .second, .val (.int z226_s0), .val (.int z246_s0), .val (.int z266_s0), .val (.int v273), .val (.int v280), .val (.int v287)] [(.int v280)])) _
          refine XS.iload X123.here hx rfl (hb hby at_305) rfl ?_
          exact k)
        by_cases hc307 : v280 = z246_s0
        ·
          have pre128 : ∀ t, Steps p.tables e below (T123.setTop (mkF m 314 #[.val (.long q1), .second, .val (.long q2), .second, .val (.long q3), .second, .val (.int p4), .val (.int p5), .val (.int p6), .val (.long v3), .second, .val (.long v8), .second, .val (.long v14), .second, .val (.long v23), .second, .val (.long v32), .second, .val (.int v42), .val (.int v54), .val (.ref b48), .val (.ref b_50), .val (.ref b_51), .val (.int v90), .val (.int z118_s0), .val (.long v157), .second, .val (.long v184), .second, .val (.long v211), .second, .val (.int z226_s0), .val (.int z246_s0), .val (.int z266_s0), .val (.int v273), .val (.int v280), .val (.int v287)] [(.int z266_s0), (.int v287)])) t → Steps p.tables e below (s₁.setTop (entryFrame m #[(.long q1), (.long q2), (.long q3), (.int p4), (.int p5), (.int p6)] maxLocals)) t := fun t k => pre127 t (by
            show Steps p.tables e below (T123.setTop (mkF m 307 #[.val (.long q1), .second, .val (.long q2), .second, .val (.long q3), .second, .val (.int p4), .val (.int p5), .val (.int p6), .val (.long v3), .second, .val (.long v8), .second, .val (.long v14), .second, .val (.long v23), .second, .val (.long v32), .second, .val (.int v42), .val (.int v54), .val (.ref b48), .val (.ref b_50), .val (.ref b_51), .val (.int v90), .val (.int z118_s0), .val (.long v157), .second, .val (.long v184), .second, .val (.long v211), .second, .val (.int z226_s0), .val (.int z246_s0), .val (.int z266_s0), .val (.int v273), .val (.int v280), .val (.int v287)] [(.int z246_s0), (.int v280)])) _
            refine XS.icmpNo X123.here hx rfl (hb hby at_307) rfl (teq hc307).2 ?_
            show Steps p.tables e below (T123.setTop (mkF m 310 #[.val (.long q1), .second, .val (.long q2), .second, .val (.long q3), .second, .val (.int p4), .val (.int p5), .val (.int p6), .val (.long v3), .second, .val (.long v8), .second, .val (.long v14), .second, .val (.long v23), .second, .val (.long v32), .second, .val (.int v42), .val (.int v54), .val (.ref b48), .val (.ref b_50), .val (.ref b_51), .val (.int v90), .val (.int z118_s0), .val (.long v157), .second, .val (.long v184), .second, .val (.long v211), .second, .val (.int z226_s0), .val (.int z246_s0), .val (.int z266_s0), .val (.int v273), .val (.int v280), .val (.int v287)] [])) _
            refine XS.iload X123.here hx rfl (hb hby at_310) rfl ?_
            show Steps p.tables e below (T123.setTop (mkF m 312 #[.val (.long q1), .second, .val (.long q2), .second, .val (.long q3), .second, .val (.int p4), .val (.int p5), .val (.int p6), .val (.long v3), .second, .val (.long v8), .second, .val (.long v14), .second, .val (.long v23), .second, .val (.long v32), .second, .val (.int v42), .val (.int v54), .val (.ref b48), .val (.ref b_50), .val (.ref b_51), .val (.int v90), .val (.int z118_s0), .val (.long v157), .second, .val (.long v184), .second, .val (.long v211), .second, .val (.int z226_s0), .val (.int z246_s0), .val (.int z266_s0), .val (.int v273), .val (.int v280), .val (.int v287)] [(.int v287)])) _
            refine XS.iload X123.here hx rfl (hb hby at_312) rfl ?_
            exact k)
          by_cases hc314 : v287 = z266_s0
          ·
            have pre129 : ∀ t, Steps p.tables e below (T123.setTop (mkF m 322 #[.val (.long q1), .second, .val (.long q2), .second, .val (.long q3), .second, .val (.int p4), .val (.int p5), .val (.int p6), .val (.long v3), .second, .val (.long v8), .second, .val (.long v14), .second, .val (.long v23), .second, .val (.long v32), .second, .val (.int v42), .val (.int v54), .val (.ref b48), .val (.ref b_50), .val (.ref b_51), .val (.int v90), .val (.int z118_s0), .val (.long v157), .second, .val (.long v184), .second, .val (.long v211), .second, .val (.int z226_s0), .val (.int z246_s0), .val (.int z266_s0), .val (.int v273), .val (.int v280), .val (.int v287)] [(.int (1 : Int32))])) t → Steps p.tables e below (s₁.setTop (entryFrame m #[(.long q1), (.long q2), (.long q3), (.int p4), (.int p5), (.int p6)] maxLocals)) t := fun t k => pre128 t (by
              show Steps p.tables e below (T123.setTop (mkF m 314 #[.val (.long q1), .second, .val (.long q2), .second, .val (.long q3), .second, .val (.int p4), .val (.int p5), .val (.int p6), .val (.long v3), .second, .val (.long v8), .second, .val (.long v14), .second, .val (.long v23), .second, .val (.long v32), .second, .val (.int v42), .val (.int v54), .val (.ref b48), .val (.ref b_50), .val (.ref b_51), .val (.int v90), .val (.int z118_s0), .val (.long v157), .second, .val (.long v184), .second, .val (.long v211), .second, .val (.int z226_s0), .val (.int z246_s0), .val (.int z266_s0), .val (.int v273), .val (.int v280), .val (.int v287)] [(.int z266_s0), (.int v287)])) _
              refine XS.icmpNo X123.here hx rfl (hb hby at_314) rfl (teq hc314).2 ?_
              show Steps p.tables e below (T123.setTop (mkF m 317 #[.val (.long q1), .second, .val (.long q2), .second, .val (.long q3), .second, .val (.int p4), .val (.int p5), .val (.int p6), .val (.long v3), .second, .val (.long v8), .second, .val (.long v14), .second, .val (.long v23), .second, .val (.long v32), .second, .val (.int v42), .val (.int v54), .val (.ref b48), .val (.ref b_50), .val (.ref b_51), .val (.int v90), .val (.int z118_s0), .val (.long v157), .second, .val (.long v184), .second, .val (.long v211), .second, .val (.int z226_s0), .val (.int z246_s0), .val (.int z266_s0), .val (.int v273), .val (.int v280), .val (.int v287)] [])) _
              refine XS.iconst X123.here hx rfl (hb hby at_317) ?_
              show Steps p.tables e below (T123.setTop (mkF m 318 #[.val (.long q1), .second, .val (.long q2), .second, .val (.long q3), .second, .val (.int p4), .val (.int p5), .val (.int p6), .val (.long v3), .second, .val (.long v8), .second, .val (.long v14), .second, .val (.long v23), .second, .val (.long v32), .second, .val (.int v42), .val (.int v54), .val (.ref b48), .val (.ref b_50), .val (.ref b_51), .val (.int v90), .val (.int z118_s0), .val (.long v157), .second, .val (.long v184), .second, .val (.long v211), .second, .val (.int z226_s0), .val (.int z246_s0), .val (.int z266_s0), .val (.int v273), .val (.int v280), .val (.int v287)] [(.int (1 : Int32))])) _
              refine XS.goto X123.here hx rfl (pc0 := 318) (pc' := 322) rfl (hb hby at_318) (by decide) (by decide) ?_
              exact k)
            have q_z322_s0 : z322_s0 = (1 : Int32) := by rw [hz322_s0, if_pos hc293, if_pos hc300, if_pos hc307, if_pos hc314]
            refine ⟨_, _, X123, e123, N123, fun t k => ?_⟩
            rw [q_z322_s0] at k
            exact pre129 t k
          ·
            have pre130 : ∀ t, Steps p.tables e below (T123.setTop (mkF m 322 #[.val (.long q1), .second, .val (.long q2), .second, .val (.long q3), .second, .val (.int p4), .val (.int p5), .val (.int p6), .val (.long v3), .second, .val (.long v8), .second, .val (.long v14), .second, .val (.long v23), .second, .val (.long v32), .second, .val (.int v42), .val (.int v54), .val (.ref b48), .val (.ref b_50), .val (.ref b_51), .val (.int v90), .val (.int z118_s0), .val (.long v157), .second, .val (.long v184), .second, .val (.long v211), .second, .val (.int z226_s0), .val (.int z246_s0), .val (.int z266_s0), .val (.int v273), .val (.int v280), .val (.int v287)] [(.int (0 : Int32))])) t → Steps p.tables e below (s₁.setTop (entryFrame m #[(.long q1), (.long q2), (.long q3), (.int p4), (.int p5), (.int p6)] maxLocals)) t := fun t k => pre128 t (by
              show Steps p.tables e below (T123.setTop (mkF m 314 #[.val (.long q1), .second, .val (.long q2), .second, .val (.long q3), .second, .val (.int p4), .val (.int p5), .val (.int p6), .val (.long v3), .second, .val (.long v8), .second, .val (.long v14), .second, .val (.long v23), .second, .val (.long v32), .second, .val (.int v42), .val (.int v54), .val (.ref b48), .val (.ref b_50), .val (.ref b_51), .val (.int v90), .val (.int z118_s0), .val (.long v157), .second, .val (.long v184), .second, .val (.long v211), .second, .val (.int z226_s0), .val (.int z246_s0), .val (.int z266_s0), .val (.int v273), .val (.int v280), .val (.int v287)] [(.int z266_s0), (.int v287)])) _
              refine XS.icmpYes X123.here hx rfl (pc0 := 314) (pc' := 321) rfl (hb hby at_314) rfl (feq hc314).2 (by decide) (by decide) ?_
              show Steps p.tables e below (T123.setTop (mkF m 321 #[.val (.long q1), .second, .val (.long q2), .second, .val (.long q3), .second, .val (.int p4), .val (.int p5), .val (.int p6), .val (.long v3), .second, .val (.long v8), .second, .val (.long v14), .second, .val (.long v23), .second, .val (.long v32), .second, .val (.int v42), .val (.int v54), .val (.ref b48), .val (.ref b_50), .val (.ref b_51), .val (.int v90), .val (.int z118_s0), .val (.long v157), .second, .val (.long v184), .second, .val (.long v211), .second, .val (.int z226_s0), .val (.int z246_s0), .val (.int z266_s0), .val (.int v273), .val (.int v280), .val (.int v287)] [])) _
              refine XS.iconst X123.here hx rfl (hb hby at_321) ?_
              exact k)
            have q_z322_s0 : z322_s0 = (0 : Int32) := by rw [hz322_s0, if_pos hc293, if_pos hc300, if_pos hc307, if_neg hc314]
            refine ⟨_, _, X123, e123, N123, fun t k => ?_⟩
            rw [q_z322_s0] at k
            exact pre130 t k
        ·
          have pre131 : ∀ t, Steps p.tables e below (T123.setTop (mkF m 322 #[.val (.long q1), .second, .val (.long q2), .second, .val (.long q3), .second, .val (.int p4), .val (.int p5), .val (.int p6), .val (.long v3), .second, .val (.long v8), .second, .val (.long v14), .second, .val (.long v23), .second, .val (.long v32), .second, .val (.int v42), .val (.int v54), .val (.ref b48), .val (.ref b_50), .val (.ref b_51), .val (.int v90), .val (.int z118_s0), .val (.long v157), .second, .val (.long v184), .second, .val (.long v211), .second, .val (.int z226_s0), .val (.int z246_s0), .val (.int z266_s0), .val (.int v273), .val (.int v280), .val (.int v287)] [(.int (0 : Int32))])) t → Steps p.tables e below (s₁.setTop (entryFrame m #[(.long q1), (.long q2), (.long q3), (.int p4), (.int p5), (.int p6)] maxLocals)) t := fun t k => pre127 t (by
            show Steps p.tables e below (T123.setTop (mkF m 307 #[.val (.long q1), .second, .val (.long q2), .second, .val (.long q3), .second, .val (.int p4), .val (.int p5), .val (.int p6), .val (.long v3), .second, .val (.long v8), .second, .val (.long v14), .second, .val (.long v23), .second, .val (.long v32), .second, .val (.int v42), .val (.int v54), .val (.ref b48), .val (.ref b_50), .val (.ref b_51), .val (.int v90), .val (.int z118_s0), .val (.long v157), .second, .val (.long v184), .second, .val (.long v211), .second, .val (.int z226_s0), .val (.int z246_s0), .val (.int z266_s0), .val (.int v273), .val (.int v280), .val (.int v287)] [(.int z246_s0), (.int v280)])) _
            refine XS.icmpYes X123.here hx rfl (pc0 := 307) (pc' := 321) rfl (hb hby at_307) rfl (feq hc307).2 (by decide) (by decide) ?_
            show Steps p.tables e below (T123.setTop (mkF m 321 #[.val (.long q1), .second, .val (.long q2), .second, .val (.long q3), .second, .val (.int p4), .val (.int p5), .val (.int p6), .val (.long v3), .second, .val (.long v8), .second, .val (.long v14), .second, .val (.long v23), .second, .val (.long v32), .second, .val (.int v42), .val (.int v54), .val (.ref b48), .val (.ref b_50), .val (.ref b_51), .val (.int v90), .val (.int z118_s0), .val (.long v157), .second, .val (.long v184), .second, .val (.long v211), .second, .val (.int z226_s0), .val (.int z246_s0), .val (.int z266_s0), .val (.int v273), .val (.int v280), .val (.int v287)] [])) _
            refine XS.iconst X123.here hx rfl (hb hby at_321) ?_
            exact k)
          have q_z322_s0 : z322_s0 = (0 : Int32) := by rw [hz322_s0, if_pos hc293, if_pos hc300, if_neg hc307]
          refine ⟨_, _, X123, e123, N123, fun t k => ?_⟩
          rw [q_z322_s0] at k
          exact pre131 t k
      ·
        have pre132 : ∀ t, Steps p.tables e below (T123.setTop (mkF m 322 #[.val (.long q1), .second, .val (.long q2), .second, .val (.long q3), .second, .val (.int p4), .val (.int p5), .val (.int p6), .val (.long v3), .second, .val (.long v8), .second, .val (.long v14), .second, .val (.long v23), .second, .val (.long v32), .second, .val (.int v42), .val (.int v54), .val (.ref b48), .val (.ref b_50), .val (.ref b_51), .val (.int v90), .val (.int z118_s0), .val (.long v157), .second, .val (.long v184), .second, .val (.long v211), .second, .val (.int z226_s0), .val (.int z246_s0), .val (.int z266_s0), .val (.int v273), .val (.int v280), .val (.int v287)] [(.int (0 : Int32))])) t → Steps p.tables e below (s₁.setTop (entryFrame m #[(.long q1), (.long q2), (.long q3), (.int p4), (.int p5), (.int p6)] maxLocals)) t := fun t k => pre126 t (by
          show Steps p.tables e below (T123.setTop (mkF m 300 #[.val (.long q1), .second, .val (.long q2), .second, .val (.long q3), .second, .val (.int p4), .val (.int p5), .val (.int p6), .val (.long v3), .second, .val (.long v8), .second, .val (.long v14), .second, .val (.long v23), .second, .val (.long v32), .second, .val (.int v42), .val (.int v54), .val (.ref b48), .val (.ref b_50), .val (.ref b_51), .val (.int v90), .val (.int z118_s0), .val (.long v157), .second, .val (.long v184), .second, .val (.long v211), .second, .val (.int z226_s0), .val (.int z246_s0), .val (.int z266_s0), .val (.int v273), .val (.int v280), .val (.int v287)] [(.int z226_s0), (.int v273)])) _
          refine XS.icmpYes X123.here hx rfl (pc0 := 300) (pc' := 321) rfl (hb hby at_300) rfl (feq hc300).2 (by decide) (by decide) ?_
          show Steps p.tables e below (T123.setTop (mkF m 321 #[.val (.long q1), .second, .val (.long q2), .second, .val (.long q3), .second, .val (.int p4), .val (.int p5), .val (.int p6), .val (.long v3), .second, .val (.long v8), .second, .val (.long v14), .second, .val (.long v23), .second, .val (.long v32), .second, .val (.int v42), .val (.int v54), .val (.ref b48), .val (.ref b_50), .val (.ref b_51), .val (.int v90), .val (.int z118_s0), .val (.long v157), .second, .val (.long v184), .second, .val (.long v211), .second, .val (.int z226_s0), .val (.int z246_s0), .val (.int z266_s0), .val (.int v273), .val (.int v280), .val (.int v287)] [])) _
          refine XS.iconst X123.here hx rfl (hb hby at_321) ?_
          exact k)
        have q_z322_s0 : z322_s0 = (0 : Int32) := by rw [hz322_s0, if_pos hc293, if_neg hc300]
        refine ⟨_, _, X123, e123, N123, fun t k => ?_⟩
        rw [q_z322_s0] at k
        exact pre132 t k
    ·
      have pre133 : ∀ t, Steps p.tables e below (T123.setTop (mkF m 322 #[.val (.long q1), .second, .val (.long q2), .second, .val (.long q3), .second, .val (.int p4), .val (.int p5), .val (.int p6), .val (.long v3), .second, .val (.long v8), .second, .val (.long v14), .second, .val (.long v23), .second, .val (.long v32), .second, .val (.int v42), .val (.int v54), .val (.ref b48), .val (.ref b_50), .val (.ref b_51), .val (.int v90), .val (.int z118_s0), .val (.long v157), .second, .val (.long v184), .second, .val (.long v211), .second, .val (.int z226_s0), .val (.int z246_s0), .val (.int z266_s0), .val (.int v273), .val (.int v280), .val (.int v287)] [(.int (0 : Int32))])) t → Steps p.tables e below (s₁.setTop (entryFrame m #[(.long q1), (.long q2), (.long q3), (.int p4), (.int p5), (.int p6)] maxLocals)) t := fun t k => pre125 t (by
        show Steps p.tables e below (T123.setTop (mkF m 293 #[.val (.long q1), .second, .val (.long q2), .second, .val (.long q3), .second, .val (.int p4), .val (.int p5), .val (.int p6), .val (.long v3), .second, .val (.long v8), .second, .val (.long v14), .second, .val (.long v23), .second, .val (.long v32), .second, .val (.int v42), .val (.int v54), .val (.ref b48), .val (.ref b_50), .val (.ref b_51), .val (.int v90), .val (.int z118_s0), .val (.long v157), .second, .val (.long v184), .second, .val (.long v211), .second, .val (.int z226_s0), .val (.int z246_s0), .val (.int z266_s0), .val (.int v273), .val (.int v280), .val (.int v287)] [(.int z118_s0), (.int v90)])) _
        refine XS.icmpYes X123.here hx rfl (pc0 := 293) (pc' := 321) rfl (hb hby at_293) rfl (feq hc293).2 (by decide) (by decide) ?_
        show Steps p.tables e below (T123.setTop (mkF m 321 #[.val (.long q1), .second, .val (.long q2), .second, .val (.long q3), .second, .val (.int p4), .val (.int p5), .val (.int p6), .val (.long v3), .second, .val (.long v8), .second, .val (.long v14), .second, .val (.long v23), .second, .val (.long v32), .second, .val (.int v42), .val (.int v54), .val (.ref b48), .val (.ref b_50), .val (.ref b_51), .val (.int v90), .val (.int z118_s0), .val (.long v157), .second, .val (.long v184), .second, .val (.long v211), .second, .val (.int z226_s0), .val (.int z246_s0), .val (.int z266_s0), .val (.int v273), .val (.int v280), .val (.int v287)] [])) _
        refine XS.iconst X123.here hx rfl (hb hby at_321) ?_
        exact k)
      have q_z322_s0 : z322_s0 = (0 : Int32) := by rw [hz322_s0, if_neg hc293]
      refine ⟨_, _, X123, e123, N123, fun t k => ?_⟩
      rw [q_z322_s0] at k
      exact pre133 t k
  obtain rfl : z322_s0 = (1 : Int32) := own_law hv3 hv8 hv14 hv23 hv32 hv42 hv54 hv90 hz118_s0 hz136_F_left_b_50 hz136_F_left_b_51 hz152_F_left_b_50 hz152_F_left_b_51 hv157 hz171_s0 hz183_s0 hv184 hz198_s0 hz210_s0 hv211 hz226_s0 hz246_s0 hz266_s0 hv273 hv280 hv287 hz322_s0
  obtain ⟨fs, hr, hrun, hended, hW, hsame⟩ := X134.leave (v := some (.int (1 : Int32))) (fun h => by rw [Bd.returns] at h; cases h)
  refine ⟨_, _, pre134 _ ?_, hrun, hended, _, _, rfl, ?_, ⟨_, rfl⟩, hW, hsame.mono (by decide) (by decide)⟩
  · show Steps p.tables e below (T134.setTop (mkF m 322 #[.val (.long q1), .second, .val (.long q2), .second, .val (.long q3), .second, .val (.int p4), .val (.int p5), .val (.int p6), .val (.long v3), .second, .val (.long v8), .second, .val (.long v14), .second, .val (.long v23), .second, .val (.long v32), .second, .val (.int v42), .val (.int v54), .val (.ref b48), .val (.ref b_50), .val (.ref b_51), .val (.int v90), .val (.int z118_s0), .val (.long v157), .second, .val (.long v184), .second, .val (.long v211), .second, .val (.int z226_s0), .val (.int z246_s0), .val (.int z266_s0), .val (.int v273), .val (.int v280), .val (.int v287)] [(.int (1 : Int32))])) _
    exact retN X134 hx (t := .boolean) Bd.returns (by simp) (hb hby at_322) hr
  · show Q0 Z q1 q2 q3 p4 p5 p6 h0 n0 _ T134.heap _
    rw [e134]
    exact ⟨rfl, N134⟩
set_option maxRecDepth 65536 in
set_option maxHeartbeats 40000000 in
theorem comes_1 {Post : Tables → Env → Array Value → State → Outcome → State → Prop} (hpost : ∀ tb e args s v u, (limb_1_1.after args s (.returned v) u = true ∧ limb_1_2.after args s (.returned v) u = true ∧ True) → FrameEnd s (.returned v) u (Jvm.fieldLocs frame_1_writes args s ++ Jvm.arrayLocs frame_1_arrays args s ++ Jvm.staticLocs frame_1_statics s) 16 128 → Post tb e args s (.returned v) u) :
    ArmFor flags0 classFile x code maxLocals ret World_1 tables_1 room_1 Calls_1 rest_1 Pre_1 Post := by
  intro l hfl _ _ p e ha hc hk s m args below hf hA hF happ hP
  obtain ⟨hcalls, hrest, hpre⟩ := hP
  obtain ⟨-, -, -, hnamed, -, -, -, hat⟩ := (Spec.applies_iff hf).mp happ
  obtain ⟨hg, hn⟩ := and_e (Cond.before_iff.mp (show (Jvm.Cond.and given_1 narrow_1).before args s = true from hpre))
  obtain ⟨hcount, ha0⟩ := and_e hg
  obtain ⟨ga0, gb0⟩ := and_e ha0
  obtain ⟨ga1, gb1⟩ := and_e gb0
  obtain ⟨ga2, gb2⟩ := and_e gb1
  obtain ⟨ga3, gb3⟩ := and_e gb2
  obtain ⟨ga4, gb4⟩ := and_e gb3
  obtain ⟨w0, w1, w2, w3, w4, w5, rfl⟩ : ∃ w0 w1 w2 w3 w4 w5 : Value, args = #[w0, w1, w2, w3, w4, w5] := by
    have hs : args.size = 6 := by simpa [Cond.value, given_1] using hcount
    obtain ⟨L⟩ := args
    match L, hs with
    | [w0, w1, w2, w3, w4, w5], _ => exact ⟨w0, w1, w2, w3, w4, w5, rfl⟩
  have hw := fun d (hd : d ∈ tables_1) => atoms_spec (ws := Jvm.Cond.code x code maxLocals ret :: tables_1) hat d (List.mem_cons_of_mem _ hd)
  have hfit : Fit s := fun {y c} hc i hi => by
    obtain ⟨ha, rfl⟩ := Array.getElem?_eq_some_iff.mp hc
    have q := List.all_eq_true.mp ((Array.all_eq_true_iff_forall_mem.mp hF) _ (Array.getElem_mem ha)) i (List.mem_range.mpr hi)
    simpa [Array.getElem?_eq_getElem hi] using q
  obtain ⟨i0, ei0⟩ := isL_v ga0
  obtain rfl : w0 = (.long i0) := Option.some.inj ei0
  obtain ⟨i1, ei1⟩ := isL_v ga1
  obtain rfl : w1 = (.long i1) := Option.some.inj ei1
  obtain ⟨i2, ei2⟩ := isL_v ga2
  obtain rfl : w2 = (.long i2) := Option.some.inj ei2
  obtain ⟨i3, ei3⟩ := is_v ga3
  obtain rfl : w3 = (.int i3) := Option.some.inj ei3
  obtain ⟨i4, ei4⟩ := is_v ga4
  obtain rfl : w4 = (.int i4) := Option.some.inj ei4
  obtain ⟨i5, ei5⟩ := is_v gb4
  obtain rfl : w5 = (.int i5) := Option.some.inj ei5
  obtain ⟨n, o, h1, h2, h3, _, L, rfl, ⟨rfl, N⟩, hq⟩ := rm0 l s _ hw tables_1 i0 i1 i2 i3 i4 i5 s.heap s.heap.size (Nat.le_refl _)  p e ha hc hk s m _ below hf ((Spec.applies_iff_loose hf).mp happ).1 ⟨rfl, State.Warmed39.refl s, rfl⟩ trivial
  refine ⟨n, _, h1, h2, h3, hpost _ _ _ _ _ _ ⟨Cond.after_iff.mpr rfl, Cond.after_iff.mpr (eq_i res_at (Term.int_eval (1)) rfl), trivial⟩ ⟨hq.1, hq.2.1, (hq.2.2.sift fun y hy => Or.inr (N y hy)).mono (by decide) (by decide)⟩⟩
theorem main_1_1 : Claimed_1_1 := comes_1 fun _ _ _ _ _ _ h hF => ⟨h.1, hF⟩
theorem main_1_2 : Claimed_1_2 := comes_1 fun _ _ _ _ _ _ h hF => ⟨h.2.1, hF⟩
end Jvm.Pilot.@@N@@
namespace Jvm.Pilot.@@N@@
open Jvm Jvm.ClassFile Sem Op Lib Jvm.Free Jvm.Stand Jvm.Pilot.@@N@@.Jvm.D
/-! MADE BY PROGRAM (witnessworld.py) out of the Statement's table words and the real class files: 10 classes; the members and pool entries that the words name. The judged class is class 1, her method 2. -/
namespace start1
open Jvm.ClassFile
def u (s : String) : CpInfo := .utf8 (stringToUtf16 s)
/-- a pool by its gaps: so many unusable entries, then the entry; so many at the end -/
def gap : Nat → List CpInfo → List CpInfo
  | 0, r => r
  | n + 1, r => .unusable :: gap n r
def poolList (es : List (Nat × CpInfo)) (last : Nat) : List CpInfo := es.foldr (fun e r => gap e.1 (e.2 :: r)) (gap last [])
def pool (es : List (Nat × CpInfo)) (last : Nat) : Array CpInfo := ⟨poolList es last⟩
def fileOf (pool : Array CpInfo) (this : Nat) (attrs : Array Attribute := #[]) (ms : Array MethodInfo := #[]) (fl : Nat := 33) (sup : Nat := 0) (ifs : Array Nat := #[]) (fds : Array FieldInfo := #[]) : ClassFile where
  minorVersion := 0
  majorVersion := 65
  constantPool := pool
  accessFlags := fl
  thisClass := this
  superClass := sup
  interfaces := ifs
  fields := fds
  methods := ms
  attributes := attrs
def plain (name : String) (sup : Option ClassId) : Class where
  name := name
  kind := .ordinary
  loader := none
  accessFlags := 33
  super := sup
  interfaces := #[]
  cf := none
  fields := #[]
  methods := #[]
  instanceTypes := #[]
  staticTypes := #[]
  resolved := #[]
  callSites := []
  init := .initialized
  statics := none
  mirror := none

def pool0 : Array CpInfo := pool [(5, u "<init>"), (0, u "()V"), (1, .class_ 10), (1, u "java/lang/Object")] 113

def k0c0 : Code := { maxStack := 0, maxLocals := 1, code := object_method_1_code, exceptionTable := #[], attributes := #[] }
def k0m0 : Method := { name := "<init>", desc := "()V", sig := { parameters := [], returnType := none }, accessFlags := 1, code := some k0c0 }
/-- java/lang/Object -/
def k0 : Class := { plain "java/lang/Object" none with
  accessFlags := 33
  interfaces := #[]
  cf := some (fileOf pool0 8 #[] #[{ accessFlags := 1, nameIndex := 5, descriptorIndex := 6, attributes := #[] }] 33 0 #[] #[])
  fields := #[]
  methods := #[k0m0]
  instanceTypes := #[]
  staticTypes := #[]
  resolved := Array.replicate 124 none
  statics := none }

def pool1 : Array CpInfo := pool [(2, .class_ 4), (1, u "java/lang/Object"), (0, u "<init>"), (0, u "()V"), (0, .long 2147483647), (1, .methodref 10 11), (0, .class_ 12), (0, .nameAndType 13 14), (0, u "java/lang/Math"), (0, u "min"), (0, u "(II)I"), (0, .class_ 16), (0, u "com/example/regolo/regolo/engine/Work"), (0, .methodref 15 18), (0, .nameAndType 5 19), (0, u "(J)V"), (0, .methodref 15 21), (0, .nameAndType 22 23), (0, u "part"), (0, u "(J)Lcom/example/regolo/regolo/engine/Work;"), (0, .methodref 15 25), (0, .nameAndType 26 27), (0, u "spent"), (0, u "()Z"), (0, .methodref 29 30), (0, .class_ 31), (0, .nameAndType 32 33), (0, u "com/example/regolo/regolo/engine/WorkSpentPinLaw"), (0, u "pick"), (0, u "(ILcom/example/regolo/regolo/engine/Work;Lcom/example/regolo/regolo/engine/Work;Lcom/example/regolo/regolo/engine/Work;)Lcom/example/regolo/regolo/engine/Work;"), (0, .methodref 15 35), (0, .nameAndType 36 19), (0, u "spend"), (3, u "law"), (0, u "(JJJIII)Z")] 2

def k1m0 : Method := { name := "<init>", desc := "()V", sig := { parameters := [], returnType := none }, accessFlags := 1, code := none }
def k1c1 : Code := { maxStack := 2, maxLocals := 4, code := method_2_code, exceptionTable := #[], attributes := #[] }
def k1m1 : Method := { name := "pick", desc := "(ILcom/example/regolo/regolo/engine/Work;Lcom/example/regolo/regolo/engine/Work;Lcom/example/regolo/regolo/engine/Work;)Lcom/example/regolo/regolo/engine/Work;", sig := { parameters := [.int, (.object "com/example/regolo/regolo/engine/Work"), (.object "com/example/regolo/regolo/engine/Work"), (.object "com/example/regolo/regolo/engine/Work")], returnType := some (.object "com/example/regolo/regolo/engine/Work") }, accessFlags := 10, code := some k1c1 }
def k1c2 : Code := { maxStack := 4, maxLocals := 38, code := code, exceptionTable := #[], attributes := #[] }
def k1m2 : Method := { name := "law", desc := "(JJJIII)Z", sig := { parameters := [.long, .long, .long, .int, .int, .int], returnType := some .boolean }, accessFlags := 9, code := some k1c2 }
/-- com/example/regolo/regolo/engine/WorkSpentPinLaw -/
def k1 : Class := { plain "com/example/regolo/regolo/engine/WorkSpentPinLaw" (some 0) with
  accessFlags := 49
  interfaces := #[]
  cf := some (fileOf pool1 29 #[] #[{ accessFlags := 1, nameIndex := 5, descriptorIndex := 6, attributes := #[] }, { accessFlags := 10, nameIndex := 32, descriptorIndex := 33, attributes := #[] }, { accessFlags := 9, nameIndex := 40, descriptorIndex := 41, attributes := #[] }] 49 2 #[] #[])
  fields := #[]
  methods := #[k1m0, k1m1, k1m2]
  instanceTypes := #[]
  staticTypes := #[]
  resolved := Array.replicate 44 none
  statics := none }

def pool2 : Array CpInfo := pool [(1, .class_ 2), (0, u "java/lang/Math"), (1, .class_ 6), (1, u "java/lang/Object"), (0, u "<init>"), (0, u "()V"), (89, .class_ 100), (1, u "java/lang/Math$RandomNumberGeneratorHolder"), (71, u "negativeZeroFloatBits"), (0, u "J"), (2, u "negativeZeroDoubleBits"), (24, u "min"), (43, u "$assertionsDisabled"), (0, u "Z"), (88, u "(II)I"), (2, u "twoToTheDoubleScaleDown"), (0, u "D"), (4, u "twoToTheDoubleScaleUp"), (9, u "E"), (3, u "PI"), (2, u "TAU"), (2, u "DEGREES_TO_RADIANS"), (0, u "RADIANS_TO_DEGREES")] 94

def k2m0 : Method := { name := "<init>", desc := "()V", sig := { parameters := [], returnType := none }, accessFlags := 2, code := none }
def k2c1 : Code := { maxStack := 2, maxLocals := 2, code := jdk_29_method_69_code, exceptionTable := #[], attributes := #[] }
def k2m1 : Method := { name := "min", desc := "(II)I", sig := { parameters := [.int, .int], returnType := some .int }, accessFlags := 9, code := some k2c1 }
/-- java/lang/Math -/
def k2 : Class := { plain "java/lang/Math" (some 0) with
  accessFlags := 49
  interfaces := #[]
  cf := some (fileOf pool2 1 #[.nestMembers #[98]] #[{ accessFlags := 2, nameIndex := 7, descriptorIndex := 8, attributes := #[] }, { accessFlags := 9, nameIndex := 201, descriptorIndex := 335, attributes := #[] }] 49 4 #[] #[{ accessFlags := 25, nameIndex := 354, descriptorIndex := 339, attributes := #[] }, { accessFlags := 25, nameIndex := 358, descriptorIndex := 339, attributes := #[] }, { accessFlags := 25, nameIndex := 361, descriptorIndex := 339, attributes := #[] }, { accessFlags := 26, nameIndex := 364, descriptorIndex := 339, attributes := #[] }, { accessFlags := 26, nameIndex := 365, descriptorIndex := 339, attributes := #[] }, { accessFlags := 26, nameIndex := 172, descriptorIndex := 173, attributes := #[] }, { accessFlags := 26, nameIndex := 176, descriptorIndex := 173, attributes := #[] }, { accessFlags := 8, nameIndex := 344, descriptorIndex := 339, attributes := #[] }, { accessFlags := 8, nameIndex := 338, descriptorIndex := 339, attributes := #[] }, { accessFlags := 4120, nameIndex := 245, descriptorIndex := 246, attributes := #[] }])
  fields := #[{ name := "E", type := .double, accessFlags := 25, slot := 0, constantValue := 0 }, { name := "PI", type := .double, accessFlags := 25, slot := 1, constantValue := 0 }, { name := "TAU", type := .double, accessFlags := 25, slot := 2, constantValue := 0 }, { name := "DEGREES_TO_RADIANS", type := .double, accessFlags := 26, slot := 3, constantValue := 0 }, { name := "RADIANS_TO_DEGREES", type := .double, accessFlags := 26, slot := 4, constantValue := 0 }, { name := "negativeZeroFloatBits", type := .long, accessFlags := 26, slot := 5, constantValue := 0 }, { name := "negativeZeroDoubleBits", type := .long, accessFlags := 26, slot := 6, constantValue := 0 }, { name := "twoToTheDoubleScaleUp", type := .double, accessFlags := 8, slot := 7, constantValue := 0 }, { name := "twoToTheDoubleScaleDown", type := .double, accessFlags := 8, slot := 8, constantValue := 0 }, { name := "$assertionsDisabled", type := .boolean, accessFlags := 4120, slot := 9, constantValue := 0 }]
  methods := #[k2m0, k2m1]
  instanceTypes := #[]
  staticTypes := #[.double, .double, .double, .double, .double, .long, .long, .double, .double, .boolean]
  resolved := Array.replicate 460 none
  statics := none }

def pool3 : Array CpInfo := pool [(1, .methodref 2 3), (0, .class_ 4), (0, .nameAndType 5 6), (0, u "com/example/regolo/regolo/engine/Work"), (0, u "<init>"), (0, u "(JLcom/example/regolo/regolo/engine/Work;)V"), (0, .methodref 8 9), (0, .class_ 10), (0, .nameAndType 5 11), (0, u "java/lang/Object"), (0, u "()V"), (0, .fieldref 2 13), (0, .nameAndType 14 15), (0, u "left"), (0, u "J"), (0, .fieldref 2 17), (0, .nameAndType 18 19), (0, u "whole"), (0, u "Lcom/example/regolo/regolo/engine/Work;"), (0, .methodref 2 21), (0, .nameAndType 22 23), (0, u "spend"), (0, u "(J)V"), (0, .methodref 2 25), (0, .nameAndType 26 27), (0, u "spent"), (0, u "()Z"), (2, u "part"), (0, u "(J)Lcom/example/regolo/regolo/engine/Work;")] 3

def k3c0 : Code := { maxStack := 4, maxLocals := 3, code := prog_77_method_1_code, exceptionTable := #[], attributes := #[] }
def k3m0 : Method := { name := "<init>", desc := "(J)V", sig := { parameters := [.long], returnType := none }, accessFlags := 0, code := some k3c0 }
def k3c1 : Code := { maxStack := 3, maxLocals := 4, code := prog_77_method_2_code, exceptionTable := #[], attributes := #[] }
def k3m1 : Method := { name := "<init>", desc := "(JLcom/example/regolo/regolo/engine/Work;)V", sig := { parameters := [.long, (.object "com/example/regolo/regolo/engine/Work")], returnType := none }, accessFlags := 2, code := some k3c1 }
def k3c2 : Code := { maxStack := 5, maxLocals := 3, code := prog_77_method_3_code, exceptionTable := #[], attributes := #[] }
def k3m2 : Method := { name := "part", desc := "(J)Lcom/example/regolo/regolo/engine/Work;", sig := { parameters := [.long], returnType := some (.object "com/example/regolo/regolo/engine/Work") }, accessFlags := 0, code := some k3c2 }
def k3c3 : Code := { maxStack := 5, maxLocals := 3, code := prog_77_method_4_code, exceptionTable := #[], attributes := #[] }
def k3m3 : Method := { name := "spend", desc := "(J)V", sig := { parameters := [.long], returnType := none }, accessFlags := 0, code := some k3c3 }
def k3c4 : Code := { maxStack := 4, maxLocals := 1, code := prog_77_method_5_code, exceptionTable := #[], attributes := #[] }
def k3m4 : Method := { name := "spent", desc := "()Z", sig := { parameters := [], returnType := some .boolean }, accessFlags := 0, code := some k3c4 }
/-- com/example/regolo/regolo/engine/Work -/
def k3 : Class := { plain "com/example/regolo/regolo/engine/Work" (some 0) with
  accessFlags := 48
  interfaces := #[]
  cf := some (fileOf pool3 2 #[] #[{ accessFlags := 0, nameIndex := 5, descriptorIndex := 23, attributes := #[] }, { accessFlags := 2, nameIndex := 5, descriptorIndex := 6, attributes := #[] }, { accessFlags := 0, nameIndex := 30, descriptorIndex := 31, attributes := #[] }, { accessFlags := 0, nameIndex := 22, descriptorIndex := 23, attributes := #[] }, { accessFlags := 0, nameIndex := 26, descriptorIndex := 27, attributes := #[] }] 48 8 #[] #[{ accessFlags := 18, nameIndex := 18, descriptorIndex := 19, attributes := #[] }, { accessFlags := 2, nameIndex := 14, descriptorIndex := 15, attributes := #[] }])
  fields := #[{ name := "whole", type := (.object "com/example/regolo/regolo/engine/Work"), accessFlags := 18, slot := 0, constantValue := 0 }, { name := "left", type := .long, accessFlags := 2, slot := 1, constantValue := 0 }]
  methods := #[k3m0, k3m1, k3m2, k3m3, k3m4]
  instanceTypes := #[(.object "com/example/regolo/regolo/engine/Work"), .long]
  staticTypes := #[]
  resolved := Array.replicate 35 none
  statics := none }

def pool4 : Array CpInfo := pool [(1, u "java/lang/Cloneable"), (0, .class_ 1), (0, u "java/lang/Object"), (0, .class_ 3)] 3

/-- java/lang/Cloneable -/
def k4 : Class := { plain "java/lang/Cloneable" (some 0) with
  accessFlags := 1537
  interfaces := #[]
  cf := some (fileOf pool4 2 #[] #[] 1537 4 #[] #[])
  fields := #[]
  methods := #[]
  instanceTypes := #[]
  staticTypes := #[]
  resolved := Array.replicate 8 none
  statics := none }

def pool5 : Array CpInfo := pool [(1, u "java/io/Serializable"), (0, .class_ 1), (0, u "java/lang/Object"), (0, .class_ 3)] 3

/-- java/io/Serializable -/
def k5 : Class := { plain "java/io/Serializable" (some 0) with
  accessFlags := 1537
  interfaces := #[]
  cf := some (fileOf pool5 2 #[] #[] 1537 4 #[] #[])
  fields := #[]
  methods := #[]
  instanceTypes := #[]
  staticTypes := #[]
  resolved := Array.replicate 8 none
  statics := none }

/-- the primitive byte -/
def k6 : Class := { plain "byte" none with kind := .primitive 'B', accessFlags := 0x411 }
/-- [B -/
def k7 : Class := { plain "[B" (some 0) with kind := .array 6 .byte, interfaces := #[4, 5], accessFlags := 1041 }

/-- the primitive int -/
def k8 : Class := { plain "int" none with kind := .primitive 'I', accessFlags := 0x411 }
/-- [I -/
def k9 : Class := { plain "[I" (some 0) with kind := .array 8 .int, interfaces := #[4, 5], accessFlags := 1041 }

def heap : Heap := #[]
def classes : Array Class := #[k0, k1, k2, k3, k4, k5, k6, k7, k8, k9]
def interned : List (Array UInt16 × Addr) := []
def slotsUsed : Nat := 0
def theMethod : MethodId := ⟨1, 2⟩
def args0 : Array Value := #[.long 5, .long 300, .long 7, .int 1, .int 9, .int 6]
def aboutOver (below : List Frame) : State where
  vm := { classes := classes, interned := interned.toArray }
  heap := heap
  slotsUsed := slotsUsed
  threads := #[{ frames := .invoking theMethod args0 :: below }]
def below0 : List Frame := [.native { method := ⟨0, 0⟩, args := #[] }]
def about1 : State := aboutOver below0
def p0 : Program := .bare "" "" ""
def e0 : Env := launch0.env 0 0 0
theorem w_frames : about1.frames = Frame.invoking theMethod args0 :: below0 := rfl
set_option maxRecDepth 65536 in
theorem w_args : argsFit about1.vm theMethod args0 = true := by decide +kernel
set_option maxRecDepth 65536 in
theorem w_heap : heapFits about1 = true := by decide +kernel
set_option maxRecDepth 65536 in
theorem w_runnable : about1.curStatus? = some .runnable := by decide +kernel
set_option maxRecDepth 65536 in
theorem w_alone : about1.alone = true := by decide +kernel
set_option maxRecDepth 65536 in
theorem w_named : about1.methodNamed? x = some theMethod := by decide +kernel
set_option maxRecDepth 65536 in
theorem w_hears : about1.hears theMethod below0 = true := by decide +kernel
set_option maxRecDepth 65536 in
theorem w_ripe : about1.ripe theMethod args0 below0 = true := by decide +kernel
theorem w_running : about1.status = .running := rfl
set_option maxRecDepth 65536 in
theorem w_room : about1.hasRoom e0.platform room_1 = true :=
  launch0.hasRoom_least _ room_1 (by decide +kernel) (by decide +kernel) (by decide +kernel) (by decide +kernel) (by decide +kernel) (by decide +kernel)
theorem allAtoms_all (ts : List Jvm.Cond) (a : Array Jvm.Value) (st : Jvm.State) : (allAtoms ts).before a st = ts.all (fun c => c.before a st) := by
  induction ts with
  | nil => rfl
  | cons c t ih =>
    show (Jvm.Cond.and c (allAtoms t)).before a st = _
    rw [Jvm.Cond.before_and, ih, List.all_cons]
def words1 : List Jvm.Cond := Jvm.Cond.code x code maxLocals ret :: tables_1
/-- a 'code' word, met by the world's own term for the bytes: nothing is compared byte by byte -/
theorem code_word {y : MethodName} {bytes : ByteArray} {mx : Nat} {rt : Option FieldType} {a : Array Value} {s : State} {m : MethodId} {meth : Method} {c : Code} (h1 : s.methodNamed? y = some m) (h2 : s.vm.method? m = some meth) (h3 : meth.code = some c) (h4 : c.code = bytes)
    (h5 : (c.maxLocals == mx && c.exceptionTable.isEmpty && decide (c.maxStack ≤ mostOperands) && decide (meth.sig.returnType = rt) && !meth.locks && decide (parseMethodDescriptor y.desc = some meth.sig)) = true) : (Jvm.Cond.code y bytes mx rt).before a s = true := by
  simp only [Bool.and_eq_true, beq_iff_eq, Bool.not_eq_true', decide_eq_true_eq] at h5
  obtain ⟨⟨⟨⟨⟨g1, g2⟩, g3⟩, g4⟩, g5⟩, g6⟩ := h5
  simp [Cond.before, Cond.holds, Cond.value, h1, h2, h3, h4, g1, g2, g3, g4, g5, g6]
def isCode : Jvm.Cond → Bool
  | .code _ _ _ _ => true
  | _ => false
theorem all_split {L : List Jvm.Cond} {P : Jvm.Cond → Bool} (h1 : L.all (fun c => isCode c || P c) = true) (h2 : ∀ c ∈ L.filter isCode, P c = true) : L.all P = true := by
  refine List.all_eq_true.mpr fun c hc => ?_
  have h := List.all_eq_true.mp h1 c hc
  rcases Bool.eq_false_or_eq_true (isCode c) with hi | hi
  · exact h2 c (List.mem_filter.mpr ⟨hc, hi⟩)
  · simpa [hi] using h
set_option maxRecDepth 65536 in
theorem w_c0 : (Jvm.Cond.code x code maxLocals ret).before args0 about1 = true := code_word (m := ⟨1, 2⟩) (meth := k1m2) (c := k1c2) (by decide +kernel) rfl rfl rfl (by decide +kernel)
set_option maxRecDepth 65536 in
theorem w_c1 : (Jvm.Cond.code ({ cls := "java/lang/Math", name := "min", desc := "(II)I" } : Jvm.MethodName) jdk_29_method_69_code (2 : Nat) (Option.some Jvm.ClassFile.FieldType.int)).before args0 about1 = true := code_word (m := ⟨2, 1⟩) (meth := k2m1) (c := k2c1) (by decide +kernel) rfl rfl rfl (by decide +kernel)
set_option maxRecDepth 65536 in
theorem w_c2 : (Jvm.Cond.code ({ cls := "com/example/regolo/regolo/engine/Work", name := "<init>", desc := "(J)V" } : Jvm.MethodName) prog_77_method_1_code (3 : Nat) (Option.none : Option Jvm.ClassFile.FieldType)).before args0 about1 = true := code_word (m := ⟨3, 0⟩) (meth := k3m0) (c := k3c0) (by decide +kernel) rfl rfl rfl (by decide +kernel)
set_option maxRecDepth 65536 in
theorem w_c3 : (Jvm.Cond.code ({ cls := "com/example/regolo/regolo/engine/Work", name := "<init>", desc := "(JLcom/example/regolo/regolo/engine/Work;)V" } : Jvm.MethodName) prog_77_method_2_code (4 : Nat) (Option.none : Option Jvm.ClassFile.FieldType)).before args0 about1 = true := code_word (m := ⟨3, 1⟩) (meth := k3m1) (c := k3c1) (by decide +kernel) rfl rfl rfl (by decide +kernel)
set_option maxRecDepth 65536 in
theorem w_c4 : (Jvm.Cond.code ({ cls := "java/lang/Object", name := "<init>", desc := "()V" } : Jvm.MethodName) object_method_1_code (1 : Nat) (Option.none : Option Jvm.ClassFile.FieldType)).before args0 about1 = true := code_word (m := ⟨0, 0⟩) (meth := k0m0) (c := k0c0) (by decide +kernel) rfl rfl rfl (by decide +kernel)
set_option maxRecDepth 65536 in
theorem w_c5 : (Jvm.Cond.code ({ cls := "com/example/regolo/regolo/engine/Work", name := "part", desc := "(J)Lcom/example/regolo/regolo/engine/Work;" } : Jvm.MethodName) prog_77_method_3_code (3 : Nat) (Option.some (Jvm.ClassFile.FieldType.object "com/example/regolo/regolo/engine/Work"))).before args0 about1 = true := code_word (m := ⟨3, 2⟩) (meth := k3m2) (c := k3c2) (by decide +kernel) rfl rfl rfl (by decide +kernel)
set_option maxRecDepth 65536 in
theorem w_c6 : (Jvm.Cond.code ({ cls := "com/example/regolo/regolo/engine/Work", name := "spent", desc := "()Z" } : Jvm.MethodName) prog_77_method_5_code (1 : Nat) (Option.some Jvm.ClassFile.FieldType.boolean)).before args0 about1 = true := code_word (m := ⟨3, 4⟩) (meth := k3m4) (c := k3c4) (by decide +kernel) rfl rfl rfl (by decide +kernel)
set_option maxRecDepth 65536 in
theorem w_c7 : (Jvm.Cond.code ({ cls := "com/example/regolo/regolo/engine/WorkSpentPinLaw", name := "pick", desc := "(ILcom/example/regolo/regolo/engine/Work;Lcom/example/regolo/regolo/engine/Work;Lcom/example/regolo/regolo/engine/Work;)Lcom/example/regolo/regolo/engine/Work;" } : Jvm.MethodName) method_2_code (4 : Nat) (Option.some (Jvm.ClassFile.FieldType.object "com/example/regolo/regolo/engine/Work"))).before args0 about1 = true := code_word (m := ⟨1, 1⟩) (meth := k1m1) (c := k1c1) (by decide +kernel) rfl rfl rfl (by decide +kernel)
set_option maxRecDepth 65536 in
theorem w_c8 : (Jvm.Cond.code ({ cls := "com/example/regolo/regolo/engine/Work", name := "spend", desc := "(J)V" } : Jvm.MethodName) prog_77_method_4_code (3 : Nat) (Option.none : Option Jvm.ClassFile.FieldType)).before args0 about1 = true := code_word (m := ⟨3, 3⟩) (meth := k3m3) (c := k3c3) (by decide +kernel) rfl rfl rfl (by decide +kernel)
def codes1 : List Jvm.Cond := [Jvm.Cond.code x code maxLocals ret, Jvm.Cond.code ({ cls := "java/lang/Math", name := "min", desc := "(II)I" } : Jvm.MethodName) jdk_29_method_69_code (2 : Nat) (Option.some Jvm.ClassFile.FieldType.int), Jvm.Cond.code ({ cls := "com/example/regolo/regolo/engine/Work", name := "<init>", desc := "(J)V" } : Jvm.MethodName) prog_77_method_1_code (3 : Nat) (Option.none : Option Jvm.ClassFile.FieldType), Jvm.Cond.code ({ cls := "com/example/regolo/regolo/engine/Work", name := "<init>", desc := "(JLcom/example/regolo/regolo/engine/Work;)V" } : Jvm.MethodName) prog_77_method_2_code (4 : Nat) (Option.none : Option Jvm.ClassFile.FieldType), Jvm.Cond.code ({ cls := "java/lang/Object", name := "<init>", desc := "()V" } : Jvm.MethodName) object_method_1_code (1 : Nat) (Option.none : Option Jvm.ClassFile.FieldType), Jvm.Cond.code ({ cls := "com/example/regolo/regolo/engine/Work", name := "part", desc := "(J)Lcom/example/regolo/regolo/engine/Work;" } : Jvm.MethodName) prog_77_method_3_code (3 : Nat) (Option.some (Jvm.ClassFile.FieldType.object "com/example/regolo/regolo/engine/Work")), Jvm.Cond.code ({ cls := "com/example/regolo/regolo/engine/Work", name := "spent", desc := "()Z" } : Jvm.MethodName) prog_77_method_5_code (1 : Nat) (Option.some Jvm.ClassFile.FieldType.boolean), Jvm.Cond.code ({ cls := "com/example/regolo/regolo/engine/WorkSpentPinLaw", name := "pick", desc := "(ILcom/example/regolo/regolo/engine/Work;Lcom/example/regolo/regolo/engine/Work;Lcom/example/regolo/regolo/engine/Work;)Lcom/example/regolo/regolo/engine/Work;" } : Jvm.MethodName) method_2_code (4 : Nat) (Option.some (Jvm.ClassFile.FieldType.object "com/example/regolo/regolo/engine/Work")), Jvm.Cond.code ({ cls := "com/example/regolo/regolo/engine/Work", name := "spend", desc := "(J)V" } : Jvm.MethodName) prog_77_method_4_code (3 : Nat) (Option.none : Option Jvm.ClassFile.FieldType)]
set_option maxRecDepth 65536 in
theorem codes_eq : words1.filter isCode = codes1 := rfl
theorem w_codes : ∀ c ∈ words1.filter isCode, c.before args0 about1 = true := by
  rw [codes_eq]
  intro c hc
  simp only [codes1, List.mem_cons, List.not_mem_nil, or_false] at hc
  rcases hc with rfl | rfl | rfl | rfl | rfl | rfl | rfl | rfl | rfl
  · exact w_c0
  · exact w_c1
  · exact w_c2
  · exact w_c3
  · exact w_c4
  · exact w_c5
  · exact w_c6
  · exact w_c7
  · exact w_c8
set_option maxRecDepth 65536 in
theorem w_t1 : (words1.take 24).all (fun c => isCode c || c.before args0 about1) = true := by decide +kernel
set_option maxRecDepth 65536 in
theorem w_t2 : (words1.drop 24).all (fun c => isCode c || c.before args0 about1) = true := by decide +kernel
theorem w_tables : (allAtoms (Jvm.Cond.code x code maxLocals ret :: tables_1)).before args0 about1 = true := by
  rw [allAtoms_all]
  show words1.all (fun c => c.before args0 about1) = true
  refine all_split ?_ w_codes
  rw [← List.take_append_drop 24 words1, List.all_append, w_t1, w_t2]
  rfl
set_option maxRecDepth 65536 in
theorem w_case : (Jvm.Cond.and given_1 narrow_1).before args0 about1 = true := by decide +kernel
theorem w_applies : (headSpec (Jvm.Cond.code x code maxLocals ret :: tables_1) room_1).applies x e0.platform about1 = true :=
  (Spec.applies_iff w_frames).mpr ⟨w_running, w_runnable, w_alone, w_named, w_hears, w_ripe, w_room, w_tables⟩
theorem atStart : AtStart classFile x code maxLocals ret World_1 tables_1 room_1 Calls_1 rest_1 Pre_1 launch0 p0 e0 about1 theMethod args0 below0 :=
  ⟨lists_1, trivial, launch0.admits_env _ _ _, launch0.least_env, fairChoices_fair.cas, fairChoices_fair.clock, w_frames, w_args, w_heap, w_applies, trivial, trivial, w_case⟩
end start1
theorem witness_1 : WitnessClaimed_1 := ⟨start1.p0, start1.e0, start1.about1, start1.theMethod, start1.args0, start1.below0, start1.atStart⟩
end Jvm.Pilot.@@N@@
