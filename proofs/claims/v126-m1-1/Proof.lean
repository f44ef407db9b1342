import JvmDerived
import JvmDerived.Pilot.@@N@@Statement
import JvmDerived.Pilot.@@N@@Code
set_option linter.unusedVariables false
set_option linter.unusedSimpArgs false
@@BLOCK:NumsL.lean.txt@@
namespace Jvm.RoadKit
open Sem ClassFile Op Lib Jvm.Stand Jvm.Free Jvm.LawKit
section New
variable {p : Program} {l : Launch} {e : Env} {R : Room} {s : State} {m : MethodId} {args : Array Value} {below : List Frame} {meth : Method} {c : Code} {T : State} {locs : List Loc} {cells slots : Nat}
theorem retI (X : Stand p l e R s m args below meth c T locs cells slots) (hx : p.tables.exec = Jvm.exec) {pc : Nat} {Ls : Array Slot} {z : Int32} {rest : List Value} (hret : meth.sig.returnType = some .int) (hd : decode c.code pc = .ok (.ireturn, 1)) {fs : List Frame}
    (hl : ∀ (f : JFrame) (acts : List Action), f.method = m → f.locked = none → f.entered = [] → (doReturn e (T.setTop f) acts (some (.int z))).1 = T.setFrames fs) : Steps p.tables e below (T.setTop (mkF m pc Ls (.int z :: rest))) (T.setFrames fs) := by
  have hm' : T.vm.method? m = some meth := X.method'
  have hn : narrow .int (.int z) = .int z := rfl
  show Steps p.tables e below (T.setTop { method := m, pc := pc, locals := Ls, stack := _ :: rest, locked := none }) _
  jvm_step X.here [X.here.top, hx, hd, hm', hret, hn]
  first | (intro acts; rw [hl _ acts rfl rfl rfl]) | rw [hl _ _ rfl rfl rfl]
  exact Steps.refl _
end New
end Jvm.RoadKit
namespace Jvm.Pilot.@@N@@
open Jvm Jvm.ClassFile Sem Op Lib Jvm.Free Jvm.Stand Jvm.LawKit Jvm.RoadKit Bundle Jvm.Pilot.@@N@@.Jvm.D

/-! an int[] (a long[]) by its cell: n places, place j holds f j -/
def upd {α : Type} (f : Nat → α) (i : Nat) (v : α) : Nat → α := fun j => if j = i then v else f j
theorem upd_same {α : Type} (f : Nat → α) (i : Nat) (v : α) : upd f i v i = v := if_pos rfl
theorem upd_other {α : Type} (f : Nat → α) {i j : Nat} (v : α) (h : j ≠ i) : upd f i v j = f j := if_neg h
def ArI (Z : State) (h : Heap) (a : Addr) (n : Int32) (f : Nat → Int32) : Prop := ∃ c : Cell, Arr Z h a c .int ∧ c.slots.size = n.toNatClampNeg ∧ ∀ j, j < c.slots.size → c.slots[j]? = some (.int (f j))
def ArJ (Z : State) (h : Heap) (a : Addr) (n : Int32) (f : Nat → Int64) : Prop := ∃ c : Cell, Arr Z h a c .long ∧ c.slots.size = n.toNatClampNeg ∧ ∀ j, j < c.slots.size → c.slots[j]? = some (.long (f j))
section OwnArrays
variable {Z : State} {h h' : Heap} {a b : Addr} {n : Int32} {f : Nat → Int32} {g : Nat → Int64}
theorem ArI.lt (F : ArI Z h a n f) : a < h.size := by obtain ⟨c, A, -⟩ := F; exact A.lt
theorem ArJ.lt (F : ArJ Z h a n g) : a < h.size := by obtain ⟨c, A, -⟩ := F; exact A.lt
theorem ArI.ext (F : ArI Z h a n f) (E : Ext h h') : ArI Z h' a n f := by obtain ⟨c, A, r⟩ := F; exact ⟨c, A.ext E, r⟩
theorem ArJ.ext (F : ArJ Z h a n g) (E : Ext h h') : ArJ Z h' a n g := by obtain ⟨c, A, r⟩ := F; exact ⟨c, A.ext E, r⟩
theorem ArI.other {sl : Nat} {v : Value} (F : ArI Z h b n f) (W : Wr h h' a sl v) (q : b ≠ a) : ArI Z h' b n f := by obtain ⟨c, A, r⟩ := F; exact ⟨c, A.other W q, r⟩
theorem ArJ.other {sl : Nat} {v : Value} (F : ArJ Z h b n g) (W : Wr h h' a sl v) (q : b ≠ a) : ArJ Z h' b n g := by obtain ⟨c, A, r⟩ := F; exact ⟨c, A.other W q, r⟩
theorem ArI.keep {ws : List Addr} (F : ArI Z h a n f) (K : Keep h h' ws) (q : a ∉ ws) : ArI Z h' a n f := by obtain ⟨c, A, r⟩ := F; exact ⟨c, ⟨K.2.1 a c A.1 q, A.2⟩, r⟩
theorem ArJ.keep {ws : List Addr} (F : ArJ Z h a n g) (K : Keep h h' ws) (q : a ∉ ws) : ArJ Z h' a n g := by obtain ⟨c, A, r⟩ := F; exact ⟨c, ⟨K.2.1 a c A.1 q, A.2⟩, r⟩
theorem ArI.new {k : ClassId} (A : Arr Z h a (newA k .int n) .int) (q : ¬ n < 0) : ArI Z h a n (fun _ => 0) := by
  obtain ⟨c, A', -, s, -, H, -⟩ := Arv.new A q
  exact ⟨c, A', s, fun j hj => H j hj⟩
theorem ArJ.new {k : ClassId} (A : Arr Z h a (newA k .long n) .long) (q : ¬ n < 0) : ArJ Z h a n (fun _ => 0) := by
  obtain ⟨c, A', -, s, -, H, -⟩ := Arv.new A q
  exact ⟨c, A', s, fun j hj => H j hj⟩
theorem ArI.open {j : Int32} (F : ArI Z h a n f) (q : ¬ j < 0 ∧ j < n) : ∃ c : Cell, Arr Z h a c .int ∧ c.slots.size = n.toNatClampNeg ∧ ¬ (j < 0 ∨ c.slots.size ≤ j.toNatClampNeg) ∧ c.slots[j.toNatClampNeg]? = some (.int (f j.toNatClampNeg)) := by
  obtain ⟨c, A, s, H⟩ := F
  have hin := inb_of s q
  exact ⟨c, A, s, hin, H _ (Nat.lt_of_not_le fun y => hin (Or.inr y))⟩
theorem ArJ.open {j : Int32} (F : ArJ Z h a n g) (q : ¬ j < 0 ∧ j < n) : ∃ c : Cell, Arr Z h a c .long ∧ c.slots.size = n.toNatClampNeg ∧ ¬ (j < 0 ∨ c.slots.size ≤ j.toNatClampNeg) ∧ c.slots[j.toNatClampNeg]? = some (.long (g j.toNatClampNeg)) := by
  obtain ⟨c, A, s, H⟩ := F
  have hin := inb_of s q
  exact ⟨c, A, s, hin, H _ (Nat.lt_of_not_le fun y => hin (Or.inr y))⟩
theorem ArI.set {i : Nat} {x : Int32} (F : ArI Z h a n f) (W : Wr h h' a i (.int x)) : ArI Z h' a n (upd f i x) := by
  obtain ⟨c, A, s, H⟩ := F
  have A' := A.same W
  refine ⟨_, A', by rw [sz_set]; exact s, fun j hj => ?_⟩
  rw [sz_set] at hj
  show (c.slots.setIfInBounds i (.int x))[j]? = _
  rw [Array.getElem?_setIfInBounds]
  by_cases e : i = j
  · subst e; rw [if_pos rfl, if_pos hj, upd_same]
  · rw [if_neg e, upd_other _ _ (fun q => e q.symm)]; exact H j hj
theorem ArJ.set {i : Nat} {x : Int64} (F : ArJ Z h a n g) (W : Wr h h' a i (.long x)) : ArJ Z h' a n (upd g i x) := by
  obtain ⟨c, A, s, H⟩ := F
  have A' := A.same W
  refine ⟨_, A', by rw [sz_set]; exact s, fun j hj => ?_⟩
  rw [sz_set] at hj
  show (c.slots.setIfInBounds i (.long x))[j]? = _
  rw [Array.getElem?_setIfInBounds]
  by_cases e : i = j
  · subst e; rw [if_pos rfl, if_pos hj, upd_same]
  · rw [if_neg e, upd_other _ _ (fun q => e q.symm)]; exact H j hj
end OwnArrays

theorem own_mask (x : Int32) : 0 ≤ (x &&& (2147483647 : Int32)).toInt := by
  have e : (x &&& (2147483647 : Int32)).toInt = x.toInt % 2 ^ 31 := Jvm.Kit.i32_mask x 2147483647 (k := 31) (by decide) (by decide)
  omega
theorem own_n0 {p v : Int32} (h : v = ((1 : Int32) + (p &&& (7 : Int32)))) : 1 ≤ v.toInt ∧ v.toInt ≤ 8 := by
  have e : (p &&& (7 : Int32)).toInt = p.toInt % 2 ^ 3 := Jvm.Kit.i32_mask p 7 (k := 3) (by decide) (by decide)
  have e1 : (1 : Int32).toInt = 1 := by decide
  rw [h, Jvm.Kit.i32_add (by omega) (by omega)]
  omega
theorem own_nz {p v : Int32} (h : v = ((1 : Int32) + (p &&& (7 : Int32)))) : v ≠ (0 : Int32) := fun e => by
  have := (own_n0 h).1
  rw [e] at this; exact absurd this (by decide)
theorem own_nn {v : Int32} (h : 0 ≤ v.toInt) : ¬ v < (0 : Int32) := by rw [Int32.lt_iff_toInt_lt, show (0 : Int32).toInt = 0 from by decide]; omega
theorem own_n {p v : Int32} (h : v = ((1 : Int32) + (p &&& (7 : Int32)))) : ¬ v < (0 : Int32) ∧ v.toNatClampNeg ≤ 8 := by
  have b := own_n0 h
  have q := own_nn (v := v) (by omega)
  have := nat_of q
  exact ⟨q, by omega⟩
theorem own_rg {p q v w : Int32} (h : v = ((1 : Int32) + (p &&& (7 : Int32)))) (hw : w = ((q &&& (2147483647 : Int32)) % v)) : ¬ w < (0 : Int32) ∧ w < v := by
  have b := own_n0 h
  have m := own_mask q
  have e : w.toInt = (q &&& (2147483647 : Int32)).toInt % v.toInt := by rw [hw]; exact Jvm.Kit.i32_rem_nonneg m
  have h1 := Int.emod_nonneg (q &&& (2147483647 : Int32)).toInt (b := v.toInt) (by omega)
  have h2 := Int.emod_lt_of_pos (q &&& (2147483647 : Int32)).toInt (b := v.toInt) (by omega)
  exact ⟨own_nn (by omega), by rw [Int32.lt_iff_toInt_lt]; omega⟩
theorem own_inj {v w : Int32} (hv : ¬ v < (0 : Int32)) (hw : ¬ w < (0 : Int32)) : v.toNatClampNeg = w.toNatClampNeg ↔ v = w := by
  refine ⟨fun e => Int32.toInt_inj.mp ?_, fun e => by rw [e]⟩
  rw [nat_of hv, nat_of hw, e]
def fA (x y : Int32) : Int32 := if x = y then (0 : Int32) else (1 : Int32)
theorem own_law {v w u z47 v72 v81 v90 L v109 v118 z135 e4 e5 z : Int32} (hv : ¬ v < (0 : Int32)) (hw : ¬ w < (0 : Int32)) (hu : ¬ u < (0 : Int32))
    (h72 : v72 = (fA ((fun _ => 0) v.toNatClampNeg) ((0 : Int32) + (1 : Int32))))
    (h81 : v81 = (fA ((upd (fun _ => 0) v.toNatClampNeg ((0 : Int32) + (1 : Int32))) w.toNatClampNeg) ((0 : Int32) + (1 : Int32))))
    (h90 : v90 = (fA ((upd (upd (fun _ => 0) v.toNatClampNeg ((0 : Int32) + (1 : Int32))) w.toNatClampNeg ((0 : Int32) + (1 : Int32))) v.toNatClampNeg) ((0 : Int32) + (1 : Int32))))
    (hL : L = (if z47 = (0 : Int32) then ((0 : Int32) + (1 : Int32)) else (((0 : Int32) + (1 : Int32)) + (1 : Int32))))
    (h109 : v109 = (fA ((upd (upd (upd (fun _ => 0) v.toNatClampNeg ((0 : Int32) + (1 : Int32))) w.toNatClampNeg ((0 : Int32) + (1 : Int32))) v.toNatClampNeg ((0 : Int32) + (1 : Int32))) u.toNatClampNeg) L))
    (h118 : v118 = (fA ((upd (upd (upd (upd (fun _ => 0) v.toNatClampNeg ((0 : Int32) + (1 : Int32))) w.toNatClampNeg ((0 : Int32) + (1 : Int32))) v.toNatClampNeg ((0 : Int32) + (1 : Int32))) u.toNatClampNeg L) w.toNatClampNeg) L))
    (h135 : z135 = (if w = v then (0 : Int32) else (1 : Int32)))
    (h4 : e4 = (if z47 = (0 : Int32) then (if u = v then (0 : Int32) else (if u = w then (0 : Int32) else (1 : Int32))) else (1 : Int32)))
    (h5 : e5 = (if z47 = (0 : Int32) then (0 : Int32) else (if w = u then (0 : Int32) else (1 : Int32))))
    (hz : z = (if v72 = (1 : Int32) then (if v81 = z135 then (if v90 = (0 : Int32) then (if v109 = e4 then (if v118 = e5 then (1 : Int32) else (0 : Int32)) else (0 : Int32)) else (0 : Int32)) else (0 : Int32)) else (0 : Int32))) : z = 1 := by
  have i1 := own_inj hw hv
  have i2 := own_inj hu hv
  have i3 := own_inj hu hw
  have i4 := own_inj hw hu
  have i5 := own_inj hv hw
  have c1 : ((0 : Int32) + (1 : Int32)) = 1 := by decide
  have c2 : ((1 : Int32) + (1 : Int32)) = 2 := by decide
  simp only [c1] at h72 h81 h90 hL h109 h118
  rw [c2] at hL
  have r1 : v72 = (1 : Int32) := by rw [h72]; decide
  have r2 : v81 = z135 := by
    rw [h81, h135]; simp only [fA, upd, i1]
    by_cases k : w = v
    · rw [if_pos k, if_pos k, if_pos rfl]
    · rw [if_neg k, if_neg k]; decide
  have r3 : v90 = (0 : Int32) := by
    rw [h90]; simp only [fA, upd, i5, if_true]
    split <;> rfl
  have r4 : v109 = e4 := by
    rw [h109, h4, hL]; simp only [fA, upd, i2, i3]
    by_cases k0 : z47 = (0 : Int32) <;> by_cases k1 : u = v <;> by_cases k2 : u = w <;> simp [k0, k1, k2]
  have r5 : v118 = e5 := by
    rw [h118, h5, hL]; simp only [fA, upd, i4, i1, if_true]
    by_cases k0 : z47 = (0 : Int32) <;> by_cases k1 : w = u <;> by_cases k2 : w = v <;> simp [k0, k1, k2]
  rw [hz, if_pos r1, if_pos r2, if_pos r3, if_pos r4, if_pos r5]

theorem d1_0 : decode prog_17_method_1_code 0 = .ok (.aload_n 0, 1) := by decide +kernel
theorem d1_1 : decode prog_17_method_1_code 1 = .ok (.invokespecial 1, 3) := by decide +kernel
theorem d1_4 : decode prog_17_method_1_code 4 = .ok (.aload_n 0, 1) := by decide +kernel
theorem d1_5 : decode prog_17_method_1_code 5 = .ok (.iload_n 1, 1) := by decide +kernel
theorem d1_6 : decode prog_17_method_1_code 6 = .ok (.newarray .int, 2) := by decide +kernel
theorem d1_8 : decode prog_17_method_1_code 8 = .ok (.putfield 7, 3) := by decide +kernel
theorem d1_11 : decode prog_17_method_1_code 11 = .ok (.return_, 1) := by decide +kernel
theorem d3_0 : decode prog_17_method_2_code 0 = .ok (.aload_n 0, 1) := by decide +kernel
theorem d3_1 : decode prog_17_method_2_code 1 = .ok (.getfield 13, 3) := by decide +kernel
theorem d3_4 : decode prog_17_method_2_code 4 = .ok (.ldc 19, 2) := by decide +kernel
theorem d3_6 : decode prog_17_method_2_code 6 = .ok (.if_icmp .ne 16, 3) := by decide +kernel
theorem d3_22 : decode prog_17_method_2_code 22 = .ok (.aload_n 0, 1) := by decide +kernel
theorem d3_23 : decode prog_17_method_2_code 23 = .ok (.dup, 1) := by decide +kernel
theorem d3_24 : decode prog_17_method_2_code 24 = .ok (.getfield 13, 3) := by decide +kernel
theorem d3_27 : decode prog_17_method_2_code 27 = .ok (.iconst 1, 1) := by decide +kernel
theorem d3_28 : decode prog_17_method_2_code 28 = .ok (.iadd, 1) := by decide +kernel
theorem d3_29 : decode prog_17_method_2_code 29 = .ok (.putfield 13, 3) := by decide +kernel
theorem d3_32 : decode prog_17_method_2_code 32 = .ok (.return_, 1) := by decide +kernel
theorem d4_0 : decode prog_17_method_4_code 0 = .ok (.aload_n 0, 1) := by decide +kernel
theorem d4_1 : decode prog_17_method_4_code 1 = .ok (.getfield 7, 3) := by decide +kernel
theorem d4_4 : decode prog_17_method_4_code 4 = .ok (.iload_n 1, 1) := by decide +kernel
theorem d4_5 : decode prog_17_method_4_code 5 = .ok (.iaload, 1) := by decide +kernel
theorem d4_6 : decode prog_17_method_4_code 6 = .ok (.aload_n 0, 1) := by decide +kernel
theorem d4_7 : decode prog_17_method_4_code 7 = .ok (.getfield 13, 3) := by decide +kernel
theorem d4_10 : decode prog_17_method_4_code 10 = .ok (.if_icmp .eq 7, 3) := by decide +kernel
theorem d4_17 : decode prog_17_method_4_code 17 = .ok (.iconst 0, 1) := by decide +kernel
theorem d4_18 : decode prog_17_method_4_code 18 = .ok (.istore_n 2, 1) := by decide +kernel
theorem d4_19 : decode prog_17_method_4_code 19 = .ok (.aload_n 0, 1) := by decide +kernel
theorem d4_20 : decode prog_17_method_4_code 20 = .ok (.getfield 7, 3) := by decide +kernel
theorem d4_23 : decode prog_17_method_4_code 23 = .ok (.iload_n 1, 1) := by decide +kernel
theorem d4_24 : decode prog_17_method_4_code 24 = .ok (.aload_n 0, 1) := by decide +kernel
theorem d4_25 : decode prog_17_method_4_code 25 = .ok (.getfield 13, 3) := by decide +kernel
theorem d4_28 : decode prog_17_method_4_code 28 = .ok (.iastore, 1) := by decide +kernel
theorem d4_29 : decode prog_17_method_4_code 29 = .ok (.iload_n 2, 1) := by decide +kernel
theorem d4_30 : decode prog_17_method_4_code 30 = .ok (.ireturn, 1) := by decide +kernel
theorem d4_13 : decode prog_17_method_4_code 13 = .ok (.iconst 1, 1) := by decide +kernel
theorem d4_14 : decode prog_17_method_4_code 14 = .ok (.goto 4, 3) := by decide +kernel
theorem pn_0 : plainName "com/example/serialis/serialis/DerivedGraph$OncePerList" = true := by first | (simp [plainName, overriddenIn]; done) | decide +kernel
theorem pn_1 : plainName "com/example/serialis/serialis/OncePerListAddPinLaw" = true := by first | (simp [plainName, overriddenIn]; done) | decide +kernel
theorem pd_0 : parseMethodDescriptor "(I)V" = some ⟨[.int], none⟩ := by decide +kernel
theorem pd_1 : parseMethodDescriptor "()V" = some ⟨[], none⟩ := by decide +kernel
theorem pd_2 : parseMethodDescriptor "(I)Z" = some ⟨[.int], some .boolean⟩ := by decide +kernel
def QC (Z : State) (a1 : Addr) (p2 : Int32) (u1 : Int32) (h0 : Heap) (n0 : Nat) (v : Option Value) (h : Heap) (L : List Loc) : Prop := ∃ b : Addr, v = none ∧ Fr n0 L ∧ (Keep h0 h [a1]) ∧ (h0.size ≤ b) ∧ (n0 ≤ b) ∧ (Fld Z h a1 "com/example/serialis/serialis/DerivedGraph$OncePerList" "listed" "[I" (.ref b)) ∧ (Fld Z h a1 "com/example/serialis/serialis/DerivedGraph$OncePerList" "list" "I" (.int u1)) ∧ (ArI Z h b p2 (fun _ => 0))
theorem ef_C (m : MethodId) (a1 : Addr) (p2 : Int32) : entryFrame m #[(.ref a1), (.int p2)] 2 = mkF m 0 #[.val (.ref a1), .val (.int p2)] [] := by first | (simp [entryFrame, mkF, argsToLocals, Value.category]; done) | rfl
set_option maxRecDepth 65536 in
set_option maxHeartbeats 40000000 in
theorem rmC (l : Launch) (Z : State) (a0 : Array Value) (hw : ∀ d ∈ tables_1, d.before a0 Z = true) (ws : List Jvm.Cond) (a1 : Addr) (p2 : Int32) (u1 : Int32) (h0 : Heap) (n0 : Nat) (Zs : n0 ≤ h0.size) (E_a1 : Exa Z h0 a1 "com/example/serialis/serialis/DerivedGraph$OncePerList") (F_listed_a1 : Fld Z h0 a1 "com/example/serialis/serialis/DerivedGraph$OncePerList" "listed" "[I" .null) (F_list_a1 : Fld Z h0 a1 "com/example/serialis/serialis/DerivedGraph$OncePerList" "list" "I" (.int u1)) (g_a1 : n0 ≤ a1) (hpn : ¬ p2 < (0 : Int32)) (hpc : p2.toNatClampNeg ≤ 8) :
    MetFree l (⟨"com/example/serialis/serialis/DerivedGraph$OncePerList", "<init>", "(I)V"⟩ : MethodName) (head1 (Jvm.Cond.code (⟨"com/example/serialis/serialis/DerivedGraph$OncePerList", "<init>", "(I)V"⟩ : MethodName) prog_17_method_1_code 2 none :: ws) ({ frames := 1, cells := 1, slots := 8, locals := 12 } : Room)) (fun a U => a = #[(.ref a1), (.int p2)] ∧ Z.Warmed39 U.vm ∧ U.heap = h0) (fun _ _ _ _ _ => True) (fun _ U o U' => ∃ v L, o = .returned v ∧ QC Z a1 p2 u1 h0 n0 v U'.heap L ∧ FrameEnd U o U' L ({ frames := 1, cells := 1, slots := 8, locals := 12 } : Room).cells ({ frames := 1, cells := 1, slots := 8, locals := 12 } : Room).slots) := by
  refine MetFree.of_bodySF (plainFor_of_name pn_0) hisR ?_
  intro p e s m args below meth c s₁ Bd hml0 hP hK
  obtain ⟨rfl, hZ, hh⟩ := hP
  have hx := Bd.exec
  have hby := Bd.bytes
  have hml : c.maxLocals = 2 := hml0
  have hown : s.vm.findClass "com/example/serialis/serialis/DerivedGraph$OncePerList" = some m.cls := findClass_of_methodNamed Bd.named
  have hnm := (name_of_methodNamed Bd.named Bd.method).1
  have X0 : Stand p l e ({ frames := 1, cells := 1, slots := 8, locals := 12 } : Room) s m #[(.ref a1), (.int p2)] below meth c s₁ [] 0 0 := Stand.of_body Bd
  have e0 : s₁.heap = h0 := by rw [← hh, Bd.state]; rfl
  have N0 := Fr.nil n0
  have pre0 : ∀ t, Steps p.tables e below (s₁.setTop (mkF m 0 #[.val (.ref a1), .val (.int p2)] [])) t → Steps p.tables e below (s₁.setTop (entryFrame m #[(.ref a1), (.int p2)] 2)) t := fun t k => castTop (ef_C m a1 p2) k
  have Kp : Keep h0 h0 [a1] := Keep.refl h0 [a1]
  obtain ⟨T1, X1, e1, st1⟩ := initO X0 hx hZ hown (hw _ (List.mem_of_getElem? (i := 7) rfl)) (hw _ (List.mem_of_getElem? (i := 8) rfl)) (hw _ (List.mem_of_getElem? (i := 9) rfl)) e0 (g := (mkF m 1 #[.val (.ref a1), .val (.int p2)] [(.ref a1)])) rfl (by rw [hml]; rfl) rfl (hb hby d1_1) (by decide) (W := 0) (by show 2 * 0 + _ ≤ _; exact Nat.le_of_eq rfl) (by decide)
  obtain ⟨T2, h2, k2, X2, e2, E2, A2, B2, st2⟩ := newPE X1 hx hZ (hw _ (List.mem_of_getElem? (i := 10) rfl)) e1 (g := (mkF m 6 #[.val (.ref a1), .val (.int p2)] [(.int p2), (.ref a1)])) rfl (hb hby d1_6) rfl hpn (cap := 8) hpc (by decide) (by decide) (by decide) (ad := "[I") (by decide)
  obtain ⟨b2, g2⟩ : ∃ z, z = h0.size := ⟨_, rfl⟩
  rw [← g2] at A2 B2 st2
  have g_b2 : n0 ≤ b2 := Nat.le_trans Zs (Nat.le_of_eq g2.symm)
  have sz_b2 : h0.size ≤ b2 := Nat.le_trans Kp.1 (Nat.le_of_eq g2.symm)
  have ne_a1_b2 : a1 ≠ b2 := Nat.ne_of_lt (Nat.lt_of_lt_of_le E_a1.lt (Nat.le_of_eq g2.symm))
  have Zs : n0 ≤ h2.size := Nat.le_trans Zs E2.1
  have E_a1 : Exa Z h2 a1 "com/example/serialis/serialis/DerivedGraph$OncePerList" := E_a1.ext E2
  have F_listed_a1 : Fld Z h2 a1 "com/example/serialis/serialis/DerivedGraph$OncePerList" "listed" "[I" .null := F_listed_a1.ext E2
  have F_list_a1 : Fld Z h2 a1 "com/example/serialis/serialis/DerivedGraph$OncePerList" "list" "I" (.int u1) := F_list_a1.ext E2
  have Kp : Keep h0 h2 [a1] := Kp.ext E2
  have E_b2 : Exa Z h2 b2 "[I" := B2
  have A_b2 : ArI Z h2 b2 p2 (fun _ => 0) := ArI.new A2 hpn
  obtain ⟨T3, h3, X3, e3, W3, st3⟩ := putF X2 hx hZ hown (host := "") (Or.inl (hw _ (List.mem_of_getElem? (i := 11) rfl))) Via.refl e2 F_listed_a1 E_a1 (Or.inr ⟨(hw _ (List.mem_of_getElem? (i := 12) rfl)), rfl, hnm⟩) (hw _ (List.mem_of_getElem? (i := 2) rfl)) (ty := (.array .int)) (by decide) rfl rfl (g := (mkF m 8 #[.val (.ref a1), .val (.int p2)] [(.ref b2), (.ref a1)])) rfl rfl (hb hby d1_8)
  have N3 := Fr.snoc X3 N0 g_a1
  have Zs : n0 ≤ h3.size := Nat.le_trans Zs (Keep.of_wr W3).1
  have E_a1 : Exa Z h3 a1 "com/example/serialis/serialis/DerivedGraph$OncePerList" := E_a1.wr W3
  have F_listed_a1 : Fld Z h3 a1 "com/example/serialis/serialis/DerivedGraph$OncePerList" "listed" "[I" (.ref b2) := F_listed_a1.same W3
  have F_list_a1 : Fld Z h3 a1 "com/example/serialis/serialis/DerivedGraph$OncePerList" "list" "I" (.int u1) := F_list_a1.other W3 (Or.inr (slot_ne (Or.inl (hw _ (List.mem_of_getElem? (i := 19) rfl))) (Or.inr (hw _ (List.mem_of_getElem? (i := 12) rfl))) (by decide) (t := .int) (t' := (.array .int)) (by decide) (by decide)))
  have Kp : Keep h0 h3 [a1] := Kp.wr W3 (Or.inl (List.mem_of_getElem? (i := 0) rfl))
  have E_b2 : Exa Z h3 b2 "[I" := E_b2.wr W3
  have A_b2 : ArI Z h3 b2 p2 (fun _ => 0) := A_b2.other W3 (Ne.symm ne_a1_b2)
  obtain ⟨fs, hr, hrun, hended, hW, hsame⟩ := X3.leave (v := none) (fun _ => rfl)
  refine ⟨_, _, pre0 _ ?_, hrun, hended, _, _, rfl, ?_, ⟨_, rfl⟩, hW, hsame.mono (by decide) (by decide)⟩
  · show Steps p.tables e below (s₁.setTop (mkF m 0 #[.val (.ref a1), .val (.int p2)] [])) _
    refine XS.aloadN X0.here hx rfl (hb hby d1_0) rfl rfl ?_
    show Steps p.tables e below (s₁.setTop (mkF m 1 #[.val (.ref a1), .val (.int p2)] [(.ref a1)])) _
    refine st1 _ ?_
    show Steps p.tables e below (T1.setTop (mkF m 4 #[.val (.ref a1), .val (.int p2)] [])) _
    refine XS.aloadN X1.here hx rfl (hb hby d1_4) rfl rfl ?_
    show Steps p.tables e below (T1.setTop (mkF m 5 #[.val (.ref a1), .val (.int p2)] [(.ref a1)])) _
    refine XS.iloadN X1.here hx rfl (hb hby d1_5) rfl ?_
    show Steps p.tables e below (T1.setTop (mkF m 6 #[.val (.ref a1), .val (.int p2)] [(.int p2), (.ref a1)])) _
    refine st2 _ ?_
    show Steps p.tables e below (T2.setTop (mkF m 8 #[.val (.ref a1), .val (.int p2)] [(.ref b2), (.ref a1)])) _
    refine st3 _ ?_
    show Steps p.tables e below (T3.setTop (mkF m 11 #[.val (.ref a1), .val (.int p2)] [])) _
    exact X3.returnOut hx Bd.returns (hb hby d1_11) hr
  · show QC Z a1 p2 u1 h0 n0 _ T3.heap _
    rw [e3]
    exact ⟨b2, rfl, N3, Kp, sz_b2, g_b2, F_listed_a1, F_list_a1, A_b2⟩
def QS (Z : State) (a1 : Addr) (w1 : Int32) (b : Addr) (h0 : Heap) (n0 : Nat) (v : Option Value) (h : Heap) (L : List Loc) : Prop := v = none ∧ Fr n0 L ∧ (Keep h0 h [a1]) ∧ (Fld Z h a1 "com/example/serialis/serialis/DerivedGraph$OncePerList" "list" "I" (.int (w1 + (1 : Int32)))) ∧ (Fld Z h a1 "com/example/serialis/serialis/DerivedGraph$OncePerList" "listed" "[I" (.ref b))
theorem ef_S (m : MethodId) (a1 : Addr) : entryFrame m #[(.ref a1)] 1 = mkF m 0 #[.val (.ref a1)] [] := by first | (simp [entryFrame, mkF, argsToLocals, Value.category]; done) | rfl
set_option maxRecDepth 65536 in
set_option maxHeartbeats 40000000 in
theorem rmS (l : Launch) (Z : State) (a0 : Array Value) (hw : ∀ d ∈ tables_1, d.before a0 Z = true) (ws : List Jvm.Cond) (a1 : Addr) (w1 : Int32) (b : Addr) (h0 : Heap) (n0 : Nat) (Zs : n0 ≤ h0.size) (E_a1 : Exa Z h0 a1 "com/example/serialis/serialis/DerivedGraph$OncePerList") (F_list_a1 : Fld Z h0 a1 "com/example/serialis/serialis/DerivedGraph$OncePerList" "list" "I" (.int w1)) (F_listed_a1 : Fld Z h0 a1 "com/example/serialis/serialis/DerivedGraph$OncePerList" "listed" "[I" (.ref b)) (g_a1 : n0 ≤ a1) (hp : ¬ w1 = (2147483647 : Int32)) :
    MetFree l (⟨"com/example/serialis/serialis/DerivedGraph$OncePerList", "start", "()V"⟩ : MethodName) (head1 (Jvm.Cond.code (⟨"com/example/serialis/serialis/DerivedGraph$OncePerList", "start", "()V"⟩ : MethodName) prog_17_method_2_code 1 none :: ws) ({ frames := 0, cells := 0, slots := 0, locals := 0 } : Room)) (fun a U => a = #[(.ref a1)] ∧ Z.Warmed39 U.vm ∧ U.heap = h0) (fun _ _ _ _ _ => True) (fun _ U o U' => ∃ v L, o = .returned v ∧ QS Z a1 w1 b h0 n0 v U'.heap L ∧ FrameEnd U o U' L ({ frames := 0, cells := 0, slots := 0, locals := 0 } : Room).cells ({ frames := 0, cells := 0, slots := 0, locals := 0 } : Room).slots) := by
  refine MetFree.of_bodySF (plainFor_of_name pn_0) hisR ?_
  intro p e s m args below meth c s₁ Bd hml0 hP hK
  obtain ⟨rfl, hZ, hh⟩ := hP
  have hx := Bd.exec
  have hby := Bd.bytes
  have hml : c.maxLocals = 1 := hml0
  have hown : s.vm.findClass "com/example/serialis/serialis/DerivedGraph$OncePerList" = some m.cls := findClass_of_methodNamed Bd.named
  have hnm := (name_of_methodNamed Bd.named Bd.method).1
  have X0 : Stand p l e ({ frames := 0, cells := 0, slots := 0, locals := 0 } : Room) s m #[(.ref a1)] below meth c s₁ [] 0 0 := Stand.of_body Bd
  have e0 : s₁.heap = h0 := by rw [← hh, Bd.state]; rfl
  have N0 := Fr.nil n0
  have pre0 : ∀ t, Steps p.tables e below (s₁.setTop (mkF m 0 #[.val (.ref a1)] [])) t → Steps p.tables e below (s₁.setTop (entryFrame m #[(.ref a1)] 1)) t := fun t k => castTop (ef_S m a1) k
  have Kp : Keep h0 h0 [a1] := Keep.refl h0 [a1]
  obtain ⟨T4, X4, e4, st4⟩ := getF X0 hx hZ hown (host := "") (Or.inl (hw _ (List.mem_of_getElem? (i := 18) rfl))) Via.refl e0 F_list_a1 (g := (mkF m 1 #[.val (.ref a1)] [(.ref a1)])) rfl rfl (hb hby d3_1)
  obtain ⟨T5, X5, e5, st5⟩ := getF X4 hx hZ hown (host := "") (Or.inl (hw _ (List.mem_of_getElem? (i := 18) rfl))) Via.refl e4 F_list_a1 (g := (mkF m 24 #[.val (.ref a1)] [(.ref a1), (.ref a1)])) rfl rfl (hb hby d3_24)
  obtain ⟨T6, h6, X6, e6, W6, st6⟩ := putF X5 hx hZ hown (host := "") (Or.inl (hw _ (List.mem_of_getElem? (i := 18) rfl))) Via.refl e5 F_list_a1 E_a1 (Or.inl (hw _ (List.mem_of_getElem? (i := 19) rfl))) (hw _ (List.mem_of_getElem? (i := 2) rfl)) (ty := .int) (by decide) rfl rfl (g := (mkF m 29 #[.val (.ref a1)] [(.int (w1 + (1 : Int32))), (.ref a1)])) rfl rfl (hb hby d3_29)
  have N6 := Fr.snoc X6 N0 g_a1
  have Zs : n0 ≤ h6.size := Nat.le_trans Zs (Keep.of_wr W6).1
  have E_a1 : Exa Z h6 a1 "com/example/serialis/serialis/DerivedGraph$OncePerList" := E_a1.wr W6
  have F_list_a1 : Fld Z h6 a1 "com/example/serialis/serialis/DerivedGraph$OncePerList" "list" "I" (.int (w1 + (1 : Int32))) := F_list_a1.same W6
  have F_listed_a1 : Fld Z h6 a1 "com/example/serialis/serialis/DerivedGraph$OncePerList" "listed" "[I" (.ref b) := F_listed_a1.other W6 (Or.inr (slot_ne (Or.inr (hw _ (List.mem_of_getElem? (i := 12) rfl))) (Or.inl (hw _ (List.mem_of_getElem? (i := 19) rfl))) (by decide) (t := (.array .int)) (t' := .int) (by decide) (by decide)))
  have Kp : Keep h0 h6 [a1] := Kp.wr W6 (Or.inl (List.mem_of_getElem? (i := 0) rfl))
  obtain ⟨fs, hr, hrun, hended, hW, hsame⟩ := X6.leave (v := none) (fun _ => rfl)
  refine ⟨_, _, pre0 _ ?_, hrun, hended, _, _, rfl, ?_, ⟨_, rfl⟩, hW, hsame.mono (by decide) (by decide)⟩
  · show Steps p.tables e below (s₁.setTop (mkF m 0 #[.val (.ref a1)] [])) _
    refine XS.aloadN X0.here hx rfl (hb hby d3_0) rfl rfl ?_
    show Steps p.tables e below (s₁.setTop (mkF m 1 #[.val (.ref a1)] [(.ref a1)])) _
    refine st4 _ ?_
    show Steps p.tables e below (T4.setTop (mkF m 4 #[.val (.ref a1)] [(.int w1)])) _
    refine X4.ldcInt hx hown (mvT hZ (hw _ (List.mem_of_getElem? (i := 20) rfl))) (g := (mkF m 4 #[.val (.ref a1)] [(.int w1)])) rfl (hb hby d3_4) _ ?_
    show Steps p.tables e below (T4.setTop (mkF m 6 #[.val (.ref a1)] [(.int (2147483647 : Int32)), (.int w1)])) _
    refine XS.icmpYes X4.here hx rfl (pc0 := 6) (pc' := 22) rfl (hb hby d3_6) rfl (feq hp).2 (by decide) (by decide) ?_
    show Steps p.tables e below (T4.setTop (mkF m 22 #[.val (.ref a1)] [])) _
    refine XS.aloadN X4.here hx rfl (hb hby d3_22) rfl rfl ?_
    show Steps p.tables e below (T4.setTop (mkF m 23 #[.val (.ref a1)] [(.ref a1)])) _
    refine XS.dup X4.here hx rfl (hb hby d3_23) rfl rfl ?_
    show Steps p.tables e below (T4.setTop (mkF m 24 #[.val (.ref a1)] [(.ref a1), (.ref a1)])) _
    refine st5 _ ?_
    show Steps p.tables e below (T5.setTop (mkF m 27 #[.val (.ref a1)] [(.int w1), (.ref a1)])) _
    refine XS.iconst X5.here hx rfl (hb hby d3_27) ?_
    show Steps p.tables e below (T5.setTop (mkF m 28 #[.val (.ref a1)] [(.int (1 : Int32)), (.int w1), (.ref a1)])) _
    refine XS.iadd X5.here hx rfl (hb hby d3_28) rfl ?_
    show Steps p.tables e below (T5.setTop (mkF m 29 #[.val (.ref a1)] [(.int (w1 + (1 : Int32))), (.ref a1)])) _
    refine st6 _ ?_
    show Steps p.tables e below (T6.setTop (mkF m 32 #[.val (.ref a1)] [])) _
    exact X6.returnOut hx Bd.returns (hb hby d3_32) hr
  · show QS Z a1 w1 b h0 n0 _ T6.heap _
    rw [e6]
    exact ⟨rfl, N6, Kp, F_list_a1, F_listed_a1⟩
def QA (Z : State) (a1 : Addr) (p2 : Int32) (w1 : Int32) (b : Addr) (n : Int32) (f : Nat → Int32) (h0 : Heap) (n0 : Nat) (v : Option Value) (h : Heap) (L : List Loc) : Prop := v = some (.int (fA (f p2.toNatClampNeg) w1)) ∧ Fr n0 L ∧ (Keep h0 h [b]) ∧ (ArI Z h b n (upd f p2.toNatClampNeg w1))
theorem ef_A (m : MethodId) (a1 : Addr) (p2 : Int32) : entryFrame m #[(.ref a1), (.int p2)] 3 = mkF m 0 #[.val (.ref a1), .val (.int p2), .unset] [] := by first | (simp [entryFrame, mkF, argsToLocals, Value.category]; done) | rfl
set_option maxRecDepth 65536 in
set_option maxHeartbeats 40000000 in
theorem rmA (l : Launch) (Z : State) (a0 : Array Value) (hw : ∀ d ∈ tables_1, d.before a0 Z = true) (ws : List Jvm.Cond) (a1 : Addr) (p2 : Int32) (w1 : Int32) (b : Addr) (n : Int32) (f : Nat → Int32) (h0 : Heap) (n0 : Nat) (Zs : n0 ≤ h0.size) (F_list_a1 : Fld Z h0 a1 "com/example/serialis/serialis/DerivedGraph$OncePerList" "list" "I" (.int w1)) (F_listed_a1 : Fld Z h0 a1 "com/example/serialis/serialis/DerivedGraph$OncePerList" "listed" "[I" (.ref b)) (A_b : ArI Z h0 b n f) (g_b : n0 ≤ b) (ne_a1_b : a1 ≠ b) (hj : ¬ p2 < (0 : Int32) ∧ p2 < n) :
    MetFree l (⟨"com/example/serialis/serialis/DerivedGraph$OncePerList", "add", "(I)Z"⟩ : MethodName) (head1 (Jvm.Cond.code (⟨"com/example/serialis/serialis/DerivedGraph$OncePerList", "add", "(I)Z"⟩ : MethodName) prog_17_method_4_code 3 (some .boolean) :: ws) ({ frames := 0, cells := 0, slots := 0, locals := 0 } : Room)) (fun a U => a = #[(.ref a1), (.int p2)] ∧ Z.Warmed39 U.vm ∧ U.heap = h0) (fun _ _ _ _ _ => True) (fun _ U o U' => ∃ v L, o = .returned v ∧ QA Z a1 p2 w1 b n f h0 n0 v U'.heap L ∧ FrameEnd U o U' L ({ frames := 0, cells := 0, slots := 0, locals := 0 } : Room).cells ({ frames := 0, cells := 0, slots := 0, locals := 0 } : Room).slots) := by
  refine MetFree.of_bodySF (plainFor_of_name pn_0) hisR ?_
  intro p e s m args below meth c s₁ Bd hml0 hP hK
  obtain ⟨rfl, hZ, hh⟩ := hP
  have hx := Bd.exec
  have hby := Bd.bytes
  have hml : c.maxLocals = 3 := hml0
  have hown : s.vm.findClass "com/example/serialis/serialis/DerivedGraph$OncePerList" = some m.cls := findClass_of_methodNamed Bd.named
  have hnm := (name_of_methodNamed Bd.named Bd.method).1
  have X0 : Stand p l e ({ frames := 0, cells := 0, slots := 0, locals := 0 } : Room) s m #[(.ref a1), (.int p2)] below meth c s₁ [] 0 0 := Stand.of_body Bd
  have e0 : s₁.heap = h0 := by rw [← hh, Bd.state]; rfl
  have N0 := Fr.nil n0
  have pre0 : ∀ t, Steps p.tables e below (s₁.setTop (mkF m 0 #[.val (.ref a1), .val (.int p2), .unset] [])) t → Steps p.tables e below (s₁.setTop (entryFrame m #[(.ref a1), (.int p2)] 3)) t := fun t k => castTop (ef_A m a1 p2) k
  have Kp : Keep h0 h0 [b] := Keep.refl h0 [b]
  obtain ⟨T7, X7, e7, st7⟩ := getF X0 hx hZ hown (host := "") (Or.inl (hw _ (List.mem_of_getElem? (i := 11) rfl))) Via.refl e0 F_listed_a1 (g := (mkF m 1 #[.val (.ref a1), .val (.int p2), .unset] [(.ref a1)])) rfl rfl (hb hby d4_1)
  obtain ⟨cl8, Ar8, hs8, hin8, hat8⟩ := ArI.open A_b hj
  obtain ⟨T9, X9, e9, st9⟩ := getF X7 hx hZ hown (host := "") (Or.inl (hw _ (List.mem_of_getElem? (i := 18) rfl))) Via.refl e7 F_list_a1 (g := (mkF m 7 #[.val (.ref a1), .val (.int p2), .unset] [(.ref a1), (.int (f p2.toNatClampNeg))])) rfl rfl (hb hby d4_7)
  have pre10 : ∀ t, Steps p.tables e below (T9.setTop (mkF m 10 #[.val (.ref a1), .val (.int p2), .unset] [(.int w1), (.int (f p2.toNatClampNeg))])) t → Steps p.tables e below (s₁.setTop (entryFrame m #[(.ref a1), (.int p2)] 3)) t := fun t k => pre0 t (by
    show Steps p.tables e below (s₁.setTop (mkF m 0 #[.val (.ref a1), .val (.int p2), .unset] [])) _
    refine XS.aloadN X0.here hx rfl (hb hby d4_0) rfl rfl ?_
    show Steps p.tables e below (s₁.setTop (mkF m 1 #[.val (.ref a1), .val (.int p2), .unset] [(.ref a1)])) _
    refine st7 _ ?_
    show Steps p.tables e below (T7.setTop (mkF m 4 #[.val (.ref a1), .val (.int p2), .unset] [(.ref b)])) _
    refine XS.iloadN X7.here hx rfl (hb hby d4_4) rfl ?_
    show Steps p.tables e below (T7.setTop (mkF m 5 #[.val (.ref a1), .val (.int p2), .unset] [(.int p2), (.ref b)])) _
    refine X7.iaload hx (j := p2) (v := (.int (f p2.toNatClampNeg))) (by rw [e7]; exact Ar8.1) (State.isArrayOf_alike hZ.alike Ar8.2.1) Ar8.2.2 hin8 hat8 (g := (mkF m 5 #[.val (.ref a1), .val (.int p2), .unset] [(.int p2), (.ref b)])) rfl rfl (hb hby d4_5) _ ?_
    show Steps p.tables e below (T7.setTop (mkF m 6 #[.val (.ref a1), .val (.int p2), .unset] [(.int (f p2.toNatClampNeg))])) _
    refine XS.aloadN X7.here hx rfl (hb hby d4_6) rfl rfl ?_
    show Steps p.tables e below (T7.setTop (mkF m 7 #[.val (.ref a1), .val (.int p2), .unset] [(.ref a1), (.int (f p2.toNatClampNeg))])) _
    refine st9 _ ?_
    exact k)
  by_cases hc10 : (f p2.toNatClampNeg) = w1
  ·
    obtain ⟨T11, X11, e11, st11⟩ := getF X9 hx hZ hown (host := "") (Or.inl (hw _ (List.mem_of_getElem? (i := 11) rfl))) Via.refl e9 F_listed_a1 (g := (mkF m 20 #[.val (.ref a1), .val (.int p2), .val (.int (0 : Int32))] [(.ref a1)])) rfl rfl (hb hby d4_20)
    obtain ⟨T12, X12, e12, st12⟩ := getF X11 hx hZ hown (host := "") (Or.inl (hw _ (List.mem_of_getElem? (i := 18) rfl))) Via.refl e11 F_list_a1 (g := (mkF m 25 #[.val (.ref a1), .val (.int p2), .val (.int (0 : Int32))] [(.ref a1), (.int p2), (.ref b)])) rfl rfl (hb hby d4_25)
    obtain ⟨cl13, Ar13, hs13, hin13, hat13⟩ := ArI.open A_b hj
    obtain ⟨T14, h14, X14, e14, W14, st14⟩ := stI X12 hx hZ e12 Ar13 (j := p2) hin13 (g := (mkF m 28 #[.val (.ref a1), .val (.int p2), .val (.int (0 : Int32))] [(.int w1), (.int p2), (.ref b)])) rfl rfl (hb hby d4_28)
    have N14 := Fr.snoc X14 N0 g_b
    have Zs : n0 ≤ h14.size := Nat.le_trans Zs (Keep.of_wr W14).1
    have F_list_a1 : Fld Z h14 a1 "com/example/serialis/serialis/DerivedGraph$OncePerList" "list" "I" (.int w1) := F_list_a1.other W14 (Or.inl ne_a1_b)
    have F_listed_a1 : Fld Z h14 a1 "com/example/serialis/serialis/DerivedGraph$OncePerList" "listed" "[I" (.ref b) := F_listed_a1.other W14 (Or.inl ne_a1_b)
    have Kp : Keep h0 h14 [b] := Kp.wr W14 (Or.inl (List.mem_of_getElem? (i := 0) rfl))
    have A_b : ArI Z h14 b n (upd f p2.toNatClampNeg w1) := ArI.set A_b W14
    obtain ⟨fs, hr, hrun, hended, hW, hsame⟩ := X14.leave (v := some (.int (0 : Int32))) (fun h => by rw [Bd.returns] at h; cases h)
    refine ⟨_, _, pre10 _ ?_, hrun, hended, _, _, rfl, ?_, ⟨_, rfl⟩, hW, hsame.mono (by decide) (by decide)⟩
    · show Steps p.tables e below (T9.setTop (mkF m 10 #[.val (.ref a1), .val (.int p2), .unset] [(.int w1), (.int (f p2.toNatClampNeg))])) _
      refine XS.icmpYes X9.here hx rfl (pc0 := 10) (pc' := 17) rfl (hb hby d4_10) rfl (teq hc10).1 (by decide) (by decide) ?_
      show Steps p.tables e below (T9.setTop (mkF m 17 #[.val (.ref a1), .val (.int p2), .unset] [])) _
      refine XS.iconst X9.here hx rfl (hb hby d4_17) ?_
      show Steps p.tables e below (T9.setTop (mkF m 18 #[.val (.ref a1), .val (.int p2), .unset] [(.int (0 : Int32))])) _
      refine XS.istoreN X9.here hx rfl (hb hby d4_18) rfl (l' := #[.val (.ref a1), .val (.int p2), .val (.int (0 : Int32))]) rfl ?_
      show Steps p.tables e below (T9.setTop (mkF m 19 #[.val (.ref a1), .val (.int p2), .val (.int (0 : Int32))] [])) _
      refine XS.aloadN X9.here hx rfl (hb hby d4_19) rfl rfl ?_
      show Steps p.tables e below (T9.setTop (mkF m 20 #[.val (.ref a1), .val (.int p2), .val (.int (0 : Int32))] [(.ref a1)])) _
      refine st11 _ ?_
      show Steps p.tables e below (T11.setTop (mkF m 23 #[.val (.ref a1), .val (.int p2), .val (.int (0 : Int32))] [(.ref b)])) _
      refine XS.iloadN X11.here hx rfl (hb hby d4_23) rfl ?_
      show Steps p.tables e below (T11.setTop (mkF m 24 #[.val (.ref a1), .val (.int p2), .val (.int (0 : Int32))] [(.int p2), (.ref b)])) _
      refine XS.aloadN X11.here hx rfl (hb hby d4_24) rfl rfl ?_
      show Steps p.tables e below (T11.setTop (mkF m 25 #[.val (.ref a1), .val (.int p2), .val (.int (0 : Int32))] [(.ref a1), (.int p2), (.ref b)])) _
      refine st12 _ ?_
      show Steps p.tables e below (T12.setTop (mkF m 28 #[.val (.ref a1), .val (.int p2), .val (.int (0 : Int32))] [(.int w1), (.int p2), (.ref b)])) _
      refine st14 _ ?_
      show Steps p.tables e below (T14.setTop (mkF m 29 #[.val (.ref a1), .val (.int p2), .val (.int (0 : Int32))] [])) _
      refine XS.iloadN X14.here hx rfl (hb hby d4_29) rfl ?_
      show Steps p.tables e below (T14.setTop (mkF m 30 #[.val (.ref a1), .val (.int p2), .val (.int (0 : Int32))] [(.int (0 : Int32))])) _
      exact retN X14 hx (t := .boolean) Bd.returns (by simp) (hb hby d4_30) hr
    · show QA Z a1 p2 w1 b n f h0 n0 _ T14.heap _
      rw [e14]
      exact ⟨congrArg some (congrArg Value.int (by rw [fA, if_pos hc10])), N14, Kp, A_b⟩
  ·
    obtain ⟨T15, X15, e15, st15⟩ := getF X9 hx hZ hown (host := "") (Or.inl (hw _ (List.mem_of_getElem? (i := 11) rfl))) Via.refl e9 F_listed_a1 (g := (mkF m 20 #[.val (.ref a1), .val (.int p2), .val (.int (1 : Int32))] [(.ref a1)])) rfl rfl (hb hby d4_20)
    obtain ⟨T16, X16, e16, st16⟩ := getF X15 hx hZ hown (host := "") (Or.inl (hw _ (List.mem_of_getElem? (i := 18) rfl))) Via.refl e15 F_list_a1 (g := (mkF m 25 #[.val (.ref a1), .val (.int p2), .val (.int (1 : Int32))] [(.ref a1), (.int p2), (.ref b)])) rfl rfl (hb hby d4_25)
    obtain ⟨cl17, Ar17, hs17, hin17, hat17⟩ := ArI.open A_b hj
    obtain ⟨T18, h18, X18, e18, W18, st18⟩ := stI X16 hx hZ e16 Ar17 (j := p2) hin17 (g := (mkF m 28 #[.val (.ref a1), .val (.int p2), .val (.int (1 : Int32))] [(.int w1), (.int p2), (.ref b)])) rfl rfl (hb hby d4_28)
    have N18 := Fr.snoc X18 N0 g_b
    have Zs : n0 ≤ h18.size := Nat.le_trans Zs (Keep.of_wr W18).1
    have F_list_a1 : Fld Z h18 a1 "com/example/serialis/serialis/DerivedGraph$OncePerList" "list" "I" (.int w1) := F_list_a1.other W18 (Or.inl ne_a1_b)
    have F_listed_a1 : Fld Z h18 a1 "com/example/serialis/serialis/DerivedGraph$OncePerList" "listed" "[I" (.ref b) := F_listed_a1.other W18 (Or.inl ne_a1_b)
    have Kp : Keep h0 h18 [b] := Kp.wr W18 (Or.inl (List.mem_of_getElem? (i := 0) rfl))
    have A_b : ArI Z h18 b n (upd f p2.toNatClampNeg w1) := ArI.set A_b W18
    obtain ⟨fs, hr, hrun, hended, hW, hsame⟩ := X18.leave (v := some (.int (1 : Int32))) (fun h => by rw [Bd.returns] at h; cases h)
    refine ⟨_, _, pre10 _ ?_, hrun, hended, _, _, rfl, ?_, ⟨_, rfl⟩, hW, hsame.mono (by decide) (by decide)⟩
    · show Steps p.tables e below (T9.setTop (mkF m 10 #[.val (.ref a1), .val (.int p2), .unset] [(.int w1), (.int (f p2.toNatClampNeg))])) _
      refine XS.icmpNo X9.here hx rfl (hb hby d4_10) rfl (feq hc10).1 ?_
      show Steps p.tables e below (T9.setTop (mkF m 13 #[.val (.ref a1), .val (.int p2), .unset] [])) _
      refine XS.iconst X9.here hx rfl (hb hby d4_13) ?_
      show Steps p.tables e below (T9.setTop (mkF m 14 #[.val (.ref a1), .val (.int p2), .unset] [(.int (1 : Int32))])) _
      refine XS.goto X9.here hx rfl (pc0 := 14) (pc' := 18) rfl (hb hby d4_14) (by decide) (by decide) ?_
      show Steps p.tables e below (T9.setTop (mkF m 18 #[.val (.ref a1), .val (.int p2), .unset] [(.int (1 : Int32))])) _
      refine XS.istoreN X9.here hx rfl (hb hby d4_18) rfl (l' := #[.val (.ref a1), .val (.int p2), .val (.int (1 : Int32))]) rfl ?_
      show Steps p.tables e below (T9.setTop (mkF m 19 #[.val (.ref a1), .val (.int p2), .val (.int (1 : Int32))] [])) _
      refine XS.aloadN X9.here hx rfl (hb hby d4_19) rfl rfl ?_
      show Steps p.tables e below (T9.setTop (mkF m 20 #[.val (.ref a1), .val (.int p2), .val (.int (1 : Int32))] [(.ref a1)])) _
      refine st15 _ ?_
      show Steps p.tables e below (T15.setTop (mkF m 23 #[.val (.ref a1), .val (.int p2), .val (.int (1 : Int32))] [(.ref b)])) _
      refine XS.iloadN X15.here hx rfl (hb hby d4_23) rfl ?_
      show Steps p.tables e below (T15.setTop (mkF m 24 #[.val (.ref a1), .val (.int p2), .val (.int (1 : Int32))] [(.int p2), (.ref b)])) _
      refine XS.aloadN X15.here hx rfl (hb hby d4_24) rfl rfl ?_
      show Steps p.tables e below (T15.setTop (mkF m 25 #[.val (.ref a1), .val (.int p2), .val (.int (1 : Int32))] [(.ref a1), (.int p2), (.ref b)])) _
      refine st16 _ ?_
      show Steps p.tables e below (T16.setTop (mkF m 28 #[.val (.ref a1), .val (.int p2), .val (.int (1 : Int32))] [(.int w1), (.int p2), (.ref b)])) _
      refine st18 _ ?_
      show Steps p.tables e below (T18.setTop (mkF m 29 #[.val (.ref a1), .val (.int p2), .val (.int (1 : Int32))] [])) _
      refine XS.iloadN X18.here hx rfl (hb hby d4_29) rfl ?_
      show Steps p.tables e below (T18.setTop (mkF m 30 #[.val (.ref a1), .val (.int p2), .val (.int (1 : Int32))] [(.int (1 : Int32))])) _
      exact retN X18 hx (t := .boolean) Bd.returns (by simp) (hb hby d4_30) hr
    · show QA Z a1 p2 w1 b n f h0 n0 _ T18.heap _
      rw [e18]
      exact ⟨congrArg some (congrArg Value.int (by rw [fA, if_neg hc10])), N18, Kp, A_b⟩
def Q0 (Z : State) (p1 : Int32) (p2 : Int32) (p3 : Int32) (p4 : Int32) (p5 : Int32) (h0 : Heap) (n0 : Nat) (v : Option Value) (h : Heap) (L : List Loc) : Prop := v = some (.int (1 : Int32)) ∧ Fr n0 L
theorem ef_0 (m : MethodId) (p1 : Int32) (p2 : Int32) (p3 : Int32) (p4 : Int32) (p5 : Int32) : entryFrame m #[(.int p1), (.int p2), (.int p3), (.int p4), (.int p5)] maxLocals = mkF m 0 #[.val (.int p1), .val (.int p2), .val (.int p3), .val (.int p4), .val (.int p5), .unset, .unset, .unset, .unset, .unset, .unset, .unset, .unset, .unset, .unset, .unset, .unset, .unset, .unset, .unset, .unset] [] := by first | (simp [entryFrame, mkF, argsToLocals, Value.category, maxLocals]; done) | rfl
set_option maxRecDepth 65536 in
set_option maxHeartbeats 40000000 in
theorem rm0 (l : Launch) (Z : State) (a0 : Array Value) (hw : ∀ d ∈ tables_1, d.before a0 Z = true) (ws : List Jvm.Cond) (p1 : Int32) (p2 : Int32) (p3 : Int32) (p4 : Int32) (p5 : Int32) (h0 : Heap) (n0 : Nat) (Zs : n0 ≤ h0.size)  :
    MetFree l x (head1 (Jvm.Cond.code x code maxLocals ret :: ws) room_1) (fun a U => a = #[(.int p1), (.int p2), (.int p3), (.int p4), (.int p5)] ∧ Z.Warmed39 U.vm ∧ U.heap = h0) (fun _ _ _ _ _ => True) (fun _ U o U' => ∃ v L, o = .returned v ∧ Q0 Z p1 p2 p3 p4 p5 h0 n0 v U'.heap L ∧ FrameEnd U o U' L room_1.cells room_1.slots) := by
  refine MetFree.of_bodySF (plainFor_of_name pn_1) hisR ?_
  intro p e s m args below meth c s₁ Bd hml0 hP hK
  obtain ⟨rfl, hZ, hh⟩ := hP
  have hx := Bd.exec
  have hby := Bd.bytes
  have hml : c.maxLocals = 21 := hml0
  have hown : s.vm.findClass "com/example/serialis/serialis/OncePerListAddPinLaw" = some m.cls := findClass_of_methodNamed Bd.named
  have hnm := (name_of_methodNamed Bd.named Bd.method).1
  have X0 : Stand p l e room_1 s m #[(.int p1), (.int p2), (.int p3), (.int p4), (.int p5)] below meth c s₁ [] 0 0 := Stand.of_body Bd
  have e0 : s₁.heap = h0 := by rw [← hh, Bd.state]; rfl
  have N0 := Fr.nil n0
  have pre0 : ∀ t, Steps p.tables e below (s₁.setTop (mkF m 0 #[.val (.int p1), .val (.int p2), .val (.int p3), .val (.int p4), .val (.int p5), .unset, .unset, .unset, .unset, .unset, .unset, .unset, .unset, .unset, .unset, .unset, .unset, .unset, .unset, .unset, .unset] [])) t → Steps p.tables e below (s₁.setTop (entryFrame m #[(.int p1), (.int p2), (.int p3), (.int p4), (.int p5)] maxLocals)) t := fun t k => castTop (ef_0 m p1 p2 p3 p4 p5) k
  obtain ⟨v6, hv6⟩ : ∃ z : Int32, z = ((1 : Int32) + (p1 &&& (7 : Int32))) := ⟨_, rfl⟩
  have pre19 : ∀ t, Steps p.tables e below (s₁.setTop (mkF m 8 #[.val (.int p1), .val (.int p2), .val (.int p3), .val (.int p4), .val (.int p5), .val (.int v6), .unset, .unset, .unset, .unset, .unset, .unset, .unset, .unset, .unset, .unset, .unset, .unset, .unset, .unset, .unset] [])) t → Steps p.tables e below (s₁.setTop (entryFrame m #[(.int p1), (.int p2), (.int p3), (.int p4), (.int p5)] maxLocals)) t := fun t k => pre0 t (by
    show Steps p.tables e below (s₁.setTop (mkF m 0 #[.val (.int p1), .val (.int p2), .val (.int p3), .val (.int p4), .val (.int p5), .unset, .unset, .unset, .unset, .unset, .unset, .unset, .unset, .unset, .unset, .unset, .unset, .unset, .unset, .unset, .unset] [])) _
    refine XS.iconst X0.here hx rfl (hb hby at_0) ?_
    show Steps p.tables e below (s₁.setTop (mkF m 1 #[.val (.int p1), .val (.int p2), .val (.int p3), .val (.int p4), .val (.int p5), .unset, .unset, .unset, .unset, .unset, .unset, .unset, .unset, .unset, .unset, .unset, .unset, .unset, .unset, .unset, .unset] [(.int (1 : Int32))])) _
    refine XS.iloadN X0.here hx rfl (hb hby at_1) rfl ?_
    show Steps p.tables e below (s₁.setTop (mkF m 2 #[.val (.int p1), .val (.int p2), .val (.int p3), .val (.int p4), .val (.int p5), .unset, .unset, .unset, .unset, .unset, .unset, .unset, .unset, .unset, .unset, .unset, .unset, .unset, .unset, .unset, .unset] [(.int p1), (.int (1 : Int32))])) _
    refine XS.bipush X0.here hx rfl (hb hby at_2) ?_
    show Steps p.tables e below (s₁.setTop (mkF m 4 #[.val (.int p1), .val (.int p2), .val (.int p3), .val (.int p4), .val (.int p5), .unset, .unset, .unset, .unset, .unset, .unset, .unset, .unset, .unset, .unset, .unset, .unset, .unset, .unset, .unset, .unset] [(.int (7 : Int32)), (.int p1), (.int (1 : Int32))])) _
    refine XS.iand X0.here hx rfl (hb hby at_4) rfl ?_
    show Steps p.tables e below (s₁.setTop (mkF m 5 #[.val (.int p1), .val (.int p2), .val (.int p3), .val (.int p4), .val (.int p5), .unset, .unset, .unset, .unset, .unset, .unset, .unset, .unset, .unset, .unset, .unset, .unset, .unset, .unset, .unset, .unset] [(.int (p1 &&& (7 : Int32))), (.int (1 : Int32))])) _
    refine XS.iadd X0.here hx rfl (hb hby at_5) rfl ?_
    show Steps p.tables e below (s₁.setTop (mkF m 6 #[.val (.int p1), .val (.int p2), .val (.int p3), .val (.int p4), .val (.int p5), .unset, .unset, .unset, .unset, .unset, .unset, .unset, .unset, .unset, .unset, .unset, .unset, .unset, .unset, .unset, .unset] [(.int ((1 : Int32) + (p1 &&& (7 : Int32))))])) _
    refine XS.istore X0.here hx rfl (hb hby at_6) rfl (l' := #[.val (.int p1), .val (.int p2), .val (.int p3), .val (.int p4), .val (.int p5), .val (.int ((1 : Int32) + (p1 &&& (7 : Int32)))), .unset, .unset, .unset, .unset, .unset, .unset, .unset, .unset, .unset, .unset, .unset, .unset, .unset, .unset, .unset]) rfl ?_
    rw [hv6] at k
    exact k)
  obtain ⟨v15, hv15⟩ : ∃ z : Int32, z = ((p2 &&& (2147483647 : Int32)) % v6) := ⟨_, rfl⟩
  have pre20 : ∀ t, Steps p.tables e below (s₁.setTop (mkF m 17 #[.val (.int p1), .val (.int p2), .val (.int p3), .val (.int p4), .val (.int p5), .val (.int v6), .val (.int v15), .unset, .unset, .unset, .unset, .unset, .unset, .unset, .unset, .unset, .unset, .unset, .unset, .unset, .unset] [])) t → Steps p.tables e below (s₁.setTop (entryFrame m #[(.int p1), (.int p2), (.int p3), (.int p4), (.int p5)] maxLocals)) t := fun t k => pre19 t (by
    show Steps p.tables e below (s₁.setTop (mkF m 8 #[.val (.int p1), .val (.int p2), .val (.int p3), .val (.int p4), .val (.int p5), .val (.int v6), .unset, .unset, .unset, .unset, .unset, .unset, .unset, .unset, .unset, .unset, .unset, .unset, .unset, .unset, .unset] [])) _
    refine XS.iloadN X0.here hx rfl (hb hby at_8) rfl ?_
    show Steps p.tables e below (s₁.setTop (mkF m 9 #[.val (.int p1), .val (.int p2), .val (.int p3), .val (.int p4), .val (.int p5), .val (.int v6), .unset, .unset, .unset, .unset, .unset, .unset, .unset, .unset, .unset, .unset, .unset, .unset, .unset, .unset, .unset] [(.int p2)])) _
    refine X0.ldcInt hx hown (mvT hZ (hw _ (List.mem_of_getElem? (i := 0) rfl))) (g := (mkF m 9 #[.val (.int p1), .val (.int p2), .val (.int p3), .val (.int p4), .val (.int p5), .val (.int v6), .unset, .unset, .unset, .unset, .unset, .unset, .unset, .unset, .unset, .unset, .unset, .unset, .unset, .unset, .unset] [(.int p2)])) rfl (hb hby at_9) _ ?_
    show Steps p.tables e below (s₁.setTop (mkF m 11 #[.val (.int p1), .val (.int p2), .val (.int p3), .val (.int p4), .val (.int p5), .val (.int v6), .unset, .unset, .unset, .unset, .unset, .unset, .unset, .unset, .unset, .unset, .unset, .unset, .unset, .unset, .unset] [(.int (2147483647 : Int32)), (.int p2)])) _
    refine XS.iand X0.here hx rfl (hb hby at_11) rfl ?_
    show Steps p.tables e below (s₁.setTop (mkF m 12 #[.val (.int p1), .val (.int p2), .val (.int p3), .val (.int p4), .val (.int p5), .val (.int v6), .unset, .unset, .unset, .unset, .unset, .unset, .unset, .unset, .unset, .unset, .unset, .unset, .unset, .unset, .unset] [(.int (p2 &&& (2147483647 : Int32)))])) _
    refine XS.iload X0.here hx rfl (hb hby at_12) rfl ?_
    show Steps p.tables e below (s₁.setTop (mkF m 14 #[.val (.int p1), .val (.int p2), .val (.int p3), .val (.int p4), .val (.int p5), .val (.int v6), .unset, .unset, .unset, .unset, .unset, .unset, .unset, .unset, .unset, .unset, .unset, .unset, .unset, .unset, .unset] [(.int v6), (.int (p2 &&& (2147483647 : Int32)))])) _
    refine iremM X0 hx rfl (hb hby at_14) rfl (own_nz hv6) ?_
    show Steps p.tables e below (s₁.setTop (mkF m 15 #[.val (.int p1), .val (.int p2), .val (.int p3), .val (.int p4), .val (.int p5), .val (.int v6), .unset, .unset, .unset, .unset, .unset, .unset, .unset, .unset, .unset, .unset, .unset, .unset, .unset, .unset, .unset] [(.int ((p2 &&& (2147483647 : Int32)) % v6))])) _
    refine XS.istore X0.here hx rfl (hb hby at_15) rfl (l' := #[.val (.int p1), .val (.int p2), .val (.int p3), .val (.int p4), .val (.int p5), .val (.int v6), .val (.int ((p2 &&& (2147483647 : Int32)) % v6)), .unset, .unset, .unset, .unset, .unset, .unset, .unset, .unset, .unset, .unset, .unset, .unset, .unset, .unset]) rfl ?_
    rw [hv15] at k
    exact k)
  obtain ⟨v24, hv24⟩ : ∃ z : Int32, z = ((p3 &&& (2147483647 : Int32)) % v6) := ⟨_, rfl⟩
  have pre21 : ∀ t, Steps p.tables e below (s₁.setTop (mkF m 26 #[.val (.int p1), .val (.int p2), .val (.int p3), .val (.int p4), .val (.int p5), .val (.int v6), .val (.int v15), .val (.int v24), .unset, .unset, .unset, .unset, .unset, .unset, .unset, .unset, .unset, .unset, .unset, .unset, .unset] [])) t → Steps p.tables e below (s₁.setTop (entryFrame m #[(.int p1), (.int p2), (.int p3), (.int p4), (.int p5)] maxLocals)) t := fun t k => pre20 t (by
    show Steps p.tables e below (s₁.setTop (mkF m 17 #[.val (.int p1), .val (.int p2), .val (.int p3), .val (.int p4), .val (.int p5), .val (.int v6), .val (.int v15), .unset, .unset, .unset, .unset, .unset, .unset, .unset, .unset, .unset, .unset, .unset, .unset, .unset, .unset] [])) _
    refine XS.iloadN X0.here hx rfl (hb hby at_17) rfl ?_
    show Steps p.tables e below (s₁.setTop (mkF m 18 #[.val (.int p1), .val (.int p2), .val (.int p3), .val (.int p4), .val (.int p5), .val (.int v6), .val (.int v15), .unset, .unset, .unset, .unset, .unset, .unset, .unset, .unset, .unset, .unset, .unset, .unset, .unset, .unset] [(.int p3)])) _
    refine X0.ldcInt hx hown (mvT hZ (hw _ (List.mem_of_getElem? (i := 0) rfl))) (g := (mkF m 18 #[.val (.int p1), .val (.int p2), .val (.int p3), .val (.int p4), .val (.int p5), .val (.int v6), .val (.int v15), .unset, .unset, .unset, .unset, .unset, .unset, .unset, .unset, .unset, .unset, .unset, .unset, .unset, .unset] [(.int p3)])) rfl (hb hby at_18) _ ?_
    show Steps p.tables e below (s₁.setTop (mkF m 20 #[.val (.int p1), .val (.int p2), .val (.int p3), .val (.int p4), .val (.int p5), .val (.int v6), .val (.int v15), .unset, .unset, .unset, .unset, .unset, .unset, .unset, .unset, .unset, .unset, .unset, .unset, .unset, .unset] [(.int (2147483647 : Int32)), (.int p3)])) _
    refine XS.iand X0.here hx rfl (hb hby at_20) rfl ?_
    show Steps p.tables e below (s₁.setTop (mkF m 21 #[.val (.int p1), .val (.int p2), .val (.int p3), .val (.int p4), .val (.int p5), .val (.int v6), .val (.int v15), .unset, .unset, .unset, .unset, .unset, .unset, .unset, .unset, .unset, .unset, .unset, .unset, .unset, .unset] [(.int (p3 &&& (2147483647 : Int32)))])) _
    refine XS.iload X0.here hx rfl (hb hby at_21) rfl ?_
    show Steps p.tables e below (s₁.setTop (mkF m 23 #[.val (.int p1), .val (.int p2), .val (.int p3), .val (.int p4), .val (.int p5), .val (.int v6), .val (.int v15), .unset, .unset, .unset, .unset, .unset, .unset, .unset, .unset, .unset, .unset, .unset, .unset, .unset, .unset] [(.int v6), (.int (p3 &&& (2147483647 : Int32)))])) _
    refine iremM X0 hx rfl (hb hby at_23) rfl (own_nz hv6) ?_
    show Steps p.tables e below (s₁.setTop (mkF m 24 #[.val (.int p1), .val (.int p2), .val (.int p3), .val (.int p4), .val (.int p5), .val (.int v6), .val (.int v15), .unset, .unset, .unset, .unset, .unset, .unset, .unset, .unset, .unset, .unset, .unset, .unset, .unset, .unset] [(.int ((p3 &&& (2147483647 : Int32)) % v6))])) _
    refine XS.istore X0.here hx rfl (hb hby at_24) rfl (l' := #[.val (.int p1), .val (.int p2), .val (.int p3), .val (.int p4), .val (.int p5), .val (.int v6), .val (.int v15), .val (.int ((p3 &&& (2147483647 : Int32)) % v6)), .unset, .unset, .unset, .unset, .unset, .unset, .unset, .unset, .unset, .unset, .unset, .unset, .unset]) rfl ?_
    rw [hv24] at k
    exact k)
  obtain ⟨v33, hv33⟩ : ∃ z : Int32, z = ((p4 &&& (2147483647 : Int32)) % v6) := ⟨_, rfl⟩
  have pre22 : ∀ t, Steps p.tables e below (s₁.setTop (mkF m 35 #[.val (.int p1), .val (.int p2), .val (.int p3), .val (.int p4), .val (.int p5), .val (.int v6), .val (.int v15), .val (.int v24), .val (.int v33), .unset, .unset, .unset, .unset, .unset, .unset, .unset, .unset, .unset, .unset, .unset, .unset] [])) t → Steps p.tables e below (s₁.setTop (entryFrame m #[(.int p1), (.int p2), (.int p3), (.int p4), (.int p5)] maxLocals)) t := fun t k => pre21 t (by
    show Steps p.tables e below (s₁.setTop (mkF m 26 #[.val (.int p1), .val (.int p2), .val (.int p3), .val (.int p4), .val (.int p5), .val (.int v6), .val (.int v15), .val (.int v24), .unset, .unset, .unset, .unset, .unset, .unset, .unset, .unset, .unset, .unset, .unset, .unset, .unset] [])) _
    refine XS.iloadN X0.here hx rfl (hb hby at_26) rfl ?_
    show Steps p.tables e below (s₁.setTop (mkF m 27 #[.val (.int p1), .val (.int p2), .val (.int p3), .val (.int p4), .val (.int p5), .val (.int v6), .val (.int v15), .val (.int v24), .unset, .unset, .unset, .unset, .unset, .unset, .unset, .unset, .unset, .unset, .unset, .unset, .unset] [(.int p4)])) _
    refine X0.ldcInt hx hown (mvT hZ (hw _ (List.mem_of_getElem? (i := 0) rfl))) (g := (mkF m 27 #[.val (.int p1), .val (.int p2), .val (.int p3), .val (.int p4), .val (.int p5), .val (.int v6), .val (.int v15), .val (.int v24), .unset, .unset, .unset, .unset, .unset, .unset, .unset, .unset, .unset, .unset, .unset, .unset, .unset] [(.int p4)])) rfl (hb hby at_27) _ ?_
    show Steps p.tables e below (s₁.setTop (mkF m 29 #[.val (.int p1), .val (.int p2), .val (.int p3), .val (.int p4), .val (.int p5), .val (.int v6), .val (.int v15), .val (.int v24), .unset, .unset, .unset, .unset, .unset, .unset, .unset, .unset, .unset, .unset, .unset, .unset, .unset] [(.int (2147483647 : Int32)), (.int p4)])) _
    refine XS.iand X0.here hx rfl (hb hby at_29) rfl ?_
    show Steps p.tables e below (s₁.setTop (mkF m 30 #[.val (.int p1), .val (.int p2), .val (.int p3), .val (.int p4), .val (.int p5), .val (.int v6), .val (.int v15), .val (.int v24), .unset, .unset, .unset, .unset, .unset, .unset, .unset, .unset, .unset, .unset, .unset, .unset, .unset] [(.int (p4 &&& (2147483647 : Int32)))])) _
    refine XS.iload X0.here hx rfl (hb hby at_30) rfl ?_
    show Steps p.tables e below (s₁.setTop (mkF m 32 #[.val (.int p1), .val (.int p2), .val (.int p3), .val (.int p4), .val (.int p5), .val (.int v6), .val (.int v15), .val (.int v24), .unset, .unset, .unset, .unset, .unset, .unset, .unset, .unset, .unset, .unset, .unset, .unset, .unset] [(.int v6), (.int (p4 &&& (2147483647 : Int32)))])) _
    refine iremM X0 hx rfl (hb hby at_32) rfl (own_nz hv6) ?_
    show Steps p.tables e below (s₁.setTop (mkF m 33 #[.val (.int p1), .val (.int p2), .val (.int p3), .val (.int p4), .val (.int p5), .val (.int v6), .val (.int v15), .val (.int v24), .unset, .unset, .unset, .unset, .unset, .unset, .unset, .unset, .unset, .unset, .unset, .unset, .unset] [(.int ((p4 &&& (2147483647 : Int32)) % v6))])) _
    refine XS.istore X0.here hx rfl (hb hby at_33) rfl (l' := #[.val (.int p1), .val (.int p2), .val (.int p3), .val (.int p4), .val (.int p5), .val (.int v6), .val (.int v15), .val (.int v24), .val (.int ((p4 &&& (2147483647 : Int32)) % v6)), .unset, .unset, .unset, .unset, .unset, .unset, .unset, .unset, .unset, .unset, .unset, .unset]) rfl ?_
    rw [hv33] at k
    exact k)
  have pre23 : ∀ t, Steps p.tables e below (s₁.setTop (mkF m 39 #[.val (.int p1), .val (.int p2), .val (.int p3), .val (.int p4), .val (.int p5), .val (.int v6), .val (.int v15), .val (.int v24), .val (.int v33), .unset, .unset, .unset, .unset, .unset, .unset, .unset, .unset, .unset, .unset, .unset, .unset] [(.int (p5 &&& (1 : Int32)))])) t → Steps p.tables e below (s₁.setTop (entryFrame m #[(.int p1), (.int p2), (.int p3), (.int p4), (.int p5)] maxLocals)) t := fun t k => pre22 t (by
    show Steps p.tables e below (s₁.setTop (mkF m 35 #[.val (.int p1), .val (.int p2), .val (.int p3), .val (.int p4), .val (.int p5), .val (.int v6), .val (.int v15), .val (.int v24), .val (.int v33), .unset, .unset, .unset, .unset, .unset, .unset, .unset, .unset, .unset, .unset, .unset, .unset] [])) _
    refine XS.iload X0.here hx rfl (hb hby at_35) rfl ?_
    show Steps p.tables e below (s₁.setTop (mkF m 37 #[.val (.int p1), .val (.int p2), .val (.int p3), .val (.int p4), .val (.int p5), .val (.int v6), .val (.int v15), .val (.int v24), .val (.int v33), .unset, .unset, .unset, .unset, .unset, .unset, .unset, .unset, .unset, .unset, .unset, .unset] [(.int p5)])) _
    refine XS.iconst X0.here hx rfl (hb hby at_37) ?_
    show Steps p.tables e below (s₁.setTop (mkF m 38 #[.val (.int p1), .val (.int p2), .val (.int p3), .val (.int p4), .val (.int p5), .val (.int v6), .val (.int v15), .val (.int v24), .val (.int v33), .unset, .unset, .unset, .unset, .unset, .unset, .unset, .unset, .unset, .unset, .unset, .unset] [(.int (1 : Int32)), (.int p5)])) _
    refine XS.iand X0.here hx rfl (hb hby at_38) rfl ?_
    exact k)
  obtain ⟨z47_s0, hz47_s0⟩ : ∃ z : Int32, z = (if (p5 &&& (1 : Int32)) = (0 : Int32) then (0 : Int32) else (1 : Int32)) := ⟨_, rfl⟩
  obtain ⟨T26, Lc26, X26, e26, N26, pre26⟩ : ∃ (T' : State) (locs' : List Loc), Stand p l e room_1 s m #[(.int p1), (.int p2), (.int p3), (.int p4), (.int p5)] below meth c T' locs' 0 0 ∧ T'.heap = h0 ∧ Fr n0 locs' ∧ ∀ t, Steps p.tables e below (T'.setTop (mkF m 47 #[.val (.int p1), .val (.int p2), .val (.int p3), .val (.int p4), .val (.int p5), .val (.int v6), .val (.int v15), .val (.int v24), .val (.int v33), .unset, .unset, .unset, .unset, .unset, .unset, .unset, .unset, .unset, .unset, .unset, .unset] [(.int z47_s0)])) t → Steps p.tables e below (s₁.setTop (entryFrame m #[(.int p1), (.int p2), (.int p3), (.int p4), (.int p5)] maxLocals)) t := by
    by_cases hc39 : (p5 &&& (1 : Int32)) = (0 : Int32)
    ·
      have pre24 : ∀ t, Steps p.tables e below (s₁.setTop (mkF m 47 #[.val (.int p1), .val (.int p2), .val (.int p3), .val (.int p4), .val (.int p5), .val (.int v6), .val (.int v15), .val (.int v24), .val (.int v33), .unset, .unset, .unset, .unset, .unset, .unset, .unset, .unset, .unset, .unset, .unset, .unset] [(.int (0 : Int32))])) t → Steps p.tables e below (s₁.setTop (entryFrame m #[(.int p1), (.int p2), (.int p3), (.int p4), (.int p5)] maxLocals)) t := fun t k => pre23 t (by
        show Steps p.tables e below (s₁.setTop (mkF m 39 #[.val (.int p1), .val (.int p2), .val (.int p3), .val (.int p4), .val (.int p5), .val (.int v6), .val (.int v15), .val (.int v24), .val (.int v33), .unset, .unset, .unset, .unset, .unset, .unset, .unset, .unset, .unset, .unset, .unset, .unset] [(.int (p5 &&& (1 : Int32)))])) _
        refine XS.ifYes X0.here hx rfl (pc0 := 39) (pc' := 46) rfl (hb hby at_39) rfl ((if0 _ _).trans (teq hc39).1) (by decide) (by decide) ?_
        show Steps p.tables e below (s₁.setTop (mkF m 46 #[.val (.int p1), .val (.int p2), .val (.int p3), .val (.int p4), .val (.int p5), .val (.int v6), .val (.int v15), .val (.int v24), .val (.int v33), .unset, .unset, .unset, .unset, .unset, .unset, .unset, .unset, .unset, .unset, .unset, .unset] [])) _
        refine XS.iconst X0.here hx rfl (hb hby at_46) ?_
        exact k)
      have q_z47_s0 : z47_s0 = (0 : Int32) := by rw [hz47_s0, if_pos hc39]
      refine ⟨_, _, X0, e0, N0, fun t k => ?_⟩
      rw [q_z47_s0] at k
      exact pre24 t k
    ·
      have pre25 : ∀ t, Steps p.tables e below (s₁.setTop (mkF m 47 #[.val (.int p1), .val (.int p2), .val (.int p3), .val (.int p4), .val (.int p5), .val (.int v6), .val (.int v15), .val (.int v24), .val (.int v33), .unset, .unset, .unset, .unset, .unset, .unset, .unset, .unset, .unset, .unset, .unset, .unset] [(.int (1 : Int32))])) t → Steps p.tables e below (s₁.setTop (entryFrame m #[(.int p1), (.int p2), (.int p3), (.int p4), (.int p5)] maxLocals)) t := fun t k => pre23 t (by
        show Steps p.tables e below (s₁.setTop (mkF m 39 #[.val (.int p1), .val (.int p2), .val (.int p3), .val (.int p4), .val (.int p5), .val (.int v6), .val (.int v15), .val (.int v24), .val (.int v33), .unset, .unset, .unset, .unset, .unset, .unset, .unset, .unset, .unset, .unset, .unset, .unset] [(.int (p5 &&& (1 : Int32)))])) _
        refine XS.ifNo X0.here hx rfl (hb hby at_39) rfl ((if0 _ _).trans (feq hc39).1) ?_
        show Steps p.tables e below (s₁.setTop (mkF m 42 #[.val (.int p1), .val (.int p2), .val (.int p3), .val (.int p4), .val (.int p5), .val (.int v6), .val (.int v15), .val (.int v24), .val (.int v33), .unset, .unset, .unset, .unset, .unset, .unset, .unset, .unset, .unset, .unset, .unset, .unset] [])) _
        refine XS.iconst X0.here hx rfl (hb hby at_42) ?_
        show Steps p.tables e below (s₁.setTop (mkF m 43 #[.val (.int p1), .val (.int p2), .val (.int p3), .val (.int p4), .val (.int p5), .val (.int v6), .val (.int v15), .val (.int v24), .val (.int v33), .unset, .unset, .unset, .unset, .unset, .unset, .unset, .unset, .unset, .unset, .unset, .unset] [(.int (1 : Int32))])) _
        refine XS.goto X0.here hx rfl (pc0 := 43) (pc' := 47) rfl (hb hby at_43) (by decide) (by decide) ?_
        exact k)
      have q_z47_s0 : z47_s0 = (1 : Int32) := by rw [hz47_s0, if_neg hc39]
      refine ⟨_, _, X0, e0, N0, fun t k => ?_⟩
      rw [q_z47_s0] at k
      exact pre25 t k
  obtain ⟨T27, h27, X27, e27, E27, A27, D27, -, st27⟩ := newO X26 hx hZ hown (hw _ (List.mem_of_getElem? (i := 1) rfl)) (hw _ (List.mem_of_getElem? (i := 2) rfl)) (hw _ (List.mem_of_getElem? (i := 3) rfl)) e26 (g := (mkF m 49 #[.val (.int p1), .val (.int p2), .val (.int p3), .val (.int p4), .val (.int p5), .val (.int v6), .val (.int v15), .val (.int v24), .val (.int v33), .val (.int z47_s0), .unset, .unset, .unset, .unset, .unset, .unset, .unset, .unset, .unset, .unset, .unset] [])) rfl (hb hby at_49) (by decide) (by decide)
  obtain ⟨b27, g27⟩ : ∃ z, z = h0.size := ⟨_, rfl⟩
  rw [← g27] at A27 D27 st27
  have g_b27 : n0 ≤ b27 := Nat.le_trans Zs (Nat.le_of_eq g27.symm)
  have Zs : n0 ≤ h27.size := Nat.le_trans Zs E27.1
  have E_b27 : Exa Z h27 b27 "com/example/serialis/serialis/DerivedGraph$OncePerList" := A27
  have F_listed_b27 : Fld Z h27 b27 "com/example/serialis/serialis/DerivedGraph$OncePerList" "listed" "[I" .null := D27 (Or.inr (hw _ (List.mem_of_getElem? (i := 12) rfl))) (ty := (.array .int)) (by decide)
  have F_list_b27 : Fld Z h27 b27 "com/example/serialis/serialis/DerivedGraph$OncePerList" "list" "I" (.int (0 : Int32)) := D27 (Or.inl (hw _ (List.mem_of_getElem? (i := 19) rfl))) (ty := .int) (by decide)
  obtain ⟨_, _, ⟨T28, L28, k28, n28⟩, -, X28, ⟨Lc28, hQ28, l28, y28, z28⟩, st28⟩ := X27.specialBack hx (y := (⟨"com/example/serialis/serialis/DerivedGraph$OncePerList", "<init>", "(I)V"⟩ : MethodName)) rfl hown (mvT hZ (hw _ (List.mem_of_getElem? (i := 4) rfl))) (mvT hZ (hw _ (List.mem_of_getElem? (i := 5) rfl))) (mvT hZ (hw _ (List.mem_of_getElem? (i := 6) rfl))) (by decide) (backOf (W := 1) (rmC l Z a0 hw [] b27 v6 (0 : Int32) h27 n0 Zs E_b27 F_listed_b27 F_list_b27 g_b27 (own_n hv6).1 (own_n hv6).2) hZ (hw _ (List.mem_of_getElem? (i := 6) rfl)) (hw _ (List.mem_of_getElem? (i := 3) rfl)) (by decide) (by decide)) (g := (mkF m 55 #[.val (.int p1), .val (.int p2), .val (.int p3), .val (.int p4), .val (.int p5), .val (.int v6), .val (.int v15), .val (.int v24), .val (.int v33), .val (.int z47_s0), .unset, .unset, .unset, .unset, .unset, .unset, .unset, .unset, .unset, .unset, .unset] [(.int v6), (.ref b27), (.ref b27)])) rfl (by rw [hml]; rfl) (Steps.refl _) (a := b27) (argsL := [(.int v6)]) (rest := [(.ref b27)]) (lenOf pd_0 rfl) rfl (by show 2 * 0 + _ ≤ _; exact Nat.le_of_eq rfl) (hb hby at_55) (fun _ _ => ⟨rfl, e27, (by decide : 1 + 1 ≤ _), (by decide : 2 + 8 ≤ _)⟩)
  dsimp only [Pt.U, Pt.locs, Pt.cells, Pt.slots] at X28 l28 y28 z28 st28 hQ28
  subst l28 y28 z28
  obtain ⟨b_28, rfl, N28q, K28, szc_b_28, g_b_28, P28_3, P28_4, P28_5⟩ := hQ28
  have ne_b27_b_28 : b27 ≠ b_28 := Nat.ne_of_lt (Nat.lt_of_lt_of_le E_b27.lt szc_b_28)
  have Zs : n0 ≤ T28.heap.size := Nat.le_trans Zs K28.1
  have E_b27 : Exa Z T28.heap b27 "com/example/serialis/serialis/DerivedGraph$OncePerList" := E_b27.keep K28
  have F_listed_b27 : Fld Z T28.heap b27 "com/example/serialis/serialis/DerivedGraph$OncePerList" "listed" "[I" (.ref b_28) := P28_3
  have F_list_b27 : Fld Z T28.heap b27 "com/example/serialis/serialis/DerivedGraph$OncePerList" "list" "I" (.int (0 : Int32)) := P28_4
  have A_b_28 : ArI Z T28.heap b_28 v6 (fun _ => 0) := P28_5
  have N28 := Fr.app N26 N28q
  obtain ⟨cq29, kq29, q29a, q29b, q29c⟩ := isOf hZ rfl E_b27
  obtain ⟨_, _, ⟨T29, L29, k29, n29⟩, -, X29, ⟨Lc29, hQ29, l29, y29, z29⟩, st29⟩ := X28.virtualBack hx (y := (⟨"com/example/serialis/serialis/DerivedGraph$OncePerList", "start", "()V"⟩ : MethodName)) (z := (⟨"com/example/serialis/serialis/DerivedGraph$OncePerList", "start", "()V"⟩ : MethodName)) hown (mvT hZ (hw _ (List.mem_of_getElem? (i := 13) rfl))) (mvT hZ (hw _ (List.mem_of_getElem? (i := 14) rfl))) (notFace_of_selects (args := #[]) (mvT hZ (hw _ (List.mem_of_getElem? (i := 16) rfl)))) (mvT hZ (hw _ (List.mem_of_getElem? (i := 16) rfl))) (mvT hZ (hw _ (List.mem_of_getElem? (i := 15) rfl))) (by decide) (backOf (W := 0) (rmS l Z a0 hw [] b27 (0 : Int32) b_28 T28.heap n0 Zs E_b27 F_list_b27 F_listed_b27 g_b27 (by decide)) hZ (hw _ (List.mem_of_getElem? (i := 17) rfl)) (hw _ (List.mem_of_getElem? (i := 3) rfl)) (by decide) (by decide)) q29a q29c (g := (mkF m 62 #[.val (.int p1), .val (.int p2), .val (.int p3), .val (.int p4), .val (.int p5), .val (.int v6), .val (.int v15), .val (.int v24), .val (.int v33), .val (.int z47_s0), .val (.ref b27), .unset, .unset, .unset, .unset, .unset, .unset, .unset, .unset, .unset, .unset] [(.ref b27)])) rfl (by rw [hml]; rfl) (Steps.refl _) (argsL := []) (rest := []) (lenOf pd_1 rfl) rfl (by show 2 * 0 + _ ≤ _; exact Nat.le_of_eq rfl) (hb hby at_62) (fun _ _ => ⟨rfl, rfl, (by decide : 2 + 0 ≤ _), (by decide : 10 + 0 ≤ _)⟩)
  dsimp only [Pt.U, Pt.locs, Pt.cells, Pt.slots] at X29 l29 y29 z29 st29 hQ29
  subst l29 y29 z29
  obtain ⟨rfl, N29q, K29, P29_1, P29_2⟩ := hQ29
  have Zs : n0 ≤ T29.heap.size := Nat.le_trans Zs K29.1
  have E_b27 : Exa Z T29.heap b27 "com/example/serialis/serialis/DerivedGraph$OncePerList" := E_b27.keep K29
  have A_b_28 : ArI Z T29.heap b_28 v6 (fun _ => 0) := A_b_28.keep K29 (ninS (Ne.symm ne_b27_b_28) nin0)
  have F_list_b27 : Fld Z T29.heap b27 "com/example/serialis/serialis/DerivedGraph$OncePerList" "list" "I" (.int ((0 : Int32) + (1 : Int32))) := P29_1
  have F_listed_b27 : Fld Z T29.heap b27 "com/example/serialis/serialis/DerivedGraph$OncePerList" "listed" "[I" (.ref b_28) := P29_2
  have N29 := Fr.app N28 N29q
  obtain ⟨cq30, kq30, q30a, q30b, q30c⟩ := isOf hZ rfl E_b27
  obtain ⟨_, _, ⟨T30, L30, k30, n30⟩, -, X30, ⟨Lc30, hQ30, l30, y30, z30⟩, st30⟩ := X29.virtualBack hx (y := (⟨"com/example/serialis/serialis/DerivedGraph$OncePerList", "add", "(I)Z"⟩ : MethodName)) (z := (⟨"com/example/serialis/serialis/DerivedGraph$OncePerList", "add", "(I)Z"⟩ : MethodName)) hown (mvT hZ (hw _ (List.mem_of_getElem? (i := 21) rfl))) (mvT hZ (hw _ (List.mem_of_getElem? (i := 22) rfl))) (notFace_of_selects (args := #[]) (mvT hZ (hw _ (List.mem_of_getElem? (i := 24) rfl)))) (mvT hZ (hw _ (List.mem_of_getElem? (i := 24) rfl))) (mvT hZ (hw _ (List.mem_of_getElem? (i := 23) rfl))) (by decide) (backOf (W := 0) (rmA l Z a0 hw [] b27 v15 ((0 : Int32) + (1 : Int32)) b_28 v6 (fun _ => 0) T29.heap n0 Zs F_list_b27 F_listed_b27 A_b_28 g_b_28 ne_b27_b_28 (own_rg hv6 hv15)) hZ (hw _ (List.mem_of_getElem? (i := 25) rfl)) (hw _ (List.mem_of_getElem? (i := 3) rfl)) (by decide) (by decide)) q30a q30c (g := (mkF m 69 #[.val (.int p1), .val (.int p2), .val (.int p3), .val (.int p4), .val (.int p5), .val (.int v6), .val (.int v15), .val (.int v24), .val (.int v33), .val (.int z47_s0), .val (.ref b27), .unset, .unset, .unset, .unset, .unset, .unset, .unset, .unset, .unset, .unset] [(.int v15), (.ref b27)])) rfl (by rw [hml]; rfl) (Steps.refl _) (argsL := [(.int v15)]) (rest := []) (lenOf pd_2 rfl) rfl (by show 2 * 0 + _ ≤ _; exact Nat.le_of_eq rfl) (hb hby at_69) (fun _ _ => ⟨rfl, rfl, (by decide : 2 + 0 ≤ _), (by decide : 10 + 0 ≤ _)⟩)
  dsimp only [Pt.U, Pt.locs, Pt.cells, Pt.slots] at X30 l30 y30 z30 st30 hQ30
  subst l30 y30 z30
  obtain ⟨rfl, N30q, K30, P30_1⟩ := hQ30
  have Zs : n0 ≤ T30.heap.size := Nat.le_trans Zs K30.1
  have E_b27 : Exa Z T30.heap b27 "com/example/serialis/serialis/DerivedGraph$OncePerList" := E_b27.keep K30
  have F_list_b27 : Fld Z T30.heap b27 "com/example/serialis/serialis/DerivedGraph$OncePerList" "list" "I" (.int ((0 : Int32) + (1 : Int32))) := F_list_b27.keep K30 (ninS ne_b27_b_28 nin0)
  have F_listed_b27 : Fld Z T30.heap b27 "com/example/serialis/serialis/DerivedGraph$OncePerList" "listed" "[I" (.ref b_28) := F_listed_b27.keep K30 (ninS ne_b27_b_28 nin0)
  have A_b_28 : ArI Z T30.heap b_28 v6 (upd (fun _ => 0) v15.toNatClampNeg ((0 : Int32) + (1 : Int32))) := P30_1
  have N30 := Fr.app N29 N30q
  obtain ⟨v72, hv72⟩ : ∃ z : Int32, z = (fA ((fun _ => 0) v15.toNatClampNeg) ((0 : Int32) + (1 : Int32))) := ⟨_, rfl⟩
  have pre31 : ∀ t, Steps p.tables e below (T30.setTop (mkF m 74 #[.val (.int p1), .val (.int p2), .val (.int p3), .val (.int p4), .val (.int p5), .val (.int v6), .val (.int v15), .val (.int v24), .val (.int v33), .val (.int z47_s0), .val (.ref b27), .val (.int v72), .unset, .unset, .unset, .unset, .unset, .unset, .unset, .unset, .unset] [])) t → Steps p.tables e below (s₁.setTop (entryFrame m #[(.int p1), (.int p2), (.int p3), (.int p4), (.int p5)] maxLocals)) t := fun t k => pre26 t (by
    show Steps p.tables e below (T26.setTop (mkF m 47 #[.val (.int p1), .val (.int p2), .val (.int p3), .val (.int p4), .val (.int p5), .val (.int v6), .val (.int v15), .val (.int v24), .val (.int v33), .unset, .unset, .unset, .unset, .unset, .unset, .unset, .unset, .unset, .unset, .unset, .unset] [(.int z47_s0)])) _
    refine XS.istore X26.here hx rfl (hb hby at_47) rfl (l' := #[.val (.int p1), .val (.int p2), .val (.int p3), .val (.int p4), .val (.int p5), .val (.int v6), .val (.int v15), .val (.int v24), .val (.int v33), .val (.int z47_s0), .unset, .unset, .unset, .unset, .unset, .unset, .unset, .unset, .unset, .unset, .unset]) rfl ?_
    show Steps p.tables e below (T26.setTop (mkF m 49 #[.val (.int p1), .val (.int p2), .val (.int p3), .val (.int p4), .val (.int p5), .val (.int v6), .val (.int v15), .val (.int v24), .val (.int v33), .val (.int z47_s0), .unset, .unset, .unset, .unset, .unset, .unset, .unset, .unset, .unset, .unset, .unset] [])) _
    refine st27 _ ?_
    show Steps p.tables e below (T27.setTop (mkF m 52 #[.val (.int p1), .val (.int p2), .val (.int p3), .val (.int p4), .val (.int p5), .val (.int v6), .val (.int v15), .val (.int v24), .val (.int v33), .val (.int z47_s0), .unset, .unset, .unset, .unset, .unset, .unset, .unset, .unset, .unset, .unset, .unset] [(.ref b27)])) _
    refine XS.dup X27.here hx rfl (hb hby at_52) rfl rfl ?_
    show Steps p.tables e below (T27.setTop (mkF m 53 #[.val (.int p1), .val (.int p2), .val (.int p3), .val (.int p4), .val (.int p5), .val (.int v6), .val (.int v15), .val (.int v24), .val (.int v33), .val (.int z47_s0), .unset, .unset, .unset, .unset, .unset, .unset, .unset, .unset, .unset, .unset, .unset] [(.ref b27), (.ref b27)])) _
    refine XS.iload X27.here hx rfl (hb hby at_53) rfl ?_
    show Steps p.tables e below (T27.setTop (mkF m 55 #[.val (.int p1), .val (.int p2), .val (.int p3), .val (.int p4), .val (.int p5), .val (.int v6), .val (.int v15), .val (.int v24), .val (.int v33), .val (.int z47_s0), .unset, .unset, .unset, .unset, .unset, .unset, .unset, .unset, .unset, .unset, .unset] [(.int v6), (.ref b27), (.ref b27)])) _
    refine st28.trans ?_
    show Steps p.tables e below (T28.setTop (mkF m 58 #[.val (.int p1), .val (.int p2), .val (.int p3), .val (.int p4), .val (.int p5), .val (.int v6), .val (.int v15), .val (.int v24), .val (.int v33), .val (.int z47_s0), .unset, .unset, .unset, .unset, .unset, .unset, .unset, .unset, .unset, .unset, .unset] [(.ref b27)])) _
    refine XS.astore X28.here hx rfl (hb hby at_58) rfl rfl (l' := #[.val (.int p1), .val (.int p2), .val (.int p3), .val (.int p4), .val (.int p5), .val (.int v6), .val (.int v15), .val (.int v24), .val (.int v33), .val (.int z47_s0), .val (.ref b27), .unset, .unset, .unset, .unset, .unset, .unset, .unset, .unset, .unset, .unset]) rfl ?_
    show Steps p.tables e below (T28.setTop (mkF m 60 #[.val (.int p1), .val (.int p2), .val (.int p3), .val (.int p4), .val (.int p5), .val (.int v6), .val (.int v15), .val (.int v24), .val (.int v33), .val (.int z47_s0), .val (.ref b27), .unset, .unset, .unset, .unset, .unset, .unset, .unset, .unset, .unset, .unset] [])) _
    refine XS.aload X28.here hx rfl (hb hby at_60) rfl rfl ?_
    show Steps p.tables e below (T28.setTop (mkF m 62 #[.val (.int p1), .val (.int p2), .val (.int p3), .val (.int p4), .val (.int p5), .val (.int v6), .val (.int v15), .val (.int v24), .val (.int v33), .val (.int z47_s0), .val (.ref b27), .unset, .unset, .unset, .unset, .unset, .unset, .unset, .unset, .unset, .unset] [(.ref b27)])) _
    refine st29.trans ?_
    show Steps p.tables e below (T29.setTop (mkF m 65 #[.val (.int p1), .val (.int p2), .val (.int p3), .val (.int p4), .val (.int p5), .val (.int v6), .val (.int v15), .val (.int v24), .val (.int v33), .val (.int z47_s0), .val (.ref b27), .unset, .unset, .unset, .unset, .unset, .unset, .unset, .unset, .unset, .unset] [])) _
    refine XS.aload X29.here hx rfl (hb hby at_65) rfl rfl ?_
    show Steps p.tables e below (T29.setTop (mkF m 67 #[.val (.int p1), .val (.int p2), .val (.int p3), .val (.int p4), .val (.int p5), .val (.int v6), .val (.int v15), .val (.int v24), .val (.int v33), .val (.int z47_s0), .val (.ref b27), .unset, .unset, .unset, .unset, .unset, .unset, .unset, .unset, .unset, .unset] [(.ref b27)])) _
    refine XS.iload X29.here hx rfl (hb hby at_67) rfl ?_
    show Steps p.tables e below (T29.setTop (mkF m 69 #[.val (.int p1), .val (.int p2), .val (.int p3), .val (.int p4), .val (.int p5), .val (.int v6), .val (.int v15), .val (.int v24), .val (.int v33), .val (.int z47_s0), .val (.ref b27), .unset, .unset, .unset, .unset, .unset, .unset, .unset, .unset, .unset, .unset] [(.int v15), (.ref b27)])) _
    refine st30.trans ?_
    show Steps p.tables e below (T30.setTop (mkF m 72 #[.val (.int p1), .val (.int p2), .val (.int p3), .val (.int p4), .val (.int p5), .val (.int v6), .val (.int v15), .val (.int v24), .val (.int v33), .val (.int z47_s0), .val (.ref b27), .unset, .unset, .unset, .unset, .unset, .unset, .unset, .unset, .unset, .unset] [(.int (fA ((fun _ => 0) v15.toNatClampNeg) ((0 : Int32) + (1 : Int32))))])) _
    refine XS.istore X30.here hx rfl (hb hby at_72) rfl (l' := #[.val (.int p1), .val (.int p2), .val (.int p3), .val (.int p4), .val (.int p5), .val (.int v6), .val (.int v15), .val (.int v24), .val (.int v33), .val (.int z47_s0), .val (.ref b27), .val (.int (fA ((fun _ => 0) v15.toNatClampNeg) ((0 : Int32) + (1 : Int32)))), .unset, .unset, .unset, .unset, .unset, .unset, .unset, .unset, .unset]) rfl ?_
    rw [hv72] at k
    exact k)
  obtain ⟨cq32, kq32, q32a, q32b, q32c⟩ := isOf hZ rfl E_b27
  obtain ⟨_, _, ⟨T32, L32, k32, n32⟩, -, X32, ⟨Lc32, hQ32, l32, y32, z32⟩, st32⟩ := X30.virtualBack hx (y := (⟨"com/example/serialis/serialis/DerivedGraph$OncePerList", "add", "(I)Z"⟩ : MethodName)) (z := (⟨"com/example/serialis/serialis/DerivedGraph$OncePerList", "add", "(I)Z"⟩ : MethodName)) hown (mvT hZ (hw _ (List.mem_of_getElem? (i := 21) rfl))) (mvT hZ (hw _ (List.mem_of_getElem? (i := 22) rfl))) (notFace_of_selects (args := #[]) (mvT hZ (hw _ (List.mem_of_getElem? (i := 24) rfl)))) (mvT hZ (hw _ (List.mem_of_getElem? (i := 24) rfl))) (mvT hZ (hw _ (List.mem_of_getElem? (i := 23) rfl))) (by decide) (backOf (W := 0) (rmA l Z a0 hw [] b27 v24 ((0 : Int32) + (1 : Int32)) b_28 v6 (upd (fun _ => 0) v15.toNatClampNeg ((0 : Int32) + (1 : Int32))) T30.heap n0 Zs F_list_b27 F_listed_b27 A_b_28 g_b_28 ne_b27_b_28 (own_rg hv6 hv24)) hZ (hw _ (List.mem_of_getElem? (i := 25) rfl)) (hw _ (List.mem_of_getElem? (i := 3) rfl)) (by decide) (by decide)) q32a q32c (g := (mkF m 78 #[.val (.int p1), .val (.int p2), .val (.int p3), .val (.int p4), .val (.int p5), .val (.int v6), .val (.int v15), .val (.int v24), .val (.int v33), .val (.int z47_s0), .val (.ref b27), .val (.int v72), .unset, .unset, .unset, .unset, .unset, .unset, .unset, .unset, .unset] [(.int v24), (.ref b27)])) rfl (by rw [hml]; rfl) (Steps.refl _) (argsL := [(.int v24)]) (rest := []) (lenOf pd_2 rfl) rfl (by show 2 * 0 + _ ≤ _; exact Nat.le_of_eq rfl) (hb hby at_78) (fun _ _ => ⟨rfl, rfl, (by decide : 2 + 0 ≤ _), (by decide : 10 + 0 ≤ _)⟩)
  dsimp only [Pt.U, Pt.locs, Pt.cells, Pt.slots] at X32 l32 y32 z32 st32 hQ32
  subst l32 y32 z32
  obtain ⟨rfl, N32q, K32, P32_1⟩ := hQ32
  have Zs : n0 ≤ T32.heap.size := Nat.le_trans Zs K32.1
  have E_b27 : Exa Z T32.heap b27 "com/example/serialis/serialis/DerivedGraph$OncePerList" := E_b27.keep K32
  have F_list_b27 : Fld Z T32.heap b27 "com/example/serialis/serialis/DerivedGraph$OncePerList" "list" "I" (.int ((0 : Int32) + (1 : Int32))) := F_list_b27.keep K32 (ninS ne_b27_b_28 nin0)
  have F_listed_b27 : Fld Z T32.heap b27 "com/example/serialis/serialis/DerivedGraph$OncePerList" "listed" "[I" (.ref b_28) := F_listed_b27.keep K32 (ninS ne_b27_b_28 nin0)
  have A_b_28 : ArI Z T32.heap b_28 v6 (upd (upd (fun _ => 0) v15.toNatClampNeg ((0 : Int32) + (1 : Int32))) v24.toNatClampNeg ((0 : Int32) + (1 : Int32))) := P32_1
  have N32 := Fr.app N30 N32q
  obtain ⟨v81, hv81⟩ : ∃ z : Int32, z = (fA ((upd (fun _ => 0) v15.toNatClampNeg ((0 : Int32) + (1 : Int32))) v24.toNatClampNeg) ((0 : Int32) + (1 : Int32))) := ⟨_, rfl⟩
  have pre33 : ∀ t, Steps p.tables e below (T32.setTop (mkF m 83 #[.val (.int p1), .val (.int p2), .val (.int p3), .val (.int p4), .val (.int p5), .val (.int v6), .val (.int v15), .val (.int v24), .val (.int v33), .val (.int z47_s0), .val (.ref b27), .val (.int v72), .val (.int v81), .unset, .unset, .unset, .unset, .unset, .unset, .unset, .unset] [])) t → Steps p.tables e below (s₁.setTop (entryFrame m #[(.int p1), (.int p2), (.int p3), (.int p4), (.int p5)] maxLocals)) t := fun t k => pre31 t (by
    show Steps p.tables e below (T30.setTop (mkF m 74 #[.val (.int p1), .val (.int p2), .val (.int p3), .val (.int p4), .val (.int p5), .val (.int v6), .val (.int v15), .val (.int v24), .val (.int v33), .val (.int z47_s0), .val (.ref b27), .val (.int v72), .unset, .unset, .unset, .unset, .unset, .unset, .unset, .unset, .unset] [])) _
    refine XS.aload X30.here hx rfl (hb hby at_74) rfl rfl ?_
    show Steps p.tables e below (T30.setTop (mkF m 76 #[.val (.int p1), .val (.int p2), .val (.int p3), .val (.int p4), .val (.int p5), .val (.int v6), .val (.int v15), .val (.int v24), .val (.int v33), .val (.int z47_s0), .val (.ref b27), .val (.int v72), .unset, .unset, .unset, .unset, .unset, .unset, .unset, .unset, .unset] [(.ref b27)])) _
    refine XS.iload X30.here hx rfl (hb hby at_76) rfl ?_
    show Steps p.tables e below (T30.setTop (mkF m 78 #[.val (.int p1), .val (.int p2), .val (.int p3), .val (.int p4), .val (.int p5), .val (.int v6), .val (.int v15), .val (.int v24), .val (.int v33), .val (.int z47_s0), .val (.ref b27), .val (.int v72), .unset, .unset, .unset, .unset, .unset, .unset, .unset, .unset, .unset] [(.int v24), (.ref b27)])) _
    refine st32.trans ?_
    show Steps p.tables e below (T32.setTop (mkF m 81 #[.val (.int p1), .val (.int p2), .val (.int p3), .val (.int p4), .val (.int p5), .val (.int v6), .val (.int v15), .val (.int v24), .val (.int v33), .val (.int z47_s0), .val (.ref b27), .val (.int v72), .unset, .unset, .unset, .unset, .unset, .unset, .unset, .unset, .unset] [(.int (fA ((upd (fun _ => 0) v15.toNatClampNeg ((0 : Int32) + (1 : Int32))) v24.toNatClampNeg) ((0 : Int32) + (1 : Int32))))])) _
    refine XS.istore X32.here hx rfl (hb hby at_81) rfl (l' := #[.val (.int p1), .val (.int p2), .val (.int p3), .val (.int p4), .val (.int p5), .val (.int v6), .val (.int v15), .val (.int v24), .val (.int v33), .val (.int z47_s0), .val (.ref b27), .val (.int v72), .val (.int (fA ((upd (fun _ => 0) v15.toNatClampNeg ((0 : Int32) + (1 : Int32))) v24.toNatClampNeg) ((0 : Int32) + (1 : Int32)))), .unset, .unset, .unset, .unset, .unset, .unset, .unset, .unset]) rfl ?_
    rw [hv81] at k
    exact k)
  obtain ⟨cq34, kq34, q34a, q34b, q34c⟩ := isOf hZ rfl E_b27
  obtain ⟨_, _, ⟨T34, L34, k34, n34⟩, -, X34, ⟨Lc34, hQ34, l34, y34, z34⟩, st34⟩ := X32.virtualBack hx (y := (⟨"com/example/serialis/serialis/DerivedGraph$OncePerList", "add", "(I)Z"⟩ : MethodName)) (z := (⟨"com/example/serialis/serialis/DerivedGraph$OncePerList", "add", "(I)Z"⟩ : MethodName)) hown (mvT hZ (hw _ (List.mem_of_getElem? (i := 21) rfl))) (mvT hZ (hw _ (List.mem_of_getElem? (i := 22) rfl))) (notFace_of_selects (args := #[]) (mvT hZ (hw _ (List.mem_of_getElem? (i := 24) rfl)))) (mvT hZ (hw _ (List.mem_of_getElem? (i := 24) rfl))) (mvT hZ (hw _ (List.mem_of_getElem? (i := 23) rfl))) (by decide) (backOf (W := 0) (rmA l Z a0 hw [] b27 v15 ((0 : Int32) + (1 : Int32)) b_28 v6 (upd (upd (fun _ => 0) v15.toNatClampNeg ((0 : Int32) + (1 : Int32))) v24.toNatClampNeg ((0 : Int32) + (1 : Int32))) T32.heap n0 Zs F_list_b27 F_listed_b27 A_b_28 g_b_28 ne_b27_b_28 (own_rg hv6 hv15)) hZ (hw _ (List.mem_of_getElem? (i := 25) rfl)) (hw _ (List.mem_of_getElem? (i := 3) rfl)) (by decide) (by decide)) q34a q34c (g := (mkF m 87 #[.val (.int p1), .val (.int p2), .val (.int p3), .val (.int p4), .val (.int p5), .val (.int v6), .val (.int v15), .val (.int v24), .val (.int v33), .val (.int z47_s0), .val (.ref b27), .val (.int v72), .val (.int v81), .unset, .unset, .unset, .unset, .unset, .unset, .unset, .unset] [(.int v15), (.ref b27)])) rfl (by rw [hml]; rfl) (Steps.refl _) (argsL := [(.int v15)]) (rest := []) (lenOf pd_2 rfl) rfl (by show 2 * 0 + _ ≤ _; exact Nat.le_of_eq rfl) (hb hby at_87) (fun _ _ => ⟨rfl, rfl, (by decide : 2 + 0 ≤ _), (by decide : 10 + 0 ≤ _)⟩)
  dsimp only [Pt.U, Pt.locs, Pt.cells, Pt.slots] at X34 l34 y34 z34 st34 hQ34
  subst l34 y34 z34
  obtain ⟨rfl, N34q, K34, P34_1⟩ := hQ34
  have Zs : n0 ≤ T34.heap.size := Nat.le_trans Zs K34.1
  have E_b27 : Exa Z T34.heap b27 "com/example/serialis/serialis/DerivedGraph$OncePerList" := E_b27.keep K34
  have F_list_b27 : Fld Z T34.heap b27 "com/example/serialis/serialis/DerivedGraph$OncePerList" "list" "I" (.int ((0 : Int32) + (1 : Int32))) := F_list_b27.keep K34 (ninS ne_b27_b_28 nin0)
  have F_listed_b27 : Fld Z T34.heap b27 "com/example/serialis/serialis/DerivedGraph$OncePerList" "listed" "[I" (.ref b_28) := F_listed_b27.keep K34 (ninS ne_b27_b_28 nin0)
  have A_b_28 : ArI Z T34.heap b_28 v6 (upd (upd (upd (fun _ => 0) v15.toNatClampNeg ((0 : Int32) + (1 : Int32))) v24.toNatClampNeg ((0 : Int32) + (1 : Int32))) v15.toNatClampNeg ((0 : Int32) + (1 : Int32))) := P34_1
  have N34 := Fr.app N32 N34q
  obtain ⟨v90, hv90⟩ : ∃ z : Int32, z = (fA ((upd (upd (fun _ => 0) v15.toNatClampNeg ((0 : Int32) + (1 : Int32))) v24.toNatClampNeg ((0 : Int32) + (1 : Int32))) v15.toNatClampNeg) ((0 : Int32) + (1 : Int32))) := ⟨_, rfl⟩
  have pre35 : ∀ t, Steps p.tables e below (T34.setTop (mkF m 92 #[.val (.int p1), .val (.int p2), .val (.int p3), .val (.int p4), .val (.int p5), .val (.int v6), .val (.int v15), .val (.int v24), .val (.int v33), .val (.int z47_s0), .val (.ref b27), .val (.int v72), .val (.int v81), .val (.int v90), .unset, .unset, .unset, .unset, .unset, .unset, .unset] [])) t → Steps p.tables e below (s₁.setTop (entryFrame m #[(.int p1), (.int p2), (.int p3), (.int p4), (.int p5)] maxLocals)) t := fun t k => pre33 t (by
    show Steps p.tables e below (T32.setTop (mkF m 83 #[.val (.int p1), .val (.int p2), .val (.int p3), .val (.int p4), .val (.int p5), .val (.int v6), .val (.int v15), .val (.int v24), .val (.int v33), .val (.int z47_s0), .val (.ref b27), .val (.int v72), .val (.int v81), .unset, .unset, .unset, .unset, .unset, .unset, .unset, .unset] [])) _
    refine XS.aload X32.here hx rfl (hb hby at_83) rfl rfl ?_
    show Steps p.tables e below (T32.setTop (mkF m 85 #[.val (.int p1), .val (.int p2), .val (.int p3), .val (.int p4), .val (.int p5), .val (.int v6), .val (.int v15), .val (.int v24), .val (.int v33), .val (.int z47_s0), .val (.ref b27), .val (.int v72), .val (.int v81), .unset, .unset, .unset, .unset, .unset, .unset, .unset, .unset] [(.ref b27)])) _
    refine XS.iload X32.here hx rfl (hb hby at_85) rfl ?_
    show Steps p.tables e below (T32.setTop (mkF m 87 #[.val (.int p1), .val (.int p2), .val (.int p3), .val (.int p4), .val (.int p5), .val (.int v6), .val (.int v15), .val (.int v24), .val (.int v33), .val (.int z47_s0), .val (.ref b27), .val (.int v72), .val (.int v81), .unset, .unset, .unset, .unset, .unset, .unset, .unset, .unset] [(.int v15), (.ref b27)])) _
    refine st34.trans ?_
    show Steps p.tables e below (T34.setTop (mkF m 90 #[.val (.int p1), .val (.int p2), .val (.int p3), .val (.int p4), .val (.int p5), .val (.int v6), .val (.int v15), .val (.int v24), .val (.int v33), .val (.int z47_s0), .val (.ref b27), .val (.int v72), .val (.int v81), .unset, .unset, .unset, .unset, .unset, .unset, .unset, .unset] [(.int (fA ((upd (upd (fun _ => 0) v15.toNatClampNeg ((0 : Int32) + (1 : Int32))) v24.toNatClampNeg ((0 : Int32) + (1 : Int32))) v15.toNatClampNeg) ((0 : Int32) + (1 : Int32))))])) _
    refine XS.istore X34.here hx rfl (hb hby at_90) rfl (l' := #[.val (.int p1), .val (.int p2), .val (.int p3), .val (.int p4), .val (.int p5), .val (.int v6), .val (.int v15), .val (.int v24), .val (.int v33), .val (.int z47_s0), .val (.ref b27), .val (.int v72), .val (.int v81), .val (.int (fA ((upd (upd (fun _ => 0) v15.toNatClampNeg ((0 : Int32) + (1 : Int32))) v24.toNatClampNeg ((0 : Int32) + (1 : Int32))) v15.toNatClampNeg) ((0 : Int32) + (1 : Int32)))), .unset, .unset, .unset, .unset, .unset, .unset, .unset]) rfl ?_
    rw [hv90] at k
    exact k)
  have pre36 : ∀ t, Steps p.tables e below (T34.setTop (mkF m 94 #[.val (.int p1), .val (.int p2), .val (.int p3), .val (.int p4), .val (.int p5), .val (.int v6), .val (.int v15), .val (.int v24), .val (.int v33), .val (.int z47_s0), .val (.ref b27), .val (.int v72), .val (.int v81), .val (.int v90), .unset, .unset, .unset, .unset, .unset, .unset, .unset] [(.int z47_s0)])) t → Steps p.tables e below (s₁.setTop (entryFrame m #[(.int p1), (.int p2), (.int p3), (.int p4), (.int p5)] maxLocals)) t := fun t k => pre35 t (by
    show Steps p.tables e below (T34.setTop (mkF m 92 #[.val (.int p1), .val (.int p2), .val (.int p3), .val (.int p4), .val (.int p5), .val (.int v6), .val (.int v15), .val (.int v24), .val (.int v33), .val (.int z47_s0), .val (.ref b27), .val (.int v72), .val (.int v81), .val (.int v90), .unset, .unset, .unset, .unset, .unset, .unset, .unset] [])) _
    refine XS.iload X34.here hx rfl (hb hby at_92) rfl ?_
    exact k)
  obtain ⟨z102_F_list_b27, hz102_F_list_b27⟩ : ∃ z : Int32, z = (if z47_s0 = (0 : Int32) then ((0 : Int32) + (1 : Int32)) else (((0 : Int32) + (1 : Int32)) + (1 : Int32))) := ⟨_, rfl⟩
  obtain ⟨T40, Lc40, h40, X40, e40, N40, Zs, E_b27, F_list_b27, F_listed_b27, A_b_28, pre40⟩ : ∃ (T' : State) (locs' : List Loc) (h' : Heap), Stand p l e room_1 s m #[(.int p1), (.int p2), (.int p3), (.int p4), (.int p5)] below meth c T' locs' 2 10 ∧ T'.heap = h' ∧ Fr n0 locs' ∧ (n0 ≤ h'.size) ∧ (Exa Z h' b27 "com/example/serialis/serialis/DerivedGraph$OncePerList") ∧ (Fld Z h' b27 "com/example/serialis/serialis/DerivedGraph$OncePerList" "list" "I" (.int z102_F_list_b27)) ∧ (Fld Z h' b27 "com/example/serialis/serialis/DerivedGraph$OncePerList" "listed" "[I" (.ref b_28)) ∧ (ArI Z h' b_28 v6 (upd (upd (upd (fun _ => 0) v15.toNatClampNeg ((0 : Int32) + (1 : Int32))) v24.toNatClampNeg ((0 : Int32) + (1 : Int32))) v15.toNatClampNeg ((0 : Int32) + (1 : Int32)))) ∧ ∀ t, Steps p.tables e below (T'.setTop (mkF m 102 #[.val (.int p1), .val (.int p2), .val (.int p3), .val (.int p4), .val (.int p5), .val (.int v6), .val (.int v15), .val (.int v24), .val (.int v33), .val (.int z47_s0), .val (.ref b27), .val (.int v72), .val (.int v81), .val (.int v90), .unset, .unset, .unset, .unset, .unset, .unset, .unset] [])) t → Steps p.tables e below (s₁.setTop (entryFrame m #[(.int p1), (.int p2), (.int p3), (.int p4), (.int p5)] maxLocals)) t := by
    by_cases hc94 : z47_s0 = (0 : Int32)
    ·
      have pre37 : ∀ t, Steps p.tables e below (T34.setTop (mkF m 102 #[.val (.int p1), .val (.int p2), .val (.int p3), .val (.int p4), .val (.int p5), .val (.int v6), .val (.int v15), .val (.int v24), .val (.int v33), .val (.int z47_s0), .val (.ref b27), .val (.int v72), .val (.int v81), .val (.int v90), .unset, .unset, .unset, .unset, .unset, .unset, .unset] [])) t → Steps p.tables e below (s₁.setTop (entryFrame m #[(.int p1), (.int p2), (.int p3), (.int p4), (.int p5)] maxLocals)) t := fun t k => pre36 t (by
        show Steps p.tables e below (T34.setTop (mkF m 94 #[.val (.int p1), .val (.int p2), .val (.int p3), .val (.int p4), .val (.int p5), .val (.int v6), .val (.int v15), .val (.int v24), .val (.int v33), .val (.int z47_s0), .val (.ref b27), .val (.int v72), .val (.int v81), .val (.int v90), .unset, .unset, .unset, .unset, .unset, .unset, .unset] [(.int z47_s0)])) _
        refine XS.ifYes X34.here hx rfl (pc0 := 94) (pc' := 102) rfl (hb hby at_94) rfl ((if0 _ _).trans (teq hc94).1) (by decide) (by decide) ?_
        exact k)
      have q_z102_F_list_b27 : z102_F_list_b27 = ((0 : Int32) + (1 : Int32)) := by rw [hz102_F_list_b27, if_pos hc94]
      refine ⟨_, _, _, X34, rfl, N34, Zs, E_b27, (by rw [q_z102_F_list_b27]; exact F_list_b27), F_listed_b27, A_b_28, fun t k => ?_⟩
      exact pre37 t k
    ·
      obtain ⟨cq38, kq38, q38a, q38b, q38c⟩ := isOf hZ rfl E_b27
      obtain ⟨_, _, ⟨T38, L38, k38, n38⟩, -, X38, ⟨Lc38, hQ38, l38, y38, z38⟩, st38⟩ := X34.virtualBack hx (y := (⟨"com/example/serialis/serialis/DerivedGraph$OncePerList", "start", "()V"⟩ : MethodName)) (z := (⟨"com/example/serialis/serialis/DerivedGraph$OncePerList", "start", "()V"⟩ : MethodName)) hown (mvT hZ (hw _ (List.mem_of_getElem? (i := 13) rfl))) (mvT hZ (hw _ (List.mem_of_getElem? (i := 14) rfl))) (notFace_of_selects (args := #[]) (mvT hZ (hw _ (List.mem_of_getElem? (i := 16) rfl)))) (mvT hZ (hw _ (List.mem_of_getElem? (i := 16) rfl))) (mvT hZ (hw _ (List.mem_of_getElem? (i := 15) rfl))) (by decide) (backOf (W := 0) (rmS l Z a0 hw [] b27 ((0 : Int32) + (1 : Int32)) b_28 T34.heap n0 Zs E_b27 F_list_b27 F_listed_b27 g_b27 (by decide)) hZ (hw _ (List.mem_of_getElem? (i := 17) rfl)) (hw _ (List.mem_of_getElem? (i := 3) rfl)) (by decide) (by decide)) q38a q38c (g := (mkF m 99 #[.val (.int p1), .val (.int p2), .val (.int p3), .val (.int p4), .val (.int p5), .val (.int v6), .val (.int v15), .val (.int v24), .val (.int v33), .val (.int z47_s0), .val (.ref b27), .val (.int v72), .val (.int v81), .val (.int v90), .unset, .unset, .unset, .unset, .unset, .unset, .unset] [(.ref b27)])) rfl (by rw [hml]; rfl) (Steps.refl _) (argsL := []) (rest := []) (lenOf pd_1 rfl) rfl (by show 2 * 0 + _ ≤ _; exact Nat.le_of_eq rfl) (hb hby at_99) (fun _ _ => ⟨rfl, rfl, (by decide : 2 + 0 ≤ _), (by decide : 10 + 0 ≤ _)⟩)
      dsimp only [Pt.U, Pt.locs, Pt.cells, Pt.slots] at X38 l38 y38 z38 st38 hQ38
      subst l38 y38 z38
      obtain ⟨rfl, N38q, K38, P38_1, P38_2⟩ := hQ38
      have Zs : n0 ≤ T38.heap.size := Nat.le_trans Zs K38.1
      have E_b27 : Exa Z T38.heap b27 "com/example/serialis/serialis/DerivedGraph$OncePerList" := E_b27.keep K38
      have A_b_28 : ArI Z T38.heap b_28 v6 (upd (upd (upd (fun _ => 0) v15.toNatClampNeg ((0 : Int32) + (1 : Int32))) v24.toNatClampNeg ((0 : Int32) + (1 : Int32))) v15.toNatClampNeg ((0 : Int32) + (1 : Int32))) := A_b_28.keep K38 (ninS (Ne.symm ne_b27_b_28) nin0)
      have F_list_b27 : Fld Z T38.heap b27 "com/example/serialis/serialis/DerivedGraph$OncePerList" "list" "I" (.int (((0 : Int32) + (1 : Int32)) + (1 : Int32))) := P38_1
      have F_listed_b27 : Fld Z T38.heap b27 "com/example/serialis/serialis/DerivedGraph$OncePerList" "listed" "[I" (.ref b_28) := P38_2
      have N38 := Fr.app N34 N38q
      have pre39 : ∀ t, Steps p.tables e below (T38.setTop (mkF m 102 #[.val (.int p1), .val (.int p2), .val (.int p3), .val (.int p4), .val (.int p5), .val (.int v6), .val (.int v15), .val (.int v24), .val (.int v33), .val (.int z47_s0), .val (.ref b27), .val (.int v72), .val (.int v81), .val (.int v90), .unset, .unset, .unset, .unset, .unset, .unset, .unset] [])) t → Steps p.tables e below (s₁.setTop (entryFrame m #[(.int p1), (.int p2), (.int p3), (.int p4), (.int p5)] maxLocals)) t := fun t k => pre36 t (by
        show Steps p.tables e below (T34.setTop (mkF m 94 #[.val (.int p1), .val (.int p2), .val (.int p3), .val (.int p4), .val (.int p5), .val (.int v6), .val (.int v15), .val (.int v24), .val (.int v33), .val (.int z47_s0), .val (.ref b27), .val (.int v72), .val (.int v81), .val (.int v90), .unset, .unset, .unset, .unset, .unset, .unset, .unset] [(.int z47_s0)])) _
        refine XS.ifNo X34.here hx rfl (hb hby at_94) rfl ((if0 _ _).trans (feq hc94).1) ?_
        show Steps p.tables e below (T34.setTop (mkF m 97 #[.val (.int p1), .val (.int p2), .val (.int p3), .val (.int p4), .val (.int p5), .val (.int v6), .val (.int v15), .val (.int v24), .val (.int v33), .val (.int z47_s0), .val (.ref b27), .val (.int v72), .val (.int v81), .val (.int v90), .unset, .unset, .unset, .unset, .unset, .unset, .unset] [])) _
        refine XS.aload X34.here hx rfl (hb hby at_97) rfl rfl ?_
        show Steps p.tables e below (T34.setTop (mkF m 99 #[.val (.int p1), .val (.int p2), .val (.int p3), .val (.int p4), .val (.int p5), .val (.int v6), .val (.int v15), .val (.int v24), .val (.int v33), .val (.int z47_s0), .val (.ref b27), .val (.int v72), .val (.int v81), .val (.int v90), .unset, .unset, .unset, .unset, .unset, .unset, .unset] [(.ref b27)])) _
        refine st38.trans ?_
        exact k)
      have q_z102_F_list_b27 : z102_F_list_b27 = (((0 : Int32) + (1 : Int32)) + (1 : Int32)) := by rw [hz102_F_list_b27, if_neg hc94]
      refine ⟨_, _, _, X38, rfl, N38, Zs, E_b27, (by rw [q_z102_F_list_b27]; exact F_list_b27), F_listed_b27, A_b_28, fun t k => ?_⟩
      exact pre39 t k
  obtain ⟨cq41, kq41, q41a, q41b, q41c⟩ := isOf hZ e40 E_b27
  obtain ⟨_, _, ⟨T41, L41, k41, n41⟩, -, X41, ⟨Lc41, hQ41, l41, y41, z41⟩, st41⟩ := X40.virtualBack hx (y := (⟨"com/example/serialis/serialis/DerivedGraph$OncePerList", "add", "(I)Z"⟩ : MethodName)) (z := (⟨"com/example/serialis/serialis/DerivedGraph$OncePerList", "add", "(I)Z"⟩ : MethodName)) hown (mvT hZ (hw _ (List.mem_of_getElem? (i := 21) rfl))) (mvT hZ (hw _ (List.mem_of_getElem? (i := 22) rfl))) (notFace_of_selects (args := #[]) (mvT hZ (hw _ (List.mem_of_getElem? (i := 24) rfl)))) (mvT hZ (hw _ (List.mem_of_getElem? (i := 24) rfl))) (mvT hZ (hw _ (List.mem_of_getElem? (i := 23) rfl))) (by decide) (backOf (W := 0) (rmA l Z a0 hw [] b27 v33 z102_F_list_b27 b_28 v6 (upd (upd (upd (fun _ => 0) v15.toNatClampNeg ((0 : Int32) + (1 : Int32))) v24.toNatClampNeg ((0 : Int32) + (1 : Int32))) v15.toNatClampNeg ((0 : Int32) + (1 : Int32))) h40 n0 Zs F_list_b27 F_listed_b27 A_b_28 g_b_28 ne_b27_b_28 (own_rg hv6 hv33)) hZ (hw _ (List.mem_of_getElem? (i := 25) rfl)) (hw _ (List.mem_of_getElem? (i := 3) rfl)) (by decide) (by decide)) q41a q41c (g := (mkF m 106 #[.val (.int p1), .val (.int p2), .val (.int p3), .val (.int p4), .val (.int p5), .val (.int v6), .val (.int v15), .val (.int v24), .val (.int v33), .val (.int z47_s0), .val (.ref b27), .val (.int v72), .val (.int v81), .val (.int v90), .unset, .unset, .unset, .unset, .unset, .unset, .unset] [(.int v33), (.ref b27)])) rfl (by rw [hml]; rfl) (Steps.refl _) (argsL := [(.int v33)]) (rest := []) (lenOf pd_2 rfl) rfl (by show 2 * 0 + _ ≤ _; exact Nat.le_of_eq rfl) (hb hby at_106) (fun _ _ => ⟨rfl, e40, (by decide : 2 + 0 ≤ _), (by decide : 10 + 0 ≤ _)⟩)
  dsimp only [Pt.U, Pt.locs, Pt.cells, Pt.slots] at X41 l41 y41 z41 st41 hQ41
  subst l41 y41 z41
  obtain ⟨rfl, N41q, K41, P41_1⟩ := hQ41
  have Zs : n0 ≤ T41.heap.size := Nat.le_trans Zs K41.1
  have E_b27 : Exa Z T41.heap b27 "com/example/serialis/serialis/DerivedGraph$OncePerList" := E_b27.keep K41
  have F_list_b27 : Fld Z T41.heap b27 "com/example/serialis/serialis/DerivedGraph$OncePerList" "list" "I" (.int z102_F_list_b27) := F_list_b27.keep K41 (ninS ne_b27_b_28 nin0)
  have F_listed_b27 : Fld Z T41.heap b27 "com/example/serialis/serialis/DerivedGraph$OncePerList" "listed" "[I" (.ref b_28) := F_listed_b27.keep K41 (ninS ne_b27_b_28 nin0)
  have A_b_28 : ArI Z T41.heap b_28 v6 (upd (upd (upd (upd (fun _ => 0) v15.toNatClampNeg ((0 : Int32) + (1 : Int32))) v24.toNatClampNeg ((0 : Int32) + (1 : Int32))) v15.toNatClampNeg ((0 : Int32) + (1 : Int32))) v33.toNatClampNeg z102_F_list_b27) := P41_1
  have N41 := Fr.app N40 N41q
  obtain ⟨v109, hv109⟩ : ∃ z : Int32, z = (fA ((upd (upd (upd (fun _ => 0) v15.toNatClampNeg ((0 : Int32) + (1 : Int32))) v24.toNatClampNeg ((0 : Int32) + (1 : Int32))) v15.toNatClampNeg ((0 : Int32) + (1 : Int32))) v33.toNatClampNeg) z102_F_list_b27) := ⟨_, rfl⟩
  have pre42 : ∀ t, Steps p.tables e below (T41.setTop (mkF m 111 #[.val (.int p1), .val (.int p2), .val (.int p3), .val (.int p4), .val (.int p5), .val (.int v6), .val (.int v15), .val (.int v24), .val (.int v33), .val (.int z47_s0), .val (.ref b27), .val (.int v72), .val (.int v81), .val (.int v90), .val (.int v109), .unset, .unset, .unset, .unset, .unset, .unset] [])) t → Steps p.tables e below (s₁.setTop (entryFrame m #[(.int p1), (.int p2), (.int p3), (.int p4), (.int p5)] maxLocals)) t := fun t k => pre40 t (by
    show Steps p.tables e below (T40.setTop (mkF m 102 #[.val (.int p1), .val (.int p2), .val (.int p3), .val (.int p4), .val (.int p5), .val (.int v6), .val (.int v15), .val (.int v24), .val (.int v33), .val (.int z47_s0), .val (.ref b27), .val (.int v72), .val (.int v81), .val (.int v90), .unset, .unset, .unset, .unset, .unset, .unset, .unset] [])) _
    refine XS.aload X40.here hx rfl (hb hby at_102) rfl rfl ?_
    show Steps p.tables e below (T40.setTop (mkF m 104 #[.val (.int p1), .val (.int p2), .val (.int p3), .val (.int p4), .val (.int p5), .val (.int v6), .val (.int v15), .val (.int v24), .val (.int v33), .val (.int z47_s0), .val (.ref b27), .val (.int v72), .val (.int v81), .val (.int v90), .unset, .unset, .unset, .unset, .unset, .unset, .unset] [(.ref b27)])) _
    refine XS.iload X40.here hx rfl (hb hby at_104) rfl ?_
    show Steps p.tables e below (T40.setTop (mkF m 106 #[.val (.int p1), .val (.int p2), .val (.int p3), .val (.int p4), .val (.int p5), .val (.int v6), .val (.int v15), .val (.int v24), .val (.int v33), .val (.int z47_s0), .val (.ref b27), .val (.int v72), .val (.int v81), .val (.int v90), .unset, .unset, .unset, .unset, .unset, .unset, .unset] [(.int v33), (.ref b27)])) _
    refine st41.trans ?_
    show Steps p.tables e below (T41.setTop (mkF m 109 #[.val (.int p1), .val (.int p2), .val (.int p3), .val (.int p4), .val (.int p5), .val (.int v6), .val (.int v15), .val (.int v24), .val (.int v33), .val (.int z47_s0), .val (.ref b27), .val (.int v72), .val (.int v81), .val (.int v90), .unset, .unset, .unset, .unset, .unset, .unset, .unset] [(.int (fA ((upd (upd (upd (fun _ => 0) v15.toNatClampNeg ((0 : Int32) + (1 : Int32))) v24.toNatClampNeg ((0 : Int32) + (1 : Int32))) v15.toNatClampNeg ((0 : Int32) + (1 : Int32))) v33.toNatClampNeg) z102_F_list_b27))])) _
    refine XS.istore X41.here hx rfl (hb hby at_109) rfl (l' := #[.val (.int p1), .val (.int p2), .val (.int p3), .val (.int p4), .val (.int p5), .val (.int v6), .val (.int v15), .val (.int v24), .val (.int v33), .val (.int z47_s0), .val (.ref b27), .val (.int v72), .val (.int v81), .val (.int v90), .val (.int (fA ((upd (upd (upd (fun _ => 0) v15.toNatClampNeg ((0 : Int32) + (1 : Int32))) v24.toNatClampNeg ((0 : Int32) + (1 : Int32))) v15.toNatClampNeg ((0 : Int32) + (1 : Int32))) v33.toNatClampNeg) z102_F_list_b27)), .unset, .unset, .unset, .unset, .unset, .unset]) rfl ?_
    rw [hv109] at k
    exact k)
  obtain ⟨cq43, kq43, q43a, q43b, q43c⟩ := isOf hZ rfl E_b27
  obtain ⟨_, _, ⟨T43, L43, k43, n43⟩, -, X43, ⟨Lc43, hQ43, l43, y43, z43⟩, st43⟩ := X41.virtualBack hx (y := (⟨"com/example/serialis/serialis/DerivedGraph$OncePerList", "add", "(I)Z"⟩ : MethodName)) (z := (⟨"com/example/serialis/serialis/DerivedGraph$OncePerList", "add", "(I)Z"⟩ : MethodName)) hown (mvT hZ (hw _ (List.mem_of_getElem? (i := 21) rfl))) (mvT hZ (hw _ (List.mem_of_getElem? (i := 22) rfl))) (notFace_of_selects (args := #[]) (mvT hZ (hw _ (List.mem_of_getElem? (i := 24) rfl)))) (mvT hZ (hw _ (List.mem_of_getElem? (i := 24) rfl))) (mvT hZ (hw _ (List.mem_of_getElem? (i := 23) rfl))) (by decide) (backOf (W := 0) (rmA l Z a0 hw [] b27 v24 z102_F_list_b27 b_28 v6 (upd (upd (upd (upd (fun _ => 0) v15.toNatClampNeg ((0 : Int32) + (1 : Int32))) v24.toNatClampNeg ((0 : Int32) + (1 : Int32))) v15.toNatClampNeg ((0 : Int32) + (1 : Int32))) v33.toNatClampNeg z102_F_list_b27) T41.heap n0 Zs F_list_b27 F_listed_b27 A_b_28 g_b_28 ne_b27_b_28 (own_rg hv6 hv24)) hZ (hw _ (List.mem_of_getElem? (i := 25) rfl)) (hw _ (List.mem_of_getElem? (i := 3) rfl)) (by decide) (by decide)) q43a q43c (g := (mkF m 115 #[.val (.int p1), .val (.int p2), .val (.int p3), .val (.int p4), .val (.int p5), .val (.int v6), .val (.int v15), .val (.int v24), .val (.int v33), .val (.int z47_s0), .val (.ref b27), .val (.int v72), .val (.int v81), .val (.int v90), .val (.int v109), .unset, .unset, .unset, .unset, .unset, .unset] [(.int v24), (.ref b27)])) rfl (by rw [hml]; rfl) (Steps.refl _) (argsL := [(.int v24)]) (rest := []) (lenOf pd_2 rfl) rfl (by show 2 * 0 + _ ≤ _; exact Nat.le_of_eq rfl) (hb hby at_115) (fun _ _ => ⟨rfl, rfl, (by decide : 2 + 0 ≤ _), (by decide : 10 + 0 ≤ _)⟩)
  dsimp only [Pt.U, Pt.locs, Pt.cells, Pt.slots] at X43 l43 y43 z43 st43 hQ43
  subst l43 y43 z43
  obtain ⟨rfl, N43q, K43, P43_1⟩ := hQ43
  have Zs : n0 ≤ T43.heap.size := Nat.le_trans Zs K43.1
  have E_b27 : Exa Z T43.heap b27 "com/example/serialis/serialis/DerivedGraph$OncePerList" := E_b27.keep K43
  have F_list_b27 : Fld Z T43.heap b27 "com/example/serialis/serialis/DerivedGraph$OncePerList" "list" "I" (.int z102_F_list_b27) := F_list_b27.keep K43 (ninS ne_b27_b_28 nin0)
  have F_listed_b27 : Fld Z T43.heap b27 "com/example/serialis/serialis/DerivedGraph$OncePerList" "listed" "[I" (.ref b_28) := F_listed_b27.keep K43 (ninS ne_b27_b_28 nin0)
  have A_b_28 : ArI Z T43.heap b_28 v6 (upd (upd (upd (upd (upd (fun _ => 0) v15.toNatClampNeg ((0 : Int32) + (1 : Int32))) v24.toNatClampNeg ((0 : Int32) + (1 : Int32))) v15.toNatClampNeg ((0 : Int32) + (1 : Int32))) v33.toNatClampNeg z102_F_list_b27) v24.toNatClampNeg z102_F_list_b27) := P43_1
  have N43 := Fr.app N41 N43q
  obtain ⟨v118, hv118⟩ : ∃ z : Int32, z = (fA ((upd (upd (upd (upd (fun _ => 0) v15.toNatClampNeg ((0 : Int32) + (1 : Int32))) v24.toNatClampNeg ((0 : Int32) + (1 : Int32))) v15.toNatClampNeg ((0 : Int32) + (1 : Int32))) v33.toNatClampNeg z102_F_list_b27) v24.toNatClampNeg) z102_F_list_b27) := ⟨_, rfl⟩
  have pre44 : ∀ t, Steps p.tables e below (T43.setTop (mkF m 120 #[.val (.int p1), .val (.int p2), .val (.int p3), .val (.int p4), .val (.int p5), .val (.int v6), .val (.int v15), .val (.int v24), .val (.int v33), .val (.int z47_s0), .val (.ref b27), .val (.int v72), .val (.int v81), .val (.int v90), .val (.int v109), .val (.int v118), .unset, .unset, .unset, .unset, .unset] [])) t → Steps p.tables e below (s₁.setTop (entryFrame m #[(.int p1), (.int p2), (.int p3), (.int p4), (.int p5)] maxLocals)) t := fun t k => pre42 t (by
    show Steps p.tables e below (T41.setTop (mkF m 111 #[.val (.int p1), .val (.int p2), .val (.int p3), .val (.int p4), .val (.int p5), .val (.int v6), .val (.int v15), .val (.int v24), .val (.int v33), .val (.int z47_s0), .val (.ref b27), .val (.int v72), .val (.int v81), .val (.int v90), .val (.int v109), .unset, .unset, .unset, .unset, .unset, .unset] [])) _
    refine XS.aload X41.here hx rfl (hb hby at_111) rfl rfl ?_
    show Steps p.tables e below (T41.setTop (mkF m 113 #[.val (.int p1), .val (.int p2), .val (.int p3), .val (.int p4), .val (.int p5), .val (.int v6), .val (.int v15), .val (.int v24), .val (.int v33), .val (.int z47_s0), .val (.ref b27), .val (.int v72), .val (.int v81), .val (.int v90), .val (.int v109), .unset, .unset, .unset, .unset, .unset, .unset] [(.ref b27)])) _
    refine XS.iload X41.here hx rfl (hb hby at_113) rfl ?_
    show Steps p.tables e below (T41.setTop (mkF m 115 #[.val (.int p1), .val (.int p2), .val (.int p3), .val (.int p4), .val (.int p5), .val (.int v6), .val (.int v15), .val (.int v24), .val (.int v33), .val (.int z47_s0), .val (.ref b27), .val (.int v72), .val (.int v81), .val (.int v90), .val (.int v109), .unset, .unset, .unset, .unset, .unset, .unset] [(.int v24), (.ref b27)])) _
    refine st43.trans ?_
    show Steps p.tables e below (T43.setTop (mkF m 118 #[.val (.int p1), .val (.int p2), .val (.int p3), .val (.int p4), .val (.int p5), .val (.int v6), .val (.int v15), .val (.int v24), .val (.int v33), .val (.int z47_s0), .val (.ref b27), .val (.int v72), .val (.int v81), .val (.int v90), .val (.int v109), .unset, .unset, .unset, .unset, .unset, .unset] [(.int (fA ((upd (upd (upd (upd (fun _ => 0) v15.toNatClampNeg ((0 : Int32) + (1 : Int32))) v24.toNatClampNeg ((0 : Int32) + (1 : Int32))) v15.toNatClampNeg ((0 : Int32) + (1 : Int32))) v33.toNatClampNeg z102_F_list_b27) v24.toNatClampNeg) z102_F_list_b27))])) _
    refine XS.istore X43.here hx rfl (hb hby at_118) rfl (l' := #[.val (.int p1), .val (.int p2), .val (.int p3), .val (.int p4), .val (.int p5), .val (.int v6), .val (.int v15), .val (.int v24), .val (.int v33), .val (.int z47_s0), .val (.ref b27), .val (.int v72), .val (.int v81), .val (.int v90), .val (.int v109), .val (.int (fA ((upd (upd (upd (upd (fun _ => 0) v15.toNatClampNeg ((0 : Int32) + (1 : Int32))) v24.toNatClampNeg ((0 : Int32) + (1 : Int32))) v15.toNatClampNeg ((0 : Int32) + (1 : Int32))) v33.toNatClampNeg z102_F_list_b27) v24.toNatClampNeg) z102_F_list_b27)), .unset, .unset, .unset, .unset, .unset]) rfl ?_
    rw [hv118] at k
    exact k)
  have pre45 : ∀ t, Steps p.tables e below (T43.setTop (mkF m 127 #[.val (.int p1), .val (.int p2), .val (.int p3), .val (.int p4), .val (.int p5), .val (.int v6), .val (.int v15), .val (.int v24), .val (.int v33), .val (.int z47_s0), .val (.ref b27), .val (.int v72), .val (.int v81), .val (.int v90), .val (.int v109), .val (.int v118), .val (.int (1 : Int32)), .unset, .unset, .unset, .unset] [(.int v15), (.int v24)])) t → Steps p.tables e below (s₁.setTop (entryFrame m #[(.int p1), (.int p2), (.int p3), (.int p4), (.int p5)] maxLocals)) t := fun t k => pre44 t (by
    show Steps p.tables e below (T43.setTop (mkF m 120 #[.val (.int p1), .val (.int p2), .val (.int p3), .val (.int p4), .val (.int p5), .val (.int v6), .val (.int v15), .val (.int v24), .val (.int v33), .val (.int z47_s0), .val (.ref b27), .val (.int v72), .val (.int v81), .val (.int v90), .val (.int v109), .val (.int v118), .unset, .unset, .unset, .unset, .unset] [])) _
    refine XS.iconst X43.here hx rfl (hb hby at_120) ?_
    show Steps p.tables e below (T43.setTop (mkF m 121 #[.val (.int p1), .val (.int p2), .val (.int p3), .val (.int p4), .val (.int p5), .val (.int v6), .val (.int v15), .val (.int v24), .val (.int v33), .val (.int z47_s0), .val (.ref b27), .val (.int v72), .val (.int v81), .val (.int v90), .val (.int v109), .val (.int v118), .unset, .unset, .unset, .unset, .unset] [(.int (1 : Int32))])) _
    refine XS.istore X43.here hx rfl (hb hby at_121) rfl (l' := #[.val (.int p1), .val (.int p2), .val (.int p3), .val (.int p4), .val (.int p5), .val (.int v6), .val (.int v15), .val (.int v24), .val (.int v33), .val (.int z47_s0), .val (.ref b27), .val (.int v72), .val (.int v81), .val (.int v90), .val (.int v109), .val (.int v118), .val (.int (1 : Int32)), .unset, .unset, .unset, .unset]) rfl ?_
    show Steps p.tables e below (T43.setTop (mkF m 123 #[.val (.int p1), .val (.int p2), .val (.int p3), .val (.int p4), .val (.int p5), .val (.int v6), .val (.int v15), .val (.int v24), .val (.int v33), .val (.int z47_s0), .val (.ref b27), .val (.int v72), .val (.int v81), .val (.int v90), .val (.int v109), .val (.int v118), .val (.int (1 : Int32)), .unset, .unset, .unset, .unset] [])) _
    refine XS.iload X43.here hx rfl (hb hby at_123) rfl ?_
    show Steps p.tables e below (T43.setTop (mkF m 125 #[.val (.int p1), .val (.int p2), .val (.int p3), .val (.int p4), .val (.int p5), .val (.int v6), .val (.int v15), .val (.int v24), .val (.int v33), .val (.int z47_s0), .val (.ref b27), .val (.int v72), .val (.int v81), .val (.int v90), .val (.int v109), .val (.int v118), .val (.int (1 : Int32)), .unset, .unset, .unset, .unset] [(.int v24)])) _
    refine XS.iload X43.here hx rfl (hb hby at_125) rfl ?_
    exact k)
  obtain ⟨z135_s0, hz135_s0⟩ : ∃ z : Int32, z = (if v24 = v15 then (0 : Int32) else (1 : Int32)) := ⟨_, rfl⟩
  obtain ⟨T48, Lc48, X48, e48, N48, pre48⟩ : ∃ (T' : State) (locs' : List Loc), Stand p l e room_1 s m #[(.int p1), (.int p2), (.int p3), (.int p4), (.int p5)] below meth c T' locs' 2 10 ∧ T'.heap = T43.heap ∧ Fr n0 locs' ∧ ∀ t, Steps p.tables e below (T'.setTop (mkF m 135 #[.val (.int p1), .val (.int p2), .val (.int p3), .val (.int p4), .val (.int p5), .val (.int v6), .val (.int v15), .val (.int v24), .val (.int v33), .val (.int z47_s0), .val (.ref b27), .val (.int v72), .val (.int v81), .val (.int v90), .val (.int v109), .val (.int v118), .val (.int (1 : Int32)), .unset, .unset, .unset, .unset] [(.int z135_s0)])) t → Steps p.tables e below (s₁.setTop (entryFrame m #[(.int p1), (.int p2), (.int p3), (.int p4), (.int p5)] maxLocals)) t := by
    by_cases hc127 : v24 = v15
    ·
      have pre46 : ∀ t, Steps p.tables e below (T43.setTop (mkF m 135 #[.val (.int p1), .val (.int p2), .val (.int p3), .val (.int p4), .val (.int p5), .val (.int v6), .val (.int v15), .val (.int v24), .val (.int v33), .val (.int z47_s0), .val (.ref b27), .val (.int v72), .val (.int v81), .val (.int v90), .val (.int v109), .val (.int v118), .val (.int (1 : Int32)), .unset, .unset, .unset, .unset] [(.int (0 : Int32))])) t → Steps p.tables e below (s₁.setTop (entryFrame m #[(.int p1), (.int p2), (.int p3), (.int p4), (.int p5)] maxLocals)) t := fun t k => pre45 t (by
        show Steps p.tables e below (T43.setTop (mkF m 127 #[.val (.int p1), .val (.int p2), .val (.int p3), .val (.int p4), .val (.int p5), .val (.int v6), .val (.int v15), .val (.int v24), .val (.int v33), .val (.int z47_s0), .val (.ref b27), .val (.int v72), .val (.int v81), .val (.int v90), .val (.int v109), .val (.int v118), .val (.int (1 : Int32)), .unset, .unset, .unset, .unset] [(.int v15), (.int v24)])) _
        refine XS.icmpYes X43.here hx rfl (pc0 := 127) (pc' := 134) rfl (hb hby at_127) rfl (teq hc127).1 (by decide) (by decide) ?_
        show Steps p.tables e below (T43.setTop (mkF m 134 #[.val (.int p1), .val (.int p2), .val (.int p3), .val (.int p4), .val (.int p5), .val (.int v6), .val (.int v15), .val (.int v24), .val (.int v33), .val (.int z47_s0), .val (.ref b27), .val (.int v72), .val (.int v81), .val (.int v90), .val (.int v109), .val (.int v118), .val (.int (1 : Int32)), .unset, .unset, .unset, .unset] [])) _
        refine XS.iconst X43.here hx rfl (hb hby at_134) ?_
        exact k)
      have q_z135_s0 : z135_s0 = (0 : Int32) := by rw [hz135_s0, if_pos hc127]
      refine ⟨_, _, X43, rfl, N43, fun t k => ?_⟩
      rw [q_z135_s0] at k
      exact pre46 t k
    ·
      have pre47 : ∀ t, Steps p.tables e below (T43.setTop (mkF m 135 #[.val (.int p1), .val (.int p2), .val (.int p3), .val (.int p4), .val (.int p5), .val (.int v6), .val (.int v15), .val (.int v24), .val (.int v33), .val (.int z47_s0), .val (.ref b27), .val (.int v72), .val (.int v81), .val (.int v90), .val (.int v109), .val (.int v118), .val (.int (1 : Int32)), .unset, .unset, .unset, .unset] [(.int (1 : Int32))])) t → Steps p.tables e below (s₁.setTop (entryFrame m #[(.int p1), (.int p2), (.int p3), (.int p4), (.int p5)] maxLocals)) t := fun t k => pre45 t (by
        show Steps p.tables e below (T43.setTop (mkF m 127 #[.val (.int p1), .val (.int p2), .val (.int p3), .val (.int p4), .val (.int p5), .val (.int v6), .val (.int v15), .val (.int v24), .val (.int v33), .val (.int z47_s0), .val (.ref b27), .val (.int v72), .val (.int v81), .val (.int v90), .val (.int v109), .val (.int v118), .val (.int (1 : Int32)), .unset, .unset, .unset, .unset] [(.int v15), (.int v24)])) _
        refine XS.icmpNo X43.here hx rfl (hb hby at_127) rfl (feq hc127).1 ?_
        show Steps p.tables e below (T43.setTop (mkF m 130 #[.val (.int p1), .val (.int p2), .val (.int p3), .val (.int p4), .val (.int p5), .val (.int v6), .val (.int v15), .val (.int v24), .val (.int v33), .val (.int z47_s0), .val (.ref b27), .val (.int v72), .val (.int v81), .val (.int v90), .val (.int v109), .val (.int v118), .val (.int (1 : Int32)), .unset, .unset, .unset, .unset] [])) _
        refine XS.iconst X43.here hx rfl (hb hby at_130) ?_
        show Steps p.tables e below (T43.setTop (mkF m 131 #[.val (.int p1), .val (.int p2), .val (.int p3), .val (.int p4), .val (.int p5), .val (.int v6), .val (.int v15), .val (.int v24), .val (.int v33), .val (.int z47_s0), .val (.ref b27), .val (.int v72), .val (.int v81), .val (.int v90), .val (.int v109), .val (.int v118), .val (.int (1 : Int32)), .unset, .unset, .unset, .unset] [(.int (1 : Int32))])) _
        refine XS.goto X43.here hx rfl (pc0 := 131) (pc' := 135) rfl (hb hby at_131) (by decide) (by decide) ?_
        exact k)
      have q_z135_s0 : z135_s0 = (1 : Int32) := by rw [hz135_s0, if_neg hc127]
      refine ⟨_, _, X43, rfl, N43, fun t k => ?_⟩
      rw [q_z135_s0] at k
      exact pre47 t k
  have pre49 : ∀ t, Steps p.tables e below (T48.setTop (mkF m 142 #[.val (.int p1), .val (.int p2), .val (.int p3), .val (.int p4), .val (.int p5), .val (.int v6), .val (.int v15), .val (.int v24), .val (.int v33), .val (.int z47_s0), .val (.ref b27), .val (.int v72), .val (.int v81), .val (.int v90), .val (.int v109), .val (.int v118), .val (.int (1 : Int32)), .val (.int z135_s0), .val (.int (0 : Int32)), .unset, .unset] [(.int z47_s0)])) t → Steps p.tables e below (s₁.setTop (entryFrame m #[(.int p1), (.int p2), (.int p3), (.int p4), (.int p5)] maxLocals)) t := fun t k => pre48 t (by
    show Steps p.tables e below (T48.setTop (mkF m 135 #[.val (.int p1), .val (.int p2), .val (.int p3), .val (.int p4), .val (.int p5), .val (.int v6), .val (.int v15), .val (.int v24), .val (.int v33), .val (.int z47_s0), .val (.ref b27), .val (.int v72), .val (.int v81), .val (.int v90), .val (.int v109), .val (.int v118), .val (.int (1 : Int32)), .unset, .unset, .unset, .unset] [(.int z135_s0)])) _
    refine XS.istore X48.here hx rfl (hb hby at_135) rfl (l' := #[.val (.int p1), .val (.int p2), .val (.int p3), .val (.int p4), .val (.int p5), .val (.int v6), .val (.int v15), .val (.int v24), .val (.int v33), .val (.int z47_s0), .val (.ref b27), .val (.int v72), .val (.int v81), .val (.int v90), .val (.int v109), .val (.int v118), .val (.int (1 : Int32)), .val (.int z135_s0), .unset, .unset, .unset]) rfl ?_
    show Steps p.tables e below (T48.setTop (mkF m 137 #[.val (.int p1), .val (.int p2), .val (.int p3), .val (.int p4), .val (.int p5), .val (.int v6), .val (.int v15), .val (.int v24), .val (.int v33), .val (.int z47_s0), .val (.ref b27), .val (.int v72), .val (.int v81), .val (.int v90), .val (.int v109), .val (.int v118), .val (.int (1 : Int32)), .val (.int z135_s0), .unset, .unset, .unset] [])) _
    refine XS.iconst X48.here hx rfl (hb hby at_137) ?_
    show Steps p.tables e below (T48.setTop (mkF m 138 #[.val (.int p1), .val (.int p2), .val (.int p3), .val (.int p4), .val (.int p5), .val (.int v6), .val (.int v15), .val (.int v24), .val (.int v33), .val (.int z47_s0), .val (.ref b27), .val (.int v72), .val (.int v81), .val (.int v90), .val (.int v109), .val (.int v118), .val (.int (1 : Int32)), .val (.int z135_s0), .unset, .unset, .unset] [(.int (0 : Int32))])) _
    refine XS.istore X48.here hx rfl (hb hby at_138) rfl (l' := #[.val (.int p1), .val (.int p2), .val (.int p3), .val (.int p4), .val (.int p5), .val (.int v6), .val (.int v15), .val (.int v24), .val (.int v33), .val (.int z47_s0), .val (.ref b27), .val (.int v72), .val (.int v81), .val (.int v90), .val (.int v109), .val (.int v118), .val (.int (1 : Int32)), .val (.int z135_s0), .val (.int (0 : Int32)), .unset, .unset]) rfl ?_
    show Steps p.tables e below (T48.setTop (mkF m 140 #[.val (.int p1), .val (.int p2), .val (.int p3), .val (.int p4), .val (.int p5), .val (.int v6), .val (.int v15), .val (.int v24), .val (.int v33), .val (.int z47_s0), .val (.ref b27), .val (.int v72), .val (.int v81), .val (.int v90), .val (.int v109), .val (.int v118), .val (.int (1 : Int32)), .val (.int z135_s0), .val (.int (0 : Int32)), .unset, .unset] [])) _
    refine XS.iload X48.here hx rfl (hb hby at_140) rfl ?_
    exact k)
  obtain ⟨z189_l19, hz189_l19⟩ : ∃ z : Int32, z = (if z47_s0 = (0 : Int32) then (if v33 = v15 then (0 : Int32) else (if v33 = v24 then (0 : Int32) else (1 : Int32))) else (1 : Int32)) := ⟨_, rfl⟩
  obtain ⟨z189_l20, hz189_l20⟩ : ∃ z : Int32, z = (if z47_s0 = (0 : Int32) then (0 : Int32) else (if v24 = v33 then (0 : Int32) else (1 : Int32))) := ⟨_, rfl⟩
  obtain ⟨T58, Lc58, X58, e58, N58, pre58⟩ : ∃ (T' : State) (locs' : List Loc), Stand p l e room_1 s m #[(.int p1), (.int p2), (.int p3), (.int p4), (.int p5)] below meth c T' locs' 2 10 ∧ T'.heap = T43.heap ∧ Fr n0 locs' ∧ ∀ t, Steps p.tables e below (T'.setTop (mkF m 189 #[.val (.int p1), .val (.int p2), .val (.int p3), .val (.int p4), .val (.int p5), .val (.int v6), .val (.int v15), .val (.int v24), .val (.int v33), .val (.int z47_s0), .val (.ref b27), .val (.int v72), .val (.int v81), .val (.int v90), .val (.int v109), .val (.int v118), .val (.int (1 : Int32)), .val (.int z135_s0), .val (.int (0 : Int32)), .val (.int z189_l19), .val (.int z189_l20)] [])) t → Steps p.tables e below (s₁.setTop (entryFrame m #[(.int p1), (.int p2), (.int p3), (.int p4), (.int p5)] maxLocals)) t := by
    by_cases hc142 : z47_s0 = (0 : Int32)
    ·
      have pre50 : ∀ t, Steps p.tables e below (T48.setTop (mkF m 169 #[.val (.int p1), .val (.int p2), .val (.int p3), .val (.int p4), .val (.int p5), .val (.int v6), .val (.int v15), .val (.int v24), .val (.int v33), .val (.int z47_s0), .val (.ref b27), .val (.int v72), .val (.int v81), .val (.int v90), .val (.int v109), .val (.int v118), .val (.int (1 : Int32)), .val (.int z135_s0), .val (.int (0 : Int32)), .unset, .unset] [(.int v15), (.int v33)])) t → Steps p.tables e below (s₁.setTop (entryFrame m #[(.int p1), (.int p2), (.int p3), (.int p4), (.int p5)] maxLocals)) t := fun t k => pre49 t (by
        show Steps p.tables e below (T48.setTop (mkF m 142 #[.val (.int p1), .val (.int p2), .val (.int p3), .val (.int p4), .val (.int p5), .val (.int v6), .val (.int v15), .val (.int v24), .val (.int v33), .val (.int z47_s0), .val (.ref b27), .val (.int v72), .val (.int v81), .val (.int v90), .val (.int v109), .val (.int v118), .val (.int (1 : Int32)), .val (.int z135_s0), .val (.int (0 : Int32)), .unset, .unset] [(.int z47_s0)])) _
        refine XS.ifYes X48.here hx rfl (pc0 := 142) (pc' := 165) rfl (hb hby at_142) rfl ((if0 _ _).trans (teq hc142).1) (by decide) (by decide) ?_
        show Steps p.tables e below (T48.setTop (mkF m 165 #[.val (.int p1), .val (.int p2), .val (.int p3), .val (.int p4), .val (.int p5), .val (.int v6), .val (.int v15), .val (.int v24), .val (.int v33), .val (.int z47_s0), .val (.ref b27), .val (.int v72), .val (.int v81), .val (.int v90), .val (.int v109), .val (.int v118), .val (.int (1 : Int32)), .val (.int z135_s0), .val (.int (0 : Int32)), .unset, .unset] [])) _
        refine XS.iload X48.here hx rfl (hb hby at_165) rfl ?_
        show Steps p.tables e below (T48.setTop (mkF m 167 #[.val (.int p1), .val (.int p2), .val (.int p3), .val (.int p4), .val (.int p5), .val (.int v6), .val (.int v15), .val (.int v24), .val (.int v33), .val (.int z47_s0), .val (.ref b27), .val (.int v72), .val (.int v81), .val (.int v90), .val (.int v109), .val (.int v118), .val (.int (1 : Int32)), .val (.int z135_s0), .val (.int (0 : Int32)), .unset, .unset] [(.int v33)])) _
        refine XS.iload X48.here hx rfl (hb hby at_167) rfl ?_
        exact k)
      by_cases hc169 : v33 = v15
      ·
        have pre51 : ∀ t, Steps p.tables e below (T48.setTop (mkF m 189 #[.val (.int p1), .val (.int p2), .val (.int p3), .val (.int p4), .val (.int p5), .val (.int v6), .val (.int v15), .val (.int v24), .val (.int v33), .val (.int z47_s0), .val (.ref b27), .val (.int v72), .val (.int v81), .val (.int v90), .val (.int v109), .val (.int v118), .val (.int (1 : Int32)), .val (.int z135_s0), .val (.int (0 : Int32)), .val (.int (0 : Int32)), .val (.int (0 : Int32))] [])) t → Steps p.tables e below (s₁.setTop (entryFrame m #[(.int p1), (.int p2), (.int p3), (.int p4), (.int p5)] maxLocals)) t := fun t k => pre50 t (by
          show Steps p.tables e below (T48.setTop (mkF m 169 #[.val (.int p1), .val (.int p2), .val (.int p3), .val (.int p4), .val (.int p5), .val (.int v6), .val (.int v15), .val (.int v24), .val (.int v33), .val (.int z47_s0), .val (.ref b27), .val (.int v72), .val (.int v81), .val (.int v90), .val (.int v109), .val (.int v118), .val (.int (1 : Int32)), .val (.int z135_s0), .val (.int (0 : Int32)), .unset, .unset] [(.int v15), (.int v33)])) _
          refine XS.icmpYes X48.here hx rfl (pc0 := 169) (pc' := 183) rfl (hb hby at_169) rfl (teq hc169).1 (by decide) (by decide) ?_
          show Steps p.tables e below (T48.setTop (mkF m 183 #[.val (.int p1), .val (.int p2), .val (.int p3), .val (.int p4), .val (.int p5), .val (.int v6), .val (.int v15), .val (.int v24), .val (.int v33), .val (.int z47_s0), .val (.ref b27), .val (.int v72), .val (.int v81), .val (.int v90), .val (.int v109), .val (.int v118), .val (.int (1 : Int32)), .val (.int z135_s0), .val (.int (0 : Int32)), .unset, .unset] [])) _
          refine XS.iconst X48.here hx rfl (hb hby at_183) ?_
          show Steps p.tables e below (T48.setTop (mkF m 184 #[.val (.int p1), .val (.int p2), .val (.int p3), .val (.int p4), .val (.int p5), .val (.int v6), .val (.int v15), .val (.int v24), .val (.int v33), .val (.int z47_s0), .val (.ref b27), .val (.int v72), .val (.int v81), .val (.int v90), .val (.int v109), .val (.int v118), .val (.int (1 : Int32)), .val (.int z135_s0), .val (.int (0 : Int32)), .unset, .unset] [(.int (0 : Int32))])) _
          refine XS.istore X48.here hx rfl (hb hby at_184) rfl (l' := #[.val (.int p1), .val (.int p2), .val (.int p3), .val (.int p4), .val (.int p5), .val (.int v6), .val (.int v15), .val (.int v24), .val (.int v33), .val (.int z47_s0), .val (.ref b27), .val (.int v72), .val (.int v81), .val (.int v90), .val (.int v109), .val (.int v118), .val (.int (1 : Int32)), .val (.int z135_s0), .val (.int (0 : Int32)), .val (.int (0 : Int32)), .unset]) rfl ?_
          show Steps p.tables e below (T48.setTop (mkF m 186 #[.val (.int p1), .val (.int p2), .val (.int p3), .val (.int p4), .val (.int p5), .val (.int v6), .val (.int v15), .val (.int v24), .val (.int v33), .val (.int z47_s0), .val (.ref b27), .val (.int v72), .val (.int v81), .val (.int v90), .val (.int v109), .val (.int v118), .val (.int (1 : Int32)), .val (.int z135_s0), .val (.int (0 : Int32)), .val (.int (0 : Int32)), .unset] [])) _
          refine XS.iconst X48.here hx rfl (hb hby at_186) ?_
          show Steps p.tables e below (T48.setTop (mkF m 187 #[.val (.int p1), .val (.int p2), .val (.int p3), .val (.int p4), .val (.int p5), .val (.int v6), .val (.int v15), .val (.int v24), .val (.int v33), .val (.int z47_s0), .val (.ref b27), .val (.int v72), .val (.int v81), .val (.int v90), .val (.int v109), .val (.int v118), .val (.int (1 : Int32)), .val (.int z135_s0), .val (.int (0 : Int32)), .val (.int (0 : Int32)), .unset] [(.int (0 : Int32))])) _
          refine XS.istore X48.here hx rfl (hb hby at_187) rfl (l' := #[.val (.int p1), .val (.int p2), .val (.int p3), .val (.int p4), .val (.int p5), .val (.int v6), .val (.int v15), .val (.int v24), .val (.int v33), .val (.int z47_s0), .val (.ref b27), .val (.int v72), .val (.int v81), .val (.int v90), .val (.int v109), .val (.int v118), .val (.int (1 : Int32)), .val (.int z135_s0), .val (.int (0 : Int32)), .val (.int (0 : Int32)), .val (.int (0 : Int32))]) rfl ?_
          exact k)
        have q_z189_l19 : z189_l19 = (0 : Int32) := by rw [hz189_l19, if_pos hc142, if_pos hc169]
        have q_z189_l20 : z189_l20 = (0 : Int32) := by rw [hz189_l20, if_pos hc142]
        refine ⟨_, _, X48, e48, N48, fun t k => ?_⟩
        rw [q_z189_l19, q_z189_l20] at k
        exact pre51 t k
      ·
        have pre52 : ∀ t, Steps p.tables e below (T48.setTop (mkF m 176 #[.val (.int p1), .val (.int p2), .val (.int p3), .val (.int p4), .val (.int p5), .val (.int v6), .val (.int v15), .val (.int v24), .val (.int v33), .val (.int z47_s0), .val (.ref b27), .val (.int v72), .val (.int v81), .val (.int v90), .val (.int v109), .val (.int v118), .val (.int (1 : Int32)), .val (.int z135_s0), .val (.int (0 : Int32)), .unset, .unset] [(.int v24), (.int v33)])) t → Steps p.tables e below (s₁.setTop (entryFrame m #[(.int p1), (.int p2), (.int p3), (.int p4), (.int p5)] maxLocals)) t := fun t k => pre50 t (by
          show Steps p.tables e below (T48.setTop (mkF m 169 #[.val (.int p1), .val (.int p2), .val (.int p3), .val (.int p4), .val (.int p5), .val (.int v6), .val (.int v15), .val (.int v24), .val (.int v33), .val (.int z47_s0), .val (.ref b27), .val (.int v72), .val (.int v81), .val (.int v90), .val (.int v109), .val (.int v118), .val (.int (1 : Int32)), .val (.int z135_s0), .val (.int (0 : Int32)), .unset, .unset] [(.int v15), (.int v33)])) _
          refine XS.icmpNo X48.here hx rfl (hb hby at_169) rfl (feq hc169).1 ?_
          show Steps p.tables e below (T48.setTop (mkF m 172 #[.val (.int p1), .val (.int p2), .val (.int p3), .val (.int p4), .val (.int p5), .val (.int v6), .val (.int v15), .val (.int v24), .val (.int v33), .val (.int z47_s0), .val (.ref b27), .val (.int v72), .val (.int v81), .val (.int v90), .val (.int v109), .val (.int v118), .val (.int (1 : Int32)), .val (.int z135_s0), .val (.int (0 : Int32)), .unset, .unset] [])) _
          refine XS.iload X48.here hx rfl (hb hby at_172) rfl ?_
          show Steps p.tables e below (T48.setTop (mkF m 174 #[.val (.int p1), .val (.int p2), .val (.int p3), .val (.int p4), .val (.int p5), .val (.int v6), .val (.int v15), .val (.int v24), .val (.int v33), .val (.int z47_s0), .val (.ref b27), .val (.int v72), .val (.int v81), .val (.int v90), .val (.int v109), .val (.int v118), .val (.int (1 : Int32)), .val (.int z135_s0), .val (.int (0 : Int32)), .unset, .unset] [(.int v33)])) _
          refine XS.iload X48.here hx rfl (hb hby at_174) rfl ?_
          exact k)
        by_cases hc176 : v33 = v24
        ·
          have pre53 : ∀ t, Steps p.tables e below (T48.setTop (mkF m 189 #[.val (.int p1), .val (.int p2), .val (.int p3), .val (.int p4), .val (.int p5), .val (.int v6), .val (.int v15), .val (.int v24), .val (.int v33), .val (.int z47_s0), .val (.ref b27), .val (.int v72), .val (.int v81), .val (.int v90), .val (.int v109), .val (.int v118), .val (.int (1 : Int32)), .val (.int z135_s0), .val (.int (0 : Int32)), .val (.int (0 : Int32)), .val (.int (0 : Int32))] [])) t → Steps p.tables e below (s₁.setTop (entryFrame m #[(.int p1), (.int p2), (.int p3), (.int p4), (.int p5)] maxLocals)) t := fun t k => pre52 t (by
            show Steps p.tables e below (T48.setTop (mkF m 176 #[.val (.int p1), .val (.int p2), .val (.int p3), .val (.int p4), .val (.int p5), .val (.int v6), .val (.int v15), .val (.int v24), .val (.int v33), .val (.int z47_s0), .val (.ref b27), .val (.int v72), .val (.int v81), .val (.int v90), .val (.int v109), .val (.int v118), .val (.int (1 : Int32)), .val (.int z135_s0), .val (.int (0 : Int32)), .unset, .unset] [(.int v24), (.int v33)])) _
            refine XS.icmpYes X48.here hx rfl (pc0 := 176) (pc' := 183) rfl (hb hby at_176) rfl (teq hc176).1 (by decide) (by decide) ?_
            show Steps p.tables e below (T48.setTop (mkF m 183 #[.val (.int p1), .val (.int p2), .val (.int p3), .val (.int p4), .val (.int p5), .val (.int v6), .val (.int v15), .val (.int v24), .val (.int v33), .val (.int z47_s0), .val (.ref b27), .val (.int v72), .val (.int v81), .val (.int v90), .val (.int v109), .val (.int v118), .val (.int (1 : Int32)), .val (.int z135_s0), .val (.int (0 : Int32)), .unset, .unset] [])) _
            refine XS.iconst X48.here hx rfl (hb hby at_183) ?_
            show Steps p.tables e below (T48.setTop (mkF m 184 #[.val (.int p1), .val (.int p2), .val (.int p3), .val (.int p4), .val (.int p5), .val (.int v6), .val (.int v15), .val (.int v24), .val (.int v33), .val (.int z47_s0), .val (.ref b27), .val (.int v72), .val (.int v81), .val (.int v90), .val (.int v109), .val (.int v118), .val (.int (1 : Int32)), .val (.int z135_s0), .val (.int (0 : Int32)), .unset, .unset] [(.int (0 : Int32))])) _
            refine XS.istore X48.here hx rfl (hb hby at_184) rfl (l' := #[.val (.int p1), .val (.int p2), .val (.int p3), .val (.int p4), .val (.int p5), .val (.int v6), .val (.int v15), .val (.int v24), .val (.int v33), .val (.int z47_s0), .val (.ref b27), .val (.int v72), .val (.int v81), .val (.int v90), .val (.int v109), .val (.int v118), .val (.int (1 : Int32)), .val (.int z135_s0), .val (.int (0 : Int32)), .val (.int (0 : Int32)), .unset]) rfl ?_
            show Steps p.tables e below (T48.setTop (mkF m 186 #[.val (.int p1), .val (.int p2), .val (.int p3), .val (.int p4), .val (.int p5), .val (.int v6), .val (.int v15), .val (.int v24), .val (.int v33), .val (.int z47_s0), .val (.ref b27), .val (.int v72), .val (.int v81), .val (.int v90), .val (.int v109), .val (.int v118), .val (.int (1 : Int32)), .val (.int z135_s0), .val (.int (0 : Int32)), .val (.int (0 : Int32)), .unset] [])) _
            refine XS.iconst X48.here hx rfl (hb hby at_186) ?_
            show Steps p.tables e below (T48.setTop (mkF m 187 #[.val (.int p1), .val (.int p2), .val (.int p3), .val (.int p4), .val (.int p5), .val (.int v6), .val (.int v15), .val (.int v24), .val (.int v33), .val (.int z47_s0), .val (.ref b27), .val (.int v72), .val (.int v81), .val (.int v90), .val (.int v109), .val (.int v118), .val (.int (1 : Int32)), .val (.int z135_s0), .val (.int (0 : Int32)), .val (.int (0 : Int32)), .unset] [(.int (0 : Int32))])) _
            refine XS.istore X48.here hx rfl (hb hby at_187) rfl (l' := #[.val (.int p1), .val (.int p2), .val (.int p3), .val (.int p4), .val (.int p5), .val (.int v6), .val (.int v15), .val (.int v24), .val (.int v33), .val (.int z47_s0), .val (.ref b27), .val (.int v72), .val (.int v81), .val (.int v90), .val (.int v109), .val (.int v118), .val (.int (1 : Int32)), .val (.int z135_s0), .val (.int (0 : Int32)), .val (.int (0 : Int32)), .val (.int (0 : Int32))]) rfl ?_
            exact k)
          have q_z189_l19 : z189_l19 = (0 : Int32) := by rw [hz189_l19, if_pos hc142, if_neg hc169, if_pos hc176]
          have q_z189_l20 : z189_l20 = (0 : Int32) := by rw [hz189_l20, if_pos hc142]
          refine ⟨_, _, X48, e48, N48, fun t k => ?_⟩
          rw [q_z189_l19, q_z189_l20] at k
          exact pre53 t k
        ·
          have pre54 : ∀ t, Steps p.tables e below (T48.setTop (mkF m 189 #[.val (.int p1), .val (.int p2), .val (.int p3), .val (.int p4), .val (.int p5), .val (.int v6), .val (.int v15), .val (.int v24), .val (.int v33), .val (.int z47_s0), .val (.ref b27), .val (.int v72), .val (.int v81), .val (.int v90), .val (.int v109), .val (.int v118), .val (.int (1 : Int32)), .val (.int z135_s0), .val (.int (0 : Int32)), .val (.int (1 : Int32)), .val (.int (0 : Int32))] [])) t → Steps p.tables e below (s₁.setTop (entryFrame m #[(.int p1), (.int p2), (.int p3), (.int p4), (.int p5)] maxLocals)) t := fun t k => pre52 t (by
            show Steps p.tables e below (T48.setTop (mkF m 176 #[.val (.int p1), .val (.int p2), .val (.int p3), .val (.int p4), .val (.int p5), .val (.int v6), .val (.int v15), .val (.int v24), .val (.int v33), .val (.int z47_s0), .val (.ref b27), .val (.int v72), .val (.int v81), .val (.int v90), .val (.int v109), .val (.int v118), .val (.int (1 : Int32)), .val (.int z135_s0), .val (.int (0 : Int32)), .unset, .unset] [(.int v24), (.int v33)])) _
            refine XS.icmpNo X48.here hx rfl (hb hby at_176) rfl (feq hc176).1 ?_
            show Steps p.tables e below (T48.setTop (mkF m 179 #[.val (.int p1), .val (.int p2), .val (.int p3), .val (.int p4), .val (.int p5), .val (.int v6), .val (.int v15), .val (.int v24), .val (.int v33), .val (.int z47_s0), .val (.ref b27), .val (.int v72), .val (.int v81), .val (.int v90), .val (.int v109), .val (.int v118), .val (.int (1 : Int32)), .val (.int z135_s0), .val (.int (0 : Int32)), .unset, .unset] [])) _
            refine XS.iconst X48.here hx rfl (hb hby at_179) ?_
            show Steps p.tables e below (T48.setTop (mkF m 180 #[.val (.int p1), .val (.int p2), .val (.int p3), .val (.int p4), .val (.int p5), .val (.int v6), .val (.int v15), .val (.int v24), .val (.int v33), .val (.int z47_s0), .val (.ref b27), .val (.int v72), .val (.int v81), .val (.int v90), .val (.int v109), .val (.int v118), .val (.int (1 : Int32)), .val (.int z135_s0), .val (.int (0 : Int32)), .unset, .unset] [(.int (1 : Int32))])) _
            refine XS.goto X48.here hx rfl (pc0 := 180) (pc' := 184) rfl (hb hby at_180) (by decide) (by decide) ?_
            show Steps p.tables e below (T48.setTop (mkF m 184 #[.val (.int p1), .val (.int p2), .val (.int p3), .val (.int p4), .val (.int p5), .val (.int v6), .val (.int v15), .val (.int v24), .val (.int v33), .val (.int z47_s0), .val (.ref b27), .val (.int v72), .val (.int v81), .val (.int v90), .val (.int v109), .val (.int v118), .val (.int (1 : Int32)), .val (.int z135_s0), .val (.int (0 : Int32)), .unset, .unset] [(.int (1 : Int32))])) _
            refine XS.istore X48.here hx rfl (hb hby at_184) rfl (l' := #[.val (.int p1), .val (.int p2), .val (.int p3), .val (.int p4), .val (.int p5), .val (.int v6), .val (.int v15), .val (.int v24), .val (.int v33), .val (.int z47_s0), .val (.ref b27), .val (.int v72), .val (.int v81), .val (.int v90), .val (.int v109), .val (.int v118), .val (.int (1 : Int32)), .val (.int z135_s0), .val (.int (0 : Int32)), .val (.int (1 : Int32)), .unset]) rfl ?_
            show Steps p.tables e below (T48.setTop (mkF m 186 #[.val (.int p1), .val (.int p2), .val (.int p3), .val (.int p4), .val (.int p5), .val (.int v6), .val (.int v15), .val (.int v24), .val (.int v33), .val (.int z47_s0), .val (.ref b27), .val (.int v72), .val (.int v81), .val (.int v90), .val (.int v109), .val (.int v118), .val (.int (1 : Int32)), .val (.int z135_s0), .val (.int (0 : Int32)), .val (.int (1 : Int32)), .unset] [])) _
            refine XS.iconst X48.here hx rfl (hb hby at_186) ?_
            show Steps p.tables e below (T48.setTop (mkF m 187 #[.val (.int p1), .val (.int p2), .val (.int p3), .val (.int p4), .val (.int p5), .val (.int v6), .val (.int v15), .val (.int v24), .val (.int v33), .val (.int z47_s0), .val (.ref b27), .val (.int v72), .val (.int v81), .val (.int v90), .val (.int v109), .val (.int v118), .val (.int (1 : Int32)), .val (.int z135_s0), .val (.int (0 : Int32)), .val (.int (1 : Int32)), .unset] [(.int (0 : Int32))])) _
            refine XS.istore X48.here hx rfl (hb hby at_187) rfl (l' := #[.val (.int p1), .val (.int p2), .val (.int p3), .val (.int p4), .val (.int p5), .val (.int v6), .val (.int v15), .val (.int v24), .val (.int v33), .val (.int z47_s0), .val (.ref b27), .val (.int v72), .val (.int v81), .val (.int v90), .val (.int v109), .val (.int v118), .val (.int (1 : Int32)), .val (.int z135_s0), .val (.int (0 : Int32)), .val (.int (1 : Int32)), .val (.int (0 : Int32))]) rfl ?_
            exact k)
          have q_z189_l19 : z189_l19 = (1 : Int32) := by rw [hz189_l19, if_pos hc142, if_neg hc169, if_neg hc176]
          have q_z189_l20 : z189_l20 = (0 : Int32) := by rw [hz189_l20, if_pos hc142]
          refine ⟨_, _, X48, e48, N48, fun t k => ?_⟩
          rw [q_z189_l19, q_z189_l20] at k
          exact pre54 t k
    ·
      have pre55 : ∀ t, Steps p.tables e below (T48.setTop (mkF m 152 #[.val (.int p1), .val (.int p2), .val (.int p3), .val (.int p4), .val (.int p5), .val (.int v6), .val (.int v15), .val (.int v24), .val (.int v33), .val (.int z47_s0), .val (.ref b27), .val (.int v72), .val (.int v81), .val (.int v90), .val (.int v109), .val (.int v118), .val (.int (1 : Int32)), .val (.int z135_s0), .val (.int (0 : Int32)), .val (.int (1 : Int32)), .unset] [(.int v33), (.int v24)])) t → Steps p.tables e below (s₁.setTop (entryFrame m #[(.int p1), (.int p2), (.int p3), (.int p4), (.int p5)] maxLocals)) t := fun t k => pre49 t (by
        show Steps p.tables e below (T48.setTop (mkF m 142 #[.val (.int p1), .val (.int p2), .val (.int p3), .val (.int p4), .val (.int p5), .val (.int v6), .val (.int v15), .val (.int v24), .val (.int v33), .val (.int z47_s0), .val (.ref b27), .val (.int v72), .val (.int v81), .val (.int v90), .val (.int v109), .val (.int v118), .val (.int (1 : Int32)), .val (.int z135_s0), .val (.int (0 : Int32)), .unset, .unset] [(.int z47_s0)])) _
        refine XS.ifNo X48.here hx rfl (hb hby at_142) rfl ((if0 _ _).trans (feq hc142).1) ?_
        show Steps p.tables e below (T48.setTop (mkF m 145 #[.val (.int p1), .val (.int p2), .val (.int p3), .val (.int p4), .val (.int p5), .val (.int v6), .val (.int v15), .val (.int v24), .val (.int v33), .val (.int z47_s0), .val (.ref b27), .val (.int v72), .val (.int v81), .val (.int v90), .val (.int v109), .val (.int v118), .val (.int (1 : Int32)), .val (.int z135_s0), .val (.int (0 : Int32)), .unset, .unset] [])) _
        refine XS.iconst X48.here hx rfl (hb hby at_145) ?_
        show Steps p.tables e below (T48.setTop (mkF m 146 #[.val (.int p1), .val (.int p2), .val (.int p3), .val (.int p4), .val (.int p5), .val (.int v6), .val (.int v15), .val (.int v24), .val (.int v33), .val (.int z47_s0), .val (.ref b27), .val (.int v72), .val (.int v81), .val (.int v90), .val (.int v109), .val (.int v118), .val (.int (1 : Int32)), .val (.int z135_s0), .val (.int (0 : Int32)), .unset, .unset] [(.int (1 : Int32))])) _
        refine XS.istore X48.here hx rfl (hb hby at_146) rfl (l' := #[.val (.int p1), .val (.int p2), .val (.int p3), .val (.int p4), .val (.int p5), .val (.int v6), .val (.int v15), .val (.int v24), .val (.int v33), .val (.int z47_s0), .val (.ref b27), .val (.int v72), .val (.int v81), .val (.int v90), .val (.int v109), .val (.int v118), .val (.int (1 : Int32)), .val (.int z135_s0), .val (.int (0 : Int32)), .val (.int (1 : Int32)), .unset]) rfl ?_
        show Steps p.tables e below (T48.setTop (mkF m 148 #[.val (.int p1), .val (.int p2), .val (.int p3), .val (.int p4), .val (.int p5), .val (.int v6), .val (.int v15), .val (.int v24), .val (.int v33), .val (.int z47_s0), .val (.ref b27), .val (.int v72), .val (.int v81), .val (.int v90), .val (.int v109), .val (.int v118), .val (.int (1 : Int32)), .val (.int z135_s0), .val (.int (0 : Int32)), .val (.int (1 : Int32)), .unset] [])) _
        refine XS.iload X48.here hx rfl (hb hby at_148) rfl ?_
        show Steps p.tables e below (T48.setTop (mkF m 150 #[.val (.int p1), .val (.int p2), .val (.int p3), .val (.int p4), .val (.int p5), .val (.int v6), .val (.int v15), .val (.int v24), .val (.int v33), .val (.int z47_s0), .val (.ref b27), .val (.int v72), .val (.int v81), .val (.int v90), .val (.int v109), .val (.int v118), .val (.int (1 : Int32)), .val (.int z135_s0), .val (.int (0 : Int32)), .val (.int (1 : Int32)), .unset] [(.int v24)])) _
        refine XS.iload X48.here hx rfl (hb hby at_150) rfl ?_
        exact k)
      by_cases hc152 : v24 = v33
      ·
        have pre56 : ∀ t, Steps p.tables e below (T48.setTop (mkF m 189 #[.val (.int p1), .val (.int p2), .val (.int p3), .val (.int p4), .val (.int p5), .val (.int v6), .val (.int v15), .val (.int v24), .val (.int v33), .val (.int z47_s0), .val (.ref b27), .val (.int v72), .val (.int v81), .val (.int v90), .val (.int v109), .val (.int v118), .val (.int (1 : Int32)), .val (.int z135_s0), .val (.int (0 : Int32)), .val (.int (1 : Int32)), .val (.int (0 : Int32))] [])) t → Steps p.tables e below (s₁.setTop (entryFrame m #[(.int p1), (.int p2), (.int p3), (.int p4), (.int p5)] maxLocals)) t := fun t k => pre55 t (by
          show Steps p.tables e below (T48.setTop (mkF m 152 #[.val (.int p1), .val (.int p2), .val (.int p3), .val (.int p4), .val (.int p5), .val (.int v6), .val (.int v15), .val (.int v24), .val (.int v33), .val (.int z47_s0), .val (.ref b27), .val (.int v72), .val (.int v81), .val (.int v90), .val (.int v109), .val (.int v118), .val (.int (1 : Int32)), .val (.int z135_s0), .val (.int (0 : Int32)), .val (.int (1 : Int32)), .unset] [(.int v33), (.int v24)])) _
          refine XS.icmpYes X48.here hx rfl (pc0 := 152) (pc' := 159) rfl (hb hby at_152) rfl (teq hc152).1 (by decide) (by decide) ?_
          show Steps p.tables e below (T48.setTop (mkF m 159 #[.val (.int p1), .val (.int p2), .val (.int p3), .val (.int p4), .val (.int p5), .val (.int v6), .val (.int v15), .val (.int v24), .val (.int v33), .val (.int z47_s0), .val (.ref b27), .val (.int v72), .val (.int v81), .val (.int v90), .val (.int v109), .val (.int v118), .val (.int (1 : Int32)), .val (.int z135_s0), .val (.int (0 : Int32)), .val (.int (1 : Int32)), .unset] [])) _
          refine XS.iconst X48.here hx rfl (hb hby at_159) ?_
          show Steps p.tables e below (T48.setTop (mkF m 160 #[.val (.int p1), .val (.int p2), .val (.int p3), .val (.int p4), .val (.int p5), .val (.int v6), .val (.int v15), .val (.int v24), .val (.int v33), .val (.int z47_s0), .val (.ref b27), .val (.int v72), .val (.int v81), .val (.int v90), .val (.int v109), .val (.int v118), .val (.int (1 : Int32)), .val (.int z135_s0), .val (.int (0 : Int32)), .val (.int (1 : Int32)), .unset] [(.int (0 : Int32))])) _
          refine XS.istore X48.here hx rfl (hb hby at_160) rfl (l' := #[.val (.int p1), .val (.int p2), .val (.int p3), .val (.int p4), .val (.int p5), .val (.int v6), .val (.int v15), .val (.int v24), .val (.int v33), .val (.int z47_s0), .val (.ref b27), .val (.int v72), .val (.int v81), .val (.int v90), .val (.int v109), .val (.int v118), .val (.int (1 : Int32)), .val (.int z135_s0), .val (.int (0 : Int32)), .val (.int (1 : Int32)), .val (.int (0 : Int32))]) rfl ?_
          show Steps p.tables e below (T48.setTop (mkF m 162 #[.val (.int p1), .val (.int p2), .val (.int p3), .val (.int p4), .val (.int p5), .val (.int v6), .val (.int v15), .val (.int v24), .val (.int v33), .val (.int z47_s0), .val (.ref b27), .val (.int v72), .val (.int v81), .val (.int v90), .val (.int v109), .val (.int v118), .val (.int (1 : Int32)), .val (.int z135_s0), .val (.int (0 : Int32)), .val (.int (1 : Int32)), .val (.int (0 : Int32))] [])) _
          refine XS.goto X48.here hx rfl (pc0 := 162) (pc' := 189) rfl (hb hby at_162) (by decide) (by decide) ?_
          exact k)
        have q_z189_l19 : z189_l19 = (1 : Int32) := by rw [hz189_l19, if_neg hc142]
        have q_z189_l20 : z189_l20 = (0 : Int32) := by rw [hz189_l20, if_neg hc142, if_pos hc152]
        refine ⟨_, _, X48, e48, N48, fun t k => ?_⟩
        rw [q_z189_l19, q_z189_l20] at k
        exact pre56 t k
      ·
        have pre57 : ∀ t, Steps p.tables e below (T48.setTop (mkF m 189 #[.val (.int p1), .val (.int p2), .val (.int p3), .val (.int p4), .val (.int p5), .val (.int v6), .val (.int v15), .val (.int v24), .val (.int v33), .val (.int z47_s0), .val (.ref b27), .val (.int v72), .val (.int v81), .val (.int v90), .val (.int v109), .val (.int v118), .val (.int (1 : Int32)), .val (.int z135_s0), .val (.int (0 : Int32)), .val (.int (1 : Int32)), .val (.int (1 : Int32))] [])) t → Steps p.tables e below (s₁.setTop (entryFrame m #[(.int p1), (.int p2), (.int p3), (.int p4), (.int p5)] maxLocals)) t := fun t k => pre55 t (by
          show Steps p.tables e below (T48.setTop (mkF m 152 #[.val (.int p1), .val (.int p2), .val (.int p3), .val (.int p4), .val (.int p5), .val (.int v6), .val (.int v15), .val (.int v24), .val (.int v33), .val (.int z47_s0), .val (.ref b27), .val (.int v72), .val (.int v81), .val (.int v90), .val (.int v109), .val (.int v118), .val (.int (1 : Int32)), .val (.int z135_s0), .val (.int (0 : Int32)), .val (.int (1 : Int32)), .unset] [(.int v33), (.int v24)])) _
          refine XS.icmpNo X48.here hx rfl (hb hby at_152) rfl (feq hc152).1 ?_
          show Steps p.tables e below (T48.setTop (mkF m 155 #[.val (.int p1), .val (.int p2), .val (.int p3), .val (.int p4), .val (.int p5), .val (.int v6), .val (.int v15), .val (.int v24), .val (.int v33), .val (.int z47_s0), .val (.ref b27), .val (.int v72), .val (.int v81), .val (.int v90), .val (.int v109), .val (.int v118), .val (.int (1 : Int32)), .val (.int z135_s0), .val (.int (0 : Int32)), .val (.int (1 : Int32)), .unset] [])) _
          refine XS.iconst X48.here hx rfl (hb hby at_155) ?_
          show Steps p.tables e below (T48.setTop (mkF m 156 #[.val (.int p1), .val (.int p2), .val (.int p3), .val (.int p4), .val (.int p5), .val (.int v6), .val (.int v15), .val (.int v24), .val (.int v33), .val (.int z47_s0), .val (.ref b27), .val (.int v72), .val (.int v81), .val (.int v90), .val (.int v109), .val (.int v118), .val (.int (1 : Int32)), .val (.int z135_s0), .val (.int (0 : Int32)), .val (.int (1 : Int32)), .unset] [(.int (1 : Int32))])) _
          refine XS.goto X48.here hx rfl (pc0 := 156) (pc' := 160) rfl (hb hby at_156) (by decide) (by decide) ?_
          show Steps p.tables e below (T48.setTop (mkF m 160 #[.val (.int p1), .val (.int p2), .val (.int p3), .val (.int p4), .val (.int p5), .val (.int v6), .val (.int v15), .val (.int v24), .val (.int v33), .val (.int z47_s0), .val (.ref b27), .val (.int v72), .val (.int v81), .val (.int v90), .val (.int v109), .val (.int v118), .val (.int (1 : Int32)), .val (.int z135_s0), .val (.int (0 : Int32)), .val (.int (1 : Int32)), .unset] [(.int (1 : Int32))])) _
          refine XS.istore X48.here hx rfl (hb hby at_160) rfl (l' := #[.val (.int p1), .val (.int p2), .val (.int p3), .val (.int p4), .val (.int p5), .val (.int v6), .val (.int v15), .val (.int v24), .val (.int v33), .val (.int z47_s0), .val (.ref b27), .val (.int v72), .val (.int v81), .val (.int v90), .val (.int v109), .val (.int v118), .val (.int (1 : Int32)), .val (.int z135_s0), .val (.int (0 : Int32)), .val (.int (1 : Int32)), .val (.int (1 : Int32))]) rfl ?_
          show Steps p.tables e below (T48.setTop (mkF m 162 #[.val (.int p1), .val (.int p2), .val (.int p3), .val (.int p4), .val (.int p5), .val (.int v6), .val (.int v15), .val (.int v24), .val (.int v33), .val (.int z47_s0), .val (.ref b27), .val (.int v72), .val (.int v81), .val (.int v90), .val (.int v109), .val (.int v118), .val (.int (1 : Int32)), .val (.int z135_s0), .val (.int (0 : Int32)), .val (.int (1 : Int32)), .val (.int (1 : Int32))] [])) _
          refine XS.goto X48.here hx rfl (pc0 := 162) (pc' := 189) rfl (hb hby at_162) (by decide) (by decide) ?_
          exact k)
        have q_z189_l19 : z189_l19 = (1 : Int32) := by rw [hz189_l19, if_neg hc142]
        have q_z189_l20 : z189_l20 = (1 : Int32) := by rw [hz189_l20, if_neg hc142, if_neg hc152]
        refine ⟨_, _, X48, e48, N48, fun t k => ?_⟩
        rw [q_z189_l19, q_z189_l20] at k
        exact pre57 t k
  have pre59 : ∀ t, Steps p.tables e below (T58.setTop (mkF m 193 #[.val (.int p1), .val (.int p2), .val (.int p3), .val (.int p4), .val (.int p5), .val (.int v6), .val (.int v15), .val (.int v24), .val (.int v33), .val (.int z47_s0), .val (.ref b27), .val (.int v72), .val (.int v81), .val (.int v90), .val (.int v109), .val (.int v118), .val (.int (1 : Int32)), .val (.int z135_s0), .val (.int (0 : Int32)), .val (.int z189_l19), .val (.int z189_l20)] [(.int (1 : Int32)), (.int v72)])) t → Steps p.tables e below (s₁.setTop (entryFrame m #[(.int p1), (.int p2), (.int p3), (.int p4), (.int p5)] maxLocals)) t := fun t k => pre58 t (by
    show Steps p.tables e below (T58.setTop (mkF m 189 #[.val (.int p1), .val (.int p2), .val (.int p3), .val (.int p4), .val (.int p5), .val (.int v6), .val (.int v15), .val (.int v24), .val (.int v33), .val (.int z47_s0), .val (.ref b27), .val (.int v72), .val (.int v81), .val (.int v90), .val (.int v109), .val (.int v118), .val (.int (1 : Int32)), .val (.int z135_s0), .val (.int (0 : Int32)), .val (.int z189_l19), .val (.int z189_l20)] [])) _
    refine XS.iload X58.here hx rfl (hb hby at_189) rfl ?_
    show Steps p.tables e below (T58.setTop (mkF m 191 #[.val (.int p1), .val (.int p2), .val (.int p3), .val (.int p4), .val (.int p5), .val (.int v6), .val (.int v15), .val (.int v24), .val (.int v33), .val (.int z47_s0), .val (.ref b27), .val (.int v72), .val (.int v81), .val (.int v90), .val (.int v109), .val (.int v118), .val (.int (1 : Int32)), .val (.int z135_s0), .val (.int (0 : Int32)), .val (.int z189_l19), .val (.int z189_l20)] [(.int v72)])) _
    refine XS.iload X58.here hx rfl (hb hby at_191) rfl ?_
    exact k)
  obtain ⟨z229_s0, hz229_s0⟩ : ∃ z : Int32, z = (if v72 = (1 : Int32) then (if v81 = z135_s0 then (if v90 = (0 : Int32) then (if v109 = z189_l19 then (if v118 = z189_l20 then (1 : Int32) else (0 : Int32)) else (0 : Int32)) else (0 : Int32)) else (0 : Int32)) else (0 : Int32)) := ⟨_, rfl⟩
  obtain ⟨T70, Lc70, X70, e70, N70, pre70⟩ : ∃ (T' : State) (locs' : List Loc), Stand p l e room_1 s m #[(.int p1), (.int p2), (.int p3), (.int p4), (.int p5)] below meth c T' locs' 2 10 ∧ T'.heap = T43.heap ∧ Fr n0 locs' ∧ ∀ t, Steps p.tables e below (T'.setTop (mkF m 229 #[.val (.int p1), .val (.int p2), .val (.int p3), .val (.int p4), .val (.int p5), .val (.int v6), .val (.int v15), .val (.int v24), .val (.int v33), .val (.int z47_s0), .val (.ref b27), .val (.int v72), .val (.int v81), .val (.int v90), .val (.int v109), .val (.int v118), .val (.int (1 : Int32)), .val (.int z135_s0), .val (.int (0 : Int32)), .val (.int z189_l19), .val (.int z189_l20)] [(.int z229_s0)])) t → Steps p.tables e below (s₁.setTop (entryFrame m #[(.int p1), (.int p2), (.int p3), (.int p4), (.int p5)] maxLocals)) t := by
    by_cases hc193 : v72 = (1 : Int32)
    ·
      have pre60 : ∀ t, Steps p.tables e below (T58.setTop (mkF m 200 #[.val (.int p1), .val (.int p2), .val (.int p3), .val (.int p4), .val (.int p5), .val (.int v6), .val (.int v15), .val (.int v24), .val (.int v33), .val (.int z47_s0), .val (.ref b27), .val (.int v72), .val (.int v81), .val (.int v90), .val (.int v109), .val (.int v118), .val (.int (1 : Int32)), .val (.int z135_s0), .val (.int (0 : Int32)), .val (.int z189_l19), .val (.int z189_l20)] [(.int z135_s0), (.int v81)])) t → Steps p.tables e below (s₁.setTop (entryFrame m #[(.int p1), (.int p2), (.int p3), (.int p4), (.int p5)] maxLocals)) t := fun t k => pre59 t (by
        show Steps p.tables e below (T58.setTop (mkF m 193 #[.val (.int p1), .val (.int p2), .val (.int p3), .val (.int p4), .val (.int p5), .val (.int v6), .val (.int v15), .val (.int v24), .val (.int v33), .val (.int z47_s0), .val (.ref b27), .val (.int v72), .val (.int v81), .val (.int v90), .val (.int v109), .val (.int v118), .val (.int (1 : Int32)), .val (.int z135_s0), .val (.int (0 : Int32)), .val (.int z189_l19), .val (.int z189_l20)] [(.int (1 : Int32)), (.int v72)])) _
        refine XS.icmpNo X58.here hx rfl (hb hby at_193) rfl (teq hc193).2 ?_
        show Steps p.tables e below (T58.setTop (mkF m 196 #[.val (.int p1), .val (.int p2), .val (.int p3), .val (.int p4), .val (.int p5), .val (.int v6), .val (.int v15), .val (.int v24), .val (.int v33), .val (.int z47_s0), .val (.ref b27), .val (.int v72), .val (.int v81), .val (.int v90), .val (.int v109), .val (.int v118), .val (.int (1 : Int32)), .val (.int z135_s0), .val (.int (0 : Int32)), .val (.int z189_l19), .val (.int z189_l20)] [])) _
        refine XS.iload X58.here hx rfl (hb hby at_196) rfl ?_
        show Steps p.tables e below (T58.setTop (mkF m 198 #[.val (.int p1), .val (.int p2), .val (.int p3), .val (.int p4), .val (.int p5), .val (.int v6), .val (.int v15), .val (.int v24), .val (.int v33), .val (.int z47_s0), .val (.ref b27), .val (.int v72), .val (.int v81), .val (.int v90), .val (.int v109), .val (.int v118), .val (.int (1 : Int32)), .val (.int z135_s0), .val (.int (0 : Int32)), .val (.int z189_l19), .val (.int z189_l20)] [(.int v81)])) _
        refine XS.iload X58.here hx rfl (hb hby at_198) rfl ?_
        exact k)
      by_cases hc200 : v81 = z135_s0
      ·
        have pre61 : ∀ t, Steps p.tables e below (T58.setTop (mkF m 207 #[.val (.int p1), .val (.int p2), .val (.int p3), .val (.int p4), .val (.int p5), .val (.int v6), .val (.int v15), .val (.int v24), .val (.int v33), .val (.int z47_s0), .val (.ref b27), .val (.int v72), .val (.int v81), .val (.int v90), .val (.int v109), .val (.int v118), .val (.int (1 : Int32)), .val (.int z135_s0), .val (.int (0 : Int32)), .val (.int z189_l19), .val (.int z189_l20)] [(.int (0 : Int32)), (.int v90)])) t → Steps p.tables e below (s₁.setTop (entryFrame m #[(.int p1), (.int p2), (.int p3), (.int p4), (.int p5)] maxLocals)) t := fun t k => pre60 t (by
          show Steps p.tables e below (T58.setTop (mkF m 200 #[.val (.int p1), .val (.int p2), .val (.int p3), .val (.int p4), .val (.int p5), .val (.int v6), .val (.int v15), .val (.int v24), .val (.int v33), .val (.int z47_s0), .val (.ref b27), .val (.int v72), .val (.int v81), .val (.int v90), .val (.int v109), .val (.int v118), .val (.int (1 : Int32)), .val (.int z135_s0), .val (.int (0 : Int32)), .val (.int z189_l19), .val (.int z189_l20)] [(.int z135_s0), (.int v81)])) _
          refine XS.icmpNo X58.here hx rfl (hb hby at_200) rfl (teq hc200).2 ?_
          show Steps p.tables e below (T58.setTop (mkF m 203 #[.val (.int p1), .val (.int p2), .val (.int p3), .val (.int p4), .val (.int p5), .val (.int v6), .val (.int v15), .val (.int v24), .val (.int v33), .val (.int z47_s0), .val (.ref b27), .val (.int v72), .val (.int v81), .val (.int v90), .val (.int v109), .val (.int v118), .val (.int (1 : Int32)), .val (.int z135_s0), .val (.int (0 : Int32)), .val (.int z189_l19), .val (.int z189_l20)] [])) _
          refine XS.iload X58.here hx rfl (hb hby at_203) rfl ?_
          show Steps p.tables e below (T58.setTop (mkF m 205 #[.val (.int p1), .val (.int p2), .val (.int p3), .val (.int p4), .val (.int p5), .val (.int v6), .val (.int v15), .val (.int v24), .val (.int v33), .val (.int z47_s0), .val (.ref b27), .val (.int v72), .val (.int v81), .val (.int v90), .val (.int v109), .val (.int v118), .val (.int (1 : Int32)), .val (.int z135_s0), .val (.int (0 : Int32)), .val (.int z189_l19), .val (.int z189_l20)] [(.int v90)])) _
          refine XS.iload X58.here hx rfl (hb hby at_205) rfl ?_
          exact k)
        by_cases hc207 : v90 = (0 : Int32)
        ·
          have pre62 : ∀ t, Steps p.tables e below (T58.setTop (mkF m 214 #[.val (.int p1), .val (.int p2), .val (.int p3), .val (.int p4), .val (.int p5), .val (.int v6), .val (.int v15), .val (.int v24), .val (.int v33), .val (.int z47_s0), .val (.ref b27), .val (.int v72), .val (.int v81), .val (.int v90), .val (.int v109), .val (.int v118), .val (.int (1 : Int32)), .val (.int z135_s0), .val (.int (0 : Int32)), .val (.int z189_l19), .val (.int z189_l20)] [(.int z189_l19), (.int v109)])) t → Steps p.tables e below (s₁.setTop (entryFrame m #[(.int p1), (.int p2), (.int p3), (.int p4), (.int p5)] maxLocals)) t := fun t k => pre61 t (by
            show Steps p.tables e below (T58.setTop (mkF m 207 #[.val (.int p1), .val (.int p2), .val (.int p3), .val (.int p4), .val (.int p5), .val (.int v6), .val (.int v15), .val (.int v24), .val (.int v33), .val (.int z47_s0), .val (.ref b27), .val (.int v72), .val (.int v81), .val (.int v90), .val (.int v109), .val (.int v118), .val (.int (1 : Int32)), .val (.int z135_s0), .val (.int (0 : Int32)), .val (.int z189_l19), .val (.int z189_l20)] [(.int (0 : Int32)), (.int v90)])) _
            refine XS.icmpNo X58.here hx rfl (hb hby at_207) rfl (teq hc207).2 ?_
            show Steps p.tables e below (T58.setTop (mkF m 210 #[.val (.int p1), .val (.int p2), .val (.int p3), .val (.int p4), .val (.int p5), .val (.int v6), .val (.int v15), .val (.int v24), .val (.int v33), .val (.int z47_s0), .val (.ref b27), .val (.int v72), .val (.int v81), .val (.int v90), .val (.int v109), .val (.int v118), .val (.int (1 : Int32)), .val (.int z135_s0), .val (.int (0 : Int32)), .val (.int z189_l19), .val (.int z189_l20)] [])) _
            refine XS.iload X58.here hx rfl (hb hby at_210) rfl ?_
            show Steps p.tables e below (T58.setTop (mkF m 212 #[.val (.int p1), .val (.int p2), .val (.int p3), .val (.int p4), .val (.int p5), .val (.int v6), .val (.int v15), .val (.int v24), .val (.int v33), .val (.int z47_s0), .val (.ref b27), .val (.int v72), .val (.int v81), .val (.int v90), .val (.int v109), .val (.int v118), .val (.int (1 : Int32)), .val (.int z135_s0), .val (.int (0 : Int32)), .val (.int z189_l19), .val (.int z189_l20)] [(.int v109)])) _
            refine XS.iload X58.here hx rfl (hb hby at_212) rfl ?_
            exact k)
          by_cases hc214 : v109 = z189_l19
          ·
            have pre63 : ∀ t, Steps p.tables e below (T58.setTop (mkF m 221 #[.val (.int p1), .val (.int p2), .val (.int p3), .val (.int p4), .val (.int p5), .val (.int v6), .val (.int v15), .val (.int v24), .val (.int v33), .val (.int z47_s0), .val (.ref b27), .val (.int v72), .val (.int v81), .val (.int v90), .val (.int v109), .val (.int v118), .val (.int (1 : Int32)), .val (.int z135_s0), .val (.int (0 : Int32)), .val (.int z189_l19), .val (.int z189_l20)] [(.int z189_l20), (.int v118)])) t → Steps p.tables e below (s₁.setTop (entryFrame m #[(.int p1), (.int p2), (.int p3), (.int p4), (.int p5)] maxLocals)) t := fun t k => pre62 t (by
              show Steps p.tables e below (T58.setTop (mkF m 214 #[.val (.int p1), .val (.int p2), .val (.int p3), .val (.int p4), .val (.int p5), .val (.int v6), .val (.int v15), .val (.int v24), .val (.int v33), .val (.int z47_s0), .val (.ref b27), .val (.int v72), .val (.int v81), .val (.int v90), .val (.int v109), .val (.int v118), .val (.int (1 : Int32)), .val (.int z135_s0), .val (.int (0 : Int32)), .val (.int z189_l19), .val (.int z189_l20)] [(.int z189_l19), (.int v109)])) _
              refine XS.icmpNo X58.here hx rfl (hb hby at_214) rfl (teq hc214).2 ?_
              show Steps p.tables e below (T58.setTop (mkF m 217 #[.val (.int p1), .val (.int p2), .val (.int p3), .val (.int p4), .val (.int p5), .val (.int v6), .val (.int v15), .val (.int v24), .val (.int v33), .val (.int z47_s0), .val (.ref b27), .val (.int v72), .val (.int v81), .val (.int v90), .val (.int v109), .val (.int v118), .val (.int (1 : Int32)), .val (.int z135_s0), .val (.int (0 : Int32)), .val (.int z189_l19), .val (.int z189_l20)] [])) _
              refine XS.iload X58.here hx rfl (hb hby at_217) rfl ?_
              show Steps p.tables e below (T58.setTop (mkF m 219 #[.val (.int p1), .val (.int p2), .val (.int p3), .val (.int p4), .val (.int p5), .val (.int v6), .val (.int v15), .val (.int v24), .val (.int v33), .val (.int z47_s0), .val (.ref b27), .val (.int v72), .val (.int v81), .val (.int v90), .val (.int v109), .val (.int v118), .val (.int (1 : Int32)), .val (.int z135_s0), .val (.int (0 : Int32)), .val (.int z189_l19), .val (.int z189_l20)] [(.int v118)])) _
              refine XS.iload X58.here hx rfl (hb hby at_219) rfl ?_
              exact k)
            by_cases hc221 : v118 = z189_l20
            ·
              have pre64 : ∀ t, Steps p.tables e below (T58.setTop (mkF m 229 #[.val (.int p1), .val (.int p2), .val (.int p3), .val (.int p4), .val (.int p5), .val (.int v6), .val (.int v15), .val (.int v24), .val (.int v33), .val (.int z47_s0), .val (.ref b27), .val (.int v72), .val (.int v81), .val (.int v90), .val (.int v109), .val (.int v118), .val (.int (1 : Int32)), .val (.int z135_s0), .val (.int (0 : Int32)), .val (.int z189_l19), .val (.int z189_l20)] [(.int (1 : Int32))])) t → Steps p.tables e below (s₁.setTop (entryFrame m #[(.int p1), (.int p2), (.int p3), (.int p4), (.int p5)] maxLocals)) t := fun t k => pre63 t (by
                show Steps p.tables e below (T58.setTop (mkF m 221 #[.val (.int p1), .val (.int p2), .val (.int p3), .val (.int p4), .val (.int p5), .val (.int v6), .val (.int v15), .val (.int v24), .val (.int v33), .val (.int z47_s0), .val (.ref b27), .val (.int v72), .val (.int v81), .val (.int v90), .val (.int v109), .val (.int v118), .val (.int (1 : Int32)), .val (.int z135_s0), .val (.int (0 : Int32)), .val (.int z189_l19), .val (.int z189_l20)] [(.int z189_l20), (.int v118)])) _
                refine XS.icmpNo X58.here hx rfl (hb hby at_221) rfl (teq hc221).2 ?_
                show Steps p.tables e below (T58.setTop (mkF m 224 #[.val (.int p1), .val (.int p2), .val (.int p3), .val (.int p4), .val (.int p5), .val (.int v6), .val (.int v15), .val (.int v24), .val (.int v33), .val (.int z47_s0), .val (.ref b27), .val (.int v72), .val (.int v81), .val (.int v90), .val (.int v109), .val (.int v118), .val (.int (1 : Int32)), .val (.int z135_s0), .val (.int (0 : Int32)), .val (.int z189_l19), .val (.int z189_l20)] [])) _
                refine XS.iconst X58.here hx rfl (hb hby at_224) ?_
                show Steps p.tables e below (T58.setTop (mkF m 225 #[.val (.int p1), .val (.int p2), .val (.int p3), .val (.int p4), .val (.int p5), .val (.int v6), .val (.int v15), .val (.int v24), .val (.int v33), .val (.int z47_s0), .val (.ref b27), .val (.int v72), .val (.int v81), .val (.int v90), .val (.int v109), .val (.int v118), .val (.int (1 : Int32)), .val (.int z135_s0), .val (.int (0 : Int32)), .val (.int z189_l19), .val (.int z189_l20)] [(.int (1 : Int32))])) _
                refine XS.goto X58.here hx rfl (pc0 := 225) (pc' := 229) rfl (hb hby at_225) (by decide) (by decide) ?_
                exact k)
              have q_z229_s0 : z229_s0 = (1 : Int32) := by rw [hz229_s0, if_pos hc193, if_pos hc200, if_pos hc207, if_pos hc214, if_pos hc221]
              refine ⟨_, _, X58, e58, N58, fun t k => ?_⟩
              rw [q_z229_s0] at k
              exact pre64 t k
            ·
              have pre65 : ∀ t, Steps p.tables e below (T58.setTop (mkF m 229 #[.val (.int p1), .val (.int p2), .val (.int p3), .val (.int p4), .val (.int p5), .val (.int v6), .val (.int v15), .val (.int v24), .val (.int v33), .val (.int z47_s0), .val (.ref b27), .val (.int v72), .val (.int v81), .val (.int v90), .val (.int v109), .val (.int v118), .val (.int (1 : Int32)), .val (.int z135_s0), .val (.int (0 : Int32)), .val (.int z189_l19), .val (.int z189_l20)] [(.int (0 : Int32))])) t → Steps p.tables e below (s₁.setTop (entryFrame m #[(.int p1), (.int p2), (.int p3), (.int p4), (.int p5)] maxLocals)) t := fun t k => pre63 t (by
                show Steps p.tables e below (T58.setTop (mkF m 221 #[.val (.int p1), .val (.int p2), .val (.int p3), .val (.int p4), .val (.int p5), .val (.int v6), .val (.int v15), .val (.int v24), .val (.int v33), .val (.int z47_s0), .val (.ref b27), .val (.int v72), .val (.int v81), .val (.int v90), .val (.int v109), .val (.int v118), .val (.int (1 : Int32)), .val (.int z135_s0), .val (.int (0 : Int32)), .val (.int z189_l19), .val (.int z189_l20)] [(.int z189_l20), (.int v118)])) _
                refine XS.icmpYes X58.here hx rfl (pc0 := 221) (pc' := 228) rfl (hb hby at_221) rfl (feq hc221).2 (by decide) (by decide) ?_
                show Steps p.tables e below (T58.setTop (mkF m 228 #[.val (.int p1), .val (.int p2), .val (.int p3), .val (.int p4), .val (.int p5), .val (.int v6), .val (.int v15), .val (.int v24), .val (.int v33), .val (.int z47_s0), .val (.ref b27), .val (.int v72), .val (.int v81), .val (.int v90), .val (.int v109), .val (.int v118), .val (.int (1 : Int32)), .val (.int z135_s0), .val (.int (0 : Int32)), .val (.int z189_l19), .val (.int z189_l20)] [])) _
                refine XS.iconst X58.here hx rfl (hb hby at_228) ?_
                exact k)
              have q_z229_s0 : z229_s0 = (0 : Int32) := by rw [hz229_s0, if_pos hc193, if_pos hc200, if_pos hc207, if_pos hc214, if_neg hc221]
              refine ⟨_, _, X58, e58, N58, fun t k => ?_⟩
              rw [q_z229_s0] at k
              exact pre65 t k
          ·
            have pre66 : ∀ t, Steps p.tables e below (T58.setTop (mkF m 229 #[.val (.int p1), .val (.int p2), .val (.int p3), .val (.int p4), .val (.int p5), .val (.int v6), .val (.int v15), .val (.int v24), .val (.int v33), .val (.int z47_s0), .val (.ref b27), .val (.int v72), .val (.int v81), .val (.int v90), .val (.int v109), .val (.int v118), .val (.int (1 : Int32)), .val (.int z135_s0), .val (.int (0 : Int32)), .val (.int z189_l19), .val (.int z189_l20)] [(.int (0 : Int32))])) t → Steps p.tables e below (s₁.setTop (entryFrame m #[(.int p1), (.int p2), (.int p3), (.int p4), (.int p5)] maxLocals)) t := fun t k => pre62 t (by
              show Steps p.tables e below (T58.setTop (mkF m 214 #[.val (.int p1), .val (.int p2), .val (.int p3), .val (.int p4), .val (.int p5), .val (.int v6), .val (.int v15), .val (.int v24), .val (.int v33), .val (.int z47_s0), .val (.ref b27), .val (.int v72), .val (.int v81), .val (.int v90), .val (.int v109), .val (.int v118), .val (.int (1 : Int32)), .val (.int z135_s0), .val (.int (0 : Int32)), .val (.int z189_l19), .val (.int z189_l20)] [(.int z189_l19), (.int v109)])) _
              refine XS.icmpYes X58.here hx rfl (pc0 := 214) (pc' := 228) rfl (hb hby at_214) rfl (feq hc214).2 (by decide) (by decide) ?_
              show Steps p.tables e below (T58.setTop (mkF m 228 #[.val (.int p1), .val (.int p2), .val (.int p3), .val (.int p4), .val (.int p5), .val (.int v6), .val (.int v15), .val (.int v24), .val (.int v33), .val (.int z47_s0), .val (.ref b27), .val (.int v72), .val (.int v81), .val (.int v90), .val (.int v109), .val (.int v118), .val (.int (1 : Int32)), .val (.int z135_s0), .val (.int (0 : Int32)), .val (.int z189_l19), .val (.int z189_l20)] [])) _
              refine XS.iconst X58.here hx rfl (hb hby at_228) ?_
              exact k)
            have q_z229_s0 : z229_s0 = (0 : Int32) := by rw [hz229_s0, if_pos hc193, if_pos hc200, if_pos hc207, if_neg hc214]
            refine ⟨_, _, X58, e58, N58, fun t k => ?_⟩
            rw [q_z229_s0] at k
            exact pre66 t k
        ·
          have pre67 : ∀ t, Steps p.tables e below (T58.setTop (mkF m 229 #[.val (.int p1), .val (.int p2), .val (.int p3), .val (.int p4), .val (.int p5), .val (.int v6), .val (.int v15), .val (.int v24), .val (.int v33), .val (.int z47_s0), .val (.ref b27), .val (.int v72), .val (.int v81), .val (.int v90), .val (.int v109), .val (.int v118), .val (.int (1 : Int32)), .val (.int z135_s0), .val (.int (0 : Int32)), .val (.int z189_l19), .val (.int z189_l20)] [(.int (0 : Int32))])) t → Steps p.tables e below (s₁.setTop (entryFrame m #[(.int p1), (.int p2), (.int p3), (.int p4), (.int p5)] maxLocals)) t := fun t k => pre61 t (by
            show Steps p.tables e below (T58.setTop (mkF m 207 #[.val (.int p1), .val (.int p2), .val (.int p3), .val (.int p4), .val (.int p5), .val (.int v6), .val (.int v15), .val (.int v24), .val (.int v33), .val (.int z47_s0), .val (.ref b27), .val (.int v72), .val (.int v81), .val (.int v90), .val (.int v109), .val (.int v118), .val (.int (1 : Int32)), .val (.int z135_s0), .val (.int (0 : Int32)), .val (.int z189_l19), .val (.int z189_l20)] [(.int (0 : Int32)), (.int v90)])) _
            refine XS.icmpYes X58.here hx rfl (pc0 := 207) (pc' := 228) rfl (hb hby at_207) rfl (feq hc207).2 (by decide) (by decide) ?_
            show Steps p.tables e below (T58.setTop (mkF m 228 #[.val (.int p1), .val (.int p2), .val (.int p3), .val (.int p4), .val (.int p5), .val (.int v6), .val (.int v15), .val (.int v24), .val (.int v33), .val (.int z47_s0), .val (.ref b27), .val (.int v72), .val (.int v81), .val (.int v90), .val (.int v109), .val (.int v118), .val (.int (1 : Int32)), .val (.int z135_s0), .val (.int (0 : Int32)), .val (.int z189_l19), .val (.int z189_l20)] [])) _
            refine XS.iconst X58.here hx rfl (hb hby at_228) ?_
            exact k)
          have q_z229_s0 : z229_s0 = (0 : Int32) := by rw [hz229_s0, if_pos hc193, if_pos hc200, if_neg hc207]
          refine ⟨_, _, X58, e58, N58, fun t k => ?_⟩
          rw [q_z229_s0] at k
          exact pre67 t k
      ·
        have pre68 : ∀ t, Steps p.tables e below (T58.setTop (mkF m 229 #[.val (.int p1), .val (.int p2), .val (.int p3), .val (.int p4), .val (.int p5), .val (.int v6), .val (.int v15), .val (.int v24), .val (.int v33), .val (.int z47_s0), .val (.ref b27), .val (.int v72), .val (.int v81), .val (.int v90), .val (.int v109), .val (.int v118), .val (.int (1 : Int32)), .val (.int z135_s0), .val (.int (0 : Int32)), .val (.int z189_l19), .val (.int z189_l20)] [(.int (0 : Int32))])) t → Steps p.tables e below (s₁.setTop (entryFrame m #[(.int p1), (.int p2), (.int p3), (.int p4), (.int p5)] maxLocals)) t := fun t k => pre60 t (by
          show Steps p.tables e below (T58.setTop (mkF m 200 #[.val (.int p1), .val (.int p2), .val (.int p3), .val (.int p4), .val (.int p5), .val (.int v6), .val (.int v15), .val (.int v24), .val (.int v33), .val (.int z47_s0), .val (.ref b27), .val (.int v72), .val (.int v81), .val (.int v90), .val (.int v109), .val (.int v118), .val (.int (1 : Int32)), .val (.int z135_s0), .val (.int (0 : Int32)), .val (.int z189_l19), .val (.int z189_l20)] [(.int z135_s0), (.int v81)])) _
          refine XS.icmpYes X58.here hx rfl (pc0 := 200) (pc' := 228) rfl (hb hby at_200) rfl (feq hc200).2 (by decide) (by decide) ?_
          show Steps p.tables e below (T58.setTop (mkF m 228 #[.val (.int p1), .val (.int p2), .val (.int p3), .val (.int p4), .val (.int p5), .val (.int v6), .val (.int v15), .val (.int v24), .val (.int v33), .val (.int z47_s0), .val (.ref b27), .val (.int v72), .val (.int v81), .val (.int v90), .val (.int v109), .val (.int v118), .val (.int (1 : Int32)), .val (.int z135_s0), .val (.int (0 : Int32)), .val (.int z189_l19), .val (.int z189_l20)] [])) _
          refine XS.iconst X58.here hx rfl (hb hby at_228) ?_
          exact k)
        have q_z229_s0 : z229_s0 = (0 : Int32) := by rw [hz229_s0, if_pos hc193, if_neg hc200]
        refine ⟨_, _, X58, e58, N58, fun t k => ?_⟩
        rw [q_z229_s0] at k
        exact pre68 t k
    ·
      have pre69 : ∀ t, Steps p.tables e below (T58.setTop (mkF m 229 #[.val (.int p1), .val (.int p2), .val (.int p3), .val (.int p4), .val (.int p5), .val (.int v6), .val (.int v15), .val (.int v24), .val (.int v33), .val (.int z47_s0), .val (.ref b27), .val (.int v72), .val (.int v81), .val (.int v90), .val (.int v109), .val (.int v118), .val (.int (1 : Int32)), .val (.int z135_s0), .val (.int (0 : Int32)), .val (.int z189_l19), .val (.int z189_l20)] [(.int (0 : Int32))])) t → Steps p.tables e below (s₁.setTop (entryFrame m #[(.int p1), (.int p2), (.int p3), (.int p4), (.int p5)] maxLocals)) t := fun t k => pre59 t (by
        show Steps p.tables e below (T58.setTop (mkF m 193 #[.val (.int p1), .val (.int p2), .val (.int p3), .val (.int p4), .val (.int p5), .val (.int v6), .val (.int v15), .val (.int v24), .val (.int v33), .val (.int z47_s0), .val (.ref b27), .val (.int v72), .val (.int v81), .val (.int v90), .val (.int v109), .val (.int v118), .val (.int (1 : Int32)), .val (.int z135_s0), .val (.int (0 : Int32)), .val (.int z189_l19), .val (.int z189_l20)] [(.int (1 : Int32)), (.int v72)])) _
        refine XS.icmpYes X58.here hx rfl (pc0 := 193) (pc' := 228) rfl (hb hby at_193) rfl (feq hc193).2 (by decide) (by decide) ?_
        show Steps p.tables e below (T58.setTop (mkF m 228 #[.val (.int p1), .val (.int p2), .val (.int p3), .val (.int p4), .val (.int p5), .val (.int v6), .val (.int v15), .val (.int v24), .val (.int v33), .val (.int z47_s0), .val (.ref b27), .val (.int v72), .val (.int v81), .val (.int v90), .val (.int v109), .val (.int v118), .val (.int (1 : Int32)), .val (.int z135_s0), .val (.int (0 : Int32)), .val (.int z189_l19), .val (.int z189_l20)] [])) _
        refine XS.iconst X58.here hx rfl (hb hby at_228) ?_
        exact k)
      have q_z229_s0 : z229_s0 = (0 : Int32) := by rw [hz229_s0, if_neg hc193]
      refine ⟨_, _, X58, e58, N58, fun t k => ?_⟩
      rw [q_z229_s0] at k
      exact pre69 t k
  obtain rfl : z229_s0 = (1 : Int32) := own_law (own_rg hv6 hv15).1 (own_rg hv6 hv24).1 (own_rg hv6 hv33).1 hv72 hv81 hv90 hz102_F_list_b27 hv109 hv118 hz135_s0 hz189_l19 hz189_l20 hz229_s0
  obtain ⟨fs, hr, hrun, hended, hW, hsame⟩ := X70.leave (v := some (.int (1 : Int32))) (fun h => by rw [Bd.returns] at h; cases h)
  refine ⟨_, _, pre70 _ ?_, hrun, hended, _, _, rfl, ?_, ⟨_, rfl⟩, hW, hsame.mono (by decide) (by decide)⟩
  · show Steps p.tables e below (T70.setTop (mkF m 229 #[.val (.int p1), .val (.int p2), .val (.int p3), .val (.int p4), .val (.int p5), .val (.int v6), .val (.int v15), .val (.int v24), .val (.int v33), .val (.int z47_s0), .val (.ref b27), .val (.int v72), .val (.int v81), .val (.int v90), .val (.int v109), .val (.int v118), .val (.int (1 : Int32)), .val (.int z135_s0), .val (.int (0 : Int32)), .val (.int z189_l19), .val (.int z189_l20)] [(.int (1 : Int32))])) _
    exact retN X70 hx (t := .boolean) Bd.returns (by simp) (hb hby at_229) hr
  · show Q0 Z p1 p2 p3 p4 p5 h0 n0 _ T70.heap _
    rw [e70]
    exact ⟨rfl, N70⟩
set_option maxRecDepth 65536 in
set_option maxHeartbeats 40000000 in
theorem comes_1 {Post : Tables → Env → Array Value → State → Outcome → State → Prop} (hpost : ∀ tb e args s v u, (limb_1_1.after args s (.returned v) u = true ∧ limb_1_2.after args s (.returned v) u = true ∧ True) → FrameEnd s (.returned v) u (Jvm.fieldLocs frame_1_writes args s ++ Jvm.arrayLocs frame_1_arrays args s ++ Jvm.staticLocs frame_1_statics s) 16 128 → Post tb e args s (.returned v) u) :
    ArmFor flags0 classFile x code maxLocals ret World_1 tables_1 room_1 Calls_1 rest_1 Pre_1 Post := by
  intro l hfl _ _ p e ha hc hk s m args below hf hA hF happ hP
  obtain ⟨hcalls, hrest, hpre⟩ := hP
  obtain ⟨-, -, -, hnamed, -, -, -, hat⟩ := (Spec.applies_iff hf).mp happ
  obtain ⟨hg, hn⟩ := and_e (Cond.before_iff.mp (show (Jvm.Cond.and given_1 narrow_1).before args s = true from hpre))
  obtain ⟨hcount, ha0⟩ := and_e hg
  obtain ⟨ga0, gb0⟩ := and_e ha0
  obtain ⟨ga1, gb1⟩ := and_e gb0
  obtain ⟨ga2, gb2⟩ := and_e gb1
  obtain ⟨ga3, gb3⟩ := and_e gb2
  obtain ⟨w0, w1, w2, w3, w4, rfl⟩ : ∃ w0 w1 w2 w3 w4 : Value, args = #[w0, w1, w2, w3, w4] := by
    have hs : args.size = 5 := by simpa [Cond.value, given_1] using hcount
    obtain ⟨L⟩ := args
    match L, hs with
    | [w0, w1, w2, w3, w4], _ => exact ⟨w0, w1, w2, w3, w4, rfl⟩
  have hw := fun d (hd : d ∈ tables_1) => atoms_spec (ws := Jvm.Cond.code x code maxLocals ret :: tables_1) hat d (List.mem_cons_of_mem _ hd)
  have hfit : Fit s := fun {y c} hc i hi => by
    obtain ⟨ha, rfl⟩ := Array.getElem?_eq_some_iff.mp hc
    have q := List.all_eq_true.mp ((Array.all_eq_true_iff_forall_mem.mp hF) _ (Array.getElem_mem ha)) i (List.mem_range.mpr hi)
    simpa [Array.getElem?_eq_getElem hi] using q
  obtain ⟨i0, ei0⟩ := is_v ga0
  obtain rfl : w0 = (.int i0) := Option.some.inj ei0
  obtain ⟨i1, ei1⟩ := is_v ga1
  obtain rfl : w1 = (.int i1) := Option.some.inj ei1
  obtain ⟨i2, ei2⟩ := is_v ga2
  obtain rfl : w2 = (.int i2) := Option.some.inj ei2
  obtain ⟨i3, ei3⟩ := is_v ga3
  obtain rfl : w3 = (.int i3) := Option.some.inj ei3
  obtain ⟨i4, ei4⟩ := is_v gb3
  obtain rfl : w4 = (.int i4) := Option.some.inj ei4
  obtain ⟨n, o, h1, h2, h3, _, L, rfl, ⟨rfl, N⟩, hq⟩ := rm0 l s _ hw tables_1 i0 i1 i2 i3 i4 s.heap s.heap.size (Nat.le_refl _)  p e ha hc hk s m _ below hf ((Spec.applies_iff_loose hf).mp happ).1 ⟨rfl, State.Warmed39.refl s, rfl⟩ trivial
  refine ⟨n, _, h1, h2, h3, hpost _ _ _ _ _ _ ⟨Cond.after_iff.mpr rfl, Cond.after_iff.mpr (eq_i res_at (Term.int_eval (1)) rfl), trivial⟩ ⟨hq.1, hq.2.1, (hq.2.2.sift fun y hy => Or.inr (N y hy)).mono (by decide) (by decide)⟩⟩
theorem main_1_1 : Claimed_1_1 := comes_1 fun _ _ _ _ _ _ h hF => ⟨h.1, hF⟩
theorem main_1_2 : Claimed_1_2 := comes_1 fun _ _ _ _ _ _ h hF => ⟨h.2.1, hF⟩
end Jvm.Pilot.@@N@@
namespace Jvm.Pilot.@@N@@
open Jvm Jvm.ClassFile Sem Op Lib Jvm.Free Jvm.Stand Jvm.Pilot.@@N@@.Jvm.D
/-! MADE BY PROGRAM (witnessworld.py) out of the Statement's table words and the real class files: 9 classes; the members and pool entries that the words name. The judged class is class 1, her method 1. -/
namespace start1
open Jvm.ClassFile
def u (s : String) : CpInfo := .utf8 (stringToUtf16 s)
/-- a pool by its gaps: so many unusable entries, then the entry; so many at the end -/
def gap : Nat → List CpInfo → List CpInfo
  | 0, r => r
  | n + 1, r => .unusable :: gap n r
def poolList (es : List (Nat × CpInfo)) (last : Nat) : List CpInfo := es.foldr (fun e r => gap e.1 (e.2 :: r)) (gap last [])
def pool (es : List (Nat × CpInfo)) (last : Nat) : Array CpInfo := ⟨poolList es last⟩
def fileOf (pool : Array CpInfo) (this : Nat) (attrs : Array Attribute := #[]) (ms : Array MethodInfo := #[]) (fl : Nat := 33) (sup : Nat := 0) (ifs : Array Nat := #[]) (fds : Array FieldInfo := #[]) : ClassFile where
  minorVersion := 0
  majorVersion := 65
  constantPool := pool
  accessFlags := fl
  thisClass := this
  superClass := sup
  interfaces := ifs
  fields := fds
  methods := ms
  attributes := attrs
def plain (name : String) (sup : Option ClassId) : Class where
  name := name
  kind := .ordinary
  loader := none
  accessFlags := 33
  super := sup
  interfaces := #[]
  cf := none
  fields := #[]
  methods := #[]
  instanceTypes := #[]
  staticTypes := #[]
  resolved := #[]
  callSites := []
  init := .initialized
  statics := none
  mirror := none

def pool0 : Array CpInfo := pool [(5, u "<init>"), (0, u "()V"), (1, .class_ 10), (1, u "java/lang/Object")] 113

def k0c0 : Code := { maxStack := 0, maxLocals := 1, code := object_method_1_code, exceptionTable := #[], attributes := #[] }
def k0m0 : Method := { name := "<init>", desc := "()V", sig := { parameters := [], returnType := none }, accessFlags := 1, code := some k0c0 }
/-- java/lang/Object -/
def k0 : Class := { plain "java/lang/Object" none with
  accessFlags := 33
  interfaces := #[]
  cf := some (fileOf pool0 8 #[] #[{ accessFlags := 1, nameIndex := 5, descriptorIndex := 6, attributes := #[] }] 33 0 #[] #[])
  fields := #[]
  methods := #[k0m0]
  instanceTypes := #[]
  staticTypes := #[]
  resolved := Array.replicate 124 none
  statics := none }

def pool1 : Array CpInfo := pool [(2, .class_ 4), (1, u "java/lang/Object"), (0, u "<init>"), (0, u "()V"), (0, .integer 2147483647), (0, .class_ 9), (0, u "com/example/serialis/serialis/DerivedGraph$OncePerList"), (0, .methodref 8 11), (0, .nameAndType 5 12), (0, u "(I)V"), (0, .methodref 8 14), (0, .nameAndType 15 6), (0, u "start"), (0, .methodref 8 17), (0, .nameAndType 18 19), (0, u "add"), (0, u "(I)Z"), (0, .class_ 21), (0, u "com/example/serialis/serialis/OncePerListAddPinLaw"), (2, u "law"), (0, u "(IIIII)Z")] 7

def k1m0 : Method := { name := "<init>", desc := "()V", sig := { parameters := [], returnType := none }, accessFlags := 1, code := none }
def k1c1 : Code := { maxStack := 3, maxLocals := 21, code := code, exceptionTable := #[], attributes := #[] }
def k1m1 : Method := { name := "law", desc := "(IIIII)Z", sig := { parameters := [.int, .int, .int, .int, .int], returnType := some .boolean }, accessFlags := 9, code := some k1c1 }
/-- com/example/serialis/serialis/OncePerListAddPinLaw -/
def k1 : Class := { plain "com/example/serialis/serialis/OncePerListAddPinLaw" (some 0) with
  accessFlags := 49
  interfaces := #[]
  cf := some (fileOf pool1 20 #[] #[{ accessFlags := 1, nameIndex := 5, descriptorIndex := 6, attributes := #[] }, { accessFlags := 9, nameIndex := 24, descriptorIndex := 25, attributes := #[] }] 49 2 #[] #[])
  fields := #[]
  methods := #[k1m0, k1m1]
  instanceTypes := #[]
  staticTypes := #[]
  resolved := Array.replicate 33 none
  statics := none }

def pool2 : Array CpInfo := pool [(1, .methodref 2 3), (0, .class_ 4), (0, .nameAndType 5 6), (0, u "java/lang/Object"), (0, u "<init>"), (0, u "()V"), (0, .fieldref 8 9), (0, .class_ 10), (0, .nameAndType 11 12), (0, u "com/example/serialis/serialis/DerivedGraph$OncePerList"), (0, u "listed"), (0, u "[I"), (0, .fieldref 8 14), (0, .nameAndType 15 16), (0, u "list"), (0, u "I"), (2, .integer 2147483647), (8, u "add"), (0, u "(I)Z"), (5, u "(I)V"), (2, u "start"), (6, .class_ 46), (0, u "com/example/serialis/serialis/DerivedGraph")] 2

def k2c0 : Code := { maxStack := 2, maxLocals := 2, code := prog_17_method_1_code, exceptionTable := #[], attributes := #[] }
def k2m0 : Method := { name := "<init>", desc := "(I)V", sig := { parameters := [.int], returnType := none }, accessFlags := 0, code := some k2c0 }
def k2c1 : Code := { maxStack := 3, maxLocals := 1, code := prog_17_method_2_code, exceptionTable := #[], attributes := #[] }
def k2m1 : Method := { name := "start", desc := "()V", sig := { parameters := [], returnType := none }, accessFlags := 0, code := some k2c1 }
def k2c2 : Code := { maxStack := 3, maxLocals := 3, code := prog_17_method_4_code, exceptionTable := #[], attributes := #[] }
def k2m2 : Method := { name := "add", desc := "(I)Z", sig := { parameters := [.int], returnType := some .boolean }, accessFlags := 0, code := some k2c2 }
/-- com/example/serialis/serialis/DerivedGraph$OncePerList -/
def k2 : Class := { plain "com/example/serialis/serialis/DerivedGraph$OncePerList" (some 0) with
  accessFlags := 48
  interfaces := #[]
  cf := some (fileOf pool2 8 #[.nestHost 45] #[{ accessFlags := 0, nameIndex := 5, descriptorIndex := 35, attributes := #[] }, { accessFlags := 0, nameIndex := 38, descriptorIndex := 6, attributes := #[] }, { accessFlags := 0, nameIndex := 28, descriptorIndex := 29, attributes := #[] }] 48 2 #[] #[{ accessFlags := 18, nameIndex := 11, descriptorIndex := 12, attributes := #[] }, { accessFlags := 2, nameIndex := 15, descriptorIndex := 16, attributes := #[] }])
  fields := #[{ name := "listed", type := (.array .int), accessFlags := 18, slot := 0, constantValue := 0 }, { name := "list", type := .int, accessFlags := 2, slot := 1, constantValue := 0 }]
  methods := #[k2m0, k2m1, k2m2]
  instanceTypes := #[(.array .int), .int]
  staticTypes := #[]
  resolved := Array.replicate 49 none
  statics := none }

def pool3 : Array CpInfo := pool [(1, u "java/lang/Cloneable"), (0, .class_ 1), (0, u "java/lang/Object"), (0, .class_ 3)] 3

/-- java/lang/Cloneable -/
def k3 : Class := { plain "java/lang/Cloneable" (some 0) with
  accessFlags := 1537
  interfaces := #[]
  cf := some (fileOf pool3 2 #[] #[] 1537 4 #[] #[])
  fields := #[]
  methods := #[]
  instanceTypes := #[]
  staticTypes := #[]
  resolved := Array.replicate 8 none
  statics := none }

def pool4 : Array CpInfo := pool [(1, u "java/io/Serializable"), (0, .class_ 1), (0, u "java/lang/Object"), (0, .class_ 3)] 3

/-- java/io/Serializable -/
def k4 : Class := { plain "java/io/Serializable" (some 0) with
  accessFlags := 1537
  interfaces := #[]
  cf := some (fileOf pool4 2 #[] #[] 1537 4 #[] #[])
  fields := #[]
  methods := #[]
  instanceTypes := #[]
  staticTypes := #[]
  resolved := Array.replicate 8 none
  statics := none }

/-- the primitive byte -/
def k5 : Class := { plain "byte" none with kind := .primitive 'B', accessFlags := 0x411 }
/-- [B -/
def k6 : Class := { plain "[B" (some 0) with kind := .array 5 .byte, interfaces := #[3, 4], accessFlags := 1041 }

/-- the primitive int -/
def k7 : Class := { plain "int" none with kind := .primitive 'I', accessFlags := 0x411 }
/-- [I -/
def k8 : Class := { plain "[I" (some 0) with kind := .array 7 .int, interfaces := #[3, 4], accessFlags := 1041 }

def heap : Heap := #[]
def classes : Array Class := #[k0, k1, k2, k3, k4, k5, k6, k7, k8]
def interned : List (Array UInt16 × Addr) := []
def slotsUsed : Nat := 0
def theMethod : MethodId := ⟨1, 1⟩
def args0 : Array Value := #[.int 5, .int 300, .int 7, .int 1, .int 9]
def aboutOver (below : List Frame) : State where
  vm := { classes := classes, interned := interned.toArray }
  heap := heap
  slotsUsed := slotsUsed
  threads := #[{ frames := .invoking theMethod args0 :: below }]
def below0 : List Frame := [.native { method := ⟨0, 0⟩, args := #[] }]
def about1 : State := aboutOver below0
def p0 : Program := .bare "" "" ""
def e0 : Env := launch0.env 0 0 0
theorem w_frames : about1.frames = Frame.invoking theMethod args0 :: below0 := rfl
set_option maxRecDepth 65536 in
theorem w_args : argsFit about1.vm theMethod args0 = true := by decide +kernel
set_option maxRecDepth 65536 in
theorem w_heap : heapFits about1 = true := by decide +kernel
set_option maxRecDepth 65536 in
theorem w_runnable : about1.curStatus? = some .runnable := by decide +kernel
set_option maxRecDepth 65536 in
theorem w_alone : about1.alone = true := by decide +kernel
set_option maxRecDepth 65536 in
theorem w_named : about1.methodNamed? x = some theMethod := by decide +kernel
set_option maxRecDepth 65536 in
theorem w_hears : about1.hears theMethod below0 = true := by decide +kernel
set_option maxRecDepth 65536 in
theorem w_ripe : about1.ripe theMethod args0 below0 = true := by decide +kernel
theorem w_running : about1.status = .running := rfl
set_option maxRecDepth 65536 in
theorem w_room : about1.hasRoom e0.platform room_1 = true :=
  launch0.hasRoom_least _ room_1 (by decide +kernel) (by decide +kernel) (by decide +kernel) (by decide +kernel) (by decide +kernel) (by decide +kernel)
theorem allAtoms_all (ts : List Jvm.Cond) (a : Array Jvm.Value) (st : Jvm.State) : (allAtoms ts).before a st = ts.all (fun c => c.before a st) := by
  induction ts with
  | nil => rfl
  | cons c t ih =>
    show (Jvm.Cond.and c (allAtoms t)).before a st = _
    rw [Jvm.Cond.before_and, ih, List.all_cons]
def words1 : List Jvm.Cond := Jvm.Cond.code x code maxLocals ret :: tables_1
/-- a 'code' word, met by the world's own term for the bytes: nothing is compared byte by byte -/
theorem code_word {y : MethodName} {bytes : ByteArray} {mx : Nat} {rt : Option FieldType} {a : Array Value} {s : State} {m : MethodId} {meth : Method} {c : Code} (h1 : s.methodNamed? y = some m) (h2 : s.vm.method? m = some meth) (h3 : meth.code = some c) (h4 : c.code = bytes)
    (h5 : (c.maxLocals == mx && c.exceptionTable.isEmpty && decide (c.maxStack ≤ mostOperands) && decide (meth.sig.returnType = rt) && !meth.locks && decide (parseMethodDescriptor y.desc = some meth.sig)) = true) : (Jvm.Cond.code y bytes mx rt).before a s = true := by
  simp only [Bool.and_eq_true, beq_iff_eq, Bool.not_eq_true', decide_eq_true_eq] at h5
  obtain ⟨⟨⟨⟨⟨g1, g2⟩, g3⟩, g4⟩, g5⟩, g6⟩ := h5
  simp [Cond.before, Cond.holds, Cond.value, h1, h2, h3, h4, g1, g2, g3, g4, g5, g6]
def isCode : Jvm.Cond → Bool
  | .code _ _ _ _ => true
  | _ => false
theorem all_split {L : List Jvm.Cond} {P : Jvm.Cond → Bool} (h1 : L.all (fun c => isCode c || P c) = true) (h2 : ∀ c ∈ L.filter isCode, P c = true) : L.all P = true := by
  refine List.all_eq_true.mpr fun c hc => ?_
  have h := List.all_eq_true.mp h1 c hc
  rcases Bool.eq_false_or_eq_true (isCode c) with hi | hi
  · exact h2 c (List.mem_filter.mpr ⟨hc, hi⟩)
  · simpa [hi] using h
set_option maxRecDepth 65536 in
theorem w_c0 : (Jvm.Cond.code x code maxLocals ret).before args0 about1 = true := code_word (m := ⟨1, 1⟩) (meth := k1m1) (c := k1c1) (by decide +kernel) rfl rfl rfl (by decide +kernel)
set_option maxRecDepth 65536 in
theorem w_c1 : (Jvm.Cond.code ({ cls := "com/example/serialis/serialis/DerivedGraph$OncePerList", name := "<init>", desc := "(I)V" } : Jvm.MethodName) prog_17_method_1_code (2 : Nat) (Option.none : Option Jvm.ClassFile.FieldType)).before args0 about1 = true := code_word (m := ⟨2, 0⟩) (meth := k2m0) (c := k2c0) (by decide +kernel) rfl rfl rfl (by decide +kernel)
set_option maxRecDepth 65536 in
theorem w_c2 : (Jvm.Cond.code ({ cls := "java/lang/Object", name := "<init>", desc := "()V" } : Jvm.MethodName) object_method_1_code (1 : Nat) (Option.none : Option Jvm.ClassFile.FieldType)).before args0 about1 = true := code_word (m := ⟨0, 0⟩) (meth := k0m0) (c := k0c0) (by decide +kernel) rfl rfl rfl (by decide +kernel)
set_option maxRecDepth 65536 in
theorem w_c3 : (Jvm.Cond.code ({ cls := "com/example/serialis/serialis/DerivedGraph$OncePerList", name := "start", desc := "()V" } : Jvm.MethodName) prog_17_method_2_code (1 : Nat) (Option.none : Option Jvm.ClassFile.FieldType)).before args0 about1 = true := code_word (m := ⟨2, 1⟩) (meth := k2m1) (c := k2c1) (by decide +kernel) rfl rfl rfl (by decide +kernel)
set_option maxRecDepth 65536 in
theorem w_c4 : (Jvm.Cond.code ({ cls := "com/example/serialis/serialis/DerivedGraph$OncePerList", name := "add", desc := "(I)Z" } : Jvm.MethodName) prog_17_method_4_code (3 : Nat) (Option.some Jvm.ClassFile.FieldType.boolean)).before args0 about1 = true := code_word (m := ⟨2, 2⟩) (meth := k2m2) (c := k2c2) (by decide +kernel) rfl rfl rfl (by decide +kernel)
def codes1 : List Jvm.Cond := [Jvm.Cond.code x code maxLocals ret, Jvm.Cond.code ({ cls := "com/example/serialis/serialis/DerivedGraph$OncePerList", name := "<init>", desc := "(I)V" } : Jvm.MethodName) prog_17_method_1_code (2 : Nat) (Option.none : Option Jvm.ClassFile.FieldType), Jvm.Cond.code ({ cls := "java/lang/Object", name := "<init>", desc := "()V" } : Jvm.MethodName) object_method_1_code (1 : Nat) (Option.none : Option Jvm.ClassFile.FieldType), Jvm.Cond.code ({ cls := "com/example/serialis/serialis/DerivedGraph$OncePerList", name := "start", desc := "()V" } : Jvm.MethodName) prog_17_method_2_code (1 : Nat) (Option.none : Option Jvm.ClassFile.FieldType), Jvm.Cond.code ({ cls := "com/example/serialis/serialis/DerivedGraph$OncePerList", name := "add", desc := "(I)Z" } : Jvm.MethodName) prog_17_method_4_code (3 : Nat) (Option.some Jvm.ClassFile.FieldType.boolean)]
set_option maxRecDepth 65536 in
theorem codes_eq : words1.filter isCode = codes1 := rfl
theorem w_codes : ∀ c ∈ words1.filter isCode, c.before args0 about1 = true := by
  rw [codes_eq]
  intro c hc
  simp only [codes1, List.mem_cons, List.not_mem_nil, or_false] at hc
  rcases hc with rfl | rfl | rfl | rfl | rfl
  · exact w_c0
  · exact w_c1
  · exact w_c2
  · exact w_c3
  · exact w_c4
set_option maxRecDepth 65536 in
theorem w_t1 : (words1.take 24).all (fun c => isCode c || c.before args0 about1) = true := by decide +kernel
set_option maxRecDepth 65536 in
theorem w_t2 : (words1.drop 24).all (fun c => isCode c || c.before args0 about1) = true := by decide +kernel
theorem w_tables : (allAtoms (Jvm.Cond.code x code maxLocals ret :: tables_1)).before args0 about1 = true := by
  rw [allAtoms_all]
  show words1.all (fun c => c.before args0 about1) = true
  refine all_split ?_ w_codes
  rw [← List.take_append_drop 24 words1, List.all_append, w_t1, w_t2]
  rfl
set_option maxRecDepth 65536 in
theorem w_case : (Jvm.Cond.and given_1 narrow_1).before args0 about1 = true := by decide +kernel
theorem w_applies : (headSpec (Jvm.Cond.code x code maxLocals ret :: tables_1) room_1).applies x e0.platform about1 = true :=
  (Spec.applies_iff w_frames).mpr ⟨w_running, w_runnable, w_alone, w_named, w_hears, w_ripe, w_room, w_tables⟩
theorem atStart : AtStart classFile x code maxLocals ret World_1 tables_1 room_1 Calls_1 rest_1 Pre_1 launch0 p0 e0 about1 theMethod args0 below0 :=
  ⟨lists_1, trivial, launch0.admits_env _ _ _, launch0.least_env, fairChoices_fair.cas, fairChoices_fair.clock, w_frames, w_args, w_heap, w_applies, trivial, trivial, w_case⟩
end start1
theorem witness_1 : WitnessClaimed_1 := ⟨start1.p0, start1.e0, start1.about1, start1.theMethod, start1.args0, start1.below0, start1.atStart⟩
end Jvm.Pilot.@@N@@
